import JvmDerived
import JvmDerived.Pilot.@@N@@Statement
import JvmDerived.Pilot.@@N@@Code
set_option linter.unusedVariables false
set_option linter.unusedSimpArgs false
namespace Jvm.Pilot.@@N@@
open Jvm Jvm.ClassFile Sem Op Lib Jvm.Free Jvm.Stand Jvm.LawKit Jvm.RoadKit Bundle Jvm.Pilot.@@N@@.Jvm.D
section OwnKit
variable {p : Program} {l : Launch} {e : Env} {R : Room} {s : State} {m : MethodId} {args : Array Value} {below : List Frame} {meth : Method} {c : Code} {T : State} {locs : List Loc} {cells slots : Nat} {Z : State} {a0 : Array Value} {h : Heap}
/-- from S on the run comes to the method's end, and there K holds -/
def own_Fin (p : Program) (e : Env) (below : List Frame) (K : State → Outcome → Prop) (S : State) : Prop :=
  ∃ s₂ o, Steps p.tables e below S s₂ ∧ s₂.status = .running ∧ Ended s₂ below o ∧ K s₂ o
theorem own_step {K : State → Outcome → Prop} {S S' : State} (k : ∀ t, Steps p.tables e below S' t → Steps p.tables e below S t) (hF : own_Fin p e below K S') : own_Fin p e below K S := by
  obtain ⟨s₂, o, h1, r⟩ := hF
  exact ⟨s₂, o, k _ h1, r⟩
/-- the three ends: nothing interned; perhaps a literal loaded, the invariant kept; the law's own -/
abbrev own_K (s : State) (Q : Option Value → Heap → List Loc → Prop) (rc rs : Nat) : State → Outcome → Prop := fun s₂ o => ∃ v L, o = .returned v ∧ Q v s₂.heap L ∧ FrameEnd s o s₂ L rc rs
abbrev own_KW (Z : State) (EL : List (String × Nat)) (s : State) (Q : Option Value → Heap → List Loc → Prop) (rc rs : Nat) : State → Outcome → Prop := fun s₂ o => ∃ v L, o = .returned v ∧ Q v s₂.heap L ∧ CHr Z EL s.vm s.heap s₂.vm s₂.heap ∧ ReturnedEndW s o s₂ L rc rs
abbrev own_KL (s : State) (Q : Option Value → Heap → List Loc → Prop) (rc rs : Nat) : State → Outcome → Prop := fun s₂ o => ∃ v L, o = .returned v ∧ Q v s₂.heap L ∧ ReturnedEndW s o s₂ L rc rs
abbrev own_Met (l : Launch) (y : MethodName) (bytes : ByteArray) (maxL : Nat) (ret : Option FieldType) (ws : List Jvm.Cond) (rm : Room) (Z : State) (as' : Array Value) (h0 : Heap) (Q : Option Value → Heap → List Loc → Prop) : Prop :=
  MetFree l y (head1 (Jvm.Cond.code y bytes maxL ret :: ws) rm) (fun a U => a = as' ∧ Z.Warmed39 U.vm ∧ U.heap = h0) (fun _ _ _ _ _ => True) (fun _ U o U' => ∃ v L, o = .returned v ∧ Q v U'.heap L ∧ FrameEnd U o U' L rm.cells rm.slots)
abbrev own_MetW (l : Launch) (y : MethodName) (bytes : ByteArray) (maxL : Nat) (ret : Option FieldType) (ws : List Jvm.Cond) (rm : Room) (Z : State) (EL : List (String × Nat)) (as' : Array Value) (h0 : Heap) (Q : Option Value → Heap → List Loc → Prop) : Prop :=
  MetFree l y (head1 (Jvm.Cond.code y bytes maxL ret :: ws) rm) (fun a U => a = as' ∧ Z.Warmed39 U.vm ∧ U.heap = h0 ∧ CHv Z EL U.vm h0) (fun _ _ _ _ _ => True) (fun _ U o U' => ∃ v L, o = .returned v ∧ Q v U'.heap L ∧ CHr Z EL U.vm U.heap U'.vm U'.heap ∧ ReturnedEndW U o U' L rm.cells rm.slots)
abbrev own_MetL (l : Launch) (y : MethodName) (bytes : ByteArray) (maxL : Nat) (ret : Option FieldType) (ws : List Jvm.Cond) (rm : Room) (Z : State) (EL : List (String × Nat)) (as' : Array Value) (h0 : Heap) (Q : Option Value → Heap → List Loc → Prop) : Prop :=
  MetFree l y (head1 (Jvm.Cond.code y bytes maxL ret :: ws) rm) (fun a U => a = as' ∧ Z.Warmed39 U.vm ∧ U.heap = h0 ∧ CHv Z EL U.vm h0) (fun _ _ _ _ _ => True) (fun _ U o U' => ∃ v L, o = .returned v ∧ Q v U'.heap L ∧ ReturnedEndW U o U' L rm.cells rm.slots)
section Bodies
variable {y : MethodName} {bytes : ByteArray} {maxL : Nat} {ret : Option FieldType} {ws : List Jvm.Cond} {rm : Room} {as' : Array Value} {h0 : Heap} {Q : Option Value → Heap → List Loc → Prop} {EL : List (String × Nat)}
theorem own_body (hy : plainFor y = true)
    (hB : ∀ (p : Program) (e : Env) (s : State) (m : MethodId) (below : List Frame) (meth : Method) (c : Code) (s₁ : State), Stand p l e rm s m as' below meth c s₁ [] 0 0 → p.tables.exec = Jvm.exec → c.code = bytes → c.maxLocals = maxL → s.vm.findClass y.cls = some m.cls → meth.name = y.name → meth.sig.returnType = ret → meth.locks = false → Z.Warmed39 s.vm → s₁.heap = h0 →
      own_Fin p e below (own_K s Q rm.cells rm.slots) (s₁.setTop (entryFrame m as' maxL))) : own_Met l y bytes maxL ret ws rm Z as' h0 Q := by
  refine MetFree.of_bodySF hy hisR ?_
  intro p e s m args below meth c s₁ Bd hml0 hP hK
  obtain ⟨rfl, hZ, hh⟩ := hP
  exact hB p e s m below meth c s₁ (Stand.of_body Bd) Bd.exec Bd.bytes hml0 (findClass_of_methodNamed Bd.named) (name_of_methodNamed Bd.named Bd.method).1 Bd.returns Bd.notSynchronized hZ (by rw [← hh, Bd.state]; rfl)
theorem own_bodyW (hy : plainFor y = true)
    (hB : ∀ (p : Program) (e : Env) (s : State) (m : MethodId) (below : List Frame) (meth : Method) (c : Code) (s₁ : State), Stand p l e rm (s.setVm s.vm) m as' below meth c s₁ [] 0 0 → p.tables.exec = Jvm.exec → c.code = bytes → c.maxLocals = maxL → (s.setVm s.vm).vm.findClass y.cls = some m.cls → meth.name = y.name → meth.sig.returnType = ret → meth.locks = false → Z.Warmed39 (s.setVm s.vm).vm → s₁.heap = h0 → s.heap = h0 → CHv Z EL s.vm h0 → s.Since s.vm h0.size →
      own_Fin p e below (own_KW Z EL s Q rm.cells rm.slots) (s₁.setTop (entryFrame m as' maxL))) : own_MetW l y bytes maxL ret ws rm Z EL as' h0 Q := by
  refine MetFree.of_bodySF hy hisR ?_
  intro p e s m args below meth c s₁ Bd hml0 hP hK
  obtain ⟨rfl, hZ, hh, hC⟩ := hP
  exact hB p e s m below meth c s₁ (Stand.of_body Bd) Bd.exec Bd.bytes hml0 (findClass_of_methodNamed Bd.named) (name_of_methodNamed Bd.named Bd.method).1 Bd.returns Bd.notSynchronized hZ (by rw [← hh, Bd.state]; rfl) hh hC ((State.WarmedH.refl s).since _)
theorem own_bodyL (hy : plainFor y = true)
    (hB : ∀ (p : Program) (e : Env) (s : State) (m : MethodId) (below : List Frame) (meth : Method) (c : Code) (s₁ : State), Stand p l e rm (s.setVm s.vm) m as' below meth c s₁ [] 0 0 → p.tables.exec = Jvm.exec → c.code = bytes → c.maxLocals = maxL → (s.setVm s.vm).vm.findClass y.cls = some m.cls → meth.name = y.name → meth.sig.returnType = ret → meth.locks = false → Z.Warmed39 (s.setVm s.vm).vm → s₁.heap = h0 → s.heap = h0 → CHv Z EL s.vm h0 → s.Since s.vm h0.size →
      own_Fin p e below (own_KL s Q rm.cells rm.slots) (s₁.setTop (entryFrame m as' maxL))) : own_MetL l y bytes maxL ret ws rm Z EL as' h0 Q := by
  refine MetFree.of_bodySF hy hisR ?_
  intro p e s m args below meth c s₁ Bd hml0 hP hK
  obtain ⟨rfl, hZ, hh, hC⟩ := hP
  exact hB p e s m below meth c s₁ (Stand.of_body Bd) Bd.exec Bd.bytes hml0 (findClass_of_methodNamed Bd.named) (name_of_methodNamed Bd.named Bd.method).1 Bd.returns Bd.notSynchronized hZ (by rw [← hh, Bd.state]; rfl) hh hC ((State.WarmedH.refl s).since _)
end Bodies
section Ends
variable {K : State → Outcome → Prop} {Q : Option Value → Heap → List Loc → Prop} {rc rs : Nat} {v : Option Value} {EL : List (String × Nat)} {vm0 : Vm} {k0 : Nat}
/-- what an end must show -/
abbrev own_E (s : State) (T : State) (locs : List Loc) (cells slots : Nat) (v : Option Value) (K : State → Outcome → Prop) : Prop := ∀ fs, s.WarmedH (T.setFrames fs).vm → s.sameButNew ({ T.setFrames fs with vm := s.vm } : State) locs cells slots → K (T.setFrames fs) (.returned v)
theorem own_kN (hc : cells ≤ rc) (hs : slots ≤ rs) (hQ : Q v T.heap locs) : own_E s T locs cells slots v (own_K s Q rc rs) := fun fs hW hsm => ⟨_, _, rfl, hQ, ⟨_, rfl⟩, hW, hsm.mono hc hs⟩
theorem own_kL (hS : s.Since vm0 k0) (hk : k0 ≤ T.heap.size) (hc : cells ≤ rc) (hs : slots ≤ rs) (hQ : Q v T.heap locs) : own_E (s.setVm vm0) T locs cells slots v (own_KL s Q rc rs) := fun fs hW hsm => by
  obtain ⟨a, b, c'⟩ := hS.ended (U := T.setFrames fs) hW hk hsm
  exact ⟨_, _, rfl, hQ, ⟨_, rfl⟩, a, b, c'.mono hc hs⟩
theorem own_kW (X : Stand p l e R (s.setVm vm0) m args below meth c T locs cells slots) (hZ : Z.Warmed39 vm0) (hEL : EW Z a0 EL) (hC : CHr Z EL s.vm s.heap vm0 T.heap) (hS : s.Since vm0 k0) (hk : k0 ≤ T.heap.size) (hc : cells ≤ rc) (hs : slots ≤ rs) (hQ : Q v T.heap locs) : own_E (s.setVm vm0) T locs cells slots v (own_KW Z EL s Q rc rs) := fun fs hW hsm => by
  obtain ⟨a, b, c'⟩ := hS.ended (U := T.setFrames fs) hW hk hsm
  exact ⟨_, _, rfl, hQ, hC.trans (show CHr Z EL vm0 T.heap T.vm T.heap from CHv.at X hZ hEL hC.1), ⟨_, rfl⟩, a, b, c'.mono hc hs⟩
theorem own_ret {S : State} (X : Stand p l e R s m args below meth c T locs cells slots) (hlk : meth.locks = false) (hv : meth.sig.returnType = none → v = none)
    (hst : ∀ fs, (∀ (f : JFrame) (acts : List Action), f.method = m → f.locked = none → f.entered = [] → (doReturn e (T.setTop f) acts v).1 = T.setFrames fs) → Steps p.tables e below S (T.setFrames fs))
    (hK : own_E s T locs cells slots v K) : own_Fin p e below K S := by
  obtain ⟨fs, hr, hrun, hended, hW, hsame⟩ := X.leave (v := v) hv hlk
  exact ⟨_, _, hst fs hr, hrun, hended, hK fs hW hsame⟩
variable {pc : Nat} {Ls : Array Slot}
theorem own_retV (X : Stand p l e R s m args below meth c T locs cells slots) (hx : p.tables.exec = Jvm.exec) (hlk : meth.locks = false) (hret : meth.sig.returnType = none) (hd : decode c.code pc = .ok (.return_, 1)) (hK : own_E s T locs cells slots none K) : own_Fin p e below K (T.setTop (mkF m pc Ls [])) :=
  own_ret X hlk (fun _ => rfl) (fun fs hr => X.returnOut hx hret hd hr) hK
theorem own_retI {z : Int32} (X : Stand p l e R s m args below meth c T locs cells slots) (hx : p.tables.exec = Jvm.exec) (hlk : meth.locks = false) (hret : meth.sig.returnType = some .int) (hd : decode c.code pc = .ok (.ireturn, 1)) (hK : own_E s T locs cells slots (some (.int z)) K) : own_Fin p e below K (T.setTop (mkF m pc Ls [.int z])) :=
  own_ret X hlk (fun q => by rw [hret] at q; cases q) (fun fs hr => retOut X hx hret rfl (Or.inl ⟨rfl, Or.inl rfl, z, rfl⟩) hd hr) hK
theorem own_retL {z : Int64} (X : Stand p l e R s m args below meth c T locs cells slots) (hx : p.tables.exec = Jvm.exec) (hlk : meth.locks = false) (hret : meth.sig.returnType = some .long) (hd : decode c.code pc = .ok (.lreturn, 1)) (hK : own_E s T locs cells slots (some (.long z)) K) : own_Fin p e below K (T.setTop (mkF m pc Ls [.long z])) :=
  own_ret X hlk (fun q => by rw [hret] at q; cases q) (fun fs hr => retOut X hx hret rfl (Or.inr (Or.inl ⟨rfl, rfl, z, rfl⟩)) hd hr) hK
theorem own_retA {w : Value} {t : FieldType} (X : Stand p l e R s m args below meth c T locs cells slots) (hx : p.tables.exec = Jvm.exec) (hlk : meth.locks = false) (hret : meth.sig.returnType = some t) (ht : t.isReference = true) (hn : narrow t w = w) (hw : w.isRef = true) (hd : decode c.code pc = .ok (.areturn, 1)) (hK : own_E s T locs cells slots (some w) K) : own_Fin p e below K (T.setTop (mkF m pc Ls [w])) :=
  own_ret X hlk (fun q => by rw [hret] at q; cases q) (fun fs hr => retOut X hx hret hn (Or.inr (Or.inr (Or.inr (Or.inr ⟨rfl, ht, hw⟩)))) hd hr) hK
/-- a boolean, byte, char or short that already fits -/
theorem own_retN {z : Int32} {t : FieldType} (X : Stand p l e R s m args below meth c T locs cells slots) (hx : p.tables.exec = Jvm.exec) (hlk : meth.locks = false) (hret : meth.sig.returnType = some t) (ht : t = .boolean ∨ t = .byte ∨ t = .char ∨ t = .short) (hn : nar t z = z) (hd : decode c.code pc = .ok (.ireturn, 1)) (hK : own_E s T locs cells slots (some (.int z)) K) : own_Fin p e below K (T.setTop (mkF m pc Ls [.int z])) :=
  own_ret X hlk (fun q => by rw [hret] at q; cases q) (fun fs hr => retN X hx hret ht hd (by rw [hn]; exact hr)) hK
end Ends
section Calls
variable {y z : MethodName} {bytes : ByteArray} {maxL W : Nat} {ret : Option FieldType} {rm : Room} {Q : Option Value → Heap → List Loc → Prop} {own C : String} {index : Nat} {b : Addr} {argsL rest : List Value} {g : JFrame}
theorem own_virt (X : Stand p l e R s m args below meth c T locs cells slots) (hx : p.tables.exec = Jvm.exec) (hZ : Z.Warmed39 s.vm) (hown : s.vm.findClass own = some m.cls) (w1 : (Jvm.Cond.methodLink own index y).before a0 Z = true) (w2 : (Jvm.Cond.declares y).before a0 Z = true) (nf : NotFace s y) (w3 : (Jvm.Cond.selects C y z).before a0 Z = true) (w4 : (Jvm.Cond.instanceMethod z).before a0 Z = true) (hy : y.cls ≠ "java/lang/invoke/MethodHandle" ∧ y.cls ≠ "java/lang/invoke/VarHandle")
    (wc : (Jvm.Cond.code z bytes maxL ret).before a0 Z = true) (wz : (Jvm.Cond.initialized z.cls).before a0 Z = true) (eT : T.heap = h) (E : Exa Z h b C) (hM : own_Met l z bytes maxL ret [] rm Z (.ref b :: argsL).toArray h Q) (hg : g.method = m) (hsize : g.locals.size = c.maxLocals) (hlen : ∀ sig, parseMethodDescriptor y.desc = some sig → argsL.length = sig.parameters.length)
    (hstack : g.stack = argsL.reverse ++ .ref b :: rest) (hW : 2 * g.monitorRoom + (rest.map fun v => v.category).sum ≤ W) (hd : decode c.code g.pc = .ok (.invokevirtual index, 3)) (hf : rm.frames + 1 ≤ R.frames) (hl : W + (maxL + 11) + rm.locals ≤ R.locals) (hc : cells + rm.cells ≤ R.cells) (hs : slots + rm.slots ≤ R.slots) :
    ∃ (v : Option Value) (T' : State) (L : List Loc), Stand p l e R s m args below meth c T' (locs ++ L) (cells + rm.cells) (slots + rm.slots) ∧ Q v T'.heap L ∧ ∀ t, Steps p.tables e below (T'.setTop { g with pc := g.pc + 3, stack := v.toList ++ rest }) t → Steps p.tables e below (T.setTop g) t := by
  obtain ⟨cq, kq, qa, qb, qc⟩ := isOf hZ eT E
  obtain ⟨v, vm1, ⟨T', L', k', n'⟩, -, X', ⟨L, hQ, hl', hk', hn'⟩, st⟩ := X.virtualBack hx (y := y) (z := z) hown (mvT hZ w1) (mvT hZ w2) nf (mvT hZ w3) (mvT hZ w4) hy (backOf (W := W) hM hZ wc wz hf hl) qa qc hg hsize (Steps.refl _) hlen hstack hW hd (fun _ _ => ⟨rfl, eT, hc, hs⟩)
  dsimp only [Pt.U, Pt.locs, Pt.cells, Pt.slots] at X' hl' hk' hn' st hQ
  subst hl' hk' hn'
  exact ⟨v, T', L, X', hQ, fun t k => st.trans k⟩
theorem own_stat (X : Stand p l e R s m args below meth c T locs cells slots) (hx : p.tables.exec = Jvm.exec) (hZ : Z.Warmed39 s.vm) (hown : s.vm.findClass own = some m.cls) (w1 : (Jvm.Cond.methodLink own index y).before a0 Z = true) (w2 : (Jvm.Cond.static y).before a0 Z = true) (hy : y.cls ≠ "java/lang/invoke/MethodHandle" ∧ y.cls ≠ "java/lang/invoke/VarHandle")
    (wc : (Jvm.Cond.code y bytes maxL ret).before a0 Z = true) (wz : (Jvm.Cond.initialized y.cls).before a0 Z = true) (eT : T.heap = h) (hM : own_Met l y bytes maxL ret [] rm Z argsL.toArray h Q) (hg : g.method = m) (hsize : g.locals.size = c.maxLocals) (hlen : ∀ sig, parseMethodDescriptor y.desc = some sig → argsL.length = sig.parameters.length)
    (hstack : g.stack = argsL.reverse ++ rest) (hW : 2 * g.monitorRoom + (rest.map fun v => v.category).sum ≤ W) (hd : decode c.code g.pc = .ok (.invokestatic index, 3)) (hf : rm.frames + 1 ≤ R.frames) (hl : W + (maxL + 11) + rm.locals ≤ R.locals) (hc : cells + rm.cells ≤ R.cells) (hs : slots + rm.slots ≤ R.slots) :
    ∃ (v : Option Value) (T' : State) (L : List Loc), Stand p l e R s m args below meth c T' (locs ++ L) (cells + rm.cells) (slots + rm.slots) ∧ Q v T'.heap L ∧ ∀ t, Steps p.tables e below (T'.setTop { g with pc := g.pc + 3, stack := v.toList ++ rest }) t → Steps p.tables e below (T.setTop g) t := by
  obtain ⟨v, vm1, ⟨T', L', k', n'⟩, -, X', ⟨L, hQ, hl', hk', hn'⟩, st⟩ := Jvm.LawKit.callS X hx (y := y) hown (mvT hZ w1) (mvT hZ w2) (mvT hZ wz) (mvT hZ wc) hy (backOf (W := W) hM hZ wc wz hf hl) hg hsize hlen hstack hW hd (fun _ _ => ⟨rfl, eT, hc, hs⟩)
  dsimp only [Pt.U, Pt.locs, Pt.cells, Pt.slots] at X' hl' hk' hn' st hQ
  subst hl' hk' hn'
  exact ⟨v, T', L, X', hQ, st⟩
theorem own_spec {bytes : ByteArray} {maxL : Nat} (X : Stand p l e R s m args below meth c T locs cells slots) (hx : p.tables.exec = Jvm.exec) (hZ : Z.Warmed39 s.vm) (hy1 : y.name = "<init>") (hown : s.vm.findClass own = some m.cls) (w1 : (Jvm.Cond.methodLink own index y).before a0 Z = true) (w2 : (Jvm.Cond.instanceMethod y).before a0 Z = true) (hy : y.cls ≠ "java/lang/invoke/MethodHandle" ∧ y.cls ≠ "java/lang/invoke/VarHandle")
    (wc : (Jvm.Cond.code y bytes maxL none).before a0 Z = true) (wz : (Jvm.Cond.initialized y.cls).before a0 Z = true) (eT : T.heap = h) (hM : own_Met l y bytes maxL none [] rm Z (.ref b :: argsL).toArray h Q) (hg : g.method = m) (hsize : g.locals.size = c.maxLocals) (hlen : ∀ sig, parseMethodDescriptor y.desc = some sig → argsL.length = sig.parameters.length)
    (hstack : g.stack = argsL.reverse ++ .ref b :: rest) (hW : 2 * g.monitorRoom + (rest.map fun v => v.category).sum ≤ W) (hd : decode c.code g.pc = .ok (.invokespecial index, 3)) (hf : rm.frames + 1 ≤ R.frames) (hl : W + (maxL + 11) + rm.locals ≤ R.locals) (hc : cells + rm.cells ≤ R.cells) (hs : slots + rm.slots ≤ R.slots) :
    ∃ (v : Option Value) (T' : State) (L : List Loc), Stand p l e R s m args below meth c T' (locs ++ L) (cells + rm.cells) (slots + rm.slots) ∧ Q v T'.heap L ∧ ∀ t, Steps p.tables e below (T'.setTop { g with pc := g.pc + 3, stack := v.toList ++ rest }) t → Steps p.tables e below (T.setTop g) t := by
  obtain ⟨v, vm1, ⟨T', L', k', n'⟩, -, X', ⟨L, hQ, hl', hk', hn'⟩, st⟩ := X.specialBack hx (y := y) hy1 hown (mvT hZ w1) (mvT hZ w2) (mvT hZ wc) hy (backOf (W := W) hM hZ wc wz hf hl) hg hsize (Steps.refl _) hlen hstack hW hd (fun _ _ => ⟨rfl, eT, hc, hs⟩)
  dsimp only [Pt.U, Pt.locs, Pt.cells, Pt.slots] at X' hl' hk' hn' st hQ
  subst hl' hk' hn'
  exact ⟨v, T', L, X', hQ, fun t k => st.trans k⟩
end Calls
section Words
variable {first : State} {o : Option Outcome} {idx : List Nat} {a b t : Term} {v : Value} {C n d : String}
theorem own_eqI {k : Int32} (hq : (Jvm.Cond.eq a (.int k)).value args first o s idx = some true) : a.eval args first o idx s = some (.int k) := by
  cases ha : a.eval args first o idx s with
  | none => simp [Cond.value, ha] at hq
  | some x => cases x <;> simp [Cond.value, ha, Term.eval] at hq ⊢ <;> exact hq
/-- an array of a known length -/
def own_Aln (Z : State) (h : Heap) (a : Addr) (ty : FieldType) (n : Int32) : Prop := ∃ c : Cell, Arr Z h a c ty ∧ c.slots.size = n.toNatClampNeg ∧ ¬ n < 0
end Words
theorem own_exaStat {a : Addr} {C : String} (F : Exa Z h a C) : ∀ cell : Cell, h[a]? = some cell → cell.vm.isStatics = false := fun cell hc => by
  obtain ⟨c', _, h1, -, -, h4, -⟩ := F
  cases h1.symm.trans hc
  exact h4
theorem own_staKeep {h' : Heap} {C n d : String} {v : Value} {ws : List Addr} (F : Sta Z h C n d v) (K : Keep h h' ws) (q : ∀ x ∈ ws, ∀ cell : Cell, h[x]? = some cell → cell.vm.isStatics = false) : Sta Z h' C n d v := by
  obtain ⟨cf, i, k, f, st, cell, h1, h2, h3, h4, h5, h6, h7⟩ := F
  exact ⟨cf, i, k, f, st, cell, h1, h2, h3, h4, K.2.1 st cell h5 (fun hm => by rw [q st hm cell h5] at h6; cases h6), h6, h7⟩
end OwnKit
section OwnSteps
variable {p : Program} {l : Launch} {e : Env} {R : Room} {s : State} {m : MethodId} {args : Array Value} {below : List Frame} {meth : Method} {c : Code} {T : State} {locs : List Loc} {cells slots : Nat} {Z : State} {a0 : Array Value} {h : Heap}
variable {K : State → Outcome → Prop} {pc : Nat} {Ls l' : Array Slot} {S : List Value}
abbrev own_At (p : Program) (e : Env) (below : List Frame) (K : State → Outcome → Prop) (T : State) (m : MethodId) (pc : Nat) (Ls : Array Slot) (S : List Value) : Prop := own_Fin p e below K (T.setTop (mkF m pc Ls S))
theorem own_iload (X : Stand p l e R s m args below meth c T locs cells slots) (hx : p.tables.exec = Jvm.exec) {k : Nat} {v : Int32} (hd : decode c.code pc = .ok (.iload k, 2)) (hl : Ls[k]? = some (.val (.int v))) (hF : own_At p e below K T m (pc + 2) Ls ((.int v) :: S)) : own_At p e below K T m pc Ls S := own_step (fun _ k => XS.iload X.here hx rfl hd hl k) hF
theorem own_iloadN (X : Stand p l e R s m args below meth c T locs cells slots) (hx : p.tables.exec = Jvm.exec) {k : Fin 4} {v : Int32} (hd : decode c.code pc = .ok (.iload_n k, 1)) (hl : Ls[k.val]? = some (.val (.int v))) (hF : own_At p e below K T m (pc + 1) Ls ((.int v) :: S)) : own_At p e below K T m pc Ls S := own_step (fun _ k => XS.iloadN X.here hx rfl hd hl k) hF
theorem own_lload (X : Stand p l e R s m args below meth c T locs cells slots) (hx : p.tables.exec = Jvm.exec) {k : Nat} {v : Int64} (hd : decode c.code pc = .ok (.lload k, 2)) (hl : Ls[k]? = some (.val (.long v))) (hF : own_At p e below K T m (pc + 2) Ls ((.long v) :: S)) : own_At p e below K T m pc Ls S := own_step (fun _ k => XS.lload X.here hx rfl hd hl k) hF
theorem own_lloadN (X : Stand p l e R s m args below meth c T locs cells slots) (hx : p.tables.exec = Jvm.exec) {k : Fin 4} {v : Int64} (hd : decode c.code pc = .ok (.lload_n k, 1)) (hl : Ls[k.val]? = some (.val (.long v))) (hF : own_At p e below K T m (pc + 1) Ls ((.long v) :: S)) : own_At p e below K T m pc Ls S := own_step (fun _ k => XS.lloadN X.here hx rfl hd hl k) hF
theorem own_aload (X : Stand p l e R s m args below meth c T locs cells slots) (hx : p.tables.exec = Jvm.exec) {k : Nat} {v : Value} (hd : decode c.code pc = .ok (.aload k, 2)) (hl : Ls[k]? = some (.val v)) (hv : v.isRef = true) (hF : own_At p e below K T m (pc + 2) Ls (v :: S)) : own_At p e below K T m pc Ls S := own_step (fun _ k => XS.aload X.here hx rfl hd hl hv k) hF
theorem own_aloadN (X : Stand p l e R s m args below meth c T locs cells slots) (hx : p.tables.exec = Jvm.exec) {k : Fin 4} {v : Value} (hd : decode c.code pc = .ok (.aload_n k, 1)) (hl : Ls[k.val]? = some (.val v)) (hv : v.isRef = true) (hF : own_At p e below K T m (pc + 1) Ls (v :: S)) : own_At p e below K T m pc Ls S := own_step (fun _ k => XS.aloadN X.here hx rfl hd hl hv k) hF
theorem own_istore (X : Stand p l e R s m args below meth c T locs cells slots) (hx : p.tables.exec = Jvm.exec) {k : Nat} {v : Int32} (hd : decode c.code pc = .ok (.istore k, 2)) (hl : storeLocals Ls k (.int v) = some l') (hF : own_At p e below K T m (pc + 2) l' S) : own_At p e below K T m pc Ls ((.int v) :: S) := own_step (fun _ k => XS.istore X.here hx rfl hd rfl hl k) hF
theorem own_istoreN (X : Stand p l e R s m args below meth c T locs cells slots) (hx : p.tables.exec = Jvm.exec) {k : Fin 4} {v : Int32} (hd : decode c.code pc = .ok (.istore_n k, 1)) (hl : storeLocals Ls k.val (.int v) = some l') (hF : own_At p e below K T m (pc + 1) l' S) : own_At p e below K T m pc Ls ((.int v) :: S) := own_step (fun _ k => XS.istoreN X.here hx rfl hd rfl hl k) hF
theorem own_lstore (X : Stand p l e R s m args below meth c T locs cells slots) (hx : p.tables.exec = Jvm.exec) {k : Nat} {v : Int64} (hd : decode c.code pc = .ok (.lstore k, 2)) (hl : storeLocals Ls k (.long v) = some l') (hF : own_At p e below K T m (pc + 2) l' S) : own_At p e below K T m pc Ls ((.long v) :: S) := own_step (fun _ k => XS.lstore X.here hx rfl hd rfl hl k) hF
theorem own_lstoreN (X : Stand p l e R s m args below meth c T locs cells slots) (hx : p.tables.exec = Jvm.exec) {k : Fin 4} {v : Int64} (hd : decode c.code pc = .ok (.lstore_n k, 1)) (hl : storeLocals Ls k.val (.long v) = some l') (hF : own_At p e below K T m (pc + 1) l' S) : own_At p e below K T m pc Ls ((.long v) :: S) := own_step (fun _ k => XS.lstoreN X.here hx rfl hd rfl hl k) hF
theorem own_astore (X : Stand p l e R s m args below meth c T locs cells slots) (hx : p.tables.exec = Jvm.exec) {k : Nat} {v : Value} (hd : decode c.code pc = .ok (.astore k, 2)) (hv : v.isRef = true) (hl : storeLocals Ls k v = some l') (hF : own_At p e below K T m (pc + 2) l' S) : own_At p e below K T m pc Ls (v :: S) := own_step (fun _ k => XS.astore X.here hx rfl hd rfl hv hl k) hF
theorem own_astoreN (X : Stand p l e R s m args below meth c T locs cells slots) (hx : p.tables.exec = Jvm.exec) {k : Fin 4} {v : Value} (hd : decode c.code pc = .ok (.astore_n k, 1)) (hv : v.isRef = true) (hl : storeLocals Ls k.val v = some l') (hF : own_At p e below K T m (pc + 1) l' S) : own_At p e below K T m pc Ls (v :: S) := own_step (fun _ k => XS.astoreN X.here hx rfl hd rfl hv hl k) hF
theorem own_iconst (X : Stand p l e R s m args below meth c T locs cells slots) (hx : p.tables.exec = Jvm.exec) {i : Int} (z : Int32) (hd : decode c.code pc = .ok (.iconst i, 1)) (hz : Int32.ofInt i = z) (hF : own_At p e below K T m (pc + 1) Ls (.int z :: S)) : own_At p e below K T m pc Ls S := own_step (fun _ k => XS.iconst X.here hx rfl hd (by rw [hz]; exact k)) hF
theorem own_bipush (X : Stand p l e R s m args below meth c T locs cells slots) (hx : p.tables.exec = Jvm.exec) {i : Int} (z : Int32) (hd : decode c.code pc = .ok (.bipush i, 2)) (hz : (Int8.ofInt i).toInt32 = z) (hF : own_At p e below K T m (pc + 2) Ls (.int z :: S)) : own_At p e below K T m pc Ls S := own_step (fun _ k => XS.bipush X.here hx rfl hd (by rw [hz]; exact k)) hF
theorem own_sipush (X : Stand p l e R s m args below meth c T locs cells slots) (hx : p.tables.exec = Jvm.exec) {i : Int} (z : Int32) (hd : decode c.code pc = .ok (.sipush i, 3)) (hz : (Int16.ofInt i).toInt32 = z) (hF : own_At p e below K T m (pc + 3) Ls (.int z :: S)) : own_At p e below K T m pc Ls S := own_step (fun _ k => XS.sipush X.here hx rfl hd (by rw [hz]; exact k)) hF
theorem own_lconst0 (X : Stand p l e R s m args below meth c T locs cells slots) (hx : p.tables.exec = Jvm.exec) (hd : decode c.code pc = .ok (.lconst 0, 1)) (hF : own_At p e below K T m (pc + 1) Ls (.long (0 : Int64) :: S)) : own_At p e below K T m pc Ls S := own_step (fun _ k => XS.lconst X.here hx rfl hd k) hF
theorem own_lconst1 (X : Stand p l e R s m args below meth c T locs cells slots) (hx : p.tables.exec = Jvm.exec) (hd : decode c.code pc = .ok (.lconst 1, 1)) (hF : own_At p e below K T m (pc + 1) Ls (.long (1 : Int64) :: S)) : own_At p e below K T m pc Ls S := own_step (fun _ k => XS.lconst X.here hx rfl hd k) hF
theorem own_aconstNull (X : Stand p l e R s m args below meth c T locs cells slots) (hx : p.tables.exec = Jvm.exec) (hd : decode c.code pc = .ok (.aconst_null, 1)) (hF : own_At p e below K T m (pc + 1) Ls (.null :: S)) : own_At p e below K T m pc Ls S := own_step (fun _ k => XS.aconstNull X.here hx rfl hd k) hF
theorem own_isub (X : Stand p l e R s m args below meth c T locs cells slots) (hx : p.tables.exec = Jvm.exec) {x y : Int32} (hd : decode c.code pc = .ok (.isub, 1)) (hF : own_At p e below K T m (pc + 1) Ls (.int (x - y) :: S)) : own_At p e below K T m pc Ls (.int y :: .int x :: S) := own_step (fun _ k => XS.isub X.here hx rfl hd rfl k) hF
theorem own_iand (X : Stand p l e R s m args below meth c T locs cells slots) (hx : p.tables.exec = Jvm.exec) {x y : Int32} (hd : decode c.code pc = .ok (.iand, 1)) (hF : own_At p e below K T m (pc + 1) Ls (.int (x &&& y) :: S)) : own_At p e below K T m pc Ls (.int y :: .int x :: S) := own_step (fun _ k => XS.iand X.here hx rfl hd rfl k) hF
theorem own_ior (X : Stand p l e R s m args below meth c T locs cells slots) (hx : p.tables.exec = Jvm.exec) {x y : Int32} (hd : decode c.code pc = .ok (.ior, 1)) (hF : own_At p e below K T m (pc + 1) Ls (.int (x ||| y) :: S)) : own_At p e below K T m pc Ls (.int y :: .int x :: S) := own_step (fun _ k => XS.ior X.here hx rfl hd rfl k) hF
theorem own_ladd (X : Stand p l e R s m args below meth c T locs cells slots) (hx : p.tables.exec = Jvm.exec) {x y : Int64} (hd : decode c.code pc = .ok (.ladd, 1)) (hF : own_At p e below K T m (pc + 1) Ls (.long (x + y) :: S)) : own_At p e below K T m pc Ls (.long y :: .long x :: S) := own_step (fun _ k => XS.ladd X.here hx rfl hd rfl k) hF
theorem own_lsub (X : Stand p l e R s m args below meth c T locs cells slots) (hx : p.tables.exec = Jvm.exec) {x y : Int64} (hd : decode c.code pc = .ok (.lsub, 1)) (hF : own_At p e below K T m (pc + 1) Ls (.long (x - y) :: S)) : own_At p e below K T m pc Ls (.long y :: .long x :: S) := own_step (fun _ k => XS.lsub X.here hx rfl hd rfl k) hF
theorem own_lmul (X : Stand p l e R s m args below meth c T locs cells slots) (hx : p.tables.exec = Jvm.exec) {x y : Int64} (hd : decode c.code pc = .ok (.lmul, 1)) (hF : own_At p e below K T m (pc + 1) Ls (.long (x * y) :: S)) : own_At p e below K T m pc Ls (.long y :: .long x :: S) := own_step (fun _ k => XS.lmul X.here hx rfl hd rfl k) hF
theorem own_land (X : Stand p l e R s m args below meth c T locs cells slots) (hx : p.tables.exec = Jvm.exec) {x y : Int64} (hd : decode c.code pc = .ok (.land, 1)) (hF : own_At p e below K T m (pc + 1) Ls (.long (x &&& y) :: S)) : own_At p e below K T m pc Ls (.long y :: .long x :: S) := own_step (fun _ k => XS.land X.here hx rfl hd rfl k) hF
theorem own_lor (X : Stand p l e R s m args below meth c T locs cells slots) (hx : p.tables.exec = Jvm.exec) {x y : Int64} (hd : decode c.code pc = .ok (.lor, 1)) (hF : own_At p e below K T m (pc + 1) Ls (.long (x ||| y) :: S)) : own_At p e below K T m pc Ls (.long y :: .long x :: S) := own_step (fun _ k => XS.lor X.here hx rfl hd rfl k) hF
theorem own_lxor (X : Stand p l e R s m args below meth c T locs cells slots) (hx : p.tables.exec = Jvm.exec) {x y : Int64} (hd : decode c.code pc = .ok (.lxor, 1)) (hF : own_At p e below K T m (pc + 1) Ls (.long (x ^^^ y) :: S)) : own_At p e below K T m pc Ls (.long y :: .long x :: S) := own_step (fun _ k => XS.lxor X.here hx rfl hd rfl k) hF
theorem own_ishl (X : Stand p l e R s m args below meth c T locs cells slots) (hx : p.tables.exec = Jvm.exec) {x : Int32} {y : Int32} (hd : decode c.code pc = .ok (.ishl, 1)) (hF : own_At p e below K T m (pc + 1) Ls (.int (x <<< (y &&& 31)) :: S)) : own_At p e below K T m pc Ls (.int y :: .int x :: S) := own_step (fun _ k => XS.ishl X.here hx rfl hd rfl k) hF
theorem own_ishr (X : Stand p l e R s m args below meth c T locs cells slots) (hx : p.tables.exec = Jvm.exec) {x : Int32} {y : Int32} (hd : decode c.code pc = .ok (.ishr, 1)) (hF : own_At p e below K T m (pc + 1) Ls (.int (x >>> (y &&& 31)) :: S)) : own_At p e below K T m pc Ls (.int y :: .int x :: S) := own_step (fun _ k => XS.ishr X.here hx rfl hd rfl k) hF
theorem own_iushr (X : Stand p l e R s m args below meth c T locs cells slots) (hx : p.tables.exec = Jvm.exec) {x : Int32} {y : Int32} (hd : decode c.code pc = .ok (.iushr, 1)) (hF : own_At p e below K T m (pc + 1) Ls (.int ((x.toUInt32 >>> (y &&& 31).toUInt32).toInt32) :: S)) : own_At p e below K T m pc Ls (.int y :: .int x :: S) := own_step (fun _ k => XS.iushr X.here hx rfl hd rfl k) hF
theorem own_lshl (X : Stand p l e R s m args below meth c T locs cells slots) (hx : p.tables.exec = Jvm.exec) {x : Int64} {y : Int32} (hd : decode c.code pc = .ok (.lshl, 1)) (hF : own_At p e below K T m (pc + 1) Ls (.long (x <<< (y &&& 0x3f).toInt64) :: S)) : own_At p e below K T m pc Ls (.int y :: .long x :: S) := own_step (fun _ k => XS.lshl X.here hx rfl hd rfl k) hF
theorem own_lushr (X : Stand p l e R s m args below meth c T locs cells slots) (hx : p.tables.exec = Jvm.exec) {x : Int64} {y : Int32} (hd : decode c.code pc = .ok (.lushr, 1)) (hF : own_At p e below K T m (pc + 1) Ls (.long ((x.toUInt64 >>> (y &&& 0x3f).toInt64.toUInt64).toInt64) :: S)) : own_At p e below K T m pc Ls (.int y :: .long x :: S) := own_step (fun _ k => XS.lushr X.here hx rfl hd rfl k) hF
theorem own_i2l (X : Stand p l e R s m args below meth c T locs cells slots) (hx : p.tables.exec = Jvm.exec) {x : Int32} (hd : decode c.code pc = .ok (.i2l, 1)) (hF : own_At p e below K T m (pc + 1) Ls (.long (x.toInt64) :: S)) : own_At p e below K T m pc Ls (.int x :: S) := own_step (fun _ k => XS.i2l X.here hx rfl hd rfl k) hF
theorem own_l2i (X : Stand p l e R s m args below meth c T locs cells slots) (hx : p.tables.exec = Jvm.exec) {x : Int64} (hd : decode c.code pc = .ok (.l2i, 1)) (hF : own_At p e below K T m (pc + 1) Ls (.int (x.toInt32) :: S)) : own_At p e below K T m pc Ls (.long x :: S) := own_step (fun _ k => XS.l2i X.here hx rfl hd rfl k) hF
theorem own_i2b (X : Stand p l e R s m args below meth c T locs cells slots) (hx : p.tables.exec = Jvm.exec) {x : Int32} (hd : decode c.code pc = .ok (.i2b, 1)) (hF : own_At p e below K T m (pc + 1) Ls (.int (x.toInt8.toInt32) :: S)) : own_At p e below K T m pc Ls (.int x :: S) := own_step (fun _ k => XS.i2b X.here hx rfl hd rfl k) hF
theorem own_i2c (X : Stand p l e R s m args below meth c T locs cells slots) (hx : p.tables.exec = Jvm.exec) {x : Int32} (hd : decode c.code pc = .ok (.i2c, 1)) (hF : own_At p e below K T m (pc + 1) Ls (.int (x.toUInt32.toUInt16.toUInt32.toInt32) :: S)) : own_At p e below K T m pc Ls (.int x :: S) := own_step (fun _ k => XS.i2c X.here hx rfl hd rfl k) hF
theorem own_lcmp (X : Stand p l e R s m args below meth c T locs cells slots) (hx : p.tables.exec = Jvm.exec) {x y : Int64} (hd : decode c.code pc = .ok (.lcmp, 1)) (hF : own_At p e below K T m (pc + 1) Ls (.int (lcmpW x y) :: S)) : own_At p e below K T m pc Ls (.long y :: .long x :: S) := own_step (fun _ k => XS.lcmp X.here hx rfl hd rfl k) hF
theorem own_ldiv (X : Stand p l e R s m args below meth c T locs cells slots) (hx : p.tables.exec = Jvm.exec) {x y : Int64} (hd : decode c.code pc = .ok (.ldiv, 1)) (hy : y ≠ 0) (hF : own_At p e below K T m (pc + 1) Ls (.long (x / y) :: S)) : own_At p e below K T m pc Ls (.long y :: .long x :: S) := own_step (fun _ k => XS.ldiv X.here hx rfl hd rfl hy k) hF
theorem own_iinc (X : Stand p l e R s m args below meth c T locs cells slots) (hx : p.tables.exec = Jvm.exec) {k : Nat} {cst : Int} {x : Int32} (hd : decode c.code pc = .ok (.iinc k cst, 3)) (hl : Ls[k]? = some (.val (.int x))) (hl' : storeLocals Ls k (.int (x + Int32.ofInt cst)) = some l') (hF : own_At p e below K T m (pc + 3) l' S) : own_At p e below K T m pc Ls S := own_step (fun _ k => XS.iinc X.here hx rfl hd hl hl' k) hF
theorem own_dup (X : Stand p l e R s m args below meth c T locs cells slots) (hx : p.tables.exec = Jvm.exec) {x : Value} (hd : decode c.code pc = .ok (.dup, 1)) (hc : x.category = 1) (hF : own_At p e below K T m (pc + 1) Ls (x :: x :: S)) : own_At p e below K T m pc Ls (x :: S) := own_step (fun _ k => XS.dup X.here hx rfl hd rfl hc k) hF
theorem own_pop (X : Stand p l e R s m args below meth c T locs cells slots) (hx : p.tables.exec = Jvm.exec) {x : Value} (hd : decode c.code pc = .ok (.pop, 1)) (hc : x.category = 1) (hF : own_At p e below K T m (pc + 1) Ls S) : own_At p e below K T m pc Ls (x :: S) := own_step (fun _ k => XS.pop X.here hx rfl hd rfl hc k) hF
theorem own_dup2 (X : Stand p l e R s m args below meth c T locs cells slots) (hx : p.tables.exec = Jvm.exec) {x y : Value} (hd : decode c.code pc = .ok (.dup2, 1)) (hc : x.category = 1) (hc' : y.category = 1) (hF : own_At p e below K T m (pc + 1) Ls (x :: y :: x :: y :: S)) : own_At p e below K T m pc Ls (x :: y :: S) := own_step (fun _ k => Jvm.Free.XT.dup2 X.here hx rfl hd rfl hc hc' k) hF
theorem own_goto (X : Stand p l e R s m args below meth c T locs cells slots) (hx : p.tables.exec = Jvm.exec) {o : Int} (pc' : Nat) (hd : decode c.code pc = .ok (.goto o, 3)) (ho : 0 ≤ (pc : Int) + o) (hp : ((pc : Int) + o).toNat = pc') (hF : own_At p e below K T m pc' Ls S) : own_At p e below K T m pc Ls S := own_step (fun _ k => XS.goto X.here hx rfl rfl hd ho hp k) hF
theorem own_ifYes (X : Stand p l e R s m args below meth c T locs cells slots) (hx : p.tables.exec = Jvm.exec) {cd : ClassFile.Cond} {x : Int32} {o : Int} (pc' : Nat) (hd : decode c.code pc = .ok (.ifCond cd o, 3)) (hc : if_icmp.holds cd x 0 = true) (ho : 0 ≤ (pc : Int) + o) (hp : ((pc : Int) + o).toNat = pc') (hF : own_At p e below K T m pc' Ls S) : own_At p e below K T m pc Ls (.int x :: S) := own_step (fun _ k => XS.ifYes X.here hx rfl rfl hd rfl ((if0 _ _).trans hc) ho hp k) hF
theorem own_ifNo (X : Stand p l e R s m args below meth c T locs cells slots) (hx : p.tables.exec = Jvm.exec) {cd : ClassFile.Cond} {x : Int32} {o : Int} (hd : decode c.code pc = .ok (.ifCond cd o, 3)) (hc : if_icmp.holds cd x 0 = false) (hF : own_At p e below K T m (pc + 3) Ls S) : own_At p e below K T m pc Ls (.int x :: S) := own_step (fun _ k => XS.ifNo X.here hx rfl hd rfl ((if0 _ _).trans hc) k) hF
theorem own_icmpYes (X : Stand p l e R s m args below meth c T locs cells slots) (hx : p.tables.exec = Jvm.exec) {cd : ClassFile.Cond} {x y : Int32} {o : Int} (pc' : Nat) (hd : decode c.code pc = .ok (.if_icmp cd o, 3)) (hc : if_icmp.holds cd x y = true) (ho : 0 ≤ (pc : Int) + o) (hp : ((pc : Int) + o).toNat = pc') (hF : own_At p e below K T m pc' Ls S) : own_At p e below K T m pc Ls (.int y :: .int x :: S) := own_step (fun _ k => XS.icmpYes X.here hx rfl rfl hd rfl hc ho hp k) hF
theorem own_icmpNo (X : Stand p l e R s m args below meth c T locs cells slots) (hx : p.tables.exec = Jvm.exec) {cd : ClassFile.Cond} {x y : Int32} {o : Int} (hd : decode c.code pc = .ok (.if_icmp cd o, 3)) (hc : if_icmp.holds cd x y = false) (hF : own_At p e below K T m (pc + 3) Ls S) : own_At p e below K T m pc Ls (.int y :: .int x :: S) := own_step (fun _ k => XS.icmpNo X.here hx rfl hd rfl hc k) hF
theorem own_getS (X : Stand p l e R s m args below meth c T locs cells slots) (hx : p.tables.exec = Jvm.exec) (hZ : Z.Warmed39 s.vm) {own R0 O n d host : String} {index : Nat} (hown : s.vm.findClass own = some m.cls) (w : (Jvm.Cond.fieldLink own index R0 n d).before a0 Z = true ∨ (Jvm.Cond.fieldLinkNest own index R0 n d host).before a0 Z = true) (via : Via Z R0 O n d) (eT : T.heap = h) {v : Value} (F : Sta Z h O n d v) (hd : decode c.code pc = .ok (.getstatic index, 3)) (hF : ∀ (T' : State), Stand p l e R s m args below meth c T' locs cells slots → T'.heap = h → own_At p e below K T' m (pc + 3) Ls (v :: S)) : own_At p e below K T m pc Ls S := by
  obtain ⟨T', X', e', st⟩ := getS2 X hx hZ hown w via eT F (g := mkF m pc Ls S) rfl hd
  exact own_step (fun t k => st _ k) (hF T' X' e')
theorem own_getF (X : Stand p l e R s m args below meth c T locs cells slots) (hx : p.tables.exec = Jvm.exec) (hZ : Z.Warmed39 s.vm) {own R0 O n d host : String} {index : Nat} (hown : s.vm.findClass own = some m.cls) (w : (Jvm.Cond.fieldLink own index R0 n d).before a0 Z = true ∨ (Jvm.Cond.fieldLinkNest own index R0 n d host).before a0 Z = true) (via : Via Z R0 O n d) (eT : T.heap = h) {a : Addr} {v : Value} (F : Fld Z h a O n d v) (hd : decode c.code pc = .ok (.getfield index, 3)) (hF : ∀ (T' : State), Stand p l e R s m args below meth c T' locs cells slots → T'.heap = h → own_At p e below K T' m (pc + 3) Ls (v :: S)) : own_At p e below K T m pc Ls (.ref a :: S) := by
  obtain ⟨T', X', e', st⟩ := getF X hx hZ hown w via eT F (g := mkF m pc Ls (.ref a :: S)) rfl rfl hd
  exact own_step (fun t k => st _ k) (hF T' X' e')
theorem own_putF (X : Stand p l e R s m args below meth c T locs cells slots) (hx : p.tables.exec = Jvm.exec) (hZ : Z.Warmed39 s.vm) {C : String} {kk : Nat} {ty : FieldType} {own R0 O n d host : String} {index : Nat} (hown : s.vm.findClass own = some m.cls) (w : (Jvm.Cond.fieldLink own index R0 n d).before a0 Z = true ∨ (Jvm.Cond.fieldLinkNest own index R0 n d host).before a0 Z = true) (via : Via Z R0 O n d) (eT : T.heap = h) {a : Addr} {v old : Value} (F : Fld Z h a O n d old) (E : Exa Z h a C) (L : (Jvm.Cond.lays C O n d).before a0 Z = true ∨ ((Jvm.Cond.laysFinal C O n d).before a0 Z = true ∧ own = O ∧ meth.name = "<init>")) (wi : (Jvm.Cond.instantiable C kk).before a0 Z = true) (hty : parseFieldDescriptor d = some ty) (hn : narrow ty v = v) (hf : fits ty v = true) (hd : decode c.code pc = .ok (.putfield index, 3)) (hF : ∀ (T' : State) (h' : Heap), Stand p l e R s m args below meth c T' (locs ++ [⟨a, Jvm.RoadKit.slotOf Z O n d⟩]) cells slots → T'.heap = h' → Wr h h' a (Jvm.RoadKit.slotOf Z O n d) v → own_At p e below K T' m (pc + 3) Ls S) : own_At p e below K T m pc Ls (v :: .ref a :: S) := by
  obtain ⟨T', h', X', e', W', st⟩ := putF X hx hZ hown w via eT F E L wi hty hn hf (g := mkF m pc Ls (v :: .ref a :: S)) rfl rfl hd
  exact own_step (fun t k => st _ k) (hF T' h' X' e' W')
theorem own_initO (X : Stand p l e R s m args below meth c T locs cells slots) (hx : p.tables.exec = Jvm.exec) (hZ : Z.Warmed39 s.vm) {own : String} {idx W : Nat} (hown : s.vm.findClass own = some m.cls) (w1 : (Jvm.Cond.methodLink own idx Lib.objectInit).before a0 Z = true) (w2 : (Jvm.Cond.instanceMethod Lib.objectInit).before a0 Z = true) (w3 : (Jvm.Cond.code Lib.objectInit ⟨#[0xb1]⟩ 1 none).before a0 Z = true) (eT : T.heap = h) {a : Addr} (hsize : Ls.size = c.maxLocals) (hd : decode c.code pc = .ok (.invokespecial idx, 3)) (hf : 1 ≤ R.frames) (hW : (S.map fun v => v.category).sum ≤ W) (hl : W + 12 ≤ R.locals) (hF : ∀ (T' : State), Stand p l e R s m args below meth c T' locs cells slots → T'.heap = h → own_At p e below K T' m (pc + 3) Ls S) : own_At p e below K T m pc Ls (.ref a :: S) := by
  obtain ⟨T', X', e', st⟩ := initO X hx hZ hown w1 w2 w3 eT (g := mkF m pc Ls (.ref a :: S)) rfl hsize rfl hd hf (W := W) (by show 2 * 0 + _ ≤ _; omega) hl
  exact own_step (fun t k => st _ k) (hF T' X' e')
theorem own_newO (X : Stand p l e R s m args below meth c T locs cells slots) (hx : p.tables.exec = Jvm.exec) (hZ : Z.Warmed39 s.vm) {own C : String} {index n : Nat} (hown : s.vm.findClass own = some m.cls) (w : (Jvm.Cond.classLink own index C).before a0 Z = true) (wi : (Jvm.Cond.instantiable C n).before a0 Z = true) (wz : (Jvm.Cond.initialized C).before a0 Z = true) (eT : T.heap = h) (hd : decode c.code pc = .ok (.new index, 3)) (hc : cells + 1 ≤ R.cells) (hl : slots + n ≤ R.slots) (hF : ∀ (T' : State) (h' : Heap) (b : Addr), b = h.size → Stand p l e R s m args below meth c T' locs (cells + 1) (slots + n) → T'.heap = h' → Ext h h' → Exa Z h' b C → (∀ {O nm d : String} {ty : FieldType}, Laid Z a0 C O nm d → parseFieldDescriptor d = some ty → Fld Z h' b O nm d (defaultValue ty)) → own_At p e below K T' m (pc + 3) Ls (.ref b :: S)) : own_At p e below K T m pc Ls S := by
  obtain ⟨T', h', X', e', E', A', D', -, st⟩ := newO X hx hZ hown w wi wz eT (g := mkF m pc Ls S) rfl hd hc hl
  exact own_step (fun t k => st _ k) (hF T' h' _ rfl X' e' E' A' D')
theorem own_newP (X : Stand p l e R s m args below meth c T locs cells slots) (hx : p.tables.exec = Jvm.exec) (hZ : Z.Warmed39 s.vm) {aty : ArrayType} {n : Int32} {cap : Nat} {ad : String} (w : (Jvm.Cond.arrayClass (newarray.typeOf aty)).before a0 Z = true) (eT : T.heap = h) (hd : decode c.code pc = .ok (.newarray aty, 2)) (hn : ¬ n < 0) (hcap : n.toNatClampNeg ≤ cap) (hb : cap * 8 ≤ 536870912) (hc : cells + 1 ≤ R.cells) (hl : slots + cap ≤ R.slots) (had : "[" ++ (newarray.typeOf aty).toString = ad) (hF : ∀ (T' : State) (h' : Heap) (cA : ClassId) (b : Addr), b = h.size → Stand p l e R s m args below meth c T' locs (cells + 1) (slots + cap) → T'.heap = h' → Ext h h' → Arr Z h' b (newA cA (newarray.typeOf aty) n) (newarray.typeOf aty) → Exa Z h' b ad → own_At p e below K T' m (pc + 2) Ls (.ref b :: S)) : own_At p e below K T m pc Ls (.int n :: S) := by
  obtain ⟨T', h', cA, X', e', E', A', Ex', st⟩ := newPE X hx hZ w eT (g := mkF m pc Ls (.int n :: S)) rfl hd rfl hn hcap hb hc hl had
  exact own_step (fun t k => st _ k) (hF T' h' cA _ rfl X' e' E' A' Ex')
theorem own_stJ (X : Stand p l e R s m args below meth c T locs cells slots) (hx : p.tables.exec = Jvm.exec) (hZ : Z.Warmed39 s.vm) {a : Addr} {k : ClassId} {z : Int32} {vs vs' : List Value} {dv w : Value} {j : Int32} {x : Int64} (eT : T.heap = h) (F : Arv Z h a k .long z vs dv) (hj : ¬ j < 0 ∧ j < z) (i : Nat) (hi : j.toNatClampNeg = i) (hl : i < vs.length) (hw : (.long x) = w) (hvs : vs.set i w = vs') (hd : decode c.code pc = .ok (.lastore, 1)) (hF : ∀ (T' : State) (h' : Heap), Stand p l e R s m args below meth c T' (locs ++ [⟨a, j.toNatClampNeg⟩]) cells slots → T'.heap = h' → Wr h h' a j.toNatClampNeg w → Arv Z h' a k .long z vs' dv → own_At p e below K T' m (pc + 1) Ls S) : own_At p e below K T m pc Ls ((.long x) :: .int j :: .ref a :: S) := by
  subst hw hvs
  obtain ⟨cl, Ar, q, Sz, Ng, H, G⟩ := F
  obtain ⟨T', h', X', e', W', st⟩ := stJ X hx hZ eT Ar (j := j) (inb_of Sz hj) (g := mkF m pc Ls ((.long x) :: .int j :: .ref a :: S)) rfl rfl hd
  exact own_step (fun t k => st _ k) (hF T' h' X' e' W' (Arv.set Ar q Sz Ng H G rfl W' i hi hl))
theorem own_stC (X : Stand p l e R s m args below meth c T locs cells slots) (hx : p.tables.exec = Jvm.exec) (hZ : Z.Warmed39 s.vm) {a : Addr} {k : ClassId} {z : Int32} {vs vs' : List Value} {dv w : Value} {j : Int32} {x : Int32} (eT : T.heap = h) (F : Arv Z h a k .char z vs dv) (hj : ¬ j < 0 ∧ j < z) (i : Nat) (hi : j.toNatClampNeg = i) (hl : i < vs.length) (hw : (.int (nar .char x)) = w) (hvs : vs.set i w = vs') (hd : decode c.code pc = .ok (.castore, 1)) (hF : ∀ (T' : State) (h' : Heap), Stand p l e R s m args below meth c T' (locs ++ [⟨a, j.toNatClampNeg⟩]) cells slots → T'.heap = h' → Wr h h' a j.toNatClampNeg w → Arv Z h' a k .char z vs' dv → own_At p e below K T' m (pc + 1) Ls S) : own_At p e below K T m pc Ls ((.int x) :: .int j :: .ref a :: S) := by
  subst hw hvs
  obtain ⟨cl, Ar, q, Sz, Ng, H, G⟩ := F
  obtain ⟨T', h', X', e', W', st⟩ := stC X hx hZ eT Ar (j := j) (inb_of Sz hj) (g := mkF m pc Ls ((.int x) :: .int j :: .ref a :: S)) rfl rfl hd
  exact own_step (fun t k => st _ k) (hF T' h' X' e' W' (Arv.set Ar q Sz Ng H G (fits_nar_char _) W' i hi hl))
theorem own_stB (X : Stand p l e R s m args below meth c T locs cells slots) (hx : p.tables.exec = Jvm.exec) (hZ : Z.Warmed39 s.vm) {a : Addr} {k : ClassId} {z : Int32} {vs vs' : List Value} {dv w : Value} {j : Int32} {x : Int32} (eT : T.heap = h) (F : Arv Z h a k .byte z vs dv) (hj : ¬ j < 0 ∧ j < z) (i : Nat) (hi : j.toNatClampNeg = i) (hl : i < vs.length) (hw : (.int x.toInt8.toInt32) = w) (hvs : vs.set i w = vs') (hd : decode c.code pc = .ok (.bastore, 1)) (hF : ∀ (T' : State) (h' : Heap), Stand p l e R s m args below meth c T' (locs ++ [⟨a, j.toNatClampNeg⟩]) cells slots → T'.heap = h' → Wr h h' a j.toNatClampNeg w → Arv Z h' a k .byte z vs' dv → own_At p e below K T' m (pc + 1) Ls S) : own_At p e below K T m pc Ls ((.int x) :: .int j :: .ref a :: S) := by
  subst hw hvs
  obtain ⟨cl, Ar, q, Sz, Ng, H, G⟩ := F
  obtain ⟨T', h', X', e', W', st⟩ := stB X hx hZ eT Ar (j := j) (inb_of Sz hj) (g := mkF m pc Ls ((.int x) :: .int j :: .ref a :: S)) rfl rfl hd
  exact own_step (fun t k => st _ k) (hF T' h' X' e' W' (Arv.set Ar q Sz Ng H G (fits_nar_byte _) W' i hi hl))
theorem own_caload (X : Stand p l e R s m args below meth c T locs cells slots) (hx : p.tables.exec = Jvm.exec) (hZ : Z.Warmed39 s.vm) {a : Addr} {k : ClassId} {z : Int32} {vs : List Value} {dv : Value} {j : Int32} (v : Value) (eT : T.heap = h) (F : Arv Z h a k .char z vs dv) (hj : ¬ j < 0 ∧ j < z) (hv : vs.getD j.toNatClampNeg dv = v) (hd : decode c.code pc = .ok (.caload, 1)) (hF : own_At p e below K T m (pc + 1) Ls (v :: S)) : own_At p e below K T m pc Ls (.int j :: .ref a :: S) := by
  obtain ⟨cl, Ar, q, Sz, Ng, H, G⟩ := F
  exact own_step (fun _ k => X.caload hx (j := j) (v := v) (by rw [eT]; exact Ar.1) (State.isArrayOf_alike hZ.alike Ar.2.1) Ar.2.2 (inb_of Sz hj) (Has.at H (inb_of Sz hj) hv) (g := mkF m pc Ls (.int j :: .ref a :: S)) rfl rfl hd _ k) hF
theorem own_laload (X : Stand p l e R s m args below meth c T locs cells slots) (hx : p.tables.exec = Jvm.exec) (hZ : Z.Warmed39 s.vm) {a : Addr} {k : ClassId} {z : Int32} {vs : List Value} {dv : Value} {j : Int32} (v : Value) (eT : T.heap = h) (F : Arv Z h a k .long z vs dv) (hj : ¬ j < 0 ∧ j < z) (hv : vs.getD j.toNatClampNeg dv = v) (hd : decode c.code pc = .ok (.laload, 1)) (hF : own_At p e below K T m (pc + 1) Ls (v :: S)) : own_At p e below K T m pc Ls (.int j :: .ref a :: S) := by
  obtain ⟨cl, Ar, q, Sz, Ng, H, G⟩ := F
  exact own_step (fun _ k => X.laload hx (j := j) (v := v) (by rw [eT]; exact Ar.1) (State.isArrayOf_alike hZ.alike Ar.2.1) Ar.2.2 (inb_of Sz hj) (Has.at H (inb_of Sz hj) hv) (g := mkF m pc Ls (.int j :: .ref a :: S)) rfl rfl hd _ k) hF
theorem own_baload (X : Stand p l e R s m args below meth c T locs cells slots) (hx : p.tables.exec = Jvm.exec) (hZ : Z.Warmed39 s.vm) {a : Addr} {k : ClassId} {z : Int32} {vs : List Value} {dv : Value} {j : Int32} (v : Value) (eT : T.heap = h) (F : Arv Z h a k .byte z vs dv) (hj : ¬ j < 0 ∧ j < z) (hv : vs.getD j.toNatClampNeg dv = v) (hd : decode c.code pc = .ok (.baload, 1)) (hF : own_At p e below K T m (pc + 1) Ls (v :: S)) : own_At p e below K T m pc Ls (.int j :: .ref a :: S) := by
  obtain ⟨cl, Ar, q, Sz, Ng, H, G⟩ := F
  exact own_step (fun _ k => X.baloadBytes hx (j := j) (v := v) (by rw [eT]; exact Ar.1) (State.isArrayOf_alike hZ.alike Ar.2.1) Ar.2.2 (inb_of Sz hj) (Has.at H (inb_of Sz hj) hv) (g := mkF m pc Ls (.int j :: .ref a :: S)) rfl rfl hd _ k) hF
theorem own_arraylength (X : Stand p l e R s m args below meth c T locs cells slots) (hx : p.tables.exec = Jvm.exec) (hZ : Z.Warmed39 s.vm) {a : Addr} {ty : FieldType} {z : Int32} (eT : T.heap = h) (F : own_Aln Z h a ty z) (hd : decode c.code pc = .ok (.arraylength, 1)) (hF : own_At p e below K T m (pc + 1) Ls (.int z :: S)) : own_At p e below K T m pc Ls (.ref a :: S) := by
  obtain ⟨cl, Ar, Sz, Ng⟩ := F
  exact own_step (fun _ k => X.arraylength hx (by rw [eT]; exact Ar.1) (State.isArrayOf_alike hZ.alike Ar.2.1) (g := mkF m pc Ls (.ref a :: S)) rfl rfl hd _ (by rw [len_of Sz Ng]; exact k)) hF
theorem own_alnV {a : Addr} {k : ClassId} {ty : FieldType} {z : Int32} {vs : List Value} {dv : Value} (F : Arv Z h a k ty z vs dv) : own_Aln Z h a ty z := by
  obtain ⟨cl, Ar, q, Sz, Ng, H, G⟩ := F
  exact ⟨cl, Ar, Sz, Ng⟩
theorem own_ldcI (X : Stand p l e R s m args below meth c T locs cells slots) (hx : p.tables.exec = Jvm.exec) {own : String} {index : Nat} {v : Int32} (hZ : Z.Warmed39 s.vm) (hown : s.vm.findClass own = some m.cls) (w : (Jvm.Cond.constant own index v).before a0 Z = true) (hd : decode c.code pc = .ok (.ldc index, 2)) (hF : own_At p e below K T m (pc + 2) Ls (.int v :: S)) : own_At p e below K T m pc Ls S := own_step (fun _ k => X.ldcInt hx hown (mvT hZ w) (g := mkF m pc Ls S) rfl hd _ k) hF
theorem own_ldcL (X : Stand p l e R s m args below meth c T locs cells slots) (hx : p.tables.exec = Jvm.exec) {own : String} {index : Nat} {v : Int64} (hZ : Z.Warmed39 s.vm) (hown : s.vm.findClass own = some m.cls) (w : (Jvm.Cond.constantLong own index v).before a0 Z = true) (hd : decode c.code pc = .ok (.ldc2_w index, 3)) (hF : own_At p e below K T m (pc + 3) Ls (.long v :: S)) : own_At p e below K T m pc Ls S := own_step (fun _ k => X.ldc2Long hx hown (mvT hZ w) (g := mkF m pc Ls S) rfl hd _ k) hF
theorem own_cVirt (X : Stand p l e R s m args below meth c T locs cells slots) (hx : p.tables.exec = Jvm.exec) (hZ : Z.Warmed39 s.vm) {y z : MethodName} {bytes : ByteArray} {maxL W : Nat} {ret : Option FieldType} {rm : Room} {Q' : Option Value → Heap → List Loc → Prop} {own C : String} {index : Nat} {b : Addr} {rest : List Value} (argsL : List Value) (hown : s.vm.findClass own = some m.cls) (w1 : (Jvm.Cond.methodLink own index y).before a0 Z = true) (w2 : (Jvm.Cond.declares y).before a0 Z = true) (nf : NotFace s y) (w3 : (Jvm.Cond.selects C y z).before a0 Z = true) (w4 : (Jvm.Cond.instanceMethod z).before a0 Z = true) (hy : y.cls ≠ "java/lang/invoke/MethodHandle" ∧ y.cls ≠ "java/lang/invoke/VarHandle") (wc : (Jvm.Cond.code z bytes maxL ret).before a0 Z = true) (wz : (Jvm.Cond.initialized z.cls).before a0 Z = true) (eT : T.heap = h) (E : Exa Z h b C) (hM : own_Met l z bytes maxL ret [] rm Z (.ref b :: argsL).toArray h Q') (hsize : Ls.size = c.maxLocals) (hlen : ∀ sig, parseMethodDescriptor y.desc = some sig → argsL.length = sig.parameters.length) (hstack : S = argsL.reverse ++ .ref b :: rest) (hW : (rest.map fun v => v.category).sum ≤ W) (hd : decode c.code pc = .ok (.invokevirtual index, 3)) (hf : rm.frames + 1 ≤ R.frames) (hl : W + (maxL + 11) + rm.locals ≤ R.locals) (hc : cells + rm.cells ≤ R.cells) (hs : slots + rm.slots ≤ R.slots) (hF : ∀ (v : Option Value) (T' : State) (L : List Loc), Stand p l e R s m args below meth c T' (locs ++ L) (cells + rm.cells) (slots + rm.slots) → Q' v T'.heap L → own_At p e below K T' m (pc + 3) Ls (v.toList ++ rest)) : own_At p e below K T m pc Ls S := by
  subst hstack
  obtain ⟨v, T', L, X', hQ, st⟩ := own_virt X hx hZ hown w1 w2 nf w3 w4 hy wc wz eT E hM (g := mkF m pc Ls (argsL.reverse ++ .ref b :: rest)) rfl hsize hlen rfl (W := W) (by show 2 * 0 + _ ≤ _; omega) hd hf hl hc hs
  exact own_step (fun t k => st _ k) (hF v T' L X' hQ)
theorem own_cStat (X : Stand p l e R s m args below meth c T locs cells slots) (hx : p.tables.exec = Jvm.exec) (hZ : Z.Warmed39 s.vm) {y : MethodName} {bytes : ByteArray} {maxL W : Nat} {ret : Option FieldType} {rm : Room} {Q' : Option Value → Heap → List Loc → Prop} {own : String} {index : Nat} {rest : List Value} (argsL : List Value) (hown : s.vm.findClass own = some m.cls) (w1 : (Jvm.Cond.methodLink own index y).before a0 Z = true) (w2 : (Jvm.Cond.static y).before a0 Z = true) (hy : y.cls ≠ "java/lang/invoke/MethodHandle" ∧ y.cls ≠ "java/lang/invoke/VarHandle") (wc : (Jvm.Cond.code y bytes maxL ret).before a0 Z = true) (wz : (Jvm.Cond.initialized y.cls).before a0 Z = true) (eT : T.heap = h) (hM : own_Met l y bytes maxL ret [] rm Z argsL.toArray h Q') (hsize : Ls.size = c.maxLocals) (hlen : ∀ sig, parseMethodDescriptor y.desc = some sig → argsL.length = sig.parameters.length) (hstack : S = argsL.reverse ++ rest) (hW : (rest.map fun v => v.category).sum ≤ W) (hd : decode c.code pc = .ok (.invokestatic index, 3)) (hf : rm.frames + 1 ≤ R.frames) (hl : W + (maxL + 11) + rm.locals ≤ R.locals) (hc : cells + rm.cells ≤ R.cells) (hs : slots + rm.slots ≤ R.slots) (hF : ∀ (v : Option Value) (T' : State) (L : List Loc), Stand p l e R s m args below meth c T' (locs ++ L) (cells + rm.cells) (slots + rm.slots) → Q' v T'.heap L → own_At p e below K T' m (pc + 3) Ls (v.toList ++ rest)) : own_At p e below K T m pc Ls S := by
  subst hstack
  obtain ⟨v, T', L, X', hQ, st⟩ := own_stat X hx hZ hown w1 w2 hy wc wz eT hM (g := mkF m pc Ls (argsL.reverse ++ rest)) rfl hsize hlen rfl (W := W) (by show 2 * 0 + _ ≤ _; omega) hd hf hl hc hs
  exact own_step (fun t k => st _ k) (hF v T' L X' hQ)
section Spec
variable {ret' : Unit}
theorem own_cSpec (X : Stand p l e R s m args below meth c T locs cells slots) (hx : p.tables.exec = Jvm.exec) (hZ : Z.Warmed39 s.vm) {y : MethodName} {bytes : ByteArray} {maxL W : Nat} {rm : Room} {Q' : Option Value → Heap → List Loc → Prop} {own : String} {index : Nat} {b : Addr} {rest : List Value} (argsL : List Value) (hy1 : y.name = "<init>") (hown : s.vm.findClass own = some m.cls) (w1 : (Jvm.Cond.methodLink own index y).before a0 Z = true) (w2 : (Jvm.Cond.instanceMethod y).before a0 Z = true) (hy : y.cls ≠ "java/lang/invoke/MethodHandle" ∧ y.cls ≠ "java/lang/invoke/VarHandle") (wc : (Jvm.Cond.code y bytes maxL none).before a0 Z = true) (wz : (Jvm.Cond.initialized y.cls).before a0 Z = true) (eT : T.heap = h) (hM : own_Met l y bytes maxL none [] rm Z (.ref b :: argsL).toArray h Q') (hsize : Ls.size = c.maxLocals) (hlen : ∀ sig, parseMethodDescriptor y.desc = some sig → argsL.length = sig.parameters.length) (hstack : S = argsL.reverse ++ .ref b :: rest) (hW : (rest.map fun v => v.category).sum ≤ W) (hd : decode c.code pc = .ok (.invokespecial index, 3)) (hf : rm.frames + 1 ≤ R.frames) (hl : W + (maxL + 11) + rm.locals ≤ R.locals) (hc : cells + rm.cells ≤ R.cells) (hs : slots + rm.slots ≤ R.slots) (hF : ∀ (v : Option Value) (T' : State) (L : List Loc), Stand p l e R s m args below meth c T' (locs ++ L) (cells + rm.cells) (slots + rm.slots) → Q' v T'.heap L → own_At p e below K T' m (pc + 3) Ls (v.toList ++ rest)) : own_At p e below K T m pc Ls S := by
  subst hstack
  obtain ⟨v, T', L, X', hQ, st⟩ := own_spec X hx hZ hy1 hown w1 w2 hy wc wz eT hM (g := mkF m pc Ls (argsL.reverse ++ .ref b :: rest)) rfl hsize hlen rfl (W := W) (by show 2 * 0 + _ ≤ _; omega) hd hf hl hc hs
  exact own_step (fun t k => st _ k) (hF v T' L X' hQ)
end Spec
end OwnSteps
section OwnWide
variable {p : Program} {l : Launch} {e : Env} {R : Room} {s : State} {m : MethodId} {args : Array Value} {below : List Frame} {meth : Method} {c : Code} {T : State} {locs : List Loc} {cells slots : Nat} {Z : State} {a0 : Array Value} {h : Heap} {K : State → Outcome → Prop} {pc : Nat} {Ls l' : Array Slot} {S : List Value} {EL : List (String × Nat)} {vm0 : Vm} {k0 : Nat}
variable {y : MethodName} {bytes : ByteArray} {maxL W : Nat} {ret : Option FieldType} {rm : Room} {Q' : Option Value → Heap → List Loc → Prop} {own : String} {index : Nat} {b : Addr} {rest : List Value}
/-- a constructor that may load a literal -/
theorem own_cSpecW (X : Stand p l e R (s.setVm vm0) m args below meth c T locs cells slots) (hx : p.tables.exec = Jvm.exec) (hZ : Z.Warmed39 (s.setVm vm0).vm) (argsL : List Value) (hy1 : y.name = "<init>") (hown : (s.setVm vm0).vm.findClass own = some m.cls) (w1 : (Jvm.Cond.methodLink own index y).before a0 Z = true) (w2 : (Jvm.Cond.instanceMethod y).before a0 Z = true) (hy : y.cls ≠ "java/lang/invoke/MethodHandle" ∧ y.cls ≠ "java/lang/invoke/VarHandle")
    (wc : (Jvm.Cond.code y bytes maxL none).before a0 Z = true) (wz : (Jvm.Cond.initialized y.cls).before a0 Z = true) (eT : T.heap = h) (hM : own_MetW l y bytes maxL none [] rm Z EL (.ref b :: argsL).toArray h Q') (hEL : EW Z a0 EL) (hC : CHv Z EL vm0 h) (hS : s.Since vm0 k0) (hk : k0 ≤ h.size)
    (hsize : Ls.size = c.maxLocals) (hlen : ∀ sig, parseMethodDescriptor y.desc = some sig → argsL.length = sig.parameters.length) (hstack : S = argsL.reverse ++ .ref b :: rest) (hW : (rest.map fun v => v.category).sum ≤ W) (hd : decode c.code pc = .ok (.invokespecial index, 3)) (hf : rm.frames + 1 ≤ R.frames) (hl : W + (maxL + 11) + rm.locals ≤ R.locals) (hc : cells + rm.cells ≤ R.cells) (hs : slots + rm.slots ≤ R.slots)
    (hF : ∀ (v : Option Value) (T' : State) (L : List Loc), Stand p l e R (s.setVm T'.vm) m args below meth c T' (locs ++ L) (cells + rm.cells) (slots + rm.slots) → s.Since T'.vm T'.heap.size → Z.Warmed39 (s.setVm T'.vm).vm → (s.setVm T'.vm).vm.findClass own = some m.cls → CHr Z EL vm0 h T'.vm T'.heap → Q' v T'.heap L → own_At p e below K T' m (pc + 3) Ls (v.toList ++ rest)) : own_At p e below K T m pc Ls S := by
  subst hstack
  obtain ⟨v, vm1, ⟨T', L', k', n'⟩, -, X', hS', hg', ⟨L, hQ, hl', hk', hn', hR⟩, st⟩ := X.specialBackS hx (y := y) hy1 hown (mvT hZ w1) (mvT hZ w2) (mvT hZ wc) hy (backOfSH (W := W) hM hZ wc wz hf hl hEL hC) (g := mkF m pc Ls (argsL.reverse ++ .ref b :: rest)) rfl hsize (Steps.refl _) hlen rfl (by show 2 * 0 + _ ≤ _; omega) hd (fun _ _ => ⟨rfl, eT, hc, hs⟩)
  dsimp only [Pt.U, Pt.locs, Pt.cells, Pt.slots] at X' hS' hg' hl' hk' hn' hR st hQ
  subst hl' hk' hn'
  obtain ⟨X2, hS2, hZ2, ho2⟩ := rebS hS (by rw [eT]; exact hk) X' hS' hg' hZ hown
  exact own_step (fun t k => st.trans k) (hF v T' L X2 hS2 hZ2 ho2 hR hQ)
/-- a static method that may load a literal -/
theorem own_cStatW (X : Stand p l e R (s.setVm vm0) m args below meth c T locs cells slots) (hx : p.tables.exec = Jvm.exec) (hZ : Z.Warmed39 (s.setVm vm0).vm) (argsL : List Value) (hown : (s.setVm vm0).vm.findClass own = some m.cls) (w1 : (Jvm.Cond.methodLink own index y).before a0 Z = true) (w2 : (Jvm.Cond.static y).before a0 Z = true) (hy : y.cls ≠ "java/lang/invoke/MethodHandle" ∧ y.cls ≠ "java/lang/invoke/VarHandle")
    (wc : (Jvm.Cond.code y bytes maxL ret).before a0 Z = true) (wz : (Jvm.Cond.initialized y.cls).before a0 Z = true) (eT : T.heap = h) (hM : own_MetW l y bytes maxL ret [] rm Z EL argsL.toArray h Q') (hEL : EW Z a0 EL) (hC : CHv Z EL vm0 h) (hS : s.Since vm0 k0) (hk : k0 ≤ h.size)
    (hsize : Ls.size = c.maxLocals) (hlen : ∀ sig, parseMethodDescriptor y.desc = some sig → argsL.length = sig.parameters.length) (hstack : S = argsL.reverse ++ rest) (hW : (rest.map fun v => v.category).sum ≤ W) (hd : decode c.code pc = .ok (.invokestatic index, 3)) (hf : rm.frames + 1 ≤ R.frames) (hl : W + (maxL + 11) + rm.locals ≤ R.locals) (hc : cells + rm.cells ≤ R.cells) (hs : slots + rm.slots ≤ R.slots)
    (hF : ∀ (v : Option Value) (T' : State) (L : List Loc), Stand p l e R (s.setVm T'.vm) m args below meth c T' (locs ++ L) (cells + rm.cells) (slots + rm.slots) → s.Since T'.vm T'.heap.size → Z.Warmed39 (s.setVm T'.vm).vm → (s.setVm T'.vm).vm.findClass own = some m.cls → CHr Z EL vm0 h T'.vm T'.heap → Q' v T'.heap L → own_At p e below K T' m (pc + 3) Ls (v.toList ++ rest)) : own_At p e below K T m pc Ls S := by
  subst hstack
  obtain ⟨v, vm1, ⟨T', L', k', n'⟩, -, X', hS', hg', ⟨L, hQ, hl', hk', hn', hR⟩, st⟩ := callSS X hx (y := y) hown (mvT hZ w1) (mvT hZ w2) (mvT hZ wz) (mvT hZ wc) hy (backOfSH (W := W) hM hZ wc wz hf hl hEL hC) (g := mkF m pc Ls (argsL.reverse ++ rest)) rfl hsize hlen rfl (by show 2 * 0 + _ ≤ _; omega) hd (fun _ _ => ⟨rfl, eT, hc, hs⟩)
  dsimp only [Pt.U, Pt.locs, Pt.cells, Pt.slots] at X' hS' hg' hl' hk' hn' hR st hQ
  subst hl' hk' hn'
  obtain ⟨X2, hS2, hZ2, ho2⟩ := rebS hS (by rw [eT]; exact hk) X' hS' hg' hZ hown
  exact own_step (fun t k => st.trans k) (hF v T' L X2 hS2 hZ2 ho2 hR hQ)
/-- the empty literal -/
theorem own_ldcE (X : Stand p l e R (s.setVm vm0) m args below meth c T locs cells slots) (hx : p.tables.exec = Jvm.exec) (hZ : Z.Warmed39 (s.setVm vm0).vm) (hown : (s.setVm vm0).vm.findClass own = some m.cls) (w : (Jvm.Cond.stringLink own index "").before a0 Z = true) (wS : ∀ a ∈ Bundle.stringAtoms, a.before a0 Z = true) (eT : T.heap = h) (hEL : EW Z a0 EL) (hmem : (own, index) ∈ EL) (hC : CHv Z EL vm0 h) (hS : s.Since vm0 k0) (hk : k0 ≤ h.size) (hd : decode c.code pc = .ok (.ldc index, 2)) (hc : cells + 2 ≤ R.cells) (hl : slots + 4 ≤ R.slots)
    (hF : ∀ (a b : Addr) (T' : State) (h' : Heap) (k1 : Nat) (k : ClassId), Stand p l e R (s.setVm T'.vm) m args below meth c T' locs (cells + 2) (slots + 4) → T'.heap = h' → Ext h h' → s.Since T'.vm k1 → k1 ≤ h'.size → Z.Warmed39 (s.setVm T'.vm).vm → (s.setVm T'.vm).vm.findClass own = some m.cls → Exa Z h' a "java/lang/String" → Fld Z h' a "java/lang/String" "coder" "B" (.int (0 : Int32)) → Fld Z h' a "java/lang/String" "value" "[B" (.ref b) → Arv Z h' b k .byte (0 : Int32) [] (.int (0 : Int32)) → CHr Z EL vm0 h T'.vm h' → (∀ x, Safe Z EL T'.vm h' x → x ≠ a ∧ x ≠ b) → own_At p e below K T' m (pc + 2) Ls (.ref a :: S)) : own_At p e below K T m pc Ls S := by
  obtain ⟨a, T', h', k1, b, k, X', e', E', hS', hk', hZ', ho', Ea, Fc, Fv, Vb, -, -, hR, -, hs', st⟩ := ldcCH X hx hZ hown w wS eT hS hk hEL hmem hC (vs := []) (z := 0) ⟨by simp, rfl⟩ (by decide) rfl (g := mkF m pc Ls S) rfl hd (n := 0) (by decide) (by decide) hc hl
  exact own_step (fun t k => st _ k) (hF a b T' h' k1 k X' e' E' hS' hk' hZ' ho' Ea Fc Fv Vb hR hs')
/-- a fresh String is no booked one -/
theorem own_safeFresh {vm : Vm} {x : Addr} (hal : Z.vm.Alike vm) (E : Exa Z h x "java/lang/String") (F : Fld Z h x "java/lang/String" "value" "[B" .null) : Safe Z EL vm h x := fun B => by
  obtain ⟨cell, k, e1, e2, e3, -, -⟩ := E
  obtain ⟨cell', cf, kf, i, f, g1, g2, -, -, -, -, g7⟩ := F
  cases e1.symm.trans g1
  obtain ⟨p, -, u, a, -, q, -, Fq, rfl | rfl⟩ := B
  · cases (show h[q.sa]? = some q.sC from Fq.ha).symm.trans e1
    obtain ⟨cS, ⟨⟨s1, s2, s3, ⟨cv, kv, iv, s4, s4'⟩, s5, s6, s7, s8, -⟩, -⟩, -⟩ := Fq
    obtain ⟨k', z4⟩ := ff_back (U := Wst Z vm h) hal s4
    cases z4.symm.trans g2
    cases s8.symm.trans g7
  · cases (show h[q.sd]? = some q.SA from Fq.hd).symm.trans e1
    obtain ⟨cS, -, -, f2, -⟩ := Fq
    have f3 : Z.vm.findClass "[B" = some q.SA.cls := by rw [← hal.findClass]; exact f2
    obtain ⟨k1, q1, q2⟩ := Vm.findClass_spec f3
    obtain ⟨k2, q3, q4⟩ := Vm.findClass_spec e2
    cases q1.symm.trans q3
    exact absurd (q2.symm.trans q4) (by decide)
end OwnWide
abbrev own_Wd (a0 : Array Value) (Z : State) : Prop := ∀ d ∈ tables_1, d.before a0 Z = true
theorem own_ef {p : Program} {e : Env} {below : List Frame} {K : State → Outcome → Prop} {s₁ : State} {m : MethodId} {A : Array Value} {ML : Nat} {L0 : Array Slot} (ef : entryFrame m A ML = mkF m 0 L0 []) (hF : own_At p e below K s₁ m 0 L0 []) : own_Fin p e below K (s₁.setTop (entryFrame m A ML)) := by rw [ef]; exact hF
theorem own_m {Z : State} {a0 : Array Value} (hw : ∀ d ∈ tables_1, d.before a0 Z = true) (i : Nat) {d : Jvm.Cond} (h : tables_1[i]? = some d) : d.before a0 Z = true := hw _ (List.mem_of_getElem? h)
abbrev own_EL : List (String × Nat) := [("java/lang/String", 7)]
theorem own_ELw {Z : State} {a0 : Array Value} (hw : ∀ d ∈ tables_1, d.before a0 Z = true) : EW Z a0 own_EL := EW.cons (own_m hw 35 rfl) (by simp) EW.nil
theorem own_wS {Z : State} {a0 : Array Value} (hw : ∀ d ∈ tables_1, d.before a0 Z = true) : ∀ a ∈ Bundle.stringAtoms, a.before a0 Z = true := fun a ha => by
  simp only [Bundle.stringAtoms, Bundle.sN, List.mem_cons, List.not_mem_nil, or_false] at ha
  rcases ha with rfl | rfl | rfl | rfl | rfl | rfl | rfl
  · exact (own_m hw 7 rfl)
  · exact (own_m hw 6 rfl)
  · exact (own_m hw 24 rfl)
  · exact (own_m hw 34 rfl)
  · exact (own_m hw 32 rfl)
  · exact (own_m hw 36 rfl)
  · exact (own_m hw 37 rfl)
theorem own_b8 (x : Int32) : (x.toInt8.toInt32).toInt8.toInt32 = x.toInt8.toInt32 := by simp
def own_lo (x : Int32) : Int32 := ((x >>> ((0 : Int32) &&& 31)).toInt8.toInt32)
def own_hi (x : Int32) : Int32 := ((x >>> ((8 : Int32) &&& 31)).toInt8.toInt32)
def own_gc (y z : Int32) : Int32 := ((((y &&& (255 : Int32)) <<< ((0 : Int32) &&& 31)) ||| ((z &&& (255 : Int32)) <<< ((8 : Int32) &&& 31))).toUInt32.toUInt16.toUInt32.toInt32)
def own_lc (y : Int32) : Int32 := ((y &&& (255 : Int32)).toUInt32.toUInt16.toUInt32.toInt32)
theorem own_narcc (x : Int32) : nar .char (x.toUInt32.toUInt16.toUInt32.toInt32) = x.toUInt32.toUInt16.toUInt32.toInt32 := by
  have e := c_i2c x
  have e2 := c_i2c (x.toUInt32.toUInt16.toUInt32.toInt32)
  show (x.toUInt32.toUInt16.toUInt32.toInt32).toUInt32.toUInt16.toUInt32.toInt32 = _
  rw [← Int32.toInt_inj]
  omega
theorem own_nargc (y z : Int32) : nar .char (own_gc y z) = own_gc y z := own_narcc _
theorem own_narlc (y : Int32) : nar .char (own_lc y) = own_lc y := own_narcc _
theorem own_nar16 {x : Int32} (h0 : ¬ x < (0 : Int32)) (h1 : ¬ (65535 : Int32) < x) : nar .char x = x := by
  have e := c_i2c x
  have k0 : (0 : Int32).toInt = 0 := by decide
  have k1 : (65535 : Int32).toInt = 65535 := by decide
  simp only [Int32.lt_iff_toInt_lt, k0, k1] at h0 h1
  show x.toUInt32.toUInt16.toUInt32.toInt32 = x
  rw [← Int32.toInt_inj]
  omega
theorem own_gcc {c : Int32} (h0 : ¬ c < (0 : Int32)) (h1 : ¬ (65535 : Int32) < c) : (own_gc (own_lo c) (own_hi c)) = c := by
  show ((((((c >>> ((0 : Int32) &&& 31)).toInt8.toInt32) &&& (255 : Int32)) <<< ((0 : Int32) &&& 31)) ||| ((((c >>> ((8 : Int32) &&& 31)).toInt8.toInt32) &&& (255 : Int32)) <<< ((8 : Int32) &&& 31))).toUInt32.toUInt16.toUInt32.toInt32) = c
  have k0 : (0 : Int32).toInt = 0 := by decide
  have k1 : (65535 : Int32).toInt = 65535 := by decide
  simp only [Int32.lt_iff_toInt_lt, k0, k1] at h0 h1
  have s0 := c_ishr c 0 0 (by decide)
  have s8 := c_ishr c 8 8 (by decide)
  have b0 := c_i2b (c >>> ((0 : Int32) &&& 31))
  have b8 := c_i2b (c >>> ((8 : Int32) &&& 31))
  have m0 := c_mask ((c >>> ((0 : Int32) &&& 31)).toInt8.toInt32) 255 8 (by decide) (by decide)
  have m8 := c_mask ((c >>> ((8 : Int32) &&& 31)).toInt8.toInt32) 255 8 (by decide) (by decide)
  have t0 := c_ishl (((c >>> ((0 : Int32) &&& 31)).toInt8.toInt32) &&& (255 : Int32)) 0 0 (by decide)
  have t8 := c_ishl (((c >>> ((8 : Int32) &&& 31)).toInt8.toInt32) &&& (255 : Int32)) 8 8 (by decide)
  have o := c_or ((((c >>> ((8 : Int32) &&& 31)).toInt8.toInt32) &&& (255 : Int32)) <<< ((8 : Int32) &&& 31)) ((((c >>> ((0 : Int32) &&& 31)).toInt8.toInt32) &&& (255 : Int32)) <<< ((0 : Int32) &&& 31)) 8 (by decide) 256 (by decide)
  have r0 := rng32 ((((c >>> ((0 : Int32) &&& 31)).toInt8.toInt32) &&& (255 : Int32)) <<< ((0 : Int32) &&& 31))
  have r8 := rng32 ((((c >>> ((8 : Int32) &&& 31)).toInt8.toInt32) &&& (255 : Int32)) <<< ((8 : Int32) &&& 31))
  rw [Int32.or_comm] at o
  have i := c_i2c (((((c >>> ((0 : Int32) &&& 31)).toInt8.toInt32) &&& (255 : Int32)) <<< ((0 : Int32) &&& 31)) ||| ((((c >>> ((8 : Int32) &&& 31)).toInt8.toInt32) &&& (255 : Int32)) <<< ((8 : Int32) &&& 31)))
  rw [← Int32.toInt_inj]
  simp only [Nat.reducePow] at s0 s8 t0 t8
  omega
theorem d6_0 : decode jdk_52_method_21_code 0 = .ok (.iconst 0, 1) := by decide +kernel
theorem d6_1 : decode jdk_52_method_21_code 1 = .ok (.istore 5, 2) := by decide +kernel
theorem d6_3 : decode jdk_52_method_21_code 3 = .ok (.iload 5, 2) := by decide +kernel
theorem d6_5 : decode jdk_52_method_21_code 5 = .ok (.iload 4, 2) := by decide +kernel
theorem d6_7 : decode jdk_52_method_21_code 7 = .ok (.if_icmp .ge 37, 3) := by decide +kernel
theorem d6_10 : decode jdk_52_method_21_code 10 = .ok (.aload_n 0, 1) := by decide +kernel
theorem d6_11 : decode jdk_52_method_21_code 11 = .ok (.iload_n 1, 1) := by decide +kernel
theorem d6_12 : decode jdk_52_method_21_code 12 = .ok (.caload, 1) := by decide +kernel
theorem d6_13 : decode jdk_52_method_21_code 13 = .ok (.istore 6, 2) := by decide +kernel
theorem d6_15 : decode jdk_52_method_21_code 15 = .ok (.iload 6, 2) := by decide +kernel
theorem d6_17 : decode jdk_52_method_21_code 17 = .ok (.sipush 255, 3) := by decide +kernel
theorem d6_20 : decode jdk_52_method_21_code 20 = .ok (.if_icmp .le 6, 3) := by decide +kernel
theorem d6_23 : decode jdk_52_method_21_code 23 = .ok (.iload 5, 2) := by decide +kernel
theorem d6_25 : decode jdk_52_method_21_code 25 = .ok (.ireturn, 1) := by decide +kernel
theorem d6_26 : decode jdk_52_method_21_code 26 = .ok (.aload_n 2, 1) := by decide +kernel
theorem d6_27 : decode jdk_52_method_21_code 27 = .ok (.iload_n 3, 1) := by decide +kernel
theorem d6_28 : decode jdk_52_method_21_code 28 = .ok (.iload 6, 2) := by decide +kernel
theorem d6_30 : decode jdk_52_method_21_code 30 = .ok (.i2b, 1) := by decide +kernel
theorem d6_31 : decode jdk_52_method_21_code 31 = .ok (.bastore, 1) := by decide +kernel
theorem d6_32 : decode jdk_52_method_21_code 32 = .ok (.iinc 1 1, 3) := by decide +kernel
theorem d6_35 : decode jdk_52_method_21_code 35 = .ok (.iinc 3 1, 3) := by decide +kernel
theorem d6_38 : decode jdk_52_method_21_code 38 = .ok (.iinc 5 1, 3) := by decide +kernel
theorem d6_41 : decode jdk_52_method_21_code 41 = .ok (.goto (-38), 3) := by decide +kernel
theorem d6_44 : decode jdk_52_method_21_code 44 = .ok (.iload 4, 2) := by decide +kernel
theorem d6_46 : decode jdk_52_method_21_code 46 = .ok (.ireturn, 1) := by decide +kernel
theorem pn_0 : plainName "java/lang/StringUTF16" = true := by first | (simp [plainName, overriddenIn]; done) | decide +kernel
set_option maxRecDepth 65536 in
set_option maxHeartbeats 40000000 in
theorem rmC2_1 (l : Launch) (Z : State) (a0 : Array Value) (hw : own_Wd a0 Z) (ws : List Jvm.Cond) (ca ba : Addr) (kc kb : ClassId) (c0 : Int32)  (h0 : Heap) (n0 : Nat) (Z0 : n0 ≤ h0.size) (Vc : Arv Z h0 ca kc .char (1 : Int32) [(.int c0)] (.int 0)) (Vb : Arv Z h0 ba kb .byte (1 : Int32) [(.int 0)] (.int 0)) (g_ba : n0 ≤ ba) (hne : ca ≠ ba) (hx0 : ¬ ((255 : Int32) < c0)) :
    own_Met l (⟨"java/lang/StringUTF16", "compress", "([CI[BII)I"⟩ : MethodName) jdk_52_method_21_code 7 (some .int) ws ({ frames := 0, cells := 0, slots := 0, locals := 0 } : Room) Z #[(.ref ca), (.int 0), (.ref ba), (.int 0), (.int 1)] h0 (fun v h L => v = some (.int 1) ∧ Fr n0 L ∧ Keep h0 h [ba] ∧ Arv Z h ba kb .byte (1 : Int32) [(.int (c0.toInt8.toInt32))] (.int 0)) := by
  refine own_body (plainFor_of_name pn_0) ?_
  intro p e s m below meth c s₁ X0 hx hby hml hown hnm hret hlk hZ e0
  replace hown : s.vm.findClass "java/lang/StringUTF16" = some m.cls := hown
  replace hml : c.maxLocals = 7 := hml
  replace hret : meth.sig.returnType = (some .int) := hret
  have N0 := Fr.nil n0
  refine own_ef (L0 := #[.val (.ref ca), .val (.int 0), .val (.ref ba), .val (.int 0), .val (.int 1), .unset, .unset]) (by first | (simp [entryFrame, mkF, argsToLocals, Value.category]; done) | rfl) ?_
  refine own_iconst X0 hx 0 (hb hby d6_0) rfl ?_
  refine own_istore (l' := #[.val (.ref ca), .val (.int 0), .val (.ref ba), .val (.int 0), .val (.int 1), .val (.int 0), .unset]) X0 hx (hb hby d6_1) rfl ?_
  refine own_iload X0 hx (hb hby d6_3) rfl ?_
  refine own_iload X0 hx (hb hby d6_5) rfl ?_
  refine own_icmpNo X0 hx (hb hby d6_7) (tlt (by decide : (0 : Int32) < (1 : Int32))).2.1 ?_
  refine own_aloadN X0 hx (hb hby d6_10) rfl rfl ?_
  refine own_iloadN X0 hx (hb hby d6_11) rfl ?_
  refine own_caload X0 hx hZ (.int c0) e0 Vc ⟨by decide, by decide⟩ rfl (hb hby d6_12) ?_
  refine own_istore (l' := #[.val (.ref ca), .val (.int 0), .val (.ref ba), .val (.int 0), .val (.int 1), .val (.int 0), .val (.int c0)]) X0 hx (hb hby d6_13) rfl ?_
  refine own_iload X0 hx (hb hby d6_15) rfl ?_
  refine own_sipush X0 hx 255 (hb hby d6_17) rfl ?_
  refine own_icmpYes X0 hx 26 (hb hby d6_20) (flt hx0).2.2.2 (by decide) (by decide) ?_
  refine own_aloadN X0 hx (hb hby d6_26) rfl rfl ?_
  refine own_iloadN X0 hx (hb hby d6_27) rfl ?_
  refine own_iload X0 hx (hb hby d6_28) rfl ?_
  refine own_i2b X0 hx (hb hby d6_30) ?_
  refine own_stB (vs' := [(.int (c0.toInt8.toInt32))]) (w := (.int (c0.toInt8.toInt32))) X0 hx hZ e0 Vb ⟨by decide, by decide⟩ 0 rfl (Nat.le_of_ble_eq_true rfl) (congrArg Value.int (own_b8 _)) rfl (hb hby d6_31) fun T1 h1 X1 e1 W1 V1 => ?_
  have N1 := Fr.snoc X1 N0 g_ba
  refine own_iinc (l' := #[.val (.ref ca), .val (.int ((0 : Int32) + (1 : Int32))), .val (.ref ba), .val (.int 0), .val (.int 1), .val (.int 0), .val (.int c0)]) X1 hx (hb hby d6_32) rfl rfl ?_
  rw [show ((0 : Int32) + (1 : Int32)) = (1 : Int32) from by decide]
  refine own_iinc (l' := #[.val (.ref ca), .val (.int 1), .val (.ref ba), .val (.int ((0 : Int32) + (1 : Int32))), .val (.int 1), .val (.int 0), .val (.int c0)]) X1 hx (hb hby d6_35) rfl rfl ?_
  rw [show ((0 : Int32) + (1 : Int32)) = (1 : Int32) from by decide]
  refine own_iinc (l' := #[.val (.ref ca), .val (.int 1), .val (.ref ba), .val (.int 1), .val (.int 1), .val (.int ((0 : Int32) + (1 : Int32))), .val (.int c0)]) X1 hx (hb hby d6_38) rfl rfl ?_
  rw [show ((0 : Int32) + (1 : Int32)) = (1 : Int32) from by decide]
  refine own_goto X1 hx 3 (hb hby d6_41) (by decide) (by decide) ?_
  refine own_iload X1 hx (hb hby d6_3) rfl ?_
  refine own_iload X1 hx (hb hby d6_5) rfl ?_
  refine own_icmpYes X1 hx 44 (hb hby d6_7) (flt (by decide : ¬ ((1 : Int32) < (1 : Int32)))).2.1 (by decide) (by decide) ?_
  refine own_iload X1 hx (hb hby d6_44) rfl ?_
  refine own_retI X1 hx hlk hret (hb hby d6_46) (own_kN (by decide) (by decide) ?_)
  try rw [e1]
  exact ⟨rfl, N1, (Keep.wr (Keep.refl h0 [ba]) W1 (Or.inl (List.mem_of_getElem? (i := 0) rfl))), V1⟩
theorem d5_0 : decode jdk_52_method_16_code 0 = .ok (.iload_n 2, 1) := by decide +kernel
theorem d5_1 : decode jdk_52_method_16_code 1 = .ok (.newarray .byte, 2) := by decide +kernel
theorem d5_3 : decode jdk_52_method_16_code 3 = .ok (.astore_n 3, 1) := by decide +kernel
theorem d5_4 : decode jdk_52_method_16_code 4 = .ok (.aload_n 0, 1) := by decide +kernel
theorem d5_5 : decode jdk_52_method_16_code 5 = .ok (.iload_n 1, 1) := by decide +kernel
theorem d5_6 : decode jdk_52_method_16_code 6 = .ok (.aload_n 3, 1) := by decide +kernel
theorem d5_7 : decode jdk_52_method_16_code 7 = .ok (.iconst 0, 1) := by decide +kernel
theorem d5_8 : decode jdk_52_method_16_code 8 = .ok (.iload_n 2, 1) := by decide +kernel
theorem d5_9 : decode jdk_52_method_16_code 9 = .ok (.invokestatic 115, 3) := by decide +kernel
theorem d5_12 : decode jdk_52_method_16_code 12 = .ok (.istore 4, 2) := by decide +kernel
theorem d5_14 : decode jdk_52_method_16_code 14 = .ok (.iload 4, 2) := by decide +kernel
theorem d5_16 : decode jdk_52_method_16_code 16 = .ok (.iload_n 2, 1) := by decide +kernel
theorem d5_17 : decode jdk_52_method_16_code 17 = .ok (.if_icmp .eq 40, 3) := by decide +kernel
theorem d5_20 : decode jdk_52_method_16_code 20 = .ok (.aload_n 0, 1) := by decide +kernel
theorem d5_21 : decode jdk_52_method_16_code 21 = .ok (.iload_n 1, 1) := by decide +kernel
theorem d5_22 : decode jdk_52_method_16_code 22 = .ok (.iload_n 2, 1) := by decide +kernel
theorem d5_23 : decode jdk_52_method_16_code 23 = .ok (.invokestatic 119, 3) := by decide +kernel
theorem d5_26 : decode jdk_52_method_16_code 26 = .ok (.astore 5, 2) := by decide +kernel
theorem d5_28 : decode jdk_52_method_16_code 28 = .ok (.aload 5, 2) := by decide +kernel
theorem d5_30 : decode jdk_52_method_16_code 30 = .ok (.iload 4, 2) := by decide +kernel
theorem d5_32 : decode jdk_52_method_16_code 32 = .ok (.invokestatic 71, 3) := by decide +kernel
theorem d5_35 : decode jdk_52_method_16_code 35 = .ok (.sipush 255, 3) := by decide +kernel
theorem d5_38 : decode jdk_52_method_16_code 38 = .ok (.if_icmp .gt 16, 3) := by decide +kernel
theorem d5_54 : decode jdk_52_method_16_code 54 = .ok (.aload 5, 2) := by decide +kernel
theorem d5_56 : decode jdk_52_method_16_code 56 = .ok (.areturn, 1) := by decide +kernel
theorem d5_57 : decode jdk_52_method_16_code 57 = .ok (.aload_n 3, 1) := by decide +kernel
theorem d5_58 : decode jdk_52_method_16_code 58 = .ok (.areturn, 1) := by decide +kernel
theorem pd_0 : parseMethodDescriptor "([CI[BII)I" = some ⟨[(.array .char), .int, (.array .byte), .int, .int], some .int⟩ := by decide +kernel
set_option maxRecDepth 65536 in
set_option maxHeartbeats 40000000 in
theorem rmC1_1 (l : Launch) (Z : State) (a0 : Array Value) (hw : own_Wd a0 Z) (ws : List Jvm.Cond) (ca : Addr) (kc : ClassId) (c0 : Int32)  (h0 : Heap) (n0 : Nat) (Z0 : n0 ≤ h0.size) (Vc : Arv Z h0 ca kc .char (1 : Int32) [(.int c0)] (.int 0)) (hx0 : ¬ ((255 : Int32) < c0)) :
    own_Met l (⟨"java/lang/StringUTF16", "compress", "([CII)[B"⟩ : MethodName) jdk_52_method_16_code 6 (some (.array .byte)) ws ({ frames := 1, cells := 1, slots := 1, locals := 18 } : Room) Z #[(.ref ca), (.int 0), (.int 1)] h0 (fun v h L => ∃ b k, v = some (.ref b) ∧ Fr n0 L ∧ Keep h0 h [] ∧ h0.size ≤ b ∧ n0 ≤ b ∧ Exa Z h b "[B" ∧ Arv Z h b k .byte (1 : Int32) [(.int (c0.toInt8.toInt32))] (.int 0)) := by
  refine own_body (plainFor_of_name pn_0) ?_
  intro p e s m below meth c s₁ X0 hx hby hml hown hnm hret hlk hZ e0
  replace hown : s.vm.findClass "java/lang/StringUTF16" = some m.cls := hown
  replace hml : c.maxLocals = 6 := hml
  replace hret : meth.sig.returnType = (some (.array .byte)) := hret
  have N0 := Fr.nil n0
  refine own_ef (L0 := #[.val (.ref ca), .val (.int 0), .val (.int 1), .unset, .unset, .unset]) (by first | (simp [entryFrame, mkF, argsToLocals, Value.category]; done) | rfl) ?_
  refine own_iloadN X0 hx (hb hby d5_0) rfl ?_
  refine own_newP (n := (1 : Int32)) (cap := 1) (ad := "[B") X0 hx hZ (own_m hw 24 rfl) e0 (hb hby d5_1) (by decide) (by decide) (by decide) (by decide) (by decide) (by decide) fun T2 h2 k2 b2 g2 X2 e2 E2 A2 Ex2 => ?_
  have g_b2 : n0 ≤ b2 := Nat.le_trans Z0 (Nat.le_of_eq g2.symm)
  have szo_b2 : h0.size ≤ b2 := Nat.le_trans (Nat.le_refl h0.size) (Nat.le_of_eq g2.symm)
  have V2 : Arv Z h2 b2 k2 .byte (1 : Int32) [(.int 0)] (.int 0) := (Arv.new A2 (by decide)).pad (pad_rep [] (.int 0) 1)
  refine own_astoreN (l' := #[.val (.ref ca), .val (.int 0), .val (.int 1), .val (.ref b2), .unset, .unset]) X2 hx (hb hby d5_3) rfl rfl ?_
  refine own_aloadN X2 hx (hb hby d5_4) rfl rfl ?_
  refine own_iloadN X2 hx (hb hby d5_5) rfl ?_
  refine own_aloadN X2 hx (hb hby d5_6) rfl rfl ?_
  refine own_iconst X2 hx 0 (hb hby d5_7) rfl ?_
  refine own_iloadN X2 hx (hb hby d5_8) rfl ?_
  refine own_cStat (W := 0) (rest := []) X2 hx hZ [(.ref ca), (.int 0), (.ref b2), (.int 0), (.int 1)] hown (own_m hw 25 rfl) (own_m hw 26 rfl) (by decide) (own_m hw 27 rfl) (own_m hw 22 rfl) e2 (rmC2_1 l Z a0 hw [] ca b2 kc k2 c0 h2 n0 (Nat.le_trans Z0 E2.1) (Vc.ext E2) V2 g_b2 (Nat.ne_of_lt (Nat.lt_of_lt_of_le Vc.lt (Nat.le_of_eq g2.symm))) hx0) (by rw [hml]; rfl) (lenOf pd_0 rfl) rfl (Nat.le_of_eq rfl) (hb hby d5_9) (by decide) (by decide) (by decide) (by decide) fun v3 T3 L3 X3 hQ3 => ?_
  obtain ⟨rfl, N3q, K3, Vb3⟩ := hQ3
  have N3 := Fr.app N0 N3q
  show own_At p e below _ T3 m 12 _ [(.int 1)]
  refine own_istore (l' := #[.val (.ref ca), .val (.int 0), .val (.int 1), .val (.ref b2), .val (.int 1), .unset]) X3 hx (hb hby d5_12) rfl ?_
  refine own_iload X3 hx (hb hby d5_14) rfl ?_
  refine own_iloadN X3 hx (hb hby d5_16) rfl ?_
  refine own_icmpYes X3 hx 57 (hb hby d5_17) (teq (by decide : (1 : Int32) = (1 : Int32))).1 (by decide) (by decide) ?_
  refine own_aloadN X3 hx (hb hby d5_57) rfl rfl ?_
  refine own_retA X3 hx hlk hret rfl rfl rfl (hb hby d5_58) (own_kN (by decide) (by decide) ?_)
  exact ⟨b2, k2, rfl, N3, (Keep.trans (Keep.ext (Keep.refl h0 []) E2) K3 (allS (Or.inr szo_b2) all0)), szo_b2, g_b2, (Exa.keep Ex2 K3), Vb3⟩
theorem d7_0 : decode jdk_52_method_15_code 0 = .ok (.iload_n 1, 1) := by decide +kernel
theorem d7_1 : decode jdk_52_method_15_code 1 = .ok (.aload_n 0, 1) := by decide +kernel
theorem d7_2 : decode jdk_52_method_15_code 2 = .ok (.arraylength, 1) := by decide +kernel
theorem d7_3 : decode jdk_52_method_15_code 3 = .ok (.isub, 1) := by decide +kernel
theorem d7_4 : decode jdk_52_method_15_code 4 = .ok (.bipush 31, 2) := by decide +kernel
theorem d7_6 : decode jdk_52_method_15_code 6 = .ok (.iushr, 1) := by decide +kernel
theorem d7_7 : decode jdk_52_method_15_code 7 = .ok (.i2b, 1) := by decide +kernel
theorem d7_8 : decode jdk_52_method_15_code 8 = .ok (.ireturn, 1) := by decide +kernel
set_option maxRecDepth 65536 in
set_option maxHeartbeats 40000000 in
theorem rmCF_1 (l : Launch) (Z : State) (a0 : Array Value) (hw : own_Wd a0 Z) (ws : List Jvm.Cond) (ba : Addr)  (h0 : Heap) (n0 : Nat) (Z0 : n0 ≤ h0.size) (A : own_Aln Z h0 ba .byte (1 : Int32)) :
    own_Met l (⟨"java/lang/StringUTF16", "coderFromArrayLen", "([BI)B"⟩ : MethodName) jdk_52_method_15_code 2 (some .byte) ws ({ frames := 0, cells := 0, slots := 0, locals := 0 } : Room) Z #[(.ref ba), (.int 1)] h0 (fun v h L => v = some (.int 0) ∧ Fr n0 L ∧ h = h0) := by
  refine own_body (plainFor_of_name pn_0) ?_
  intro p e s m below meth c s₁ X0 hx hby hml hown hnm hret hlk hZ e0
  replace hown : s.vm.findClass "java/lang/StringUTF16" = some m.cls := hown
  replace hml : c.maxLocals = 2 := hml
  replace hret : meth.sig.returnType = (some .byte) := hret
  have N0 := Fr.nil n0
  refine own_ef (L0 := #[.val (.ref ba), .val (.int 1)]) (by first | (simp [entryFrame, mkF, argsToLocals, Value.category]; done) | rfl) ?_
  refine own_iloadN X0 hx (hb hby d7_0) rfl ?_
  refine own_aloadN X0 hx (hb hby d7_1) rfl rfl ?_
  refine own_arraylength X0 hx hZ e0 A (hb hby d7_2) ?_
  refine own_isub X0 hx (hb hby d7_3) ?_
  rw [show ((1 : Int32) - (1 : Int32)) = (0 : Int32) from by decide]
  refine own_bipush X0 hx 31 (hb hby d7_4) rfl ?_
  refine own_iushr X0 hx (hb hby d7_6) ?_
  rw [show (((0 : Int32).toUInt32 >>> ((31 : Int32) &&& 31).toUInt32).toInt32) = (0 : Int32) from by decide]
  refine own_i2b X0 hx (hb hby d7_7) ?_
  rw [show ((0 : Int32).toInt8.toInt32) = (0 : Int32) from by decide]
  refine own_retN X0 hx hlk hret (by simp) (by decide) (hb hby d7_8) (own_kN (by decide) (by decide) ?_)
  try rw [e0]
  exact ⟨rfl, N0, rfl⟩
theorem d3_0 : decode jdk_42_method_149_code 0 = .ok (.aload_n 0, 1) := by decide +kernel
theorem d3_1 : decode jdk_42_method_149_code 1 = .ok (.invokespecial 1, 3) := by decide +kernel
theorem d3_4 : decode jdk_42_method_149_code 4 = .ok (.iload_n 3, 1) := by decide +kernel
theorem d3_5 : decode jdk_42_method_149_code 5 = .ok (.ifCond .ne 22, 3) := by decide +kernel
theorem d3_8 : decode jdk_42_method_149_code 8 = .ok (.aload_n 0, 1) := by decide +kernel
theorem d3_9 : decode jdk_42_method_149_code 9 = .ok (.ldc 7, 2) := by decide +kernel
theorem d3_11 : decode jdk_42_method_149_code 11 = .ok (.getfield 9, 3) := by decide +kernel
theorem d3_14 : decode jdk_42_method_149_code 14 = .ok (.putfield 9, 3) := by decide +kernel
theorem d3_17 : decode jdk_42_method_149_code 17 = .ok (.aload_n 0, 1) := by decide +kernel
theorem d3_18 : decode jdk_42_method_149_code 18 = .ok (.ldc 7, 2) := by decide +kernel
theorem d3_20 : decode jdk_42_method_149_code 20 = .ok (.getfield 15, 3) := by decide +kernel
theorem d3_23 : decode jdk_42_method_149_code 23 = .ok (.putfield 15, 3) := by decide +kernel
theorem d3_26 : decode jdk_42_method_149_code 26 = .ok (.return_, 1) := by decide +kernel
theorem d3_27 : decode jdk_42_method_149_code 27 = .ok (.getstatic 38, 3) := by decide +kernel
theorem d3_30 : decode jdk_42_method_149_code 30 = .ok (.ifCond .eq 28, 3) := by decide +kernel
theorem d3_33 : decode jdk_42_method_149_code 33 = .ok (.aload_n 1, 1) := by decide +kernel
theorem d3_34 : decode jdk_42_method_149_code 34 = .ok (.iload_n 2, 1) := by decide +kernel
theorem d3_35 : decode jdk_42_method_149_code 35 = .ok (.iload_n 3, 1) := by decide +kernel
theorem d3_36 : decode jdk_42_method_149_code 36 = .ok (.invokestatic 177, 3) := by decide +kernel
theorem d3_39 : decode jdk_42_method_149_code 39 = .ok (.astore 5, 2) := by decide +kernel
theorem d3_41 : decode jdk_42_method_149_code 41 = .ok (.aload_n 0, 1) := by decide +kernel
theorem d3_42 : decode jdk_42_method_149_code 42 = .ok (.aload 5, 2) := by decide +kernel
theorem d3_44 : decode jdk_42_method_149_code 44 = .ok (.iload_n 3, 1) := by decide +kernel
theorem d3_45 : decode jdk_42_method_149_code 45 = .ok (.invokestatic 47, 3) := by decide +kernel
theorem d3_48 : decode jdk_42_method_149_code 48 = .ok (.putfield 15, 3) := by decide +kernel
theorem d3_51 : decode jdk_42_method_149_code 51 = .ok (.aload_n 0, 1) := by decide +kernel
theorem d3_52 : decode jdk_42_method_149_code 52 = .ok (.aload 5, 2) := by decide +kernel
theorem d3_54 : decode jdk_42_method_149_code 54 = .ok (.putfield 9, 3) := by decide +kernel
theorem d3_57 : decode jdk_42_method_149_code 57 = .ok (.return_, 1) := by decide +kernel
theorem pn_1 : plainName "java/lang/String" = true := by first | (simp [plainName, overriddenIn]; done) | decide +kernel
theorem pd_1 : parseMethodDescriptor "([CII)[B" = some ⟨[(.array .char), .int, .int], some (.array .byte)⟩ := by decide +kernel
theorem pd_2 : parseMethodDescriptor "([BI)B" = some ⟨[(.array .byte), .int], some .byte⟩ := by decide +kernel
set_option maxRecDepth 65536 in
set_option maxHeartbeats 40000000 in
theorem rmI2_1 (l : Launch) (Z : State) (a0 : Array Value) (hw : own_Wd a0 Z) (ws : List Jvm.Cond) (a ca : Addr) (kc : ClassId) (cs c0 : Int32)  (h0 : Heap) (n0 : Nat) (Z0 : n0 ≤ h0.size) (Ea : Exa Z h0 a "java/lang/String") (Fv : Fld Z h0 a "java/lang/String" "value" "[B" .null) (Fc : Fld Z h0 a "java/lang/String" "coder" "B" (.int 0)) (g_a : n0 ≤ a) (Sc : Sta Z h0 "java/lang/String" "COMPACT_STRINGS" "Z" (.int cs)) (hcs : ¬ (cs = (0 : Int32))) (Vc : Arv Z h0 ca kc .char (1 : Int32) [(.int c0)] (.int 0)) (Ecs : Exa Z h0 ca "[C") (hx0 : ¬ ((255 : Int32) < c0)) :
    own_Met l (⟨"java/lang/String", "<init>", "([CIILjava/lang/Void;)V"⟩ : MethodName) jdk_42_method_149_code 6 none ws ({ frames := 2, cells := 1, slots := 1, locals := 35 } : Room) Z #[(.ref a), (.ref ca), (.int 0), (.int 1), .null] h0 (fun v h L => v = none ∧ Fr n0 L ∧ Keep h0 h [a] ∧ ∃ b k, h0.size ≤ b ∧ Exa Z h b "[B" ∧ Exa Z h a "java/lang/String" ∧ Fld Z h a "java/lang/String" "value" "[B" (.ref b) ∧ Fld Z h a "java/lang/String" "coder" "B" (.int 0) ∧ Arv Z h b k .byte (1 : Int32) [(.int (c0.toInt8.toInt32))] (.int 0)) := by
  refine own_body (plainFor_of_name pn_1) ?_
  intro p e s m below meth c s₁ X0 hx hby hml hown hnm hret hlk hZ e0
  replace hown : s.vm.findClass "java/lang/String" = some m.cls := hown
  replace hml : c.maxLocals = 6 := hml
  replace hret : meth.sig.returnType = none := hret
  have N0 := Fr.nil n0
  refine own_ef (L0 := #[.val (.ref a), .val (.ref ca), .val (.int 0), .val (.int 1), .val .null, .unset]) (by first | (simp [entryFrame, mkF, argsToLocals, Value.category]; done) | rfl) ?_
  refine own_aloadN X0 hx (hb hby d3_0) rfl rfl ?_
  refine own_initO (W := 0) X0 hx hZ hown (own_m hw 16 rfl) (own_m hw 17 rfl) (own_m hw 18 rfl) e0 (by rw [hml]; rfl) (hb hby d3_1) (by decide) (Nat.le_of_eq rfl) (by decide) fun T4 X4 e4 => ?_
  refine own_iloadN X4 hx (hb hby d3_4) rfl ?_
  refine own_ifYes X4 hx 27 (hb hby d3_5) (feq (by decide : ¬ ((1 : Int32) = (0 : Int32)))).2 (by decide) (by decide) ?_
  refine own_getS X4 hx hZ hown (host := "") (Or.inl (own_m hw 19 rfl)) Via.refl e4 Sc (hb hby d3_27) fun T5 X5 e5 => ?_
  refine own_ifNo X5 hx (hb hby d3_30) (feq hcs).1 ?_
  refine own_aloadN X5 hx (hb hby d3_33) rfl rfl ?_
  refine own_iloadN X5 hx (hb hby d3_34) rfl ?_
  refine own_iloadN X5 hx (hb hby d3_35) rfl ?_
  refine own_cStat (W := 0) (rest := []) X5 hx hZ [(.ref ca), (.int 0), (.int 1)] hown (own_m hw 20 rfl) (own_m hw 21 rfl) (by decide) (own_m hw 23 rfl) (own_m hw 22 rfl) e5 (rmC1_1 l Z a0 hw [] ca kc c0 h0 n0 Z0 Vc hx0) (by rw [hml]; rfl) (lenOf pd_1 rfl) rfl (Nat.le_of_eq rfl) (hb hby d3_36) (by decide) (by decide) (by decide) (by decide) fun v6 T6 L6 X6 hQ6 => ?_
  obtain ⟨b6, kb6, rfl, N6q, K6, szb6, gb6, Eb6, Vb6⟩ := hQ6
  have N6 := Fr.app N0 N6q
  have szo_b6 : h0.size ≤ b6 := Nat.le_trans (Nat.le_refl h0.size) szb6
  show own_At p e below _ T6 m 39 _ [(.ref b6)]
  refine own_astore (l' := #[.val (.ref a), .val (.ref ca), .val (.int 0), .val (.int 1), .val .null, .val (.ref b6)]) X6 hx (hb hby d3_39) rfl rfl ?_
  refine own_aloadN X6 hx (hb hby d3_41) rfl rfl ?_
  refine own_aload X6 hx (hb hby d3_42) rfl rfl ?_
  refine own_iloadN X6 hx (hb hby d3_44) rfl ?_
  refine own_cStat (W := 1) (rest := [(.ref a)]) X6 hx hZ [(.ref b6), (.int 1)] hown (own_m hw 28 rfl) (own_m hw 29 rfl) (by decide) (own_m hw 30 rfl) (own_m hw 22 rfl) rfl (rmCF_1 l Z a0 hw [] b6 T6.heap n0 (Nat.le_trans Z0 K6.1) (own_alnV Vb6)) (by rw [hml]; rfl) (lenOf pd_2 rfl) rfl (Nat.le_of_eq rfl) (hb hby d3_45) (by decide) (by decide) (by decide) (by decide) fun v7 T7 L7 X7 hQ7 => ?_
  obtain ⟨rfl, N7q, e7⟩ := hQ7
  have N7 := Fr.app N6 N7q
  show own_At p e below _ T7 m 48 _ [(.int 0), (.ref a)]
  obtain ⟨T8, h8, X8, e8, W8, st8⟩ := putFN X7 hx hZ hown (own_m hw 31 rfl) Via.refl e7 (Fld.keep Fc K6 nin0) (Exa.keep Ea K6) (Or.inr ⟨(own_m hw 32 rfl), rfl, hnm⟩) (own_m hw 6 rfl) (ty := .byte) (v' := (.int 0)) (by decide) rfl rfl (g := (mkF m 48 #[.val (.ref a), .val (.ref ca), .val (.int 0), .val (.int 1), .val .null, .val (.ref b6)] [(.int 0), (.ref a)])) rfl rfl (hb hby d3_48)
  refine own_step (S' := (T8.setTop (mkF m 51 #[.val (.ref a), .val (.ref ca), .val (.int 0), .val (.int 1), .val .null, .val (.ref b6)] []))) (fun _ k => st8 _ k) ?_
  have Fw8 := Fld.same W8 (Fld.keep Fc K6 nin0)
  have N8 := Fr.snoc X8 N7 g_a
  refine own_aloadN X8 hx (hb hby d3_51) rfl rfl ?_
  refine own_aload X8 hx (hb hby d3_52) rfl rfl ?_
  refine own_putF X8 hx hZ hown (host := "") (Or.inl (own_m hw 33 rfl)) Via.refl e8 (Fld.other W8 (Fld.keep Fv K6 nin0) (Or.inr (slot_ne (Or.inr (own_m hw 34 rfl)) (Or.inr (own_m hw 32 rfl)) (by decide) (t := (.array .byte)) (t' := .byte) (by decide) (by decide)))) (Exa.wr W8 (Exa.keep Ea K6)) (Or.inr ⟨(own_m hw 34 rfl), rfl, hnm⟩) (own_m hw 6 rfl) (ty := (.array .byte)) (by decide) rfl rfl (hb hby d3_54) fun T9 h9 X9 e9 W9 => ?_
  have Fw9 := Fld.same W9 (Fld.other W8 (Fld.keep Fv K6 nin0) (Or.inr (slot_ne (Or.inr (own_m hw 34 rfl)) (Or.inr (own_m hw 32 rfl)) (by decide) (t := (.array .byte)) (t' := .byte) (by decide) (by decide))))
  have N9 := Fr.snoc X9 N8 g_a
  refine own_retV X9 hx hlk hret (hb hby d3_57) (own_kN (by decide) (by decide) ?_)
  try rw [e9]
  exact ⟨rfl, N9, (Keep.wr (Keep.wr (Keep.trans (Keep.refl h0 [a]) K6 all0) W8 (Or.inl (List.mem_of_getElem? (i := 0) rfl))) W9 (Or.inl (List.mem_of_getElem? (i := 0) rfl))), b6, kb6, szo_b6, (Exa.wr W9 (Exa.wr W8 Eb6)), (Exa.wr W9 (Exa.wr W8 (Exa.keep Ea K6))), Fw9, (Fld.other W9 Fw8 (Or.inr (slot_ne (Or.inr (own_m hw 32 rfl)) (Or.inr (own_m hw 34 rfl)) (by decide) (t := .byte) (t' := (.array .byte)) (by decide) (by decide)))), (Arv.other (Arv.other Vb6 W8 (Ne.symm (Nat.ne_of_lt (Nat.lt_of_lt_of_le Ea.lt szb6)))) W9 (Ne.symm (Nat.ne_of_lt (Nat.lt_of_lt_of_le Ea.lt szb6))))⟩
theorem d2_0 : decode jdk_42_method_3_code 0 = .ok (.aload_n 0, 1) := by decide +kernel
theorem d2_1 : decode jdk_42_method_3_code 1 = .ok (.aload_n 1, 1) := by decide +kernel
theorem d2_2 : decode jdk_42_method_3_code 2 = .ok (.iconst 0, 1) := by decide +kernel
theorem d2_3 : decode jdk_42_method_3_code 3 = .ok (.aload_n 1, 1) := by decide +kernel
theorem d2_4 : decode jdk_42_method_3_code 4 = .ok (.arraylength, 1) := by decide +kernel
theorem d2_5 : decode jdk_42_method_3_code 5 = .ok (.aconst_null, 1) := by decide +kernel
theorem d2_6 : decode jdk_42_method_3_code 6 = .ok (.invokespecial 27, 3) := by decide +kernel
theorem d2_9 : decode jdk_42_method_3_code 9 = .ok (.return_, 1) := by decide +kernel
theorem pd_3 : parseMethodDescriptor "([CIILjava/lang/Void;)V" = some ⟨[(.array .char), .int, .int, (.object "java/lang/Void")], none⟩ := by decide +kernel
set_option maxRecDepth 65536 in
set_option maxHeartbeats 40000000 in
theorem rmI1_1 (l : Launch) (Z : State) (a0 : Array Value) (hw : own_Wd a0 Z) (ws : List Jvm.Cond) (a ca : Addr) (kc : ClassId) (cs c0 : Int32)  (h0 : Heap) (n0 : Nat) (Z0 : n0 ≤ h0.size) (Ea : Exa Z h0 a "java/lang/String") (Fv : Fld Z h0 a "java/lang/String" "value" "[B" .null) (Fc : Fld Z h0 a "java/lang/String" "coder" "B" (.int 0)) (g_a : n0 ≤ a) (Sc : Sta Z h0 "java/lang/String" "COMPACT_STRINGS" "Z" (.int cs)) (hcs : ¬ (cs = (0 : Int32))) (Vc : Arv Z h0 ca kc .char (1 : Int32) [(.int c0)] (.int 0)) (Ecs : Exa Z h0 ca "[C") (hx0 : ¬ ((255 : Int32) < c0)) :
    own_Met l (⟨"java/lang/String", "<init>", "([C)V"⟩ : MethodName) jdk_42_method_3_code 2 none ws ({ frames := 3, cells := 1, slots := 1, locals := 52 } : Room) Z #[(.ref a), (.ref ca)] h0 (fun v h L => v = none ∧ Fr n0 L ∧ Keep h0 h [a] ∧ ∃ b k, h0.size ≤ b ∧ Exa Z h b "[B" ∧ Exa Z h a "java/lang/String" ∧ Fld Z h a "java/lang/String" "value" "[B" (.ref b) ∧ Fld Z h a "java/lang/String" "coder" "B" (.int 0) ∧ Arv Z h b k .byte (1 : Int32) [(.int (c0.toInt8.toInt32))] (.int 0)) := by
  refine own_body (plainFor_of_name pn_1) ?_
  intro p e s m below meth c s₁ X0 hx hby hml hown hnm hret hlk hZ e0
  replace hown : s.vm.findClass "java/lang/String" = some m.cls := hown
  replace hml : c.maxLocals = 2 := hml
  replace hret : meth.sig.returnType = none := hret
  have N0 := Fr.nil n0
  refine own_ef (L0 := #[.val (.ref a), .val (.ref ca)]) (by first | (simp [entryFrame, mkF, argsToLocals, Value.category]; done) | rfl) ?_
  refine own_aloadN X0 hx (hb hby d2_0) rfl rfl ?_
  refine own_aloadN X0 hx (hb hby d2_1) rfl rfl ?_
  refine own_iconst X0 hx 0 (hb hby d2_2) rfl ?_
  refine own_aloadN X0 hx (hb hby d2_3) rfl rfl ?_
  refine own_arraylength X0 hx hZ e0 (own_alnV Vc) (hb hby d2_4) ?_
  refine own_aconstNull X0 hx (hb hby d2_5) ?_
  refine own_cSpec (b := a) (W := 0) (rest := []) X0 hx hZ [(.ref ca), (.int 0), (.int 1), .null] rfl hown (own_m hw 12 rfl) (own_m hw 13 rfl) (by decide) (own_m hw 15 rfl) (own_m hw 7 rfl) e0 (rmI2_1 l Z a0 hw [] a ca kc cs c0 h0 n0 Z0 Ea Fv Fc g_a Sc hcs Vc Ecs hx0) (by rw [hml]; rfl) (lenOf pd_3 rfl) rfl (Nat.le_of_eq rfl) (hb hby d2_6) (by decide) (by decide) (by decide) (by decide) fun v10 T10 L10 X10 hQ10 => ?_
  obtain ⟨rfl, N10q, K10, R10⟩ := hQ10
  have N10 := Fr.app N0 N10q
  show own_At p e below _ T10 m 9 _ []
  refine own_retV X10 hx hlk hret (hb hby d2_9) (own_kN (by decide) (by decide) ?_)
  exact ⟨rfl, N10, K10, R10⟩
set_option maxRecDepth 65536 in
set_option maxHeartbeats 40000000 in
theorem rmC2_2 (l : Launch) (Z : State) (a0 : Array Value) (hw : own_Wd a0 Z) (ws : List Jvm.Cond) (ca ba : Addr) (kc kb : ClassId) (c0 c1 : Int32)  (h0 : Heap) (n0 : Nat) (Z0 : n0 ≤ h0.size) (Vc : Arv Z h0 ca kc .char (2 : Int32) [(.int c0), (.int c1)] (.int 0)) (Vb : Arv Z h0 ba kb .byte (2 : Int32) [(.int 0), (.int 0)] (.int 0)) (g_ba : n0 ≤ ba) (hne : ca ≠ ba) (hx0 : ¬ ((255 : Int32) < c0)) (hx1 : ¬ ((255 : Int32) < c1)) :
    own_Met l (⟨"java/lang/StringUTF16", "compress", "([CI[BII)I"⟩ : MethodName) jdk_52_method_21_code 7 (some .int) ws ({ frames := 0, cells := 0, slots := 0, locals := 0 } : Room) Z #[(.ref ca), (.int 0), (.ref ba), (.int 0), (.int 2)] h0 (fun v h L => v = some (.int 2) ∧ Fr n0 L ∧ Keep h0 h [ba] ∧ Arv Z h ba kb .byte (2 : Int32) [(.int (c0.toInt8.toInt32)), (.int (c1.toInt8.toInt32))] (.int 0)) := by
  refine own_body (plainFor_of_name pn_0) ?_
  intro p e s m below meth c s₁ X0 hx hby hml hown hnm hret hlk hZ e0
  replace hown : s.vm.findClass "java/lang/StringUTF16" = some m.cls := hown
  replace hml : c.maxLocals = 7 := hml
  replace hret : meth.sig.returnType = (some .int) := hret
  have N0 := Fr.nil n0
  refine own_ef (L0 := #[.val (.ref ca), .val (.int 0), .val (.ref ba), .val (.int 0), .val (.int 2), .unset, .unset]) (by first | (simp [entryFrame, mkF, argsToLocals, Value.category]; done) | rfl) ?_
  refine own_iconst X0 hx 0 (hb hby d6_0) rfl ?_
  refine own_istore (l' := #[.val (.ref ca), .val (.int 0), .val (.ref ba), .val (.int 0), .val (.int 2), .val (.int 0), .unset]) X0 hx (hb hby d6_1) rfl ?_
  refine own_iload X0 hx (hb hby d6_3) rfl ?_
  refine own_iload X0 hx (hb hby d6_5) rfl ?_
  refine own_icmpNo X0 hx (hb hby d6_7) (tlt (by decide : (0 : Int32) < (2 : Int32))).2.1 ?_
  refine own_aloadN X0 hx (hb hby d6_10) rfl rfl ?_
  refine own_iloadN X0 hx (hb hby d6_11) rfl ?_
  refine own_caload X0 hx hZ (.int c0) e0 Vc ⟨by decide, by decide⟩ rfl (hb hby d6_12) ?_
  refine own_istore (l' := #[.val (.ref ca), .val (.int 0), .val (.ref ba), .val (.int 0), .val (.int 2), .val (.int 0), .val (.int c0)]) X0 hx (hb hby d6_13) rfl ?_
  refine own_iload X0 hx (hb hby d6_15) rfl ?_
  refine own_sipush X0 hx 255 (hb hby d6_17) rfl ?_
  refine own_icmpYes X0 hx 26 (hb hby d6_20) (flt hx0).2.2.2 (by decide) (by decide) ?_
  refine own_aloadN X0 hx (hb hby d6_26) rfl rfl ?_
  refine own_iloadN X0 hx (hb hby d6_27) rfl ?_
  refine own_iload X0 hx (hb hby d6_28) rfl ?_
  refine own_i2b X0 hx (hb hby d6_30) ?_
  refine own_stB (vs' := [(.int (c0.toInt8.toInt32)), (.int 0)]) (w := (.int (c0.toInt8.toInt32))) X0 hx hZ e0 Vb ⟨by decide, by decide⟩ 0 rfl (Nat.le_of_ble_eq_true rfl) (congrArg Value.int (own_b8 _)) rfl (hb hby d6_31) fun T11 h11 X11 e11 W11 V11 => ?_
  have N11 := Fr.snoc X11 N0 g_ba
  refine own_iinc (l' := #[.val (.ref ca), .val (.int ((0 : Int32) + (1 : Int32))), .val (.ref ba), .val (.int 0), .val (.int 2), .val (.int 0), .val (.int c0)]) X11 hx (hb hby d6_32) rfl rfl ?_
  rw [show ((0 : Int32) + (1 : Int32)) = (1 : Int32) from by decide]
  refine own_iinc (l' := #[.val (.ref ca), .val (.int 1), .val (.ref ba), .val (.int ((0 : Int32) + (1 : Int32))), .val (.int 2), .val (.int 0), .val (.int c0)]) X11 hx (hb hby d6_35) rfl rfl ?_
  rw [show ((0 : Int32) + (1 : Int32)) = (1 : Int32) from by decide]
  refine own_iinc (l' := #[.val (.ref ca), .val (.int 1), .val (.ref ba), .val (.int 1), .val (.int 2), .val (.int ((0 : Int32) + (1 : Int32))), .val (.int c0)]) X11 hx (hb hby d6_38) rfl rfl ?_
  rw [show ((0 : Int32) + (1 : Int32)) = (1 : Int32) from by decide]
  refine own_goto X11 hx 3 (hb hby d6_41) (by decide) (by decide) ?_
  refine own_iload X11 hx (hb hby d6_3) rfl ?_
  refine own_iload X11 hx (hb hby d6_5) rfl ?_
  refine own_icmpNo X11 hx (hb hby d6_7) (tlt (by decide : (1 : Int32) < (2 : Int32))).2.1 ?_
  refine own_aloadN X11 hx (hb hby d6_10) rfl rfl ?_
  refine own_iloadN X11 hx (hb hby d6_11) rfl ?_
  refine own_caload X11 hx hZ (.int c1) e11 (Arv.other Vc W11 hne) ⟨by decide, by decide⟩ rfl (hb hby d6_12) ?_
  refine own_istore (l' := #[.val (.ref ca), .val (.int 1), .val (.ref ba), .val (.int 1), .val (.int 2), .val (.int 1), .val (.int c1)]) X11 hx (hb hby d6_13) rfl ?_
  refine own_iload X11 hx (hb hby d6_15) rfl ?_
  refine own_sipush X11 hx 255 (hb hby d6_17) rfl ?_
  refine own_icmpYes X11 hx 26 (hb hby d6_20) (flt hx1).2.2.2 (by decide) (by decide) ?_
  refine own_aloadN X11 hx (hb hby d6_26) rfl rfl ?_
  refine own_iloadN X11 hx (hb hby d6_27) rfl ?_
  refine own_iload X11 hx (hb hby d6_28) rfl ?_
  refine own_i2b X11 hx (hb hby d6_30) ?_
  refine own_stB (vs' := [(.int (c0.toInt8.toInt32)), (.int (c1.toInt8.toInt32))]) (w := (.int (c1.toInt8.toInt32))) X11 hx hZ e11 V11 ⟨by decide, by decide⟩ 1 rfl (Nat.le_of_ble_eq_true rfl) (congrArg Value.int (own_b8 _)) rfl (hb hby d6_31) fun T12 h12 X12 e12 W12 V12 => ?_
  have N12 := Fr.snoc X12 N11 g_ba
  refine own_iinc (l' := #[.val (.ref ca), .val (.int ((1 : Int32) + (1 : Int32))), .val (.ref ba), .val (.int 1), .val (.int 2), .val (.int 1), .val (.int c1)]) X12 hx (hb hby d6_32) rfl rfl ?_
  rw [show ((1 : Int32) + (1 : Int32)) = (2 : Int32) from by decide]
  refine own_iinc (l' := #[.val (.ref ca), .val (.int 2), .val (.ref ba), .val (.int ((1 : Int32) + (1 : Int32))), .val (.int 2), .val (.int 1), .val (.int c1)]) X12 hx (hb hby d6_35) rfl rfl ?_
  rw [show ((1 : Int32) + (1 : Int32)) = (2 : Int32) from by decide]
  refine own_iinc (l' := #[.val (.ref ca), .val (.int 2), .val (.ref ba), .val (.int 2), .val (.int 2), .val (.int ((1 : Int32) + (1 : Int32))), .val (.int c1)]) X12 hx (hb hby d6_38) rfl rfl ?_
  rw [show ((1 : Int32) + (1 : Int32)) = (2 : Int32) from by decide]
  refine own_goto X12 hx 3 (hb hby d6_41) (by decide) (by decide) ?_
  refine own_iload X12 hx (hb hby d6_3) rfl ?_
  refine own_iload X12 hx (hb hby d6_5) rfl ?_
  refine own_icmpYes X12 hx 44 (hb hby d6_7) (flt (by decide : ¬ ((2 : Int32) < (2 : Int32)))).2.1 (by decide) (by decide) ?_
  refine own_iload X12 hx (hb hby d6_44) rfl ?_
  refine own_retI X12 hx hlk hret (hb hby d6_46) (own_kN (by decide) (by decide) ?_)
  try rw [e12]
  exact ⟨rfl, N12, (Keep.wr (Keep.wr (Keep.refl h0 [ba]) W11 (Or.inl (List.mem_of_getElem? (i := 0) rfl))) W12 (Or.inl (List.mem_of_getElem? (i := 0) rfl))), V12⟩
set_option maxRecDepth 65536 in
set_option maxHeartbeats 40000000 in
theorem rmC1_2 (l : Launch) (Z : State) (a0 : Array Value) (hw : own_Wd a0 Z) (ws : List Jvm.Cond) (ca : Addr) (kc : ClassId) (c0 c1 : Int32)  (h0 : Heap) (n0 : Nat) (Z0 : n0 ≤ h0.size) (Vc : Arv Z h0 ca kc .char (2 : Int32) [(.int c0), (.int c1)] (.int 0)) (hx0 : ¬ ((255 : Int32) < c0)) (hx1 : ¬ ((255 : Int32) < c1)) :
    own_Met l (⟨"java/lang/StringUTF16", "compress", "([CII)[B"⟩ : MethodName) jdk_52_method_16_code 6 (some (.array .byte)) ws ({ frames := 1, cells := 1, slots := 2, locals := 18 } : Room) Z #[(.ref ca), (.int 0), (.int 2)] h0 (fun v h L => ∃ b k, v = some (.ref b) ∧ Fr n0 L ∧ Keep h0 h [] ∧ h0.size ≤ b ∧ n0 ≤ b ∧ Exa Z h b "[B" ∧ Arv Z h b k .byte (2 : Int32) [(.int (c0.toInt8.toInt32)), (.int (c1.toInt8.toInt32))] (.int 0)) := by
  refine own_body (plainFor_of_name pn_0) ?_
  intro p e s m below meth c s₁ X0 hx hby hml hown hnm hret hlk hZ e0
  replace hown : s.vm.findClass "java/lang/StringUTF16" = some m.cls := hown
  replace hml : c.maxLocals = 6 := hml
  replace hret : meth.sig.returnType = (some (.array .byte)) := hret
  have N0 := Fr.nil n0
  refine own_ef (L0 := #[.val (.ref ca), .val (.int 0), .val (.int 2), .unset, .unset, .unset]) (by first | (simp [entryFrame, mkF, argsToLocals, Value.category]; done) | rfl) ?_
  refine own_iloadN X0 hx (hb hby d5_0) rfl ?_
  refine own_newP (n := (2 : Int32)) (cap := 2) (ad := "[B") X0 hx hZ (own_m hw 24 rfl) e0 (hb hby d5_1) (by decide) (by decide) (by decide) (by decide) (by decide) (by decide) fun T13 h13 k13 b13 g13 X13 e13 E13 A13 Ex13 => ?_
  have g_b13 : n0 ≤ b13 := Nat.le_trans Z0 (Nat.le_of_eq g13.symm)
  have szo_b13 : h0.size ≤ b13 := Nat.le_trans (Nat.le_refl h0.size) (Nat.le_of_eq g13.symm)
  have V13 : Arv Z h13 b13 k13 .byte (2 : Int32) [(.int 0), (.int 0)] (.int 0) := (Arv.new A13 (by decide)).pad (pad_rep [] (.int 0) 2)
  refine own_astoreN (l' := #[.val (.ref ca), .val (.int 0), .val (.int 2), .val (.ref b13), .unset, .unset]) X13 hx (hb hby d5_3) rfl rfl ?_
  refine own_aloadN X13 hx (hb hby d5_4) rfl rfl ?_
  refine own_iloadN X13 hx (hb hby d5_5) rfl ?_
  refine own_aloadN X13 hx (hb hby d5_6) rfl rfl ?_
  refine own_iconst X13 hx 0 (hb hby d5_7) rfl ?_
  refine own_iloadN X13 hx (hb hby d5_8) rfl ?_
  refine own_cStat (W := 0) (rest := []) X13 hx hZ [(.ref ca), (.int 0), (.ref b13), (.int 0), (.int 2)] hown (own_m hw 25 rfl) (own_m hw 26 rfl) (by decide) (own_m hw 27 rfl) (own_m hw 22 rfl) e13 (rmC2_2 l Z a0 hw [] ca b13 kc k13 c0 c1 h13 n0 (Nat.le_trans Z0 E13.1) (Vc.ext E13) V13 g_b13 (Nat.ne_of_lt (Nat.lt_of_lt_of_le Vc.lt (Nat.le_of_eq g13.symm))) hx0 hx1) (by rw [hml]; rfl) (lenOf pd_0 rfl) rfl (Nat.le_of_eq rfl) (hb hby d5_9) (by decide) (by decide) (by decide) (by decide) fun v14 T14 L14 X14 hQ14 => ?_
  obtain ⟨rfl, N14q, K14, Vb14⟩ := hQ14
  have N14 := Fr.app N0 N14q
  show own_At p e below _ T14 m 12 _ [(.int 2)]
  refine own_istore (l' := #[.val (.ref ca), .val (.int 0), .val (.int 2), .val (.ref b13), .val (.int 2), .unset]) X14 hx (hb hby d5_12) rfl ?_
  refine own_iload X14 hx (hb hby d5_14) rfl ?_
  refine own_iloadN X14 hx (hb hby d5_16) rfl ?_
  refine own_icmpYes X14 hx 57 (hb hby d5_17) (teq (by decide : (2 : Int32) = (2 : Int32))).1 (by decide) (by decide) ?_
  refine own_aloadN X14 hx (hb hby d5_57) rfl rfl ?_
  refine own_retA X14 hx hlk hret rfl rfl rfl (hb hby d5_58) (own_kN (by decide) (by decide) ?_)
  exact ⟨b13, k13, rfl, N14, (Keep.trans (Keep.ext (Keep.refl h0 []) E13) K14 (allS (Or.inr szo_b13) all0)), szo_b13, g_b13, (Exa.keep Ex13 K14), Vb14⟩
set_option maxRecDepth 65536 in
set_option maxHeartbeats 40000000 in
theorem rmCF_2 (l : Launch) (Z : State) (a0 : Array Value) (hw : own_Wd a0 Z) (ws : List Jvm.Cond) (ba : Addr)  (h0 : Heap) (n0 : Nat) (Z0 : n0 ≤ h0.size) (A : own_Aln Z h0 ba .byte (2 : Int32)) :
    own_Met l (⟨"java/lang/StringUTF16", "coderFromArrayLen", "([BI)B"⟩ : MethodName) jdk_52_method_15_code 2 (some .byte) ws ({ frames := 0, cells := 0, slots := 0, locals := 0 } : Room) Z #[(.ref ba), (.int 2)] h0 (fun v h L => v = some (.int 0) ∧ Fr n0 L ∧ h = h0) := by
  refine own_body (plainFor_of_name pn_0) ?_
  intro p e s m below meth c s₁ X0 hx hby hml hown hnm hret hlk hZ e0
  replace hown : s.vm.findClass "java/lang/StringUTF16" = some m.cls := hown
  replace hml : c.maxLocals = 2 := hml
  replace hret : meth.sig.returnType = (some .byte) := hret
  have N0 := Fr.nil n0
  refine own_ef (L0 := #[.val (.ref ba), .val (.int 2)]) (by first | (simp [entryFrame, mkF, argsToLocals, Value.category]; done) | rfl) ?_
  refine own_iloadN X0 hx (hb hby d7_0) rfl ?_
  refine own_aloadN X0 hx (hb hby d7_1) rfl rfl ?_
  refine own_arraylength X0 hx hZ e0 A (hb hby d7_2) ?_
  refine own_isub X0 hx (hb hby d7_3) ?_
  rw [show ((2 : Int32) - (2 : Int32)) = (0 : Int32) from by decide]
  refine own_bipush X0 hx 31 (hb hby d7_4) rfl ?_
  refine own_iushr X0 hx (hb hby d7_6) ?_
  rw [show (((0 : Int32).toUInt32 >>> ((31 : Int32) &&& 31).toUInt32).toInt32) = (0 : Int32) from by decide]
  refine own_i2b X0 hx (hb hby d7_7) ?_
  rw [show ((0 : Int32).toInt8.toInt32) = (0 : Int32) from by decide]
  refine own_retN X0 hx hlk hret (by simp) (by decide) (hb hby d7_8) (own_kN (by decide) (by decide) ?_)
  try rw [e0]
  exact ⟨rfl, N0, rfl⟩
set_option maxRecDepth 65536 in
set_option maxHeartbeats 40000000 in
theorem rmI2_2 (l : Launch) (Z : State) (a0 : Array Value) (hw : own_Wd a0 Z) (ws : List Jvm.Cond) (a ca : Addr) (kc : ClassId) (cs c0 c1 : Int32)  (h0 : Heap) (n0 : Nat) (Z0 : n0 ≤ h0.size) (Ea : Exa Z h0 a "java/lang/String") (Fv : Fld Z h0 a "java/lang/String" "value" "[B" .null) (Fc : Fld Z h0 a "java/lang/String" "coder" "B" (.int 0)) (g_a : n0 ≤ a) (Sc : Sta Z h0 "java/lang/String" "COMPACT_STRINGS" "Z" (.int cs)) (hcs : ¬ (cs = (0 : Int32))) (Vc : Arv Z h0 ca kc .char (2 : Int32) [(.int c0), (.int c1)] (.int 0)) (Ecs : Exa Z h0 ca "[C") (hx0 : ¬ ((255 : Int32) < c0)) (hx1 : ¬ ((255 : Int32) < c1)) :
    own_Met l (⟨"java/lang/String", "<init>", "([CIILjava/lang/Void;)V"⟩ : MethodName) jdk_42_method_149_code 6 none ws ({ frames := 2, cells := 1, slots := 2, locals := 35 } : Room) Z #[(.ref a), (.ref ca), (.int 0), (.int 2), .null] h0 (fun v h L => v = none ∧ Fr n0 L ∧ Keep h0 h [a] ∧ ∃ b k, h0.size ≤ b ∧ Exa Z h b "[B" ∧ Exa Z h a "java/lang/String" ∧ Fld Z h a "java/lang/String" "value" "[B" (.ref b) ∧ Fld Z h a "java/lang/String" "coder" "B" (.int 0) ∧ Arv Z h b k .byte (2 : Int32) [(.int (c0.toInt8.toInt32)), (.int (c1.toInt8.toInt32))] (.int 0)) := by
  refine own_body (plainFor_of_name pn_1) ?_
  intro p e s m below meth c s₁ X0 hx hby hml hown hnm hret hlk hZ e0
  replace hown : s.vm.findClass "java/lang/String" = some m.cls := hown
  replace hml : c.maxLocals = 6 := hml
  replace hret : meth.sig.returnType = none := hret
  have N0 := Fr.nil n0
  refine own_ef (L0 := #[.val (.ref a), .val (.ref ca), .val (.int 0), .val (.int 2), .val .null, .unset]) (by first | (simp [entryFrame, mkF, argsToLocals, Value.category]; done) | rfl) ?_
  refine own_aloadN X0 hx (hb hby d3_0) rfl rfl ?_
  refine own_initO (W := 0) X0 hx hZ hown (own_m hw 16 rfl) (own_m hw 17 rfl) (own_m hw 18 rfl) e0 (by rw [hml]; rfl) (hb hby d3_1) (by decide) (Nat.le_of_eq rfl) (by decide) fun T15 X15 e15 => ?_
  refine own_iloadN X15 hx (hb hby d3_4) rfl ?_
  refine own_ifYes X15 hx 27 (hb hby d3_5) (feq (by decide : ¬ ((2 : Int32) = (0 : Int32)))).2 (by decide) (by decide) ?_
  refine own_getS X15 hx hZ hown (host := "") (Or.inl (own_m hw 19 rfl)) Via.refl e15 Sc (hb hby d3_27) fun T16 X16 e16 => ?_
  refine own_ifNo X16 hx (hb hby d3_30) (feq hcs).1 ?_
  refine own_aloadN X16 hx (hb hby d3_33) rfl rfl ?_
  refine own_iloadN X16 hx (hb hby d3_34) rfl ?_
  refine own_iloadN X16 hx (hb hby d3_35) rfl ?_
  refine own_cStat (W := 0) (rest := []) X16 hx hZ [(.ref ca), (.int 0), (.int 2)] hown (own_m hw 20 rfl) (own_m hw 21 rfl) (by decide) (own_m hw 23 rfl) (own_m hw 22 rfl) e16 (rmC1_2 l Z a0 hw [] ca kc c0 c1 h0 n0 Z0 Vc hx0 hx1) (by rw [hml]; rfl) (lenOf pd_1 rfl) rfl (Nat.le_of_eq rfl) (hb hby d3_36) (by decide) (by decide) (by decide) (by decide) fun v17 T17 L17 X17 hQ17 => ?_
  obtain ⟨b17, kb17, rfl, N17q, K17, szb17, gb17, Eb17, Vb17⟩ := hQ17
  have N17 := Fr.app N0 N17q
  have szo_b17 : h0.size ≤ b17 := Nat.le_trans (Nat.le_refl h0.size) szb17
  show own_At p e below _ T17 m 39 _ [(.ref b17)]
  refine own_astore (l' := #[.val (.ref a), .val (.ref ca), .val (.int 0), .val (.int 2), .val .null, .val (.ref b17)]) X17 hx (hb hby d3_39) rfl rfl ?_
  refine own_aloadN X17 hx (hb hby d3_41) rfl rfl ?_
  refine own_aload X17 hx (hb hby d3_42) rfl rfl ?_
  refine own_iloadN X17 hx (hb hby d3_44) rfl ?_
  refine own_cStat (W := 1) (rest := [(.ref a)]) X17 hx hZ [(.ref b17), (.int 2)] hown (own_m hw 28 rfl) (own_m hw 29 rfl) (by decide) (own_m hw 30 rfl) (own_m hw 22 rfl) rfl (rmCF_2 l Z a0 hw [] b17 T17.heap n0 (Nat.le_trans Z0 K17.1) (own_alnV Vb17)) (by rw [hml]; rfl) (lenOf pd_2 rfl) rfl (Nat.le_of_eq rfl) (hb hby d3_45) (by decide) (by decide) (by decide) (by decide) fun v18 T18 L18 X18 hQ18 => ?_
  obtain ⟨rfl, N18q, e18⟩ := hQ18
  have N18 := Fr.app N17 N18q
  show own_At p e below _ T18 m 48 _ [(.int 0), (.ref a)]
  obtain ⟨T19, h19, X19, e19, W19, st19⟩ := putFN X18 hx hZ hown (own_m hw 31 rfl) Via.refl e18 (Fld.keep Fc K17 nin0) (Exa.keep Ea K17) (Or.inr ⟨(own_m hw 32 rfl), rfl, hnm⟩) (own_m hw 6 rfl) (ty := .byte) (v' := (.int 0)) (by decide) rfl rfl (g := (mkF m 48 #[.val (.ref a), .val (.ref ca), .val (.int 0), .val (.int 2), .val .null, .val (.ref b17)] [(.int 0), (.ref a)])) rfl rfl (hb hby d3_48)
  refine own_step (S' := (T19.setTop (mkF m 51 #[.val (.ref a), .val (.ref ca), .val (.int 0), .val (.int 2), .val .null, .val (.ref b17)] []))) (fun _ k => st19 _ k) ?_
  have Fw19 := Fld.same W19 (Fld.keep Fc K17 nin0)
  have N19 := Fr.snoc X19 N18 g_a
  refine own_aloadN X19 hx (hb hby d3_51) rfl rfl ?_
  refine own_aload X19 hx (hb hby d3_52) rfl rfl ?_
  refine own_putF X19 hx hZ hown (host := "") (Or.inl (own_m hw 33 rfl)) Via.refl e19 (Fld.other W19 (Fld.keep Fv K17 nin0) (Or.inr (slot_ne (Or.inr (own_m hw 34 rfl)) (Or.inr (own_m hw 32 rfl)) (by decide) (t := (.array .byte)) (t' := .byte) (by decide) (by decide)))) (Exa.wr W19 (Exa.keep Ea K17)) (Or.inr ⟨(own_m hw 34 rfl), rfl, hnm⟩) (own_m hw 6 rfl) (ty := (.array .byte)) (by decide) rfl rfl (hb hby d3_54) fun T20 h20 X20 e20 W20 => ?_
  have Fw20 := Fld.same W20 (Fld.other W19 (Fld.keep Fv K17 nin0) (Or.inr (slot_ne (Or.inr (own_m hw 34 rfl)) (Or.inr (own_m hw 32 rfl)) (by decide) (t := (.array .byte)) (t' := .byte) (by decide) (by decide))))
  have N20 := Fr.snoc X20 N19 g_a
  refine own_retV X20 hx hlk hret (hb hby d3_57) (own_kN (by decide) (by decide) ?_)
  try rw [e20]
  exact ⟨rfl, N20, (Keep.wr (Keep.wr (Keep.trans (Keep.refl h0 [a]) K17 all0) W19 (Or.inl (List.mem_of_getElem? (i := 0) rfl))) W20 (Or.inl (List.mem_of_getElem? (i := 0) rfl))), b17, kb17, szo_b17, (Exa.wr W20 (Exa.wr W19 Eb17)), (Exa.wr W20 (Exa.wr W19 (Exa.keep Ea K17))), Fw20, (Fld.other W20 Fw19 (Or.inr (slot_ne (Or.inr (own_m hw 32 rfl)) (Or.inr (own_m hw 34 rfl)) (by decide) (t := .byte) (t' := (.array .byte)) (by decide) (by decide)))), (Arv.other (Arv.other Vb17 W19 (Ne.symm (Nat.ne_of_lt (Nat.lt_of_lt_of_le Ea.lt szb17)))) W20 (Ne.symm (Nat.ne_of_lt (Nat.lt_of_lt_of_le Ea.lt szb17))))⟩
set_option maxRecDepth 65536 in
set_option maxHeartbeats 40000000 in
theorem rmI1_2 (l : Launch) (Z : State) (a0 : Array Value) (hw : own_Wd a0 Z) (ws : List Jvm.Cond) (a ca : Addr) (kc : ClassId) (cs c0 c1 : Int32)  (h0 : Heap) (n0 : Nat) (Z0 : n0 ≤ h0.size) (Ea : Exa Z h0 a "java/lang/String") (Fv : Fld Z h0 a "java/lang/String" "value" "[B" .null) (Fc : Fld Z h0 a "java/lang/String" "coder" "B" (.int 0)) (g_a : n0 ≤ a) (Sc : Sta Z h0 "java/lang/String" "COMPACT_STRINGS" "Z" (.int cs)) (hcs : ¬ (cs = (0 : Int32))) (Vc : Arv Z h0 ca kc .char (2 : Int32) [(.int c0), (.int c1)] (.int 0)) (Ecs : Exa Z h0 ca "[C") (hx0 : ¬ ((255 : Int32) < c0)) (hx1 : ¬ ((255 : Int32) < c1)) :
    own_Met l (⟨"java/lang/String", "<init>", "([C)V"⟩ : MethodName) jdk_42_method_3_code 2 none ws ({ frames := 3, cells := 1, slots := 2, locals := 52 } : Room) Z #[(.ref a), (.ref ca)] h0 (fun v h L => v = none ∧ Fr n0 L ∧ Keep h0 h [a] ∧ ∃ b k, h0.size ≤ b ∧ Exa Z h b "[B" ∧ Exa Z h a "java/lang/String" ∧ Fld Z h a "java/lang/String" "value" "[B" (.ref b) ∧ Fld Z h a "java/lang/String" "coder" "B" (.int 0) ∧ Arv Z h b k .byte (2 : Int32) [(.int (c0.toInt8.toInt32)), (.int (c1.toInt8.toInt32))] (.int 0)) := by
  refine own_body (plainFor_of_name pn_1) ?_
  intro p e s m below meth c s₁ X0 hx hby hml hown hnm hret hlk hZ e0
  replace hown : s.vm.findClass "java/lang/String" = some m.cls := hown
  replace hml : c.maxLocals = 2 := hml
  replace hret : meth.sig.returnType = none := hret
  have N0 := Fr.nil n0
  refine own_ef (L0 := #[.val (.ref a), .val (.ref ca)]) (by first | (simp [entryFrame, mkF, argsToLocals, Value.category]; done) | rfl) ?_
  refine own_aloadN X0 hx (hb hby d2_0) rfl rfl ?_
  refine own_aloadN X0 hx (hb hby d2_1) rfl rfl ?_
  refine own_iconst X0 hx 0 (hb hby d2_2) rfl ?_
  refine own_aloadN X0 hx (hb hby d2_3) rfl rfl ?_
  refine own_arraylength X0 hx hZ e0 (own_alnV Vc) (hb hby d2_4) ?_
  refine own_aconstNull X0 hx (hb hby d2_5) ?_
  refine own_cSpec (b := a) (W := 0) (rest := []) X0 hx hZ [(.ref ca), (.int 0), (.int 2), .null] rfl hown (own_m hw 12 rfl) (own_m hw 13 rfl) (by decide) (own_m hw 15 rfl) (own_m hw 7 rfl) e0 (rmI2_2 l Z a0 hw [] a ca kc cs c0 c1 h0 n0 Z0 Ea Fv Fc g_a Sc hcs Vc Ecs hx0 hx1) (by rw [hml]; rfl) (lenOf pd_3 rfl) rfl (Nat.le_of_eq rfl) (hb hby d2_6) (by decide) (by decide) (by decide) (by decide) fun v21 T21 L21 X21 hQ21 => ?_
  obtain ⟨rfl, N21q, K21, R21⟩ := hQ21
  have N21 := Fr.app N0 N21q
  show own_At p e below _ T21 m 9 _ []
  refine own_retV X21 hx hlk hret (hb hby d2_9) (own_kN (by decide) (by decide) ?_)
  exact ⟨rfl, N21, K21, R21⟩
set_option maxRecDepth 65536 in
set_option maxHeartbeats 40000000 in
theorem rmC2_3 (l : Launch) (Z : State) (a0 : Array Value) (hw : own_Wd a0 Z) (ws : List Jvm.Cond) (ca ba : Addr) (kc kb : ClassId) (c0 c1 c2 : Int32)  (h0 : Heap) (n0 : Nat) (Z0 : n0 ≤ h0.size) (Vc : Arv Z h0 ca kc .char (3 : Int32) [(.int c0), (.int c1), (.int c2)] (.int 0)) (Vb : Arv Z h0 ba kb .byte (3 : Int32) [(.int 0), (.int 0), (.int 0)] (.int 0)) (g_ba : n0 ≤ ba) (hne : ca ≠ ba) (hx0 : ¬ ((255 : Int32) < c0)) (hx1 : ¬ ((255 : Int32) < c1)) (hx2 : ¬ ((255 : Int32) < c2)) :
    own_Met l (⟨"java/lang/StringUTF16", "compress", "([CI[BII)I"⟩ : MethodName) jdk_52_method_21_code 7 (some .int) ws ({ frames := 0, cells := 0, slots := 0, locals := 0 } : Room) Z #[(.ref ca), (.int 0), (.ref ba), (.int 0), (.int 3)] h0 (fun v h L => v = some (.int 3) ∧ Fr n0 L ∧ Keep h0 h [ba] ∧ Arv Z h ba kb .byte (3 : Int32) [(.int (c0.toInt8.toInt32)), (.int (c1.toInt8.toInt32)), (.int (c2.toInt8.toInt32))] (.int 0)) := by
  refine own_body (plainFor_of_name pn_0) ?_
  intro p e s m below meth c s₁ X0 hx hby hml hown hnm hret hlk hZ e0
  replace hown : s.vm.findClass "java/lang/StringUTF16" = some m.cls := hown
  replace hml : c.maxLocals = 7 := hml
  replace hret : meth.sig.returnType = (some .int) := hret
  have N0 := Fr.nil n0
  refine own_ef (L0 := #[.val (.ref ca), .val (.int 0), .val (.ref ba), .val (.int 0), .val (.int 3), .unset, .unset]) (by first | (simp [entryFrame, mkF, argsToLocals, Value.category]; done) | rfl) ?_
  refine own_iconst X0 hx 0 (hb hby d6_0) rfl ?_
  refine own_istore (l' := #[.val (.ref ca), .val (.int 0), .val (.ref ba), .val (.int 0), .val (.int 3), .val (.int 0), .unset]) X0 hx (hb hby d6_1) rfl ?_
  refine own_iload X0 hx (hb hby d6_3) rfl ?_
  refine own_iload X0 hx (hb hby d6_5) rfl ?_
  refine own_icmpNo X0 hx (hb hby d6_7) (tlt (by decide : (0 : Int32) < (3 : Int32))).2.1 ?_
  refine own_aloadN X0 hx (hb hby d6_10) rfl rfl ?_
  refine own_iloadN X0 hx (hb hby d6_11) rfl ?_
  refine own_caload X0 hx hZ (.int c0) e0 Vc ⟨by decide, by decide⟩ rfl (hb hby d6_12) ?_
  refine own_istore (l' := #[.val (.ref ca), .val (.int 0), .val (.ref ba), .val (.int 0), .val (.int 3), .val (.int 0), .val (.int c0)]) X0 hx (hb hby d6_13) rfl ?_
  refine own_iload X0 hx (hb hby d6_15) rfl ?_
  refine own_sipush X0 hx 255 (hb hby d6_17) rfl ?_
  refine own_icmpYes X0 hx 26 (hb hby d6_20) (flt hx0).2.2.2 (by decide) (by decide) ?_
  refine own_aloadN X0 hx (hb hby d6_26) rfl rfl ?_
  refine own_iloadN X0 hx (hb hby d6_27) rfl ?_
  refine own_iload X0 hx (hb hby d6_28) rfl ?_
  refine own_i2b X0 hx (hb hby d6_30) ?_
  refine own_stB (vs' := [(.int (c0.toInt8.toInt32)), (.int 0), (.int 0)]) (w := (.int (c0.toInt8.toInt32))) X0 hx hZ e0 Vb ⟨by decide, by decide⟩ 0 rfl (Nat.le_of_ble_eq_true rfl) (congrArg Value.int (own_b8 _)) rfl (hb hby d6_31) fun T22 h22 X22 e22 W22 V22 => ?_
  have N22 := Fr.snoc X22 N0 g_ba
  refine own_iinc (l' := #[.val (.ref ca), .val (.int ((0 : Int32) + (1 : Int32))), .val (.ref ba), .val (.int 0), .val (.int 3), .val (.int 0), .val (.int c0)]) X22 hx (hb hby d6_32) rfl rfl ?_
  rw [show ((0 : Int32) + (1 : Int32)) = (1 : Int32) from by decide]
  refine own_iinc (l' := #[.val (.ref ca), .val (.int 1), .val (.ref ba), .val (.int ((0 : Int32) + (1 : Int32))), .val (.int 3), .val (.int 0), .val (.int c0)]) X22 hx (hb hby d6_35) rfl rfl ?_
  rw [show ((0 : Int32) + (1 : Int32)) = (1 : Int32) from by decide]
  refine own_iinc (l' := #[.val (.ref ca), .val (.int 1), .val (.ref ba), .val (.int 1), .val (.int 3), .val (.int ((0 : Int32) + (1 : Int32))), .val (.int c0)]) X22 hx (hb hby d6_38) rfl rfl ?_
  rw [show ((0 : Int32) + (1 : Int32)) = (1 : Int32) from by decide]
  refine own_goto X22 hx 3 (hb hby d6_41) (by decide) (by decide) ?_
  refine own_iload X22 hx (hb hby d6_3) rfl ?_
  refine own_iload X22 hx (hb hby d6_5) rfl ?_
  refine own_icmpNo X22 hx (hb hby d6_7) (tlt (by decide : (1 : Int32) < (3 : Int32))).2.1 ?_
  refine own_aloadN X22 hx (hb hby d6_10) rfl rfl ?_
  refine own_iloadN X22 hx (hb hby d6_11) rfl ?_
  refine own_caload X22 hx hZ (.int c1) e22 (Arv.other Vc W22 hne) ⟨by decide, by decide⟩ rfl (hb hby d6_12) ?_
  refine own_istore (l' := #[.val (.ref ca), .val (.int 1), .val (.ref ba), .val (.int 1), .val (.int 3), .val (.int 1), .val (.int c1)]) X22 hx (hb hby d6_13) rfl ?_
  refine own_iload X22 hx (hb hby d6_15) rfl ?_
  refine own_sipush X22 hx 255 (hb hby d6_17) rfl ?_
  refine own_icmpYes X22 hx 26 (hb hby d6_20) (flt hx1).2.2.2 (by decide) (by decide) ?_
  refine own_aloadN X22 hx (hb hby d6_26) rfl rfl ?_
  refine own_iloadN X22 hx (hb hby d6_27) rfl ?_
  refine own_iload X22 hx (hb hby d6_28) rfl ?_
  refine own_i2b X22 hx (hb hby d6_30) ?_
  refine own_stB (vs' := [(.int (c0.toInt8.toInt32)), (.int (c1.toInt8.toInt32)), (.int 0)]) (w := (.int (c1.toInt8.toInt32))) X22 hx hZ e22 V22 ⟨by decide, by decide⟩ 1 rfl (Nat.le_of_ble_eq_true rfl) (congrArg Value.int (own_b8 _)) rfl (hb hby d6_31) fun T23 h23 X23 e23 W23 V23 => ?_
  have N23 := Fr.snoc X23 N22 g_ba
  refine own_iinc (l' := #[.val (.ref ca), .val (.int ((1 : Int32) + (1 : Int32))), .val (.ref ba), .val (.int 1), .val (.int 3), .val (.int 1), .val (.int c1)]) X23 hx (hb hby d6_32) rfl rfl ?_
  rw [show ((1 : Int32) + (1 : Int32)) = (2 : Int32) from by decide]
  refine own_iinc (l' := #[.val (.ref ca), .val (.int 2), .val (.ref ba), .val (.int ((1 : Int32) + (1 : Int32))), .val (.int 3), .val (.int 1), .val (.int c1)]) X23 hx (hb hby d6_35) rfl rfl ?_
  rw [show ((1 : Int32) + (1 : Int32)) = (2 : Int32) from by decide]
  refine own_iinc (l' := #[.val (.ref ca), .val (.int 2), .val (.ref ba), .val (.int 2), .val (.int 3), .val (.int ((1 : Int32) + (1 : Int32))), .val (.int c1)]) X23 hx (hb hby d6_38) rfl rfl ?_
  rw [show ((1 : Int32) + (1 : Int32)) = (2 : Int32) from by decide]
  refine own_goto X23 hx 3 (hb hby d6_41) (by decide) (by decide) ?_
  refine own_iload X23 hx (hb hby d6_3) rfl ?_
  refine own_iload X23 hx (hb hby d6_5) rfl ?_
  refine own_icmpNo X23 hx (hb hby d6_7) (tlt (by decide : (2 : Int32) < (3 : Int32))).2.1 ?_
  refine own_aloadN X23 hx (hb hby d6_10) rfl rfl ?_
  refine own_iloadN X23 hx (hb hby d6_11) rfl ?_
  refine own_caload X23 hx hZ (.int c2) e23 (Arv.other (Arv.other Vc W22 hne) W23 hne) ⟨by decide, by decide⟩ rfl (hb hby d6_12) ?_
  refine own_istore (l' := #[.val (.ref ca), .val (.int 2), .val (.ref ba), .val (.int 2), .val (.int 3), .val (.int 2), .val (.int c2)]) X23 hx (hb hby d6_13) rfl ?_
  refine own_iload X23 hx (hb hby d6_15) rfl ?_
  refine own_sipush X23 hx 255 (hb hby d6_17) rfl ?_
  refine own_icmpYes X23 hx 26 (hb hby d6_20) (flt hx2).2.2.2 (by decide) (by decide) ?_
  refine own_aloadN X23 hx (hb hby d6_26) rfl rfl ?_
  refine own_iloadN X23 hx (hb hby d6_27) rfl ?_
  refine own_iload X23 hx (hb hby d6_28) rfl ?_
  refine own_i2b X23 hx (hb hby d6_30) ?_
  refine own_stB (vs' := [(.int (c0.toInt8.toInt32)), (.int (c1.toInt8.toInt32)), (.int (c2.toInt8.toInt32))]) (w := (.int (c2.toInt8.toInt32))) X23 hx hZ e23 V23 ⟨by decide, by decide⟩ 2 rfl (Nat.le_of_ble_eq_true rfl) (congrArg Value.int (own_b8 _)) rfl (hb hby d6_31) fun T24 h24 X24 e24 W24 V24 => ?_
  have N24 := Fr.snoc X24 N23 g_ba
  refine own_iinc (l' := #[.val (.ref ca), .val (.int ((2 : Int32) + (1 : Int32))), .val (.ref ba), .val (.int 2), .val (.int 3), .val (.int 2), .val (.int c2)]) X24 hx (hb hby d6_32) rfl rfl ?_
  rw [show ((2 : Int32) + (1 : Int32)) = (3 : Int32) from by decide]
  refine own_iinc (l' := #[.val (.ref ca), .val (.int 3), .val (.ref ba), .val (.int ((2 : Int32) + (1 : Int32))), .val (.int 3), .val (.int 2), .val (.int c2)]) X24 hx (hb hby d6_35) rfl rfl ?_
  rw [show ((2 : Int32) + (1 : Int32)) = (3 : Int32) from by decide]
  refine own_iinc (l' := #[.val (.ref ca), .val (.int 3), .val (.ref ba), .val (.int 3), .val (.int 3), .val (.int ((2 : Int32) + (1 : Int32))), .val (.int c2)]) X24 hx (hb hby d6_38) rfl rfl ?_
  rw [show ((2 : Int32) + (1 : Int32)) = (3 : Int32) from by decide]
  refine own_goto X24 hx 3 (hb hby d6_41) (by decide) (by decide) ?_
  refine own_iload X24 hx (hb hby d6_3) rfl ?_
  refine own_iload X24 hx (hb hby d6_5) rfl ?_
  refine own_icmpYes X24 hx 44 (hb hby d6_7) (flt (by decide : ¬ ((3 : Int32) < (3 : Int32)))).2.1 (by decide) (by decide) ?_
  refine own_iload X24 hx (hb hby d6_44) rfl ?_
  refine own_retI X24 hx hlk hret (hb hby d6_46) (own_kN (by decide) (by decide) ?_)
  try rw [e24]
  exact ⟨rfl, N24, (Keep.wr (Keep.wr (Keep.wr (Keep.refl h0 [ba]) W22 (Or.inl (List.mem_of_getElem? (i := 0) rfl))) W23 (Or.inl (List.mem_of_getElem? (i := 0) rfl))) W24 (Or.inl (List.mem_of_getElem? (i := 0) rfl))), V24⟩
set_option maxRecDepth 65536 in
set_option maxHeartbeats 40000000 in
theorem rmC1_3 (l : Launch) (Z : State) (a0 : Array Value) (hw : own_Wd a0 Z) (ws : List Jvm.Cond) (ca : Addr) (kc : ClassId) (c0 c1 c2 : Int32)  (h0 : Heap) (n0 : Nat) (Z0 : n0 ≤ h0.size) (Vc : Arv Z h0 ca kc .char (3 : Int32) [(.int c0), (.int c1), (.int c2)] (.int 0)) (hx0 : ¬ ((255 : Int32) < c0)) (hx1 : ¬ ((255 : Int32) < c1)) (hx2 : ¬ ((255 : Int32) < c2)) :
    own_Met l (⟨"java/lang/StringUTF16", "compress", "([CII)[B"⟩ : MethodName) jdk_52_method_16_code 6 (some (.array .byte)) ws ({ frames := 1, cells := 1, slots := 3, locals := 18 } : Room) Z #[(.ref ca), (.int 0), (.int 3)] h0 (fun v h L => ∃ b k, v = some (.ref b) ∧ Fr n0 L ∧ Keep h0 h [] ∧ h0.size ≤ b ∧ n0 ≤ b ∧ Exa Z h b "[B" ∧ Arv Z h b k .byte (3 : Int32) [(.int (c0.toInt8.toInt32)), (.int (c1.toInt8.toInt32)), (.int (c2.toInt8.toInt32))] (.int 0)) := by
  refine own_body (plainFor_of_name pn_0) ?_
  intro p e s m below meth c s₁ X0 hx hby hml hown hnm hret hlk hZ e0
  replace hown : s.vm.findClass "java/lang/StringUTF16" = some m.cls := hown
  replace hml : c.maxLocals = 6 := hml
  replace hret : meth.sig.returnType = (some (.array .byte)) := hret
  have N0 := Fr.nil n0
  refine own_ef (L0 := #[.val (.ref ca), .val (.int 0), .val (.int 3), .unset, .unset, .unset]) (by first | (simp [entryFrame, mkF, argsToLocals, Value.category]; done) | rfl) ?_
  refine own_iloadN X0 hx (hb hby d5_0) rfl ?_
  refine own_newP (n := (3 : Int32)) (cap := 3) (ad := "[B") X0 hx hZ (own_m hw 24 rfl) e0 (hb hby d5_1) (by decide) (by decide) (by decide) (by decide) (by decide) (by decide) fun T25 h25 k25 b25 g25 X25 e25 E25 A25 Ex25 => ?_
  have g_b25 : n0 ≤ b25 := Nat.le_trans Z0 (Nat.le_of_eq g25.symm)
  have szo_b25 : h0.size ≤ b25 := Nat.le_trans (Nat.le_refl h0.size) (Nat.le_of_eq g25.symm)
  have V25 : Arv Z h25 b25 k25 .byte (3 : Int32) [(.int 0), (.int 0), (.int 0)] (.int 0) := (Arv.new A25 (by decide)).pad (pad_rep [] (.int 0) 3)
  refine own_astoreN (l' := #[.val (.ref ca), .val (.int 0), .val (.int 3), .val (.ref b25), .unset, .unset]) X25 hx (hb hby d5_3) rfl rfl ?_
  refine own_aloadN X25 hx (hb hby d5_4) rfl rfl ?_
  refine own_iloadN X25 hx (hb hby d5_5) rfl ?_
  refine own_aloadN X25 hx (hb hby d5_6) rfl rfl ?_
  refine own_iconst X25 hx 0 (hb hby d5_7) rfl ?_
  refine own_iloadN X25 hx (hb hby d5_8) rfl ?_
  refine own_cStat (W := 0) (rest := []) X25 hx hZ [(.ref ca), (.int 0), (.ref b25), (.int 0), (.int 3)] hown (own_m hw 25 rfl) (own_m hw 26 rfl) (by decide) (own_m hw 27 rfl) (own_m hw 22 rfl) e25 (rmC2_3 l Z a0 hw [] ca b25 kc k25 c0 c1 c2 h25 n0 (Nat.le_trans Z0 E25.1) (Vc.ext E25) V25 g_b25 (Nat.ne_of_lt (Nat.lt_of_lt_of_le Vc.lt (Nat.le_of_eq g25.symm))) hx0 hx1 hx2) (by rw [hml]; rfl) (lenOf pd_0 rfl) rfl (Nat.le_of_eq rfl) (hb hby d5_9) (by decide) (by decide) (by decide) (by decide) fun v26 T26 L26 X26 hQ26 => ?_
  obtain ⟨rfl, N26q, K26, Vb26⟩ := hQ26
  have N26 := Fr.app N0 N26q
  show own_At p e below _ T26 m 12 _ [(.int 3)]
  refine own_istore (l' := #[.val (.ref ca), .val (.int 0), .val (.int 3), .val (.ref b25), .val (.int 3), .unset]) X26 hx (hb hby d5_12) rfl ?_
  refine own_iload X26 hx (hb hby d5_14) rfl ?_
  refine own_iloadN X26 hx (hb hby d5_16) rfl ?_
  refine own_icmpYes X26 hx 57 (hb hby d5_17) (teq (by decide : (3 : Int32) = (3 : Int32))).1 (by decide) (by decide) ?_
  refine own_aloadN X26 hx (hb hby d5_57) rfl rfl ?_
  refine own_retA X26 hx hlk hret rfl rfl rfl (hb hby d5_58) (own_kN (by decide) (by decide) ?_)
  exact ⟨b25, k25, rfl, N26, (Keep.trans (Keep.ext (Keep.refl h0 []) E25) K26 (allS (Or.inr szo_b25) all0)), szo_b25, g_b25, (Exa.keep Ex25 K26), Vb26⟩
set_option maxRecDepth 65536 in
set_option maxHeartbeats 40000000 in
theorem rmCF_3 (l : Launch) (Z : State) (a0 : Array Value) (hw : own_Wd a0 Z) (ws : List Jvm.Cond) (ba : Addr)  (h0 : Heap) (n0 : Nat) (Z0 : n0 ≤ h0.size) (A : own_Aln Z h0 ba .byte (3 : Int32)) :
    own_Met l (⟨"java/lang/StringUTF16", "coderFromArrayLen", "([BI)B"⟩ : MethodName) jdk_52_method_15_code 2 (some .byte) ws ({ frames := 0, cells := 0, slots := 0, locals := 0 } : Room) Z #[(.ref ba), (.int 3)] h0 (fun v h L => v = some (.int 0) ∧ Fr n0 L ∧ h = h0) := by
  refine own_body (plainFor_of_name pn_0) ?_
  intro p e s m below meth c s₁ X0 hx hby hml hown hnm hret hlk hZ e0
  replace hown : s.vm.findClass "java/lang/StringUTF16" = some m.cls := hown
  replace hml : c.maxLocals = 2 := hml
  replace hret : meth.sig.returnType = (some .byte) := hret
  have N0 := Fr.nil n0
  refine own_ef (L0 := #[.val (.ref ba), .val (.int 3)]) (by first | (simp [entryFrame, mkF, argsToLocals, Value.category]; done) | rfl) ?_
  refine own_iloadN X0 hx (hb hby d7_0) rfl ?_
  refine own_aloadN X0 hx (hb hby d7_1) rfl rfl ?_
  refine own_arraylength X0 hx hZ e0 A (hb hby d7_2) ?_
  refine own_isub X0 hx (hb hby d7_3) ?_
  rw [show ((3 : Int32) - (3 : Int32)) = (0 : Int32) from by decide]
  refine own_bipush X0 hx 31 (hb hby d7_4) rfl ?_
  refine own_iushr X0 hx (hb hby d7_6) ?_
  rw [show (((0 : Int32).toUInt32 >>> ((31 : Int32) &&& 31).toUInt32).toInt32) = (0 : Int32) from by decide]
  refine own_i2b X0 hx (hb hby d7_7) ?_
  rw [show ((0 : Int32).toInt8.toInt32) = (0 : Int32) from by decide]
  refine own_retN X0 hx hlk hret (by simp) (by decide) (hb hby d7_8) (own_kN (by decide) (by decide) ?_)
  try rw [e0]
  exact ⟨rfl, N0, rfl⟩
set_option maxRecDepth 65536 in
set_option maxHeartbeats 40000000 in
theorem rmI2_3 (l : Launch) (Z : State) (a0 : Array Value) (hw : own_Wd a0 Z) (ws : List Jvm.Cond) (a ca : Addr) (kc : ClassId) (cs c0 c1 c2 : Int32)  (h0 : Heap) (n0 : Nat) (Z0 : n0 ≤ h0.size) (Ea : Exa Z h0 a "java/lang/String") (Fv : Fld Z h0 a "java/lang/String" "value" "[B" .null) (Fc : Fld Z h0 a "java/lang/String" "coder" "B" (.int 0)) (g_a : n0 ≤ a) (Sc : Sta Z h0 "java/lang/String" "COMPACT_STRINGS" "Z" (.int cs)) (hcs : ¬ (cs = (0 : Int32))) (Vc : Arv Z h0 ca kc .char (3 : Int32) [(.int c0), (.int c1), (.int c2)] (.int 0)) (Ecs : Exa Z h0 ca "[C") (hx0 : ¬ ((255 : Int32) < c0)) (hx1 : ¬ ((255 : Int32) < c1)) (hx2 : ¬ ((255 : Int32) < c2)) :
    own_Met l (⟨"java/lang/String", "<init>", "([CIILjava/lang/Void;)V"⟩ : MethodName) jdk_42_method_149_code 6 none ws ({ frames := 2, cells := 1, slots := 3, locals := 35 } : Room) Z #[(.ref a), (.ref ca), (.int 0), (.int 3), .null] h0 (fun v h L => v = none ∧ Fr n0 L ∧ Keep h0 h [a] ∧ ∃ b k, h0.size ≤ b ∧ Exa Z h b "[B" ∧ Exa Z h a "java/lang/String" ∧ Fld Z h a "java/lang/String" "value" "[B" (.ref b) ∧ Fld Z h a "java/lang/String" "coder" "B" (.int 0) ∧ Arv Z h b k .byte (3 : Int32) [(.int (c0.toInt8.toInt32)), (.int (c1.toInt8.toInt32)), (.int (c2.toInt8.toInt32))] (.int 0)) := by
  refine own_body (plainFor_of_name pn_1) ?_
  intro p e s m below meth c s₁ X0 hx hby hml hown hnm hret hlk hZ e0
  replace hown : s.vm.findClass "java/lang/String" = some m.cls := hown
  replace hml : c.maxLocals = 6 := hml
  replace hret : meth.sig.returnType = none := hret
  have N0 := Fr.nil n0
  refine own_ef (L0 := #[.val (.ref a), .val (.ref ca), .val (.int 0), .val (.int 3), .val .null, .unset]) (by first | (simp [entryFrame, mkF, argsToLocals, Value.category]; done) | rfl) ?_
  refine own_aloadN X0 hx (hb hby d3_0) rfl rfl ?_
  refine own_initO (W := 0) X0 hx hZ hown (own_m hw 16 rfl) (own_m hw 17 rfl) (own_m hw 18 rfl) e0 (by rw [hml]; rfl) (hb hby d3_1) (by decide) (Nat.le_of_eq rfl) (by decide) fun T27 X27 e27 => ?_
  refine own_iloadN X27 hx (hb hby d3_4) rfl ?_
  refine own_ifYes X27 hx 27 (hb hby d3_5) (feq (by decide : ¬ ((3 : Int32) = (0 : Int32)))).2 (by decide) (by decide) ?_
  refine own_getS X27 hx hZ hown (host := "") (Or.inl (own_m hw 19 rfl)) Via.refl e27 Sc (hb hby d3_27) fun T28 X28 e28 => ?_
  refine own_ifNo X28 hx (hb hby d3_30) (feq hcs).1 ?_
  refine own_aloadN X28 hx (hb hby d3_33) rfl rfl ?_
  refine own_iloadN X28 hx (hb hby d3_34) rfl ?_
  refine own_iloadN X28 hx (hb hby d3_35) rfl ?_
  refine own_cStat (W := 0) (rest := []) X28 hx hZ [(.ref ca), (.int 0), (.int 3)] hown (own_m hw 20 rfl) (own_m hw 21 rfl) (by decide) (own_m hw 23 rfl) (own_m hw 22 rfl) e28 (rmC1_3 l Z a0 hw [] ca kc c0 c1 c2 h0 n0 Z0 Vc hx0 hx1 hx2) (by rw [hml]; rfl) (lenOf pd_1 rfl) rfl (Nat.le_of_eq rfl) (hb hby d3_36) (by decide) (by decide) (by decide) (by decide) fun v29 T29 L29 X29 hQ29 => ?_
  obtain ⟨b29, kb29, rfl, N29q, K29, szb29, gb29, Eb29, Vb29⟩ := hQ29
  have N29 := Fr.app N0 N29q
  have szo_b29 : h0.size ≤ b29 := Nat.le_trans (Nat.le_refl h0.size) szb29
  show own_At p e below _ T29 m 39 _ [(.ref b29)]
  refine own_astore (l' := #[.val (.ref a), .val (.ref ca), .val (.int 0), .val (.int 3), .val .null, .val (.ref b29)]) X29 hx (hb hby d3_39) rfl rfl ?_
  refine own_aloadN X29 hx (hb hby d3_41) rfl rfl ?_
  refine own_aload X29 hx (hb hby d3_42) rfl rfl ?_
  refine own_iloadN X29 hx (hb hby d3_44) rfl ?_
  refine own_cStat (W := 1) (rest := [(.ref a)]) X29 hx hZ [(.ref b29), (.int 3)] hown (own_m hw 28 rfl) (own_m hw 29 rfl) (by decide) (own_m hw 30 rfl) (own_m hw 22 rfl) rfl (rmCF_3 l Z a0 hw [] b29 T29.heap n0 (Nat.le_trans Z0 K29.1) (own_alnV Vb29)) (by rw [hml]; rfl) (lenOf pd_2 rfl) rfl (Nat.le_of_eq rfl) (hb hby d3_45) (by decide) (by decide) (by decide) (by decide) fun v30 T30 L30 X30 hQ30 => ?_
  obtain ⟨rfl, N30q, e30⟩ := hQ30
  have N30 := Fr.app N29 N30q
  show own_At p e below _ T30 m 48 _ [(.int 0), (.ref a)]
  obtain ⟨T31, h31, X31, e31, W31, st31⟩ := putFN X30 hx hZ hown (own_m hw 31 rfl) Via.refl e30 (Fld.keep Fc K29 nin0) (Exa.keep Ea K29) (Or.inr ⟨(own_m hw 32 rfl), rfl, hnm⟩) (own_m hw 6 rfl) (ty := .byte) (v' := (.int 0)) (by decide) rfl rfl (g := (mkF m 48 #[.val (.ref a), .val (.ref ca), .val (.int 0), .val (.int 3), .val .null, .val (.ref b29)] [(.int 0), (.ref a)])) rfl rfl (hb hby d3_48)
  refine own_step (S' := (T31.setTop (mkF m 51 #[.val (.ref a), .val (.ref ca), .val (.int 0), .val (.int 3), .val .null, .val (.ref b29)] []))) (fun _ k => st31 _ k) ?_
  have Fw31 := Fld.same W31 (Fld.keep Fc K29 nin0)
  have N31 := Fr.snoc X31 N30 g_a
  refine own_aloadN X31 hx (hb hby d3_51) rfl rfl ?_
  refine own_aload X31 hx (hb hby d3_52) rfl rfl ?_
  refine own_putF X31 hx hZ hown (host := "") (Or.inl (own_m hw 33 rfl)) Via.refl e31 (Fld.other W31 (Fld.keep Fv K29 nin0) (Or.inr (slot_ne (Or.inr (own_m hw 34 rfl)) (Or.inr (own_m hw 32 rfl)) (by decide) (t := (.array .byte)) (t' := .byte) (by decide) (by decide)))) (Exa.wr W31 (Exa.keep Ea K29)) (Or.inr ⟨(own_m hw 34 rfl), rfl, hnm⟩) (own_m hw 6 rfl) (ty := (.array .byte)) (by decide) rfl rfl (hb hby d3_54) fun T32 h32 X32 e32 W32 => ?_
  have Fw32 := Fld.same W32 (Fld.other W31 (Fld.keep Fv K29 nin0) (Or.inr (slot_ne (Or.inr (own_m hw 34 rfl)) (Or.inr (own_m hw 32 rfl)) (by decide) (t := (.array .byte)) (t' := .byte) (by decide) (by decide))))
  have N32 := Fr.snoc X32 N31 g_a
  refine own_retV X32 hx hlk hret (hb hby d3_57) (own_kN (by decide) (by decide) ?_)
  try rw [e32]
  exact ⟨rfl, N32, (Keep.wr (Keep.wr (Keep.trans (Keep.refl h0 [a]) K29 all0) W31 (Or.inl (List.mem_of_getElem? (i := 0) rfl))) W32 (Or.inl (List.mem_of_getElem? (i := 0) rfl))), b29, kb29, szo_b29, (Exa.wr W32 (Exa.wr W31 Eb29)), (Exa.wr W32 (Exa.wr W31 (Exa.keep Ea K29))), Fw32, (Fld.other W32 Fw31 (Or.inr (slot_ne (Or.inr (own_m hw 32 rfl)) (Or.inr (own_m hw 34 rfl)) (by decide) (t := .byte) (t' := (.array .byte)) (by decide) (by decide)))), (Arv.other (Arv.other Vb29 W31 (Ne.symm (Nat.ne_of_lt (Nat.lt_of_lt_of_le Ea.lt szb29)))) W32 (Ne.symm (Nat.ne_of_lt (Nat.lt_of_lt_of_le Ea.lt szb29))))⟩
set_option maxRecDepth 65536 in
set_option maxHeartbeats 40000000 in
theorem rmI1_3 (l : Launch) (Z : State) (a0 : Array Value) (hw : own_Wd a0 Z) (ws : List Jvm.Cond) (a ca : Addr) (kc : ClassId) (cs c0 c1 c2 : Int32)  (h0 : Heap) (n0 : Nat) (Z0 : n0 ≤ h0.size) (Ea : Exa Z h0 a "java/lang/String") (Fv : Fld Z h0 a "java/lang/String" "value" "[B" .null) (Fc : Fld Z h0 a "java/lang/String" "coder" "B" (.int 0)) (g_a : n0 ≤ a) (Sc : Sta Z h0 "java/lang/String" "COMPACT_STRINGS" "Z" (.int cs)) (hcs : ¬ (cs = (0 : Int32))) (Vc : Arv Z h0 ca kc .char (3 : Int32) [(.int c0), (.int c1), (.int c2)] (.int 0)) (Ecs : Exa Z h0 ca "[C") (hx0 : ¬ ((255 : Int32) < c0)) (hx1 : ¬ ((255 : Int32) < c1)) (hx2 : ¬ ((255 : Int32) < c2)) :
    own_Met l (⟨"java/lang/String", "<init>", "([C)V"⟩ : MethodName) jdk_42_method_3_code 2 none ws ({ frames := 3, cells := 1, slots := 3, locals := 52 } : Room) Z #[(.ref a), (.ref ca)] h0 (fun v h L => v = none ∧ Fr n0 L ∧ Keep h0 h [a] ∧ ∃ b k, h0.size ≤ b ∧ Exa Z h b "[B" ∧ Exa Z h a "java/lang/String" ∧ Fld Z h a "java/lang/String" "value" "[B" (.ref b) ∧ Fld Z h a "java/lang/String" "coder" "B" (.int 0) ∧ Arv Z h b k .byte (3 : Int32) [(.int (c0.toInt8.toInt32)), (.int (c1.toInt8.toInt32)), (.int (c2.toInt8.toInt32))] (.int 0)) := by
  refine own_body (plainFor_of_name pn_1) ?_
  intro p e s m below meth c s₁ X0 hx hby hml hown hnm hret hlk hZ e0
  replace hown : s.vm.findClass "java/lang/String" = some m.cls := hown
  replace hml : c.maxLocals = 2 := hml
  replace hret : meth.sig.returnType = none := hret
  have N0 := Fr.nil n0
  refine own_ef (L0 := #[.val (.ref a), .val (.ref ca)]) (by first | (simp [entryFrame, mkF, argsToLocals, Value.category]; done) | rfl) ?_
  refine own_aloadN X0 hx (hb hby d2_0) rfl rfl ?_
  refine own_aloadN X0 hx (hb hby d2_1) rfl rfl ?_
  refine own_iconst X0 hx 0 (hb hby d2_2) rfl ?_
  refine own_aloadN X0 hx (hb hby d2_3) rfl rfl ?_
  refine own_arraylength X0 hx hZ e0 (own_alnV Vc) (hb hby d2_4) ?_
  refine own_aconstNull X0 hx (hb hby d2_5) ?_
  refine own_cSpec (b := a) (W := 0) (rest := []) X0 hx hZ [(.ref ca), (.int 0), (.int 3), .null] rfl hown (own_m hw 12 rfl) (own_m hw 13 rfl) (by decide) (own_m hw 15 rfl) (own_m hw 7 rfl) e0 (rmI2_3 l Z a0 hw [] a ca kc cs c0 c1 c2 h0 n0 Z0 Ea Fv Fc g_a Sc hcs Vc Ecs hx0 hx1 hx2) (by rw [hml]; rfl) (lenOf pd_3 rfl) rfl (Nat.le_of_eq rfl) (hb hby d2_6) (by decide) (by decide) (by decide) (by decide) fun v33 T33 L33 X33 hQ33 => ?_
  obtain ⟨rfl, N33q, K33, R33⟩ := hQ33
  have N33 := Fr.app N0 N33q
  show own_At p e below _ T33 m 9 _ []
  refine own_retV X33 hx hlk hret (hb hby d2_9) (own_kN (by decide) (by decide) ?_)
  exact ⟨rfl, N33, K33, R33⟩
set_option maxRecDepth 65536 in
set_option maxHeartbeats 40000000 in
theorem rmI2_0 (l : Launch) (Z : State) (a0 : Array Value) (hw : own_Wd a0 Z) (ws : List Jvm.Cond) (a ca : Addr) (kc : ClassId)  (h0 : Heap) (n0 : Nat) (Z0 : n0 ≤ h0.size) (Ea : Exa Z h0 a "java/lang/String") (Fv : Fld Z h0 a "java/lang/String" "value" "[B" .null) (Fc : Fld Z h0 a "java/lang/String" "coder" "B" (.int 0)) (g_a : n0 ≤ a) (Vc : Arv Z h0 ca kc .char (0 : Int32) [] (.int 0)) :
    own_MetW l (⟨"java/lang/String", "<init>", "([CIILjava/lang/Void;)V"⟩ : MethodName) jdk_42_method_149_code 6 none ws ({ frames := 1, cells := 4, slots := 8, locals := 12 } : Room) Z own_EL #[(.ref a), (.ref ca), (.int 0), (.int 0), .null] h0 (fun v h L => v = none ∧ Fr n0 L ∧ Keep h0 h [a] ∧ ∃ b k, Exa Z h a "java/lang/String" ∧ Fld Z h a "java/lang/String" "value" "[B" (.ref b) ∧ Fld Z h a "java/lang/String" "coder" "B" (.int 0) ∧ Arv Z h b k .byte (0 : Int32) [] (.int 0)) := by
  refine own_bodyW (plainFor_of_name pn_1) ?_
  intro p e s m below meth c s₁ X0 hx hby hml hown hnm hret hlk hZ e0 hs0 CH0 hS0
  replace hown : (s.setVm s.vm).vm.findClass "java/lang/String" = some m.cls := hown
  replace hml : c.maxLocals = 6 := hml
  replace hret : meth.sig.returnType = none := hret
  have N0 := Fr.nil n0
  have hEL : EW Z a0 own_EL := own_ELw hw
  have CR0 : CHr Z own_EL s.vm s.heap s.vm h0 := by rw [hs0]; exact CHr.refl CH0
  refine own_ef (L0 := #[.val (.ref a), .val (.ref ca), .val (.int 0), .val (.int 0), .val .null, .unset]) (by first | (simp [entryFrame, mkF, argsToLocals, Value.category]; done) | rfl) ?_
  refine own_aloadN X0 hx (hb hby d3_0) rfl rfl ?_
  refine own_initO (W := 0) X0 hx hZ hown (own_m hw 16 rfl) (own_m hw 17 rfl) (own_m hw 18 rfl) e0 (by rw [hml]; rfl) (hb hby d3_1) (by decide) (Nat.le_of_eq rfl) (by decide) fun T34 X34 e34 => ?_
  refine own_iloadN X34 hx (hb hby d3_4) rfl ?_
  refine own_ifNo X34 hx (hb hby d3_5) (teq (by decide : (0 : Int32) = (0 : Int32))).2 ?_
  refine own_aloadN X34 hx (hb hby d3_8) rfl rfl ?_
  have Sf := own_safeFresh (EL := own_EL) hZ.alike Ea Fv
  refine own_ldcE X34 hx hZ hown (own_m hw 35 rfl) (own_wS hw) e34 hEL (List.mem_cons_self ..) CH0 hS0 (Nat.le_refl _) (hb hby d3_9) (by decide) (by decide) fun s35 t35 T35 h35 k135 kk35 X35 e35 E35 hS35 hk35 hZ35 ho35 Es35 Fsc35 Fsv35 Vs35 CR35 hs35 => ?_
  have lt35 : a < h0.size := Ea.lt
  have Sf35 := CHr.safe CR35 lt35 Sf
  refine own_getF X35 hx hZ35 ho35 (host := "") (Or.inl (own_m hw 33 rfl)) Via.refl e35 Fsv35 (hb hby d3_11) fun T36 X36 e36 => ?_
  refine own_putF X36 hx hZ35 ho35 (host := "") (Or.inl (own_m hw 33 rfl)) Via.refl e36 (Fld.ext E35 Fv) (Exa.ext E35 Ea) (Or.inr ⟨(own_m hw 34 rfl), rfl, hnm⟩) (own_m hw 6 rfl) (ty := (.array .byte)) (by decide) rfl rfl (hb hby d3_14) fun T37 h37 X37 e37 W37 => ?_
  have Fw37 := Fld.same W37 (Fld.ext E35 Fv)
  have N37 := Fr.snoc X37 N0 g_a
  refine own_aloadN X37 hx (hb hby d3_17) rfl rfl ?_
  refine own_ldcE X37 hx hZ35 ho35 (own_m hw 35 rfl) (own_wS hw) e37 hEL (List.mem_cons_self ..) (CHv.wr W37 Sf35 CR35.1) hS35 (Nat.le_trans hk35 (Keep.of_wr W37).1) (hb hby d3_18) (by decide) (by decide) fun s38 t38 T38 h38 k138 kk38 X38 e38 E38 hS38 hk38 hZ38 ho38 Es38 Fsc38 Fsv38 Vs38 CR38 hs38 => ?_
  have lt38 : a < h37.size := (Exa.wr W37 (Exa.ext E35 Ea)).lt
  have Sf38 := CHr.safe CR38 lt38 (Safe.wr W37 Sf35 CR35.1 Sf35)
  refine own_getF X38 hx hZ38 ho38 (host := "") (Or.inl (own_m hw 31 rfl)) Via.refl e38 Fsc38 (hb hby d3_20) fun T39 X39 e39 => ?_
  obtain ⟨T40, h40, X40, e40, W40, st40⟩ := putFN X39 hx hZ38 ho38 (own_m hw 31 rfl) Via.refl e39 (Fld.ext E38 (Fld.other W37 (Fld.ext E35 Fc) (Or.inr (slot_ne (Or.inr (own_m hw 32 rfl)) (Or.inr (own_m hw 34 rfl)) (by decide) (t := .byte) (t' := (.array .byte)) (by decide) (by decide))))) (Exa.ext E38 (Exa.wr W37 (Exa.ext E35 Ea))) (Or.inr ⟨(own_m hw 32 rfl), rfl, hnm⟩) (own_m hw 6 rfl) (ty := .byte) (v' := (.int 0)) (by decide) rfl rfl (g := (mkF m 23 #[.val (.ref a), .val (.ref ca), .val (.int 0), .val (.int 0), .val .null, .unset] [(.int 0), (.ref a)])) rfl rfl (hb hby d3_23)
  refine own_step (S' := (T40.setTop (mkF m 26 #[.val (.ref a), .val (.ref ca), .val (.int 0), .val (.int 0), .val .null, .unset] []))) (fun _ k => st40 _ k) ?_
  have Fw40 := Fld.same W40 (Fld.ext E38 (Fld.other W37 (Fld.ext E35 Fc) (Or.inr (slot_ne (Or.inr (own_m hw 32 rfl)) (Or.inr (own_m hw 34 rfl)) (by decide) (t := .byte) (t' := (.array .byte)) (by decide) (by decide)))))
  have N40 := Fr.snoc X40 N37 g_a
  refine own_retV X40 hx hlk hret (hb hby d3_26) (own_kW X40 hZ38 hEL (by rw [e40]; exact (CHr.trans (CHr.trans (CHr.trans (CHr.trans CR0 CR35) (CHr.wr W37 Sf35 CR35.1)) CR38) (CHr.wr W40 Sf38 CR38.1))) hS38 (by rw [e40]; exact (Nat.le_trans hk38 (Keep.of_wr W40).1)) (by decide) (by decide) ?_)
  try rw [e40]
  exact ⟨rfl, N40, (Keep.wr (Keep.ext (Keep.wr (Keep.ext (Keep.refl h0 [a]) E35) W37 (Or.inl (List.mem_of_getElem? (i := 0) rfl))) E38) W40 (Or.inl (List.mem_of_getElem? (i := 0) rfl))), t35, kk35, (Exa.wr W40 (Exa.ext E38 (Exa.wr W37 (Exa.ext E35 Ea)))), (Fld.other W40 (Fld.ext E38 Fw37) (Or.inr (slot_ne (Or.inr (own_m hw 34 rfl)) (Or.inr (own_m hw 32 rfl)) (by decide) (t := (.array .byte)) (t' := .byte) (by decide) (by decide)))), Fw40, (Arv.other ((Arv.other Vs35 W37 (Ne.symm (hs35 _ Sf35).2)).ext E38) W40 (Ne.symm (hs35 _ Sf35).2))⟩
set_option maxRecDepth 65536 in
set_option maxHeartbeats 40000000 in
theorem rmI1_0 (l : Launch) (Z : State) (a0 : Array Value) (hw : own_Wd a0 Z) (ws : List Jvm.Cond) (a ca : Addr) (kc : ClassId)  (h0 : Heap) (n0 : Nat) (Z0 : n0 ≤ h0.size) (Ea : Exa Z h0 a "java/lang/String") (Fv : Fld Z h0 a "java/lang/String" "value" "[B" .null) (Fc : Fld Z h0 a "java/lang/String" "coder" "B" (.int 0)) (g_a : n0 ≤ a) (Vc : Arv Z h0 ca kc .char (0 : Int32) [] (.int 0)) :
    own_MetW l (⟨"java/lang/String", "<init>", "([C)V"⟩ : MethodName) jdk_42_method_3_code 2 none ws ({ frames := 2, cells := 4, slots := 8, locals := 29 } : Room) Z own_EL #[(.ref a), (.ref ca)] h0 (fun v h L => v = none ∧ Fr n0 L ∧ Keep h0 h [a] ∧ ∃ b k, Exa Z h a "java/lang/String" ∧ Fld Z h a "java/lang/String" "value" "[B" (.ref b) ∧ Fld Z h a "java/lang/String" "coder" "B" (.int 0) ∧ Arv Z h b k .byte (0 : Int32) [] (.int 0)) := by
  refine own_bodyW (plainFor_of_name pn_1) ?_
  intro p e s m below meth c s₁ X0 hx hby hml hown hnm hret hlk hZ e0 hs0 CH0 hS0
  replace hown : (s.setVm s.vm).vm.findClass "java/lang/String" = some m.cls := hown
  replace hml : c.maxLocals = 2 := hml
  replace hret : meth.sig.returnType = none := hret
  have N0 := Fr.nil n0
  have hEL : EW Z a0 own_EL := own_ELw hw
  have CR0 : CHr Z own_EL s.vm s.heap s.vm h0 := by rw [hs0]; exact CHr.refl CH0
  refine own_ef (L0 := #[.val (.ref a), .val (.ref ca)]) (by first | (simp [entryFrame, mkF, argsToLocals, Value.category]; done) | rfl) ?_
  refine own_aloadN X0 hx (hb hby d2_0) rfl rfl ?_
  refine own_aloadN X0 hx (hb hby d2_1) rfl rfl ?_
  refine own_iconst X0 hx 0 (hb hby d2_2) rfl ?_
  refine own_aloadN X0 hx (hb hby d2_3) rfl rfl ?_
  refine own_arraylength X0 hx hZ e0 (own_alnV Vc) (hb hby d2_4) ?_
  refine own_aconstNull X0 hx (hb hby d2_5) ?_
  refine own_cSpecW (b := a) (W := 0) (rest := []) X0 hx hZ [(.ref ca), (.int 0), (.int 0), .null] rfl hown (own_m hw 12 rfl) (own_m hw 13 rfl) (by decide) (own_m hw 15 rfl) (own_m hw 7 rfl) e0 (rmI2_0 l Z a0 hw [] a ca kc h0 n0 Z0 Ea Fv Fc g_a Vc) hEL CH0 hS0 (Nat.le_refl _) (by rw [hml]; rfl) (lenOf pd_3 rfl) rfl (Nat.le_of_eq rfl) (hb hby d2_6) (by decide) (by decide) (by decide) (by decide) fun v41 T41 L41 X41 hS41 hZ41 ho41 CR41 hQ41 => ?_
  obtain ⟨rfl, N41q, K41, R41⟩ := hQ41
  have N41 := Fr.app N0 N41q
  show own_At p e below _ T41 m 9 _ []
  refine own_retV X41 hx hlk hret (hb hby d2_9) (own_kW X41 hZ41 hEL (CHr.trans CR0 CR41) hS41 (Nat.le_refl _) (by decide) (by decide) ?_)
  exact ⟨rfl, N41, K41, R41⟩
theorem d15_0 : decode jdk_42_method_154_code 0 = .ok (.getstatic 38, 3) := by decide +kernel
theorem d15_3 : decode jdk_42_method_154_code 3 = .ok (.ifCond .eq 14, 3) := by decide +kernel
theorem d15_6 : decode jdk_42_method_154_code 6 = .ok (.aload_n 0, 1) := by decide +kernel
theorem d15_7 : decode jdk_42_method_154_code 7 = .ok (.getfield 15, 3) := by decide +kernel
theorem d15_10 : decode jdk_42_method_154_code 10 = .ok (.ifCond .ne 7, 3) := by decide +kernel
theorem d15_13 : decode jdk_42_method_154_code 13 = .ok (.iconst 1, 1) := by decide +kernel
theorem d15_14 : decode jdk_42_method_154_code 14 = .ok (.goto 4, 3) := by decide +kernel
theorem d15_17 : decode jdk_42_method_154_code 17 = .ok (.iconst 0, 1) := by decide +kernel
theorem d15_18 : decode jdk_42_method_154_code 18 = .ok (.ireturn, 1) := by decide +kernel
set_option maxRecDepth 65536 in
set_option maxHeartbeats 40000000 in
theorem rmL (l : Launch) (Z : State) (a0 : Array Value) (hw : own_Wd a0 Z) (ws : List Jvm.Cond) (a : Addr) (cs : Int32)  (h0 : Heap) (n0 : Nat) (Z0 : n0 ≤ h0.size) (Sc : Sta Z h0 "java/lang/String" "COMPACT_STRINGS" "Z" (.int cs)) (hcs : ¬ (cs = (0 : Int32))) (Fc : Fld Z h0 a "java/lang/String" "coder" "B" (.int 0)) :
    own_Met l (⟨"java/lang/String", "isLatin1", "()Z"⟩ : MethodName) jdk_42_method_154_code 1 (some .boolean) ws ({ frames := 0, cells := 0, slots := 0, locals := 0 } : Room) Z #[(.ref a)] h0 (fun v h L => v = some (.int 1) ∧ Fr n0 L ∧ h = h0) := by
  refine own_body (plainFor_of_name pn_1) ?_
  intro p e s m below meth c s₁ X0 hx hby hml hown hnm hret hlk hZ e0
  replace hown : s.vm.findClass "java/lang/String" = some m.cls := hown
  replace hml : c.maxLocals = 1 := hml
  replace hret : meth.sig.returnType = (some .boolean) := hret
  have N0 := Fr.nil n0
  refine own_ef (L0 := #[.val (.ref a)]) (by first | (simp [entryFrame, mkF, argsToLocals, Value.category]; done) | rfl) ?_
  refine own_getS X0 hx hZ hown (host := "") (Or.inl (own_m hw 19 rfl)) Via.refl e0 Sc (hb hby d15_0) fun T42 X42 e42 => ?_
  refine own_ifNo X42 hx (hb hby d15_3) (feq hcs).1 ?_
  refine own_aloadN X42 hx (hb hby d15_6) rfl rfl ?_
  refine own_getF X42 hx hZ hown (host := "") (Or.inl (own_m hw 31 rfl)) Via.refl e42 Fc (hb hby d15_7) fun T43 X43 e43 => ?_
  refine own_ifNo X43 hx (hb hby d15_10) (teq (by decide : (0 : Int32) = (0 : Int32))).2 ?_
  refine own_iconst X43 hx 1 (hb hby d15_13) rfl ?_
  refine own_goto X43 hx 18 (hb hby d15_14) (by decide) (by decide) ?_
  refine own_retN X43 hx hlk hret (by simp) (by decide) (hb hby d15_18) (own_kN (by decide) (by decide) ?_)
  try rw [e43]
  exact ⟨rfl, N0, rfl⟩
theorem d13_0 : decode jdk_42_method_152_code 0 = .ok (.getstatic 38, 3) := by decide +kernel
theorem d13_3 : decode jdk_42_method_152_code 3 = .ok (.ifCond .eq 10, 3) := by decide +kernel
theorem d13_6 : decode jdk_42_method_152_code 6 = .ok (.aload_n 0, 1) := by decide +kernel
theorem d13_7 : decode jdk_42_method_152_code 7 = .ok (.getfield 15, 3) := by decide +kernel
theorem d13_10 : decode jdk_42_method_152_code 10 = .ok (.goto 4, 3) := by decide +kernel
theorem d13_14 : decode jdk_42_method_152_code 14 = .ok (.ireturn, 1) := by decide +kernel
set_option maxRecDepth 65536 in
set_option maxHeartbeats 40000000 in
theorem rmCd (l : Launch) (Z : State) (a0 : Array Value) (hw : own_Wd a0 Z) (ws : List Jvm.Cond) (a : Addr) (cs : Int32)  (h0 : Heap) (n0 : Nat) (Z0 : n0 ≤ h0.size) (Sc : Sta Z h0 "java/lang/String" "COMPACT_STRINGS" "Z" (.int cs)) (hcs : ¬ (cs = (0 : Int32))) (Fc : Fld Z h0 a "java/lang/String" "coder" "B" (.int 0)) :
    own_Met l (⟨"java/lang/String", "coder", "()B"⟩ : MethodName) jdk_42_method_152_code 1 (some .byte) ws ({ frames := 0, cells := 0, slots := 0, locals := 0 } : Room) Z #[(.ref a)] h0 (fun v h L => v = some (.int 0) ∧ Fr n0 L ∧ h = h0) := by
  refine own_body (plainFor_of_name pn_1) ?_
  intro p e s m below meth c s₁ X0 hx hby hml hown hnm hret hlk hZ e0
  replace hown : s.vm.findClass "java/lang/String" = some m.cls := hown
  replace hml : c.maxLocals = 1 := hml
  replace hret : meth.sig.returnType = (some .byte) := hret
  have N0 := Fr.nil n0
  refine own_ef (L0 := #[.val (.ref a)]) (by first | (simp [entryFrame, mkF, argsToLocals, Value.category]; done) | rfl) ?_
  refine own_getS X0 hx hZ hown (host := "") (Or.inl (own_m hw 19 rfl)) Via.refl e0 Sc (hb hby d13_0) fun T44 X44 e44 => ?_
  refine own_ifNo X44 hx (hb hby d13_3) (feq hcs).1 ?_
  refine own_aloadN X44 hx (hb hby d13_6) rfl rfl ?_
  refine own_getF X44 hx hZ hown (host := "") (Or.inl (own_m hw 31 rfl)) Via.refl e44 Fc (hb hby d13_7) fun T45 X45 e45 => ?_
  refine own_goto X45 hx 14 (hb hby d13_10) (by decide) (by decide) ?_
  refine own_retN X45 hx hlk hret (by simp) (by decide) (hb hby d13_14) (own_kN (by decide) (by decide) ?_)
  try rw [e45]
  exact ⟨rfl, N0, rfl⟩
theorem d21_0 : decode jdk_52_method_3_code 0 = .ok (.iload_n 0, 1) := by decide +kernel
theorem d21_1 : decode jdk_52_method_3_code 1 = .ok (.ifCond .ge 11, 3) := by decide +kernel
theorem d21_12 : decode jdk_52_method_3_code 12 = .ok (.iload_n 0, 1) := by decide +kernel
theorem d21_13 : decode jdk_52_method_3_code 13 = .ok (.ldc 20, 2) := by decide +kernel
theorem d21_15 : decode jdk_52_method_3_code 15 = .ok (.if_icmp .lt 40, 3) := by decide +kernel
theorem d21_55 : decode jdk_52_method_3_code 55 = .ok (.iload_n 0, 1) := by decide +kernel
theorem d21_56 : decode jdk_52_method_3_code 56 = .ok (.iconst 1, 1) := by decide +kernel
theorem d21_57 : decode jdk_52_method_3_code 57 = .ok (.ishl, 1) := by decide +kernel
theorem d21_58 : decode jdk_52_method_3_code 58 = .ok (.ireturn, 1) := by decide +kernel
set_option maxRecDepth 65536 in
set_option maxHeartbeats 40000000 in
theorem rmNL_1 (l : Launch) (Z : State) (a0 : Array Value) (hw : own_Wd a0 Z) (ws : List Jvm.Cond)   (h0 : Heap) (n0 : Nat) (Z0 : n0 ≤ h0.size) :
    own_Met l (⟨"java/lang/StringUTF16", "newBytesLength", "(I)I"⟩ : MethodName) jdk_52_method_3_code 1 (some .int) ws ({ frames := 0, cells := 0, slots := 0, locals := 0 } : Room) Z #[(.int 1)] h0 (fun v h L => v = some (.int 2) ∧ Fr n0 L ∧ h = h0) := by
  refine own_body (plainFor_of_name pn_0) ?_
  intro p e s m below meth c s₁ X0 hx hby hml hown hnm hret hlk hZ e0
  replace hown : s.vm.findClass "java/lang/StringUTF16" = some m.cls := hown
  replace hml : c.maxLocals = 1 := hml
  replace hret : meth.sig.returnType = (some .int) := hret
  have N0 := Fr.nil n0
  refine own_ef (L0 := #[.val (.int 1)]) (by first | (simp [entryFrame, mkF, argsToLocals, Value.category]; done) | rfl) ?_
  refine own_iloadN X0 hx (hb hby d21_0) rfl ?_
  refine own_ifYes X0 hx 12 (hb hby d21_1) (flt (by decide : ¬ ((1 : Int32) < (0 : Int32)))).2.1 (by decide) (by decide) ?_
  refine own_iloadN X0 hx (hb hby d21_12) rfl ?_
  refine own_ldcI X0 hx hZ hown (own_m hw 112 rfl) (hb hby d21_13) ?_
  refine own_icmpYes X0 hx 55 (hb hby d21_15) (tlt (by decide : (1 : Int32) < (1073741823 : Int32))).1 (by decide) (by decide) ?_
  refine own_iloadN X0 hx (hb hby d21_55) rfl ?_
  refine own_iconst X0 hx 1 (hb hby d21_56) rfl ?_
  refine own_ishl X0 hx (hb hby d21_57) ?_
  rw [show ((1 : Int32) <<< ((1 : Int32) &&& 31)) = (2 : Int32) from by decide]
  refine own_retI X0 hx hlk hret (hb hby d21_58) (own_kN (by decide) (by decide) ?_)
  try rw [e0]
  exact ⟨rfl, N0, rfl⟩
theorem d20_0 : decode jdk_52_method_2_code 0 = .ok (.iload_n 0, 1) := by decide +kernel
theorem d20_1 : decode jdk_52_method_2_code 1 = .ok (.invokestatic 11, 3) := by decide +kernel
theorem d20_4 : decode jdk_52_method_2_code 4 = .ok (.newarray .byte, 2) := by decide +kernel
theorem d20_6 : decode jdk_52_method_2_code 6 = .ok (.areturn, 1) := by decide +kernel
theorem pd_4 : parseMethodDescriptor "(I)I" = some ⟨[.int], some .int⟩ := by decide +kernel
set_option maxRecDepth 65536 in
set_option maxHeartbeats 40000000 in
theorem rmNB_1 (l : Launch) (Z : State) (a0 : Array Value) (hw : own_Wd a0 Z) (ws : List Jvm.Cond)   (h0 : Heap) (n0 : Nat) (Z0 : n0 ≤ h0.size) :
    own_Met l (⟨"java/lang/StringUTF16", "newBytesFor", "(I)[B"⟩ : MethodName) jdk_52_method_2_code 1 (some (.array .byte)) ws ({ frames := 1, cells := 1, slots := 2, locals := 12 } : Room) Z #[(.int 1)] h0 (fun v h L => ∃ b k, v = some (.ref b) ∧ Fr n0 L ∧ Keep h0 h [] ∧ h0.size ≤ b ∧ n0 ≤ b ∧ Exa Z h b "[B" ∧ Arv Z h b k .byte (2 : Int32) [(.int 0), (.int 0)] (.int 0)) := by
  refine own_body (plainFor_of_name pn_0) ?_
  intro p e s m below meth c s₁ X0 hx hby hml hown hnm hret hlk hZ e0
  replace hown : s.vm.findClass "java/lang/StringUTF16" = some m.cls := hown
  replace hml : c.maxLocals = 1 := hml
  replace hret : meth.sig.returnType = (some (.array .byte)) := hret
  have N0 := Fr.nil n0
  refine own_ef (L0 := #[.val (.int 1)]) (by first | (simp [entryFrame, mkF, argsToLocals, Value.category]; done) | rfl) ?_
  refine own_iloadN X0 hx (hb hby d20_0) rfl ?_
  refine own_cStat (W := 0) (rest := []) X0 hx hZ [(.int 1)] hown (own_m hw 109 rfl) (own_m hw 110 rfl) (by decide) (own_m hw 111 rfl) (own_m hw 22 rfl) e0 (rmNL_1 l Z a0 hw [] h0 n0 Z0) (by rw [hml]; rfl) (lenOf pd_4 rfl) rfl (Nat.le_of_eq rfl) (hb hby d20_1) (by decide) (by decide) (by decide) (by decide) fun v46 T46 L46 X46 hQ46 => ?_
  obtain ⟨rfl, N46q, e46⟩ := hQ46
  have N46 := Fr.app N0 N46q
  show own_At p e below _ T46 m 4 _ [(.int 2)]
  refine own_newP (n := (2 : Int32)) (cap := 2) (ad := "[B") X46 hx hZ (own_m hw 24 rfl) e46 (hb hby d20_4) (by decide) (by decide) (by decide) (by decide) (by decide) (by decide) fun T47 h47 k47 b47 g47 X47 e47 E47 A47 Ex47 => ?_
  have g_b47 : n0 ≤ b47 := Nat.le_trans Z0 (Nat.le_of_eq g47.symm)
  have szo_b47 : h0.size ≤ b47 := Nat.le_trans (Nat.le_refl h0.size) (Nat.le_of_eq g47.symm)
  have V47 : Arv Z h47 b47 k47 .byte (2 : Int32) [(.int 0), (.int 0)] (.int 0) := (Arv.new A47 (by decide)).pad (pad_rep [] (.int 0) 2)
  refine own_retA X47 hx hlk hret rfl rfl rfl (hb hby d20_6) (own_kN (by decide) (by decide) ?_)
  try rw [e47]
  exact ⟨b47, k47, rfl, N46, (Keep.ext (Keep.refl h0 []) E47), szo_b47, g_b47, Ex47, V47⟩
theorem d22_0 : decode jdk_52_method_4_code 0 = .ok (.getstatic 44, 3) := by decide +kernel
theorem d22_3 : decode jdk_52_method_4_code 3 = .ok (.ifCond .ne 25, 3) := by decide +kernel
theorem d22_28 : decode jdk_52_method_4_code 28 = .ok (.iload_n 1, 1) := by decide +kernel
theorem d22_29 : decode jdk_52_method_4_code 29 = .ok (.iconst 1, 1) := by decide +kernel
theorem d22_30 : decode jdk_52_method_4_code 30 = .ok (.ishl, 1) := by decide +kernel
theorem d22_31 : decode jdk_52_method_4_code 31 = .ok (.istore_n 1, 1) := by decide +kernel
theorem d22_32 : decode jdk_52_method_4_code 32 = .ok (.aload_n 0, 1) := by decide +kernel
theorem d22_33 : decode jdk_52_method_4_code 33 = .ok (.iload_n 1, 1) := by decide +kernel
theorem d22_34 : decode jdk_52_method_4_code 34 = .ok (.iinc 1 1, 3) := by decide +kernel
theorem d22_37 : decode jdk_52_method_4_code 37 = .ok (.iload_n 2, 1) := by decide +kernel
theorem d22_38 : decode jdk_52_method_4_code 38 = .ok (.getstatic 59, 3) := by decide +kernel
theorem d22_41 : decode jdk_52_method_4_code 41 = .ok (.ishr, 1) := by decide +kernel
theorem d22_42 : decode jdk_52_method_4_code 42 = .ok (.i2b, 1) := by decide +kernel
theorem d22_43 : decode jdk_52_method_4_code 43 = .ok (.bastore, 1) := by decide +kernel
theorem d22_44 : decode jdk_52_method_4_code 44 = .ok (.aload_n 0, 1) := by decide +kernel
theorem d22_45 : decode jdk_52_method_4_code 45 = .ok (.iload_n 1, 1) := by decide +kernel
theorem d22_46 : decode jdk_52_method_4_code 46 = .ok (.iload_n 2, 1) := by decide +kernel
theorem d22_47 : decode jdk_52_method_4_code 47 = .ok (.getstatic 63, 3) := by decide +kernel
theorem d22_50 : decode jdk_52_method_4_code 50 = .ok (.ishr, 1) := by decide +kernel
theorem d22_51 : decode jdk_52_method_4_code 51 = .ok (.i2b, 1) := by decide +kernel
theorem d22_52 : decode jdk_52_method_4_code 52 = .ok (.bastore, 1) := by decide +kernel
theorem d22_53 : decode jdk_52_method_4_code 53 = .ok (.return_, 1) := by decide +kernel
set_option maxRecDepth 65536 in
set_option maxHeartbeats 40000000 in
theorem rmPut_1_0 (l : Launch) (Z : State) (a0 : Array Value) (hw : own_Wd a0 Z) (ws : List Jvm.Cond) (b : Addr) (kb : ClassId) (x y0 y1 : Int32)  (h0 : Heap) (n0 : Nat) (Z0 : n0 ≤ h0.size) (Sad : Sta Z h0 "java/lang/StringUTF16" "$assertionsDisabled" "Z" (.int 1)) (Shi : Sta Z h0 "java/lang/StringUTF16" "HI_BYTE_SHIFT" "I" (.int 0)) (Slo : Sta Z h0 "java/lang/StringUTF16" "LO_BYTE_SHIFT" "I" (.int 8)) (Vb : Arv Z h0 b kb .byte (2 : Int32) [(.int y0), (.int y1)] (.int 0)) (g_b : n0 ≤ b) (Eb : Exa Z h0 b "[B") :
    own_Met l (⟨"java/lang/StringUTF16", "putChar", "([BII)V"⟩ : MethodName) jdk_52_method_4_code 3 none ws ({ frames := 0, cells := 0, slots := 0, locals := 0 } : Room) Z #[(.ref b), (.int 0), (.int x)] h0 (fun v h L => v = none ∧ Fr n0 L ∧ Keep h0 h [b] ∧ Arv Z h b kb .byte (2 : Int32) [(.int (own_lo x)), (.int (own_hi x))] (.int 0)) := by
  refine own_body (plainFor_of_name pn_0) ?_
  intro p e s m below meth c s₁ X0 hx hby hml hown hnm hret hlk hZ e0
  replace hown : s.vm.findClass "java/lang/StringUTF16" = some m.cls := hown
  replace hml : c.maxLocals = 3 := hml
  replace hret : meth.sig.returnType = none := hret
  have N0 := Fr.nil n0
  refine own_ef (L0 := #[.val (.ref b), .val (.int 0), .val (.int x)]) (by first | (simp [entryFrame, mkF, argsToLocals, Value.category]; done) | rfl) ?_
  refine own_getS X0 hx hZ hown (host := "") (Or.inl (own_m hw 116 rfl)) Via.refl e0 Sad (hb hby d22_0) fun T48 X48 e48 => ?_
  refine own_ifYes X48 hx 28 (hb hby d22_3) (feq (by decide : ¬ ((1 : Int32) = (0 : Int32)))).2 (by decide) (by decide) ?_
  refine own_iloadN X48 hx (hb hby d22_28) rfl ?_
  refine own_iconst X48 hx 1 (hb hby d22_29) rfl ?_
  refine own_ishl X48 hx (hb hby d22_30) ?_
  rw [show ((0 : Int32) <<< ((1 : Int32) &&& 31)) = (0 : Int32) from by decide]
  refine own_istoreN (l' := #[.val (.ref b), .val (.int 0), .val (.int x)]) X48 hx (hb hby d22_31) rfl ?_
  refine own_aloadN X48 hx (hb hby d22_32) rfl rfl ?_
  refine own_iloadN X48 hx (hb hby d22_33) rfl ?_
  refine own_iinc (l' := #[.val (.ref b), .val (.int ((0 : Int32) + (1 : Int32))), .val (.int x)]) X48 hx (hb hby d22_34) rfl rfl ?_
  rw [show ((0 : Int32) + (1 : Int32)) = (1 : Int32) from by decide]
  refine own_iloadN X48 hx (hb hby d22_37) rfl ?_
  refine own_getS X48 hx hZ hown (host := "") (Or.inl (own_m hw 117 rfl)) Via.refl e48 Shi (hb hby d22_38) fun T49 X49 e49 => ?_
  refine own_ishr X49 hx (hb hby d22_41) ?_
  refine own_i2b X49 hx (hb hby d22_42) ?_
  refine own_stB (vs' := [(.int ((x >>> ((0 : Int32) &&& 31)).toInt8.toInt32)), (.int y1)]) (w := (.int ((x >>> ((0 : Int32) &&& 31)).toInt8.toInt32))) X49 hx hZ e49 Vb ⟨by decide, by decide⟩ 0 rfl (Nat.le_of_ble_eq_true rfl) (congrArg Value.int (own_b8 _)) rfl (hb hby d22_43) fun T50 h50 X50 e50 W50 V50 => ?_
  have N50 := Fr.snoc X50 N0 g_b
  refine own_aloadN X50 hx (hb hby d22_44) rfl rfl ?_
  refine own_iloadN X50 hx (hb hby d22_45) rfl ?_
  refine own_iloadN X50 hx (hb hby d22_46) rfl ?_
  refine own_getS X50 hx hZ hown (host := "") (Or.inl (own_m hw 118 rfl)) Via.refl e50 (Sta.wr W50 Slo) (hb hby d22_47) fun T51 X51 e51 => ?_
  refine own_ishr X51 hx (hb hby d22_50) ?_
  refine own_i2b X51 hx (hb hby d22_51) ?_
  refine own_stB (vs' := [(.int ((x >>> ((0 : Int32) &&& 31)).toInt8.toInt32)), (.int ((x >>> ((8 : Int32) &&& 31)).toInt8.toInt32))]) (w := (.int ((x >>> ((8 : Int32) &&& 31)).toInt8.toInt32))) X51 hx hZ e51 V50 ⟨by decide, by decide⟩ 1 rfl (Nat.le_of_ble_eq_true rfl) (congrArg Value.int (own_b8 _)) rfl (hb hby d22_52) fun T52 h52 X52 e52 W52 V52 => ?_
  have N52 := Fr.snoc X52 N50 g_b
  refine own_retV X52 hx hlk hret (hb hby d22_53) (own_kN (by decide) (by decide) ?_)
  try rw [e52]
  exact ⟨rfl, N52, (Keep.wr (Keep.wr (Keep.refl h0 [b]) W50 (Or.inl (List.mem_of_getElem? (i := 0) rfl))) W52 (Or.inl (List.mem_of_getElem? (i := 0) rfl))), V52⟩
theorem d23_0 : decode jdk_52_method_5_code 0 = .ok (.getstatic 44, 3) := by decide +kernel
theorem d23_3 : decode jdk_52_method_5_code 3 = .ok (.ifCond .ne 25, 3) := by decide +kernel
theorem d23_28 : decode jdk_52_method_5_code 28 = .ok (.iload_n 1, 1) := by decide +kernel
theorem d23_29 : decode jdk_52_method_5_code 29 = .ok (.iconst 1, 1) := by decide +kernel
theorem d23_30 : decode jdk_52_method_5_code 30 = .ok (.ishl, 1) := by decide +kernel
theorem d23_31 : decode jdk_52_method_5_code 31 = .ok (.istore_n 1, 1) := by decide +kernel
theorem d23_32 : decode jdk_52_method_5_code 32 = .ok (.aload_n 0, 1) := by decide +kernel
theorem d23_33 : decode jdk_52_method_5_code 33 = .ok (.iload_n 1, 1) := by decide +kernel
theorem d23_34 : decode jdk_52_method_5_code 34 = .ok (.iinc 1 1, 3) := by decide +kernel
theorem d23_37 : decode jdk_52_method_5_code 37 = .ok (.baload, 1) := by decide +kernel
theorem d23_38 : decode jdk_52_method_5_code 38 = .ok (.sipush 255, 3) := by decide +kernel
theorem d23_41 : decode jdk_52_method_5_code 41 = .ok (.iand, 1) := by decide +kernel
theorem d23_42 : decode jdk_52_method_5_code 42 = .ok (.getstatic 59, 3) := by decide +kernel
theorem d23_45 : decode jdk_52_method_5_code 45 = .ok (.ishl, 1) := by decide +kernel
theorem d23_46 : decode jdk_52_method_5_code 46 = .ok (.aload_n 0, 1) := by decide +kernel
theorem d23_47 : decode jdk_52_method_5_code 47 = .ok (.iload_n 1, 1) := by decide +kernel
theorem d23_48 : decode jdk_52_method_5_code 48 = .ok (.baload, 1) := by decide +kernel
theorem d23_49 : decode jdk_52_method_5_code 49 = .ok (.sipush 255, 3) := by decide +kernel
theorem d23_52 : decode jdk_52_method_5_code 52 = .ok (.iand, 1) := by decide +kernel
theorem d23_53 : decode jdk_52_method_5_code 53 = .ok (.getstatic 63, 3) := by decide +kernel
theorem d23_56 : decode jdk_52_method_5_code 56 = .ok (.ishl, 1) := by decide +kernel
theorem d23_57 : decode jdk_52_method_5_code 57 = .ok (.ior, 1) := by decide +kernel
theorem d23_58 : decode jdk_52_method_5_code 58 = .ok (.i2c, 1) := by decide +kernel
theorem d23_59 : decode jdk_52_method_5_code 59 = .ok (.ireturn, 1) := by decide +kernel
set_option maxRecDepth 65536 in
set_option maxHeartbeats 40000000 in
theorem rmGet_1_0 (l : Launch) (Z : State) (a0 : Array Value) (hw : own_Wd a0 Z) (ws : List Jvm.Cond) (b : Addr) (kb : ClassId) (y0 y1 : Int32)  (h0 : Heap) (n0 : Nat) (Z0 : n0 ≤ h0.size) (Sad : Sta Z h0 "java/lang/StringUTF16" "$assertionsDisabled" "Z" (.int 1)) (Shi : Sta Z h0 "java/lang/StringUTF16" "HI_BYTE_SHIFT" "I" (.int 0)) (Slo : Sta Z h0 "java/lang/StringUTF16" "LO_BYTE_SHIFT" "I" (.int 8)) (Vb : Arv Z h0 b kb .byte (2 : Int32) [(.int y0), (.int y1)] (.int 0)) :
    own_Met l (⟨"java/lang/StringUTF16", "getChar", "([BI)C"⟩ : MethodName) jdk_52_method_5_code 2 (some .char) ws ({ frames := 0, cells := 0, slots := 0, locals := 0 } : Room) Z #[(.ref b), (.int 0)] h0 (fun v h L => v = some (.int (own_gc y0 y1)) ∧ Fr n0 L ∧ h = h0) := by
  refine own_body (plainFor_of_name pn_0) ?_
  intro p e s m below meth c s₁ X0 hx hby hml hown hnm hret hlk hZ e0
  replace hown : s.vm.findClass "java/lang/StringUTF16" = some m.cls := hown
  replace hml : c.maxLocals = 2 := hml
  replace hret : meth.sig.returnType = (some .char) := hret
  have N0 := Fr.nil n0
  refine own_ef (L0 := #[.val (.ref b), .val (.int 0)]) (by first | (simp [entryFrame, mkF, argsToLocals, Value.category]; done) | rfl) ?_
  refine own_getS X0 hx hZ hown (host := "") (Or.inl (own_m hw 116 rfl)) Via.refl e0 Sad (hb hby d23_0) fun T53 X53 e53 => ?_
  refine own_ifYes X53 hx 28 (hb hby d23_3) (feq (by decide : ¬ ((1 : Int32) = (0 : Int32)))).2 (by decide) (by decide) ?_
  refine own_iloadN X53 hx (hb hby d23_28) rfl ?_
  refine own_iconst X53 hx 1 (hb hby d23_29) rfl ?_
  refine own_ishl X53 hx (hb hby d23_30) ?_
  rw [show ((0 : Int32) <<< ((1 : Int32) &&& 31)) = (0 : Int32) from by decide]
  refine own_istoreN (l' := #[.val (.ref b), .val (.int 0)]) X53 hx (hb hby d23_31) rfl ?_
  refine own_aloadN X53 hx (hb hby d23_32) rfl rfl ?_
  refine own_iloadN X53 hx (hb hby d23_33) rfl ?_
  refine own_iinc (l' := #[.val (.ref b), .val (.int ((0 : Int32) + (1 : Int32)))]) X53 hx (hb hby d23_34) rfl rfl ?_
  rw [show ((0 : Int32) + (1 : Int32)) = (1 : Int32) from by decide]
  refine own_baload X53 hx hZ (.int y0) e53 Vb ⟨by decide, by decide⟩ rfl (hb hby d23_37) ?_
  refine own_sipush X53 hx 255 (hb hby d23_38) rfl ?_
  refine own_iand X53 hx (hb hby d23_41) ?_
  refine own_getS X53 hx hZ hown (host := "") (Or.inl (own_m hw 117 rfl)) Via.refl e53 Shi (hb hby d23_42) fun T54 X54 e54 => ?_
  refine own_ishl X54 hx (hb hby d23_45) ?_
  refine own_aloadN X54 hx (hb hby d23_46) rfl rfl ?_
  refine own_iloadN X54 hx (hb hby d23_47) rfl ?_
  refine own_baload X54 hx hZ (.int y1) e54 Vb ⟨by decide, by decide⟩ rfl (hb hby d23_48) ?_
  refine own_sipush X54 hx 255 (hb hby d23_49) rfl ?_
  refine own_iand X54 hx (hb hby d23_52) ?_
  refine own_getS X54 hx hZ hown (host := "") (Or.inl (own_m hw 118 rfl)) Via.refl e54 Slo (hb hby d23_53) fun T55 X55 e55 => ?_
  refine own_ishl X55 hx (hb hby d23_56) ?_
  refine own_ior X55 hx (hb hby d23_57) ?_
  refine own_i2c X55 hx (hb hby d23_58) ?_
  refine own_retN X55 hx hlk hret (by simp) (own_narcc _) (hb hby d23_59) (own_kN (by decide) (by decide) ?_)
  try rw [e55]
  exact ⟨rfl, N0, rfl⟩
theorem d19_0 : decode jdk_52_method_14_code 0 = .ok (.iload_n 2, 1) := by decide +kernel
theorem d19_1 : decode jdk_52_method_14_code 1 = .ok (.invokestatic 107, 3) := by decide +kernel
theorem d19_4 : decode jdk_52_method_14_code 4 = .ok (.astore_n 3, 1) := by decide +kernel
theorem d19_5 : decode jdk_52_method_14_code 5 = .ok (.iconst 0, 1) := by decide +kernel
theorem d19_6 : decode jdk_52_method_14_code 6 = .ok (.istore 4, 2) := by decide +kernel
theorem d19_8 : decode jdk_52_method_14_code 8 = .ok (.iload 4, 2) := by decide +kernel
theorem d19_10 : decode jdk_52_method_14_code 10 = .ok (.iload_n 2, 1) := by decide +kernel
theorem d19_11 : decode jdk_52_method_14_code 11 = .ok (.if_icmp .ge 21, 3) := by decide +kernel
theorem d19_14 : decode jdk_52_method_14_code 14 = .ok (.aload_n 3, 1) := by decide +kernel
theorem d19_15 : decode jdk_52_method_14_code 15 = .ok (.iload 4, 2) := by decide +kernel
theorem d19_17 : decode jdk_52_method_14_code 17 = .ok (.aload_n 0, 1) := by decide +kernel
theorem d19_18 : decode jdk_52_method_14_code 18 = .ok (.iload_n 1, 1) := by decide +kernel
theorem d19_19 : decode jdk_52_method_14_code 19 = .ok (.caload, 1) := by decide +kernel
theorem d19_20 : decode jdk_52_method_14_code 20 = .ok (.invokestatic 111, 3) := by decide +kernel
theorem d19_23 : decode jdk_52_method_14_code 23 = .ok (.iinc 1 1, 3) := by decide +kernel
theorem d19_26 : decode jdk_52_method_14_code 26 = .ok (.iinc 4 1, 3) := by decide +kernel
theorem d19_29 : decode jdk_52_method_14_code 29 = .ok (.goto (-21), 3) := by decide +kernel
theorem d19_32 : decode jdk_52_method_14_code 32 = .ok (.aload_n 3, 1) := by decide +kernel
theorem d19_33 : decode jdk_52_method_14_code 33 = .ok (.areturn, 1) := by decide +kernel
theorem pd_5 : parseMethodDescriptor "(I)[B" = some ⟨[.int], some (.array .byte)⟩ := by decide +kernel
theorem pd_6 : parseMethodDescriptor "([BII)V" = some ⟨[(.array .byte), .int, .int], none⟩ := by decide +kernel
set_option maxRecDepth 65536 in
set_option maxHeartbeats 40000000 in
theorem rmTB_1 (l : Launch) (Z : State) (a0 : Array Value) (hw : own_Wd a0 Z) (ws : List Jvm.Cond) (ca : Addr) (kc : ClassId) (c0 : Int32)  (h0 : Heap) (n0 : Nat) (Z0 : n0 ≤ h0.size) (Sad : Sta Z h0 "java/lang/StringUTF16" "$assertionsDisabled" "Z" (.int 1)) (Shi : Sta Z h0 "java/lang/StringUTF16" "HI_BYTE_SHIFT" "I" (.int 0)) (Slo : Sta Z h0 "java/lang/StringUTF16" "LO_BYTE_SHIFT" "I" (.int 8)) (Vc : Arv Z h0 ca kc .char (1 : Int32) [(.int c0)] (.int 0)) :
    own_Met l (⟨"java/lang/StringUTF16", "toBytes", "([CII)[B"⟩ : MethodName) jdk_52_method_14_code 5 (some (.array .byte)) ws ({ frames := 2, cells := 1, slots := 2, locals := 24 } : Room) Z #[(.ref ca), (.int 0), (.int 1)] h0 (fun v h L => ∃ b k, v = some (.ref b) ∧ Fr n0 L ∧ Keep h0 h [] ∧ h0.size ≤ b ∧ n0 ≤ b ∧ Exa Z h b "[B" ∧ Arv Z h b k .byte (2 : Int32) [(.int (own_lo c0)), (.int (own_hi c0))] (.int 0)) := by
  refine own_body (plainFor_of_name pn_0) ?_
  intro p e s m below meth c s₁ X0 hx hby hml hown hnm hret hlk hZ e0
  replace hown : s.vm.findClass "java/lang/StringUTF16" = some m.cls := hown
  replace hml : c.maxLocals = 5 := hml
  replace hret : meth.sig.returnType = (some (.array .byte)) := hret
  have N0 := Fr.nil n0
  refine own_ef (L0 := #[.val (.ref ca), .val (.int 0), .val (.int 1), .unset, .unset]) (by first | (simp [entryFrame, mkF, argsToLocals, Value.category]; done) | rfl) ?_
  refine own_iloadN X0 hx (hb hby d19_0) rfl ?_
  refine own_cStat (W := 0) (rest := []) X0 hx hZ [(.int 1)] hown (own_m hw 106 rfl) (own_m hw 107 rfl) (by decide) (own_m hw 108 rfl) (own_m hw 22 rfl) e0 (rmNB_1 l Z a0 hw [] h0 n0 Z0) (by rw [hml]; rfl) (lenOf pd_5 rfl) rfl (Nat.le_of_eq rfl) (hb hby d19_1) (by decide) (by decide) (by decide) (by decide) fun v56 T56 L56 X56 hQ56 => ?_
  obtain ⟨b56, kb56, rfl, N56q, K56, szb56, gb56, Eb56, Vb56⟩ := hQ56
  have N56 := Fr.app N0 N56q
  have g_b56 := gb56
  have szo_b56 : h0.size ≤ b56 := Nat.le_trans (Nat.le_refl h0.size) szb56
  show own_At p e below _ T56 m 4 _ [(.ref b56)]
  refine own_astoreN (l' := #[.val (.ref ca), .val (.int 0), .val (.int 1), .val (.ref b56), .unset]) X56 hx (hb hby d19_4) rfl rfl ?_
  refine own_iconst X56 hx 0 (hb hby d19_5) rfl ?_
  refine own_istore (l' := #[.val (.ref ca), .val (.int 0), .val (.int 1), .val (.ref b56), .val (.int 0)]) X56 hx (hb hby d19_6) rfl ?_
  refine own_iload X56 hx (hb hby d19_8) rfl ?_
  refine own_iloadN X56 hx (hb hby d19_10) rfl ?_
  refine own_icmpNo X56 hx (hb hby d19_11) (tlt (by decide : (0 : Int32) < (1 : Int32))).2.1 ?_
  refine own_aloadN X56 hx (hb hby d19_14) rfl rfl ?_
  refine own_iload X56 hx (hb hby d19_15) rfl ?_
  refine own_aloadN X56 hx (hb hby d19_17) rfl rfl ?_
  refine own_iloadN X56 hx (hb hby d19_18) rfl ?_
  refine own_caload X56 hx hZ (.int c0) rfl (Arv.keep Vc K56 nin0) ⟨by decide, by decide⟩ rfl (hb hby d19_19) ?_
  refine own_cStat (W := 0) (rest := []) X56 hx hZ [(.ref b56), (.int 0), (.int c0)] hown (own_m hw 113 rfl) (own_m hw 114 rfl) (by decide) (own_m hw 115 rfl) (own_m hw 22 rfl) rfl (rmPut_1_0 l Z a0 hw [] b56 kb56 c0 (0 : Int32) (0 : Int32) T56.heap n0 (Nat.le_trans Z0 K56.1) (own_staKeep Sad K56 all0) (own_staKeep Shi K56 all0) (own_staKeep Slo K56 all0) Vb56 g_b56 Eb56) (by rw [hml]; rfl) (lenOf pd_6 rfl) rfl (Nat.le_of_eq rfl) (hb hby d19_20) (by decide) (by decide) (by decide) (by decide) fun v57 T57 L57 X57 hQ57 => ?_
  obtain ⟨rfl, N57q, K57, Vb57⟩ := hQ57
  have N57 := Fr.app N56 N57q
  show own_At p e below _ T57 m 23 _ []
  refine own_iinc (l' := #[.val (.ref ca), .val (.int ((0 : Int32) + (1 : Int32))), .val (.int 1), .val (.ref b56), .val (.int 0)]) X57 hx (hb hby d19_23) rfl rfl ?_
  rw [show ((0 : Int32) + (1 : Int32)) = (1 : Int32) from by decide]
  refine own_iinc (l' := #[.val (.ref ca), .val (.int 1), .val (.int 1), .val (.ref b56), .val (.int ((0 : Int32) + (1 : Int32)))]) X57 hx (hb hby d19_26) rfl rfl ?_
  rw [show ((0 : Int32) + (1 : Int32)) = (1 : Int32) from by decide]
  refine own_goto X57 hx 8 (hb hby d19_29) (by decide) (by decide) ?_
  refine own_iload X57 hx (hb hby d19_8) rfl ?_
  refine own_iloadN X57 hx (hb hby d19_10) rfl ?_
  refine own_icmpYes X57 hx 32 (hb hby d19_11) (flt (by decide : ¬ ((1 : Int32) < (1 : Int32)))).2.1 (by decide) (by decide) ?_
  refine own_aloadN X57 hx (hb hby d19_32) rfl rfl ?_
  refine own_retA X57 hx hlk hret rfl rfl rfl (hb hby d19_33) (own_kN (by decide) (by decide) ?_)
  exact ⟨b56, kb56, rfl, N57, (Keep.trans (Keep.trans (Keep.refl h0 []) K56 all0) K57 (allS (Or.inr szo_b56) all0)), szo_b56, g_b56, (Exa.keep Eb56 K57), Vb57⟩
set_option maxRecDepth 65536 in
set_option maxHeartbeats 40000000 in
theorem rmCFu_1 (l : Launch) (Z : State) (a0 : Array Value) (hw : own_Wd a0 Z) (ws : List Jvm.Cond) (ba : Addr)  (h0 : Heap) (n0 : Nat) (Z0 : n0 ≤ h0.size) (A : own_Aln Z h0 ba .byte (2 : Int32)) :
    own_Met l (⟨"java/lang/StringUTF16", "coderFromArrayLen", "([BI)B"⟩ : MethodName) jdk_52_method_15_code 2 (some .byte) ws ({ frames := 0, cells := 0, slots := 0, locals := 0 } : Room) Z #[(.ref ba), (.int 1)] h0 (fun v h L => v = some (.int 1) ∧ Fr n0 L ∧ h = h0) := by
  refine own_body (plainFor_of_name pn_0) ?_
  intro p e s m below meth c s₁ X0 hx hby hml hown hnm hret hlk hZ e0
  replace hown : s.vm.findClass "java/lang/StringUTF16" = some m.cls := hown
  replace hml : c.maxLocals = 2 := hml
  replace hret : meth.sig.returnType = (some .byte) := hret
  have N0 := Fr.nil n0
  refine own_ef (L0 := #[.val (.ref ba), .val (.int 1)]) (by first | (simp [entryFrame, mkF, argsToLocals, Value.category]; done) | rfl) ?_
  refine own_iloadN X0 hx (hb hby d7_0) rfl ?_
  refine own_aloadN X0 hx (hb hby d7_1) rfl rfl ?_
  refine own_arraylength X0 hx hZ e0 A (hb hby d7_2) ?_
  refine own_isub X0 hx (hb hby d7_3) ?_
  rw [show ((1 : Int32) - (2 : Int32)) = (-1 : Int32) from by decide]
  refine own_bipush X0 hx 31 (hb hby d7_4) rfl ?_
  refine own_iushr X0 hx (hb hby d7_6) ?_
  rw [show (((-1 : Int32).toUInt32 >>> ((31 : Int32) &&& 31).toUInt32).toInt32) = (1 : Int32) from by decide]
  refine own_i2b X0 hx (hb hby d7_7) ?_
  rw [show ((1 : Int32).toInt8.toInt32) = (1 : Int32) from by decide]
  refine own_retN X0 hx hlk hret (by simp) (by decide) (hb hby d7_8) (own_kN (by decide) (by decide) ?_)
  try rw [e0]
  exact ⟨rfl, N0, rfl⟩
set_option maxRecDepth 65536 in
set_option maxHeartbeats 40000000 in
theorem rmCu2_1_0 (l : Launch) (Z : State) (a0 : Array Value) (hw : own_Wd a0 Z) (ws : List Jvm.Cond) (ca ba : Addr) (kc kb : ClassId) (c0 : Int32)  (h0 : Heap) (n0 : Nat) (Z0 : n0 ≤ h0.size) (Vc : Arv Z h0 ca kc .char (1 : Int32) [(.int c0)] (.int 0)) (Vb : Arv Z h0 ba kb .byte (1 : Int32) [(.int 0)] (.int 0)) (g_ba : n0 ≤ ba) (hne : ca ≠ ba) (hx0 : (255 : Int32) < c0) :
    own_Met l (⟨"java/lang/StringUTF16", "compress", "([CI[BII)I"⟩ : MethodName) jdk_52_method_21_code 7 (some .int) ws ({ frames := 0, cells := 0, slots := 0, locals := 0 } : Room) Z #[(.ref ca), (.int 0), (.ref ba), (.int 0), (.int 1)] h0 (fun v h L => v = some (.int 0) ∧ Fr n0 L ∧ Keep h0 h [ba]) := by
  refine own_body (plainFor_of_name pn_0) ?_
  intro p e s m below meth c s₁ X0 hx hby hml hown hnm hret hlk hZ e0
  replace hown : s.vm.findClass "java/lang/StringUTF16" = some m.cls := hown
  replace hml : c.maxLocals = 7 := hml
  replace hret : meth.sig.returnType = (some .int) := hret
  have N0 := Fr.nil n0
  refine own_ef (L0 := #[.val (.ref ca), .val (.int 0), .val (.ref ba), .val (.int 0), .val (.int 1), .unset, .unset]) (by first | (simp [entryFrame, mkF, argsToLocals, Value.category]; done) | rfl) ?_
  refine own_iconst X0 hx 0 (hb hby d6_0) rfl ?_
  refine own_istore (l' := #[.val (.ref ca), .val (.int 0), .val (.ref ba), .val (.int 0), .val (.int 1), .val (.int 0), .unset]) X0 hx (hb hby d6_1) rfl ?_
  refine own_iload X0 hx (hb hby d6_3) rfl ?_
  refine own_iload X0 hx (hb hby d6_5) rfl ?_
  refine own_icmpNo X0 hx (hb hby d6_7) (tlt (by decide : (0 : Int32) < (1 : Int32))).2.1 ?_
  refine own_aloadN X0 hx (hb hby d6_10) rfl rfl ?_
  refine own_iloadN X0 hx (hb hby d6_11) rfl ?_
  refine own_caload X0 hx hZ (.int c0) e0 Vc ⟨by decide, by decide⟩ rfl (hb hby d6_12) ?_
  refine own_istore (l' := #[.val (.ref ca), .val (.int 0), .val (.ref ba), .val (.int 0), .val (.int 1), .val (.int 0), .val (.int c0)]) X0 hx (hb hby d6_13) rfl ?_
  refine own_iload X0 hx (hb hby d6_15) rfl ?_
  refine own_sipush X0 hx 255 (hb hby d6_17) rfl ?_
  refine own_icmpNo X0 hx (hb hby d6_20) (tlt hx0).2.2.2 ?_
  refine own_iload X0 hx (hb hby d6_23) rfl ?_
  refine own_retI X0 hx hlk hret (hb hby d6_25) (own_kN (by decide) (by decide) ?_)
  try rw [e0]
  exact ⟨rfl, N0, (Keep.refl h0 [ba])⟩
theorem pd_7 : parseMethodDescriptor "([BI)C" = some ⟨[(.array .byte), .int], some .char⟩ := by decide +kernel
set_option maxRecDepth 65536 in
set_option maxHeartbeats 40000000 in
theorem rmCu1_1_0 (l : Launch) (Z : State) (a0 : Array Value) (hw : own_Wd a0 Z) (ws : List Jvm.Cond) (ca : Addr) (kc : ClassId) (c0 : Int32)  (h0 : Heap) (n0 : Nat) (Z0 : n0 ≤ h0.size) (Sad : Sta Z h0 "java/lang/StringUTF16" "$assertionsDisabled" "Z" (.int 1)) (Shi : Sta Z h0 "java/lang/StringUTF16" "HI_BYTE_SHIFT" "I" (.int 0)) (Slo : Sta Z h0 "java/lang/StringUTF16" "LO_BYTE_SHIFT" "I" (.int 8)) (Vc : Arv Z h0 ca kc .char (1 : Int32) [(.int c0)] (.int 0)) (hx0 : (255 : Int32) < c0) (lo0 : ¬ c0 < (0 : Int32)) (hi0 : ¬ (65535 : Int32) < c0) :
    own_Met l (⟨"java/lang/StringUTF16", "compress", "([CII)[B"⟩ : MethodName) jdk_52_method_16_code 6 (some (.array .byte)) ws ({ frames := 3, cells := 2, slots := 3, locals := 40 } : Room) Z #[(.ref ca), (.int 0), (.int 1)] h0 (fun v h L => ∃ b k, v = some (.ref b) ∧ Fr n0 L ∧ Keep h0 h [] ∧ h0.size ≤ b ∧ n0 ≤ b ∧ Exa Z h b "[B" ∧ Arv Z h b k .byte (2 : Int32) [(.int (own_lo c0)), (.int (own_hi c0))] (.int 0)) := by
  refine own_body (plainFor_of_name pn_0) ?_
  intro p e s m below meth c s₁ X0 hx hby hml hown hnm hret hlk hZ e0
  replace hown : s.vm.findClass "java/lang/StringUTF16" = some m.cls := hown
  replace hml : c.maxLocals = 6 := hml
  replace hret : meth.sig.returnType = (some (.array .byte)) := hret
  have N0 := Fr.nil n0
  refine own_ef (L0 := #[.val (.ref ca), .val (.int 0), .val (.int 1), .unset, .unset, .unset]) (by first | (simp [entryFrame, mkF, argsToLocals, Value.category]; done) | rfl) ?_
  refine own_iloadN X0 hx (hb hby d5_0) rfl ?_
  refine own_newP (n := (1 : Int32)) (cap := 1) (ad := "[B") X0 hx hZ (own_m hw 24 rfl) e0 (hb hby d5_1) (by decide) (by decide) (by decide) (by decide) (by decide) (by decide) fun T58 h58 k58 b58 g58 X58 e58 E58 A58 Ex58 => ?_
  have g_b58 : n0 ≤ b58 := Nat.le_trans Z0 (Nat.le_of_eq g58.symm)
  have szo_b58 : h0.size ≤ b58 := Nat.le_trans (Nat.le_refl h0.size) (Nat.le_of_eq g58.symm)
  have V58 : Arv Z h58 b58 k58 .byte (1 : Int32) [(.int 0)] (.int 0) := (Arv.new A58 (by decide)).pad (pad_rep [] (.int 0) 1)
  refine own_astoreN (l' := #[.val (.ref ca), .val (.int 0), .val (.int 1), .val (.ref b58), .unset, .unset]) X58 hx (hb hby d5_3) rfl rfl ?_
  refine own_aloadN X58 hx (hb hby d5_4) rfl rfl ?_
  refine own_iloadN X58 hx (hb hby d5_5) rfl ?_
  refine own_aloadN X58 hx (hb hby d5_6) rfl rfl ?_
  refine own_iconst X58 hx 0 (hb hby d5_7) rfl ?_
  refine own_iloadN X58 hx (hb hby d5_8) rfl ?_
  refine own_cStat (W := 0) (rest := []) X58 hx hZ [(.ref ca), (.int 0), (.ref b58), (.int 0), (.int 1)] hown (own_m hw 25 rfl) (own_m hw 26 rfl) (by decide) (own_m hw 27 rfl) (own_m hw 22 rfl) e58 (rmCu2_1_0 l Z a0 hw [] ca b58 kc k58 c0 h58 n0 (Nat.le_trans Z0 E58.1) (Vc.ext E58) V58 g_b58 (Nat.ne_of_lt (Nat.lt_of_lt_of_le Vc.lt (Nat.le_of_eq g58.symm))) hx0) (by rw [hml]; rfl) (lenOf pd_0 rfl) rfl (Nat.le_of_eq rfl) (hb hby d5_9) (by decide) (by decide) (by decide) (by decide) fun v59 T59 L59 X59 hQ59 => ?_
  obtain ⟨rfl, N59q, K59⟩ := hQ59
  have N59 := Fr.app N0 N59q
  show own_At p e below _ T59 m 12 _ [(.int 0)]
  refine own_istore (l' := #[.val (.ref ca), .val (.int 0), .val (.int 1), .val (.ref b58), .val (.int 0), .unset]) X59 hx (hb hby d5_12) rfl ?_
  refine own_iload X59 hx (hb hby d5_14) rfl ?_
  refine own_iloadN X59 hx (hb hby d5_16) rfl ?_
  refine own_icmpNo X59 hx (hb hby d5_17) (feq (by decide : ¬ ((0 : Int32) = (1 : Int32)))).1 ?_
  refine own_aloadN X59 hx (hb hby d5_20) rfl rfl ?_
  refine own_iloadN X59 hx (hb hby d5_21) rfl ?_
  refine own_iloadN X59 hx (hb hby d5_22) rfl ?_
  refine own_cStat (W := 0) (rest := []) X59 hx hZ [(.ref ca), (.int 0), (.int 1)] hown (own_m hw 103 rfl) (own_m hw 104 rfl) (by decide) (own_m hw 105 rfl) (own_m hw 22 rfl) rfl (rmTB_1 l Z a0 hw [] ca kc c0 T59.heap n0 (Nat.le_trans (Nat.le_trans Z0 E58.1) K59.1) (own_staKeep (Sta.ext E58 Sad) K59 (allS (own_exaStat Ex58) all0)) (own_staKeep (Sta.ext E58 Shi) K59 (allS (own_exaStat Ex58) all0)) (own_staKeep (Sta.ext E58 Slo) K59 (allS (own_exaStat Ex58) all0)) (Arv.keep (Vc.ext E58) K59 (ninS (Nat.ne_of_lt (Nat.lt_of_lt_of_le Vc.lt (Nat.le_of_eq g58.symm))) nin0))) (by rw [hml]; rfl) (lenOf pd_1 rfl) rfl (Nat.le_of_eq rfl) (hb hby d5_23) (by decide) (by decide) (by decide) (by decide) fun v60 T60 L60 X60 hQ60 => ?_
  obtain ⟨b60, kb60, rfl, N60q, K60, szb60, gb60, Eb60, Vb60⟩ := hQ60
  have N60 := Fr.app N59 N60q
  have g_b60 := gb60
  have szo_b60 : h0.size ≤ b60 := Nat.le_trans (Nat.le_trans (Nat.le_trans (Nat.le_refl h0.size) E58.1) K59.1) szb60
  show own_At p e below _ T60 m 26 _ [(.ref b60)]
  refine own_astore (l' := #[.val (.ref ca), .val (.int 0), .val (.int 1), .val (.ref b58), .val (.int 0), .val (.ref b60)]) X60 hx (hb hby d5_26) rfl rfl ?_
  refine own_aload X60 hx (hb hby d5_28) rfl rfl ?_
  refine own_iload X60 hx (hb hby d5_30) rfl ?_
  refine own_cStat (W := 0) (rest := []) X60 hx hZ [(.ref b60), (.int 0)] hown (own_m hw 119 rfl) (own_m hw 120 rfl) (by decide) (own_m hw 121 rfl) (own_m hw 22 rfl) rfl (rmGet_1_0 l Z a0 hw [] b60 kb60 (own_lo c0) (own_hi c0) T60.heap n0 (Nat.le_trans (Nat.le_trans (Nat.le_trans Z0 E58.1) K59.1) K60.1) (own_staKeep (own_staKeep (Sta.ext E58 Sad) K59 (allS (own_exaStat Ex58) all0)) K60 all0) (own_staKeep (own_staKeep (Sta.ext E58 Shi) K59 (allS (own_exaStat Ex58) all0)) K60 all0) (own_staKeep (own_staKeep (Sta.ext E58 Slo) K59 (allS (own_exaStat Ex58) all0)) K60 all0) Vb60) (by rw [hml]; rfl) (lenOf pd_7 rfl) rfl (Nat.le_of_eq rfl) (hb hby d5_32) (by decide) (by decide) (by decide) (by decide) fun v61 T61 L61 X61 hQ61 => ?_
  obtain ⟨rfl, N61q, e61⟩ := hQ61
  have N61 := Fr.app N60 N61q
  show own_At p e below _ T61 m 35 _ [(.int (own_gc (own_lo c0) (own_hi c0)))]
  rw [own_gcc lo0 hi0]
  refine own_sipush X61 hx 255 (hb hby d5_35) rfl ?_
  refine own_icmpYes X61 hx 54 (hb hby d5_38) (tlt hx0).2.2.1 (by decide) (by decide) ?_
  refine own_aload X61 hx (hb hby d5_54) rfl rfl ?_
  refine own_retA X61 hx hlk hret rfl rfl rfl (hb hby d5_56) (own_kN (by decide) (by decide) ?_)
  try rw [e61]
  exact ⟨b60, kb60, rfl, N61, (Keep.trans (Keep.trans (Keep.ext (Keep.refl h0 []) E58) K59 (allS (Or.inr szo_b58) all0)) K60 all0), szo_b60, g_b60, Eb60, Vb60⟩
set_option maxRecDepth 65536 in
set_option maxHeartbeats 40000000 in
theorem rmIu2_1_0 (l : Launch) (Z : State) (a0 : Array Value) (hw : own_Wd a0 Z) (ws : List Jvm.Cond) (a ca : Addr) (kc : ClassId) (cs c0 : Int32)  (h0 : Heap) (n0 : Nat) (Z0 : n0 ≤ h0.size) (Ea : Exa Z h0 a "java/lang/String") (Fv : Fld Z h0 a "java/lang/String" "value" "[B" .null) (Fc : Fld Z h0 a "java/lang/String" "coder" "B" (.int 0)) (g_a : n0 ≤ a) (Sc : Sta Z h0 "java/lang/String" "COMPACT_STRINGS" "Z" (.int cs)) (hcs : ¬ (cs = (0 : Int32))) (Sad : Sta Z h0 "java/lang/StringUTF16" "$assertionsDisabled" "Z" (.int 1)) (Shi : Sta Z h0 "java/lang/StringUTF16" "HI_BYTE_SHIFT" "I" (.int 0)) (Slo : Sta Z h0 "java/lang/StringUTF16" "LO_BYTE_SHIFT" "I" (.int 8)) (Vc : Arv Z h0 ca kc .char (1 : Int32) [(.int c0)] (.int 0)) (Ecs : Exa Z h0 ca "[C") (hx0 : (255 : Int32) < c0) (lo0 : ¬ c0 < (0 : Int32)) (hi0 : ¬ (65535 : Int32) < c0) :
    own_Met l (⟨"java/lang/String", "<init>", "([CIILjava/lang/Void;)V"⟩ : MethodName) jdk_42_method_149_code 6 none ws ({ frames := 4, cells := 2, slots := 3, locals := 57 } : Room) Z #[(.ref a), (.ref ca), (.int 0), (.int 1), .null] h0 (fun v h L => v = none ∧ Fr n0 L ∧ Keep h0 h [a] ∧ ∃ b k, h0.size ≤ b ∧ Exa Z h b "[B" ∧ Exa Z h a "java/lang/String" ∧ Fld Z h a "java/lang/String" "value" "[B" (.ref b) ∧ Fld Z h a "java/lang/String" "coder" "B" (.int 1) ∧ Arv Z h b k .byte (2 : Int32) [(.int (own_lo c0)), (.int (own_hi c0))] (.int 0)) := by
  refine own_body (plainFor_of_name pn_1) ?_
  intro p e s m below meth c s₁ X0 hx hby hml hown hnm hret hlk hZ e0
  replace hown : s.vm.findClass "java/lang/String" = some m.cls := hown
  replace hml : c.maxLocals = 6 := hml
  replace hret : meth.sig.returnType = none := hret
  have N0 := Fr.nil n0
  refine own_ef (L0 := #[.val (.ref a), .val (.ref ca), .val (.int 0), .val (.int 1), .val .null, .unset]) (by first | (simp [entryFrame, mkF, argsToLocals, Value.category]; done) | rfl) ?_
  refine own_aloadN X0 hx (hb hby d3_0) rfl rfl ?_
  refine own_initO (W := 0) X0 hx hZ hown (own_m hw 16 rfl) (own_m hw 17 rfl) (own_m hw 18 rfl) e0 (by rw [hml]; rfl) (hb hby d3_1) (by decide) (Nat.le_of_eq rfl) (by decide) fun T62 X62 e62 => ?_
  refine own_iloadN X62 hx (hb hby d3_4) rfl ?_
  refine own_ifYes X62 hx 27 (hb hby d3_5) (feq (by decide : ¬ ((1 : Int32) = (0 : Int32)))).2 (by decide) (by decide) ?_
  refine own_getS X62 hx hZ hown (host := "") (Or.inl (own_m hw 19 rfl)) Via.refl e62 Sc (hb hby d3_27) fun T63 X63 e63 => ?_
  refine own_ifNo X63 hx (hb hby d3_30) (feq hcs).1 ?_
  refine own_aloadN X63 hx (hb hby d3_33) rfl rfl ?_
  refine own_iloadN X63 hx (hb hby d3_34) rfl ?_
  refine own_iloadN X63 hx (hb hby d3_35) rfl ?_
  refine own_cStat (W := 0) (rest := []) X63 hx hZ [(.ref ca), (.int 0), (.int 1)] hown (own_m hw 20 rfl) (own_m hw 21 rfl) (by decide) (own_m hw 23 rfl) (own_m hw 22 rfl) e63 (rmCu1_1_0 l Z a0 hw [] ca kc c0 h0 n0 Z0 Sad Shi Slo Vc hx0 lo0 hi0) (by rw [hml]; rfl) (lenOf pd_1 rfl) rfl (Nat.le_of_eq rfl) (hb hby d3_36) (by decide) (by decide) (by decide) (by decide) fun v64 T64 L64 X64 hQ64 => ?_
  obtain ⟨b64, kb64, rfl, N64q, K64, szb64, gb64, Eb64, Vb64⟩ := hQ64
  have N64 := Fr.app N0 N64q
  have g_b64 := gb64
  have szo_b64 : h0.size ≤ b64 := Nat.le_trans (Nat.le_refl h0.size) szb64
  show own_At p e below _ T64 m 39 _ [(.ref b64)]
  refine own_astore (l' := #[.val (.ref a), .val (.ref ca), .val (.int 0), .val (.int 1), .val .null, .val (.ref b64)]) X64 hx (hb hby d3_39) rfl rfl ?_
  refine own_aloadN X64 hx (hb hby d3_41) rfl rfl ?_
  refine own_aload X64 hx (hb hby d3_42) rfl rfl ?_
  refine own_iloadN X64 hx (hb hby d3_44) rfl ?_
  refine own_cStat (W := 1) (rest := [(.ref a)]) X64 hx hZ [(.ref b64), (.int 1)] hown (own_m hw 28 rfl) (own_m hw 29 rfl) (by decide) (own_m hw 30 rfl) (own_m hw 22 rfl) rfl (rmCFu_1 l Z a0 hw [] b64 T64.heap n0 (Nat.le_trans Z0 K64.1) (own_alnV Vb64)) (by rw [hml]; rfl) (lenOf pd_2 rfl) rfl (Nat.le_of_eq rfl) (hb hby d3_45) (by decide) (by decide) (by decide) (by decide) fun v65 T65 L65 X65 hQ65 => ?_
  obtain ⟨rfl, N65q, e65⟩ := hQ65
  have N65 := Fr.app N64 N65q
  show own_At p e below _ T65 m 48 _ [(.int 1), (.ref a)]
  obtain ⟨T66, h66, X66, e66, W66, st66⟩ := putFN X65 hx hZ hown (own_m hw 31 rfl) Via.refl e65 (Fld.keep Fc K64 nin0) (Exa.keep Ea K64) (Or.inr ⟨(own_m hw 32 rfl), rfl, hnm⟩) (own_m hw 6 rfl) (ty := .byte) (v' := (.int 1)) (by decide) rfl rfl (g := (mkF m 48 #[.val (.ref a), .val (.ref ca), .val (.int 0), .val (.int 1), .val .null, .val (.ref b64)] [(.int 1), (.ref a)])) rfl rfl (hb hby d3_48)
  refine own_step (S' := (T66.setTop (mkF m 51 #[.val (.ref a), .val (.ref ca), .val (.int 0), .val (.int 1), .val .null, .val (.ref b64)] []))) (fun _ k => st66 _ k) ?_
  have Fw66 := Fld.same W66 (Fld.keep Fc K64 nin0)
  have N66 := Fr.snoc X66 N65 g_a
  refine own_aloadN X66 hx (hb hby d3_51) rfl rfl ?_
  refine own_aload X66 hx (hb hby d3_52) rfl rfl ?_
  refine own_putF X66 hx hZ hown (host := "") (Or.inl (own_m hw 33 rfl)) Via.refl e66 (Fld.other W66 (Fld.keep Fv K64 nin0) (Or.inr (slot_ne (Or.inr (own_m hw 34 rfl)) (Or.inr (own_m hw 32 rfl)) (by decide) (t := (.array .byte)) (t' := .byte) (by decide) (by decide)))) (Exa.wr W66 (Exa.keep Ea K64)) (Or.inr ⟨(own_m hw 34 rfl), rfl, hnm⟩) (own_m hw 6 rfl) (ty := (.array .byte)) (by decide) rfl rfl (hb hby d3_54) fun T67 h67 X67 e67 W67 => ?_
  have Fw67 := Fld.same W67 (Fld.other W66 (Fld.keep Fv K64 nin0) (Or.inr (slot_ne (Or.inr (own_m hw 34 rfl)) (Or.inr (own_m hw 32 rfl)) (by decide) (t := (.array .byte)) (t' := .byte) (by decide) (by decide))))
  have N67 := Fr.snoc X67 N66 g_a
  refine own_retV X67 hx hlk hret (hb hby d3_57) (own_kN (by decide) (by decide) ?_)
  try rw [e67]
  exact ⟨rfl, N67, (Keep.wr (Keep.wr (Keep.trans (Keep.refl h0 [a]) K64 all0) W66 (Or.inl (List.mem_of_getElem? (i := 0) rfl))) W67 (Or.inl (List.mem_of_getElem? (i := 0) rfl))), b64, kb64, szo_b64, (Exa.wr W67 (Exa.wr W66 Eb64)), (Exa.wr W67 (Exa.wr W66 (Exa.keep Ea K64))), Fw67, (Fld.other W67 Fw66 (Or.inr (slot_ne (Or.inr (own_m hw 32 rfl)) (Or.inr (own_m hw 34 rfl)) (by decide) (t := .byte) (t' := (.array .byte)) (by decide) (by decide)))), (Arv.other (Arv.other Vb64 W66 (Ne.symm (Nat.ne_of_lt (Nat.lt_of_lt_of_le Ea.lt szb64)))) W67 (Ne.symm (Nat.ne_of_lt (Nat.lt_of_lt_of_le Ea.lt szb64))))⟩
set_option maxRecDepth 65536 in
set_option maxHeartbeats 40000000 in
theorem rmIu1_1_0 (l : Launch) (Z : State) (a0 : Array Value) (hw : own_Wd a0 Z) (ws : List Jvm.Cond) (a ca : Addr) (kc : ClassId) (cs c0 : Int32)  (h0 : Heap) (n0 : Nat) (Z0 : n0 ≤ h0.size) (Ea : Exa Z h0 a "java/lang/String") (Fv : Fld Z h0 a "java/lang/String" "value" "[B" .null) (Fc : Fld Z h0 a "java/lang/String" "coder" "B" (.int 0)) (g_a : n0 ≤ a) (Sc : Sta Z h0 "java/lang/String" "COMPACT_STRINGS" "Z" (.int cs)) (hcs : ¬ (cs = (0 : Int32))) (Sad : Sta Z h0 "java/lang/StringUTF16" "$assertionsDisabled" "Z" (.int 1)) (Shi : Sta Z h0 "java/lang/StringUTF16" "HI_BYTE_SHIFT" "I" (.int 0)) (Slo : Sta Z h0 "java/lang/StringUTF16" "LO_BYTE_SHIFT" "I" (.int 8)) (Vc : Arv Z h0 ca kc .char (1 : Int32) [(.int c0)] (.int 0)) (Ecs : Exa Z h0 ca "[C") (hx0 : (255 : Int32) < c0) (lo0 : ¬ c0 < (0 : Int32)) (hi0 : ¬ (65535 : Int32) < c0) :
    own_Met l (⟨"java/lang/String", "<init>", "([C)V"⟩ : MethodName) jdk_42_method_3_code 2 none ws ({ frames := 5, cells := 2, slots := 3, locals := 74 } : Room) Z #[(.ref a), (.ref ca)] h0 (fun v h L => v = none ∧ Fr n0 L ∧ Keep h0 h [a] ∧ ∃ b k, h0.size ≤ b ∧ Exa Z h b "[B" ∧ Exa Z h a "java/lang/String" ∧ Fld Z h a "java/lang/String" "value" "[B" (.ref b) ∧ Fld Z h a "java/lang/String" "coder" "B" (.int 1) ∧ Arv Z h b k .byte (2 : Int32) [(.int (own_lo c0)), (.int (own_hi c0))] (.int 0)) := by
  refine own_body (plainFor_of_name pn_1) ?_
  intro p e s m below meth c s₁ X0 hx hby hml hown hnm hret hlk hZ e0
  replace hown : s.vm.findClass "java/lang/String" = some m.cls := hown
  replace hml : c.maxLocals = 2 := hml
  replace hret : meth.sig.returnType = none := hret
  have N0 := Fr.nil n0
  refine own_ef (L0 := #[.val (.ref a), .val (.ref ca)]) (by first | (simp [entryFrame, mkF, argsToLocals, Value.category]; done) | rfl) ?_
  refine own_aloadN X0 hx (hb hby d2_0) rfl rfl ?_
  refine own_aloadN X0 hx (hb hby d2_1) rfl rfl ?_
  refine own_iconst X0 hx 0 (hb hby d2_2) rfl ?_
  refine own_aloadN X0 hx (hb hby d2_3) rfl rfl ?_
  refine own_arraylength X0 hx hZ e0 (own_alnV Vc) (hb hby d2_4) ?_
  refine own_aconstNull X0 hx (hb hby d2_5) ?_
  refine own_cSpec (b := a) (W := 0) (rest := []) X0 hx hZ [(.ref ca), (.int 0), (.int 1), .null] rfl hown (own_m hw 12 rfl) (own_m hw 13 rfl) (by decide) (own_m hw 15 rfl) (own_m hw 7 rfl) e0 (rmIu2_1_0 l Z a0 hw [] a ca kc cs c0 h0 n0 Z0 Ea Fv Fc g_a Sc hcs Sad Shi Slo Vc Ecs hx0 lo0 hi0) (by rw [hml]; rfl) (lenOf pd_3 rfl) rfl (Nat.le_of_eq rfl) (hb hby d2_6) (by decide) (by decide) (by decide) (by decide) fun v68 T68 L68 X68 hQ68 => ?_
  obtain ⟨rfl, N68q, K68, R68⟩ := hQ68
  have N68 := Fr.app N0 N68q
  show own_At p e below _ T68 m 9 _ []
  refine own_retV X68 hx hlk hret (hb hby d2_9) (own_kN (by decide) (by decide) ?_)
  exact ⟨rfl, N68, K68, R68⟩
set_option maxRecDepth 65536 in
set_option maxHeartbeats 40000000 in
theorem rmNL_2 (l : Launch) (Z : State) (a0 : Array Value) (hw : own_Wd a0 Z) (ws : List Jvm.Cond)   (h0 : Heap) (n0 : Nat) (Z0 : n0 ≤ h0.size) :
    own_Met l (⟨"java/lang/StringUTF16", "newBytesLength", "(I)I"⟩ : MethodName) jdk_52_method_3_code 1 (some .int) ws ({ frames := 0, cells := 0, slots := 0, locals := 0 } : Room) Z #[(.int 2)] h0 (fun v h L => v = some (.int 4) ∧ Fr n0 L ∧ h = h0) := by
  refine own_body (plainFor_of_name pn_0) ?_
  intro p e s m below meth c s₁ X0 hx hby hml hown hnm hret hlk hZ e0
  replace hown : s.vm.findClass "java/lang/StringUTF16" = some m.cls := hown
  replace hml : c.maxLocals = 1 := hml
  replace hret : meth.sig.returnType = (some .int) := hret
  have N0 := Fr.nil n0
  refine own_ef (L0 := #[.val (.int 2)]) (by first | (simp [entryFrame, mkF, argsToLocals, Value.category]; done) | rfl) ?_
  refine own_iloadN X0 hx (hb hby d21_0) rfl ?_
  refine own_ifYes X0 hx 12 (hb hby d21_1) (flt (by decide : ¬ ((2 : Int32) < (0 : Int32)))).2.1 (by decide) (by decide) ?_
  refine own_iloadN X0 hx (hb hby d21_12) rfl ?_
  refine own_ldcI X0 hx hZ hown (own_m hw 112 rfl) (hb hby d21_13) ?_
  refine own_icmpYes X0 hx 55 (hb hby d21_15) (tlt (by decide : (2 : Int32) < (1073741823 : Int32))).1 (by decide) (by decide) ?_
  refine own_iloadN X0 hx (hb hby d21_55) rfl ?_
  refine own_iconst X0 hx 1 (hb hby d21_56) rfl ?_
  refine own_ishl X0 hx (hb hby d21_57) ?_
  rw [show ((2 : Int32) <<< ((1 : Int32) &&& 31)) = (4 : Int32) from by decide]
  refine own_retI X0 hx hlk hret (hb hby d21_58) (own_kN (by decide) (by decide) ?_)
  try rw [e0]
  exact ⟨rfl, N0, rfl⟩
set_option maxRecDepth 65536 in
set_option maxHeartbeats 40000000 in
theorem rmNB_2 (l : Launch) (Z : State) (a0 : Array Value) (hw : own_Wd a0 Z) (ws : List Jvm.Cond)   (h0 : Heap) (n0 : Nat) (Z0 : n0 ≤ h0.size) :
    own_Met l (⟨"java/lang/StringUTF16", "newBytesFor", "(I)[B"⟩ : MethodName) jdk_52_method_2_code 1 (some (.array .byte)) ws ({ frames := 1, cells := 1, slots := 4, locals := 12 } : Room) Z #[(.int 2)] h0 (fun v h L => ∃ b k, v = some (.ref b) ∧ Fr n0 L ∧ Keep h0 h [] ∧ h0.size ≤ b ∧ n0 ≤ b ∧ Exa Z h b "[B" ∧ Arv Z h b k .byte (4 : Int32) [(.int 0), (.int 0), (.int 0), (.int 0)] (.int 0)) := by
  refine own_body (plainFor_of_name pn_0) ?_
  intro p e s m below meth c s₁ X0 hx hby hml hown hnm hret hlk hZ e0
  replace hown : s.vm.findClass "java/lang/StringUTF16" = some m.cls := hown
  replace hml : c.maxLocals = 1 := hml
  replace hret : meth.sig.returnType = (some (.array .byte)) := hret
  have N0 := Fr.nil n0
  refine own_ef (L0 := #[.val (.int 2)]) (by first | (simp [entryFrame, mkF, argsToLocals, Value.category]; done) | rfl) ?_
  refine own_iloadN X0 hx (hb hby d20_0) rfl ?_
  refine own_cStat (W := 0) (rest := []) X0 hx hZ [(.int 2)] hown (own_m hw 109 rfl) (own_m hw 110 rfl) (by decide) (own_m hw 111 rfl) (own_m hw 22 rfl) e0 (rmNL_2 l Z a0 hw [] h0 n0 Z0) (by rw [hml]; rfl) (lenOf pd_4 rfl) rfl (Nat.le_of_eq rfl) (hb hby d20_1) (by decide) (by decide) (by decide) (by decide) fun v69 T69 L69 X69 hQ69 => ?_
  obtain ⟨rfl, N69q, e69⟩ := hQ69
  have N69 := Fr.app N0 N69q
  show own_At p e below _ T69 m 4 _ [(.int 4)]
  refine own_newP (n := (4 : Int32)) (cap := 4) (ad := "[B") X69 hx hZ (own_m hw 24 rfl) e69 (hb hby d20_4) (by decide) (by decide) (by decide) (by decide) (by decide) (by decide) fun T70 h70 k70 b70 g70 X70 e70 E70 A70 Ex70 => ?_
  have g_b70 : n0 ≤ b70 := Nat.le_trans Z0 (Nat.le_of_eq g70.symm)
  have szo_b70 : h0.size ≤ b70 := Nat.le_trans (Nat.le_refl h0.size) (Nat.le_of_eq g70.symm)
  have V70 : Arv Z h70 b70 k70 .byte (4 : Int32) [(.int 0), (.int 0), (.int 0), (.int 0)] (.int 0) := (Arv.new A70 (by decide)).pad (pad_rep [] (.int 0) 4)
  refine own_retA X70 hx hlk hret rfl rfl rfl (hb hby d20_6) (own_kN (by decide) (by decide) ?_)
  try rw [e70]
  exact ⟨b70, k70, rfl, N69, (Keep.ext (Keep.refl h0 []) E70), szo_b70, g_b70, Ex70, V70⟩
set_option maxRecDepth 65536 in
set_option maxHeartbeats 40000000 in
theorem rmPut_2_0 (l : Launch) (Z : State) (a0 : Array Value) (hw : own_Wd a0 Z) (ws : List Jvm.Cond) (b : Addr) (kb : ClassId) (x y0 y1 y2 y3 : Int32)  (h0 : Heap) (n0 : Nat) (Z0 : n0 ≤ h0.size) (Sad : Sta Z h0 "java/lang/StringUTF16" "$assertionsDisabled" "Z" (.int 1)) (Shi : Sta Z h0 "java/lang/StringUTF16" "HI_BYTE_SHIFT" "I" (.int 0)) (Slo : Sta Z h0 "java/lang/StringUTF16" "LO_BYTE_SHIFT" "I" (.int 8)) (Vb : Arv Z h0 b kb .byte (4 : Int32) [(.int y0), (.int y1), (.int y2), (.int y3)] (.int 0)) (g_b : n0 ≤ b) (Eb : Exa Z h0 b "[B") :
    own_Met l (⟨"java/lang/StringUTF16", "putChar", "([BII)V"⟩ : MethodName) jdk_52_method_4_code 3 none ws ({ frames := 0, cells := 0, slots := 0, locals := 0 } : Room) Z #[(.ref b), (.int 0), (.int x)] h0 (fun v h L => v = none ∧ Fr n0 L ∧ Keep h0 h [b] ∧ Arv Z h b kb .byte (4 : Int32) [(.int (own_lo x)), (.int (own_hi x)), (.int y2), (.int y3)] (.int 0)) := by
  refine own_body (plainFor_of_name pn_0) ?_
  intro p e s m below meth c s₁ X0 hx hby hml hown hnm hret hlk hZ e0
  replace hown : s.vm.findClass "java/lang/StringUTF16" = some m.cls := hown
  replace hml : c.maxLocals = 3 := hml
  replace hret : meth.sig.returnType = none := hret
  have N0 := Fr.nil n0
  refine own_ef (L0 := #[.val (.ref b), .val (.int 0), .val (.int x)]) (by first | (simp [entryFrame, mkF, argsToLocals, Value.category]; done) | rfl) ?_
  refine own_getS X0 hx hZ hown (host := "") (Or.inl (own_m hw 116 rfl)) Via.refl e0 Sad (hb hby d22_0) fun T71 X71 e71 => ?_
  refine own_ifYes X71 hx 28 (hb hby d22_3) (feq (by decide : ¬ ((1 : Int32) = (0 : Int32)))).2 (by decide) (by decide) ?_
  refine own_iloadN X71 hx (hb hby d22_28) rfl ?_
  refine own_iconst X71 hx 1 (hb hby d22_29) rfl ?_
  refine own_ishl X71 hx (hb hby d22_30) ?_
  rw [show ((0 : Int32) <<< ((1 : Int32) &&& 31)) = (0 : Int32) from by decide]
  refine own_istoreN (l' := #[.val (.ref b), .val (.int 0), .val (.int x)]) X71 hx (hb hby d22_31) rfl ?_
  refine own_aloadN X71 hx (hb hby d22_32) rfl rfl ?_
  refine own_iloadN X71 hx (hb hby d22_33) rfl ?_
  refine own_iinc (l' := #[.val (.ref b), .val (.int ((0 : Int32) + (1 : Int32))), .val (.int x)]) X71 hx (hb hby d22_34) rfl rfl ?_
  rw [show ((0 : Int32) + (1 : Int32)) = (1 : Int32) from by decide]
  refine own_iloadN X71 hx (hb hby d22_37) rfl ?_
  refine own_getS X71 hx hZ hown (host := "") (Or.inl (own_m hw 117 rfl)) Via.refl e71 Shi (hb hby d22_38) fun T72 X72 e72 => ?_
  refine own_ishr X72 hx (hb hby d22_41) ?_
  refine own_i2b X72 hx (hb hby d22_42) ?_
  refine own_stB (vs' := [(.int ((x >>> ((0 : Int32) &&& 31)).toInt8.toInt32)), (.int y1), (.int y2), (.int y3)]) (w := (.int ((x >>> ((0 : Int32) &&& 31)).toInt8.toInt32))) X72 hx hZ e72 Vb ⟨by decide, by decide⟩ 0 rfl (Nat.le_of_ble_eq_true rfl) (congrArg Value.int (own_b8 _)) rfl (hb hby d22_43) fun T73 h73 X73 e73 W73 V73 => ?_
  have N73 := Fr.snoc X73 N0 g_b
  refine own_aloadN X73 hx (hb hby d22_44) rfl rfl ?_
  refine own_iloadN X73 hx (hb hby d22_45) rfl ?_
  refine own_iloadN X73 hx (hb hby d22_46) rfl ?_
  refine own_getS X73 hx hZ hown (host := "") (Or.inl (own_m hw 118 rfl)) Via.refl e73 (Sta.wr W73 Slo) (hb hby d22_47) fun T74 X74 e74 => ?_
  refine own_ishr X74 hx (hb hby d22_50) ?_
  refine own_i2b X74 hx (hb hby d22_51) ?_
  refine own_stB (vs' := [(.int ((x >>> ((0 : Int32) &&& 31)).toInt8.toInt32)), (.int ((x >>> ((8 : Int32) &&& 31)).toInt8.toInt32)), (.int y2), (.int y3)]) (w := (.int ((x >>> ((8 : Int32) &&& 31)).toInt8.toInt32))) X74 hx hZ e74 V73 ⟨by decide, by decide⟩ 1 rfl (Nat.le_of_ble_eq_true rfl) (congrArg Value.int (own_b8 _)) rfl (hb hby d22_52) fun T75 h75 X75 e75 W75 V75 => ?_
  have N75 := Fr.snoc X75 N73 g_b
  refine own_retV X75 hx hlk hret (hb hby d22_53) (own_kN (by decide) (by decide) ?_)
  try rw [e75]
  exact ⟨rfl, N75, (Keep.wr (Keep.wr (Keep.refl h0 [b]) W73 (Or.inl (List.mem_of_getElem? (i := 0) rfl))) W75 (Or.inl (List.mem_of_getElem? (i := 0) rfl))), V75⟩
set_option maxRecDepth 65536 in
set_option maxHeartbeats 40000000 in
theorem rmGet_2_0 (l : Launch) (Z : State) (a0 : Array Value) (hw : own_Wd a0 Z) (ws : List Jvm.Cond) (b : Addr) (kb : ClassId) (y0 y1 y2 y3 : Int32)  (h0 : Heap) (n0 : Nat) (Z0 : n0 ≤ h0.size) (Sad : Sta Z h0 "java/lang/StringUTF16" "$assertionsDisabled" "Z" (.int 1)) (Shi : Sta Z h0 "java/lang/StringUTF16" "HI_BYTE_SHIFT" "I" (.int 0)) (Slo : Sta Z h0 "java/lang/StringUTF16" "LO_BYTE_SHIFT" "I" (.int 8)) (Vb : Arv Z h0 b kb .byte (4 : Int32) [(.int y0), (.int y1), (.int y2), (.int y3)] (.int 0)) :
    own_Met l (⟨"java/lang/StringUTF16", "getChar", "([BI)C"⟩ : MethodName) jdk_52_method_5_code 2 (some .char) ws ({ frames := 0, cells := 0, slots := 0, locals := 0 } : Room) Z #[(.ref b), (.int 0)] h0 (fun v h L => v = some (.int (own_gc y0 y1)) ∧ Fr n0 L ∧ h = h0) := by
  refine own_body (plainFor_of_name pn_0) ?_
  intro p e s m below meth c s₁ X0 hx hby hml hown hnm hret hlk hZ e0
  replace hown : s.vm.findClass "java/lang/StringUTF16" = some m.cls := hown
  replace hml : c.maxLocals = 2 := hml
  replace hret : meth.sig.returnType = (some .char) := hret
  have N0 := Fr.nil n0
  refine own_ef (L0 := #[.val (.ref b), .val (.int 0)]) (by first | (simp [entryFrame, mkF, argsToLocals, Value.category]; done) | rfl) ?_
  refine own_getS X0 hx hZ hown (host := "") (Or.inl (own_m hw 116 rfl)) Via.refl e0 Sad (hb hby d23_0) fun T76 X76 e76 => ?_
  refine own_ifYes X76 hx 28 (hb hby d23_3) (feq (by decide : ¬ ((1 : Int32) = (0 : Int32)))).2 (by decide) (by decide) ?_
  refine own_iloadN X76 hx (hb hby d23_28) rfl ?_
  refine own_iconst X76 hx 1 (hb hby d23_29) rfl ?_
  refine own_ishl X76 hx (hb hby d23_30) ?_
  rw [show ((0 : Int32) <<< ((1 : Int32) &&& 31)) = (0 : Int32) from by decide]
  refine own_istoreN (l' := #[.val (.ref b), .val (.int 0)]) X76 hx (hb hby d23_31) rfl ?_
  refine own_aloadN X76 hx (hb hby d23_32) rfl rfl ?_
  refine own_iloadN X76 hx (hb hby d23_33) rfl ?_
  refine own_iinc (l' := #[.val (.ref b), .val (.int ((0 : Int32) + (1 : Int32)))]) X76 hx (hb hby d23_34) rfl rfl ?_
  rw [show ((0 : Int32) + (1 : Int32)) = (1 : Int32) from by decide]
  refine own_baload X76 hx hZ (.int y0) e76 Vb ⟨by decide, by decide⟩ rfl (hb hby d23_37) ?_
  refine own_sipush X76 hx 255 (hb hby d23_38) rfl ?_
  refine own_iand X76 hx (hb hby d23_41) ?_
  refine own_getS X76 hx hZ hown (host := "") (Or.inl (own_m hw 117 rfl)) Via.refl e76 Shi (hb hby d23_42) fun T77 X77 e77 => ?_
  refine own_ishl X77 hx (hb hby d23_45) ?_
  refine own_aloadN X77 hx (hb hby d23_46) rfl rfl ?_
  refine own_iloadN X77 hx (hb hby d23_47) rfl ?_
  refine own_baload X77 hx hZ (.int y1) e77 Vb ⟨by decide, by decide⟩ rfl (hb hby d23_48) ?_
  refine own_sipush X77 hx 255 (hb hby d23_49) rfl ?_
  refine own_iand X77 hx (hb hby d23_52) ?_
  refine own_getS X77 hx hZ hown (host := "") (Or.inl (own_m hw 118 rfl)) Via.refl e77 Slo (hb hby d23_53) fun T78 X78 e78 => ?_
  refine own_ishl X78 hx (hb hby d23_56) ?_
  refine own_ior X78 hx (hb hby d23_57) ?_
  refine own_i2c X78 hx (hb hby d23_58) ?_
  refine own_retN X78 hx hlk hret (by simp) (own_narcc _) (hb hby d23_59) (own_kN (by decide) (by decide) ?_)
  try rw [e78]
  exact ⟨rfl, N0, rfl⟩
set_option maxRecDepth 65536 in
set_option maxHeartbeats 40000000 in
theorem rmPut_2_1 (l : Launch) (Z : State) (a0 : Array Value) (hw : own_Wd a0 Z) (ws : List Jvm.Cond) (b : Addr) (kb : ClassId) (x y0 y1 y2 y3 : Int32)  (h0 : Heap) (n0 : Nat) (Z0 : n0 ≤ h0.size) (Sad : Sta Z h0 "java/lang/StringUTF16" "$assertionsDisabled" "Z" (.int 1)) (Shi : Sta Z h0 "java/lang/StringUTF16" "HI_BYTE_SHIFT" "I" (.int 0)) (Slo : Sta Z h0 "java/lang/StringUTF16" "LO_BYTE_SHIFT" "I" (.int 8)) (Vb : Arv Z h0 b kb .byte (4 : Int32) [(.int y0), (.int y1), (.int y2), (.int y3)] (.int 0)) (g_b : n0 ≤ b) (Eb : Exa Z h0 b "[B") :
    own_Met l (⟨"java/lang/StringUTF16", "putChar", "([BII)V"⟩ : MethodName) jdk_52_method_4_code 3 none ws ({ frames := 0, cells := 0, slots := 0, locals := 0 } : Room) Z #[(.ref b), (.int 1), (.int x)] h0 (fun v h L => v = none ∧ Fr n0 L ∧ Keep h0 h [b] ∧ Arv Z h b kb .byte (4 : Int32) [(.int y0), (.int y1), (.int (own_lo x)), (.int (own_hi x))] (.int 0)) := by
  refine own_body (plainFor_of_name pn_0) ?_
  intro p e s m below meth c s₁ X0 hx hby hml hown hnm hret hlk hZ e0
  replace hown : s.vm.findClass "java/lang/StringUTF16" = some m.cls := hown
  replace hml : c.maxLocals = 3 := hml
  replace hret : meth.sig.returnType = none := hret
  have N0 := Fr.nil n0
  refine own_ef (L0 := #[.val (.ref b), .val (.int 1), .val (.int x)]) (by first | (simp [entryFrame, mkF, argsToLocals, Value.category]; done) | rfl) ?_
  refine own_getS X0 hx hZ hown (host := "") (Or.inl (own_m hw 116 rfl)) Via.refl e0 Sad (hb hby d22_0) fun T79 X79 e79 => ?_
  refine own_ifYes X79 hx 28 (hb hby d22_3) (feq (by decide : ¬ ((1 : Int32) = (0 : Int32)))).2 (by decide) (by decide) ?_
  refine own_iloadN X79 hx (hb hby d22_28) rfl ?_
  refine own_iconst X79 hx 1 (hb hby d22_29) rfl ?_
  refine own_ishl X79 hx (hb hby d22_30) ?_
  rw [show ((1 : Int32) <<< ((1 : Int32) &&& 31)) = (2 : Int32) from by decide]
  refine own_istoreN (l' := #[.val (.ref b), .val (.int 2), .val (.int x)]) X79 hx (hb hby d22_31) rfl ?_
  refine own_aloadN X79 hx (hb hby d22_32) rfl rfl ?_
  refine own_iloadN X79 hx (hb hby d22_33) rfl ?_
  refine own_iinc (l' := #[.val (.ref b), .val (.int ((2 : Int32) + (1 : Int32))), .val (.int x)]) X79 hx (hb hby d22_34) rfl rfl ?_
  rw [show ((2 : Int32) + (1 : Int32)) = (3 : Int32) from by decide]
  refine own_iloadN X79 hx (hb hby d22_37) rfl ?_
  refine own_getS X79 hx hZ hown (host := "") (Or.inl (own_m hw 117 rfl)) Via.refl e79 Shi (hb hby d22_38) fun T80 X80 e80 => ?_
  refine own_ishr X80 hx (hb hby d22_41) ?_
  refine own_i2b X80 hx (hb hby d22_42) ?_
  refine own_stB (vs' := [(.int y0), (.int y1), (.int ((x >>> ((0 : Int32) &&& 31)).toInt8.toInt32)), (.int y3)]) (w := (.int ((x >>> ((0 : Int32) &&& 31)).toInt8.toInt32))) X80 hx hZ e80 Vb ⟨by decide, by decide⟩ 2 rfl (Nat.le_of_ble_eq_true rfl) (congrArg Value.int (own_b8 _)) rfl (hb hby d22_43) fun T81 h81 X81 e81 W81 V81 => ?_
  have N81 := Fr.snoc X81 N0 g_b
  refine own_aloadN X81 hx (hb hby d22_44) rfl rfl ?_
  refine own_iloadN X81 hx (hb hby d22_45) rfl ?_
  refine own_iloadN X81 hx (hb hby d22_46) rfl ?_
  refine own_getS X81 hx hZ hown (host := "") (Or.inl (own_m hw 118 rfl)) Via.refl e81 (Sta.wr W81 Slo) (hb hby d22_47) fun T82 X82 e82 => ?_
  refine own_ishr X82 hx (hb hby d22_50) ?_
  refine own_i2b X82 hx (hb hby d22_51) ?_
  refine own_stB (vs' := [(.int y0), (.int y1), (.int ((x >>> ((0 : Int32) &&& 31)).toInt8.toInt32)), (.int ((x >>> ((8 : Int32) &&& 31)).toInt8.toInt32))]) (w := (.int ((x >>> ((8 : Int32) &&& 31)).toInt8.toInt32))) X82 hx hZ e82 V81 ⟨by decide, by decide⟩ 3 rfl (Nat.le_of_ble_eq_true rfl) (congrArg Value.int (own_b8 _)) rfl (hb hby d22_52) fun T83 h83 X83 e83 W83 V83 => ?_
  have N83 := Fr.snoc X83 N81 g_b
  refine own_retV X83 hx hlk hret (hb hby d22_53) (own_kN (by decide) (by decide) ?_)
  try rw [e83]
  exact ⟨rfl, N83, (Keep.wr (Keep.wr (Keep.refl h0 [b]) W81 (Or.inl (List.mem_of_getElem? (i := 0) rfl))) W83 (Or.inl (List.mem_of_getElem? (i := 0) rfl))), V83⟩
set_option maxRecDepth 65536 in
set_option maxHeartbeats 40000000 in
theorem rmGet_2_1 (l : Launch) (Z : State) (a0 : Array Value) (hw : own_Wd a0 Z) (ws : List Jvm.Cond) (b : Addr) (kb : ClassId) (y0 y1 y2 y3 : Int32)  (h0 : Heap) (n0 : Nat) (Z0 : n0 ≤ h0.size) (Sad : Sta Z h0 "java/lang/StringUTF16" "$assertionsDisabled" "Z" (.int 1)) (Shi : Sta Z h0 "java/lang/StringUTF16" "HI_BYTE_SHIFT" "I" (.int 0)) (Slo : Sta Z h0 "java/lang/StringUTF16" "LO_BYTE_SHIFT" "I" (.int 8)) (Vb : Arv Z h0 b kb .byte (4 : Int32) [(.int y0), (.int y1), (.int y2), (.int y3)] (.int 0)) :
    own_Met l (⟨"java/lang/StringUTF16", "getChar", "([BI)C"⟩ : MethodName) jdk_52_method_5_code 2 (some .char) ws ({ frames := 0, cells := 0, slots := 0, locals := 0 } : Room) Z #[(.ref b), (.int 1)] h0 (fun v h L => v = some (.int (own_gc y2 y3)) ∧ Fr n0 L ∧ h = h0) := by
  refine own_body (plainFor_of_name pn_0) ?_
  intro p e s m below meth c s₁ X0 hx hby hml hown hnm hret hlk hZ e0
  replace hown : s.vm.findClass "java/lang/StringUTF16" = some m.cls := hown
  replace hml : c.maxLocals = 2 := hml
  replace hret : meth.sig.returnType = (some .char) := hret
  have N0 := Fr.nil n0
  refine own_ef (L0 := #[.val (.ref b), .val (.int 1)]) (by first | (simp [entryFrame, mkF, argsToLocals, Value.category]; done) | rfl) ?_
  refine own_getS X0 hx hZ hown (host := "") (Or.inl (own_m hw 116 rfl)) Via.refl e0 Sad (hb hby d23_0) fun T84 X84 e84 => ?_
  refine own_ifYes X84 hx 28 (hb hby d23_3) (feq (by decide : ¬ ((1 : Int32) = (0 : Int32)))).2 (by decide) (by decide) ?_
  refine own_iloadN X84 hx (hb hby d23_28) rfl ?_
  refine own_iconst X84 hx 1 (hb hby d23_29) rfl ?_
  refine own_ishl X84 hx (hb hby d23_30) ?_
  rw [show ((1 : Int32) <<< ((1 : Int32) &&& 31)) = (2 : Int32) from by decide]
  refine own_istoreN (l' := #[.val (.ref b), .val (.int 2)]) X84 hx (hb hby d23_31) rfl ?_
  refine own_aloadN X84 hx (hb hby d23_32) rfl rfl ?_
  refine own_iloadN X84 hx (hb hby d23_33) rfl ?_
  refine own_iinc (l' := #[.val (.ref b), .val (.int ((2 : Int32) + (1 : Int32)))]) X84 hx (hb hby d23_34) rfl rfl ?_
  rw [show ((2 : Int32) + (1 : Int32)) = (3 : Int32) from by decide]
  refine own_baload X84 hx hZ (.int y2) e84 Vb ⟨by decide, by decide⟩ rfl (hb hby d23_37) ?_
  refine own_sipush X84 hx 255 (hb hby d23_38) rfl ?_
  refine own_iand X84 hx (hb hby d23_41) ?_
  refine own_getS X84 hx hZ hown (host := "") (Or.inl (own_m hw 117 rfl)) Via.refl e84 Shi (hb hby d23_42) fun T85 X85 e85 => ?_
  refine own_ishl X85 hx (hb hby d23_45) ?_
  refine own_aloadN X85 hx (hb hby d23_46) rfl rfl ?_
  refine own_iloadN X85 hx (hb hby d23_47) rfl ?_
  refine own_baload X85 hx hZ (.int y3) e85 Vb ⟨by decide, by decide⟩ rfl (hb hby d23_48) ?_
  refine own_sipush X85 hx 255 (hb hby d23_49) rfl ?_
  refine own_iand X85 hx (hb hby d23_52) ?_
  refine own_getS X85 hx hZ hown (host := "") (Or.inl (own_m hw 118 rfl)) Via.refl e85 Slo (hb hby d23_53) fun T86 X86 e86 => ?_
  refine own_ishl X86 hx (hb hby d23_56) ?_
  refine own_ior X86 hx (hb hby d23_57) ?_
  refine own_i2c X86 hx (hb hby d23_58) ?_
  refine own_retN X86 hx hlk hret (by simp) (own_narcc _) (hb hby d23_59) (own_kN (by decide) (by decide) ?_)
  try rw [e86]
  exact ⟨rfl, N0, rfl⟩
set_option maxRecDepth 65536 in
set_option maxHeartbeats 40000000 in
theorem rmTB_2 (l : Launch) (Z : State) (a0 : Array Value) (hw : own_Wd a0 Z) (ws : List Jvm.Cond) (ca : Addr) (kc : ClassId) (c0 c1 : Int32)  (h0 : Heap) (n0 : Nat) (Z0 : n0 ≤ h0.size) (Sad : Sta Z h0 "java/lang/StringUTF16" "$assertionsDisabled" "Z" (.int 1)) (Shi : Sta Z h0 "java/lang/StringUTF16" "HI_BYTE_SHIFT" "I" (.int 0)) (Slo : Sta Z h0 "java/lang/StringUTF16" "LO_BYTE_SHIFT" "I" (.int 8)) (Vc : Arv Z h0 ca kc .char (2 : Int32) [(.int c0), (.int c1)] (.int 0)) :
    own_Met l (⟨"java/lang/StringUTF16", "toBytes", "([CII)[B"⟩ : MethodName) jdk_52_method_14_code 5 (some (.array .byte)) ws ({ frames := 2, cells := 1, slots := 4, locals := 24 } : Room) Z #[(.ref ca), (.int 0), (.int 2)] h0 (fun v h L => ∃ b k, v = some (.ref b) ∧ Fr n0 L ∧ Keep h0 h [] ∧ h0.size ≤ b ∧ n0 ≤ b ∧ Exa Z h b "[B" ∧ Arv Z h b k .byte (4 : Int32) [(.int (own_lo c0)), (.int (own_hi c0)), (.int (own_lo c1)), (.int (own_hi c1))] (.int 0)) := by
  refine own_body (plainFor_of_name pn_0) ?_
  intro p e s m below meth c s₁ X0 hx hby hml hown hnm hret hlk hZ e0
  replace hown : s.vm.findClass "java/lang/StringUTF16" = some m.cls := hown
  replace hml : c.maxLocals = 5 := hml
  replace hret : meth.sig.returnType = (some (.array .byte)) := hret
  have N0 := Fr.nil n0
  refine own_ef (L0 := #[.val (.ref ca), .val (.int 0), .val (.int 2), .unset, .unset]) (by first | (simp [entryFrame, mkF, argsToLocals, Value.category]; done) | rfl) ?_
  refine own_iloadN X0 hx (hb hby d19_0) rfl ?_
  refine own_cStat (W := 0) (rest := []) X0 hx hZ [(.int 2)] hown (own_m hw 106 rfl) (own_m hw 107 rfl) (by decide) (own_m hw 108 rfl) (own_m hw 22 rfl) e0 (rmNB_2 l Z a0 hw [] h0 n0 Z0) (by rw [hml]; rfl) (lenOf pd_5 rfl) rfl (Nat.le_of_eq rfl) (hb hby d19_1) (by decide) (by decide) (by decide) (by decide) fun v87 T87 L87 X87 hQ87 => ?_
  obtain ⟨b87, kb87, rfl, N87q, K87, szb87, gb87, Eb87, Vb87⟩ := hQ87
  have N87 := Fr.app N0 N87q
  have g_b87 := gb87
  have szo_b87 : h0.size ≤ b87 := Nat.le_trans (Nat.le_refl h0.size) szb87
  show own_At p e below _ T87 m 4 _ [(.ref b87)]
  refine own_astoreN (l' := #[.val (.ref ca), .val (.int 0), .val (.int 2), .val (.ref b87), .unset]) X87 hx (hb hby d19_4) rfl rfl ?_
  refine own_iconst X87 hx 0 (hb hby d19_5) rfl ?_
  refine own_istore (l' := #[.val (.ref ca), .val (.int 0), .val (.int 2), .val (.ref b87), .val (.int 0)]) X87 hx (hb hby d19_6) rfl ?_
  refine own_iload X87 hx (hb hby d19_8) rfl ?_
  refine own_iloadN X87 hx (hb hby d19_10) rfl ?_
  refine own_icmpNo X87 hx (hb hby d19_11) (tlt (by decide : (0 : Int32) < (2 : Int32))).2.1 ?_
  refine own_aloadN X87 hx (hb hby d19_14) rfl rfl ?_
  refine own_iload X87 hx (hb hby d19_15) rfl ?_
  refine own_aloadN X87 hx (hb hby d19_17) rfl rfl ?_
  refine own_iloadN X87 hx (hb hby d19_18) rfl ?_
  refine own_caload X87 hx hZ (.int c0) rfl (Arv.keep Vc K87 nin0) ⟨by decide, by decide⟩ rfl (hb hby d19_19) ?_
  refine own_cStat (W := 0) (rest := []) X87 hx hZ [(.ref b87), (.int 0), (.int c0)] hown (own_m hw 113 rfl) (own_m hw 114 rfl) (by decide) (own_m hw 115 rfl) (own_m hw 22 rfl) rfl (rmPut_2_0 l Z a0 hw [] b87 kb87 c0 (0 : Int32) (0 : Int32) (0 : Int32) (0 : Int32) T87.heap n0 (Nat.le_trans Z0 K87.1) (own_staKeep Sad K87 all0) (own_staKeep Shi K87 all0) (own_staKeep Slo K87 all0) Vb87 g_b87 Eb87) (by rw [hml]; rfl) (lenOf pd_6 rfl) rfl (Nat.le_of_eq rfl) (hb hby d19_20) (by decide) (by decide) (by decide) (by decide) fun v88 T88 L88 X88 hQ88 => ?_
  obtain ⟨rfl, N88q, K88, Vb88⟩ := hQ88
  have N88 := Fr.app N87 N88q
  show own_At p e below _ T88 m 23 _ []
  refine own_iinc (l' := #[.val (.ref ca), .val (.int ((0 : Int32) + (1 : Int32))), .val (.int 2), .val (.ref b87), .val (.int 0)]) X88 hx (hb hby d19_23) rfl rfl ?_
  rw [show ((0 : Int32) + (1 : Int32)) = (1 : Int32) from by decide]
  refine own_iinc (l' := #[.val (.ref ca), .val (.int 1), .val (.int 2), .val (.ref b87), .val (.int ((0 : Int32) + (1 : Int32)))]) X88 hx (hb hby d19_26) rfl rfl ?_
  rw [show ((0 : Int32) + (1 : Int32)) = (1 : Int32) from by decide]
  refine own_goto X88 hx 8 (hb hby d19_29) (by decide) (by decide) ?_
  refine own_iload X88 hx (hb hby d19_8) rfl ?_
  refine own_iloadN X88 hx (hb hby d19_10) rfl ?_
  refine own_icmpNo X88 hx (hb hby d19_11) (tlt (by decide : (1 : Int32) < (2 : Int32))).2.1 ?_
  refine own_aloadN X88 hx (hb hby d19_14) rfl rfl ?_
  refine own_iload X88 hx (hb hby d19_15) rfl ?_
  refine own_aloadN X88 hx (hb hby d19_17) rfl rfl ?_
  refine own_iloadN X88 hx (hb hby d19_18) rfl ?_
  refine own_caload X88 hx hZ (.int c1) rfl (Arv.keep (Arv.keep Vc K87 nin0) K88 (ninS (Nat.ne_of_lt (Nat.lt_of_lt_of_le Vc.lt szb87)) nin0)) ⟨by decide, by decide⟩ rfl (hb hby d19_19) ?_
  refine own_cStat (W := 0) (rest := []) X88 hx hZ [(.ref b87), (.int 1), (.int c1)] hown (own_m hw 113 rfl) (own_m hw 114 rfl) (by decide) (own_m hw 115 rfl) (own_m hw 22 rfl) rfl (rmPut_2_1 l Z a0 hw [] b87 kb87 c1 (own_lo c0) (own_hi c0) (0 : Int32) (0 : Int32) T88.heap n0 (Nat.le_trans (Nat.le_trans Z0 K87.1) K88.1) (own_staKeep (own_staKeep Sad K87 all0) K88 (allS (own_exaStat Eb87) all0)) (own_staKeep (own_staKeep Shi K87 all0) K88 (allS (own_exaStat Eb87) all0)) (own_staKeep (own_staKeep Slo K87 all0) K88 (allS (own_exaStat Eb87) all0)) Vb88 g_b87 (Exa.keep Eb87 K88)) (by rw [hml]; rfl) (lenOf pd_6 rfl) rfl (Nat.le_of_eq rfl) (hb hby d19_20) (by decide) (by decide) (by decide) (by decide) fun v89 T89 L89 X89 hQ89 => ?_
  obtain ⟨rfl, N89q, K89, Vb89⟩ := hQ89
  have N89 := Fr.app N88 N89q
  show own_At p e below _ T89 m 23 _ []
  refine own_iinc (l' := #[.val (.ref ca), .val (.int ((1 : Int32) + (1 : Int32))), .val (.int 2), .val (.ref b87), .val (.int 1)]) X89 hx (hb hby d19_23) rfl rfl ?_
  rw [show ((1 : Int32) + (1 : Int32)) = (2 : Int32) from by decide]
  refine own_iinc (l' := #[.val (.ref ca), .val (.int 2), .val (.int 2), .val (.ref b87), .val (.int ((1 : Int32) + (1 : Int32)))]) X89 hx (hb hby d19_26) rfl rfl ?_
  rw [show ((1 : Int32) + (1 : Int32)) = (2 : Int32) from by decide]
  refine own_goto X89 hx 8 (hb hby d19_29) (by decide) (by decide) ?_
  refine own_iload X89 hx (hb hby d19_8) rfl ?_
  refine own_iloadN X89 hx (hb hby d19_10) rfl ?_
  refine own_icmpYes X89 hx 32 (hb hby d19_11) (flt (by decide : ¬ ((2 : Int32) < (2 : Int32)))).2.1 (by decide) (by decide) ?_
  refine own_aloadN X89 hx (hb hby d19_32) rfl rfl ?_
  refine own_retA X89 hx hlk hret rfl rfl rfl (hb hby d19_33) (own_kN (by decide) (by decide) ?_)
  exact ⟨b87, kb87, rfl, N89, (Keep.trans (Keep.trans (Keep.trans (Keep.refl h0 []) K87 all0) K88 (allS (Or.inr szo_b87) all0)) K89 (allS (Or.inr szo_b87) all0)), szo_b87, g_b87, (Exa.keep (Exa.keep Eb87 K88) K89), Vb89⟩
set_option maxRecDepth 65536 in
set_option maxHeartbeats 40000000 in
theorem rmCFu_2 (l : Launch) (Z : State) (a0 : Array Value) (hw : own_Wd a0 Z) (ws : List Jvm.Cond) (ba : Addr)  (h0 : Heap) (n0 : Nat) (Z0 : n0 ≤ h0.size) (A : own_Aln Z h0 ba .byte (4 : Int32)) :
    own_Met l (⟨"java/lang/StringUTF16", "coderFromArrayLen", "([BI)B"⟩ : MethodName) jdk_52_method_15_code 2 (some .byte) ws ({ frames := 0, cells := 0, slots := 0, locals := 0 } : Room) Z #[(.ref ba), (.int 2)] h0 (fun v h L => v = some (.int 1) ∧ Fr n0 L ∧ h = h0) := by
  refine own_body (plainFor_of_name pn_0) ?_
  intro p e s m below meth c s₁ X0 hx hby hml hown hnm hret hlk hZ e0
  replace hown : s.vm.findClass "java/lang/StringUTF16" = some m.cls := hown
  replace hml : c.maxLocals = 2 := hml
  replace hret : meth.sig.returnType = (some .byte) := hret
  have N0 := Fr.nil n0
  refine own_ef (L0 := #[.val (.ref ba), .val (.int 2)]) (by first | (simp [entryFrame, mkF, argsToLocals, Value.category]; done) | rfl) ?_
  refine own_iloadN X0 hx (hb hby d7_0) rfl ?_
  refine own_aloadN X0 hx (hb hby d7_1) rfl rfl ?_
  refine own_arraylength X0 hx hZ e0 A (hb hby d7_2) ?_
  refine own_isub X0 hx (hb hby d7_3) ?_
  rw [show ((2 : Int32) - (4 : Int32)) = (-2 : Int32) from by decide]
  refine own_bipush X0 hx 31 (hb hby d7_4) rfl ?_
  refine own_iushr X0 hx (hb hby d7_6) ?_
  rw [show (((-2 : Int32).toUInt32 >>> ((31 : Int32) &&& 31).toUInt32).toInt32) = (1 : Int32) from by decide]
  refine own_i2b X0 hx (hb hby d7_7) ?_
  rw [show ((1 : Int32).toInt8.toInt32) = (1 : Int32) from by decide]
  refine own_retN X0 hx hlk hret (by simp) (by decide) (hb hby d7_8) (own_kN (by decide) (by decide) ?_)
  try rw [e0]
  exact ⟨rfl, N0, rfl⟩
set_option maxRecDepth 65536 in
set_option maxHeartbeats 40000000 in
theorem rmCu2_2_0 (l : Launch) (Z : State) (a0 : Array Value) (hw : own_Wd a0 Z) (ws : List Jvm.Cond) (ca ba : Addr) (kc kb : ClassId) (c0 c1 : Int32)  (h0 : Heap) (n0 : Nat) (Z0 : n0 ≤ h0.size) (Vc : Arv Z h0 ca kc .char (2 : Int32) [(.int c0), (.int c1)] (.int 0)) (Vb : Arv Z h0 ba kb .byte (2 : Int32) [(.int 0), (.int 0)] (.int 0)) (g_ba : n0 ≤ ba) (hne : ca ≠ ba) (hx0 : (255 : Int32) < c0) :
    own_Met l (⟨"java/lang/StringUTF16", "compress", "([CI[BII)I"⟩ : MethodName) jdk_52_method_21_code 7 (some .int) ws ({ frames := 0, cells := 0, slots := 0, locals := 0 } : Room) Z #[(.ref ca), (.int 0), (.ref ba), (.int 0), (.int 2)] h0 (fun v h L => v = some (.int 0) ∧ Fr n0 L ∧ Keep h0 h [ba]) := by
  refine own_body (plainFor_of_name pn_0) ?_
  intro p e s m below meth c s₁ X0 hx hby hml hown hnm hret hlk hZ e0
  replace hown : s.vm.findClass "java/lang/StringUTF16" = some m.cls := hown
  replace hml : c.maxLocals = 7 := hml
  replace hret : meth.sig.returnType = (some .int) := hret
  have N0 := Fr.nil n0
  refine own_ef (L0 := #[.val (.ref ca), .val (.int 0), .val (.ref ba), .val (.int 0), .val (.int 2), .unset, .unset]) (by first | (simp [entryFrame, mkF, argsToLocals, Value.category]; done) | rfl) ?_
  refine own_iconst X0 hx 0 (hb hby d6_0) rfl ?_
  refine own_istore (l' := #[.val (.ref ca), .val (.int 0), .val (.ref ba), .val (.int 0), .val (.int 2), .val (.int 0), .unset]) X0 hx (hb hby d6_1) rfl ?_
  refine own_iload X0 hx (hb hby d6_3) rfl ?_
  refine own_iload X0 hx (hb hby d6_5) rfl ?_
  refine own_icmpNo X0 hx (hb hby d6_7) (tlt (by decide : (0 : Int32) < (2 : Int32))).2.1 ?_
  refine own_aloadN X0 hx (hb hby d6_10) rfl rfl ?_
  refine own_iloadN X0 hx (hb hby d6_11) rfl ?_
  refine own_caload X0 hx hZ (.int c0) e0 Vc ⟨by decide, by decide⟩ rfl (hb hby d6_12) ?_
  refine own_istore (l' := #[.val (.ref ca), .val (.int 0), .val (.ref ba), .val (.int 0), .val (.int 2), .val (.int 0), .val (.int c0)]) X0 hx (hb hby d6_13) rfl ?_
  refine own_iload X0 hx (hb hby d6_15) rfl ?_
  refine own_sipush X0 hx 255 (hb hby d6_17) rfl ?_
  refine own_icmpNo X0 hx (hb hby d6_20) (tlt hx0).2.2.2 ?_
  refine own_iload X0 hx (hb hby d6_23) rfl ?_
  refine own_retI X0 hx hlk hret (hb hby d6_25) (own_kN (by decide) (by decide) ?_)
  try rw [e0]
  exact ⟨rfl, N0, (Keep.refl h0 [ba])⟩
set_option maxRecDepth 65536 in
set_option maxHeartbeats 40000000 in
theorem rmCu1_2_0 (l : Launch) (Z : State) (a0 : Array Value) (hw : own_Wd a0 Z) (ws : List Jvm.Cond) (ca : Addr) (kc : ClassId) (c0 c1 : Int32)  (h0 : Heap) (n0 : Nat) (Z0 : n0 ≤ h0.size) (Sad : Sta Z h0 "java/lang/StringUTF16" "$assertionsDisabled" "Z" (.int 1)) (Shi : Sta Z h0 "java/lang/StringUTF16" "HI_BYTE_SHIFT" "I" (.int 0)) (Slo : Sta Z h0 "java/lang/StringUTF16" "LO_BYTE_SHIFT" "I" (.int 8)) (Vc : Arv Z h0 ca kc .char (2 : Int32) [(.int c0), (.int c1)] (.int 0)) (hx0 : (255 : Int32) < c0) (lo0 : ¬ c0 < (0 : Int32)) (hi0 : ¬ (65535 : Int32) < c0) :
    own_Met l (⟨"java/lang/StringUTF16", "compress", "([CII)[B"⟩ : MethodName) jdk_52_method_16_code 6 (some (.array .byte)) ws ({ frames := 3, cells := 2, slots := 6, locals := 40 } : Room) Z #[(.ref ca), (.int 0), (.int 2)] h0 (fun v h L => ∃ b k, v = some (.ref b) ∧ Fr n0 L ∧ Keep h0 h [] ∧ h0.size ≤ b ∧ n0 ≤ b ∧ Exa Z h b "[B" ∧ Arv Z h b k .byte (4 : Int32) [(.int (own_lo c0)), (.int (own_hi c0)), (.int (own_lo c1)), (.int (own_hi c1))] (.int 0)) := by
  refine own_body (plainFor_of_name pn_0) ?_
  intro p e s m below meth c s₁ X0 hx hby hml hown hnm hret hlk hZ e0
  replace hown : s.vm.findClass "java/lang/StringUTF16" = some m.cls := hown
  replace hml : c.maxLocals = 6 := hml
  replace hret : meth.sig.returnType = (some (.array .byte)) := hret
  have N0 := Fr.nil n0
  refine own_ef (L0 := #[.val (.ref ca), .val (.int 0), .val (.int 2), .unset, .unset, .unset]) (by first | (simp [entryFrame, mkF, argsToLocals, Value.category]; done) | rfl) ?_
  refine own_iloadN X0 hx (hb hby d5_0) rfl ?_
  refine own_newP (n := (2 : Int32)) (cap := 2) (ad := "[B") X0 hx hZ (own_m hw 24 rfl) e0 (hb hby d5_1) (by decide) (by decide) (by decide) (by decide) (by decide) (by decide) fun T90 h90 k90 b90 g90 X90 e90 E90 A90 Ex90 => ?_
  have g_b90 : n0 ≤ b90 := Nat.le_trans Z0 (Nat.le_of_eq g90.symm)
  have szo_b90 : h0.size ≤ b90 := Nat.le_trans (Nat.le_refl h0.size) (Nat.le_of_eq g90.symm)
  have V90 : Arv Z h90 b90 k90 .byte (2 : Int32) [(.int 0), (.int 0)] (.int 0) := (Arv.new A90 (by decide)).pad (pad_rep [] (.int 0) 2)
  refine own_astoreN (l' := #[.val (.ref ca), .val (.int 0), .val (.int 2), .val (.ref b90), .unset, .unset]) X90 hx (hb hby d5_3) rfl rfl ?_
  refine own_aloadN X90 hx (hb hby d5_4) rfl rfl ?_
  refine own_iloadN X90 hx (hb hby d5_5) rfl ?_
  refine own_aloadN X90 hx (hb hby d5_6) rfl rfl ?_
  refine own_iconst X90 hx 0 (hb hby d5_7) rfl ?_
  refine own_iloadN X90 hx (hb hby d5_8) rfl ?_
  refine own_cStat (W := 0) (rest := []) X90 hx hZ [(.ref ca), (.int 0), (.ref b90), (.int 0), (.int 2)] hown (own_m hw 25 rfl) (own_m hw 26 rfl) (by decide) (own_m hw 27 rfl) (own_m hw 22 rfl) e90 (rmCu2_2_0 l Z a0 hw [] ca b90 kc k90 c0 c1 h90 n0 (Nat.le_trans Z0 E90.1) (Vc.ext E90) V90 g_b90 (Nat.ne_of_lt (Nat.lt_of_lt_of_le Vc.lt (Nat.le_of_eq g90.symm))) hx0) (by rw [hml]; rfl) (lenOf pd_0 rfl) rfl (Nat.le_of_eq rfl) (hb hby d5_9) (by decide) (by decide) (by decide) (by decide) fun v91 T91 L91 X91 hQ91 => ?_
  obtain ⟨rfl, N91q, K91⟩ := hQ91
  have N91 := Fr.app N0 N91q
  show own_At p e below _ T91 m 12 _ [(.int 0)]
  refine own_istore (l' := #[.val (.ref ca), .val (.int 0), .val (.int 2), .val (.ref b90), .val (.int 0), .unset]) X91 hx (hb hby d5_12) rfl ?_
  refine own_iload X91 hx (hb hby d5_14) rfl ?_
  refine own_iloadN X91 hx (hb hby d5_16) rfl ?_
  refine own_icmpNo X91 hx (hb hby d5_17) (feq (by decide : ¬ ((0 : Int32) = (2 : Int32)))).1 ?_
  refine own_aloadN X91 hx (hb hby d5_20) rfl rfl ?_
  refine own_iloadN X91 hx (hb hby d5_21) rfl ?_
  refine own_iloadN X91 hx (hb hby d5_22) rfl ?_
  refine own_cStat (W := 0) (rest := []) X91 hx hZ [(.ref ca), (.int 0), (.int 2)] hown (own_m hw 103 rfl) (own_m hw 104 rfl) (by decide) (own_m hw 105 rfl) (own_m hw 22 rfl) rfl (rmTB_2 l Z a0 hw [] ca kc c0 c1 T91.heap n0 (Nat.le_trans (Nat.le_trans Z0 E90.1) K91.1) (own_staKeep (Sta.ext E90 Sad) K91 (allS (own_exaStat Ex90) all0)) (own_staKeep (Sta.ext E90 Shi) K91 (allS (own_exaStat Ex90) all0)) (own_staKeep (Sta.ext E90 Slo) K91 (allS (own_exaStat Ex90) all0)) (Arv.keep (Vc.ext E90) K91 (ninS (Nat.ne_of_lt (Nat.lt_of_lt_of_le Vc.lt (Nat.le_of_eq g90.symm))) nin0))) (by rw [hml]; rfl) (lenOf pd_1 rfl) rfl (Nat.le_of_eq rfl) (hb hby d5_23) (by decide) (by decide) (by decide) (by decide) fun v92 T92 L92 X92 hQ92 => ?_
  obtain ⟨b92, kb92, rfl, N92q, K92, szb92, gb92, Eb92, Vb92⟩ := hQ92
  have N92 := Fr.app N91 N92q
  have g_b92 := gb92
  have szo_b92 : h0.size ≤ b92 := Nat.le_trans (Nat.le_trans (Nat.le_trans (Nat.le_refl h0.size) E90.1) K91.1) szb92
  show own_At p e below _ T92 m 26 _ [(.ref b92)]
  refine own_astore (l' := #[.val (.ref ca), .val (.int 0), .val (.int 2), .val (.ref b90), .val (.int 0), .val (.ref b92)]) X92 hx (hb hby d5_26) rfl rfl ?_
  refine own_aload X92 hx (hb hby d5_28) rfl rfl ?_
  refine own_iload X92 hx (hb hby d5_30) rfl ?_
  refine own_cStat (W := 0) (rest := []) X92 hx hZ [(.ref b92), (.int 0)] hown (own_m hw 119 rfl) (own_m hw 120 rfl) (by decide) (own_m hw 121 rfl) (own_m hw 22 rfl) rfl (rmGet_2_0 l Z a0 hw [] b92 kb92 (own_lo c0) (own_hi c0) (own_lo c1) (own_hi c1) T92.heap n0 (Nat.le_trans (Nat.le_trans (Nat.le_trans Z0 E90.1) K91.1) K92.1) (own_staKeep (own_staKeep (Sta.ext E90 Sad) K91 (allS (own_exaStat Ex90) all0)) K92 all0) (own_staKeep (own_staKeep (Sta.ext E90 Shi) K91 (allS (own_exaStat Ex90) all0)) K92 all0) (own_staKeep (own_staKeep (Sta.ext E90 Slo) K91 (allS (own_exaStat Ex90) all0)) K92 all0) Vb92) (by rw [hml]; rfl) (lenOf pd_7 rfl) rfl (Nat.le_of_eq rfl) (hb hby d5_32) (by decide) (by decide) (by decide) (by decide) fun v93 T93 L93 X93 hQ93 => ?_
  obtain ⟨rfl, N93q, e93⟩ := hQ93
  have N93 := Fr.app N92 N93q
  show own_At p e below _ T93 m 35 _ [(.int (own_gc (own_lo c0) (own_hi c0)))]
  rw [own_gcc lo0 hi0]
  refine own_sipush X93 hx 255 (hb hby d5_35) rfl ?_
  refine own_icmpYes X93 hx 54 (hb hby d5_38) (tlt hx0).2.2.1 (by decide) (by decide) ?_
  refine own_aload X93 hx (hb hby d5_54) rfl rfl ?_
  refine own_retA X93 hx hlk hret rfl rfl rfl (hb hby d5_56) (own_kN (by decide) (by decide) ?_)
  try rw [e93]
  exact ⟨b92, kb92, rfl, N93, (Keep.trans (Keep.trans (Keep.ext (Keep.refl h0 []) E90) K91 (allS (Or.inr szo_b90) all0)) K92 all0), szo_b92, g_b92, Eb92, Vb92⟩
set_option maxRecDepth 65536 in
set_option maxHeartbeats 40000000 in
theorem rmIu2_2_0 (l : Launch) (Z : State) (a0 : Array Value) (hw : own_Wd a0 Z) (ws : List Jvm.Cond) (a ca : Addr) (kc : ClassId) (cs c0 c1 : Int32)  (h0 : Heap) (n0 : Nat) (Z0 : n0 ≤ h0.size) (Ea : Exa Z h0 a "java/lang/String") (Fv : Fld Z h0 a "java/lang/String" "value" "[B" .null) (Fc : Fld Z h0 a "java/lang/String" "coder" "B" (.int 0)) (g_a : n0 ≤ a) (Sc : Sta Z h0 "java/lang/String" "COMPACT_STRINGS" "Z" (.int cs)) (hcs : ¬ (cs = (0 : Int32))) (Sad : Sta Z h0 "java/lang/StringUTF16" "$assertionsDisabled" "Z" (.int 1)) (Shi : Sta Z h0 "java/lang/StringUTF16" "HI_BYTE_SHIFT" "I" (.int 0)) (Slo : Sta Z h0 "java/lang/StringUTF16" "LO_BYTE_SHIFT" "I" (.int 8)) (Vc : Arv Z h0 ca kc .char (2 : Int32) [(.int c0), (.int c1)] (.int 0)) (Ecs : Exa Z h0 ca "[C") (hx0 : (255 : Int32) < c0) (lo0 : ¬ c0 < (0 : Int32)) (hi0 : ¬ (65535 : Int32) < c0) :
    own_Met l (⟨"java/lang/String", "<init>", "([CIILjava/lang/Void;)V"⟩ : MethodName) jdk_42_method_149_code 6 none ws ({ frames := 4, cells := 2, slots := 6, locals := 57 } : Room) Z #[(.ref a), (.ref ca), (.int 0), (.int 2), .null] h0 (fun v h L => v = none ∧ Fr n0 L ∧ Keep h0 h [a] ∧ ∃ b k, h0.size ≤ b ∧ Exa Z h b "[B" ∧ Exa Z h a "java/lang/String" ∧ Fld Z h a "java/lang/String" "value" "[B" (.ref b) ∧ Fld Z h a "java/lang/String" "coder" "B" (.int 1) ∧ Arv Z h b k .byte (4 : Int32) [(.int (own_lo c0)), (.int (own_hi c0)), (.int (own_lo c1)), (.int (own_hi c1))] (.int 0)) := by
  refine own_body (plainFor_of_name pn_1) ?_
  intro p e s m below meth c s₁ X0 hx hby hml hown hnm hret hlk hZ e0
  replace hown : s.vm.findClass "java/lang/String" = some m.cls := hown
  replace hml : c.maxLocals = 6 := hml
  replace hret : meth.sig.returnType = none := hret
  have N0 := Fr.nil n0
  refine own_ef (L0 := #[.val (.ref a), .val (.ref ca), .val (.int 0), .val (.int 2), .val .null, .unset]) (by first | (simp [entryFrame, mkF, argsToLocals, Value.category]; done) | rfl) ?_
  refine own_aloadN X0 hx (hb hby d3_0) rfl rfl ?_
  refine own_initO (W := 0) X0 hx hZ hown (own_m hw 16 rfl) (own_m hw 17 rfl) (own_m hw 18 rfl) e0 (by rw [hml]; rfl) (hb hby d3_1) (by decide) (Nat.le_of_eq rfl) (by decide) fun T94 X94 e94 => ?_
  refine own_iloadN X94 hx (hb hby d3_4) rfl ?_
  refine own_ifYes X94 hx 27 (hb hby d3_5) (feq (by decide : ¬ ((2 : Int32) = (0 : Int32)))).2 (by decide) (by decide) ?_
  refine own_getS X94 hx hZ hown (host := "") (Or.inl (own_m hw 19 rfl)) Via.refl e94 Sc (hb hby d3_27) fun T95 X95 e95 => ?_
  refine own_ifNo X95 hx (hb hby d3_30) (feq hcs).1 ?_
  refine own_aloadN X95 hx (hb hby d3_33) rfl rfl ?_
  refine own_iloadN X95 hx (hb hby d3_34) rfl ?_
  refine own_iloadN X95 hx (hb hby d3_35) rfl ?_
  refine own_cStat (W := 0) (rest := []) X95 hx hZ [(.ref ca), (.int 0), (.int 2)] hown (own_m hw 20 rfl) (own_m hw 21 rfl) (by decide) (own_m hw 23 rfl) (own_m hw 22 rfl) e95 (rmCu1_2_0 l Z a0 hw [] ca kc c0 c1 h0 n0 Z0 Sad Shi Slo Vc hx0 lo0 hi0) (by rw [hml]; rfl) (lenOf pd_1 rfl) rfl (Nat.le_of_eq rfl) (hb hby d3_36) (by decide) (by decide) (by decide) (by decide) fun v96 T96 L96 X96 hQ96 => ?_
  obtain ⟨b96, kb96, rfl, N96q, K96, szb96, gb96, Eb96, Vb96⟩ := hQ96
  have N96 := Fr.app N0 N96q
  have g_b96 := gb96
  have szo_b96 : h0.size ≤ b96 := Nat.le_trans (Nat.le_refl h0.size) szb96
  show own_At p e below _ T96 m 39 _ [(.ref b96)]
  refine own_astore (l' := #[.val (.ref a), .val (.ref ca), .val (.int 0), .val (.int 2), .val .null, .val (.ref b96)]) X96 hx (hb hby d3_39) rfl rfl ?_
  refine own_aloadN X96 hx (hb hby d3_41) rfl rfl ?_
  refine own_aload X96 hx (hb hby d3_42) rfl rfl ?_
  refine own_iloadN X96 hx (hb hby d3_44) rfl ?_
  refine own_cStat (W := 1) (rest := [(.ref a)]) X96 hx hZ [(.ref b96), (.int 2)] hown (own_m hw 28 rfl) (own_m hw 29 rfl) (by decide) (own_m hw 30 rfl) (own_m hw 22 rfl) rfl (rmCFu_2 l Z a0 hw [] b96 T96.heap n0 (Nat.le_trans Z0 K96.1) (own_alnV Vb96)) (by rw [hml]; rfl) (lenOf pd_2 rfl) rfl (Nat.le_of_eq rfl) (hb hby d3_45) (by decide) (by decide) (by decide) (by decide) fun v97 T97 L97 X97 hQ97 => ?_
  obtain ⟨rfl, N97q, e97⟩ := hQ97
  have N97 := Fr.app N96 N97q
  show own_At p e below _ T97 m 48 _ [(.int 1), (.ref a)]
  obtain ⟨T98, h98, X98, e98, W98, st98⟩ := putFN X97 hx hZ hown (own_m hw 31 rfl) Via.refl e97 (Fld.keep Fc K96 nin0) (Exa.keep Ea K96) (Or.inr ⟨(own_m hw 32 rfl), rfl, hnm⟩) (own_m hw 6 rfl) (ty := .byte) (v' := (.int 1)) (by decide) rfl rfl (g := (mkF m 48 #[.val (.ref a), .val (.ref ca), .val (.int 0), .val (.int 2), .val .null, .val (.ref b96)] [(.int 1), (.ref a)])) rfl rfl (hb hby d3_48)
  refine own_step (S' := (T98.setTop (mkF m 51 #[.val (.ref a), .val (.ref ca), .val (.int 0), .val (.int 2), .val .null, .val (.ref b96)] []))) (fun _ k => st98 _ k) ?_
  have Fw98 := Fld.same W98 (Fld.keep Fc K96 nin0)
  have N98 := Fr.snoc X98 N97 g_a
  refine own_aloadN X98 hx (hb hby d3_51) rfl rfl ?_
  refine own_aload X98 hx (hb hby d3_52) rfl rfl ?_
  refine own_putF X98 hx hZ hown (host := "") (Or.inl (own_m hw 33 rfl)) Via.refl e98 (Fld.other W98 (Fld.keep Fv K96 nin0) (Or.inr (slot_ne (Or.inr (own_m hw 34 rfl)) (Or.inr (own_m hw 32 rfl)) (by decide) (t := (.array .byte)) (t' := .byte) (by decide) (by decide)))) (Exa.wr W98 (Exa.keep Ea K96)) (Or.inr ⟨(own_m hw 34 rfl), rfl, hnm⟩) (own_m hw 6 rfl) (ty := (.array .byte)) (by decide) rfl rfl (hb hby d3_54) fun T99 h99 X99 e99 W99 => ?_
  have Fw99 := Fld.same W99 (Fld.other W98 (Fld.keep Fv K96 nin0) (Or.inr (slot_ne (Or.inr (own_m hw 34 rfl)) (Or.inr (own_m hw 32 rfl)) (by decide) (t := (.array .byte)) (t' := .byte) (by decide) (by decide))))
  have N99 := Fr.snoc X99 N98 g_a
  refine own_retV X99 hx hlk hret (hb hby d3_57) (own_kN (by decide) (by decide) ?_)
  try rw [e99]
  exact ⟨rfl, N99, (Keep.wr (Keep.wr (Keep.trans (Keep.refl h0 [a]) K96 all0) W98 (Or.inl (List.mem_of_getElem? (i := 0) rfl))) W99 (Or.inl (List.mem_of_getElem? (i := 0) rfl))), b96, kb96, szo_b96, (Exa.wr W99 (Exa.wr W98 Eb96)), (Exa.wr W99 (Exa.wr W98 (Exa.keep Ea K96))), Fw99, (Fld.other W99 Fw98 (Or.inr (slot_ne (Or.inr (own_m hw 32 rfl)) (Or.inr (own_m hw 34 rfl)) (by decide) (t := .byte) (t' := (.array .byte)) (by decide) (by decide)))), (Arv.other (Arv.other Vb96 W98 (Ne.symm (Nat.ne_of_lt (Nat.lt_of_lt_of_le Ea.lt szb96)))) W99 (Ne.symm (Nat.ne_of_lt (Nat.lt_of_lt_of_le Ea.lt szb96))))⟩
set_option maxRecDepth 65536 in
set_option maxHeartbeats 40000000 in
theorem rmIu1_2_0 (l : Launch) (Z : State) (a0 : Array Value) (hw : own_Wd a0 Z) (ws : List Jvm.Cond) (a ca : Addr) (kc : ClassId) (cs c0 c1 : Int32)  (h0 : Heap) (n0 : Nat) (Z0 : n0 ≤ h0.size) (Ea : Exa Z h0 a "java/lang/String") (Fv : Fld Z h0 a "java/lang/String" "value" "[B" .null) (Fc : Fld Z h0 a "java/lang/String" "coder" "B" (.int 0)) (g_a : n0 ≤ a) (Sc : Sta Z h0 "java/lang/String" "COMPACT_STRINGS" "Z" (.int cs)) (hcs : ¬ (cs = (0 : Int32))) (Sad : Sta Z h0 "java/lang/StringUTF16" "$assertionsDisabled" "Z" (.int 1)) (Shi : Sta Z h0 "java/lang/StringUTF16" "HI_BYTE_SHIFT" "I" (.int 0)) (Slo : Sta Z h0 "java/lang/StringUTF16" "LO_BYTE_SHIFT" "I" (.int 8)) (Vc : Arv Z h0 ca kc .char (2 : Int32) [(.int c0), (.int c1)] (.int 0)) (Ecs : Exa Z h0 ca "[C") (hx0 : (255 : Int32) < c0) (lo0 : ¬ c0 < (0 : Int32)) (hi0 : ¬ (65535 : Int32) < c0) :
    own_Met l (⟨"java/lang/String", "<init>", "([C)V"⟩ : MethodName) jdk_42_method_3_code 2 none ws ({ frames := 5, cells := 2, slots := 6, locals := 74 } : Room) Z #[(.ref a), (.ref ca)] h0 (fun v h L => v = none ∧ Fr n0 L ∧ Keep h0 h [a] ∧ ∃ b k, h0.size ≤ b ∧ Exa Z h b "[B" ∧ Exa Z h a "java/lang/String" ∧ Fld Z h a "java/lang/String" "value" "[B" (.ref b) ∧ Fld Z h a "java/lang/String" "coder" "B" (.int 1) ∧ Arv Z h b k .byte (4 : Int32) [(.int (own_lo c0)), (.int (own_hi c0)), (.int (own_lo c1)), (.int (own_hi c1))] (.int 0)) := by
  refine own_body (plainFor_of_name pn_1) ?_
  intro p e s m below meth c s₁ X0 hx hby hml hown hnm hret hlk hZ e0
  replace hown : s.vm.findClass "java/lang/String" = some m.cls := hown
  replace hml : c.maxLocals = 2 := hml
  replace hret : meth.sig.returnType = none := hret
  have N0 := Fr.nil n0
  refine own_ef (L0 := #[.val (.ref a), .val (.ref ca)]) (by first | (simp [entryFrame, mkF, argsToLocals, Value.category]; done) | rfl) ?_
  refine own_aloadN X0 hx (hb hby d2_0) rfl rfl ?_
  refine own_aloadN X0 hx (hb hby d2_1) rfl rfl ?_
  refine own_iconst X0 hx 0 (hb hby d2_2) rfl ?_
  refine own_aloadN X0 hx (hb hby d2_3) rfl rfl ?_
  refine own_arraylength X0 hx hZ e0 (own_alnV Vc) (hb hby d2_4) ?_
  refine own_aconstNull X0 hx (hb hby d2_5) ?_
  refine own_cSpec (b := a) (W := 0) (rest := []) X0 hx hZ [(.ref ca), (.int 0), (.int 2), .null] rfl hown (own_m hw 12 rfl) (own_m hw 13 rfl) (by decide) (own_m hw 15 rfl) (own_m hw 7 rfl) e0 (rmIu2_2_0 l Z a0 hw [] a ca kc cs c0 c1 h0 n0 Z0 Ea Fv Fc g_a Sc hcs Sad Shi Slo Vc Ecs hx0 lo0 hi0) (by rw [hml]; rfl) (lenOf pd_3 rfl) rfl (Nat.le_of_eq rfl) (hb hby d2_6) (by decide) (by decide) (by decide) (by decide) fun v100 T100 L100 X100 hQ100 => ?_
  obtain ⟨rfl, N100q, K100, R100⟩ := hQ100
  have N100 := Fr.app N0 N100q
  show own_At p e below _ T100 m 9 _ []
  refine own_retV X100 hx hlk hret (hb hby d2_9) (own_kN (by decide) (by decide) ?_)
  exact ⟨rfl, N100, K100, R100⟩
set_option maxRecDepth 65536 in
set_option maxHeartbeats 40000000 in
theorem rmCu2_2_1 (l : Launch) (Z : State) (a0 : Array Value) (hw : own_Wd a0 Z) (ws : List Jvm.Cond) (ca ba : Addr) (kc kb : ClassId) (c0 c1 : Int32)  (h0 : Heap) (n0 : Nat) (Z0 : n0 ≤ h0.size) (Vc : Arv Z h0 ca kc .char (2 : Int32) [(.int c0), (.int c1)] (.int 0)) (Vb : Arv Z h0 ba kb .byte (2 : Int32) [(.int 0), (.int 0)] (.int 0)) (g_ba : n0 ≤ ba) (hne : ca ≠ ba) (hx0 : ¬ ((255 : Int32) < c0)) (hx1 : (255 : Int32) < c1) :
    own_Met l (⟨"java/lang/StringUTF16", "compress", "([CI[BII)I"⟩ : MethodName) jdk_52_method_21_code 7 (some .int) ws ({ frames := 0, cells := 0, slots := 0, locals := 0 } : Room) Z #[(.ref ca), (.int 0), (.ref ba), (.int 0), (.int 2)] h0 (fun v h L => v = some (.int 1) ∧ Fr n0 L ∧ Keep h0 h [ba]) := by
  refine own_body (plainFor_of_name pn_0) ?_
  intro p e s m below meth c s₁ X0 hx hby hml hown hnm hret hlk hZ e0
  replace hown : s.vm.findClass "java/lang/StringUTF16" = some m.cls := hown
  replace hml : c.maxLocals = 7 := hml
  replace hret : meth.sig.returnType = (some .int) := hret
  have N0 := Fr.nil n0
  refine own_ef (L0 := #[.val (.ref ca), .val (.int 0), .val (.ref ba), .val (.int 0), .val (.int 2), .unset, .unset]) (by first | (simp [entryFrame, mkF, argsToLocals, Value.category]; done) | rfl) ?_
  refine own_iconst X0 hx 0 (hb hby d6_0) rfl ?_
  refine own_istore (l' := #[.val (.ref ca), .val (.int 0), .val (.ref ba), .val (.int 0), .val (.int 2), .val (.int 0), .unset]) X0 hx (hb hby d6_1) rfl ?_
  refine own_iload X0 hx (hb hby d6_3) rfl ?_
  refine own_iload X0 hx (hb hby d6_5) rfl ?_
  refine own_icmpNo X0 hx (hb hby d6_7) (tlt (by decide : (0 : Int32) < (2 : Int32))).2.1 ?_
  refine own_aloadN X0 hx (hb hby d6_10) rfl rfl ?_
  refine own_iloadN X0 hx (hb hby d6_11) rfl ?_
  refine own_caload X0 hx hZ (.int c0) e0 Vc ⟨by decide, by decide⟩ rfl (hb hby d6_12) ?_
  refine own_istore (l' := #[.val (.ref ca), .val (.int 0), .val (.ref ba), .val (.int 0), .val (.int 2), .val (.int 0), .val (.int c0)]) X0 hx (hb hby d6_13) rfl ?_
  refine own_iload X0 hx (hb hby d6_15) rfl ?_
  refine own_sipush X0 hx 255 (hb hby d6_17) rfl ?_
  refine own_icmpYes X0 hx 26 (hb hby d6_20) (flt hx0).2.2.2 (by decide) (by decide) ?_
  refine own_aloadN X0 hx (hb hby d6_26) rfl rfl ?_
  refine own_iloadN X0 hx (hb hby d6_27) rfl ?_
  refine own_iload X0 hx (hb hby d6_28) rfl ?_
  refine own_i2b X0 hx (hb hby d6_30) ?_
  refine own_stB (vs' := [(.int (c0.toInt8.toInt32)), (.int 0)]) (w := (.int (c0.toInt8.toInt32))) X0 hx hZ e0 Vb ⟨by decide, by decide⟩ 0 rfl (Nat.le_of_ble_eq_true rfl) (congrArg Value.int (own_b8 _)) rfl (hb hby d6_31) fun T101 h101 X101 e101 W101 V101 => ?_
  have N101 := Fr.snoc X101 N0 g_ba
  refine own_iinc (l' := #[.val (.ref ca), .val (.int ((0 : Int32) + (1 : Int32))), .val (.ref ba), .val (.int 0), .val (.int 2), .val (.int 0), .val (.int c0)]) X101 hx (hb hby d6_32) rfl rfl ?_
  rw [show ((0 : Int32) + (1 : Int32)) = (1 : Int32) from by decide]
  refine own_iinc (l' := #[.val (.ref ca), .val (.int 1), .val (.ref ba), .val (.int ((0 : Int32) + (1 : Int32))), .val (.int 2), .val (.int 0), .val (.int c0)]) X101 hx (hb hby d6_35) rfl rfl ?_
  rw [show ((0 : Int32) + (1 : Int32)) = (1 : Int32) from by decide]
  refine own_iinc (l' := #[.val (.ref ca), .val (.int 1), .val (.ref ba), .val (.int 1), .val (.int 2), .val (.int ((0 : Int32) + (1 : Int32))), .val (.int c0)]) X101 hx (hb hby d6_38) rfl rfl ?_
  rw [show ((0 : Int32) + (1 : Int32)) = (1 : Int32) from by decide]
  refine own_goto X101 hx 3 (hb hby d6_41) (by decide) (by decide) ?_
  refine own_iload X101 hx (hb hby d6_3) rfl ?_
  refine own_iload X101 hx (hb hby d6_5) rfl ?_
  refine own_icmpNo X101 hx (hb hby d6_7) (tlt (by decide : (1 : Int32) < (2 : Int32))).2.1 ?_
  refine own_aloadN X101 hx (hb hby d6_10) rfl rfl ?_
  refine own_iloadN X101 hx (hb hby d6_11) rfl ?_
  refine own_caload X101 hx hZ (.int c1) e101 (Arv.other Vc W101 hne) ⟨by decide, by decide⟩ rfl (hb hby d6_12) ?_
  refine own_istore (l' := #[.val (.ref ca), .val (.int 1), .val (.ref ba), .val (.int 1), .val (.int 2), .val (.int 1), .val (.int c1)]) X101 hx (hb hby d6_13) rfl ?_
  refine own_iload X101 hx (hb hby d6_15) rfl ?_
  refine own_sipush X101 hx 255 (hb hby d6_17) rfl ?_
  refine own_icmpNo X101 hx (hb hby d6_20) (tlt hx1).2.2.2 ?_
  refine own_iload X101 hx (hb hby d6_23) rfl ?_
  refine own_retI X101 hx hlk hret (hb hby d6_25) (own_kN (by decide) (by decide) ?_)
  try rw [e101]
  exact ⟨rfl, N101, (Keep.wr (Keep.refl h0 [ba]) W101 (Or.inl (List.mem_of_getElem? (i := 0) rfl)))⟩
set_option maxRecDepth 65536 in
set_option maxHeartbeats 40000000 in
theorem rmCu1_2_1 (l : Launch) (Z : State) (a0 : Array Value) (hw : own_Wd a0 Z) (ws : List Jvm.Cond) (ca : Addr) (kc : ClassId) (c0 c1 : Int32)  (h0 : Heap) (n0 : Nat) (Z0 : n0 ≤ h0.size) (Sad : Sta Z h0 "java/lang/StringUTF16" "$assertionsDisabled" "Z" (.int 1)) (Shi : Sta Z h0 "java/lang/StringUTF16" "HI_BYTE_SHIFT" "I" (.int 0)) (Slo : Sta Z h0 "java/lang/StringUTF16" "LO_BYTE_SHIFT" "I" (.int 8)) (Vc : Arv Z h0 ca kc .char (2 : Int32) [(.int c0), (.int c1)] (.int 0)) (hx0 : ¬ ((255 : Int32) < c0)) (hx1 : (255 : Int32) < c1) (lo1 : ¬ c1 < (0 : Int32)) (hi1 : ¬ (65535 : Int32) < c1) :
    own_Met l (⟨"java/lang/StringUTF16", "compress", "([CII)[B"⟩ : MethodName) jdk_52_method_16_code 6 (some (.array .byte)) ws ({ frames := 3, cells := 2, slots := 6, locals := 40 } : Room) Z #[(.ref ca), (.int 0), (.int 2)] h0 (fun v h L => ∃ b k, v = some (.ref b) ∧ Fr n0 L ∧ Keep h0 h [] ∧ h0.size ≤ b ∧ n0 ≤ b ∧ Exa Z h b "[B" ∧ Arv Z h b k .byte (4 : Int32) [(.int (own_lo c0)), (.int (own_hi c0)), (.int (own_lo c1)), (.int (own_hi c1))] (.int 0)) := by
  refine own_body (plainFor_of_name pn_0) ?_
  intro p e s m below meth c s₁ X0 hx hby hml hown hnm hret hlk hZ e0
  replace hown : s.vm.findClass "java/lang/StringUTF16" = some m.cls := hown
  replace hml : c.maxLocals = 6 := hml
  replace hret : meth.sig.returnType = (some (.array .byte)) := hret
  have N0 := Fr.nil n0
  refine own_ef (L0 := #[.val (.ref ca), .val (.int 0), .val (.int 2), .unset, .unset, .unset]) (by first | (simp [entryFrame, mkF, argsToLocals, Value.category]; done) | rfl) ?_
  refine own_iloadN X0 hx (hb hby d5_0) rfl ?_
  refine own_newP (n := (2 : Int32)) (cap := 2) (ad := "[B") X0 hx hZ (own_m hw 24 rfl) e0 (hb hby d5_1) (by decide) (by decide) (by decide) (by decide) (by decide) (by decide) fun T102 h102 k102 b102 g102 X102 e102 E102 A102 Ex102 => ?_
  have g_b102 : n0 ≤ b102 := Nat.le_trans Z0 (Nat.le_of_eq g102.symm)
  have szo_b102 : h0.size ≤ b102 := Nat.le_trans (Nat.le_refl h0.size) (Nat.le_of_eq g102.symm)
  have V102 : Arv Z h102 b102 k102 .byte (2 : Int32) [(.int 0), (.int 0)] (.int 0) := (Arv.new A102 (by decide)).pad (pad_rep [] (.int 0) 2)
  refine own_astoreN (l' := #[.val (.ref ca), .val (.int 0), .val (.int 2), .val (.ref b102), .unset, .unset]) X102 hx (hb hby d5_3) rfl rfl ?_
  refine own_aloadN X102 hx (hb hby d5_4) rfl rfl ?_
  refine own_iloadN X102 hx (hb hby d5_5) rfl ?_
  refine own_aloadN X102 hx (hb hby d5_6) rfl rfl ?_
  refine own_iconst X102 hx 0 (hb hby d5_7) rfl ?_
  refine own_iloadN X102 hx (hb hby d5_8) rfl ?_
  refine own_cStat (W := 0) (rest := []) X102 hx hZ [(.ref ca), (.int 0), (.ref b102), (.int 0), (.int 2)] hown (own_m hw 25 rfl) (own_m hw 26 rfl) (by decide) (own_m hw 27 rfl) (own_m hw 22 rfl) e102 (rmCu2_2_1 l Z a0 hw [] ca b102 kc k102 c0 c1 h102 n0 (Nat.le_trans Z0 E102.1) (Vc.ext E102) V102 g_b102 (Nat.ne_of_lt (Nat.lt_of_lt_of_le Vc.lt (Nat.le_of_eq g102.symm))) hx0 hx1) (by rw [hml]; rfl) (lenOf pd_0 rfl) rfl (Nat.le_of_eq rfl) (hb hby d5_9) (by decide) (by decide) (by decide) (by decide) fun v103 T103 L103 X103 hQ103 => ?_
  obtain ⟨rfl, N103q, K103⟩ := hQ103
  have N103 := Fr.app N0 N103q
  show own_At p e below _ T103 m 12 _ [(.int 1)]
  refine own_istore (l' := #[.val (.ref ca), .val (.int 0), .val (.int 2), .val (.ref b102), .val (.int 1), .unset]) X103 hx (hb hby d5_12) rfl ?_
  refine own_iload X103 hx (hb hby d5_14) rfl ?_
  refine own_iloadN X103 hx (hb hby d5_16) rfl ?_
  refine own_icmpNo X103 hx (hb hby d5_17) (feq (by decide : ¬ ((1 : Int32) = (2 : Int32)))).1 ?_
  refine own_aloadN X103 hx (hb hby d5_20) rfl rfl ?_
  refine own_iloadN X103 hx (hb hby d5_21) rfl ?_
  refine own_iloadN X103 hx (hb hby d5_22) rfl ?_
  refine own_cStat (W := 0) (rest := []) X103 hx hZ [(.ref ca), (.int 0), (.int 2)] hown (own_m hw 103 rfl) (own_m hw 104 rfl) (by decide) (own_m hw 105 rfl) (own_m hw 22 rfl) rfl (rmTB_2 l Z a0 hw [] ca kc c0 c1 T103.heap n0 (Nat.le_trans (Nat.le_trans Z0 E102.1) K103.1) (own_staKeep (Sta.ext E102 Sad) K103 (allS (own_exaStat Ex102) all0)) (own_staKeep (Sta.ext E102 Shi) K103 (allS (own_exaStat Ex102) all0)) (own_staKeep (Sta.ext E102 Slo) K103 (allS (own_exaStat Ex102) all0)) (Arv.keep (Vc.ext E102) K103 (ninS (Nat.ne_of_lt (Nat.lt_of_lt_of_le Vc.lt (Nat.le_of_eq g102.symm))) nin0))) (by rw [hml]; rfl) (lenOf pd_1 rfl) rfl (Nat.le_of_eq rfl) (hb hby d5_23) (by decide) (by decide) (by decide) (by decide) fun v104 T104 L104 X104 hQ104 => ?_
  obtain ⟨b104, kb104, rfl, N104q, K104, szb104, gb104, Eb104, Vb104⟩ := hQ104
  have N104 := Fr.app N103 N104q
  have g_b104 := gb104
  have szo_b104 : h0.size ≤ b104 := Nat.le_trans (Nat.le_trans (Nat.le_trans (Nat.le_refl h0.size) E102.1) K103.1) szb104
  show own_At p e below _ T104 m 26 _ [(.ref b104)]
  refine own_astore (l' := #[.val (.ref ca), .val (.int 0), .val (.int 2), .val (.ref b102), .val (.int 1), .val (.ref b104)]) X104 hx (hb hby d5_26) rfl rfl ?_
  refine own_aload X104 hx (hb hby d5_28) rfl rfl ?_
  refine own_iload X104 hx (hb hby d5_30) rfl ?_
  refine own_cStat (W := 0) (rest := []) X104 hx hZ [(.ref b104), (.int 1)] hown (own_m hw 119 rfl) (own_m hw 120 rfl) (by decide) (own_m hw 121 rfl) (own_m hw 22 rfl) rfl (rmGet_2_1 l Z a0 hw [] b104 kb104 (own_lo c0) (own_hi c0) (own_lo c1) (own_hi c1) T104.heap n0 (Nat.le_trans (Nat.le_trans (Nat.le_trans Z0 E102.1) K103.1) K104.1) (own_staKeep (own_staKeep (Sta.ext E102 Sad) K103 (allS (own_exaStat Ex102) all0)) K104 all0) (own_staKeep (own_staKeep (Sta.ext E102 Shi) K103 (allS (own_exaStat Ex102) all0)) K104 all0) (own_staKeep (own_staKeep (Sta.ext E102 Slo) K103 (allS (own_exaStat Ex102) all0)) K104 all0) Vb104) (by rw [hml]; rfl) (lenOf pd_7 rfl) rfl (Nat.le_of_eq rfl) (hb hby d5_32) (by decide) (by decide) (by decide) (by decide) fun v105 T105 L105 X105 hQ105 => ?_
  obtain ⟨rfl, N105q, e105⟩ := hQ105
  have N105 := Fr.app N104 N105q
  show own_At p e below _ T105 m 35 _ [(.int (own_gc (own_lo c1) (own_hi c1)))]
  rw [own_gcc lo1 hi1]
  refine own_sipush X105 hx 255 (hb hby d5_35) rfl ?_
  refine own_icmpYes X105 hx 54 (hb hby d5_38) (tlt hx1).2.2.1 (by decide) (by decide) ?_
  refine own_aload X105 hx (hb hby d5_54) rfl rfl ?_
  refine own_retA X105 hx hlk hret rfl rfl rfl (hb hby d5_56) (own_kN (by decide) (by decide) ?_)
  try rw [e105]
  exact ⟨b104, kb104, rfl, N105, (Keep.trans (Keep.trans (Keep.ext (Keep.refl h0 []) E102) K103 (allS (Or.inr szo_b102) all0)) K104 all0), szo_b104, g_b104, Eb104, Vb104⟩
set_option maxRecDepth 65536 in
set_option maxHeartbeats 40000000 in
theorem rmIu2_2_1 (l : Launch) (Z : State) (a0 : Array Value) (hw : own_Wd a0 Z) (ws : List Jvm.Cond) (a ca : Addr) (kc : ClassId) (cs c0 c1 : Int32)  (h0 : Heap) (n0 : Nat) (Z0 : n0 ≤ h0.size) (Ea : Exa Z h0 a "java/lang/String") (Fv : Fld Z h0 a "java/lang/String" "value" "[B" .null) (Fc : Fld Z h0 a "java/lang/String" "coder" "B" (.int 0)) (g_a : n0 ≤ a) (Sc : Sta Z h0 "java/lang/String" "COMPACT_STRINGS" "Z" (.int cs)) (hcs : ¬ (cs = (0 : Int32))) (Sad : Sta Z h0 "java/lang/StringUTF16" "$assertionsDisabled" "Z" (.int 1)) (Shi : Sta Z h0 "java/lang/StringUTF16" "HI_BYTE_SHIFT" "I" (.int 0)) (Slo : Sta Z h0 "java/lang/StringUTF16" "LO_BYTE_SHIFT" "I" (.int 8)) (Vc : Arv Z h0 ca kc .char (2 : Int32) [(.int c0), (.int c1)] (.int 0)) (Ecs : Exa Z h0 ca "[C") (hx0 : ¬ ((255 : Int32) < c0)) (hx1 : (255 : Int32) < c1) (lo1 : ¬ c1 < (0 : Int32)) (hi1 : ¬ (65535 : Int32) < c1) :
    own_Met l (⟨"java/lang/String", "<init>", "([CIILjava/lang/Void;)V"⟩ : MethodName) jdk_42_method_149_code 6 none ws ({ frames := 4, cells := 2, slots := 6, locals := 57 } : Room) Z #[(.ref a), (.ref ca), (.int 0), (.int 2), .null] h0 (fun v h L => v = none ∧ Fr n0 L ∧ Keep h0 h [a] ∧ ∃ b k, h0.size ≤ b ∧ Exa Z h b "[B" ∧ Exa Z h a "java/lang/String" ∧ Fld Z h a "java/lang/String" "value" "[B" (.ref b) ∧ Fld Z h a "java/lang/String" "coder" "B" (.int 1) ∧ Arv Z h b k .byte (4 : Int32) [(.int (own_lo c0)), (.int (own_hi c0)), (.int (own_lo c1)), (.int (own_hi c1))] (.int 0)) := by
  refine own_body (plainFor_of_name pn_1) ?_
  intro p e s m below meth c s₁ X0 hx hby hml hown hnm hret hlk hZ e0
  replace hown : s.vm.findClass "java/lang/String" = some m.cls := hown
  replace hml : c.maxLocals = 6 := hml
  replace hret : meth.sig.returnType = none := hret
  have N0 := Fr.nil n0
  refine own_ef (L0 := #[.val (.ref a), .val (.ref ca), .val (.int 0), .val (.int 2), .val .null, .unset]) (by first | (simp [entryFrame, mkF, argsToLocals, Value.category]; done) | rfl) ?_
  refine own_aloadN X0 hx (hb hby d3_0) rfl rfl ?_
  refine own_initO (W := 0) X0 hx hZ hown (own_m hw 16 rfl) (own_m hw 17 rfl) (own_m hw 18 rfl) e0 (by rw [hml]; rfl) (hb hby d3_1) (by decide) (Nat.le_of_eq rfl) (by decide) fun T106 X106 e106 => ?_
  refine own_iloadN X106 hx (hb hby d3_4) rfl ?_
  refine own_ifYes X106 hx 27 (hb hby d3_5) (feq (by decide : ¬ ((2 : Int32) = (0 : Int32)))).2 (by decide) (by decide) ?_
  refine own_getS X106 hx hZ hown (host := "") (Or.inl (own_m hw 19 rfl)) Via.refl e106 Sc (hb hby d3_27) fun T107 X107 e107 => ?_
  refine own_ifNo X107 hx (hb hby d3_30) (feq hcs).1 ?_
  refine own_aloadN X107 hx (hb hby d3_33) rfl rfl ?_
  refine own_iloadN X107 hx (hb hby d3_34) rfl ?_
  refine own_iloadN X107 hx (hb hby d3_35) rfl ?_
  refine own_cStat (W := 0) (rest := []) X107 hx hZ [(.ref ca), (.int 0), (.int 2)] hown (own_m hw 20 rfl) (own_m hw 21 rfl) (by decide) (own_m hw 23 rfl) (own_m hw 22 rfl) e107 (rmCu1_2_1 l Z a0 hw [] ca kc c0 c1 h0 n0 Z0 Sad Shi Slo Vc hx0 hx1 lo1 hi1) (by rw [hml]; rfl) (lenOf pd_1 rfl) rfl (Nat.le_of_eq rfl) (hb hby d3_36) (by decide) (by decide) (by decide) (by decide) fun v108 T108 L108 X108 hQ108 => ?_
  obtain ⟨b108, kb108, rfl, N108q, K108, szb108, gb108, Eb108, Vb108⟩ := hQ108
  have N108 := Fr.app N0 N108q
  have g_b108 := gb108
  have szo_b108 : h0.size ≤ b108 := Nat.le_trans (Nat.le_refl h0.size) szb108
  show own_At p e below _ T108 m 39 _ [(.ref b108)]
  refine own_astore (l' := #[.val (.ref a), .val (.ref ca), .val (.int 0), .val (.int 2), .val .null, .val (.ref b108)]) X108 hx (hb hby d3_39) rfl rfl ?_
  refine own_aloadN X108 hx (hb hby d3_41) rfl rfl ?_
  refine own_aload X108 hx (hb hby d3_42) rfl rfl ?_
  refine own_iloadN X108 hx (hb hby d3_44) rfl ?_
  refine own_cStat (W := 1) (rest := [(.ref a)]) X108 hx hZ [(.ref b108), (.int 2)] hown (own_m hw 28 rfl) (own_m hw 29 rfl) (by decide) (own_m hw 30 rfl) (own_m hw 22 rfl) rfl (rmCFu_2 l Z a0 hw [] b108 T108.heap n0 (Nat.le_trans Z0 K108.1) (own_alnV Vb108)) (by rw [hml]; rfl) (lenOf pd_2 rfl) rfl (Nat.le_of_eq rfl) (hb hby d3_45) (by decide) (by decide) (by decide) (by decide) fun v109 T109 L109 X109 hQ109 => ?_
  obtain ⟨rfl, N109q, e109⟩ := hQ109
  have N109 := Fr.app N108 N109q
  show own_At p e below _ T109 m 48 _ [(.int 1), (.ref a)]
  obtain ⟨T110, h110, X110, e110, W110, st110⟩ := putFN X109 hx hZ hown (own_m hw 31 rfl) Via.refl e109 (Fld.keep Fc K108 nin0) (Exa.keep Ea K108) (Or.inr ⟨(own_m hw 32 rfl), rfl, hnm⟩) (own_m hw 6 rfl) (ty := .byte) (v' := (.int 1)) (by decide) rfl rfl (g := (mkF m 48 #[.val (.ref a), .val (.ref ca), .val (.int 0), .val (.int 2), .val .null, .val (.ref b108)] [(.int 1), (.ref a)])) rfl rfl (hb hby d3_48)
  refine own_step (S' := (T110.setTop (mkF m 51 #[.val (.ref a), .val (.ref ca), .val (.int 0), .val (.int 2), .val .null, .val (.ref b108)] []))) (fun _ k => st110 _ k) ?_
  have Fw110 := Fld.same W110 (Fld.keep Fc K108 nin0)
  have N110 := Fr.snoc X110 N109 g_a
  refine own_aloadN X110 hx (hb hby d3_51) rfl rfl ?_
  refine own_aload X110 hx (hb hby d3_52) rfl rfl ?_
  refine own_putF X110 hx hZ hown (host := "") (Or.inl (own_m hw 33 rfl)) Via.refl e110 (Fld.other W110 (Fld.keep Fv K108 nin0) (Or.inr (slot_ne (Or.inr (own_m hw 34 rfl)) (Or.inr (own_m hw 32 rfl)) (by decide) (t := (.array .byte)) (t' := .byte) (by decide) (by decide)))) (Exa.wr W110 (Exa.keep Ea K108)) (Or.inr ⟨(own_m hw 34 rfl), rfl, hnm⟩) (own_m hw 6 rfl) (ty := (.array .byte)) (by decide) rfl rfl (hb hby d3_54) fun T111 h111 X111 e111 W111 => ?_
  have Fw111 := Fld.same W111 (Fld.other W110 (Fld.keep Fv K108 nin0) (Or.inr (slot_ne (Or.inr (own_m hw 34 rfl)) (Or.inr (own_m hw 32 rfl)) (by decide) (t := (.array .byte)) (t' := .byte) (by decide) (by decide))))
  have N111 := Fr.snoc X111 N110 g_a
  refine own_retV X111 hx hlk hret (hb hby d3_57) (own_kN (by decide) (by decide) ?_)
  try rw [e111]
  exact ⟨rfl, N111, (Keep.wr (Keep.wr (Keep.trans (Keep.refl h0 [a]) K108 all0) W110 (Or.inl (List.mem_of_getElem? (i := 0) rfl))) W111 (Or.inl (List.mem_of_getElem? (i := 0) rfl))), b108, kb108, szo_b108, (Exa.wr W111 (Exa.wr W110 Eb108)), (Exa.wr W111 (Exa.wr W110 (Exa.keep Ea K108))), Fw111, (Fld.other W111 Fw110 (Or.inr (slot_ne (Or.inr (own_m hw 32 rfl)) (Or.inr (own_m hw 34 rfl)) (by decide) (t := .byte) (t' := (.array .byte)) (by decide) (by decide)))), (Arv.other (Arv.other Vb108 W110 (Ne.symm (Nat.ne_of_lt (Nat.lt_of_lt_of_le Ea.lt szb108)))) W111 (Ne.symm (Nat.ne_of_lt (Nat.lt_of_lt_of_le Ea.lt szb108))))⟩
set_option maxRecDepth 65536 in
set_option maxHeartbeats 40000000 in
theorem rmIu1_2_1 (l : Launch) (Z : State) (a0 : Array Value) (hw : own_Wd a0 Z) (ws : List Jvm.Cond) (a ca : Addr) (kc : ClassId) (cs c0 c1 : Int32)  (h0 : Heap) (n0 : Nat) (Z0 : n0 ≤ h0.size) (Ea : Exa Z h0 a "java/lang/String") (Fv : Fld Z h0 a "java/lang/String" "value" "[B" .null) (Fc : Fld Z h0 a "java/lang/String" "coder" "B" (.int 0)) (g_a : n0 ≤ a) (Sc : Sta Z h0 "java/lang/String" "COMPACT_STRINGS" "Z" (.int cs)) (hcs : ¬ (cs = (0 : Int32))) (Sad : Sta Z h0 "java/lang/StringUTF16" "$assertionsDisabled" "Z" (.int 1)) (Shi : Sta Z h0 "java/lang/StringUTF16" "HI_BYTE_SHIFT" "I" (.int 0)) (Slo : Sta Z h0 "java/lang/StringUTF16" "LO_BYTE_SHIFT" "I" (.int 8)) (Vc : Arv Z h0 ca kc .char (2 : Int32) [(.int c0), (.int c1)] (.int 0)) (Ecs : Exa Z h0 ca "[C") (hx0 : ¬ ((255 : Int32) < c0)) (hx1 : (255 : Int32) < c1) (lo1 : ¬ c1 < (0 : Int32)) (hi1 : ¬ (65535 : Int32) < c1) :
    own_Met l (⟨"java/lang/String", "<init>", "([C)V"⟩ : MethodName) jdk_42_method_3_code 2 none ws ({ frames := 5, cells := 2, slots := 6, locals := 74 } : Room) Z #[(.ref a), (.ref ca)] h0 (fun v h L => v = none ∧ Fr n0 L ∧ Keep h0 h [a] ∧ ∃ b k, h0.size ≤ b ∧ Exa Z h b "[B" ∧ Exa Z h a "java/lang/String" ∧ Fld Z h a "java/lang/String" "value" "[B" (.ref b) ∧ Fld Z h a "java/lang/String" "coder" "B" (.int 1) ∧ Arv Z h b k .byte (4 : Int32) [(.int (own_lo c0)), (.int (own_hi c0)), (.int (own_lo c1)), (.int (own_hi c1))] (.int 0)) := by
  refine own_body (plainFor_of_name pn_1) ?_
  intro p e s m below meth c s₁ X0 hx hby hml hown hnm hret hlk hZ e0
  replace hown : s.vm.findClass "java/lang/String" = some m.cls := hown
  replace hml : c.maxLocals = 2 := hml
  replace hret : meth.sig.returnType = none := hret
  have N0 := Fr.nil n0
  refine own_ef (L0 := #[.val (.ref a), .val (.ref ca)]) (by first | (simp [entryFrame, mkF, argsToLocals, Value.category]; done) | rfl) ?_
  refine own_aloadN X0 hx (hb hby d2_0) rfl rfl ?_
  refine own_aloadN X0 hx (hb hby d2_1) rfl rfl ?_
  refine own_iconst X0 hx 0 (hb hby d2_2) rfl ?_
  refine own_aloadN X0 hx (hb hby d2_3) rfl rfl ?_
  refine own_arraylength X0 hx hZ e0 (own_alnV Vc) (hb hby d2_4) ?_
  refine own_aconstNull X0 hx (hb hby d2_5) ?_
  refine own_cSpec (b := a) (W := 0) (rest := []) X0 hx hZ [(.ref ca), (.int 0), (.int 2), .null] rfl hown (own_m hw 12 rfl) (own_m hw 13 rfl) (by decide) (own_m hw 15 rfl) (own_m hw 7 rfl) e0 (rmIu2_2_1 l Z a0 hw [] a ca kc cs c0 c1 h0 n0 Z0 Ea Fv Fc g_a Sc hcs Sad Shi Slo Vc Ecs hx0 hx1 lo1 hi1) (by rw [hml]; rfl) (lenOf pd_3 rfl) rfl (Nat.le_of_eq rfl) (hb hby d2_6) (by decide) (by decide) (by decide) (by decide) fun v112 T112 L112 X112 hQ112 => ?_
  obtain ⟨rfl, N112q, K112, R112⟩ := hQ112
  have N112 := Fr.app N0 N112q
  show own_At p e below _ T112 m 9 _ []
  refine own_retV X112 hx hlk hret (hb hby d2_9) (own_kN (by decide) (by decide) ?_)
  exact ⟨rfl, N112, K112, R112⟩
set_option maxRecDepth 65536 in
set_option maxHeartbeats 40000000 in
theorem rmNL_3 (l : Launch) (Z : State) (a0 : Array Value) (hw : own_Wd a0 Z) (ws : List Jvm.Cond)   (h0 : Heap) (n0 : Nat) (Z0 : n0 ≤ h0.size) :
    own_Met l (⟨"java/lang/StringUTF16", "newBytesLength", "(I)I"⟩ : MethodName) jdk_52_method_3_code 1 (some .int) ws ({ frames := 0, cells := 0, slots := 0, locals := 0 } : Room) Z #[(.int 3)] h0 (fun v h L => v = some (.int 6) ∧ Fr n0 L ∧ h = h0) := by
  refine own_body (plainFor_of_name pn_0) ?_
  intro p e s m below meth c s₁ X0 hx hby hml hown hnm hret hlk hZ e0
  replace hown : s.vm.findClass "java/lang/StringUTF16" = some m.cls := hown
  replace hml : c.maxLocals = 1 := hml
  replace hret : meth.sig.returnType = (some .int) := hret
  have N0 := Fr.nil n0
  refine own_ef (L0 := #[.val (.int 3)]) (by first | (simp [entryFrame, mkF, argsToLocals, Value.category]; done) | rfl) ?_
  refine own_iloadN X0 hx (hb hby d21_0) rfl ?_
  refine own_ifYes X0 hx 12 (hb hby d21_1) (flt (by decide : ¬ ((3 : Int32) < (0 : Int32)))).2.1 (by decide) (by decide) ?_
  refine own_iloadN X0 hx (hb hby d21_12) rfl ?_
  refine own_ldcI X0 hx hZ hown (own_m hw 112 rfl) (hb hby d21_13) ?_
  refine own_icmpYes X0 hx 55 (hb hby d21_15) (tlt (by decide : (3 : Int32) < (1073741823 : Int32))).1 (by decide) (by decide) ?_
  refine own_iloadN X0 hx (hb hby d21_55) rfl ?_
  refine own_iconst X0 hx 1 (hb hby d21_56) rfl ?_
  refine own_ishl X0 hx (hb hby d21_57) ?_
  rw [show ((3 : Int32) <<< ((1 : Int32) &&& 31)) = (6 : Int32) from by decide]
  refine own_retI X0 hx hlk hret (hb hby d21_58) (own_kN (by decide) (by decide) ?_)
  try rw [e0]
  exact ⟨rfl, N0, rfl⟩
set_option maxRecDepth 65536 in
set_option maxHeartbeats 40000000 in
theorem rmNB_3 (l : Launch) (Z : State) (a0 : Array Value) (hw : own_Wd a0 Z) (ws : List Jvm.Cond)   (h0 : Heap) (n0 : Nat) (Z0 : n0 ≤ h0.size) :
    own_Met l (⟨"java/lang/StringUTF16", "newBytesFor", "(I)[B"⟩ : MethodName) jdk_52_method_2_code 1 (some (.array .byte)) ws ({ frames := 1, cells := 1, slots := 6, locals := 12 } : Room) Z #[(.int 3)] h0 (fun v h L => ∃ b k, v = some (.ref b) ∧ Fr n0 L ∧ Keep h0 h [] ∧ h0.size ≤ b ∧ n0 ≤ b ∧ Exa Z h b "[B" ∧ Arv Z h b k .byte (6 : Int32) [(.int 0), (.int 0), (.int 0), (.int 0), (.int 0), (.int 0)] (.int 0)) := by
  refine own_body (plainFor_of_name pn_0) ?_
  intro p e s m below meth c s₁ X0 hx hby hml hown hnm hret hlk hZ e0
  replace hown : s.vm.findClass "java/lang/StringUTF16" = some m.cls := hown
  replace hml : c.maxLocals = 1 := hml
  replace hret : meth.sig.returnType = (some (.array .byte)) := hret
  have N0 := Fr.nil n0
  refine own_ef (L0 := #[.val (.int 3)]) (by first | (simp [entryFrame, mkF, argsToLocals, Value.category]; done) | rfl) ?_
  refine own_iloadN X0 hx (hb hby d20_0) rfl ?_
  refine own_cStat (W := 0) (rest := []) X0 hx hZ [(.int 3)] hown (own_m hw 109 rfl) (own_m hw 110 rfl) (by decide) (own_m hw 111 rfl) (own_m hw 22 rfl) e0 (rmNL_3 l Z a0 hw [] h0 n0 Z0) (by rw [hml]; rfl) (lenOf pd_4 rfl) rfl (Nat.le_of_eq rfl) (hb hby d20_1) (by decide) (by decide) (by decide) (by decide) fun v113 T113 L113 X113 hQ113 => ?_
  obtain ⟨rfl, N113q, e113⟩ := hQ113
  have N113 := Fr.app N0 N113q
  show own_At p e below _ T113 m 4 _ [(.int 6)]
  refine own_newP (n := (6 : Int32)) (cap := 6) (ad := "[B") X113 hx hZ (own_m hw 24 rfl) e113 (hb hby d20_4) (by decide) (by decide) (by decide) (by decide) (by decide) (by decide) fun T114 h114 k114 b114 g114 X114 e114 E114 A114 Ex114 => ?_
  have g_b114 : n0 ≤ b114 := Nat.le_trans Z0 (Nat.le_of_eq g114.symm)
  have szo_b114 : h0.size ≤ b114 := Nat.le_trans (Nat.le_refl h0.size) (Nat.le_of_eq g114.symm)
  have V114 : Arv Z h114 b114 k114 .byte (6 : Int32) [(.int 0), (.int 0), (.int 0), (.int 0), (.int 0), (.int 0)] (.int 0) := (Arv.new A114 (by decide)).pad (pad_rep [] (.int 0) 6)
  refine own_retA X114 hx hlk hret rfl rfl rfl (hb hby d20_6) (own_kN (by decide) (by decide) ?_)
  try rw [e114]
  exact ⟨b114, k114, rfl, N113, (Keep.ext (Keep.refl h0 []) E114), szo_b114, g_b114, Ex114, V114⟩
set_option maxRecDepth 65536 in
set_option maxHeartbeats 40000000 in
theorem rmPut_3_0 (l : Launch) (Z : State) (a0 : Array Value) (hw : own_Wd a0 Z) (ws : List Jvm.Cond) (b : Addr) (kb : ClassId) (x y0 y1 y2 y3 y4 y5 : Int32)  (h0 : Heap) (n0 : Nat) (Z0 : n0 ≤ h0.size) (Sad : Sta Z h0 "java/lang/StringUTF16" "$assertionsDisabled" "Z" (.int 1)) (Shi : Sta Z h0 "java/lang/StringUTF16" "HI_BYTE_SHIFT" "I" (.int 0)) (Slo : Sta Z h0 "java/lang/StringUTF16" "LO_BYTE_SHIFT" "I" (.int 8)) (Vb : Arv Z h0 b kb .byte (6 : Int32) [(.int y0), (.int y1), (.int y2), (.int y3), (.int y4), (.int y5)] (.int 0)) (g_b : n0 ≤ b) (Eb : Exa Z h0 b "[B") :
    own_Met l (⟨"java/lang/StringUTF16", "putChar", "([BII)V"⟩ : MethodName) jdk_52_method_4_code 3 none ws ({ frames := 0, cells := 0, slots := 0, locals := 0 } : Room) Z #[(.ref b), (.int 0), (.int x)] h0 (fun v h L => v = none ∧ Fr n0 L ∧ Keep h0 h [b] ∧ Arv Z h b kb .byte (6 : Int32) [(.int (own_lo x)), (.int (own_hi x)), (.int y2), (.int y3), (.int y4), (.int y5)] (.int 0)) := by
  refine own_body (plainFor_of_name pn_0) ?_
  intro p e s m below meth c s₁ X0 hx hby hml hown hnm hret hlk hZ e0
  replace hown : s.vm.findClass "java/lang/StringUTF16" = some m.cls := hown
  replace hml : c.maxLocals = 3 := hml
  replace hret : meth.sig.returnType = none := hret
  have N0 := Fr.nil n0
  refine own_ef (L0 := #[.val (.ref b), .val (.int 0), .val (.int x)]) (by first | (simp [entryFrame, mkF, argsToLocals, Value.category]; done) | rfl) ?_
  refine own_getS X0 hx hZ hown (host := "") (Or.inl (own_m hw 116 rfl)) Via.refl e0 Sad (hb hby d22_0) fun T115 X115 e115 => ?_
  refine own_ifYes X115 hx 28 (hb hby d22_3) (feq (by decide : ¬ ((1 : Int32) = (0 : Int32)))).2 (by decide) (by decide) ?_
  refine own_iloadN X115 hx (hb hby d22_28) rfl ?_
  refine own_iconst X115 hx 1 (hb hby d22_29) rfl ?_
  refine own_ishl X115 hx (hb hby d22_30) ?_
  rw [show ((0 : Int32) <<< ((1 : Int32) &&& 31)) = (0 : Int32) from by decide]
  refine own_istoreN (l' := #[.val (.ref b), .val (.int 0), .val (.int x)]) X115 hx (hb hby d22_31) rfl ?_
  refine own_aloadN X115 hx (hb hby d22_32) rfl rfl ?_
  refine own_iloadN X115 hx (hb hby d22_33) rfl ?_
  refine own_iinc (l' := #[.val (.ref b), .val (.int ((0 : Int32) + (1 : Int32))), .val (.int x)]) X115 hx (hb hby d22_34) rfl rfl ?_
  rw [show ((0 : Int32) + (1 : Int32)) = (1 : Int32) from by decide]
  refine own_iloadN X115 hx (hb hby d22_37) rfl ?_
  refine own_getS X115 hx hZ hown (host := "") (Or.inl (own_m hw 117 rfl)) Via.refl e115 Shi (hb hby d22_38) fun T116 X116 e116 => ?_
  refine own_ishr X116 hx (hb hby d22_41) ?_
  refine own_i2b X116 hx (hb hby d22_42) ?_
  refine own_stB (vs' := [(.int ((x >>> ((0 : Int32) &&& 31)).toInt8.toInt32)), (.int y1), (.int y2), (.int y3), (.int y4), (.int y5)]) (w := (.int ((x >>> ((0 : Int32) &&& 31)).toInt8.toInt32))) X116 hx hZ e116 Vb ⟨by decide, by decide⟩ 0 rfl (Nat.le_of_ble_eq_true rfl) (congrArg Value.int (own_b8 _)) rfl (hb hby d22_43) fun T117 h117 X117 e117 W117 V117 => ?_
  have N117 := Fr.snoc X117 N0 g_b
  refine own_aloadN X117 hx (hb hby d22_44) rfl rfl ?_
  refine own_iloadN X117 hx (hb hby d22_45) rfl ?_
  refine own_iloadN X117 hx (hb hby d22_46) rfl ?_
  refine own_getS X117 hx hZ hown (host := "") (Or.inl (own_m hw 118 rfl)) Via.refl e117 (Sta.wr W117 Slo) (hb hby d22_47) fun T118 X118 e118 => ?_
  refine own_ishr X118 hx (hb hby d22_50) ?_
  refine own_i2b X118 hx (hb hby d22_51) ?_
  refine own_stB (vs' := [(.int ((x >>> ((0 : Int32) &&& 31)).toInt8.toInt32)), (.int ((x >>> ((8 : Int32) &&& 31)).toInt8.toInt32)), (.int y2), (.int y3), (.int y4), (.int y5)]) (w := (.int ((x >>> ((8 : Int32) &&& 31)).toInt8.toInt32))) X118 hx hZ e118 V117 ⟨by decide, by decide⟩ 1 rfl (Nat.le_of_ble_eq_true rfl) (congrArg Value.int (own_b8 _)) rfl (hb hby d22_52) fun T119 h119 X119 e119 W119 V119 => ?_
  have N119 := Fr.snoc X119 N117 g_b
  refine own_retV X119 hx hlk hret (hb hby d22_53) (own_kN (by decide) (by decide) ?_)
  try rw [e119]
  exact ⟨rfl, N119, (Keep.wr (Keep.wr (Keep.refl h0 [b]) W117 (Or.inl (List.mem_of_getElem? (i := 0) rfl))) W119 (Or.inl (List.mem_of_getElem? (i := 0) rfl))), V119⟩
set_option maxRecDepth 65536 in
set_option maxHeartbeats 40000000 in
theorem rmGet_3_0 (l : Launch) (Z : State) (a0 : Array Value) (hw : own_Wd a0 Z) (ws : List Jvm.Cond) (b : Addr) (kb : ClassId) (y0 y1 y2 y3 y4 y5 : Int32)  (h0 : Heap) (n0 : Nat) (Z0 : n0 ≤ h0.size) (Sad : Sta Z h0 "java/lang/StringUTF16" "$assertionsDisabled" "Z" (.int 1)) (Shi : Sta Z h0 "java/lang/StringUTF16" "HI_BYTE_SHIFT" "I" (.int 0)) (Slo : Sta Z h0 "java/lang/StringUTF16" "LO_BYTE_SHIFT" "I" (.int 8)) (Vb : Arv Z h0 b kb .byte (6 : Int32) [(.int y0), (.int y1), (.int y2), (.int y3), (.int y4), (.int y5)] (.int 0)) :
    own_Met l (⟨"java/lang/StringUTF16", "getChar", "([BI)C"⟩ : MethodName) jdk_52_method_5_code 2 (some .char) ws ({ frames := 0, cells := 0, slots := 0, locals := 0 } : Room) Z #[(.ref b), (.int 0)] h0 (fun v h L => v = some (.int (own_gc y0 y1)) ∧ Fr n0 L ∧ h = h0) := by
  refine own_body (plainFor_of_name pn_0) ?_
  intro p e s m below meth c s₁ X0 hx hby hml hown hnm hret hlk hZ e0
  replace hown : s.vm.findClass "java/lang/StringUTF16" = some m.cls := hown
  replace hml : c.maxLocals = 2 := hml
  replace hret : meth.sig.returnType = (some .char) := hret
  have N0 := Fr.nil n0
  refine own_ef (L0 := #[.val (.ref b), .val (.int 0)]) (by first | (simp [entryFrame, mkF, argsToLocals, Value.category]; done) | rfl) ?_
  refine own_getS X0 hx hZ hown (host := "") (Or.inl (own_m hw 116 rfl)) Via.refl e0 Sad (hb hby d23_0) fun T120 X120 e120 => ?_
  refine own_ifYes X120 hx 28 (hb hby d23_3) (feq (by decide : ¬ ((1 : Int32) = (0 : Int32)))).2 (by decide) (by decide) ?_
  refine own_iloadN X120 hx (hb hby d23_28) rfl ?_
  refine own_iconst X120 hx 1 (hb hby d23_29) rfl ?_
  refine own_ishl X120 hx (hb hby d23_30) ?_
  rw [show ((0 : Int32) <<< ((1 : Int32) &&& 31)) = (0 : Int32) from by decide]
  refine own_istoreN (l' := #[.val (.ref b), .val (.int 0)]) X120 hx (hb hby d23_31) rfl ?_
  refine own_aloadN X120 hx (hb hby d23_32) rfl rfl ?_
  refine own_iloadN X120 hx (hb hby d23_33) rfl ?_
  refine own_iinc (l' := #[.val (.ref b), .val (.int ((0 : Int32) + (1 : Int32)))]) X120 hx (hb hby d23_34) rfl rfl ?_
  rw [show ((0 : Int32) + (1 : Int32)) = (1 : Int32) from by decide]
  refine own_baload X120 hx hZ (.int y0) e120 Vb ⟨by decide, by decide⟩ rfl (hb hby d23_37) ?_
  refine own_sipush X120 hx 255 (hb hby d23_38) rfl ?_
  refine own_iand X120 hx (hb hby d23_41) ?_
  refine own_getS X120 hx hZ hown (host := "") (Or.inl (own_m hw 117 rfl)) Via.refl e120 Shi (hb hby d23_42) fun T121 X121 e121 => ?_
  refine own_ishl X121 hx (hb hby d23_45) ?_
  refine own_aloadN X121 hx (hb hby d23_46) rfl rfl ?_
  refine own_iloadN X121 hx (hb hby d23_47) rfl ?_
  refine own_baload X121 hx hZ (.int y1) e121 Vb ⟨by decide, by decide⟩ rfl (hb hby d23_48) ?_
  refine own_sipush X121 hx 255 (hb hby d23_49) rfl ?_
  refine own_iand X121 hx (hb hby d23_52) ?_
  refine own_getS X121 hx hZ hown (host := "") (Or.inl (own_m hw 118 rfl)) Via.refl e121 Slo (hb hby d23_53) fun T122 X122 e122 => ?_
  refine own_ishl X122 hx (hb hby d23_56) ?_
  refine own_ior X122 hx (hb hby d23_57) ?_
  refine own_i2c X122 hx (hb hby d23_58) ?_
  refine own_retN X122 hx hlk hret (by simp) (own_narcc _) (hb hby d23_59) (own_kN (by decide) (by decide) ?_)
  try rw [e122]
  exact ⟨rfl, N0, rfl⟩
set_option maxRecDepth 65536 in
set_option maxHeartbeats 40000000 in
theorem rmPut_3_1 (l : Launch) (Z : State) (a0 : Array Value) (hw : own_Wd a0 Z) (ws : List Jvm.Cond) (b : Addr) (kb : ClassId) (x y0 y1 y2 y3 y4 y5 : Int32)  (h0 : Heap) (n0 : Nat) (Z0 : n0 ≤ h0.size) (Sad : Sta Z h0 "java/lang/StringUTF16" "$assertionsDisabled" "Z" (.int 1)) (Shi : Sta Z h0 "java/lang/StringUTF16" "HI_BYTE_SHIFT" "I" (.int 0)) (Slo : Sta Z h0 "java/lang/StringUTF16" "LO_BYTE_SHIFT" "I" (.int 8)) (Vb : Arv Z h0 b kb .byte (6 : Int32) [(.int y0), (.int y1), (.int y2), (.int y3), (.int y4), (.int y5)] (.int 0)) (g_b : n0 ≤ b) (Eb : Exa Z h0 b "[B") :
    own_Met l (⟨"java/lang/StringUTF16", "putChar", "([BII)V"⟩ : MethodName) jdk_52_method_4_code 3 none ws ({ frames := 0, cells := 0, slots := 0, locals := 0 } : Room) Z #[(.ref b), (.int 1), (.int x)] h0 (fun v h L => v = none ∧ Fr n0 L ∧ Keep h0 h [b] ∧ Arv Z h b kb .byte (6 : Int32) [(.int y0), (.int y1), (.int (own_lo x)), (.int (own_hi x)), (.int y4), (.int y5)] (.int 0)) := by
  refine own_body (plainFor_of_name pn_0) ?_
  intro p e s m below meth c s₁ X0 hx hby hml hown hnm hret hlk hZ e0
  replace hown : s.vm.findClass "java/lang/StringUTF16" = some m.cls := hown
  replace hml : c.maxLocals = 3 := hml
  replace hret : meth.sig.returnType = none := hret
  have N0 := Fr.nil n0
  refine own_ef (L0 := #[.val (.ref b), .val (.int 1), .val (.int x)]) (by first | (simp [entryFrame, mkF, argsToLocals, Value.category]; done) | rfl) ?_
  refine own_getS X0 hx hZ hown (host := "") (Or.inl (own_m hw 116 rfl)) Via.refl e0 Sad (hb hby d22_0) fun T123 X123 e123 => ?_
  refine own_ifYes X123 hx 28 (hb hby d22_3) (feq (by decide : ¬ ((1 : Int32) = (0 : Int32)))).2 (by decide) (by decide) ?_
  refine own_iloadN X123 hx (hb hby d22_28) rfl ?_
  refine own_iconst X123 hx 1 (hb hby d22_29) rfl ?_
  refine own_ishl X123 hx (hb hby d22_30) ?_
  rw [show ((1 : Int32) <<< ((1 : Int32) &&& 31)) = (2 : Int32) from by decide]
  refine own_istoreN (l' := #[.val (.ref b), .val (.int 2), .val (.int x)]) X123 hx (hb hby d22_31) rfl ?_
  refine own_aloadN X123 hx (hb hby d22_32) rfl rfl ?_
  refine own_iloadN X123 hx (hb hby d22_33) rfl ?_
  refine own_iinc (l' := #[.val (.ref b), .val (.int ((2 : Int32) + (1 : Int32))), .val (.int x)]) X123 hx (hb hby d22_34) rfl rfl ?_
  rw [show ((2 : Int32) + (1 : Int32)) = (3 : Int32) from by decide]
  refine own_iloadN X123 hx (hb hby d22_37) rfl ?_
  refine own_getS X123 hx hZ hown (host := "") (Or.inl (own_m hw 117 rfl)) Via.refl e123 Shi (hb hby d22_38) fun T124 X124 e124 => ?_
  refine own_ishr X124 hx (hb hby d22_41) ?_
  refine own_i2b X124 hx (hb hby d22_42) ?_
  refine own_stB (vs' := [(.int y0), (.int y1), (.int ((x >>> ((0 : Int32) &&& 31)).toInt8.toInt32)), (.int y3), (.int y4), (.int y5)]) (w := (.int ((x >>> ((0 : Int32) &&& 31)).toInt8.toInt32))) X124 hx hZ e124 Vb ⟨by decide, by decide⟩ 2 rfl (Nat.le_of_ble_eq_true rfl) (congrArg Value.int (own_b8 _)) rfl (hb hby d22_43) fun T125 h125 X125 e125 W125 V125 => ?_
  have N125 := Fr.snoc X125 N0 g_b
  refine own_aloadN X125 hx (hb hby d22_44) rfl rfl ?_
  refine own_iloadN X125 hx (hb hby d22_45) rfl ?_
  refine own_iloadN X125 hx (hb hby d22_46) rfl ?_
  refine own_getS X125 hx hZ hown (host := "") (Or.inl (own_m hw 118 rfl)) Via.refl e125 (Sta.wr W125 Slo) (hb hby d22_47) fun T126 X126 e126 => ?_
  refine own_ishr X126 hx (hb hby d22_50) ?_
  refine own_i2b X126 hx (hb hby d22_51) ?_
  refine own_stB (vs' := [(.int y0), (.int y1), (.int ((x >>> ((0 : Int32) &&& 31)).toInt8.toInt32)), (.int ((x >>> ((8 : Int32) &&& 31)).toInt8.toInt32)), (.int y4), (.int y5)]) (w := (.int ((x >>> ((8 : Int32) &&& 31)).toInt8.toInt32))) X126 hx hZ e126 V125 ⟨by decide, by decide⟩ 3 rfl (Nat.le_of_ble_eq_true rfl) (congrArg Value.int (own_b8 _)) rfl (hb hby d22_52) fun T127 h127 X127 e127 W127 V127 => ?_
  have N127 := Fr.snoc X127 N125 g_b
  refine own_retV X127 hx hlk hret (hb hby d22_53) (own_kN (by decide) (by decide) ?_)
  try rw [e127]
  exact ⟨rfl, N127, (Keep.wr (Keep.wr (Keep.refl h0 [b]) W125 (Or.inl (List.mem_of_getElem? (i := 0) rfl))) W127 (Or.inl (List.mem_of_getElem? (i := 0) rfl))), V127⟩
set_option maxRecDepth 65536 in
set_option maxHeartbeats 40000000 in
theorem rmGet_3_1 (l : Launch) (Z : State) (a0 : Array Value) (hw : own_Wd a0 Z) (ws : List Jvm.Cond) (b : Addr) (kb : ClassId) (y0 y1 y2 y3 y4 y5 : Int32)  (h0 : Heap) (n0 : Nat) (Z0 : n0 ≤ h0.size) (Sad : Sta Z h0 "java/lang/StringUTF16" "$assertionsDisabled" "Z" (.int 1)) (Shi : Sta Z h0 "java/lang/StringUTF16" "HI_BYTE_SHIFT" "I" (.int 0)) (Slo : Sta Z h0 "java/lang/StringUTF16" "LO_BYTE_SHIFT" "I" (.int 8)) (Vb : Arv Z h0 b kb .byte (6 : Int32) [(.int y0), (.int y1), (.int y2), (.int y3), (.int y4), (.int y5)] (.int 0)) :
    own_Met l (⟨"java/lang/StringUTF16", "getChar", "([BI)C"⟩ : MethodName) jdk_52_method_5_code 2 (some .char) ws ({ frames := 0, cells := 0, slots := 0, locals := 0 } : Room) Z #[(.ref b), (.int 1)] h0 (fun v h L => v = some (.int (own_gc y2 y3)) ∧ Fr n0 L ∧ h = h0) := by
  refine own_body (plainFor_of_name pn_0) ?_
  intro p e s m below meth c s₁ X0 hx hby hml hown hnm hret hlk hZ e0
  replace hown : s.vm.findClass "java/lang/StringUTF16" = some m.cls := hown
  replace hml : c.maxLocals = 2 := hml
  replace hret : meth.sig.returnType = (some .char) := hret
  have N0 := Fr.nil n0
  refine own_ef (L0 := #[.val (.ref b), .val (.int 1)]) (by first | (simp [entryFrame, mkF, argsToLocals, Value.category]; done) | rfl) ?_
  refine own_getS X0 hx hZ hown (host := "") (Or.inl (own_m hw 116 rfl)) Via.refl e0 Sad (hb hby d23_0) fun T128 X128 e128 => ?_
  refine own_ifYes X128 hx 28 (hb hby d23_3) (feq (by decide : ¬ ((1 : Int32) = (0 : Int32)))).2 (by decide) (by decide) ?_
  refine own_iloadN X128 hx (hb hby d23_28) rfl ?_
  refine own_iconst X128 hx 1 (hb hby d23_29) rfl ?_
  refine own_ishl X128 hx (hb hby d23_30) ?_
  rw [show ((1 : Int32) <<< ((1 : Int32) &&& 31)) = (2 : Int32) from by decide]
  refine own_istoreN (l' := #[.val (.ref b), .val (.int 2)]) X128 hx (hb hby d23_31) rfl ?_
  refine own_aloadN X128 hx (hb hby d23_32) rfl rfl ?_
  refine own_iloadN X128 hx (hb hby d23_33) rfl ?_
  refine own_iinc (l' := #[.val (.ref b), .val (.int ((2 : Int32) + (1 : Int32)))]) X128 hx (hb hby d23_34) rfl rfl ?_
  rw [show ((2 : Int32) + (1 : Int32)) = (3 : Int32) from by decide]
  refine own_baload X128 hx hZ (.int y2) e128 Vb ⟨by decide, by decide⟩ rfl (hb hby d23_37) ?_
  refine own_sipush X128 hx 255 (hb hby d23_38) rfl ?_
  refine own_iand X128 hx (hb hby d23_41) ?_
  refine own_getS X128 hx hZ hown (host := "") (Or.inl (own_m hw 117 rfl)) Via.refl e128 Shi (hb hby d23_42) fun T129 X129 e129 => ?_
  refine own_ishl X129 hx (hb hby d23_45) ?_
  refine own_aloadN X129 hx (hb hby d23_46) rfl rfl ?_
  refine own_iloadN X129 hx (hb hby d23_47) rfl ?_
  refine own_baload X129 hx hZ (.int y3) e129 Vb ⟨by decide, by decide⟩ rfl (hb hby d23_48) ?_
  refine own_sipush X129 hx 255 (hb hby d23_49) rfl ?_
  refine own_iand X129 hx (hb hby d23_52) ?_
  refine own_getS X129 hx hZ hown (host := "") (Or.inl (own_m hw 118 rfl)) Via.refl e129 Slo (hb hby d23_53) fun T130 X130 e130 => ?_
  refine own_ishl X130 hx (hb hby d23_56) ?_
  refine own_ior X130 hx (hb hby d23_57) ?_
  refine own_i2c X130 hx (hb hby d23_58) ?_
  refine own_retN X130 hx hlk hret (by simp) (own_narcc _) (hb hby d23_59) (own_kN (by decide) (by decide) ?_)
  try rw [e130]
  exact ⟨rfl, N0, rfl⟩
set_option maxRecDepth 65536 in
set_option maxHeartbeats 40000000 in
theorem rmPut_3_2 (l : Launch) (Z : State) (a0 : Array Value) (hw : own_Wd a0 Z) (ws : List Jvm.Cond) (b : Addr) (kb : ClassId) (x y0 y1 y2 y3 y4 y5 : Int32)  (h0 : Heap) (n0 : Nat) (Z0 : n0 ≤ h0.size) (Sad : Sta Z h0 "java/lang/StringUTF16" "$assertionsDisabled" "Z" (.int 1)) (Shi : Sta Z h0 "java/lang/StringUTF16" "HI_BYTE_SHIFT" "I" (.int 0)) (Slo : Sta Z h0 "java/lang/StringUTF16" "LO_BYTE_SHIFT" "I" (.int 8)) (Vb : Arv Z h0 b kb .byte (6 : Int32) [(.int y0), (.int y1), (.int y2), (.int y3), (.int y4), (.int y5)] (.int 0)) (g_b : n0 ≤ b) (Eb : Exa Z h0 b "[B") :
    own_Met l (⟨"java/lang/StringUTF16", "putChar", "([BII)V"⟩ : MethodName) jdk_52_method_4_code 3 none ws ({ frames := 0, cells := 0, slots := 0, locals := 0 } : Room) Z #[(.ref b), (.int 2), (.int x)] h0 (fun v h L => v = none ∧ Fr n0 L ∧ Keep h0 h [b] ∧ Arv Z h b kb .byte (6 : Int32) [(.int y0), (.int y1), (.int y2), (.int y3), (.int (own_lo x)), (.int (own_hi x))] (.int 0)) := by
  refine own_body (plainFor_of_name pn_0) ?_
  intro p e s m below meth c s₁ X0 hx hby hml hown hnm hret hlk hZ e0
  replace hown : s.vm.findClass "java/lang/StringUTF16" = some m.cls := hown
  replace hml : c.maxLocals = 3 := hml
  replace hret : meth.sig.returnType = none := hret
  have N0 := Fr.nil n0
  refine own_ef (L0 := #[.val (.ref b), .val (.int 2), .val (.int x)]) (by first | (simp [entryFrame, mkF, argsToLocals, Value.category]; done) | rfl) ?_
  refine own_getS X0 hx hZ hown (host := "") (Or.inl (own_m hw 116 rfl)) Via.refl e0 Sad (hb hby d22_0) fun T131 X131 e131 => ?_
  refine own_ifYes X131 hx 28 (hb hby d22_3) (feq (by decide : ¬ ((1 : Int32) = (0 : Int32)))).2 (by decide) (by decide) ?_
  refine own_iloadN X131 hx (hb hby d22_28) rfl ?_
  refine own_iconst X131 hx 1 (hb hby d22_29) rfl ?_
  refine own_ishl X131 hx (hb hby d22_30) ?_
  rw [show ((2 : Int32) <<< ((1 : Int32) &&& 31)) = (4 : Int32) from by decide]
  refine own_istoreN (l' := #[.val (.ref b), .val (.int 4), .val (.int x)]) X131 hx (hb hby d22_31) rfl ?_
  refine own_aloadN X131 hx (hb hby d22_32) rfl rfl ?_
  refine own_iloadN X131 hx (hb hby d22_33) rfl ?_
  refine own_iinc (l' := #[.val (.ref b), .val (.int ((4 : Int32) + (1 : Int32))), .val (.int x)]) X131 hx (hb hby d22_34) rfl rfl ?_
  rw [show ((4 : Int32) + (1 : Int32)) = (5 : Int32) from by decide]
  refine own_iloadN X131 hx (hb hby d22_37) rfl ?_
  refine own_getS X131 hx hZ hown (host := "") (Or.inl (own_m hw 117 rfl)) Via.refl e131 Shi (hb hby d22_38) fun T132 X132 e132 => ?_
  refine own_ishr X132 hx (hb hby d22_41) ?_
  refine own_i2b X132 hx (hb hby d22_42) ?_
  refine own_stB (vs' := [(.int y0), (.int y1), (.int y2), (.int y3), (.int ((x >>> ((0 : Int32) &&& 31)).toInt8.toInt32)), (.int y5)]) (w := (.int ((x >>> ((0 : Int32) &&& 31)).toInt8.toInt32))) X132 hx hZ e132 Vb ⟨by decide, by decide⟩ 4 rfl (Nat.le_of_ble_eq_true rfl) (congrArg Value.int (own_b8 _)) rfl (hb hby d22_43) fun T133 h133 X133 e133 W133 V133 => ?_
  have N133 := Fr.snoc X133 N0 g_b
  refine own_aloadN X133 hx (hb hby d22_44) rfl rfl ?_
  refine own_iloadN X133 hx (hb hby d22_45) rfl ?_
  refine own_iloadN X133 hx (hb hby d22_46) rfl ?_
  refine own_getS X133 hx hZ hown (host := "") (Or.inl (own_m hw 118 rfl)) Via.refl e133 (Sta.wr W133 Slo) (hb hby d22_47) fun T134 X134 e134 => ?_
  refine own_ishr X134 hx (hb hby d22_50) ?_
  refine own_i2b X134 hx (hb hby d22_51) ?_
  refine own_stB (vs' := [(.int y0), (.int y1), (.int y2), (.int y3), (.int ((x >>> ((0 : Int32) &&& 31)).toInt8.toInt32)), (.int ((x >>> ((8 : Int32) &&& 31)).toInt8.toInt32))]) (w := (.int ((x >>> ((8 : Int32) &&& 31)).toInt8.toInt32))) X134 hx hZ e134 V133 ⟨by decide, by decide⟩ 5 rfl (Nat.le_of_ble_eq_true rfl) (congrArg Value.int (own_b8 _)) rfl (hb hby d22_52) fun T135 h135 X135 e135 W135 V135 => ?_
  have N135 := Fr.snoc X135 N133 g_b
  refine own_retV X135 hx hlk hret (hb hby d22_53) (own_kN (by decide) (by decide) ?_)
  try rw [e135]
  exact ⟨rfl, N135, (Keep.wr (Keep.wr (Keep.refl h0 [b]) W133 (Or.inl (List.mem_of_getElem? (i := 0) rfl))) W135 (Or.inl (List.mem_of_getElem? (i := 0) rfl))), V135⟩
set_option maxRecDepth 65536 in
set_option maxHeartbeats 40000000 in
theorem rmGet_3_2 (l : Launch) (Z : State) (a0 : Array Value) (hw : own_Wd a0 Z) (ws : List Jvm.Cond) (b : Addr) (kb : ClassId) (y0 y1 y2 y3 y4 y5 : Int32)  (h0 : Heap) (n0 : Nat) (Z0 : n0 ≤ h0.size) (Sad : Sta Z h0 "java/lang/StringUTF16" "$assertionsDisabled" "Z" (.int 1)) (Shi : Sta Z h0 "java/lang/StringUTF16" "HI_BYTE_SHIFT" "I" (.int 0)) (Slo : Sta Z h0 "java/lang/StringUTF16" "LO_BYTE_SHIFT" "I" (.int 8)) (Vb : Arv Z h0 b kb .byte (6 : Int32) [(.int y0), (.int y1), (.int y2), (.int y3), (.int y4), (.int y5)] (.int 0)) :
    own_Met l (⟨"java/lang/StringUTF16", "getChar", "([BI)C"⟩ : MethodName) jdk_52_method_5_code 2 (some .char) ws ({ frames := 0, cells := 0, slots := 0, locals := 0 } : Room) Z #[(.ref b), (.int 2)] h0 (fun v h L => v = some (.int (own_gc y4 y5)) ∧ Fr n0 L ∧ h = h0) := by
  refine own_body (plainFor_of_name pn_0) ?_
  intro p e s m below meth c s₁ X0 hx hby hml hown hnm hret hlk hZ e0
  replace hown : s.vm.findClass "java/lang/StringUTF16" = some m.cls := hown
  replace hml : c.maxLocals = 2 := hml
  replace hret : meth.sig.returnType = (some .char) := hret
  have N0 := Fr.nil n0
  refine own_ef (L0 := #[.val (.ref b), .val (.int 2)]) (by first | (simp [entryFrame, mkF, argsToLocals, Value.category]; done) | rfl) ?_
  refine own_getS X0 hx hZ hown (host := "") (Or.inl (own_m hw 116 rfl)) Via.refl e0 Sad (hb hby d23_0) fun T136 X136 e136 => ?_
  refine own_ifYes X136 hx 28 (hb hby d23_3) (feq (by decide : ¬ ((1 : Int32) = (0 : Int32)))).2 (by decide) (by decide) ?_
  refine own_iloadN X136 hx (hb hby d23_28) rfl ?_
  refine own_iconst X136 hx 1 (hb hby d23_29) rfl ?_
  refine own_ishl X136 hx (hb hby d23_30) ?_
  rw [show ((2 : Int32) <<< ((1 : Int32) &&& 31)) = (4 : Int32) from by decide]
  refine own_istoreN (l' := #[.val (.ref b), .val (.int 4)]) X136 hx (hb hby d23_31) rfl ?_
  refine own_aloadN X136 hx (hb hby d23_32) rfl rfl ?_
  refine own_iloadN X136 hx (hb hby d23_33) rfl ?_
  refine own_iinc (l' := #[.val (.ref b), .val (.int ((4 : Int32) + (1 : Int32)))]) X136 hx (hb hby d23_34) rfl rfl ?_
  rw [show ((4 : Int32) + (1 : Int32)) = (5 : Int32) from by decide]
  refine own_baload X136 hx hZ (.int y4) e136 Vb ⟨by decide, by decide⟩ rfl (hb hby d23_37) ?_
  refine own_sipush X136 hx 255 (hb hby d23_38) rfl ?_
  refine own_iand X136 hx (hb hby d23_41) ?_
  refine own_getS X136 hx hZ hown (host := "") (Or.inl (own_m hw 117 rfl)) Via.refl e136 Shi (hb hby d23_42) fun T137 X137 e137 => ?_
  refine own_ishl X137 hx (hb hby d23_45) ?_
  refine own_aloadN X137 hx (hb hby d23_46) rfl rfl ?_
  refine own_iloadN X137 hx (hb hby d23_47) rfl ?_
  refine own_baload X137 hx hZ (.int y5) e137 Vb ⟨by decide, by decide⟩ rfl (hb hby d23_48) ?_
  refine own_sipush X137 hx 255 (hb hby d23_49) rfl ?_
  refine own_iand X137 hx (hb hby d23_52) ?_
  refine own_getS X137 hx hZ hown (host := "") (Or.inl (own_m hw 118 rfl)) Via.refl e137 Slo (hb hby d23_53) fun T138 X138 e138 => ?_
  refine own_ishl X138 hx (hb hby d23_56) ?_
  refine own_ior X138 hx (hb hby d23_57) ?_
  refine own_i2c X138 hx (hb hby d23_58) ?_
  refine own_retN X138 hx hlk hret (by simp) (own_narcc _) (hb hby d23_59) (own_kN (by decide) (by decide) ?_)
  try rw [e138]
  exact ⟨rfl, N0, rfl⟩
set_option maxRecDepth 65536 in
set_option maxHeartbeats 40000000 in
theorem rmTB_3 (l : Launch) (Z : State) (a0 : Array Value) (hw : own_Wd a0 Z) (ws : List Jvm.Cond) (ca : Addr) (kc : ClassId) (c0 c1 c2 : Int32)  (h0 : Heap) (n0 : Nat) (Z0 : n0 ≤ h0.size) (Sad : Sta Z h0 "java/lang/StringUTF16" "$assertionsDisabled" "Z" (.int 1)) (Shi : Sta Z h0 "java/lang/StringUTF16" "HI_BYTE_SHIFT" "I" (.int 0)) (Slo : Sta Z h0 "java/lang/StringUTF16" "LO_BYTE_SHIFT" "I" (.int 8)) (Vc : Arv Z h0 ca kc .char (3 : Int32) [(.int c0), (.int c1), (.int c2)] (.int 0)) :
    own_Met l (⟨"java/lang/StringUTF16", "toBytes", "([CII)[B"⟩ : MethodName) jdk_52_method_14_code 5 (some (.array .byte)) ws ({ frames := 2, cells := 1, slots := 6, locals := 24 } : Room) Z #[(.ref ca), (.int 0), (.int 3)] h0 (fun v h L => ∃ b k, v = some (.ref b) ∧ Fr n0 L ∧ Keep h0 h [] ∧ h0.size ≤ b ∧ n0 ≤ b ∧ Exa Z h b "[B" ∧ Arv Z h b k .byte (6 : Int32) [(.int (own_lo c0)), (.int (own_hi c0)), (.int (own_lo c1)), (.int (own_hi c1)), (.int (own_lo c2)), (.int (own_hi c2))] (.int 0)) := by
  refine own_body (plainFor_of_name pn_0) ?_
  intro p e s m below meth c s₁ X0 hx hby hml hown hnm hret hlk hZ e0
  replace hown : s.vm.findClass "java/lang/StringUTF16" = some m.cls := hown
  replace hml : c.maxLocals = 5 := hml
  replace hret : meth.sig.returnType = (some (.array .byte)) := hret
  have N0 := Fr.nil n0
  refine own_ef (L0 := #[.val (.ref ca), .val (.int 0), .val (.int 3), .unset, .unset]) (by first | (simp [entryFrame, mkF, argsToLocals, Value.category]; done) | rfl) ?_
  refine own_iloadN X0 hx (hb hby d19_0) rfl ?_
  refine own_cStat (W := 0) (rest := []) X0 hx hZ [(.int 3)] hown (own_m hw 106 rfl) (own_m hw 107 rfl) (by decide) (own_m hw 108 rfl) (own_m hw 22 rfl) e0 (rmNB_3 l Z a0 hw [] h0 n0 Z0) (by rw [hml]; rfl) (lenOf pd_5 rfl) rfl (Nat.le_of_eq rfl) (hb hby d19_1) (by decide) (by decide) (by decide) (by decide) fun v139 T139 L139 X139 hQ139 => ?_
  obtain ⟨b139, kb139, rfl, N139q, K139, szb139, gb139, Eb139, Vb139⟩ := hQ139
  have N139 := Fr.app N0 N139q
  have g_b139 := gb139
  have szo_b139 : h0.size ≤ b139 := Nat.le_trans (Nat.le_refl h0.size) szb139
  show own_At p e below _ T139 m 4 _ [(.ref b139)]
  refine own_astoreN (l' := #[.val (.ref ca), .val (.int 0), .val (.int 3), .val (.ref b139), .unset]) X139 hx (hb hby d19_4) rfl rfl ?_
  refine own_iconst X139 hx 0 (hb hby d19_5) rfl ?_
  refine own_istore (l' := #[.val (.ref ca), .val (.int 0), .val (.int 3), .val (.ref b139), .val (.int 0)]) X139 hx (hb hby d19_6) rfl ?_
  refine own_iload X139 hx (hb hby d19_8) rfl ?_
  refine own_iloadN X139 hx (hb hby d19_10) rfl ?_
  refine own_icmpNo X139 hx (hb hby d19_11) (tlt (by decide : (0 : Int32) < (3 : Int32))).2.1 ?_
  refine own_aloadN X139 hx (hb hby d19_14) rfl rfl ?_
  refine own_iload X139 hx (hb hby d19_15) rfl ?_
  refine own_aloadN X139 hx (hb hby d19_17) rfl rfl ?_
  refine own_iloadN X139 hx (hb hby d19_18) rfl ?_
  refine own_caload X139 hx hZ (.int c0) rfl (Arv.keep Vc K139 nin0) ⟨by decide, by decide⟩ rfl (hb hby d19_19) ?_
  refine own_cStat (W := 0) (rest := []) X139 hx hZ [(.ref b139), (.int 0), (.int c0)] hown (own_m hw 113 rfl) (own_m hw 114 rfl) (by decide) (own_m hw 115 rfl) (own_m hw 22 rfl) rfl (rmPut_3_0 l Z a0 hw [] b139 kb139 c0 (0 : Int32) (0 : Int32) (0 : Int32) (0 : Int32) (0 : Int32) (0 : Int32) T139.heap n0 (Nat.le_trans Z0 K139.1) (own_staKeep Sad K139 all0) (own_staKeep Shi K139 all0) (own_staKeep Slo K139 all0) Vb139 g_b139 Eb139) (by rw [hml]; rfl) (lenOf pd_6 rfl) rfl (Nat.le_of_eq rfl) (hb hby d19_20) (by decide) (by decide) (by decide) (by decide) fun v140 T140 L140 X140 hQ140 => ?_
  obtain ⟨rfl, N140q, K140, Vb140⟩ := hQ140
  have N140 := Fr.app N139 N140q
  show own_At p e below _ T140 m 23 _ []
  refine own_iinc (l' := #[.val (.ref ca), .val (.int ((0 : Int32) + (1 : Int32))), .val (.int 3), .val (.ref b139), .val (.int 0)]) X140 hx (hb hby d19_23) rfl rfl ?_
  rw [show ((0 : Int32) + (1 : Int32)) = (1 : Int32) from by decide]
  refine own_iinc (l' := #[.val (.ref ca), .val (.int 1), .val (.int 3), .val (.ref b139), .val (.int ((0 : Int32) + (1 : Int32)))]) X140 hx (hb hby d19_26) rfl rfl ?_
  rw [show ((0 : Int32) + (1 : Int32)) = (1 : Int32) from by decide]
  refine own_goto X140 hx 8 (hb hby d19_29) (by decide) (by decide) ?_
  refine own_iload X140 hx (hb hby d19_8) rfl ?_
  refine own_iloadN X140 hx (hb hby d19_10) rfl ?_
  refine own_icmpNo X140 hx (hb hby d19_11) (tlt (by decide : (1 : Int32) < (3 : Int32))).2.1 ?_
  refine own_aloadN X140 hx (hb hby d19_14) rfl rfl ?_
  refine own_iload X140 hx (hb hby d19_15) rfl ?_
  refine own_aloadN X140 hx (hb hby d19_17) rfl rfl ?_
  refine own_iloadN X140 hx (hb hby d19_18) rfl ?_
  refine own_caload X140 hx hZ (.int c1) rfl (Arv.keep (Arv.keep Vc K139 nin0) K140 (ninS (Nat.ne_of_lt (Nat.lt_of_lt_of_le Vc.lt szb139)) nin0)) ⟨by decide, by decide⟩ rfl (hb hby d19_19) ?_
  refine own_cStat (W := 0) (rest := []) X140 hx hZ [(.ref b139), (.int 1), (.int c1)] hown (own_m hw 113 rfl) (own_m hw 114 rfl) (by decide) (own_m hw 115 rfl) (own_m hw 22 rfl) rfl (rmPut_3_1 l Z a0 hw [] b139 kb139 c1 (own_lo c0) (own_hi c0) (0 : Int32) (0 : Int32) (0 : Int32) (0 : Int32) T140.heap n0 (Nat.le_trans (Nat.le_trans Z0 K139.1) K140.1) (own_staKeep (own_staKeep Sad K139 all0) K140 (allS (own_exaStat Eb139) all0)) (own_staKeep (own_staKeep Shi K139 all0) K140 (allS (own_exaStat Eb139) all0)) (own_staKeep (own_staKeep Slo K139 all0) K140 (allS (own_exaStat Eb139) all0)) Vb140 g_b139 (Exa.keep Eb139 K140)) (by rw [hml]; rfl) (lenOf pd_6 rfl) rfl (Nat.le_of_eq rfl) (hb hby d19_20) (by decide) (by decide) (by decide) (by decide) fun v141 T141 L141 X141 hQ141 => ?_
  obtain ⟨rfl, N141q, K141, Vb141⟩ := hQ141
  have N141 := Fr.app N140 N141q
  show own_At p e below _ T141 m 23 _ []
  refine own_iinc (l' := #[.val (.ref ca), .val (.int ((1 : Int32) + (1 : Int32))), .val (.int 3), .val (.ref b139), .val (.int 1)]) X141 hx (hb hby d19_23) rfl rfl ?_
  rw [show ((1 : Int32) + (1 : Int32)) = (2 : Int32) from by decide]
  refine own_iinc (l' := #[.val (.ref ca), .val (.int 2), .val (.int 3), .val (.ref b139), .val (.int ((1 : Int32) + (1 : Int32)))]) X141 hx (hb hby d19_26) rfl rfl ?_
  rw [show ((1 : Int32) + (1 : Int32)) = (2 : Int32) from by decide]
  refine own_goto X141 hx 8 (hb hby d19_29) (by decide) (by decide) ?_
  refine own_iload X141 hx (hb hby d19_8) rfl ?_
  refine own_iloadN X141 hx (hb hby d19_10) rfl ?_
  refine own_icmpNo X141 hx (hb hby d19_11) (tlt (by decide : (2 : Int32) < (3 : Int32))).2.1 ?_
  refine own_aloadN X141 hx (hb hby d19_14) rfl rfl ?_
  refine own_iload X141 hx (hb hby d19_15) rfl ?_
  refine own_aloadN X141 hx (hb hby d19_17) rfl rfl ?_
  refine own_iloadN X141 hx (hb hby d19_18) rfl ?_
  refine own_caload X141 hx hZ (.int c2) rfl (Arv.keep (Arv.keep (Arv.keep Vc K139 nin0) K140 (ninS (Nat.ne_of_lt (Nat.lt_of_lt_of_le Vc.lt szb139)) nin0)) K141 (ninS (Nat.ne_of_lt (Nat.lt_of_lt_of_le Vc.lt szb139)) nin0)) ⟨by decide, by decide⟩ rfl (hb hby d19_19) ?_
  refine own_cStat (W := 0) (rest := []) X141 hx hZ [(.ref b139), (.int 2), (.int c2)] hown (own_m hw 113 rfl) (own_m hw 114 rfl) (by decide) (own_m hw 115 rfl) (own_m hw 22 rfl) rfl (rmPut_3_2 l Z a0 hw [] b139 kb139 c2 (own_lo c0) (own_hi c0) (own_lo c1) (own_hi c1) (0 : Int32) (0 : Int32) T141.heap n0 (Nat.le_trans (Nat.le_trans (Nat.le_trans Z0 K139.1) K140.1) K141.1) (own_staKeep (own_staKeep (own_staKeep Sad K139 all0) K140 (allS (own_exaStat Eb139) all0)) K141 (allS (own_exaStat (Exa.keep Eb139 K140)) all0)) (own_staKeep (own_staKeep (own_staKeep Shi K139 all0) K140 (allS (own_exaStat Eb139) all0)) K141 (allS (own_exaStat (Exa.keep Eb139 K140)) all0)) (own_staKeep (own_staKeep (own_staKeep Slo K139 all0) K140 (allS (own_exaStat Eb139) all0)) K141 (allS (own_exaStat (Exa.keep Eb139 K140)) all0)) Vb141 g_b139 (Exa.keep (Exa.keep Eb139 K140) K141)) (by rw [hml]; rfl) (lenOf pd_6 rfl) rfl (Nat.le_of_eq rfl) (hb hby d19_20) (by decide) (by decide) (by decide) (by decide) fun v142 T142 L142 X142 hQ142 => ?_
  obtain ⟨rfl, N142q, K142, Vb142⟩ := hQ142
  have N142 := Fr.app N141 N142q
  show own_At p e below _ T142 m 23 _ []
  refine own_iinc (l' := #[.val (.ref ca), .val (.int ((2 : Int32) + (1 : Int32))), .val (.int 3), .val (.ref b139), .val (.int 2)]) X142 hx (hb hby d19_23) rfl rfl ?_
  rw [show ((2 : Int32) + (1 : Int32)) = (3 : Int32) from by decide]
  refine own_iinc (l' := #[.val (.ref ca), .val (.int 3), .val (.int 3), .val (.ref b139), .val (.int ((2 : Int32) + (1 : Int32)))]) X142 hx (hb hby d19_26) rfl rfl ?_
  rw [show ((2 : Int32) + (1 : Int32)) = (3 : Int32) from by decide]
  refine own_goto X142 hx 8 (hb hby d19_29) (by decide) (by decide) ?_
  refine own_iload X142 hx (hb hby d19_8) rfl ?_
  refine own_iloadN X142 hx (hb hby d19_10) rfl ?_
  refine own_icmpYes X142 hx 32 (hb hby d19_11) (flt (by decide : ¬ ((3 : Int32) < (3 : Int32)))).2.1 (by decide) (by decide) ?_
  refine own_aloadN X142 hx (hb hby d19_32) rfl rfl ?_
  refine own_retA X142 hx hlk hret rfl rfl rfl (hb hby d19_33) (own_kN (by decide) (by decide) ?_)
  exact ⟨b139, kb139, rfl, N142, (Keep.trans (Keep.trans (Keep.trans (Keep.trans (Keep.refl h0 []) K139 all0) K140 (allS (Or.inr szo_b139) all0)) K141 (allS (Or.inr szo_b139) all0)) K142 (allS (Or.inr szo_b139) all0)), szo_b139, g_b139, (Exa.keep (Exa.keep (Exa.keep Eb139 K140) K141) K142), Vb142⟩
set_option maxRecDepth 65536 in
set_option maxHeartbeats 40000000 in
theorem rmCFu_3 (l : Launch) (Z : State) (a0 : Array Value) (hw : own_Wd a0 Z) (ws : List Jvm.Cond) (ba : Addr)  (h0 : Heap) (n0 : Nat) (Z0 : n0 ≤ h0.size) (A : own_Aln Z h0 ba .byte (6 : Int32)) :
    own_Met l (⟨"java/lang/StringUTF16", "coderFromArrayLen", "([BI)B"⟩ : MethodName) jdk_52_method_15_code 2 (some .byte) ws ({ frames := 0, cells := 0, slots := 0, locals := 0 } : Room) Z #[(.ref ba), (.int 3)] h0 (fun v h L => v = some (.int 1) ∧ Fr n0 L ∧ h = h0) := by
  refine own_body (plainFor_of_name pn_0) ?_
  intro p e s m below meth c s₁ X0 hx hby hml hown hnm hret hlk hZ e0
  replace hown : s.vm.findClass "java/lang/StringUTF16" = some m.cls := hown
  replace hml : c.maxLocals = 2 := hml
  replace hret : meth.sig.returnType = (some .byte) := hret
  have N0 := Fr.nil n0
  refine own_ef (L0 := #[.val (.ref ba), .val (.int 3)]) (by first | (simp [entryFrame, mkF, argsToLocals, Value.category]; done) | rfl) ?_
  refine own_iloadN X0 hx (hb hby d7_0) rfl ?_
  refine own_aloadN X0 hx (hb hby d7_1) rfl rfl ?_
  refine own_arraylength X0 hx hZ e0 A (hb hby d7_2) ?_
  refine own_isub X0 hx (hb hby d7_3) ?_
  rw [show ((3 : Int32) - (6 : Int32)) = (-3 : Int32) from by decide]
  refine own_bipush X0 hx 31 (hb hby d7_4) rfl ?_
  refine own_iushr X0 hx (hb hby d7_6) ?_
  rw [show (((-3 : Int32).toUInt32 >>> ((31 : Int32) &&& 31).toUInt32).toInt32) = (1 : Int32) from by decide]
  refine own_i2b X0 hx (hb hby d7_7) ?_
  rw [show ((1 : Int32).toInt8.toInt32) = (1 : Int32) from by decide]
  refine own_retN X0 hx hlk hret (by simp) (by decide) (hb hby d7_8) (own_kN (by decide) (by decide) ?_)
  try rw [e0]
  exact ⟨rfl, N0, rfl⟩
set_option maxRecDepth 65536 in
set_option maxHeartbeats 40000000 in
theorem rmCu2_3_0 (l : Launch) (Z : State) (a0 : Array Value) (hw : own_Wd a0 Z) (ws : List Jvm.Cond) (ca ba : Addr) (kc kb : ClassId) (c0 c1 c2 : Int32)  (h0 : Heap) (n0 : Nat) (Z0 : n0 ≤ h0.size) (Vc : Arv Z h0 ca kc .char (3 : Int32) [(.int c0), (.int c1), (.int c2)] (.int 0)) (Vb : Arv Z h0 ba kb .byte (3 : Int32) [(.int 0), (.int 0), (.int 0)] (.int 0)) (g_ba : n0 ≤ ba) (hne : ca ≠ ba) (hx0 : (255 : Int32) < c0) :
    own_Met l (⟨"java/lang/StringUTF16", "compress", "([CI[BII)I"⟩ : MethodName) jdk_52_method_21_code 7 (some .int) ws ({ frames := 0, cells := 0, slots := 0, locals := 0 } : Room) Z #[(.ref ca), (.int 0), (.ref ba), (.int 0), (.int 3)] h0 (fun v h L => v = some (.int 0) ∧ Fr n0 L ∧ Keep h0 h [ba]) := by
  refine own_body (plainFor_of_name pn_0) ?_
  intro p e s m below meth c s₁ X0 hx hby hml hown hnm hret hlk hZ e0
  replace hown : s.vm.findClass "java/lang/StringUTF16" = some m.cls := hown
  replace hml : c.maxLocals = 7 := hml
  replace hret : meth.sig.returnType = (some .int) := hret
  have N0 := Fr.nil n0
  refine own_ef (L0 := #[.val (.ref ca), .val (.int 0), .val (.ref ba), .val (.int 0), .val (.int 3), .unset, .unset]) (by first | (simp [entryFrame, mkF, argsToLocals, Value.category]; done) | rfl) ?_
  refine own_iconst X0 hx 0 (hb hby d6_0) rfl ?_
  refine own_istore (l' := #[.val (.ref ca), .val (.int 0), .val (.ref ba), .val (.int 0), .val (.int 3), .val (.int 0), .unset]) X0 hx (hb hby d6_1) rfl ?_
  refine own_iload X0 hx (hb hby d6_3) rfl ?_
  refine own_iload X0 hx (hb hby d6_5) rfl ?_
  refine own_icmpNo X0 hx (hb hby d6_7) (tlt (by decide : (0 : Int32) < (3 : Int32))).2.1 ?_
  refine own_aloadN X0 hx (hb hby d6_10) rfl rfl ?_
  refine own_iloadN X0 hx (hb hby d6_11) rfl ?_
  refine own_caload X0 hx hZ (.int c0) e0 Vc ⟨by decide, by decide⟩ rfl (hb hby d6_12) ?_
  refine own_istore (l' := #[.val (.ref ca), .val (.int 0), .val (.ref ba), .val (.int 0), .val (.int 3), .val (.int 0), .val (.int c0)]) X0 hx (hb hby d6_13) rfl ?_
  refine own_iload X0 hx (hb hby d6_15) rfl ?_
  refine own_sipush X0 hx 255 (hb hby d6_17) rfl ?_
  refine own_icmpNo X0 hx (hb hby d6_20) (tlt hx0).2.2.2 ?_
  refine own_iload X0 hx (hb hby d6_23) rfl ?_
  refine own_retI X0 hx hlk hret (hb hby d6_25) (own_kN (by decide) (by decide) ?_)
  try rw [e0]
  exact ⟨rfl, N0, (Keep.refl h0 [ba])⟩
set_option maxRecDepth 65536 in
set_option maxHeartbeats 40000000 in
theorem rmCu1_3_0 (l : Launch) (Z : State) (a0 : Array Value) (hw : own_Wd a0 Z) (ws : List Jvm.Cond) (ca : Addr) (kc : ClassId) (c0 c1 c2 : Int32)  (h0 : Heap) (n0 : Nat) (Z0 : n0 ≤ h0.size) (Sad : Sta Z h0 "java/lang/StringUTF16" "$assertionsDisabled" "Z" (.int 1)) (Shi : Sta Z h0 "java/lang/StringUTF16" "HI_BYTE_SHIFT" "I" (.int 0)) (Slo : Sta Z h0 "java/lang/StringUTF16" "LO_BYTE_SHIFT" "I" (.int 8)) (Vc : Arv Z h0 ca kc .char (3 : Int32) [(.int c0), (.int c1), (.int c2)] (.int 0)) (hx0 : (255 : Int32) < c0) (lo0 : ¬ c0 < (0 : Int32)) (hi0 : ¬ (65535 : Int32) < c0) :
    own_Met l (⟨"java/lang/StringUTF16", "compress", "([CII)[B"⟩ : MethodName) jdk_52_method_16_code 6 (some (.array .byte)) ws ({ frames := 3, cells := 2, slots := 9, locals := 40 } : Room) Z #[(.ref ca), (.int 0), (.int 3)] h0 (fun v h L => ∃ b k, v = some (.ref b) ∧ Fr n0 L ∧ Keep h0 h [] ∧ h0.size ≤ b ∧ n0 ≤ b ∧ Exa Z h b "[B" ∧ Arv Z h b k .byte (6 : Int32) [(.int (own_lo c0)), (.int (own_hi c0)), (.int (own_lo c1)), (.int (own_hi c1)), (.int (own_lo c2)), (.int (own_hi c2))] (.int 0)) := by
  refine own_body (plainFor_of_name pn_0) ?_
  intro p e s m below meth c s₁ X0 hx hby hml hown hnm hret hlk hZ e0
  replace hown : s.vm.findClass "java/lang/StringUTF16" = some m.cls := hown
  replace hml : c.maxLocals = 6 := hml
  replace hret : meth.sig.returnType = (some (.array .byte)) := hret
  have N0 := Fr.nil n0
  refine own_ef (L0 := #[.val (.ref ca), .val (.int 0), .val (.int 3), .unset, .unset, .unset]) (by first | (simp [entryFrame, mkF, argsToLocals, Value.category]; done) | rfl) ?_
  refine own_iloadN X0 hx (hb hby d5_0) rfl ?_
  refine own_newP (n := (3 : Int32)) (cap := 3) (ad := "[B") X0 hx hZ (own_m hw 24 rfl) e0 (hb hby d5_1) (by decide) (by decide) (by decide) (by decide) (by decide) (by decide) fun T143 h143 k143 b143 g143 X143 e143 E143 A143 Ex143 => ?_
  have g_b143 : n0 ≤ b143 := Nat.le_trans Z0 (Nat.le_of_eq g143.symm)
  have szo_b143 : h0.size ≤ b143 := Nat.le_trans (Nat.le_refl h0.size) (Nat.le_of_eq g143.symm)
  have V143 : Arv Z h143 b143 k143 .byte (3 : Int32) [(.int 0), (.int 0), (.int 0)] (.int 0) := (Arv.new A143 (by decide)).pad (pad_rep [] (.int 0) 3)
  refine own_astoreN (l' := #[.val (.ref ca), .val (.int 0), .val (.int 3), .val (.ref b143), .unset, .unset]) X143 hx (hb hby d5_3) rfl rfl ?_
  refine own_aloadN X143 hx (hb hby d5_4) rfl rfl ?_
  refine own_iloadN X143 hx (hb hby d5_5) rfl ?_
  refine own_aloadN X143 hx (hb hby d5_6) rfl rfl ?_
  refine own_iconst X143 hx 0 (hb hby d5_7) rfl ?_
  refine own_iloadN X143 hx (hb hby d5_8) rfl ?_
  refine own_cStat (W := 0) (rest := []) X143 hx hZ [(.ref ca), (.int 0), (.ref b143), (.int 0), (.int 3)] hown (own_m hw 25 rfl) (own_m hw 26 rfl) (by decide) (own_m hw 27 rfl) (own_m hw 22 rfl) e143 (rmCu2_3_0 l Z a0 hw [] ca b143 kc k143 c0 c1 c2 h143 n0 (Nat.le_trans Z0 E143.1) (Vc.ext E143) V143 g_b143 (Nat.ne_of_lt (Nat.lt_of_lt_of_le Vc.lt (Nat.le_of_eq g143.symm))) hx0) (by rw [hml]; rfl) (lenOf pd_0 rfl) rfl (Nat.le_of_eq rfl) (hb hby d5_9) (by decide) (by decide) (by decide) (by decide) fun v144 T144 L144 X144 hQ144 => ?_
  obtain ⟨rfl, N144q, K144⟩ := hQ144
  have N144 := Fr.app N0 N144q
  show own_At p e below _ T144 m 12 _ [(.int 0)]
  refine own_istore (l' := #[.val (.ref ca), .val (.int 0), .val (.int 3), .val (.ref b143), .val (.int 0), .unset]) X144 hx (hb hby d5_12) rfl ?_
  refine own_iload X144 hx (hb hby d5_14) rfl ?_
  refine own_iloadN X144 hx (hb hby d5_16) rfl ?_
  refine own_icmpNo X144 hx (hb hby d5_17) (feq (by decide : ¬ ((0 : Int32) = (3 : Int32)))).1 ?_
  refine own_aloadN X144 hx (hb hby d5_20) rfl rfl ?_
  refine own_iloadN X144 hx (hb hby d5_21) rfl ?_
  refine own_iloadN X144 hx (hb hby d5_22) rfl ?_
  refine own_cStat (W := 0) (rest := []) X144 hx hZ [(.ref ca), (.int 0), (.int 3)] hown (own_m hw 103 rfl) (own_m hw 104 rfl) (by decide) (own_m hw 105 rfl) (own_m hw 22 rfl) rfl (rmTB_3 l Z a0 hw [] ca kc c0 c1 c2 T144.heap n0 (Nat.le_trans (Nat.le_trans Z0 E143.1) K144.1) (own_staKeep (Sta.ext E143 Sad) K144 (allS (own_exaStat Ex143) all0)) (own_staKeep (Sta.ext E143 Shi) K144 (allS (own_exaStat Ex143) all0)) (own_staKeep (Sta.ext E143 Slo) K144 (allS (own_exaStat Ex143) all0)) (Arv.keep (Vc.ext E143) K144 (ninS (Nat.ne_of_lt (Nat.lt_of_lt_of_le Vc.lt (Nat.le_of_eq g143.symm))) nin0))) (by rw [hml]; rfl) (lenOf pd_1 rfl) rfl (Nat.le_of_eq rfl) (hb hby d5_23) (by decide) (by decide) (by decide) (by decide) fun v145 T145 L145 X145 hQ145 => ?_
  obtain ⟨b145, kb145, rfl, N145q, K145, szb145, gb145, Eb145, Vb145⟩ := hQ145
  have N145 := Fr.app N144 N145q
  have g_b145 := gb145
  have szo_b145 : h0.size ≤ b145 := Nat.le_trans (Nat.le_trans (Nat.le_trans (Nat.le_refl h0.size) E143.1) K144.1) szb145
  show own_At p e below _ T145 m 26 _ [(.ref b145)]
  refine own_astore (l' := #[.val (.ref ca), .val (.int 0), .val (.int 3), .val (.ref b143), .val (.int 0), .val (.ref b145)]) X145 hx (hb hby d5_26) rfl rfl ?_
  refine own_aload X145 hx (hb hby d5_28) rfl rfl ?_
  refine own_iload X145 hx (hb hby d5_30) rfl ?_
  refine own_cStat (W := 0) (rest := []) X145 hx hZ [(.ref b145), (.int 0)] hown (own_m hw 119 rfl) (own_m hw 120 rfl) (by decide) (own_m hw 121 rfl) (own_m hw 22 rfl) rfl (rmGet_3_0 l Z a0 hw [] b145 kb145 (own_lo c0) (own_hi c0) (own_lo c1) (own_hi c1) (own_lo c2) (own_hi c2) T145.heap n0 (Nat.le_trans (Nat.le_trans (Nat.le_trans Z0 E143.1) K144.1) K145.1) (own_staKeep (own_staKeep (Sta.ext E143 Sad) K144 (allS (own_exaStat Ex143) all0)) K145 all0) (own_staKeep (own_staKeep (Sta.ext E143 Shi) K144 (allS (own_exaStat Ex143) all0)) K145 all0) (own_staKeep (own_staKeep (Sta.ext E143 Slo) K144 (allS (own_exaStat Ex143) all0)) K145 all0) Vb145) (by rw [hml]; rfl) (lenOf pd_7 rfl) rfl (Nat.le_of_eq rfl) (hb hby d5_32) (by decide) (by decide) (by decide) (by decide) fun v146 T146 L146 X146 hQ146 => ?_
  obtain ⟨rfl, N146q, e146⟩ := hQ146
  have N146 := Fr.app N145 N146q
  show own_At p e below _ T146 m 35 _ [(.int (own_gc (own_lo c0) (own_hi c0)))]
  rw [own_gcc lo0 hi0]
  refine own_sipush X146 hx 255 (hb hby d5_35) rfl ?_
  refine own_icmpYes X146 hx 54 (hb hby d5_38) (tlt hx0).2.2.1 (by decide) (by decide) ?_
  refine own_aload X146 hx (hb hby d5_54) rfl rfl ?_
  refine own_retA X146 hx hlk hret rfl rfl rfl (hb hby d5_56) (own_kN (by decide) (by decide) ?_)
  try rw [e146]
  exact ⟨b145, kb145, rfl, N146, (Keep.trans (Keep.trans (Keep.ext (Keep.refl h0 []) E143) K144 (allS (Or.inr szo_b143) all0)) K145 all0), szo_b145, g_b145, Eb145, Vb145⟩
set_option maxRecDepth 65536 in
set_option maxHeartbeats 40000000 in
theorem rmIu2_3_0 (l : Launch) (Z : State) (a0 : Array Value) (hw : own_Wd a0 Z) (ws : List Jvm.Cond) (a ca : Addr) (kc : ClassId) (cs c0 c1 c2 : Int32)  (h0 : Heap) (n0 : Nat) (Z0 : n0 ≤ h0.size) (Ea : Exa Z h0 a "java/lang/String") (Fv : Fld Z h0 a "java/lang/String" "value" "[B" .null) (Fc : Fld Z h0 a "java/lang/String" "coder" "B" (.int 0)) (g_a : n0 ≤ a) (Sc : Sta Z h0 "java/lang/String" "COMPACT_STRINGS" "Z" (.int cs)) (hcs : ¬ (cs = (0 : Int32))) (Sad : Sta Z h0 "java/lang/StringUTF16" "$assertionsDisabled" "Z" (.int 1)) (Shi : Sta Z h0 "java/lang/StringUTF16" "HI_BYTE_SHIFT" "I" (.int 0)) (Slo : Sta Z h0 "java/lang/StringUTF16" "LO_BYTE_SHIFT" "I" (.int 8)) (Vc : Arv Z h0 ca kc .char (3 : Int32) [(.int c0), (.int c1), (.int c2)] (.int 0)) (Ecs : Exa Z h0 ca "[C") (hx0 : (255 : Int32) < c0) (lo0 : ¬ c0 < (0 : Int32)) (hi0 : ¬ (65535 : Int32) < c0) :
    own_Met l (⟨"java/lang/String", "<init>", "([CIILjava/lang/Void;)V"⟩ : MethodName) jdk_42_method_149_code 6 none ws ({ frames := 4, cells := 2, slots := 9, locals := 57 } : Room) Z #[(.ref a), (.ref ca), (.int 0), (.int 3), .null] h0 (fun v h L => v = none ∧ Fr n0 L ∧ Keep h0 h [a] ∧ ∃ b k, h0.size ≤ b ∧ Exa Z h b "[B" ∧ Exa Z h a "java/lang/String" ∧ Fld Z h a "java/lang/String" "value" "[B" (.ref b) ∧ Fld Z h a "java/lang/String" "coder" "B" (.int 1) ∧ Arv Z h b k .byte (6 : Int32) [(.int (own_lo c0)), (.int (own_hi c0)), (.int (own_lo c1)), (.int (own_hi c1)), (.int (own_lo c2)), (.int (own_hi c2))] (.int 0)) := by
  refine own_body (plainFor_of_name pn_1) ?_
  intro p e s m below meth c s₁ X0 hx hby hml hown hnm hret hlk hZ e0
  replace hown : s.vm.findClass "java/lang/String" = some m.cls := hown
  replace hml : c.maxLocals = 6 := hml
  replace hret : meth.sig.returnType = none := hret
  have N0 := Fr.nil n0
  refine own_ef (L0 := #[.val (.ref a), .val (.ref ca), .val (.int 0), .val (.int 3), .val .null, .unset]) (by first | (simp [entryFrame, mkF, argsToLocals, Value.category]; done) | rfl) ?_
  refine own_aloadN X0 hx (hb hby d3_0) rfl rfl ?_
  refine own_initO (W := 0) X0 hx hZ hown (own_m hw 16 rfl) (own_m hw 17 rfl) (own_m hw 18 rfl) e0 (by rw [hml]; rfl) (hb hby d3_1) (by decide) (Nat.le_of_eq rfl) (by decide) fun T147 X147 e147 => ?_
  refine own_iloadN X147 hx (hb hby d3_4) rfl ?_
  refine own_ifYes X147 hx 27 (hb hby d3_5) (feq (by decide : ¬ ((3 : Int32) = (0 : Int32)))).2 (by decide) (by decide) ?_
  refine own_getS X147 hx hZ hown (host := "") (Or.inl (own_m hw 19 rfl)) Via.refl e147 Sc (hb hby d3_27) fun T148 X148 e148 => ?_
  refine own_ifNo X148 hx (hb hby d3_30) (feq hcs).1 ?_
  refine own_aloadN X148 hx (hb hby d3_33) rfl rfl ?_
  refine own_iloadN X148 hx (hb hby d3_34) rfl ?_
  refine own_iloadN X148 hx (hb hby d3_35) rfl ?_
  refine own_cStat (W := 0) (rest := []) X148 hx hZ [(.ref ca), (.int 0), (.int 3)] hown (own_m hw 20 rfl) (own_m hw 21 rfl) (by decide) (own_m hw 23 rfl) (own_m hw 22 rfl) e148 (rmCu1_3_0 l Z a0 hw [] ca kc c0 c1 c2 h0 n0 Z0 Sad Shi Slo Vc hx0 lo0 hi0) (by rw [hml]; rfl) (lenOf pd_1 rfl) rfl (Nat.le_of_eq rfl) (hb hby d3_36) (by decide) (by decide) (by decide) (by decide) fun v149 T149 L149 X149 hQ149 => ?_
  obtain ⟨b149, kb149, rfl, N149q, K149, szb149, gb149, Eb149, Vb149⟩ := hQ149
  have N149 := Fr.app N0 N149q
  have g_b149 := gb149
  have szo_b149 : h0.size ≤ b149 := Nat.le_trans (Nat.le_refl h0.size) szb149
  show own_At p e below _ T149 m 39 _ [(.ref b149)]
  refine own_astore (l' := #[.val (.ref a), .val (.ref ca), .val (.int 0), .val (.int 3), .val .null, .val (.ref b149)]) X149 hx (hb hby d3_39) rfl rfl ?_
  refine own_aloadN X149 hx (hb hby d3_41) rfl rfl ?_
  refine own_aload X149 hx (hb hby d3_42) rfl rfl ?_
  refine own_iloadN X149 hx (hb hby d3_44) rfl ?_
  refine own_cStat (W := 1) (rest := [(.ref a)]) X149 hx hZ [(.ref b149), (.int 3)] hown (own_m hw 28 rfl) (own_m hw 29 rfl) (by decide) (own_m hw 30 rfl) (own_m hw 22 rfl) rfl (rmCFu_3 l Z a0 hw [] b149 T149.heap n0 (Nat.le_trans Z0 K149.1) (own_alnV Vb149)) (by rw [hml]; rfl) (lenOf pd_2 rfl) rfl (Nat.le_of_eq rfl) (hb hby d3_45) (by decide) (by decide) (by decide) (by decide) fun v150 T150 L150 X150 hQ150 => ?_
  obtain ⟨rfl, N150q, e150⟩ := hQ150
  have N150 := Fr.app N149 N150q
  show own_At p e below _ T150 m 48 _ [(.int 1), (.ref a)]
  obtain ⟨T151, h151, X151, e151, W151, st151⟩ := putFN X150 hx hZ hown (own_m hw 31 rfl) Via.refl e150 (Fld.keep Fc K149 nin0) (Exa.keep Ea K149) (Or.inr ⟨(own_m hw 32 rfl), rfl, hnm⟩) (own_m hw 6 rfl) (ty := .byte) (v' := (.int 1)) (by decide) rfl rfl (g := (mkF m 48 #[.val (.ref a), .val (.ref ca), .val (.int 0), .val (.int 3), .val .null, .val (.ref b149)] [(.int 1), (.ref a)])) rfl rfl (hb hby d3_48)
  refine own_step (S' := (T151.setTop (mkF m 51 #[.val (.ref a), .val (.ref ca), .val (.int 0), .val (.int 3), .val .null, .val (.ref b149)] []))) (fun _ k => st151 _ k) ?_
  have Fw151 := Fld.same W151 (Fld.keep Fc K149 nin0)
  have N151 := Fr.snoc X151 N150 g_a
  refine own_aloadN X151 hx (hb hby d3_51) rfl rfl ?_
  refine own_aload X151 hx (hb hby d3_52) rfl rfl ?_
  refine own_putF X151 hx hZ hown (host := "") (Or.inl (own_m hw 33 rfl)) Via.refl e151 (Fld.other W151 (Fld.keep Fv K149 nin0) (Or.inr (slot_ne (Or.inr (own_m hw 34 rfl)) (Or.inr (own_m hw 32 rfl)) (by decide) (t := (.array .byte)) (t' := .byte) (by decide) (by decide)))) (Exa.wr W151 (Exa.keep Ea K149)) (Or.inr ⟨(own_m hw 34 rfl), rfl, hnm⟩) (own_m hw 6 rfl) (ty := (.array .byte)) (by decide) rfl rfl (hb hby d3_54) fun T152 h152 X152 e152 W152 => ?_
  have Fw152 := Fld.same W152 (Fld.other W151 (Fld.keep Fv K149 nin0) (Or.inr (slot_ne (Or.inr (own_m hw 34 rfl)) (Or.inr (own_m hw 32 rfl)) (by decide) (t := (.array .byte)) (t' := .byte) (by decide) (by decide))))
  have N152 := Fr.snoc X152 N151 g_a
  refine own_retV X152 hx hlk hret (hb hby d3_57) (own_kN (by decide) (by decide) ?_)
  try rw [e152]
  exact ⟨rfl, N152, (Keep.wr (Keep.wr (Keep.trans (Keep.refl h0 [a]) K149 all0) W151 (Or.inl (List.mem_of_getElem? (i := 0) rfl))) W152 (Or.inl (List.mem_of_getElem? (i := 0) rfl))), b149, kb149, szo_b149, (Exa.wr W152 (Exa.wr W151 Eb149)), (Exa.wr W152 (Exa.wr W151 (Exa.keep Ea K149))), Fw152, (Fld.other W152 Fw151 (Or.inr (slot_ne (Or.inr (own_m hw 32 rfl)) (Or.inr (own_m hw 34 rfl)) (by decide) (t := .byte) (t' := (.array .byte)) (by decide) (by decide)))), (Arv.other (Arv.other Vb149 W151 (Ne.symm (Nat.ne_of_lt (Nat.lt_of_lt_of_le Ea.lt szb149)))) W152 (Ne.symm (Nat.ne_of_lt (Nat.lt_of_lt_of_le Ea.lt szb149))))⟩
set_option maxRecDepth 65536 in
set_option maxHeartbeats 40000000 in
theorem rmIu1_3_0 (l : Launch) (Z : State) (a0 : Array Value) (hw : own_Wd a0 Z) (ws : List Jvm.Cond) (a ca : Addr) (kc : ClassId) (cs c0 c1 c2 : Int32)  (h0 : Heap) (n0 : Nat) (Z0 : n0 ≤ h0.size) (Ea : Exa Z h0 a "java/lang/String") (Fv : Fld Z h0 a "java/lang/String" "value" "[B" .null) (Fc : Fld Z h0 a "java/lang/String" "coder" "B" (.int 0)) (g_a : n0 ≤ a) (Sc : Sta Z h0 "java/lang/String" "COMPACT_STRINGS" "Z" (.int cs)) (hcs : ¬ (cs = (0 : Int32))) (Sad : Sta Z h0 "java/lang/StringUTF16" "$assertionsDisabled" "Z" (.int 1)) (Shi : Sta Z h0 "java/lang/StringUTF16" "HI_BYTE_SHIFT" "I" (.int 0)) (Slo : Sta Z h0 "java/lang/StringUTF16" "LO_BYTE_SHIFT" "I" (.int 8)) (Vc : Arv Z h0 ca kc .char (3 : Int32) [(.int c0), (.int c1), (.int c2)] (.int 0)) (Ecs : Exa Z h0 ca "[C") (hx0 : (255 : Int32) < c0) (lo0 : ¬ c0 < (0 : Int32)) (hi0 : ¬ (65535 : Int32) < c0) :
    own_Met l (⟨"java/lang/String", "<init>", "([C)V"⟩ : MethodName) jdk_42_method_3_code 2 none ws ({ frames := 5, cells := 2, slots := 9, locals := 74 } : Room) Z #[(.ref a), (.ref ca)] h0 (fun v h L => v = none ∧ Fr n0 L ∧ Keep h0 h [a] ∧ ∃ b k, h0.size ≤ b ∧ Exa Z h b "[B" ∧ Exa Z h a "java/lang/String" ∧ Fld Z h a "java/lang/String" "value" "[B" (.ref b) ∧ Fld Z h a "java/lang/String" "coder" "B" (.int 1) ∧ Arv Z h b k .byte (6 : Int32) [(.int (own_lo c0)), (.int (own_hi c0)), (.int (own_lo c1)), (.int (own_hi c1)), (.int (own_lo c2)), (.int (own_hi c2))] (.int 0)) := by
  refine own_body (plainFor_of_name pn_1) ?_
  intro p e s m below meth c s₁ X0 hx hby hml hown hnm hret hlk hZ e0
  replace hown : s.vm.findClass "java/lang/String" = some m.cls := hown
  replace hml : c.maxLocals = 2 := hml
  replace hret : meth.sig.returnType = none := hret
  have N0 := Fr.nil n0
  refine own_ef (L0 := #[.val (.ref a), .val (.ref ca)]) (by first | (simp [entryFrame, mkF, argsToLocals, Value.category]; done) | rfl) ?_
  refine own_aloadN X0 hx (hb hby d2_0) rfl rfl ?_
  refine own_aloadN X0 hx (hb hby d2_1) rfl rfl ?_
  refine own_iconst X0 hx 0 (hb hby d2_2) rfl ?_
  refine own_aloadN X0 hx (hb hby d2_3) rfl rfl ?_
  refine own_arraylength X0 hx hZ e0 (own_alnV Vc) (hb hby d2_4) ?_
  refine own_aconstNull X0 hx (hb hby d2_5) ?_
  refine own_cSpec (b := a) (W := 0) (rest := []) X0 hx hZ [(.ref ca), (.int 0), (.int 3), .null] rfl hown (own_m hw 12 rfl) (own_m hw 13 rfl) (by decide) (own_m hw 15 rfl) (own_m hw 7 rfl) e0 (rmIu2_3_0 l Z a0 hw [] a ca kc cs c0 c1 c2 h0 n0 Z0 Ea Fv Fc g_a Sc hcs Sad Shi Slo Vc Ecs hx0 lo0 hi0) (by rw [hml]; rfl) (lenOf pd_3 rfl) rfl (Nat.le_of_eq rfl) (hb hby d2_6) (by decide) (by decide) (by decide) (by decide) fun v153 T153 L153 X153 hQ153 => ?_
  obtain ⟨rfl, N153q, K153, R153⟩ := hQ153
  have N153 := Fr.app N0 N153q
  show own_At p e below _ T153 m 9 _ []
  refine own_retV X153 hx hlk hret (hb hby d2_9) (own_kN (by decide) (by decide) ?_)
  exact ⟨rfl, N153, K153, R153⟩
set_option maxRecDepth 65536 in
set_option maxHeartbeats 40000000 in
theorem rmCu2_3_1 (l : Launch) (Z : State) (a0 : Array Value) (hw : own_Wd a0 Z) (ws : List Jvm.Cond) (ca ba : Addr) (kc kb : ClassId) (c0 c1 c2 : Int32)  (h0 : Heap) (n0 : Nat) (Z0 : n0 ≤ h0.size) (Vc : Arv Z h0 ca kc .char (3 : Int32) [(.int c0), (.int c1), (.int c2)] (.int 0)) (Vb : Arv Z h0 ba kb .byte (3 : Int32) [(.int 0), (.int 0), (.int 0)] (.int 0)) (g_ba : n0 ≤ ba) (hne : ca ≠ ba) (hx0 : ¬ ((255 : Int32) < c0)) (hx1 : (255 : Int32) < c1) :
    own_Met l (⟨"java/lang/StringUTF16", "compress", "([CI[BII)I"⟩ : MethodName) jdk_52_method_21_code 7 (some .int) ws ({ frames := 0, cells := 0, slots := 0, locals := 0 } : Room) Z #[(.ref ca), (.int 0), (.ref ba), (.int 0), (.int 3)] h0 (fun v h L => v = some (.int 1) ∧ Fr n0 L ∧ Keep h0 h [ba]) := by
  refine own_body (plainFor_of_name pn_0) ?_
  intro p e s m below meth c s₁ X0 hx hby hml hown hnm hret hlk hZ e0
  replace hown : s.vm.findClass "java/lang/StringUTF16" = some m.cls := hown
  replace hml : c.maxLocals = 7 := hml
  replace hret : meth.sig.returnType = (some .int) := hret
  have N0 := Fr.nil n0
  refine own_ef (L0 := #[.val (.ref ca), .val (.int 0), .val (.ref ba), .val (.int 0), .val (.int 3), .unset, .unset]) (by first | (simp [entryFrame, mkF, argsToLocals, Value.category]; done) | rfl) ?_
  refine own_iconst X0 hx 0 (hb hby d6_0) rfl ?_
  refine own_istore (l' := #[.val (.ref ca), .val (.int 0), .val (.ref ba), .val (.int 0), .val (.int 3), .val (.int 0), .unset]) X0 hx (hb hby d6_1) rfl ?_
  refine own_iload X0 hx (hb hby d6_3) rfl ?_
  refine own_iload X0 hx (hb hby d6_5) rfl ?_
  refine own_icmpNo X0 hx (hb hby d6_7) (tlt (by decide : (0 : Int32) < (3 : Int32))).2.1 ?_
  refine own_aloadN X0 hx (hb hby d6_10) rfl rfl ?_
  refine own_iloadN X0 hx (hb hby d6_11) rfl ?_
  refine own_caload X0 hx hZ (.int c0) e0 Vc ⟨by decide, by decide⟩ rfl (hb hby d6_12) ?_
  refine own_istore (l' := #[.val (.ref ca), .val (.int 0), .val (.ref ba), .val (.int 0), .val (.int 3), .val (.int 0), .val (.int c0)]) X0 hx (hb hby d6_13) rfl ?_
  refine own_iload X0 hx (hb hby d6_15) rfl ?_
  refine own_sipush X0 hx 255 (hb hby d6_17) rfl ?_
  refine own_icmpYes X0 hx 26 (hb hby d6_20) (flt hx0).2.2.2 (by decide) (by decide) ?_
  refine own_aloadN X0 hx (hb hby d6_26) rfl rfl ?_
  refine own_iloadN X0 hx (hb hby d6_27) rfl ?_
  refine own_iload X0 hx (hb hby d6_28) rfl ?_
  refine own_i2b X0 hx (hb hby d6_30) ?_
  refine own_stB (vs' := [(.int (c0.toInt8.toInt32)), (.int 0), (.int 0)]) (w := (.int (c0.toInt8.toInt32))) X0 hx hZ e0 Vb ⟨by decide, by decide⟩ 0 rfl (Nat.le_of_ble_eq_true rfl) (congrArg Value.int (own_b8 _)) rfl (hb hby d6_31) fun T154 h154 X154 e154 W154 V154 => ?_
  have N154 := Fr.snoc X154 N0 g_ba
  refine own_iinc (l' := #[.val (.ref ca), .val (.int ((0 : Int32) + (1 : Int32))), .val (.ref ba), .val (.int 0), .val (.int 3), .val (.int 0), .val (.int c0)]) X154 hx (hb hby d6_32) rfl rfl ?_
  rw [show ((0 : Int32) + (1 : Int32)) = (1 : Int32) from by decide]
  refine own_iinc (l' := #[.val (.ref ca), .val (.int 1), .val (.ref ba), .val (.int ((0 : Int32) + (1 : Int32))), .val (.int 3), .val (.int 0), .val (.int c0)]) X154 hx (hb hby d6_35) rfl rfl ?_
  rw [show ((0 : Int32) + (1 : Int32)) = (1 : Int32) from by decide]
  refine own_iinc (l' := #[.val (.ref ca), .val (.int 1), .val (.ref ba), .val (.int 1), .val (.int 3), .val (.int ((0 : Int32) + (1 : Int32))), .val (.int c0)]) X154 hx (hb hby d6_38) rfl rfl ?_
  rw [show ((0 : Int32) + (1 : Int32)) = (1 : Int32) from by decide]
  refine own_goto X154 hx 3 (hb hby d6_41) (by decide) (by decide) ?_
  refine own_iload X154 hx (hb hby d6_3) rfl ?_
  refine own_iload X154 hx (hb hby d6_5) rfl ?_
  refine own_icmpNo X154 hx (hb hby d6_7) (tlt (by decide : (1 : Int32) < (3 : Int32))).2.1 ?_
  refine own_aloadN X154 hx (hb hby d6_10) rfl rfl ?_
  refine own_iloadN X154 hx (hb hby d6_11) rfl ?_
  refine own_caload X154 hx hZ (.int c1) e154 (Arv.other Vc W154 hne) ⟨by decide, by decide⟩ rfl (hb hby d6_12) ?_
  refine own_istore (l' := #[.val (.ref ca), .val (.int 1), .val (.ref ba), .val (.int 1), .val (.int 3), .val (.int 1), .val (.int c1)]) X154 hx (hb hby d6_13) rfl ?_
  refine own_iload X154 hx (hb hby d6_15) rfl ?_
  refine own_sipush X154 hx 255 (hb hby d6_17) rfl ?_
  refine own_icmpNo X154 hx (hb hby d6_20) (tlt hx1).2.2.2 ?_
  refine own_iload X154 hx (hb hby d6_23) rfl ?_
  refine own_retI X154 hx hlk hret (hb hby d6_25) (own_kN (by decide) (by decide) ?_)
  try rw [e154]
  exact ⟨rfl, N154, (Keep.wr (Keep.refl h0 [ba]) W154 (Or.inl (List.mem_of_getElem? (i := 0) rfl)))⟩
set_option maxRecDepth 65536 in
set_option maxHeartbeats 40000000 in
theorem rmCu1_3_1 (l : Launch) (Z : State) (a0 : Array Value) (hw : own_Wd a0 Z) (ws : List Jvm.Cond) (ca : Addr) (kc : ClassId) (c0 c1 c2 : Int32)  (h0 : Heap) (n0 : Nat) (Z0 : n0 ≤ h0.size) (Sad : Sta Z h0 "java/lang/StringUTF16" "$assertionsDisabled" "Z" (.int 1)) (Shi : Sta Z h0 "java/lang/StringUTF16" "HI_BYTE_SHIFT" "I" (.int 0)) (Slo : Sta Z h0 "java/lang/StringUTF16" "LO_BYTE_SHIFT" "I" (.int 8)) (Vc : Arv Z h0 ca kc .char (3 : Int32) [(.int c0), (.int c1), (.int c2)] (.int 0)) (hx0 : ¬ ((255 : Int32) < c0)) (hx1 : (255 : Int32) < c1) (lo1 : ¬ c1 < (0 : Int32)) (hi1 : ¬ (65535 : Int32) < c1) :
    own_Met l (⟨"java/lang/StringUTF16", "compress", "([CII)[B"⟩ : MethodName) jdk_52_method_16_code 6 (some (.array .byte)) ws ({ frames := 3, cells := 2, slots := 9, locals := 40 } : Room) Z #[(.ref ca), (.int 0), (.int 3)] h0 (fun v h L => ∃ b k, v = some (.ref b) ∧ Fr n0 L ∧ Keep h0 h [] ∧ h0.size ≤ b ∧ n0 ≤ b ∧ Exa Z h b "[B" ∧ Arv Z h b k .byte (6 : Int32) [(.int (own_lo c0)), (.int (own_hi c0)), (.int (own_lo c1)), (.int (own_hi c1)), (.int (own_lo c2)), (.int (own_hi c2))] (.int 0)) := by
  refine own_body (plainFor_of_name pn_0) ?_
  intro p e s m below meth c s₁ X0 hx hby hml hown hnm hret hlk hZ e0
  replace hown : s.vm.findClass "java/lang/StringUTF16" = some m.cls := hown
  replace hml : c.maxLocals = 6 := hml
  replace hret : meth.sig.returnType = (some (.array .byte)) := hret
  have N0 := Fr.nil n0
  refine own_ef (L0 := #[.val (.ref ca), .val (.int 0), .val (.int 3), .unset, .unset, .unset]) (by first | (simp [entryFrame, mkF, argsToLocals, Value.category]; done) | rfl) ?_
  refine own_iloadN X0 hx (hb hby d5_0) rfl ?_
  refine own_newP (n := (3 : Int32)) (cap := 3) (ad := "[B") X0 hx hZ (own_m hw 24 rfl) e0 (hb hby d5_1) (by decide) (by decide) (by decide) (by decide) (by decide) (by decide) fun T155 h155 k155 b155 g155 X155 e155 E155 A155 Ex155 => ?_
  have g_b155 : n0 ≤ b155 := Nat.le_trans Z0 (Nat.le_of_eq g155.symm)
  have szo_b155 : h0.size ≤ b155 := Nat.le_trans (Nat.le_refl h0.size) (Nat.le_of_eq g155.symm)
  have V155 : Arv Z h155 b155 k155 .byte (3 : Int32) [(.int 0), (.int 0), (.int 0)] (.int 0) := (Arv.new A155 (by decide)).pad (pad_rep [] (.int 0) 3)
  refine own_astoreN (l' := #[.val (.ref ca), .val (.int 0), .val (.int 3), .val (.ref b155), .unset, .unset]) X155 hx (hb hby d5_3) rfl rfl ?_
  refine own_aloadN X155 hx (hb hby d5_4) rfl rfl ?_
  refine own_iloadN X155 hx (hb hby d5_5) rfl ?_
  refine own_aloadN X155 hx (hb hby d5_6) rfl rfl ?_
  refine own_iconst X155 hx 0 (hb hby d5_7) rfl ?_
  refine own_iloadN X155 hx (hb hby d5_8) rfl ?_
  refine own_cStat (W := 0) (rest := []) X155 hx hZ [(.ref ca), (.int 0), (.ref b155), (.int 0), (.int 3)] hown (own_m hw 25 rfl) (own_m hw 26 rfl) (by decide) (own_m hw 27 rfl) (own_m hw 22 rfl) e155 (rmCu2_3_1 l Z a0 hw [] ca b155 kc k155 c0 c1 c2 h155 n0 (Nat.le_trans Z0 E155.1) (Vc.ext E155) V155 g_b155 (Nat.ne_of_lt (Nat.lt_of_lt_of_le Vc.lt (Nat.le_of_eq g155.symm))) hx0 hx1) (by rw [hml]; rfl) (lenOf pd_0 rfl) rfl (Nat.le_of_eq rfl) (hb hby d5_9) (by decide) (by decide) (by decide) (by decide) fun v156 T156 L156 X156 hQ156 => ?_
  obtain ⟨rfl, N156q, K156⟩ := hQ156
  have N156 := Fr.app N0 N156q
  show own_At p e below _ T156 m 12 _ [(.int 1)]
  refine own_istore (l' := #[.val (.ref ca), .val (.int 0), .val (.int 3), .val (.ref b155), .val (.int 1), .unset]) X156 hx (hb hby d5_12) rfl ?_
  refine own_iload X156 hx (hb hby d5_14) rfl ?_
  refine own_iloadN X156 hx (hb hby d5_16) rfl ?_
  refine own_icmpNo X156 hx (hb hby d5_17) (feq (by decide : ¬ ((1 : Int32) = (3 : Int32)))).1 ?_
  refine own_aloadN X156 hx (hb hby d5_20) rfl rfl ?_
  refine own_iloadN X156 hx (hb hby d5_21) rfl ?_
  refine own_iloadN X156 hx (hb hby d5_22) rfl ?_
  refine own_cStat (W := 0) (rest := []) X156 hx hZ [(.ref ca), (.int 0), (.int 3)] hown (own_m hw 103 rfl) (own_m hw 104 rfl) (by decide) (own_m hw 105 rfl) (own_m hw 22 rfl) rfl (rmTB_3 l Z a0 hw [] ca kc c0 c1 c2 T156.heap n0 (Nat.le_trans (Nat.le_trans Z0 E155.1) K156.1) (own_staKeep (Sta.ext E155 Sad) K156 (allS (own_exaStat Ex155) all0)) (own_staKeep (Sta.ext E155 Shi) K156 (allS (own_exaStat Ex155) all0)) (own_staKeep (Sta.ext E155 Slo) K156 (allS (own_exaStat Ex155) all0)) (Arv.keep (Vc.ext E155) K156 (ninS (Nat.ne_of_lt (Nat.lt_of_lt_of_le Vc.lt (Nat.le_of_eq g155.symm))) nin0))) (by rw [hml]; rfl) (lenOf pd_1 rfl) rfl (Nat.le_of_eq rfl) (hb hby d5_23) (by decide) (by decide) (by decide) (by decide) fun v157 T157 L157 X157 hQ157 => ?_
  obtain ⟨b157, kb157, rfl, N157q, K157, szb157, gb157, Eb157, Vb157⟩ := hQ157
  have N157 := Fr.app N156 N157q
  have g_b157 := gb157
  have szo_b157 : h0.size ≤ b157 := Nat.le_trans (Nat.le_trans (Nat.le_trans (Nat.le_refl h0.size) E155.1) K156.1) szb157
  show own_At p e below _ T157 m 26 _ [(.ref b157)]
  refine own_astore (l' := #[.val (.ref ca), .val (.int 0), .val (.int 3), .val (.ref b155), .val (.int 1), .val (.ref b157)]) X157 hx (hb hby d5_26) rfl rfl ?_
  refine own_aload X157 hx (hb hby d5_28) rfl rfl ?_
  refine own_iload X157 hx (hb hby d5_30) rfl ?_
  refine own_cStat (W := 0) (rest := []) X157 hx hZ [(.ref b157), (.int 1)] hown (own_m hw 119 rfl) (own_m hw 120 rfl) (by decide) (own_m hw 121 rfl) (own_m hw 22 rfl) rfl (rmGet_3_1 l Z a0 hw [] b157 kb157 (own_lo c0) (own_hi c0) (own_lo c1) (own_hi c1) (own_lo c2) (own_hi c2) T157.heap n0 (Nat.le_trans (Nat.le_trans (Nat.le_trans Z0 E155.1) K156.1) K157.1) (own_staKeep (own_staKeep (Sta.ext E155 Sad) K156 (allS (own_exaStat Ex155) all0)) K157 all0) (own_staKeep (own_staKeep (Sta.ext E155 Shi) K156 (allS (own_exaStat Ex155) all0)) K157 all0) (own_staKeep (own_staKeep (Sta.ext E155 Slo) K156 (allS (own_exaStat Ex155) all0)) K157 all0) Vb157) (by rw [hml]; rfl) (lenOf pd_7 rfl) rfl (Nat.le_of_eq rfl) (hb hby d5_32) (by decide) (by decide) (by decide) (by decide) fun v158 T158 L158 X158 hQ158 => ?_
  obtain ⟨rfl, N158q, e158⟩ := hQ158
  have N158 := Fr.app N157 N158q
  show own_At p e below _ T158 m 35 _ [(.int (own_gc (own_lo c1) (own_hi c1)))]
  rw [own_gcc lo1 hi1]
  refine own_sipush X158 hx 255 (hb hby d5_35) rfl ?_
  refine own_icmpYes X158 hx 54 (hb hby d5_38) (tlt hx1).2.2.1 (by decide) (by decide) ?_
  refine own_aload X158 hx (hb hby d5_54) rfl rfl ?_
  refine own_retA X158 hx hlk hret rfl rfl rfl (hb hby d5_56) (own_kN (by decide) (by decide) ?_)
  try rw [e158]
  exact ⟨b157, kb157, rfl, N158, (Keep.trans (Keep.trans (Keep.ext (Keep.refl h0 []) E155) K156 (allS (Or.inr szo_b155) all0)) K157 all0), szo_b157, g_b157, Eb157, Vb157⟩
set_option maxRecDepth 65536 in
set_option maxHeartbeats 40000000 in
theorem rmIu2_3_1 (l : Launch) (Z : State) (a0 : Array Value) (hw : own_Wd a0 Z) (ws : List Jvm.Cond) (a ca : Addr) (kc : ClassId) (cs c0 c1 c2 : Int32)  (h0 : Heap) (n0 : Nat) (Z0 : n0 ≤ h0.size) (Ea : Exa Z h0 a "java/lang/String") (Fv : Fld Z h0 a "java/lang/String" "value" "[B" .null) (Fc : Fld Z h0 a "java/lang/String" "coder" "B" (.int 0)) (g_a : n0 ≤ a) (Sc : Sta Z h0 "java/lang/String" "COMPACT_STRINGS" "Z" (.int cs)) (hcs : ¬ (cs = (0 : Int32))) (Sad : Sta Z h0 "java/lang/StringUTF16" "$assertionsDisabled" "Z" (.int 1)) (Shi : Sta Z h0 "java/lang/StringUTF16" "HI_BYTE_SHIFT" "I" (.int 0)) (Slo : Sta Z h0 "java/lang/StringUTF16" "LO_BYTE_SHIFT" "I" (.int 8)) (Vc : Arv Z h0 ca kc .char (3 : Int32) [(.int c0), (.int c1), (.int c2)] (.int 0)) (Ecs : Exa Z h0 ca "[C") (hx0 : ¬ ((255 : Int32) < c0)) (hx1 : (255 : Int32) < c1) (lo1 : ¬ c1 < (0 : Int32)) (hi1 : ¬ (65535 : Int32) < c1) :
    own_Met l (⟨"java/lang/String", "<init>", "([CIILjava/lang/Void;)V"⟩ : MethodName) jdk_42_method_149_code 6 none ws ({ frames := 4, cells := 2, slots := 9, locals := 57 } : Room) Z #[(.ref a), (.ref ca), (.int 0), (.int 3), .null] h0 (fun v h L => v = none ∧ Fr n0 L ∧ Keep h0 h [a] ∧ ∃ b k, h0.size ≤ b ∧ Exa Z h b "[B" ∧ Exa Z h a "java/lang/String" ∧ Fld Z h a "java/lang/String" "value" "[B" (.ref b) ∧ Fld Z h a "java/lang/String" "coder" "B" (.int 1) ∧ Arv Z h b k .byte (6 : Int32) [(.int (own_lo c0)), (.int (own_hi c0)), (.int (own_lo c1)), (.int (own_hi c1)), (.int (own_lo c2)), (.int (own_hi c2))] (.int 0)) := by
  refine own_body (plainFor_of_name pn_1) ?_
  intro p e s m below meth c s₁ X0 hx hby hml hown hnm hret hlk hZ e0
  replace hown : s.vm.findClass "java/lang/String" = some m.cls := hown
  replace hml : c.maxLocals = 6 := hml
  replace hret : meth.sig.returnType = none := hret
  have N0 := Fr.nil n0
  refine own_ef (L0 := #[.val (.ref a), .val (.ref ca), .val (.int 0), .val (.int 3), .val .null, .unset]) (by first | (simp [entryFrame, mkF, argsToLocals, Value.category]; done) | rfl) ?_
  refine own_aloadN X0 hx (hb hby d3_0) rfl rfl ?_
  refine own_initO (W := 0) X0 hx hZ hown (own_m hw 16 rfl) (own_m hw 17 rfl) (own_m hw 18 rfl) e0 (by rw [hml]; rfl) (hb hby d3_1) (by decide) (Nat.le_of_eq rfl) (by decide) fun T159 X159 e159 => ?_
  refine own_iloadN X159 hx (hb hby d3_4) rfl ?_
  refine own_ifYes X159 hx 27 (hb hby d3_5) (feq (by decide : ¬ ((3 : Int32) = (0 : Int32)))).2 (by decide) (by decide) ?_
  refine own_getS X159 hx hZ hown (host := "") (Or.inl (own_m hw 19 rfl)) Via.refl e159 Sc (hb hby d3_27) fun T160 X160 e160 => ?_
  refine own_ifNo X160 hx (hb hby d3_30) (feq hcs).1 ?_
  refine own_aloadN X160 hx (hb hby d3_33) rfl rfl ?_
  refine own_iloadN X160 hx (hb hby d3_34) rfl ?_
  refine own_iloadN X160 hx (hb hby d3_35) rfl ?_
  refine own_cStat (W := 0) (rest := []) X160 hx hZ [(.ref ca), (.int 0), (.int 3)] hown (own_m hw 20 rfl) (own_m hw 21 rfl) (by decide) (own_m hw 23 rfl) (own_m hw 22 rfl) e160 (rmCu1_3_1 l Z a0 hw [] ca kc c0 c1 c2 h0 n0 Z0 Sad Shi Slo Vc hx0 hx1 lo1 hi1) (by rw [hml]; rfl) (lenOf pd_1 rfl) rfl (Nat.le_of_eq rfl) (hb hby d3_36) (by decide) (by decide) (by decide) (by decide) fun v161 T161 L161 X161 hQ161 => ?_
  obtain ⟨b161, kb161, rfl, N161q, K161, szb161, gb161, Eb161, Vb161⟩ := hQ161
  have N161 := Fr.app N0 N161q
  have g_b161 := gb161
  have szo_b161 : h0.size ≤ b161 := Nat.le_trans (Nat.le_refl h0.size) szb161
  show own_At p e below _ T161 m 39 _ [(.ref b161)]
  refine own_astore (l' := #[.val (.ref a), .val (.ref ca), .val (.int 0), .val (.int 3), .val .null, .val (.ref b161)]) X161 hx (hb hby d3_39) rfl rfl ?_
  refine own_aloadN X161 hx (hb hby d3_41) rfl rfl ?_
  refine own_aload X161 hx (hb hby d3_42) rfl rfl ?_
  refine own_iloadN X161 hx (hb hby d3_44) rfl ?_
  refine own_cStat (W := 1) (rest := [(.ref a)]) X161 hx hZ [(.ref b161), (.int 3)] hown (own_m hw 28 rfl) (own_m hw 29 rfl) (by decide) (own_m hw 30 rfl) (own_m hw 22 rfl) rfl (rmCFu_3 l Z a0 hw [] b161 T161.heap n0 (Nat.le_trans Z0 K161.1) (own_alnV Vb161)) (by rw [hml]; rfl) (lenOf pd_2 rfl) rfl (Nat.le_of_eq rfl) (hb hby d3_45) (by decide) (by decide) (by decide) (by decide) fun v162 T162 L162 X162 hQ162 => ?_
  obtain ⟨rfl, N162q, e162⟩ := hQ162
  have N162 := Fr.app N161 N162q
  show own_At p e below _ T162 m 48 _ [(.int 1), (.ref a)]
  obtain ⟨T163, h163, X163, e163, W163, st163⟩ := putFN X162 hx hZ hown (own_m hw 31 rfl) Via.refl e162 (Fld.keep Fc K161 nin0) (Exa.keep Ea K161) (Or.inr ⟨(own_m hw 32 rfl), rfl, hnm⟩) (own_m hw 6 rfl) (ty := .byte) (v' := (.int 1)) (by decide) rfl rfl (g := (mkF m 48 #[.val (.ref a), .val (.ref ca), .val (.int 0), .val (.int 3), .val .null, .val (.ref b161)] [(.int 1), (.ref a)])) rfl rfl (hb hby d3_48)
  refine own_step (S' := (T163.setTop (mkF m 51 #[.val (.ref a), .val (.ref ca), .val (.int 0), .val (.int 3), .val .null, .val (.ref b161)] []))) (fun _ k => st163 _ k) ?_
  have Fw163 := Fld.same W163 (Fld.keep Fc K161 nin0)
  have N163 := Fr.snoc X163 N162 g_a
  refine own_aloadN X163 hx (hb hby d3_51) rfl rfl ?_
  refine own_aload X163 hx (hb hby d3_52) rfl rfl ?_
  refine own_putF X163 hx hZ hown (host := "") (Or.inl (own_m hw 33 rfl)) Via.refl e163 (Fld.other W163 (Fld.keep Fv K161 nin0) (Or.inr (slot_ne (Or.inr (own_m hw 34 rfl)) (Or.inr (own_m hw 32 rfl)) (by decide) (t := (.array .byte)) (t' := .byte) (by decide) (by decide)))) (Exa.wr W163 (Exa.keep Ea K161)) (Or.inr ⟨(own_m hw 34 rfl), rfl, hnm⟩) (own_m hw 6 rfl) (ty := (.array .byte)) (by decide) rfl rfl (hb hby d3_54) fun T164 h164 X164 e164 W164 => ?_
  have Fw164 := Fld.same W164 (Fld.other W163 (Fld.keep Fv K161 nin0) (Or.inr (slot_ne (Or.inr (own_m hw 34 rfl)) (Or.inr (own_m hw 32 rfl)) (by decide) (t := (.array .byte)) (t' := .byte) (by decide) (by decide))))
  have N164 := Fr.snoc X164 N163 g_a
  refine own_retV X164 hx hlk hret (hb hby d3_57) (own_kN (by decide) (by decide) ?_)
  try rw [e164]
  exact ⟨rfl, N164, (Keep.wr (Keep.wr (Keep.trans (Keep.refl h0 [a]) K161 all0) W163 (Or.inl (List.mem_of_getElem? (i := 0) rfl))) W164 (Or.inl (List.mem_of_getElem? (i := 0) rfl))), b161, kb161, szo_b161, (Exa.wr W164 (Exa.wr W163 Eb161)), (Exa.wr W164 (Exa.wr W163 (Exa.keep Ea K161))), Fw164, (Fld.other W164 Fw163 (Or.inr (slot_ne (Or.inr (own_m hw 32 rfl)) (Or.inr (own_m hw 34 rfl)) (by decide) (t := .byte) (t' := (.array .byte)) (by decide) (by decide)))), (Arv.other (Arv.other Vb161 W163 (Ne.symm (Nat.ne_of_lt (Nat.lt_of_lt_of_le Ea.lt szb161)))) W164 (Ne.symm (Nat.ne_of_lt (Nat.lt_of_lt_of_le Ea.lt szb161))))⟩
set_option maxRecDepth 65536 in
set_option maxHeartbeats 40000000 in
theorem rmIu1_3_1 (l : Launch) (Z : State) (a0 : Array Value) (hw : own_Wd a0 Z) (ws : List Jvm.Cond) (a ca : Addr) (kc : ClassId) (cs c0 c1 c2 : Int32)  (h0 : Heap) (n0 : Nat) (Z0 : n0 ≤ h0.size) (Ea : Exa Z h0 a "java/lang/String") (Fv : Fld Z h0 a "java/lang/String" "value" "[B" .null) (Fc : Fld Z h0 a "java/lang/String" "coder" "B" (.int 0)) (g_a : n0 ≤ a) (Sc : Sta Z h0 "java/lang/String" "COMPACT_STRINGS" "Z" (.int cs)) (hcs : ¬ (cs = (0 : Int32))) (Sad : Sta Z h0 "java/lang/StringUTF16" "$assertionsDisabled" "Z" (.int 1)) (Shi : Sta Z h0 "java/lang/StringUTF16" "HI_BYTE_SHIFT" "I" (.int 0)) (Slo : Sta Z h0 "java/lang/StringUTF16" "LO_BYTE_SHIFT" "I" (.int 8)) (Vc : Arv Z h0 ca kc .char (3 : Int32) [(.int c0), (.int c1), (.int c2)] (.int 0)) (Ecs : Exa Z h0 ca "[C") (hx0 : ¬ ((255 : Int32) < c0)) (hx1 : (255 : Int32) < c1) (lo1 : ¬ c1 < (0 : Int32)) (hi1 : ¬ (65535 : Int32) < c1) :
    own_Met l (⟨"java/lang/String", "<init>", "([C)V"⟩ : MethodName) jdk_42_method_3_code 2 none ws ({ frames := 5, cells := 2, slots := 9, locals := 74 } : Room) Z #[(.ref a), (.ref ca)] h0 (fun v h L => v = none ∧ Fr n0 L ∧ Keep h0 h [a] ∧ ∃ b k, h0.size ≤ b ∧ Exa Z h b "[B" ∧ Exa Z h a "java/lang/String" ∧ Fld Z h a "java/lang/String" "value" "[B" (.ref b) ∧ Fld Z h a "java/lang/String" "coder" "B" (.int 1) ∧ Arv Z h b k .byte (6 : Int32) [(.int (own_lo c0)), (.int (own_hi c0)), (.int (own_lo c1)), (.int (own_hi c1)), (.int (own_lo c2)), (.int (own_hi c2))] (.int 0)) := by
  refine own_body (plainFor_of_name pn_1) ?_
  intro p e s m below meth c s₁ X0 hx hby hml hown hnm hret hlk hZ e0
  replace hown : s.vm.findClass "java/lang/String" = some m.cls := hown
  replace hml : c.maxLocals = 2 := hml
  replace hret : meth.sig.returnType = none := hret
  have N0 := Fr.nil n0
  refine own_ef (L0 := #[.val (.ref a), .val (.ref ca)]) (by first | (simp [entryFrame, mkF, argsToLocals, Value.category]; done) | rfl) ?_
  refine own_aloadN X0 hx (hb hby d2_0) rfl rfl ?_
  refine own_aloadN X0 hx (hb hby d2_1) rfl rfl ?_
  refine own_iconst X0 hx 0 (hb hby d2_2) rfl ?_
  refine own_aloadN X0 hx (hb hby d2_3) rfl rfl ?_
  refine own_arraylength X0 hx hZ e0 (own_alnV Vc) (hb hby d2_4) ?_
  refine own_aconstNull X0 hx (hb hby d2_5) ?_
  refine own_cSpec (b := a) (W := 0) (rest := []) X0 hx hZ [(.ref ca), (.int 0), (.int 3), .null] rfl hown (own_m hw 12 rfl) (own_m hw 13 rfl) (by decide) (own_m hw 15 rfl) (own_m hw 7 rfl) e0 (rmIu2_3_1 l Z a0 hw [] a ca kc cs c0 c1 c2 h0 n0 Z0 Ea Fv Fc g_a Sc hcs Sad Shi Slo Vc Ecs hx0 hx1 lo1 hi1) (by rw [hml]; rfl) (lenOf pd_3 rfl) rfl (Nat.le_of_eq rfl) (hb hby d2_6) (by decide) (by decide) (by decide) (by decide) fun v165 T165 L165 X165 hQ165 => ?_
  obtain ⟨rfl, N165q, K165, R165⟩ := hQ165
  have N165 := Fr.app N0 N165q
  show own_At p e below _ T165 m 9 _ []
  refine own_retV X165 hx hlk hret (hb hby d2_9) (own_kN (by decide) (by decide) ?_)
  exact ⟨rfl, N165, K165, R165⟩
set_option maxRecDepth 65536 in
set_option maxHeartbeats 40000000 in
theorem rmCu2_3_2 (l : Launch) (Z : State) (a0 : Array Value) (hw : own_Wd a0 Z) (ws : List Jvm.Cond) (ca ba : Addr) (kc kb : ClassId) (c0 c1 c2 : Int32)  (h0 : Heap) (n0 : Nat) (Z0 : n0 ≤ h0.size) (Vc : Arv Z h0 ca kc .char (3 : Int32) [(.int c0), (.int c1), (.int c2)] (.int 0)) (Vb : Arv Z h0 ba kb .byte (3 : Int32) [(.int 0), (.int 0), (.int 0)] (.int 0)) (g_ba : n0 ≤ ba) (hne : ca ≠ ba) (hx0 : ¬ ((255 : Int32) < c0)) (hx1 : ¬ ((255 : Int32) < c1)) (hx2 : (255 : Int32) < c2) :
    own_Met l (⟨"java/lang/StringUTF16", "compress", "([CI[BII)I"⟩ : MethodName) jdk_52_method_21_code 7 (some .int) ws ({ frames := 0, cells := 0, slots := 0, locals := 0 } : Room) Z #[(.ref ca), (.int 0), (.ref ba), (.int 0), (.int 3)] h0 (fun v h L => v = some (.int 2) ∧ Fr n0 L ∧ Keep h0 h [ba]) := by
  refine own_body (plainFor_of_name pn_0) ?_
  intro p e s m below meth c s₁ X0 hx hby hml hown hnm hret hlk hZ e0
  replace hown : s.vm.findClass "java/lang/StringUTF16" = some m.cls := hown
  replace hml : c.maxLocals = 7 := hml
  replace hret : meth.sig.returnType = (some .int) := hret
  have N0 := Fr.nil n0
  refine own_ef (L0 := #[.val (.ref ca), .val (.int 0), .val (.ref ba), .val (.int 0), .val (.int 3), .unset, .unset]) (by first | (simp [entryFrame, mkF, argsToLocals, Value.category]; done) | rfl) ?_
  refine own_iconst X0 hx 0 (hb hby d6_0) rfl ?_
  refine own_istore (l' := #[.val (.ref ca), .val (.int 0), .val (.ref ba), .val (.int 0), .val (.int 3), .val (.int 0), .unset]) X0 hx (hb hby d6_1) rfl ?_
  refine own_iload X0 hx (hb hby d6_3) rfl ?_
  refine own_iload X0 hx (hb hby d6_5) rfl ?_
  refine own_icmpNo X0 hx (hb hby d6_7) (tlt (by decide : (0 : Int32) < (3 : Int32))).2.1 ?_
  refine own_aloadN X0 hx (hb hby d6_10) rfl rfl ?_
  refine own_iloadN X0 hx (hb hby d6_11) rfl ?_
  refine own_caload X0 hx hZ (.int c0) e0 Vc ⟨by decide, by decide⟩ rfl (hb hby d6_12) ?_
  refine own_istore (l' := #[.val (.ref ca), .val (.int 0), .val (.ref ba), .val (.int 0), .val (.int 3), .val (.int 0), .val (.int c0)]) X0 hx (hb hby d6_13) rfl ?_
  refine own_iload X0 hx (hb hby d6_15) rfl ?_
  refine own_sipush X0 hx 255 (hb hby d6_17) rfl ?_
  refine own_icmpYes X0 hx 26 (hb hby d6_20) (flt hx0).2.2.2 (by decide) (by decide) ?_
  refine own_aloadN X0 hx (hb hby d6_26) rfl rfl ?_
  refine own_iloadN X0 hx (hb hby d6_27) rfl ?_
  refine own_iload X0 hx (hb hby d6_28) rfl ?_
  refine own_i2b X0 hx (hb hby d6_30) ?_
  refine own_stB (vs' := [(.int (c0.toInt8.toInt32)), (.int 0), (.int 0)]) (w := (.int (c0.toInt8.toInt32))) X0 hx hZ e0 Vb ⟨by decide, by decide⟩ 0 rfl (Nat.le_of_ble_eq_true rfl) (congrArg Value.int (own_b8 _)) rfl (hb hby d6_31) fun T166 h166 X166 e166 W166 V166 => ?_
  have N166 := Fr.snoc X166 N0 g_ba
  refine own_iinc (l' := #[.val (.ref ca), .val (.int ((0 : Int32) + (1 : Int32))), .val (.ref ba), .val (.int 0), .val (.int 3), .val (.int 0), .val (.int c0)]) X166 hx (hb hby d6_32) rfl rfl ?_
  rw [show ((0 : Int32) + (1 : Int32)) = (1 : Int32) from by decide]
  refine own_iinc (l' := #[.val (.ref ca), .val (.int 1), .val (.ref ba), .val (.int ((0 : Int32) + (1 : Int32))), .val (.int 3), .val (.int 0), .val (.int c0)]) X166 hx (hb hby d6_35) rfl rfl ?_
  rw [show ((0 : Int32) + (1 : Int32)) = (1 : Int32) from by decide]
  refine own_iinc (l' := #[.val (.ref ca), .val (.int 1), .val (.ref ba), .val (.int 1), .val (.int 3), .val (.int ((0 : Int32) + (1 : Int32))), .val (.int c0)]) X166 hx (hb hby d6_38) rfl rfl ?_
  rw [show ((0 : Int32) + (1 : Int32)) = (1 : Int32) from by decide]
  refine own_goto X166 hx 3 (hb hby d6_41) (by decide) (by decide) ?_
  refine own_iload X166 hx (hb hby d6_3) rfl ?_
  refine own_iload X166 hx (hb hby d6_5) rfl ?_
  refine own_icmpNo X166 hx (hb hby d6_7) (tlt (by decide : (1 : Int32) < (3 : Int32))).2.1 ?_
  refine own_aloadN X166 hx (hb hby d6_10) rfl rfl ?_
  refine own_iloadN X166 hx (hb hby d6_11) rfl ?_
  refine own_caload X166 hx hZ (.int c1) e166 (Arv.other Vc W166 hne) ⟨by decide, by decide⟩ rfl (hb hby d6_12) ?_
  refine own_istore (l' := #[.val (.ref ca), .val (.int 1), .val (.ref ba), .val (.int 1), .val (.int 3), .val (.int 1), .val (.int c1)]) X166 hx (hb hby d6_13) rfl ?_
  refine own_iload X166 hx (hb hby d6_15) rfl ?_
  refine own_sipush X166 hx 255 (hb hby d6_17) rfl ?_
  refine own_icmpYes X166 hx 26 (hb hby d6_20) (flt hx1).2.2.2 (by decide) (by decide) ?_
  refine own_aloadN X166 hx (hb hby d6_26) rfl rfl ?_
  refine own_iloadN X166 hx (hb hby d6_27) rfl ?_
  refine own_iload X166 hx (hb hby d6_28) rfl ?_
  refine own_i2b X166 hx (hb hby d6_30) ?_
  refine own_stB (vs' := [(.int (c0.toInt8.toInt32)), (.int (c1.toInt8.toInt32)), (.int 0)]) (w := (.int (c1.toInt8.toInt32))) X166 hx hZ e166 V166 ⟨by decide, by decide⟩ 1 rfl (Nat.le_of_ble_eq_true rfl) (congrArg Value.int (own_b8 _)) rfl (hb hby d6_31) fun T167 h167 X167 e167 W167 V167 => ?_
  have N167 := Fr.snoc X167 N166 g_ba
  refine own_iinc (l' := #[.val (.ref ca), .val (.int ((1 : Int32) + (1 : Int32))), .val (.ref ba), .val (.int 1), .val (.int 3), .val (.int 1), .val (.int c1)]) X167 hx (hb hby d6_32) rfl rfl ?_
  rw [show ((1 : Int32) + (1 : Int32)) = (2 : Int32) from by decide]
  refine own_iinc (l' := #[.val (.ref ca), .val (.int 2), .val (.ref ba), .val (.int ((1 : Int32) + (1 : Int32))), .val (.int 3), .val (.int 1), .val (.int c1)]) X167 hx (hb hby d6_35) rfl rfl ?_
  rw [show ((1 : Int32) + (1 : Int32)) = (2 : Int32) from by decide]
  refine own_iinc (l' := #[.val (.ref ca), .val (.int 2), .val (.ref ba), .val (.int 2), .val (.int 3), .val (.int ((1 : Int32) + (1 : Int32))), .val (.int c1)]) X167 hx (hb hby d6_38) rfl rfl ?_
  rw [show ((1 : Int32) + (1 : Int32)) = (2 : Int32) from by decide]
  refine own_goto X167 hx 3 (hb hby d6_41) (by decide) (by decide) ?_
  refine own_iload X167 hx (hb hby d6_3) rfl ?_
  refine own_iload X167 hx (hb hby d6_5) rfl ?_
  refine own_icmpNo X167 hx (hb hby d6_7) (tlt (by decide : (2 : Int32) < (3 : Int32))).2.1 ?_
  refine own_aloadN X167 hx (hb hby d6_10) rfl rfl ?_
  refine own_iloadN X167 hx (hb hby d6_11) rfl ?_
  refine own_caload X167 hx hZ (.int c2) e167 (Arv.other (Arv.other Vc W166 hne) W167 hne) ⟨by decide, by decide⟩ rfl (hb hby d6_12) ?_
  refine own_istore (l' := #[.val (.ref ca), .val (.int 2), .val (.ref ba), .val (.int 2), .val (.int 3), .val (.int 2), .val (.int c2)]) X167 hx (hb hby d6_13) rfl ?_
  refine own_iload X167 hx (hb hby d6_15) rfl ?_
  refine own_sipush X167 hx 255 (hb hby d6_17) rfl ?_
  refine own_icmpNo X167 hx (hb hby d6_20) (tlt hx2).2.2.2 ?_
  refine own_iload X167 hx (hb hby d6_23) rfl ?_
  refine own_retI X167 hx hlk hret (hb hby d6_25) (own_kN (by decide) (by decide) ?_)
  try rw [e167]
  exact ⟨rfl, N167, (Keep.wr (Keep.wr (Keep.refl h0 [ba]) W166 (Or.inl (List.mem_of_getElem? (i := 0) rfl))) W167 (Or.inl (List.mem_of_getElem? (i := 0) rfl)))⟩
set_option maxRecDepth 65536 in
set_option maxHeartbeats 40000000 in
theorem rmCu1_3_2 (l : Launch) (Z : State) (a0 : Array Value) (hw : own_Wd a0 Z) (ws : List Jvm.Cond) (ca : Addr) (kc : ClassId) (c0 c1 c2 : Int32)  (h0 : Heap) (n0 : Nat) (Z0 : n0 ≤ h0.size) (Sad : Sta Z h0 "java/lang/StringUTF16" "$assertionsDisabled" "Z" (.int 1)) (Shi : Sta Z h0 "java/lang/StringUTF16" "HI_BYTE_SHIFT" "I" (.int 0)) (Slo : Sta Z h0 "java/lang/StringUTF16" "LO_BYTE_SHIFT" "I" (.int 8)) (Vc : Arv Z h0 ca kc .char (3 : Int32) [(.int c0), (.int c1), (.int c2)] (.int 0)) (hx0 : ¬ ((255 : Int32) < c0)) (hx1 : ¬ ((255 : Int32) < c1)) (hx2 : (255 : Int32) < c2) (lo2 : ¬ c2 < (0 : Int32)) (hi2 : ¬ (65535 : Int32) < c2) :
    own_Met l (⟨"java/lang/StringUTF16", "compress", "([CII)[B"⟩ : MethodName) jdk_52_method_16_code 6 (some (.array .byte)) ws ({ frames := 3, cells := 2, slots := 9, locals := 40 } : Room) Z #[(.ref ca), (.int 0), (.int 3)] h0 (fun v h L => ∃ b k, v = some (.ref b) ∧ Fr n0 L ∧ Keep h0 h [] ∧ h0.size ≤ b ∧ n0 ≤ b ∧ Exa Z h b "[B" ∧ Arv Z h b k .byte (6 : Int32) [(.int (own_lo c0)), (.int (own_hi c0)), (.int (own_lo c1)), (.int (own_hi c1)), (.int (own_lo c2)), (.int (own_hi c2))] (.int 0)) := by
  refine own_body (plainFor_of_name pn_0) ?_
  intro p e s m below meth c s₁ X0 hx hby hml hown hnm hret hlk hZ e0
  replace hown : s.vm.findClass "java/lang/StringUTF16" = some m.cls := hown
  replace hml : c.maxLocals = 6 := hml
  replace hret : meth.sig.returnType = (some (.array .byte)) := hret
  have N0 := Fr.nil n0
  refine own_ef (L0 := #[.val (.ref ca), .val (.int 0), .val (.int 3), .unset, .unset, .unset]) (by first | (simp [entryFrame, mkF, argsToLocals, Value.category]; done) | rfl) ?_
  refine own_iloadN X0 hx (hb hby d5_0) rfl ?_
  refine own_newP (n := (3 : Int32)) (cap := 3) (ad := "[B") X0 hx hZ (own_m hw 24 rfl) e0 (hb hby d5_1) (by decide) (by decide) (by decide) (by decide) (by decide) (by decide) fun T168 h168 k168 b168 g168 X168 e168 E168 A168 Ex168 => ?_
  have g_b168 : n0 ≤ b168 := Nat.le_trans Z0 (Nat.le_of_eq g168.symm)
  have szo_b168 : h0.size ≤ b168 := Nat.le_trans (Nat.le_refl h0.size) (Nat.le_of_eq g168.symm)
  have V168 : Arv Z h168 b168 k168 .byte (3 : Int32) [(.int 0), (.int 0), (.int 0)] (.int 0) := (Arv.new A168 (by decide)).pad (pad_rep [] (.int 0) 3)
  refine own_astoreN (l' := #[.val (.ref ca), .val (.int 0), .val (.int 3), .val (.ref b168), .unset, .unset]) X168 hx (hb hby d5_3) rfl rfl ?_
  refine own_aloadN X168 hx (hb hby d5_4) rfl rfl ?_
  refine own_iloadN X168 hx (hb hby d5_5) rfl ?_
  refine own_aloadN X168 hx (hb hby d5_6) rfl rfl ?_
  refine own_iconst X168 hx 0 (hb hby d5_7) rfl ?_
  refine own_iloadN X168 hx (hb hby d5_8) rfl ?_
  refine own_cStat (W := 0) (rest := []) X168 hx hZ [(.ref ca), (.int 0), (.ref b168), (.int 0), (.int 3)] hown (own_m hw 25 rfl) (own_m hw 26 rfl) (by decide) (own_m hw 27 rfl) (own_m hw 22 rfl) e168 (rmCu2_3_2 l Z a0 hw [] ca b168 kc k168 c0 c1 c2 h168 n0 (Nat.le_trans Z0 E168.1) (Vc.ext E168) V168 g_b168 (Nat.ne_of_lt (Nat.lt_of_lt_of_le Vc.lt (Nat.le_of_eq g168.symm))) hx0 hx1 hx2) (by rw [hml]; rfl) (lenOf pd_0 rfl) rfl (Nat.le_of_eq rfl) (hb hby d5_9) (by decide) (by decide) (by decide) (by decide) fun v169 T169 L169 X169 hQ169 => ?_
  obtain ⟨rfl, N169q, K169⟩ := hQ169
  have N169 := Fr.app N0 N169q
  show own_At p e below _ T169 m 12 _ [(.int 2)]
  refine own_istore (l' := #[.val (.ref ca), .val (.int 0), .val (.int 3), .val (.ref b168), .val (.int 2), .unset]) X169 hx (hb hby d5_12) rfl ?_
  refine own_iload X169 hx (hb hby d5_14) rfl ?_
  refine own_iloadN X169 hx (hb hby d5_16) rfl ?_
  refine own_icmpNo X169 hx (hb hby d5_17) (feq (by decide : ¬ ((2 : Int32) = (3 : Int32)))).1 ?_
  refine own_aloadN X169 hx (hb hby d5_20) rfl rfl ?_
  refine own_iloadN X169 hx (hb hby d5_21) rfl ?_
  refine own_iloadN X169 hx (hb hby d5_22) rfl ?_
  refine own_cStat (W := 0) (rest := []) X169 hx hZ [(.ref ca), (.int 0), (.int 3)] hown (own_m hw 103 rfl) (own_m hw 104 rfl) (by decide) (own_m hw 105 rfl) (own_m hw 22 rfl) rfl (rmTB_3 l Z a0 hw [] ca kc c0 c1 c2 T169.heap n0 (Nat.le_trans (Nat.le_trans Z0 E168.1) K169.1) (own_staKeep (Sta.ext E168 Sad) K169 (allS (own_exaStat Ex168) all0)) (own_staKeep (Sta.ext E168 Shi) K169 (allS (own_exaStat Ex168) all0)) (own_staKeep (Sta.ext E168 Slo) K169 (allS (own_exaStat Ex168) all0)) (Arv.keep (Vc.ext E168) K169 (ninS (Nat.ne_of_lt (Nat.lt_of_lt_of_le Vc.lt (Nat.le_of_eq g168.symm))) nin0))) (by rw [hml]; rfl) (lenOf pd_1 rfl) rfl (Nat.le_of_eq rfl) (hb hby d5_23) (by decide) (by decide) (by decide) (by decide) fun v170 T170 L170 X170 hQ170 => ?_
  obtain ⟨b170, kb170, rfl, N170q, K170, szb170, gb170, Eb170, Vb170⟩ := hQ170
  have N170 := Fr.app N169 N170q
  have g_b170 := gb170
  have szo_b170 : h0.size ≤ b170 := Nat.le_trans (Nat.le_trans (Nat.le_trans (Nat.le_refl h0.size) E168.1) K169.1) szb170
  show own_At p e below _ T170 m 26 _ [(.ref b170)]
  refine own_astore (l' := #[.val (.ref ca), .val (.int 0), .val (.int 3), .val (.ref b168), .val (.int 2), .val (.ref b170)]) X170 hx (hb hby d5_26) rfl rfl ?_
  refine own_aload X170 hx (hb hby d5_28) rfl rfl ?_
  refine own_iload X170 hx (hb hby d5_30) rfl ?_
  refine own_cStat (W := 0) (rest := []) X170 hx hZ [(.ref b170), (.int 2)] hown (own_m hw 119 rfl) (own_m hw 120 rfl) (by decide) (own_m hw 121 rfl) (own_m hw 22 rfl) rfl (rmGet_3_2 l Z a0 hw [] b170 kb170 (own_lo c0) (own_hi c0) (own_lo c1) (own_hi c1) (own_lo c2) (own_hi c2) T170.heap n0 (Nat.le_trans (Nat.le_trans (Nat.le_trans Z0 E168.1) K169.1) K170.1) (own_staKeep (own_staKeep (Sta.ext E168 Sad) K169 (allS (own_exaStat Ex168) all0)) K170 all0) (own_staKeep (own_staKeep (Sta.ext E168 Shi) K169 (allS (own_exaStat Ex168) all0)) K170 all0) (own_staKeep (own_staKeep (Sta.ext E168 Slo) K169 (allS (own_exaStat Ex168) all0)) K170 all0) Vb170) (by rw [hml]; rfl) (lenOf pd_7 rfl) rfl (Nat.le_of_eq rfl) (hb hby d5_32) (by decide) (by decide) (by decide) (by decide) fun v171 T171 L171 X171 hQ171 => ?_
  obtain ⟨rfl, N171q, e171⟩ := hQ171
  have N171 := Fr.app N170 N171q
  show own_At p e below _ T171 m 35 _ [(.int (own_gc (own_lo c2) (own_hi c2)))]
  rw [own_gcc lo2 hi2]
  refine own_sipush X171 hx 255 (hb hby d5_35) rfl ?_
  refine own_icmpYes X171 hx 54 (hb hby d5_38) (tlt hx2).2.2.1 (by decide) (by decide) ?_
  refine own_aload X171 hx (hb hby d5_54) rfl rfl ?_
  refine own_retA X171 hx hlk hret rfl rfl rfl (hb hby d5_56) (own_kN (by decide) (by decide) ?_)
  try rw [e171]
  exact ⟨b170, kb170, rfl, N171, (Keep.trans (Keep.trans (Keep.ext (Keep.refl h0 []) E168) K169 (allS (Or.inr szo_b168) all0)) K170 all0), szo_b170, g_b170, Eb170, Vb170⟩
set_option maxRecDepth 65536 in
set_option maxHeartbeats 40000000 in
theorem rmIu2_3_2 (l : Launch) (Z : State) (a0 : Array Value) (hw : own_Wd a0 Z) (ws : List Jvm.Cond) (a ca : Addr) (kc : ClassId) (cs c0 c1 c2 : Int32)  (h0 : Heap) (n0 : Nat) (Z0 : n0 ≤ h0.size) (Ea : Exa Z h0 a "java/lang/String") (Fv : Fld Z h0 a "java/lang/String" "value" "[B" .null) (Fc : Fld Z h0 a "java/lang/String" "coder" "B" (.int 0)) (g_a : n0 ≤ a) (Sc : Sta Z h0 "java/lang/String" "COMPACT_STRINGS" "Z" (.int cs)) (hcs : ¬ (cs = (0 : Int32))) (Sad : Sta Z h0 "java/lang/StringUTF16" "$assertionsDisabled" "Z" (.int 1)) (Shi : Sta Z h0 "java/lang/StringUTF16" "HI_BYTE_SHIFT" "I" (.int 0)) (Slo : Sta Z h0 "java/lang/StringUTF16" "LO_BYTE_SHIFT" "I" (.int 8)) (Vc : Arv Z h0 ca kc .char (3 : Int32) [(.int c0), (.int c1), (.int c2)] (.int 0)) (Ecs : Exa Z h0 ca "[C") (hx0 : ¬ ((255 : Int32) < c0)) (hx1 : ¬ ((255 : Int32) < c1)) (hx2 : (255 : Int32) < c2) (lo2 : ¬ c2 < (0 : Int32)) (hi2 : ¬ (65535 : Int32) < c2) :
    own_Met l (⟨"java/lang/String", "<init>", "([CIILjava/lang/Void;)V"⟩ : MethodName) jdk_42_method_149_code 6 none ws ({ frames := 4, cells := 2, slots := 9, locals := 57 } : Room) Z #[(.ref a), (.ref ca), (.int 0), (.int 3), .null] h0 (fun v h L => v = none ∧ Fr n0 L ∧ Keep h0 h [a] ∧ ∃ b k, h0.size ≤ b ∧ Exa Z h b "[B" ∧ Exa Z h a "java/lang/String" ∧ Fld Z h a "java/lang/String" "value" "[B" (.ref b) ∧ Fld Z h a "java/lang/String" "coder" "B" (.int 1) ∧ Arv Z h b k .byte (6 : Int32) [(.int (own_lo c0)), (.int (own_hi c0)), (.int (own_lo c1)), (.int (own_hi c1)), (.int (own_lo c2)), (.int (own_hi c2))] (.int 0)) := by
  refine own_body (plainFor_of_name pn_1) ?_
  intro p e s m below meth c s₁ X0 hx hby hml hown hnm hret hlk hZ e0
  replace hown : s.vm.findClass "java/lang/String" = some m.cls := hown
  replace hml : c.maxLocals = 6 := hml
  replace hret : meth.sig.returnType = none := hret
  have N0 := Fr.nil n0
  refine own_ef (L0 := #[.val (.ref a), .val (.ref ca), .val (.int 0), .val (.int 3), .val .null, .unset]) (by first | (simp [entryFrame, mkF, argsToLocals, Value.category]; done) | rfl) ?_
  refine own_aloadN X0 hx (hb hby d3_0) rfl rfl ?_
  refine own_initO (W := 0) X0 hx hZ hown (own_m hw 16 rfl) (own_m hw 17 rfl) (own_m hw 18 rfl) e0 (by rw [hml]; rfl) (hb hby d3_1) (by decide) (Nat.le_of_eq rfl) (by decide) fun T172 X172 e172 => ?_
  refine own_iloadN X172 hx (hb hby d3_4) rfl ?_
  refine own_ifYes X172 hx 27 (hb hby d3_5) (feq (by decide : ¬ ((3 : Int32) = (0 : Int32)))).2 (by decide) (by decide) ?_
  refine own_getS X172 hx hZ hown (host := "") (Or.inl (own_m hw 19 rfl)) Via.refl e172 Sc (hb hby d3_27) fun T173 X173 e173 => ?_
  refine own_ifNo X173 hx (hb hby d3_30) (feq hcs).1 ?_
  refine own_aloadN X173 hx (hb hby d3_33) rfl rfl ?_
  refine own_iloadN X173 hx (hb hby d3_34) rfl ?_
  refine own_iloadN X173 hx (hb hby d3_35) rfl ?_
  refine own_cStat (W := 0) (rest := []) X173 hx hZ [(.ref ca), (.int 0), (.int 3)] hown (own_m hw 20 rfl) (own_m hw 21 rfl) (by decide) (own_m hw 23 rfl) (own_m hw 22 rfl) e173 (rmCu1_3_2 l Z a0 hw [] ca kc c0 c1 c2 h0 n0 Z0 Sad Shi Slo Vc hx0 hx1 hx2 lo2 hi2) (by rw [hml]; rfl) (lenOf pd_1 rfl) rfl (Nat.le_of_eq rfl) (hb hby d3_36) (by decide) (by decide) (by decide) (by decide) fun v174 T174 L174 X174 hQ174 => ?_
  obtain ⟨b174, kb174, rfl, N174q, K174, szb174, gb174, Eb174, Vb174⟩ := hQ174
  have N174 := Fr.app N0 N174q
  have g_b174 := gb174
  have szo_b174 : h0.size ≤ b174 := Nat.le_trans (Nat.le_refl h0.size) szb174
  show own_At p e below _ T174 m 39 _ [(.ref b174)]
  refine own_astore (l' := #[.val (.ref a), .val (.ref ca), .val (.int 0), .val (.int 3), .val .null, .val (.ref b174)]) X174 hx (hb hby d3_39) rfl rfl ?_
  refine own_aloadN X174 hx (hb hby d3_41) rfl rfl ?_
  refine own_aload X174 hx (hb hby d3_42) rfl rfl ?_
  refine own_iloadN X174 hx (hb hby d3_44) rfl ?_
  refine own_cStat (W := 1) (rest := [(.ref a)]) X174 hx hZ [(.ref b174), (.int 3)] hown (own_m hw 28 rfl) (own_m hw 29 rfl) (by decide) (own_m hw 30 rfl) (own_m hw 22 rfl) rfl (rmCFu_3 l Z a0 hw [] b174 T174.heap n0 (Nat.le_trans Z0 K174.1) (own_alnV Vb174)) (by rw [hml]; rfl) (lenOf pd_2 rfl) rfl (Nat.le_of_eq rfl) (hb hby d3_45) (by decide) (by decide) (by decide) (by decide) fun v175 T175 L175 X175 hQ175 => ?_
  obtain ⟨rfl, N175q, e175⟩ := hQ175
  have N175 := Fr.app N174 N175q
  show own_At p e below _ T175 m 48 _ [(.int 1), (.ref a)]
  obtain ⟨T176, h176, X176, e176, W176, st176⟩ := putFN X175 hx hZ hown (own_m hw 31 rfl) Via.refl e175 (Fld.keep Fc K174 nin0) (Exa.keep Ea K174) (Or.inr ⟨(own_m hw 32 rfl), rfl, hnm⟩) (own_m hw 6 rfl) (ty := .byte) (v' := (.int 1)) (by decide) rfl rfl (g := (mkF m 48 #[.val (.ref a), .val (.ref ca), .val (.int 0), .val (.int 3), .val .null, .val (.ref b174)] [(.int 1), (.ref a)])) rfl rfl (hb hby d3_48)
  refine own_step (S' := (T176.setTop (mkF m 51 #[.val (.ref a), .val (.ref ca), .val (.int 0), .val (.int 3), .val .null, .val (.ref b174)] []))) (fun _ k => st176 _ k) ?_
  have Fw176 := Fld.same W176 (Fld.keep Fc K174 nin0)
  have N176 := Fr.snoc X176 N175 g_a
  refine own_aloadN X176 hx (hb hby d3_51) rfl rfl ?_
  refine own_aload X176 hx (hb hby d3_52) rfl rfl ?_
  refine own_putF X176 hx hZ hown (host := "") (Or.inl (own_m hw 33 rfl)) Via.refl e176 (Fld.other W176 (Fld.keep Fv K174 nin0) (Or.inr (slot_ne (Or.inr (own_m hw 34 rfl)) (Or.inr (own_m hw 32 rfl)) (by decide) (t := (.array .byte)) (t' := .byte) (by decide) (by decide)))) (Exa.wr W176 (Exa.keep Ea K174)) (Or.inr ⟨(own_m hw 34 rfl), rfl, hnm⟩) (own_m hw 6 rfl) (ty := (.array .byte)) (by decide) rfl rfl (hb hby d3_54) fun T177 h177 X177 e177 W177 => ?_
  have Fw177 := Fld.same W177 (Fld.other W176 (Fld.keep Fv K174 nin0) (Or.inr (slot_ne (Or.inr (own_m hw 34 rfl)) (Or.inr (own_m hw 32 rfl)) (by decide) (t := (.array .byte)) (t' := .byte) (by decide) (by decide))))
  have N177 := Fr.snoc X177 N176 g_a
  refine own_retV X177 hx hlk hret (hb hby d3_57) (own_kN (by decide) (by decide) ?_)
  try rw [e177]
  exact ⟨rfl, N177, (Keep.wr (Keep.wr (Keep.trans (Keep.refl h0 [a]) K174 all0) W176 (Or.inl (List.mem_of_getElem? (i := 0) rfl))) W177 (Or.inl (List.mem_of_getElem? (i := 0) rfl))), b174, kb174, szo_b174, (Exa.wr W177 (Exa.wr W176 Eb174)), (Exa.wr W177 (Exa.wr W176 (Exa.keep Ea K174))), Fw177, (Fld.other W177 Fw176 (Or.inr (slot_ne (Or.inr (own_m hw 32 rfl)) (Or.inr (own_m hw 34 rfl)) (by decide) (t := .byte) (t' := (.array .byte)) (by decide) (by decide)))), (Arv.other (Arv.other Vb174 W176 (Ne.symm (Nat.ne_of_lt (Nat.lt_of_lt_of_le Ea.lt szb174)))) W177 (Ne.symm (Nat.ne_of_lt (Nat.lt_of_lt_of_le Ea.lt szb174))))⟩
set_option maxRecDepth 65536 in
set_option maxHeartbeats 40000000 in
theorem rmIu1_3_2 (l : Launch) (Z : State) (a0 : Array Value) (hw : own_Wd a0 Z) (ws : List Jvm.Cond) (a ca : Addr) (kc : ClassId) (cs c0 c1 c2 : Int32)  (h0 : Heap) (n0 : Nat) (Z0 : n0 ≤ h0.size) (Ea : Exa Z h0 a "java/lang/String") (Fv : Fld Z h0 a "java/lang/String" "value" "[B" .null) (Fc : Fld Z h0 a "java/lang/String" "coder" "B" (.int 0)) (g_a : n0 ≤ a) (Sc : Sta Z h0 "java/lang/String" "COMPACT_STRINGS" "Z" (.int cs)) (hcs : ¬ (cs = (0 : Int32))) (Sad : Sta Z h0 "java/lang/StringUTF16" "$assertionsDisabled" "Z" (.int 1)) (Shi : Sta Z h0 "java/lang/StringUTF16" "HI_BYTE_SHIFT" "I" (.int 0)) (Slo : Sta Z h0 "java/lang/StringUTF16" "LO_BYTE_SHIFT" "I" (.int 8)) (Vc : Arv Z h0 ca kc .char (3 : Int32) [(.int c0), (.int c1), (.int c2)] (.int 0)) (Ecs : Exa Z h0 ca "[C") (hx0 : ¬ ((255 : Int32) < c0)) (hx1 : ¬ ((255 : Int32) < c1)) (hx2 : (255 : Int32) < c2) (lo2 : ¬ c2 < (0 : Int32)) (hi2 : ¬ (65535 : Int32) < c2) :
    own_Met l (⟨"java/lang/String", "<init>", "([C)V"⟩ : MethodName) jdk_42_method_3_code 2 none ws ({ frames := 5, cells := 2, slots := 9, locals := 74 } : Room) Z #[(.ref a), (.ref ca)] h0 (fun v h L => v = none ∧ Fr n0 L ∧ Keep h0 h [a] ∧ ∃ b k, h0.size ≤ b ∧ Exa Z h b "[B" ∧ Exa Z h a "java/lang/String" ∧ Fld Z h a "java/lang/String" "value" "[B" (.ref b) ∧ Fld Z h a "java/lang/String" "coder" "B" (.int 1) ∧ Arv Z h b k .byte (6 : Int32) [(.int (own_lo c0)), (.int (own_hi c0)), (.int (own_lo c1)), (.int (own_hi c1)), (.int (own_lo c2)), (.int (own_hi c2))] (.int 0)) := by
  refine own_body (plainFor_of_name pn_1) ?_
  intro p e s m below meth c s₁ X0 hx hby hml hown hnm hret hlk hZ e0
  replace hown : s.vm.findClass "java/lang/String" = some m.cls := hown
  replace hml : c.maxLocals = 2 := hml
  replace hret : meth.sig.returnType = none := hret
  have N0 := Fr.nil n0
  refine own_ef (L0 := #[.val (.ref a), .val (.ref ca)]) (by first | (simp [entryFrame, mkF, argsToLocals, Value.category]; done) | rfl) ?_
  refine own_aloadN X0 hx (hb hby d2_0) rfl rfl ?_
  refine own_aloadN X0 hx (hb hby d2_1) rfl rfl ?_
  refine own_iconst X0 hx 0 (hb hby d2_2) rfl ?_
  refine own_aloadN X0 hx (hb hby d2_3) rfl rfl ?_
  refine own_arraylength X0 hx hZ e0 (own_alnV Vc) (hb hby d2_4) ?_
  refine own_aconstNull X0 hx (hb hby d2_5) ?_
  refine own_cSpec (b := a) (W := 0) (rest := []) X0 hx hZ [(.ref ca), (.int 0), (.int 3), .null] rfl hown (own_m hw 12 rfl) (own_m hw 13 rfl) (by decide) (own_m hw 15 rfl) (own_m hw 7 rfl) e0 (rmIu2_3_2 l Z a0 hw [] a ca kc cs c0 c1 c2 h0 n0 Z0 Ea Fv Fc g_a Sc hcs Sad Shi Slo Vc Ecs hx0 hx1 hx2 lo2 hi2) (by rw [hml]; rfl) (lenOf pd_3 rfl) rfl (Nat.le_of_eq rfl) (hb hby d2_6) (by decide) (by decide) (by decide) (by decide) fun v178 T178 L178 X178 hQ178 => ?_
  obtain ⟨rfl, N178q, K178, R178⟩ := hQ178
  have N178 := Fr.app N0 N178q
  show own_At p e below _ T178 m 9 _ []
  refine own_retV X178 hx hlk hret (hb hby d2_9) (own_kN (by decide) (by decide) ?_)
  exact ⟨rfl, N178, K178, R178⟩
set_option maxRecDepth 65536 in
set_option maxHeartbeats 40000000 in
theorem rmLu (l : Launch) (Z : State) (a0 : Array Value) (hw : own_Wd a0 Z) (ws : List Jvm.Cond) (a : Addr) (cs : Int32)  (h0 : Heap) (n0 : Nat) (Z0 : n0 ≤ h0.size) (Sc : Sta Z h0 "java/lang/String" "COMPACT_STRINGS" "Z" (.int cs)) (hcs : ¬ (cs = (0 : Int32))) (Fc : Fld Z h0 a "java/lang/String" "coder" "B" (.int 1)) :
    own_Met l (⟨"java/lang/String", "isLatin1", "()Z"⟩ : MethodName) jdk_42_method_154_code 1 (some .boolean) ws ({ frames := 0, cells := 0, slots := 0, locals := 0 } : Room) Z #[(.ref a)] h0 (fun v h L => v = some (.int 0) ∧ Fr n0 L ∧ h = h0) := by
  refine own_body (plainFor_of_name pn_1) ?_
  intro p e s m below meth c s₁ X0 hx hby hml hown hnm hret hlk hZ e0
  replace hown : s.vm.findClass "java/lang/String" = some m.cls := hown
  replace hml : c.maxLocals = 1 := hml
  replace hret : meth.sig.returnType = (some .boolean) := hret
  have N0 := Fr.nil n0
  refine own_ef (L0 := #[.val (.ref a)]) (by first | (simp [entryFrame, mkF, argsToLocals, Value.category]; done) | rfl) ?_
  refine own_getS X0 hx hZ hown (host := "") (Or.inl (own_m hw 19 rfl)) Via.refl e0 Sc (hb hby d15_0) fun T179 X179 e179 => ?_
  refine own_ifNo X179 hx (hb hby d15_3) (feq hcs).1 ?_
  refine own_aloadN X179 hx (hb hby d15_6) rfl rfl ?_
  refine own_getF X179 hx hZ hown (host := "") (Or.inl (own_m hw 31 rfl)) Via.refl e179 Fc (hb hby d15_7) fun T180 X180 e180 => ?_
  refine own_ifYes X180 hx 17 (hb hby d15_10) (feq (by decide : ¬ ((1 : Int32) = (0 : Int32)))).2 (by decide) (by decide) ?_
  refine own_iconst X180 hx 0 (hb hby d15_17) rfl ?_
  refine own_retN X180 hx hlk hret (by simp) (by decide) (hb hby d15_18) (own_kN (by decide) (by decide) ?_)
  try rw [e180]
  exact ⟨rfl, N0, rfl⟩
set_option maxRecDepth 65536 in
set_option maxHeartbeats 40000000 in
theorem rmCdu (l : Launch) (Z : State) (a0 : Array Value) (hw : own_Wd a0 Z) (ws : List Jvm.Cond) (a : Addr) (cs : Int32)  (h0 : Heap) (n0 : Nat) (Z0 : n0 ≤ h0.size) (Sc : Sta Z h0 "java/lang/String" "COMPACT_STRINGS" "Z" (.int cs)) (hcs : ¬ (cs = (0 : Int32))) (Fc : Fld Z h0 a "java/lang/String" "coder" "B" (.int 1)) :
    own_Met l (⟨"java/lang/String", "coder", "()B"⟩ : MethodName) jdk_42_method_152_code 1 (some .byte) ws ({ frames := 0, cells := 0, slots := 0, locals := 0 } : Room) Z #[(.ref a)] h0 (fun v h L => v = some (.int 1) ∧ Fr n0 L ∧ h = h0) := by
  refine own_body (plainFor_of_name pn_1) ?_
  intro p e s m below meth c s₁ X0 hx hby hml hown hnm hret hlk hZ e0
  replace hown : s.vm.findClass "java/lang/String" = some m.cls := hown
  replace hml : c.maxLocals = 1 := hml
  replace hret : meth.sig.returnType = (some .byte) := hret
  have N0 := Fr.nil n0
  refine own_ef (L0 := #[.val (.ref a)]) (by first | (simp [entryFrame, mkF, argsToLocals, Value.category]; done) | rfl) ?_
  refine own_getS X0 hx hZ hown (host := "") (Or.inl (own_m hw 19 rfl)) Via.refl e0 Sc (hb hby d13_0) fun T181 X181 e181 => ?_
  refine own_ifNo X181 hx (hb hby d13_3) (feq hcs).1 ?_
  refine own_aloadN X181 hx (hb hby d13_6) rfl rfl ?_
  refine own_getF X181 hx hZ hown (host := "") (Or.inl (own_m hw 31 rfl)) Via.refl e181 Fc (hb hby d13_7) fun T182 X182 e182 => ?_
  refine own_goto X182 hx 14 (hb hby d13_10) (by decide) (by decide) ?_
  refine own_retN X182 hx hlk hret (by simp) (by decide) (hb hby d13_14) (own_kN (by decide) (by decide) ?_)
  try rw [e182]
  exact ⟨rfl, N0, rfl⟩
theorem d18_0 : decode jdk_41_method_11_code 0 = .ok (.iload_n 0, 1) := by decide +kernel
theorem d18_1 : decode jdk_41_method_11_code 1 = .ok (.ifCond .lt 8, 3) := by decide +kernel
theorem d18_4 : decode jdk_41_method_11_code 4 = .ok (.iload_n 0, 1) := by decide +kernel
theorem d18_5 : decode jdk_41_method_11_code 5 = .ok (.iload_n 1, 1) := by decide +kernel
theorem d18_6 : decode jdk_41_method_11_code 6 = .ok (.if_icmp .lt 10, 3) := by decide +kernel
theorem d18_16 : decode jdk_41_method_11_code 16 = .ok (.iload_n 0, 1) := by decide +kernel
theorem d18_17 : decode jdk_41_method_11_code 17 = .ok (.ireturn, 1) := by decide +kernel
theorem pn_2 : plainName "jdk/internal/util/Preconditions" = true := by first | (simp [plainName, overriddenIn]; done) | decide +kernel
set_option maxRecDepth 65536 in
set_option maxHeartbeats 40000000 in
theorem rmPCn (l : Launch) (Z : State) (a0 : Array Value) (hw : own_Wd a0 Z) (ws : List Jvm.Cond)  (i : Int32) (n : Int32) (h0 : Heap) (n0 : Nat) (Z0 : n0 ≤ h0.size) (hi0 : ¬ (i < (0 : Int32))) (hin : i < n) :
    own_Met l (⟨"jdk/internal/util/Preconditions", "checkIndex", "(IILjava/util/function/BiFunction;)I"⟩ : MethodName) jdk_41_method_11_code 3 (some .int) ws ({ frames := 0, cells := 0, slots := 0, locals := 0 } : Room) Z #[(.int i), (.int n), .null] h0 (fun v h L => v = some (.int i) ∧ Fr n0 L ∧ h = h0) := by
  refine own_body (plainFor_of_name pn_2) ?_
  intro p e s m below meth c s₁ X0 hx hby hml hown hnm hret hlk hZ e0
  replace hown : s.vm.findClass "jdk/internal/util/Preconditions" = some m.cls := hown
  replace hml : c.maxLocals = 3 := hml
  replace hret : meth.sig.returnType = (some .int) := hret
  have N0 := Fr.nil n0
  refine own_ef (L0 := #[.val (.int i), .val (.int n), .val .null]) (by first | (simp [entryFrame, mkF, argsToLocals, Value.category]; done) | rfl) ?_
  refine own_iloadN X0 hx (hb hby d18_0) rfl ?_
  refine own_ifNo X0 hx (hb hby d18_1) (flt hi0).1 ?_
  refine own_iloadN X0 hx (hb hby d18_4) rfl ?_
  refine own_iloadN X0 hx (hb hby d18_5) rfl ?_
  refine own_icmpYes X0 hx 16 (hb hby d18_6) (tlt hin).1 (by decide) (by decide) ?_
  refine own_iloadN X0 hx (hb hby d18_16) rfl ?_
  refine own_retI X0 hx hlk hret (hb hby d18_17) (own_kN (by decide) (by decide) ?_)
  try rw [e0]
  exact ⟨rfl, N0, rfl⟩
set_option maxRecDepth 65536 in
set_option maxHeartbeats 40000000 in
theorem rmPCr (l : Launch) (Z : State) (a0 : Array Value) (hw : own_Wd a0 Z) (ws : List Jvm.Cond)  (i : Int32) (n : Int32) (fa : Addr) (h0 : Heap) (n0 : Nat) (Z0 : n0 ≤ h0.size) (hi0 : ¬ (i < (0 : Int32))) (hin : i < n) :
    own_Met l (⟨"jdk/internal/util/Preconditions", "checkIndex", "(IILjava/util/function/BiFunction;)I"⟩ : MethodName) jdk_41_method_11_code 3 (some .int) ws ({ frames := 0, cells := 0, slots := 0, locals := 0 } : Room) Z #[(.int i), (.int n), (.ref fa)] h0 (fun v h L => v = some (.int i) ∧ Fr n0 L ∧ h = h0) := by
  refine own_body (plainFor_of_name pn_2) ?_
  intro p e s m below meth c s₁ X0 hx hby hml hown hnm hret hlk hZ e0
  replace hown : s.vm.findClass "jdk/internal/util/Preconditions" = some m.cls := hown
  replace hml : c.maxLocals = 3 := hml
  replace hret : meth.sig.returnType = (some .int) := hret
  have N0 := Fr.nil n0
  refine own_ef (L0 := #[.val (.int i), .val (.int n), .val (.ref fa)]) (by first | (simp [entryFrame, mkF, argsToLocals, Value.category]; done) | rfl) ?_
  refine own_iloadN X0 hx (hb hby d18_0) rfl ?_
  refine own_ifNo X0 hx (hb hby d18_1) (flt hi0).1 ?_
  refine own_iloadN X0 hx (hb hby d18_4) rfl ?_
  refine own_iloadN X0 hx (hb hby d18_5) rfl ?_
  refine own_icmpYes X0 hx 16 (hb hby d18_6) (tlt hin).1 (by decide) (by decide) ?_
  refine own_iloadN X0 hx (hb hby d18_16) rfl ?_
  refine own_retI X0 hx hlk hret (hb hby d18_17) (own_kN (by decide) (by decide) ?_)
  try rw [e0]
  exact ⟨rfl, N0, rfl⟩
theorem d17_0 : decode jdk_42_method_155_code 0 = .ok (.iload_n 0, 1) := by decide +kernel
theorem d17_1 : decode jdk_42_method_155_code 1 = .ok (.iload_n 1, 1) := by decide +kernel
theorem d17_2 : decode jdk_42_method_155_code 2 = .ok (.getstatic 1053, 3) := by decide +kernel
theorem d17_5 : decode jdk_42_method_155_code 5 = .ok (.invokestatic 1059, 3) := by decide +kernel
theorem d17_8 : decode jdk_42_method_155_code 8 = .ok (.pop, 1) := by decide +kernel
theorem d17_9 : decode jdk_42_method_155_code 9 = .ok (.return_, 1) := by decide +kernel
theorem pd_8 : parseMethodDescriptor "(IILjava/util/function/BiFunction;)I" = some ⟨[.int, .int, (.object "java/util/function/BiFunction")], some .int⟩ := by decide +kernel
set_option maxRecDepth 65536 in
set_option maxHeartbeats 40000000 in
theorem rmSCI (l : Launch) (Z : State) (a0 : Array Value) (hw : own_Wd a0 Z) (ws : List Jvm.Cond) (fm : Value) (i : Int32) (n : Int32) (h0 : Heap) (n0 : Nat) (Z0 : n0 ≤ h0.size) (Sf : Sta Z h0 "jdk/internal/util/Preconditions" "SIOOBE_FORMATTER" "Ljava/util/function/BiFunction;" fm) (hfm : fm.isRef = true) (hi0 : ¬ (i < (0 : Int32))) (hin : i < n) :
    own_Met l (⟨"java/lang/String", "checkIndex", "(II)V"⟩ : MethodName) jdk_42_method_155_code 2 none ws ({ frames := 1, cells := 0, slots := 0, locals := 14 } : Room) Z #[(.int i), (.int n)] h0 (fun v h L => v = none ∧ Fr n0 L ∧ h = h0) := by
  refine own_body (plainFor_of_name pn_1) ?_
  intro p e s m below meth c s₁ X0 hx hby hml hown hnm hret hlk hZ e0
  replace hown : s.vm.findClass "java/lang/String" = some m.cls := hown
  replace hml : c.maxLocals = 2 := hml
  replace hret : meth.sig.returnType = none := hret
  have N0 := Fr.nil n0
  refine own_ef (L0 := #[.val (.int i), .val (.int n)]) (by first | (simp [entryFrame, mkF, argsToLocals, Value.category]; done) | rfl) ?_
  rcases ref_cases hfm with rfl | ⟨fa, rfl⟩
  · skip
    refine own_iloadN X0 hx (hb hby d17_0) rfl ?_
    refine own_iloadN X0 hx (hb hby d17_1) rfl ?_
    refine own_getS X0 hx hZ hown (host := "") (Or.inl (own_m hw 95 rfl)) Via.refl e0 Sf (hb hby d17_2) fun T183 X183 e183 => ?_
    refine own_cStat (W := 0) (rest := []) X183 hx hZ [(.int i), (.int n), .null] hown (own_m hw 97 rfl) (own_m hw 98 rfl) (by decide) (own_m hw 99 rfl) (own_m hw 96 rfl) e183 (rmPCn l Z a0 hw [] i n  h0 n0 Z0 hi0 hin) (by rw [hml]; rfl) (lenOf pd_8 rfl) rfl (Nat.le_of_eq rfl) (hb hby d17_5) (by decide) (by decide) (by decide) (by decide) fun v184 T184 L184 X184 hQ184 => ?_
    obtain ⟨rfl, N184q, e184⟩ := hQ184
    have N184 := Fr.app N0 N184q
    show own_At p e below _ T184 m 8 _ [(.int i)]
    refine own_pop X184 hx (hb hby d17_8) rfl ?_
    refine own_retV X184 hx hlk hret (hb hby d17_9) (own_kN (by decide) (by decide) ?_)
    try rw [e184]
    exact ⟨rfl, N184, rfl⟩
  · skip
    refine own_iloadN X0 hx (hb hby d17_0) rfl ?_
    refine own_iloadN X0 hx (hb hby d17_1) rfl ?_
    refine own_getS X0 hx hZ hown (host := "") (Or.inl (own_m hw 95 rfl)) Via.refl e0 Sf (hb hby d17_2) fun T185 X185 e185 => ?_
    refine own_cStat (W := 0) (rest := []) X185 hx hZ [(.int i), (.int n), (.ref fa)] hown (own_m hw 97 rfl) (own_m hw 98 rfl) (by decide) (own_m hw 99 rfl) (own_m hw 96 rfl) e185 (rmPCr l Z a0 hw [] i n fa h0 n0 Z0 hi0 hin) (by rw [hml]; rfl) (lenOf pd_8 rfl) rfl (Nat.le_of_eq rfl) (hb hby d17_5) (by decide) (by decide) (by decide) (by decide) fun v186 T186 L186 X186 hQ186 => ?_
    obtain ⟨rfl, N186q, e186⟩ := hQ186
    have N186 := Fr.app N0 N186q
    show own_At p e below _ T186 m 8 _ [(.int i)]
    refine own_pop X186 hx (hb hby d17_8) rfl ?_
    refine own_retV X186 hx hlk hret (hb hby d17_9) (own_kN (by decide) (by decide) ?_)
    try rw [e186]
    exact ⟨rfl, N186, rfl⟩
theorem d12_0 : decode jdk_42_method_54_code 0 = .ok (.aload_n 0, 1) := by decide +kernel
theorem d12_1 : decode jdk_42_method_54_code 1 = .ok (.getfield 9, 3) := by decide +kernel
theorem d12_4 : decode jdk_42_method_54_code 4 = .ok (.arraylength, 1) := by decide +kernel
theorem d12_5 : decode jdk_42_method_54_code 5 = .ok (.aload_n 0, 1) := by decide +kernel
theorem d12_6 : decode jdk_42_method_54_code 6 = .ok (.invokevirtual 335, 3) := by decide +kernel
theorem d12_9 : decode jdk_42_method_54_code 9 = .ok (.ishr, 1) := by decide +kernel
theorem d12_10 : decode jdk_42_method_54_code 10 = .ok (.ireturn, 1) := by decide +kernel
theorem pd_9 : parseMethodDescriptor "()B" = some ⟨[], some .byte⟩ := by decide +kernel
set_option maxRecDepth 65536 in
set_option maxHeartbeats 40000000 in
theorem rmLn_0_0 (l : Launch) (Z : State) (a0 : Array Value) (hw : own_Wd a0 Z) (ws : List Jvm.Cond) (a b : Addr) (kb : ClassId) (cs : Int32) (fm : Value)   (h0 : Heap) (n0 : Nat) (Z0 : n0 ≤ h0.size) (Sc : Sta Z h0 "java/lang/String" "COMPACT_STRINGS" "Z" (.int cs)) (hcs : ¬ (cs = (0 : Int32))) (Sad : Sta Z h0 "java/lang/StringUTF16" "$assertionsDisabled" "Z" (.int 1)) (Shi : Sta Z h0 "java/lang/StringUTF16" "HI_BYTE_SHIFT" "I" (.int 0)) (Slo : Sta Z h0 "java/lang/StringUTF16" "LO_BYTE_SHIFT" "I" (.int 8)) (Sf : Sta Z h0 "jdk/internal/util/Preconditions" "SIOOBE_FORMATTER" "Ljava/util/function/BiFunction;" fm) (hfm : fm.isRef = true) (Ea : Exa Z h0 a "java/lang/String") (Fv : Fld Z h0 a "java/lang/String" "value" "[B" (.ref b)) (Fc : Fld Z h0 a "java/lang/String" "coder" "B" (.int 0)) (Vb : Arv Z h0 b kb .byte (0 : Int32) [] (.int 0)) :
    own_Met l (⟨"java/lang/String", "length", "()I"⟩ : MethodName) jdk_42_method_54_code 1 (some .int) ws ({ frames := 1, cells := 0, slots := 0, locals := 13 } : Room) Z #[(.ref a)] h0 (fun v h L => v = some (.int 0) ∧ Fr n0 L ∧ h = h0) := by
  refine own_body (plainFor_of_name pn_1) ?_
  intro p e s m below meth c s₁ X0 hx hby hml hown hnm hret hlk hZ e0
  replace hown : s.vm.findClass "java/lang/String" = some m.cls := hown
  replace hml : c.maxLocals = 1 := hml
  replace hret : meth.sig.returnType = (some .int) := hret
  have N0 := Fr.nil n0
  refine own_ef (L0 := #[.val (.ref a)]) (by first | (simp [entryFrame, mkF, argsToLocals, Value.category]; done) | rfl) ?_
  refine own_aloadN X0 hx (hb hby d12_0) rfl rfl ?_
  refine own_getF X0 hx hZ hown (host := "") (Or.inl (own_m hw 33 rfl)) Via.refl e0 Fv (hb hby d12_1) fun T187 X187 e187 => ?_
  refine own_arraylength X187 hx hZ e187 (own_alnV Vb) (hb hby d12_4) ?_
  refine own_aloadN X187 hx (hb hby d12_5) rfl rfl ?_
  refine own_cVirt (W := 1) (rest := [(.int 0)]) X187 hx hZ [] hown (own_m hw 73 rfl) (own_m hw 74 rfl) (notFace_of_selects (args := #[]) (mvT hZ (own_m hw 76 rfl))) (own_m hw 76 rfl) (own_m hw 75 rfl) (by decide) (own_m hw 77 rfl) (own_m hw 7 rfl) e187 Ea (rmCd l Z a0 hw [] a cs h0 n0 Z0 Sc hcs Fc) (by rw [hml]; rfl) (lenOf pd_9 rfl) rfl (Nat.le_of_eq rfl) (hb hby d12_6) (by decide) (by decide) (by decide) (by decide) fun v188 T188 L188 X188 hQ188 => ?_
  obtain ⟨rfl, N188q, e188⟩ := hQ188
  have N188 := Fr.app N0 N188q
  show own_At p e below _ T188 m 9 _ [(.int 0), (.int 0)]
  refine own_ishr X188 hx (hb hby d12_9) ?_
  rw [show ((0 : Int32) >>> ((0 : Int32) &&& 31)) = (0 : Int32) from by decide]
  refine own_retI X188 hx hlk hret (hb hby d12_10) (own_kN (by decide) (by decide) ?_)
  try rw [e188]
  exact ⟨rfl, N188, rfl⟩
theorem d11_0 : decode prog_1_method_3_code 0 = .ok (.ldc2_w 40, 3) := by decide +kernel
theorem d11_3 : decode prog_1_method_3_code 3 = .ok (.lstore_n 1, 1) := by decide +kernel
theorem d11_4 : decode prog_1_method_3_code 4 = .ok (.iconst 0, 1) := by decide +kernel
theorem d11_5 : decode prog_1_method_3_code 5 = .ok (.istore_n 3, 1) := by decide +kernel
theorem d11_6 : decode prog_1_method_3_code 6 = .ok (.iload_n 3, 1) := by decide +kernel
theorem d11_7 : decode prog_1_method_3_code 7 = .ok (.aload_n 0, 1) := by decide +kernel
theorem d11_8 : decode prog_1_method_3_code 8 = .ok (.invokevirtual 42, 3) := by decide +kernel
theorem d11_11 : decode prog_1_method_3_code 11 = .ok (.if_icmp .ge 22, 3) := by decide +kernel
theorem d11_14 : decode prog_1_method_3_code 14 = .ok (.lload_n 1, 1) := by decide +kernel
theorem d11_15 : decode prog_1_method_3_code 15 = .ok (.aload_n 0, 1) := by decide +kernel
theorem d11_16 : decode prog_1_method_3_code 16 = .ok (.iload_n 3, 1) := by decide +kernel
theorem d11_17 : decode prog_1_method_3_code 17 = .ok (.invokevirtual 48, 3) := by decide +kernel
theorem d11_20 : decode prog_1_method_3_code 20 = .ok (.i2l, 1) := by decide +kernel
theorem d11_21 : decode prog_1_method_3_code 21 = .ok (.lxor, 1) := by decide +kernel
theorem d11_22 : decode prog_1_method_3_code 22 = .ok (.ldc2_w 52, 3) := by decide +kernel
theorem d11_25 : decode prog_1_method_3_code 25 = .ok (.lmul, 1) := by decide +kernel
theorem d11_26 : decode prog_1_method_3_code 26 = .ok (.lstore_n 1, 1) := by decide +kernel
theorem d11_27 : decode prog_1_method_3_code 27 = .ok (.iinc 3 1, 3) := by decide +kernel
theorem d11_30 : decode prog_1_method_3_code 30 = .ok (.goto (-24), 3) := by decide +kernel
theorem d11_33 : decode prog_1_method_3_code 33 = .ok (.lload_n 1, 1) := by decide +kernel
theorem d11_34 : decode prog_1_method_3_code 34 = .ok (.lload_n 1, 1) := by decide +kernel
theorem d11_35 : decode prog_1_method_3_code 35 = .ok (.bipush 33, 2) := by decide +kernel
theorem d11_37 : decode prog_1_method_3_code 37 = .ok (.lushr, 1) := by decide +kernel
theorem d11_38 : decode prog_1_method_3_code 38 = .ok (.lxor, 1) := by decide +kernel
theorem d11_39 : decode prog_1_method_3_code 39 = .ok (.ldc2_w 54, 3) := by decide +kernel
theorem d11_42 : decode prog_1_method_3_code 42 = .ok (.lmul, 1) := by decide +kernel
theorem d11_43 : decode prog_1_method_3_code 43 = .ok (.lstore_n 1, 1) := by decide +kernel
theorem d11_44 : decode prog_1_method_3_code 44 = .ok (.lload_n 1, 1) := by decide +kernel
theorem d11_45 : decode prog_1_method_3_code 45 = .ok (.lload_n 1, 1) := by decide +kernel
theorem d11_46 : decode prog_1_method_3_code 46 = .ok (.bipush 33, 2) := by decide +kernel
theorem d11_48 : decode prog_1_method_3_code 48 = .ok (.lushr, 1) := by decide +kernel
theorem d11_49 : decode prog_1_method_3_code 49 = .ok (.lxor, 1) := by decide +kernel
theorem d11_50 : decode prog_1_method_3_code 50 = .ok (.ldc2_w 56, 3) := by decide +kernel
theorem d11_53 : decode prog_1_method_3_code 53 = .ok (.lmul, 1) := by decide +kernel
theorem d11_54 : decode prog_1_method_3_code 54 = .ok (.lstore_n 1, 1) := by decide +kernel
theorem d11_55 : decode prog_1_method_3_code 55 = .ok (.lload_n 1, 1) := by decide +kernel
theorem d11_56 : decode prog_1_method_3_code 56 = .ok (.lload_n 1, 1) := by decide +kernel
theorem d11_57 : decode prog_1_method_3_code 57 = .ok (.bipush 33, 2) := by decide +kernel
theorem d11_59 : decode prog_1_method_3_code 59 = .ok (.lushr, 1) := by decide +kernel
theorem d11_60 : decode prog_1_method_3_code 60 = .ok (.lxor, 1) := by decide +kernel
theorem d11_61 : decode prog_1_method_3_code 61 = .ok (.lreturn, 1) := by decide +kernel
theorem pn_3 : plainName "com/example/vestline/vestline/cli/BloomFilter" = true := by first | (simp [plainName, overriddenIn]; done) | decide +kernel
theorem pd_10 : parseMethodDescriptor "()I" = some ⟨[], some .int⟩ := by decide +kernel
def own_m1 (h : Int64) : Int64 := ((h ^^^ ((h.toUInt64 >>> ((33 : Int32) &&& 0x3f).toInt64.toUInt64).toInt64)) * (-49064778989728563 : Int64))
def own_m2 (h : Int64) : Int64 := ((h ^^^ ((h.toUInt64 >>> ((33 : Int32) &&& 0x3f).toInt64.toUInt64).toInt64)) * (-4265267296055464877 : Int64))
def own_m3 (h : Int64) : Int64 := (h ^^^ ((h.toUInt64 >>> ((33 : Int32) &&& 0x3f).toInt64.toUInt64).toInt64))
def own_H_0_0  : Int64 := (own_m3 (own_m2 (own_m1 (-3750763034362895579 : Int64))))
set_option maxRecDepth 65536 in
set_option maxHeartbeats 40000000 in
theorem rmH_0_0 (l : Launch) (Z : State) (a0 : Array Value) (hw : own_Wd a0 Z) (ws : List Jvm.Cond) (a b : Addr) (kb : ClassId) (cs : Int32) (fm : Value)   (h0 : Heap) (n0 : Nat) (Z0 : n0 ≤ h0.size) (Sc : Sta Z h0 "java/lang/String" "COMPACT_STRINGS" "Z" (.int cs)) (hcs : ¬ (cs = (0 : Int32))) (Sad : Sta Z h0 "java/lang/StringUTF16" "$assertionsDisabled" "Z" (.int 1)) (Shi : Sta Z h0 "java/lang/StringUTF16" "HI_BYTE_SHIFT" "I" (.int 0)) (Slo : Sta Z h0 "java/lang/StringUTF16" "LO_BYTE_SHIFT" "I" (.int 8)) (Sf : Sta Z h0 "jdk/internal/util/Preconditions" "SIOOBE_FORMATTER" "Ljava/util/function/BiFunction;" fm) (hfm : fm.isRef = true) (Ea : Exa Z h0 a "java/lang/String") (Fv : Fld Z h0 a "java/lang/String" "value" "[B" (.ref b)) (Fc : Fld Z h0 a "java/lang/String" "coder" "B" (.int 0)) (Vb : Arv Z h0 b kb .byte (0 : Int32) [] (.int 0)) :
    own_Met l (⟨"com/example/vestline/vestline/cli/BloomFilter", "hash", "(Ljava/lang/String;)J"⟩ : MethodName) prog_1_method_3_code 4 (some .long) ws ({ frames := 5, cells := 0, slots := 0, locals := 72 } : Room) Z #[(.ref a)] h0 (fun v h L => v = some (.long (own_H_0_0 )) ∧ Fr n0 L ∧ h = h0) := by
  refine own_body (plainFor_of_name pn_3) ?_
  intro p e s m below meth c s₁ X0 hx hby hml hown hnm hret hlk hZ e0
  replace hown : s.vm.findClass "com/example/vestline/vestline/cli/BloomFilter" = some m.cls := hown
  replace hml : c.maxLocals = 4 := hml
  replace hret : meth.sig.returnType = (some .long) := hret
  have N0 := Fr.nil n0
  refine own_ef (L0 := #[.val (.ref a), .unset, .unset, .unset]) (by first | (simp [entryFrame, mkF, argsToLocals, Value.category]; done) | rfl) ?_
  refine own_ldcL X0 hx hZ hown (own_m hw 67 rfl) (hb hby d11_0) ?_
  refine own_lstoreN (l' := #[.val (.ref a), .val (.long (-3750763034362895579 : Int64)), .second, .unset]) X0 hx (hb hby d11_3) rfl ?_
  refine own_iconst X0 hx 0 (hb hby d11_4) rfl ?_
  refine own_istoreN (l' := #[.val (.ref a), .val (.long (-3750763034362895579 : Int64)), .second, .val (.int 0)]) X0 hx (hb hby d11_5) rfl ?_
  refine own_iloadN X0 hx (hb hby d11_6) rfl ?_
  refine own_aloadN X0 hx (hb hby d11_7) rfl rfl ?_
  refine own_cVirt (W := 1) (rest := [(.int 0)]) X0 hx hZ [] hown (own_m hw 68 rfl) (own_m hw 69 rfl) (notFace_of_selects (args := #[]) (mvT hZ (own_m hw 71 rfl))) (own_m hw 71 rfl) (own_m hw 70 rfl) (by decide) (own_m hw 72 rfl) (own_m hw 7 rfl) e0 Ea (rmLn_0_0 l Z a0 hw [] a b kb cs fm  h0 n0 Z0 Sc hcs Sad Shi Slo Sf hfm Ea Fv Fc Vb) (by rw [hml]; rfl) (lenOf pd_10 rfl) rfl (Nat.le_of_eq rfl) (hb hby d11_8) (by decide) (by decide) (by decide) (by decide) fun v189 T189 L189 X189 hQ189 => ?_
  obtain ⟨rfl, N189q, e189⟩ := hQ189
  have N189 := Fr.app N0 N189q
  show own_At p e below _ T189 m 11 _ [(.int 0), (.int 0)]
  refine own_icmpYes X189 hx 33 (hb hby d11_11) (flt (by decide : ¬ ((0 : Int32) < (0 : Int32)))).2.1 (by decide) (by decide) ?_
  refine own_lloadN X189 hx (hb hby d11_33) rfl ?_
  refine own_lloadN X189 hx (hb hby d11_34) rfl ?_
  refine own_bipush X189 hx 33 (hb hby d11_35) rfl ?_
  refine own_lushr X189 hx (hb hby d11_37) ?_
  refine own_lxor X189 hx (hb hby d11_38) ?_
  refine own_ldcL X189 hx hZ hown (own_m hw 101 rfl) (hb hby d11_39) ?_
  refine own_lmul X189 hx (hb hby d11_42) ?_
  rw [show (((-3750763034362895579 : Int64) ^^^ (((-3750763034362895579 : Int64).toUInt64 >>> ((33 : Int32) &&& 0x3f).toInt64.toUInt64).toInt64)) * (-49064778989728563 : Int64)) = (own_m1 (-3750763034362895579 : Int64)) from rfl]
  refine own_lstoreN (l' := #[.val (.ref a), .val (.long (own_m1 (-3750763034362895579 : Int64))), .second, .val (.int 0)]) X189 hx (hb hby d11_43) rfl ?_
  refine own_lloadN X189 hx (hb hby d11_44) rfl ?_
  refine own_lloadN X189 hx (hb hby d11_45) rfl ?_
  refine own_bipush X189 hx 33 (hb hby d11_46) rfl ?_
  refine own_lushr X189 hx (hb hby d11_48) ?_
  refine own_lxor X189 hx (hb hby d11_49) ?_
  refine own_ldcL X189 hx hZ hown (own_m hw 102 rfl) (hb hby d11_50) ?_
  refine own_lmul X189 hx (hb hby d11_53) ?_
  rw [show (((own_m1 (-3750763034362895579 : Int64)) ^^^ (((own_m1 (-3750763034362895579 : Int64)).toUInt64 >>> ((33 : Int32) &&& 0x3f).toInt64.toUInt64).toInt64)) * (-4265267296055464877 : Int64)) = (own_m2 (own_m1 (-3750763034362895579 : Int64))) from rfl]
  refine own_lstoreN (l' := #[.val (.ref a), .val (.long (own_m2 (own_m1 (-3750763034362895579 : Int64)))), .second, .val (.int 0)]) X189 hx (hb hby d11_54) rfl ?_
  refine own_lloadN X189 hx (hb hby d11_55) rfl ?_
  refine own_lloadN X189 hx (hb hby d11_56) rfl ?_
  refine own_bipush X189 hx 33 (hb hby d11_57) rfl ?_
  refine own_lushr X189 hx (hb hby d11_59) ?_
  refine own_lxor X189 hx (hb hby d11_60) ?_
  rw [show ((own_m2 (own_m1 (-3750763034362895579 : Int64))) ^^^ (((own_m2 (own_m1 (-3750763034362895579 : Int64))).toUInt64 >>> ((33 : Int32) &&& 0x3f).toInt64.toUInt64).toInt64)) = (own_m3 (own_m2 (own_m1 (-3750763034362895579 : Int64)))) from rfl]
  refine own_retL X189 hx hlk hret (hb hby d11_61) (own_kN (by decide) (by decide) ?_)
  try rw [e189]
  exact ⟨rfl, N189, rfl⟩
set_option maxRecDepth 65536 in
set_option maxHeartbeats 40000000 in
theorem rmLn_0_1 (l : Launch) (Z : State) (a0 : Array Value) (hw : own_Wd a0 Z) (ws : List Jvm.Cond) (a b : Addr) (kb : ClassId) (cs : Int32) (fm : Value) (y0 : Int32)  (h0 : Heap) (n0 : Nat) (Z0 : n0 ≤ h0.size) (Sc : Sta Z h0 "java/lang/String" "COMPACT_STRINGS" "Z" (.int cs)) (hcs : ¬ (cs = (0 : Int32))) (Sad : Sta Z h0 "java/lang/StringUTF16" "$assertionsDisabled" "Z" (.int 1)) (Shi : Sta Z h0 "java/lang/StringUTF16" "HI_BYTE_SHIFT" "I" (.int 0)) (Slo : Sta Z h0 "java/lang/StringUTF16" "LO_BYTE_SHIFT" "I" (.int 8)) (Sf : Sta Z h0 "jdk/internal/util/Preconditions" "SIOOBE_FORMATTER" "Ljava/util/function/BiFunction;" fm) (hfm : fm.isRef = true) (Ea : Exa Z h0 a "java/lang/String") (Fv : Fld Z h0 a "java/lang/String" "value" "[B" (.ref b)) (Fc : Fld Z h0 a "java/lang/String" "coder" "B" (.int 0)) (Vb : Arv Z h0 b kb .byte (1 : Int32) [(.int y0)] (.int 0)) :
    own_Met l (⟨"java/lang/String", "length", "()I"⟩ : MethodName) jdk_42_method_54_code 1 (some .int) ws ({ frames := 1, cells := 0, slots := 0, locals := 13 } : Room) Z #[(.ref a)] h0 (fun v h L => v = some (.int 1) ∧ Fr n0 L ∧ h = h0) := by
  refine own_body (plainFor_of_name pn_1) ?_
  intro p e s m below meth c s₁ X0 hx hby hml hown hnm hret hlk hZ e0
  replace hown : s.vm.findClass "java/lang/String" = some m.cls := hown
  replace hml : c.maxLocals = 1 := hml
  replace hret : meth.sig.returnType = (some .int) := hret
  have N0 := Fr.nil n0
  refine own_ef (L0 := #[.val (.ref a)]) (by first | (simp [entryFrame, mkF, argsToLocals, Value.category]; done) | rfl) ?_
  refine own_aloadN X0 hx (hb hby d12_0) rfl rfl ?_
  refine own_getF X0 hx hZ hown (host := "") (Or.inl (own_m hw 33 rfl)) Via.refl e0 Fv (hb hby d12_1) fun T190 X190 e190 => ?_
  refine own_arraylength X190 hx hZ e190 (own_alnV Vb) (hb hby d12_4) ?_
  refine own_aloadN X190 hx (hb hby d12_5) rfl rfl ?_
  refine own_cVirt (W := 1) (rest := [(.int 1)]) X190 hx hZ [] hown (own_m hw 73 rfl) (own_m hw 74 rfl) (notFace_of_selects (args := #[]) (mvT hZ (own_m hw 76 rfl))) (own_m hw 76 rfl) (own_m hw 75 rfl) (by decide) (own_m hw 77 rfl) (own_m hw 7 rfl) e190 Ea (rmCd l Z a0 hw [] a cs h0 n0 Z0 Sc hcs Fc) (by rw [hml]; rfl) (lenOf pd_9 rfl) rfl (Nat.le_of_eq rfl) (hb hby d12_6) (by decide) (by decide) (by decide) (by decide) fun v191 T191 L191 X191 hQ191 => ?_
  obtain ⟨rfl, N191q, e191⟩ := hQ191
  have N191 := Fr.app N0 N191q
  show own_At p e below _ T191 m 9 _ [(.int 0), (.int 1)]
  refine own_ishr X191 hx (hb hby d12_9) ?_
  rw [show ((1 : Int32) >>> ((0 : Int32) &&& 31)) = (1 : Int32) from by decide]
  refine own_retI X191 hx hlk hret (hb hby d12_10) (own_kN (by decide) (by decide) ?_)
  try rw [e191]
  exact ⟨rfl, N191, rfl⟩
theorem d16_0 : decode jdk_43_method_2_code 0 = .ok (.iload_n 1, 1) := by decide +kernel
theorem d16_1 : decode jdk_43_method_2_code 1 = .ok (.aload_n 0, 1) := by decide +kernel
theorem d16_2 : decode jdk_43_method_2_code 2 = .ok (.arraylength, 1) := by decide +kernel
theorem d16_3 : decode jdk_43_method_2_code 3 = .ok (.invokestatic 9, 3) := by decide +kernel
theorem d16_6 : decode jdk_43_method_2_code 6 = .ok (.aload_n 0, 1) := by decide +kernel
theorem d16_7 : decode jdk_43_method_2_code 7 = .ok (.iload_n 1, 1) := by decide +kernel
theorem d16_8 : decode jdk_43_method_2_code 8 = .ok (.baload, 1) := by decide +kernel
theorem d16_9 : decode jdk_43_method_2_code 9 = .ok (.sipush 255, 3) := by decide +kernel
theorem d16_12 : decode jdk_43_method_2_code 12 = .ok (.iand, 1) := by decide +kernel
theorem d16_13 : decode jdk_43_method_2_code 13 = .ok (.i2c, 1) := by decide +kernel
theorem d16_14 : decode jdk_43_method_2_code 14 = .ok (.ireturn, 1) := by decide +kernel
theorem pn_4 : plainName "java/lang/StringLatin1" = true := by first | (simp [plainName, overriddenIn]; done) | decide +kernel
theorem pd_11 : parseMethodDescriptor "(II)V" = some ⟨[.int, .int], none⟩ := by decide +kernel
set_option maxRecDepth 65536 in
set_option maxHeartbeats 40000000 in
theorem rmXc_0_1_0 (l : Launch) (Z : State) (a0 : Array Value) (hw : own_Wd a0 Z) (ws : List Jvm.Cond) (a b : Addr) (kb : ClassId) (cs : Int32) (fm : Value) (y0 : Int32)  (h0 : Heap) (n0 : Nat) (Z0 : n0 ≤ h0.size) (Sc : Sta Z h0 "java/lang/String" "COMPACT_STRINGS" "Z" (.int cs)) (hcs : ¬ (cs = (0 : Int32))) (Sad : Sta Z h0 "java/lang/StringUTF16" "$assertionsDisabled" "Z" (.int 1)) (Shi : Sta Z h0 "java/lang/StringUTF16" "HI_BYTE_SHIFT" "I" (.int 0)) (Slo : Sta Z h0 "java/lang/StringUTF16" "LO_BYTE_SHIFT" "I" (.int 8)) (Sf : Sta Z h0 "jdk/internal/util/Preconditions" "SIOOBE_FORMATTER" "Ljava/util/function/BiFunction;" fm) (hfm : fm.isRef = true) (Ea : Exa Z h0 a "java/lang/String") (Fv : Fld Z h0 a "java/lang/String" "value" "[B" (.ref b)) (Fc : Fld Z h0 a "java/lang/String" "coder" "B" (.int 0)) (Vb : Arv Z h0 b kb .byte (1 : Int32) [(.int y0)] (.int 0)) :
    own_Met l (⟨"java/lang/StringLatin1", "charAt", "([BI)C"⟩ : MethodName) jdk_43_method_2_code 2 (some .char) ws ({ frames := 2, cells := 0, slots := 0, locals := 27 } : Room) Z #[(.ref b), (.int 0)] h0 (fun v h L => v = some (.int (own_lc y0)) ∧ Fr n0 L ∧ h = h0) := by
  refine own_body (plainFor_of_name pn_4) ?_
  intro p e s m below meth c s₁ X0 hx hby hml hown hnm hret hlk hZ e0
  replace hown : s.vm.findClass "java/lang/StringLatin1" = some m.cls := hown
  replace hml : c.maxLocals = 2 := hml
  replace hret : meth.sig.returnType = (some .char) := hret
  have N0 := Fr.nil n0
  refine own_ef (L0 := #[.val (.ref b), .val (.int 0)]) (by first | (simp [entryFrame, mkF, argsToLocals, Value.category]; done) | rfl) ?_
  refine own_iloadN X0 hx (hb hby d16_0) rfl ?_
  refine own_aloadN X0 hx (hb hby d16_1) rfl rfl ?_
  refine own_arraylength X0 hx hZ e0 (own_alnV Vb) (hb hby d16_2) ?_
  refine own_cStat (W := 0) (rest := []) X0 hx hZ [(.int 0), (.int 1)] hown (own_m hw 92 rfl) (own_m hw 93 rfl) (by decide) (own_m hw 94 rfl) (own_m hw 7 rfl) e0 (rmSCI l Z a0 hw [] fm (0 : Int32) (1 : Int32) h0 n0 Z0 Sf hfm (by decide) (by decide)) (by rw [hml]; rfl) (lenOf pd_11 rfl) rfl (Nat.le_of_eq rfl) (hb hby d16_3) (by decide) (by decide) (by decide) (by decide) fun v192 T192 L192 X192 hQ192 => ?_
  obtain ⟨rfl, N192q, e192⟩ := hQ192
  have N192 := Fr.app N0 N192q
  show own_At p e below _ T192 m 6 _ []
  refine own_aloadN X192 hx (hb hby d16_6) rfl rfl ?_
  refine own_iloadN X192 hx (hb hby d16_7) rfl ?_
  refine own_baload X192 hx hZ (.int y0) e192 Vb ⟨by decide, by decide⟩ rfl (hb hby d16_8) ?_
  refine own_sipush X192 hx 255 (hb hby d16_9) rfl ?_
  refine own_iand X192 hx (hb hby d16_12) ?_
  refine own_i2c X192 hx (hb hby d16_13) ?_
  refine own_retN X192 hx hlk hret (by simp) (own_narcc _) (hb hby d16_14) (own_kN (by decide) (by decide) ?_)
  try rw [e192]
  exact ⟨rfl, N192, rfl⟩
theorem d14_0 : decode jdk_42_method_56_code 0 = .ok (.aload_n 0, 1) := by decide +kernel
theorem d14_1 : decode jdk_42_method_56_code 1 = .ok (.invokevirtual 492, 3) := by decide +kernel
theorem d14_4 : decode jdk_42_method_56_code 4 = .ok (.ifCond .eq 12, 3) := by decide +kernel
theorem d14_7 : decode jdk_42_method_56_code 7 = .ok (.aload_n 0, 1) := by decide +kernel
theorem d14_8 : decode jdk_42_method_56_code 8 = .ok (.getfield 9, 3) := by decide +kernel
theorem d14_11 : decode jdk_42_method_56_code 11 = .ok (.iload_n 1, 1) := by decide +kernel
theorem d14_12 : decode jdk_42_method_56_code 12 = .ok (.invokestatic 495, 3) := by decide +kernel
theorem d14_15 : decode jdk_42_method_56_code 15 = .ok (.ireturn, 1) := by decide +kernel
theorem d14_16 : decode jdk_42_method_56_code 16 = .ok (.aload_n 0, 1) := by decide +kernel
theorem d14_17 : decode jdk_42_method_56_code 17 = .ok (.getfield 9, 3) := by decide +kernel
theorem d14_20 : decode jdk_42_method_56_code 20 = .ok (.iload_n 1, 1) := by decide +kernel
theorem d14_21 : decode jdk_42_method_56_code 21 = .ok (.invokestatic 498, 3) := by decide +kernel
theorem d14_24 : decode jdk_42_method_56_code 24 = .ok (.ireturn, 1) := by decide +kernel
theorem pd_12 : parseMethodDescriptor "()Z" = some ⟨[], some .boolean⟩ := by decide +kernel
set_option maxRecDepth 65536 in
set_option maxHeartbeats 40000000 in
theorem rmCA_0_1_0 (l : Launch) (Z : State) (a0 : Array Value) (hw : own_Wd a0 Z) (ws : List Jvm.Cond) (a b : Addr) (kb : ClassId) (cs : Int32) (fm : Value) (y0 : Int32)  (h0 : Heap) (n0 : Nat) (Z0 : n0 ≤ h0.size) (Sc : Sta Z h0 "java/lang/String" "COMPACT_STRINGS" "Z" (.int cs)) (hcs : ¬ (cs = (0 : Int32))) (Sad : Sta Z h0 "java/lang/StringUTF16" "$assertionsDisabled" "Z" (.int 1)) (Shi : Sta Z h0 "java/lang/StringUTF16" "HI_BYTE_SHIFT" "I" (.int 0)) (Slo : Sta Z h0 "java/lang/StringUTF16" "LO_BYTE_SHIFT" "I" (.int 8)) (Sf : Sta Z h0 "jdk/internal/util/Preconditions" "SIOOBE_FORMATTER" "Ljava/util/function/BiFunction;" fm) (hfm : fm.isRef = true) (Ea : Exa Z h0 a "java/lang/String") (Fv : Fld Z h0 a "java/lang/String" "value" "[B" (.ref b)) (Fc : Fld Z h0 a "java/lang/String" "coder" "B" (.int 0)) (Vb : Arv Z h0 b kb .byte (1 : Int32) [(.int y0)] (.int 0)) :
    own_Met l (⟨"java/lang/String", "charAt", "(I)C"⟩ : MethodName) jdk_42_method_56_code 2 (some .char) ws ({ frames := 4, cells := 0, slots := 0, locals := 53 } : Room) Z #[(.ref a), (.int 0)] h0 (fun v h L => v = some (.int (own_lc y0)) ∧ Fr n0 L ∧ h = h0) := by
  refine own_body (plainFor_of_name pn_1) ?_
  intro p e s m below meth c s₁ X0 hx hby hml hown hnm hret hlk hZ e0
  replace hown : s.vm.findClass "java/lang/String" = some m.cls := hown
  replace hml : c.maxLocals = 2 := hml
  replace hret : meth.sig.returnType = (some .char) := hret
  have N0 := Fr.nil n0
  refine own_ef (L0 := #[.val (.ref a), .val (.int 0)]) (by first | (simp [entryFrame, mkF, argsToLocals, Value.category]; done) | rfl) ?_
  refine own_aloadN X0 hx (hb hby d14_0) rfl rfl ?_
  refine own_cVirt (W := 0) (rest := []) X0 hx hZ [] hown (own_m hw 83 rfl) (own_m hw 84 rfl) (notFace_of_selects (args := #[]) (mvT hZ (own_m hw 86 rfl))) (own_m hw 86 rfl) (own_m hw 85 rfl) (by decide) (own_m hw 87 rfl) (own_m hw 7 rfl) e0 Ea (rmL l Z a0 hw [] a cs h0 n0 Z0 Sc hcs Fc) (by rw [hml]; rfl) (lenOf pd_12 rfl) rfl (Nat.le_of_eq rfl) (hb hby d14_1) (by decide) (by decide) (by decide) (by decide) fun v193 T193 L193 X193 hQ193 => ?_
  obtain ⟨rfl, N193q, e193⟩ := hQ193
  have N193 := Fr.app N0 N193q
  show own_At p e below _ T193 m 4 _ [(.int 1)]
  refine own_ifNo X193 hx (hb hby d14_4) (feq (by decide : ¬ ((1 : Int32) = (0 : Int32)))).1 ?_
  refine own_aloadN X193 hx (hb hby d14_7) rfl rfl ?_
  refine own_getF X193 hx hZ hown (host := "") (Or.inl (own_m hw 33 rfl)) Via.refl e193 Fv (hb hby d14_8) fun T194 X194 e194 => ?_
  refine own_iloadN X194 hx (hb hby d14_11) rfl ?_
  refine own_cStat (W := 0) (rest := []) X194 hx hZ [(.ref b), (.int 0)] hown (own_m hw 88 rfl) (own_m hw 89 rfl) (by decide) (own_m hw 91 rfl) (own_m hw 90 rfl) e194 (rmXc_0_1_0 l Z a0 hw [] a b kb cs fm y0 h0 n0 Z0 Sc hcs Sad Shi Slo Sf hfm Ea Fv Fc Vb) (by rw [hml]; rfl) (lenOf pd_7 rfl) rfl (Nat.le_of_eq rfl) (hb hby d14_12) (by decide) (by decide) (by decide) (by decide) fun v195 T195 L195 X195 hQ195 => ?_
  obtain ⟨rfl, N195q, e195⟩ := hQ195
  have N195 := Fr.app N193 N195q
  show own_At p e below _ T195 m 15 _ [(.int (own_lc y0))]
  refine own_retN X195 hx hlk hret (by simp) (own_narlc _) (hb hby d14_15) (own_kN (by decide) (by decide) ?_)
  try rw [e195]
  exact ⟨rfl, N195, rfl⟩
theorem pd_13 : parseMethodDescriptor "(I)C" = some ⟨[.int], some .char⟩ := by decide +kernel
def own_hs (h : Int64) (c : Int32) : Int64 := ((h ^^^ (c.toInt64)) * (1099511628211 : Int64))
def own_H_0_1 (y0 : Int32) : Int64 := (own_m3 (own_m2 (own_m1 (own_hs (-3750763034362895579 : Int64) (own_lc y0)))))
set_option maxRecDepth 65536 in
set_option maxHeartbeats 40000000 in
theorem rmH_0_1 (l : Launch) (Z : State) (a0 : Array Value) (hw : own_Wd a0 Z) (ws : List Jvm.Cond) (a b : Addr) (kb : ClassId) (cs : Int32) (fm : Value) (y0 : Int32)  (h0 : Heap) (n0 : Nat) (Z0 : n0 ≤ h0.size) (Sc : Sta Z h0 "java/lang/String" "COMPACT_STRINGS" "Z" (.int cs)) (hcs : ¬ (cs = (0 : Int32))) (Sad : Sta Z h0 "java/lang/StringUTF16" "$assertionsDisabled" "Z" (.int 1)) (Shi : Sta Z h0 "java/lang/StringUTF16" "HI_BYTE_SHIFT" "I" (.int 0)) (Slo : Sta Z h0 "java/lang/StringUTF16" "LO_BYTE_SHIFT" "I" (.int 8)) (Sf : Sta Z h0 "jdk/internal/util/Preconditions" "SIOOBE_FORMATTER" "Ljava/util/function/BiFunction;" fm) (hfm : fm.isRef = true) (Ea : Exa Z h0 a "java/lang/String") (Fv : Fld Z h0 a "java/lang/String" "value" "[B" (.ref b)) (Fc : Fld Z h0 a "java/lang/String" "coder" "B" (.int 0)) (Vb : Arv Z h0 b kb .byte (1 : Int32) [(.int y0)] (.int 0)) :
    own_Met l (⟨"com/example/vestline/vestline/cli/BloomFilter", "hash", "(Ljava/lang/String;)J"⟩ : MethodName) prog_1_method_3_code 4 (some .long) ws ({ frames := 5, cells := 0, slots := 0, locals := 72 } : Room) Z #[(.ref a)] h0 (fun v h L => v = some (.long (own_H_0_1 y0)) ∧ Fr n0 L ∧ h = h0) := by
  refine own_body (plainFor_of_name pn_3) ?_
  intro p e s m below meth c s₁ X0 hx hby hml hown hnm hret hlk hZ e0
  replace hown : s.vm.findClass "com/example/vestline/vestline/cli/BloomFilter" = some m.cls := hown
  replace hml : c.maxLocals = 4 := hml
  replace hret : meth.sig.returnType = (some .long) := hret
  have N0 := Fr.nil n0
  refine own_ef (L0 := #[.val (.ref a), .unset, .unset, .unset]) (by first | (simp [entryFrame, mkF, argsToLocals, Value.category]; done) | rfl) ?_
  refine own_ldcL X0 hx hZ hown (own_m hw 67 rfl) (hb hby d11_0) ?_
  refine own_lstoreN (l' := #[.val (.ref a), .val (.long (-3750763034362895579 : Int64)), .second, .unset]) X0 hx (hb hby d11_3) rfl ?_
  refine own_iconst X0 hx 0 (hb hby d11_4) rfl ?_
  refine own_istoreN (l' := #[.val (.ref a), .val (.long (-3750763034362895579 : Int64)), .second, .val (.int 0)]) X0 hx (hb hby d11_5) rfl ?_
  refine own_iloadN X0 hx (hb hby d11_6) rfl ?_
  refine own_aloadN X0 hx (hb hby d11_7) rfl rfl ?_
  refine own_cVirt (W := 1) (rest := [(.int 0)]) X0 hx hZ [] hown (own_m hw 68 rfl) (own_m hw 69 rfl) (notFace_of_selects (args := #[]) (mvT hZ (own_m hw 71 rfl))) (own_m hw 71 rfl) (own_m hw 70 rfl) (by decide) (own_m hw 72 rfl) (own_m hw 7 rfl) e0 Ea (rmLn_0_1 l Z a0 hw [] a b kb cs fm y0 h0 n0 Z0 Sc hcs Sad Shi Slo Sf hfm Ea Fv Fc Vb) (by rw [hml]; rfl) (lenOf pd_10 rfl) rfl (Nat.le_of_eq rfl) (hb hby d11_8) (by decide) (by decide) (by decide) (by decide) fun v196 T196 L196 X196 hQ196 => ?_
  obtain ⟨rfl, N196q, e196⟩ := hQ196
  have N196 := Fr.app N0 N196q
  show own_At p e below _ T196 m 11 _ [(.int 1), (.int 0)]
  refine own_icmpNo X196 hx (hb hby d11_11) (tlt (by decide : (0 : Int32) < (1 : Int32))).2.1 ?_
  refine own_lloadN X196 hx (hb hby d11_14) rfl ?_
  refine own_aloadN X196 hx (hb hby d11_15) rfl rfl ?_
  refine own_iloadN X196 hx (hb hby d11_16) rfl ?_
  refine own_cVirt (W := 2) (rest := [(.long (-3750763034362895579 : Int64))]) X196 hx hZ [(.int 0)] hown (own_m hw 78 rfl) (own_m hw 79 rfl) (notFace_of_selects (args := #[]) (mvT hZ (own_m hw 81 rfl))) (own_m hw 81 rfl) (own_m hw 80 rfl) (by decide) (own_m hw 82 rfl) (own_m hw 7 rfl) e196 Ea (rmCA_0_1_0 l Z a0 hw [] a b kb cs fm y0 h0 n0 Z0 Sc hcs Sad Shi Slo Sf hfm Ea Fv Fc Vb) (by rw [hml]; rfl) (lenOf pd_13 rfl) rfl (Nat.le_of_eq rfl) (hb hby d11_17) (by decide) (by decide) (by decide) (by decide) fun v197 T197 L197 X197 hQ197 => ?_
  obtain ⟨rfl, N197q, e197⟩ := hQ197
  have N197 := Fr.app N196 N197q
  show own_At p e below _ T197 m 20 _ [(.int (own_lc y0)), (.long (-3750763034362895579 : Int64))]
  refine own_i2l X197 hx (hb hby d11_20) ?_
  refine own_lxor X197 hx (hb hby d11_21) ?_
  refine own_ldcL X197 hx hZ hown (own_m hw 100 rfl) (hb hby d11_22) ?_
  refine own_lmul X197 hx (hb hby d11_25) ?_
  rw [show (((-3750763034362895579 : Int64) ^^^ ((own_lc y0).toInt64)) * (1099511628211 : Int64)) = (own_hs (-3750763034362895579 : Int64) (own_lc y0)) from rfl]
  refine own_lstoreN (l' := #[.val (.ref a), .val (.long (own_hs (-3750763034362895579 : Int64) (own_lc y0))), .second, .val (.int 0)]) X197 hx (hb hby d11_26) rfl ?_
  refine own_iinc (l' := #[.val (.ref a), .val (.long (own_hs (-3750763034362895579 : Int64) (own_lc y0))), .second, .val (.int ((0 : Int32) + (1 : Int32)))]) X197 hx (hb hby d11_27) rfl rfl ?_
  rw [show ((0 : Int32) + (1 : Int32)) = (1 : Int32) from by decide]
  refine own_goto X197 hx 6 (hb hby d11_30) (by decide) (by decide) ?_
  refine own_iloadN X197 hx (hb hby d11_6) rfl ?_
  refine own_aloadN X197 hx (hb hby d11_7) rfl rfl ?_
  refine own_cVirt (W := 1) (rest := [(.int 1)]) X197 hx hZ [] hown (own_m hw 68 rfl) (own_m hw 69 rfl) (notFace_of_selects (args := #[]) (mvT hZ (own_m hw 71 rfl))) (own_m hw 71 rfl) (own_m hw 70 rfl) (by decide) (own_m hw 72 rfl) (own_m hw 7 rfl) e197 Ea (rmLn_0_1 l Z a0 hw [] a b kb cs fm y0 h0 n0 Z0 Sc hcs Sad Shi Slo Sf hfm Ea Fv Fc Vb) (by rw [hml]; rfl) (lenOf pd_10 rfl) rfl (Nat.le_of_eq rfl) (hb hby d11_8) (by decide) (by decide) (by decide) (by decide) fun v198 T198 L198 X198 hQ198 => ?_
  obtain ⟨rfl, N198q, e198⟩ := hQ198
  have N198 := Fr.app N197 N198q
  show own_At p e below _ T198 m 11 _ [(.int 1), (.int 1)]
  refine own_icmpYes X198 hx 33 (hb hby d11_11) (flt (by decide : ¬ ((1 : Int32) < (1 : Int32)))).2.1 (by decide) (by decide) ?_
  refine own_lloadN X198 hx (hb hby d11_33) rfl ?_
  refine own_lloadN X198 hx (hb hby d11_34) rfl ?_
  refine own_bipush X198 hx 33 (hb hby d11_35) rfl ?_
  refine own_lushr X198 hx (hb hby d11_37) ?_
  refine own_lxor X198 hx (hb hby d11_38) ?_
  refine own_ldcL X198 hx hZ hown (own_m hw 101 rfl) (hb hby d11_39) ?_
  refine own_lmul X198 hx (hb hby d11_42) ?_
  rw [show (((own_hs (-3750763034362895579 : Int64) (own_lc y0)) ^^^ (((own_hs (-3750763034362895579 : Int64) (own_lc y0)).toUInt64 >>> ((33 : Int32) &&& 0x3f).toInt64.toUInt64).toInt64)) * (-49064778989728563 : Int64)) = (own_m1 (own_hs (-3750763034362895579 : Int64) (own_lc y0))) from rfl]
  refine own_lstoreN (l' := #[.val (.ref a), .val (.long (own_m1 (own_hs (-3750763034362895579 : Int64) (own_lc y0)))), .second, .val (.int 1)]) X198 hx (hb hby d11_43) rfl ?_
  refine own_lloadN X198 hx (hb hby d11_44) rfl ?_
  refine own_lloadN X198 hx (hb hby d11_45) rfl ?_
  refine own_bipush X198 hx 33 (hb hby d11_46) rfl ?_
  refine own_lushr X198 hx (hb hby d11_48) ?_
  refine own_lxor X198 hx (hb hby d11_49) ?_
  refine own_ldcL X198 hx hZ hown (own_m hw 102 rfl) (hb hby d11_50) ?_
  refine own_lmul X198 hx (hb hby d11_53) ?_
  rw [show (((own_m1 (own_hs (-3750763034362895579 : Int64) (own_lc y0))) ^^^ (((own_m1 (own_hs (-3750763034362895579 : Int64) (own_lc y0))).toUInt64 >>> ((33 : Int32) &&& 0x3f).toInt64.toUInt64).toInt64)) * (-4265267296055464877 : Int64)) = (own_m2 (own_m1 (own_hs (-3750763034362895579 : Int64) (own_lc y0)))) from rfl]
  refine own_lstoreN (l' := #[.val (.ref a), .val (.long (own_m2 (own_m1 (own_hs (-3750763034362895579 : Int64) (own_lc y0))))), .second, .val (.int 1)]) X198 hx (hb hby d11_54) rfl ?_
  refine own_lloadN X198 hx (hb hby d11_55) rfl ?_
  refine own_lloadN X198 hx (hb hby d11_56) rfl ?_
  refine own_bipush X198 hx 33 (hb hby d11_57) rfl ?_
  refine own_lushr X198 hx (hb hby d11_59) ?_
  refine own_lxor X198 hx (hb hby d11_60) ?_
  rw [show ((own_m2 (own_m1 (own_hs (-3750763034362895579 : Int64) (own_lc y0)))) ^^^ (((own_m2 (own_m1 (own_hs (-3750763034362895579 : Int64) (own_lc y0)))).toUInt64 >>> ((33 : Int32) &&& 0x3f).toInt64.toUInt64).toInt64)) = (own_m3 (own_m2 (own_m1 (own_hs (-3750763034362895579 : Int64) (own_lc y0))))) from rfl]
  refine own_retL X198 hx hlk hret (hb hby d11_61) (own_kN (by decide) (by decide) ?_)
  try rw [e198]
  exact ⟨rfl, N198, rfl⟩
set_option maxRecDepth 65536 in
set_option maxHeartbeats 40000000 in
theorem rmLn_0_2 (l : Launch) (Z : State) (a0 : Array Value) (hw : own_Wd a0 Z) (ws : List Jvm.Cond) (a b : Addr) (kb : ClassId) (cs : Int32) (fm : Value) (y0 y1 : Int32)  (h0 : Heap) (n0 : Nat) (Z0 : n0 ≤ h0.size) (Sc : Sta Z h0 "java/lang/String" "COMPACT_STRINGS" "Z" (.int cs)) (hcs : ¬ (cs = (0 : Int32))) (Sad : Sta Z h0 "java/lang/StringUTF16" "$assertionsDisabled" "Z" (.int 1)) (Shi : Sta Z h0 "java/lang/StringUTF16" "HI_BYTE_SHIFT" "I" (.int 0)) (Slo : Sta Z h0 "java/lang/StringUTF16" "LO_BYTE_SHIFT" "I" (.int 8)) (Sf : Sta Z h0 "jdk/internal/util/Preconditions" "SIOOBE_FORMATTER" "Ljava/util/function/BiFunction;" fm) (hfm : fm.isRef = true) (Ea : Exa Z h0 a "java/lang/String") (Fv : Fld Z h0 a "java/lang/String" "value" "[B" (.ref b)) (Fc : Fld Z h0 a "java/lang/String" "coder" "B" (.int 0)) (Vb : Arv Z h0 b kb .byte (2 : Int32) [(.int y0), (.int y1)] (.int 0)) :
    own_Met l (⟨"java/lang/String", "length", "()I"⟩ : MethodName) jdk_42_method_54_code 1 (some .int) ws ({ frames := 1, cells := 0, slots := 0, locals := 13 } : Room) Z #[(.ref a)] h0 (fun v h L => v = some (.int 2) ∧ Fr n0 L ∧ h = h0) := by
  refine own_body (plainFor_of_name pn_1) ?_
  intro p e s m below meth c s₁ X0 hx hby hml hown hnm hret hlk hZ e0
  replace hown : s.vm.findClass "java/lang/String" = some m.cls := hown
  replace hml : c.maxLocals = 1 := hml
  replace hret : meth.sig.returnType = (some .int) := hret
  have N0 := Fr.nil n0
  refine own_ef (L0 := #[.val (.ref a)]) (by first | (simp [entryFrame, mkF, argsToLocals, Value.category]; done) | rfl) ?_
  refine own_aloadN X0 hx (hb hby d12_0) rfl rfl ?_
  refine own_getF X0 hx hZ hown (host := "") (Or.inl (own_m hw 33 rfl)) Via.refl e0 Fv (hb hby d12_1) fun T199 X199 e199 => ?_
  refine own_arraylength X199 hx hZ e199 (own_alnV Vb) (hb hby d12_4) ?_
  refine own_aloadN X199 hx (hb hby d12_5) rfl rfl ?_
  refine own_cVirt (W := 1) (rest := [(.int 2)]) X199 hx hZ [] hown (own_m hw 73 rfl) (own_m hw 74 rfl) (notFace_of_selects (args := #[]) (mvT hZ (own_m hw 76 rfl))) (own_m hw 76 rfl) (own_m hw 75 rfl) (by decide) (own_m hw 77 rfl) (own_m hw 7 rfl) e199 Ea (rmCd l Z a0 hw [] a cs h0 n0 Z0 Sc hcs Fc) (by rw [hml]; rfl) (lenOf pd_9 rfl) rfl (Nat.le_of_eq rfl) (hb hby d12_6) (by decide) (by decide) (by decide) (by decide) fun v200 T200 L200 X200 hQ200 => ?_
  obtain ⟨rfl, N200q, e200⟩ := hQ200
  have N200 := Fr.app N0 N200q
  show own_At p e below _ T200 m 9 _ [(.int 0), (.int 2)]
  refine own_ishr X200 hx (hb hby d12_9) ?_
  rw [show ((2 : Int32) >>> ((0 : Int32) &&& 31)) = (2 : Int32) from by decide]
  refine own_retI X200 hx hlk hret (hb hby d12_10) (own_kN (by decide) (by decide) ?_)
  try rw [e200]
  exact ⟨rfl, N200, rfl⟩
set_option maxRecDepth 65536 in
set_option maxHeartbeats 40000000 in
theorem rmXc_0_2_0 (l : Launch) (Z : State) (a0 : Array Value) (hw : own_Wd a0 Z) (ws : List Jvm.Cond) (a b : Addr) (kb : ClassId) (cs : Int32) (fm : Value) (y0 y1 : Int32)  (h0 : Heap) (n0 : Nat) (Z0 : n0 ≤ h0.size) (Sc : Sta Z h0 "java/lang/String" "COMPACT_STRINGS" "Z" (.int cs)) (hcs : ¬ (cs = (0 : Int32))) (Sad : Sta Z h0 "java/lang/StringUTF16" "$assertionsDisabled" "Z" (.int 1)) (Shi : Sta Z h0 "java/lang/StringUTF16" "HI_BYTE_SHIFT" "I" (.int 0)) (Slo : Sta Z h0 "java/lang/StringUTF16" "LO_BYTE_SHIFT" "I" (.int 8)) (Sf : Sta Z h0 "jdk/internal/util/Preconditions" "SIOOBE_FORMATTER" "Ljava/util/function/BiFunction;" fm) (hfm : fm.isRef = true) (Ea : Exa Z h0 a "java/lang/String") (Fv : Fld Z h0 a "java/lang/String" "value" "[B" (.ref b)) (Fc : Fld Z h0 a "java/lang/String" "coder" "B" (.int 0)) (Vb : Arv Z h0 b kb .byte (2 : Int32) [(.int y0), (.int y1)] (.int 0)) :
    own_Met l (⟨"java/lang/StringLatin1", "charAt", "([BI)C"⟩ : MethodName) jdk_43_method_2_code 2 (some .char) ws ({ frames := 2, cells := 0, slots := 0, locals := 27 } : Room) Z #[(.ref b), (.int 0)] h0 (fun v h L => v = some (.int (own_lc y0)) ∧ Fr n0 L ∧ h = h0) := by
  refine own_body (plainFor_of_name pn_4) ?_
  intro p e s m below meth c s₁ X0 hx hby hml hown hnm hret hlk hZ e0
  replace hown : s.vm.findClass "java/lang/StringLatin1" = some m.cls := hown
  replace hml : c.maxLocals = 2 := hml
  replace hret : meth.sig.returnType = (some .char) := hret
  have N0 := Fr.nil n0
  refine own_ef (L0 := #[.val (.ref b), .val (.int 0)]) (by first | (simp [entryFrame, mkF, argsToLocals, Value.category]; done) | rfl) ?_
  refine own_iloadN X0 hx (hb hby d16_0) rfl ?_
  refine own_aloadN X0 hx (hb hby d16_1) rfl rfl ?_
  refine own_arraylength X0 hx hZ e0 (own_alnV Vb) (hb hby d16_2) ?_
  refine own_cStat (W := 0) (rest := []) X0 hx hZ [(.int 0), (.int 2)] hown (own_m hw 92 rfl) (own_m hw 93 rfl) (by decide) (own_m hw 94 rfl) (own_m hw 7 rfl) e0 (rmSCI l Z a0 hw [] fm (0 : Int32) (2 : Int32) h0 n0 Z0 Sf hfm (by decide) (by decide)) (by rw [hml]; rfl) (lenOf pd_11 rfl) rfl (Nat.le_of_eq rfl) (hb hby d16_3) (by decide) (by decide) (by decide) (by decide) fun v201 T201 L201 X201 hQ201 => ?_
  obtain ⟨rfl, N201q, e201⟩ := hQ201
  have N201 := Fr.app N0 N201q
  show own_At p e below _ T201 m 6 _ []
  refine own_aloadN X201 hx (hb hby d16_6) rfl rfl ?_
  refine own_iloadN X201 hx (hb hby d16_7) rfl ?_
  refine own_baload X201 hx hZ (.int y0) e201 Vb ⟨by decide, by decide⟩ rfl (hb hby d16_8) ?_
  refine own_sipush X201 hx 255 (hb hby d16_9) rfl ?_
  refine own_iand X201 hx (hb hby d16_12) ?_
  refine own_i2c X201 hx (hb hby d16_13) ?_
  refine own_retN X201 hx hlk hret (by simp) (own_narcc _) (hb hby d16_14) (own_kN (by decide) (by decide) ?_)
  try rw [e201]
  exact ⟨rfl, N201, rfl⟩
set_option maxRecDepth 65536 in
set_option maxHeartbeats 40000000 in
theorem rmCA_0_2_0 (l : Launch) (Z : State) (a0 : Array Value) (hw : own_Wd a0 Z) (ws : List Jvm.Cond) (a b : Addr) (kb : ClassId) (cs : Int32) (fm : Value) (y0 y1 : Int32)  (h0 : Heap) (n0 : Nat) (Z0 : n0 ≤ h0.size) (Sc : Sta Z h0 "java/lang/String" "COMPACT_STRINGS" "Z" (.int cs)) (hcs : ¬ (cs = (0 : Int32))) (Sad : Sta Z h0 "java/lang/StringUTF16" "$assertionsDisabled" "Z" (.int 1)) (Shi : Sta Z h0 "java/lang/StringUTF16" "HI_BYTE_SHIFT" "I" (.int 0)) (Slo : Sta Z h0 "java/lang/StringUTF16" "LO_BYTE_SHIFT" "I" (.int 8)) (Sf : Sta Z h0 "jdk/internal/util/Preconditions" "SIOOBE_FORMATTER" "Ljava/util/function/BiFunction;" fm) (hfm : fm.isRef = true) (Ea : Exa Z h0 a "java/lang/String") (Fv : Fld Z h0 a "java/lang/String" "value" "[B" (.ref b)) (Fc : Fld Z h0 a "java/lang/String" "coder" "B" (.int 0)) (Vb : Arv Z h0 b kb .byte (2 : Int32) [(.int y0), (.int y1)] (.int 0)) :
    own_Met l (⟨"java/lang/String", "charAt", "(I)C"⟩ : MethodName) jdk_42_method_56_code 2 (some .char) ws ({ frames := 4, cells := 0, slots := 0, locals := 53 } : Room) Z #[(.ref a), (.int 0)] h0 (fun v h L => v = some (.int (own_lc y0)) ∧ Fr n0 L ∧ h = h0) := by
  refine own_body (plainFor_of_name pn_1) ?_
  intro p e s m below meth c s₁ X0 hx hby hml hown hnm hret hlk hZ e0
  replace hown : s.vm.findClass "java/lang/String" = some m.cls := hown
  replace hml : c.maxLocals = 2 := hml
  replace hret : meth.sig.returnType = (some .char) := hret
  have N0 := Fr.nil n0
  refine own_ef (L0 := #[.val (.ref a), .val (.int 0)]) (by first | (simp [entryFrame, mkF, argsToLocals, Value.category]; done) | rfl) ?_
  refine own_aloadN X0 hx (hb hby d14_0) rfl rfl ?_
  refine own_cVirt (W := 0) (rest := []) X0 hx hZ [] hown (own_m hw 83 rfl) (own_m hw 84 rfl) (notFace_of_selects (args := #[]) (mvT hZ (own_m hw 86 rfl))) (own_m hw 86 rfl) (own_m hw 85 rfl) (by decide) (own_m hw 87 rfl) (own_m hw 7 rfl) e0 Ea (rmL l Z a0 hw [] a cs h0 n0 Z0 Sc hcs Fc) (by rw [hml]; rfl) (lenOf pd_12 rfl) rfl (Nat.le_of_eq rfl) (hb hby d14_1) (by decide) (by decide) (by decide) (by decide) fun v202 T202 L202 X202 hQ202 => ?_
  obtain ⟨rfl, N202q, e202⟩ := hQ202
  have N202 := Fr.app N0 N202q
  show own_At p e below _ T202 m 4 _ [(.int 1)]
  refine own_ifNo X202 hx (hb hby d14_4) (feq (by decide : ¬ ((1 : Int32) = (0 : Int32)))).1 ?_
  refine own_aloadN X202 hx (hb hby d14_7) rfl rfl ?_
  refine own_getF X202 hx hZ hown (host := "") (Or.inl (own_m hw 33 rfl)) Via.refl e202 Fv (hb hby d14_8) fun T203 X203 e203 => ?_
  refine own_iloadN X203 hx (hb hby d14_11) rfl ?_
  refine own_cStat (W := 0) (rest := []) X203 hx hZ [(.ref b), (.int 0)] hown (own_m hw 88 rfl) (own_m hw 89 rfl) (by decide) (own_m hw 91 rfl) (own_m hw 90 rfl) e203 (rmXc_0_2_0 l Z a0 hw [] a b kb cs fm y0 y1 h0 n0 Z0 Sc hcs Sad Shi Slo Sf hfm Ea Fv Fc Vb) (by rw [hml]; rfl) (lenOf pd_7 rfl) rfl (Nat.le_of_eq rfl) (hb hby d14_12) (by decide) (by decide) (by decide) (by decide) fun v204 T204 L204 X204 hQ204 => ?_
  obtain ⟨rfl, N204q, e204⟩ := hQ204
  have N204 := Fr.app N202 N204q
  show own_At p e below _ T204 m 15 _ [(.int (own_lc y0))]
  refine own_retN X204 hx hlk hret (by simp) (own_narlc _) (hb hby d14_15) (own_kN (by decide) (by decide) ?_)
  try rw [e204]
  exact ⟨rfl, N204, rfl⟩
set_option maxRecDepth 65536 in
set_option maxHeartbeats 40000000 in
theorem rmXc_0_2_1 (l : Launch) (Z : State) (a0 : Array Value) (hw : own_Wd a0 Z) (ws : List Jvm.Cond) (a b : Addr) (kb : ClassId) (cs : Int32) (fm : Value) (y0 y1 : Int32)  (h0 : Heap) (n0 : Nat) (Z0 : n0 ≤ h0.size) (Sc : Sta Z h0 "java/lang/String" "COMPACT_STRINGS" "Z" (.int cs)) (hcs : ¬ (cs = (0 : Int32))) (Sad : Sta Z h0 "java/lang/StringUTF16" "$assertionsDisabled" "Z" (.int 1)) (Shi : Sta Z h0 "java/lang/StringUTF16" "HI_BYTE_SHIFT" "I" (.int 0)) (Slo : Sta Z h0 "java/lang/StringUTF16" "LO_BYTE_SHIFT" "I" (.int 8)) (Sf : Sta Z h0 "jdk/internal/util/Preconditions" "SIOOBE_FORMATTER" "Ljava/util/function/BiFunction;" fm) (hfm : fm.isRef = true) (Ea : Exa Z h0 a "java/lang/String") (Fv : Fld Z h0 a "java/lang/String" "value" "[B" (.ref b)) (Fc : Fld Z h0 a "java/lang/String" "coder" "B" (.int 0)) (Vb : Arv Z h0 b kb .byte (2 : Int32) [(.int y0), (.int y1)] (.int 0)) :
    own_Met l (⟨"java/lang/StringLatin1", "charAt", "([BI)C"⟩ : MethodName) jdk_43_method_2_code 2 (some .char) ws ({ frames := 2, cells := 0, slots := 0, locals := 27 } : Room) Z #[(.ref b), (.int 1)] h0 (fun v h L => v = some (.int (own_lc y1)) ∧ Fr n0 L ∧ h = h0) := by
  refine own_body (plainFor_of_name pn_4) ?_
  intro p e s m below meth c s₁ X0 hx hby hml hown hnm hret hlk hZ e0
  replace hown : s.vm.findClass "java/lang/StringLatin1" = some m.cls := hown
  replace hml : c.maxLocals = 2 := hml
  replace hret : meth.sig.returnType = (some .char) := hret
  have N0 := Fr.nil n0
  refine own_ef (L0 := #[.val (.ref b), .val (.int 1)]) (by first | (simp [entryFrame, mkF, argsToLocals, Value.category]; done) | rfl) ?_
  refine own_iloadN X0 hx (hb hby d16_0) rfl ?_
  refine own_aloadN X0 hx (hb hby d16_1) rfl rfl ?_
  refine own_arraylength X0 hx hZ e0 (own_alnV Vb) (hb hby d16_2) ?_
  refine own_cStat (W := 0) (rest := []) X0 hx hZ [(.int 1), (.int 2)] hown (own_m hw 92 rfl) (own_m hw 93 rfl) (by decide) (own_m hw 94 rfl) (own_m hw 7 rfl) e0 (rmSCI l Z a0 hw [] fm (1 : Int32) (2 : Int32) h0 n0 Z0 Sf hfm (by decide) (by decide)) (by rw [hml]; rfl) (lenOf pd_11 rfl) rfl (Nat.le_of_eq rfl) (hb hby d16_3) (by decide) (by decide) (by decide) (by decide) fun v205 T205 L205 X205 hQ205 => ?_
  obtain ⟨rfl, N205q, e205⟩ := hQ205
  have N205 := Fr.app N0 N205q
  show own_At p e below _ T205 m 6 _ []
  refine own_aloadN X205 hx (hb hby d16_6) rfl rfl ?_
  refine own_iloadN X205 hx (hb hby d16_7) rfl ?_
  refine own_baload X205 hx hZ (.int y1) e205 Vb ⟨by decide, by decide⟩ rfl (hb hby d16_8) ?_
  refine own_sipush X205 hx 255 (hb hby d16_9) rfl ?_
  refine own_iand X205 hx (hb hby d16_12) ?_
  refine own_i2c X205 hx (hb hby d16_13) ?_
  refine own_retN X205 hx hlk hret (by simp) (own_narcc _) (hb hby d16_14) (own_kN (by decide) (by decide) ?_)
  try rw [e205]
  exact ⟨rfl, N205, rfl⟩
set_option maxRecDepth 65536 in
set_option maxHeartbeats 40000000 in
theorem rmCA_0_2_1 (l : Launch) (Z : State) (a0 : Array Value) (hw : own_Wd a0 Z) (ws : List Jvm.Cond) (a b : Addr) (kb : ClassId) (cs : Int32) (fm : Value) (y0 y1 : Int32)  (h0 : Heap) (n0 : Nat) (Z0 : n0 ≤ h0.size) (Sc : Sta Z h0 "java/lang/String" "COMPACT_STRINGS" "Z" (.int cs)) (hcs : ¬ (cs = (0 : Int32))) (Sad : Sta Z h0 "java/lang/StringUTF16" "$assertionsDisabled" "Z" (.int 1)) (Shi : Sta Z h0 "java/lang/StringUTF16" "HI_BYTE_SHIFT" "I" (.int 0)) (Slo : Sta Z h0 "java/lang/StringUTF16" "LO_BYTE_SHIFT" "I" (.int 8)) (Sf : Sta Z h0 "jdk/internal/util/Preconditions" "SIOOBE_FORMATTER" "Ljava/util/function/BiFunction;" fm) (hfm : fm.isRef = true) (Ea : Exa Z h0 a "java/lang/String") (Fv : Fld Z h0 a "java/lang/String" "value" "[B" (.ref b)) (Fc : Fld Z h0 a "java/lang/String" "coder" "B" (.int 0)) (Vb : Arv Z h0 b kb .byte (2 : Int32) [(.int y0), (.int y1)] (.int 0)) :
    own_Met l (⟨"java/lang/String", "charAt", "(I)C"⟩ : MethodName) jdk_42_method_56_code 2 (some .char) ws ({ frames := 4, cells := 0, slots := 0, locals := 53 } : Room) Z #[(.ref a), (.int 1)] h0 (fun v h L => v = some (.int (own_lc y1)) ∧ Fr n0 L ∧ h = h0) := by
  refine own_body (plainFor_of_name pn_1) ?_
  intro p e s m below meth c s₁ X0 hx hby hml hown hnm hret hlk hZ e0
  replace hown : s.vm.findClass "java/lang/String" = some m.cls := hown
  replace hml : c.maxLocals = 2 := hml
  replace hret : meth.sig.returnType = (some .char) := hret
  have N0 := Fr.nil n0
  refine own_ef (L0 := #[.val (.ref a), .val (.int 1)]) (by first | (simp [entryFrame, mkF, argsToLocals, Value.category]; done) | rfl) ?_
  refine own_aloadN X0 hx (hb hby d14_0) rfl rfl ?_
  refine own_cVirt (W := 0) (rest := []) X0 hx hZ [] hown (own_m hw 83 rfl) (own_m hw 84 rfl) (notFace_of_selects (args := #[]) (mvT hZ (own_m hw 86 rfl))) (own_m hw 86 rfl) (own_m hw 85 rfl) (by decide) (own_m hw 87 rfl) (own_m hw 7 rfl) e0 Ea (rmL l Z a0 hw [] a cs h0 n0 Z0 Sc hcs Fc) (by rw [hml]; rfl) (lenOf pd_12 rfl) rfl (Nat.le_of_eq rfl) (hb hby d14_1) (by decide) (by decide) (by decide) (by decide) fun v206 T206 L206 X206 hQ206 => ?_
  obtain ⟨rfl, N206q, e206⟩ := hQ206
  have N206 := Fr.app N0 N206q
  show own_At p e below _ T206 m 4 _ [(.int 1)]
  refine own_ifNo X206 hx (hb hby d14_4) (feq (by decide : ¬ ((1 : Int32) = (0 : Int32)))).1 ?_
  refine own_aloadN X206 hx (hb hby d14_7) rfl rfl ?_
  refine own_getF X206 hx hZ hown (host := "") (Or.inl (own_m hw 33 rfl)) Via.refl e206 Fv (hb hby d14_8) fun T207 X207 e207 => ?_
  refine own_iloadN X207 hx (hb hby d14_11) rfl ?_
  refine own_cStat (W := 0) (rest := []) X207 hx hZ [(.ref b), (.int 1)] hown (own_m hw 88 rfl) (own_m hw 89 rfl) (by decide) (own_m hw 91 rfl) (own_m hw 90 rfl) e207 (rmXc_0_2_1 l Z a0 hw [] a b kb cs fm y0 y1 h0 n0 Z0 Sc hcs Sad Shi Slo Sf hfm Ea Fv Fc Vb) (by rw [hml]; rfl) (lenOf pd_7 rfl) rfl (Nat.le_of_eq rfl) (hb hby d14_12) (by decide) (by decide) (by decide) (by decide) fun v208 T208 L208 X208 hQ208 => ?_
  obtain ⟨rfl, N208q, e208⟩ := hQ208
  have N208 := Fr.app N206 N208q
  show own_At p e below _ T208 m 15 _ [(.int (own_lc y1))]
  refine own_retN X208 hx hlk hret (by simp) (own_narlc _) (hb hby d14_15) (own_kN (by decide) (by decide) ?_)
  try rw [e208]
  exact ⟨rfl, N208, rfl⟩
def own_H_0_2 (y0 y1 : Int32) : Int64 := (own_m3 (own_m2 (own_m1 (own_hs (own_hs (-3750763034362895579 : Int64) (own_lc y0)) (own_lc y1)))))
set_option maxRecDepth 65536 in
set_option maxHeartbeats 40000000 in
theorem rmH_0_2 (l : Launch) (Z : State) (a0 : Array Value) (hw : own_Wd a0 Z) (ws : List Jvm.Cond) (a b : Addr) (kb : ClassId) (cs : Int32) (fm : Value) (y0 y1 : Int32)  (h0 : Heap) (n0 : Nat) (Z0 : n0 ≤ h0.size) (Sc : Sta Z h0 "java/lang/String" "COMPACT_STRINGS" "Z" (.int cs)) (hcs : ¬ (cs = (0 : Int32))) (Sad : Sta Z h0 "java/lang/StringUTF16" "$assertionsDisabled" "Z" (.int 1)) (Shi : Sta Z h0 "java/lang/StringUTF16" "HI_BYTE_SHIFT" "I" (.int 0)) (Slo : Sta Z h0 "java/lang/StringUTF16" "LO_BYTE_SHIFT" "I" (.int 8)) (Sf : Sta Z h0 "jdk/internal/util/Preconditions" "SIOOBE_FORMATTER" "Ljava/util/function/BiFunction;" fm) (hfm : fm.isRef = true) (Ea : Exa Z h0 a "java/lang/String") (Fv : Fld Z h0 a "java/lang/String" "value" "[B" (.ref b)) (Fc : Fld Z h0 a "java/lang/String" "coder" "B" (.int 0)) (Vb : Arv Z h0 b kb .byte (2 : Int32) [(.int y0), (.int y1)] (.int 0)) :
    own_Met l (⟨"com/example/vestline/vestline/cli/BloomFilter", "hash", "(Ljava/lang/String;)J"⟩ : MethodName) prog_1_method_3_code 4 (some .long) ws ({ frames := 5, cells := 0, slots := 0, locals := 72 } : Room) Z #[(.ref a)] h0 (fun v h L => v = some (.long (own_H_0_2 y0 y1)) ∧ Fr n0 L ∧ h = h0) := by
  refine own_body (plainFor_of_name pn_3) ?_
  intro p e s m below meth c s₁ X0 hx hby hml hown hnm hret hlk hZ e0
  replace hown : s.vm.findClass "com/example/vestline/vestline/cli/BloomFilter" = some m.cls := hown
  replace hml : c.maxLocals = 4 := hml
  replace hret : meth.sig.returnType = (some .long) := hret
  have N0 := Fr.nil n0
  refine own_ef (L0 := #[.val (.ref a), .unset, .unset, .unset]) (by first | (simp [entryFrame, mkF, argsToLocals, Value.category]; done) | rfl) ?_
  refine own_ldcL X0 hx hZ hown (own_m hw 67 rfl) (hb hby d11_0) ?_
  refine own_lstoreN (l' := #[.val (.ref a), .val (.long (-3750763034362895579 : Int64)), .second, .unset]) X0 hx (hb hby d11_3) rfl ?_
  refine own_iconst X0 hx 0 (hb hby d11_4) rfl ?_
  refine own_istoreN (l' := #[.val (.ref a), .val (.long (-3750763034362895579 : Int64)), .second, .val (.int 0)]) X0 hx (hb hby d11_5) rfl ?_
  refine own_iloadN X0 hx (hb hby d11_6) rfl ?_
  refine own_aloadN X0 hx (hb hby d11_7) rfl rfl ?_
  refine own_cVirt (W := 1) (rest := [(.int 0)]) X0 hx hZ [] hown (own_m hw 68 rfl) (own_m hw 69 rfl) (notFace_of_selects (args := #[]) (mvT hZ (own_m hw 71 rfl))) (own_m hw 71 rfl) (own_m hw 70 rfl) (by decide) (own_m hw 72 rfl) (own_m hw 7 rfl) e0 Ea (rmLn_0_2 l Z a0 hw [] a b kb cs fm y0 y1 h0 n0 Z0 Sc hcs Sad Shi Slo Sf hfm Ea Fv Fc Vb) (by rw [hml]; rfl) (lenOf pd_10 rfl) rfl (Nat.le_of_eq rfl) (hb hby d11_8) (by decide) (by decide) (by decide) (by decide) fun v209 T209 L209 X209 hQ209 => ?_
  obtain ⟨rfl, N209q, e209⟩ := hQ209
  have N209 := Fr.app N0 N209q
  show own_At p e below _ T209 m 11 _ [(.int 2), (.int 0)]
  refine own_icmpNo X209 hx (hb hby d11_11) (tlt (by decide : (0 : Int32) < (2 : Int32))).2.1 ?_
  refine own_lloadN X209 hx (hb hby d11_14) rfl ?_
  refine own_aloadN X209 hx (hb hby d11_15) rfl rfl ?_
  refine own_iloadN X209 hx (hb hby d11_16) rfl ?_
  refine own_cVirt (W := 2) (rest := [(.long (-3750763034362895579 : Int64))]) X209 hx hZ [(.int 0)] hown (own_m hw 78 rfl) (own_m hw 79 rfl) (notFace_of_selects (args := #[]) (mvT hZ (own_m hw 81 rfl))) (own_m hw 81 rfl) (own_m hw 80 rfl) (by decide) (own_m hw 82 rfl) (own_m hw 7 rfl) e209 Ea (rmCA_0_2_0 l Z a0 hw [] a b kb cs fm y0 y1 h0 n0 Z0 Sc hcs Sad Shi Slo Sf hfm Ea Fv Fc Vb) (by rw [hml]; rfl) (lenOf pd_13 rfl) rfl (Nat.le_of_eq rfl) (hb hby d11_17) (by decide) (by decide) (by decide) (by decide) fun v210 T210 L210 X210 hQ210 => ?_
  obtain ⟨rfl, N210q, e210⟩ := hQ210
  have N210 := Fr.app N209 N210q
  show own_At p e below _ T210 m 20 _ [(.int (own_lc y0)), (.long (-3750763034362895579 : Int64))]
  refine own_i2l X210 hx (hb hby d11_20) ?_
  refine own_lxor X210 hx (hb hby d11_21) ?_
  refine own_ldcL X210 hx hZ hown (own_m hw 100 rfl) (hb hby d11_22) ?_
  refine own_lmul X210 hx (hb hby d11_25) ?_
  rw [show (((-3750763034362895579 : Int64) ^^^ ((own_lc y0).toInt64)) * (1099511628211 : Int64)) = (own_hs (-3750763034362895579 : Int64) (own_lc y0)) from rfl]
  refine own_lstoreN (l' := #[.val (.ref a), .val (.long (own_hs (-3750763034362895579 : Int64) (own_lc y0))), .second, .val (.int 0)]) X210 hx (hb hby d11_26) rfl ?_
  refine own_iinc (l' := #[.val (.ref a), .val (.long (own_hs (-3750763034362895579 : Int64) (own_lc y0))), .second, .val (.int ((0 : Int32) + (1 : Int32)))]) X210 hx (hb hby d11_27) rfl rfl ?_
  rw [show ((0 : Int32) + (1 : Int32)) = (1 : Int32) from by decide]
  refine own_goto X210 hx 6 (hb hby d11_30) (by decide) (by decide) ?_
  refine own_iloadN X210 hx (hb hby d11_6) rfl ?_
  refine own_aloadN X210 hx (hb hby d11_7) rfl rfl ?_
  refine own_cVirt (W := 1) (rest := [(.int 1)]) X210 hx hZ [] hown (own_m hw 68 rfl) (own_m hw 69 rfl) (notFace_of_selects (args := #[]) (mvT hZ (own_m hw 71 rfl))) (own_m hw 71 rfl) (own_m hw 70 rfl) (by decide) (own_m hw 72 rfl) (own_m hw 7 rfl) e210 Ea (rmLn_0_2 l Z a0 hw [] a b kb cs fm y0 y1 h0 n0 Z0 Sc hcs Sad Shi Slo Sf hfm Ea Fv Fc Vb) (by rw [hml]; rfl) (lenOf pd_10 rfl) rfl (Nat.le_of_eq rfl) (hb hby d11_8) (by decide) (by decide) (by decide) (by decide) fun v211 T211 L211 X211 hQ211 => ?_
  obtain ⟨rfl, N211q, e211⟩ := hQ211
  have N211 := Fr.app N210 N211q
  show own_At p e below _ T211 m 11 _ [(.int 2), (.int 1)]
  refine own_icmpNo X211 hx (hb hby d11_11) (tlt (by decide : (1 : Int32) < (2 : Int32))).2.1 ?_
  refine own_lloadN X211 hx (hb hby d11_14) rfl ?_
  refine own_aloadN X211 hx (hb hby d11_15) rfl rfl ?_
  refine own_iloadN X211 hx (hb hby d11_16) rfl ?_
  refine own_cVirt (W := 2) (rest := [(.long (own_hs (-3750763034362895579 : Int64) (own_lc y0)))]) X211 hx hZ [(.int 1)] hown (own_m hw 78 rfl) (own_m hw 79 rfl) (notFace_of_selects (args := #[]) (mvT hZ (own_m hw 81 rfl))) (own_m hw 81 rfl) (own_m hw 80 rfl) (by decide) (own_m hw 82 rfl) (own_m hw 7 rfl) e211 Ea (rmCA_0_2_1 l Z a0 hw [] a b kb cs fm y0 y1 h0 n0 Z0 Sc hcs Sad Shi Slo Sf hfm Ea Fv Fc Vb) (by rw [hml]; rfl) (lenOf pd_13 rfl) rfl (Nat.le_of_eq rfl) (hb hby d11_17) (by decide) (by decide) (by decide) (by decide) fun v212 T212 L212 X212 hQ212 => ?_
  obtain ⟨rfl, N212q, e212⟩ := hQ212
  have N212 := Fr.app N211 N212q
  show own_At p e below _ T212 m 20 _ [(.int (own_lc y1)), (.long (own_hs (-3750763034362895579 : Int64) (own_lc y0)))]
  refine own_i2l X212 hx (hb hby d11_20) ?_
  refine own_lxor X212 hx (hb hby d11_21) ?_
  refine own_ldcL X212 hx hZ hown (own_m hw 100 rfl) (hb hby d11_22) ?_
  refine own_lmul X212 hx (hb hby d11_25) ?_
  rw [show (((own_hs (-3750763034362895579 : Int64) (own_lc y0)) ^^^ ((own_lc y1).toInt64)) * (1099511628211 : Int64)) = (own_hs (own_hs (-3750763034362895579 : Int64) (own_lc y0)) (own_lc y1)) from rfl]
  refine own_lstoreN (l' := #[.val (.ref a), .val (.long (own_hs (own_hs (-3750763034362895579 : Int64) (own_lc y0)) (own_lc y1))), .second, .val (.int 1)]) X212 hx (hb hby d11_26) rfl ?_
  refine own_iinc (l' := #[.val (.ref a), .val (.long (own_hs (own_hs (-3750763034362895579 : Int64) (own_lc y0)) (own_lc y1))), .second, .val (.int ((1 : Int32) + (1 : Int32)))]) X212 hx (hb hby d11_27) rfl rfl ?_
  rw [show ((1 : Int32) + (1 : Int32)) = (2 : Int32) from by decide]
  refine own_goto X212 hx 6 (hb hby d11_30) (by decide) (by decide) ?_
  refine own_iloadN X212 hx (hb hby d11_6) rfl ?_
  refine own_aloadN X212 hx (hb hby d11_7) rfl rfl ?_
  refine own_cVirt (W := 1) (rest := [(.int 2)]) X212 hx hZ [] hown (own_m hw 68 rfl) (own_m hw 69 rfl) (notFace_of_selects (args := #[]) (mvT hZ (own_m hw 71 rfl))) (own_m hw 71 rfl) (own_m hw 70 rfl) (by decide) (own_m hw 72 rfl) (own_m hw 7 rfl) e212 Ea (rmLn_0_2 l Z a0 hw [] a b kb cs fm y0 y1 h0 n0 Z0 Sc hcs Sad Shi Slo Sf hfm Ea Fv Fc Vb) (by rw [hml]; rfl) (lenOf pd_10 rfl) rfl (Nat.le_of_eq rfl) (hb hby d11_8) (by decide) (by decide) (by decide) (by decide) fun v213 T213 L213 X213 hQ213 => ?_
  obtain ⟨rfl, N213q, e213⟩ := hQ213
  have N213 := Fr.app N212 N213q
  show own_At p e below _ T213 m 11 _ [(.int 2), (.int 2)]
  refine own_icmpYes X213 hx 33 (hb hby d11_11) (flt (by decide : ¬ ((2 : Int32) < (2 : Int32)))).2.1 (by decide) (by decide) ?_
  refine own_lloadN X213 hx (hb hby d11_33) rfl ?_
  refine own_lloadN X213 hx (hb hby d11_34) rfl ?_
  refine own_bipush X213 hx 33 (hb hby d11_35) rfl ?_
  refine own_lushr X213 hx (hb hby d11_37) ?_
  refine own_lxor X213 hx (hb hby d11_38) ?_
  refine own_ldcL X213 hx hZ hown (own_m hw 101 rfl) (hb hby d11_39) ?_
  refine own_lmul X213 hx (hb hby d11_42) ?_
  rw [show (((own_hs (own_hs (-3750763034362895579 : Int64) (own_lc y0)) (own_lc y1)) ^^^ (((own_hs (own_hs (-3750763034362895579 : Int64) (own_lc y0)) (own_lc y1)).toUInt64 >>> ((33 : Int32) &&& 0x3f).toInt64.toUInt64).toInt64)) * (-49064778989728563 : Int64)) = (own_m1 (own_hs (own_hs (-3750763034362895579 : Int64) (own_lc y0)) (own_lc y1))) from rfl]
  refine own_lstoreN (l' := #[.val (.ref a), .val (.long (own_m1 (own_hs (own_hs (-3750763034362895579 : Int64) (own_lc y0)) (own_lc y1)))), .second, .val (.int 2)]) X213 hx (hb hby d11_43) rfl ?_
  refine own_lloadN X213 hx (hb hby d11_44) rfl ?_
  refine own_lloadN X213 hx (hb hby d11_45) rfl ?_
  refine own_bipush X213 hx 33 (hb hby d11_46) rfl ?_
  refine own_lushr X213 hx (hb hby d11_48) ?_
  refine own_lxor X213 hx (hb hby d11_49) ?_
  refine own_ldcL X213 hx hZ hown (own_m hw 102 rfl) (hb hby d11_50) ?_
  refine own_lmul X213 hx (hb hby d11_53) ?_
  rw [show (((own_m1 (own_hs (own_hs (-3750763034362895579 : Int64) (own_lc y0)) (own_lc y1))) ^^^ (((own_m1 (own_hs (own_hs (-3750763034362895579 : Int64) (own_lc y0)) (own_lc y1))).toUInt64 >>> ((33 : Int32) &&& 0x3f).toInt64.toUInt64).toInt64)) * (-4265267296055464877 : Int64)) = (own_m2 (own_m1 (own_hs (own_hs (-3750763034362895579 : Int64) (own_lc y0)) (own_lc y1)))) from rfl]
  refine own_lstoreN (l' := #[.val (.ref a), .val (.long (own_m2 (own_m1 (own_hs (own_hs (-3750763034362895579 : Int64) (own_lc y0)) (own_lc y1))))), .second, .val (.int 2)]) X213 hx (hb hby d11_54) rfl ?_
  refine own_lloadN X213 hx (hb hby d11_55) rfl ?_
  refine own_lloadN X213 hx (hb hby d11_56) rfl ?_
  refine own_bipush X213 hx 33 (hb hby d11_57) rfl ?_
  refine own_lushr X213 hx (hb hby d11_59) ?_
  refine own_lxor X213 hx (hb hby d11_60) ?_
  rw [show ((own_m2 (own_m1 (own_hs (own_hs (-3750763034362895579 : Int64) (own_lc y0)) (own_lc y1)))) ^^^ (((own_m2 (own_m1 (own_hs (own_hs (-3750763034362895579 : Int64) (own_lc y0)) (own_lc y1)))).toUInt64 >>> ((33 : Int32) &&& 0x3f).toInt64.toUInt64).toInt64)) = (own_m3 (own_m2 (own_m1 (own_hs (own_hs (-3750763034362895579 : Int64) (own_lc y0)) (own_lc y1))))) from rfl]
  refine own_retL X213 hx hlk hret (hb hby d11_61) (own_kN (by decide) (by decide) ?_)
  try rw [e213]
  exact ⟨rfl, N213, rfl⟩
set_option maxRecDepth 65536 in
set_option maxHeartbeats 40000000 in
theorem rmLn_0_3 (l : Launch) (Z : State) (a0 : Array Value) (hw : own_Wd a0 Z) (ws : List Jvm.Cond) (a b : Addr) (kb : ClassId) (cs : Int32) (fm : Value) (y0 y1 y2 : Int32)  (h0 : Heap) (n0 : Nat) (Z0 : n0 ≤ h0.size) (Sc : Sta Z h0 "java/lang/String" "COMPACT_STRINGS" "Z" (.int cs)) (hcs : ¬ (cs = (0 : Int32))) (Sad : Sta Z h0 "java/lang/StringUTF16" "$assertionsDisabled" "Z" (.int 1)) (Shi : Sta Z h0 "java/lang/StringUTF16" "HI_BYTE_SHIFT" "I" (.int 0)) (Slo : Sta Z h0 "java/lang/StringUTF16" "LO_BYTE_SHIFT" "I" (.int 8)) (Sf : Sta Z h0 "jdk/internal/util/Preconditions" "SIOOBE_FORMATTER" "Ljava/util/function/BiFunction;" fm) (hfm : fm.isRef = true) (Ea : Exa Z h0 a "java/lang/String") (Fv : Fld Z h0 a "java/lang/String" "value" "[B" (.ref b)) (Fc : Fld Z h0 a "java/lang/String" "coder" "B" (.int 0)) (Vb : Arv Z h0 b kb .byte (3 : Int32) [(.int y0), (.int y1), (.int y2)] (.int 0)) :
    own_Met l (⟨"java/lang/String", "length", "()I"⟩ : MethodName) jdk_42_method_54_code 1 (some .int) ws ({ frames := 1, cells := 0, slots := 0, locals := 13 } : Room) Z #[(.ref a)] h0 (fun v h L => v = some (.int 3) ∧ Fr n0 L ∧ h = h0) := by
  refine own_body (plainFor_of_name pn_1) ?_
  intro p e s m below meth c s₁ X0 hx hby hml hown hnm hret hlk hZ e0
  replace hown : s.vm.findClass "java/lang/String" = some m.cls := hown
  replace hml : c.maxLocals = 1 := hml
  replace hret : meth.sig.returnType = (some .int) := hret
  have N0 := Fr.nil n0
  refine own_ef (L0 := #[.val (.ref a)]) (by first | (simp [entryFrame, mkF, argsToLocals, Value.category]; done) | rfl) ?_
  refine own_aloadN X0 hx (hb hby d12_0) rfl rfl ?_
  refine own_getF X0 hx hZ hown (host := "") (Or.inl (own_m hw 33 rfl)) Via.refl e0 Fv (hb hby d12_1) fun T214 X214 e214 => ?_
  refine own_arraylength X214 hx hZ e214 (own_alnV Vb) (hb hby d12_4) ?_
  refine own_aloadN X214 hx (hb hby d12_5) rfl rfl ?_
  refine own_cVirt (W := 1) (rest := [(.int 3)]) X214 hx hZ [] hown (own_m hw 73 rfl) (own_m hw 74 rfl) (notFace_of_selects (args := #[]) (mvT hZ (own_m hw 76 rfl))) (own_m hw 76 rfl) (own_m hw 75 rfl) (by decide) (own_m hw 77 rfl) (own_m hw 7 rfl) e214 Ea (rmCd l Z a0 hw [] a cs h0 n0 Z0 Sc hcs Fc) (by rw [hml]; rfl) (lenOf pd_9 rfl) rfl (Nat.le_of_eq rfl) (hb hby d12_6) (by decide) (by decide) (by decide) (by decide) fun v215 T215 L215 X215 hQ215 => ?_
  obtain ⟨rfl, N215q, e215⟩ := hQ215
  have N215 := Fr.app N0 N215q
  show own_At p e below _ T215 m 9 _ [(.int 0), (.int 3)]
  refine own_ishr X215 hx (hb hby d12_9) ?_
  rw [show ((3 : Int32) >>> ((0 : Int32) &&& 31)) = (3 : Int32) from by decide]
  refine own_retI X215 hx hlk hret (hb hby d12_10) (own_kN (by decide) (by decide) ?_)
  try rw [e215]
  exact ⟨rfl, N215, rfl⟩
set_option maxRecDepth 65536 in
set_option maxHeartbeats 40000000 in
theorem rmXc_0_3_0 (l : Launch) (Z : State) (a0 : Array Value) (hw : own_Wd a0 Z) (ws : List Jvm.Cond) (a b : Addr) (kb : ClassId) (cs : Int32) (fm : Value) (y0 y1 y2 : Int32)  (h0 : Heap) (n0 : Nat) (Z0 : n0 ≤ h0.size) (Sc : Sta Z h0 "java/lang/String" "COMPACT_STRINGS" "Z" (.int cs)) (hcs : ¬ (cs = (0 : Int32))) (Sad : Sta Z h0 "java/lang/StringUTF16" "$assertionsDisabled" "Z" (.int 1)) (Shi : Sta Z h0 "java/lang/StringUTF16" "HI_BYTE_SHIFT" "I" (.int 0)) (Slo : Sta Z h0 "java/lang/StringUTF16" "LO_BYTE_SHIFT" "I" (.int 8)) (Sf : Sta Z h0 "jdk/internal/util/Preconditions" "SIOOBE_FORMATTER" "Ljava/util/function/BiFunction;" fm) (hfm : fm.isRef = true) (Ea : Exa Z h0 a "java/lang/String") (Fv : Fld Z h0 a "java/lang/String" "value" "[B" (.ref b)) (Fc : Fld Z h0 a "java/lang/String" "coder" "B" (.int 0)) (Vb : Arv Z h0 b kb .byte (3 : Int32) [(.int y0), (.int y1), (.int y2)] (.int 0)) :
    own_Met l (⟨"java/lang/StringLatin1", "charAt", "([BI)C"⟩ : MethodName) jdk_43_method_2_code 2 (some .char) ws ({ frames := 2, cells := 0, slots := 0, locals := 27 } : Room) Z #[(.ref b), (.int 0)] h0 (fun v h L => v = some (.int (own_lc y0)) ∧ Fr n0 L ∧ h = h0) := by
  refine own_body (plainFor_of_name pn_4) ?_
  intro p e s m below meth c s₁ X0 hx hby hml hown hnm hret hlk hZ e0
  replace hown : s.vm.findClass "java/lang/StringLatin1" = some m.cls := hown
  replace hml : c.maxLocals = 2 := hml
  replace hret : meth.sig.returnType = (some .char) := hret
  have N0 := Fr.nil n0
  refine own_ef (L0 := #[.val (.ref b), .val (.int 0)]) (by first | (simp [entryFrame, mkF, argsToLocals, Value.category]; done) | rfl) ?_
  refine own_iloadN X0 hx (hb hby d16_0) rfl ?_
  refine own_aloadN X0 hx (hb hby d16_1) rfl rfl ?_
  refine own_arraylength X0 hx hZ e0 (own_alnV Vb) (hb hby d16_2) ?_
  refine own_cStat (W := 0) (rest := []) X0 hx hZ [(.int 0), (.int 3)] hown (own_m hw 92 rfl) (own_m hw 93 rfl) (by decide) (own_m hw 94 rfl) (own_m hw 7 rfl) e0 (rmSCI l Z a0 hw [] fm (0 : Int32) (3 : Int32) h0 n0 Z0 Sf hfm (by decide) (by decide)) (by rw [hml]; rfl) (lenOf pd_11 rfl) rfl (Nat.le_of_eq rfl) (hb hby d16_3) (by decide) (by decide) (by decide) (by decide) fun v216 T216 L216 X216 hQ216 => ?_
  obtain ⟨rfl, N216q, e216⟩ := hQ216
  have N216 := Fr.app N0 N216q
  show own_At p e below _ T216 m 6 _ []
  refine own_aloadN X216 hx (hb hby d16_6) rfl rfl ?_
  refine own_iloadN X216 hx (hb hby d16_7) rfl ?_
  refine own_baload X216 hx hZ (.int y0) e216 Vb ⟨by decide, by decide⟩ rfl (hb hby d16_8) ?_
  refine own_sipush X216 hx 255 (hb hby d16_9) rfl ?_
  refine own_iand X216 hx (hb hby d16_12) ?_
  refine own_i2c X216 hx (hb hby d16_13) ?_
  refine own_retN X216 hx hlk hret (by simp) (own_narcc _) (hb hby d16_14) (own_kN (by decide) (by decide) ?_)
  try rw [e216]
  exact ⟨rfl, N216, rfl⟩
set_option maxRecDepth 65536 in
set_option maxHeartbeats 40000000 in
theorem rmCA_0_3_0 (l : Launch) (Z : State) (a0 : Array Value) (hw : own_Wd a0 Z) (ws : List Jvm.Cond) (a b : Addr) (kb : ClassId) (cs : Int32) (fm : Value) (y0 y1 y2 : Int32)  (h0 : Heap) (n0 : Nat) (Z0 : n0 ≤ h0.size) (Sc : Sta Z h0 "java/lang/String" "COMPACT_STRINGS" "Z" (.int cs)) (hcs : ¬ (cs = (0 : Int32))) (Sad : Sta Z h0 "java/lang/StringUTF16" "$assertionsDisabled" "Z" (.int 1)) (Shi : Sta Z h0 "java/lang/StringUTF16" "HI_BYTE_SHIFT" "I" (.int 0)) (Slo : Sta Z h0 "java/lang/StringUTF16" "LO_BYTE_SHIFT" "I" (.int 8)) (Sf : Sta Z h0 "jdk/internal/util/Preconditions" "SIOOBE_FORMATTER" "Ljava/util/function/BiFunction;" fm) (hfm : fm.isRef = true) (Ea : Exa Z h0 a "java/lang/String") (Fv : Fld Z h0 a "java/lang/String" "value" "[B" (.ref b)) (Fc : Fld Z h0 a "java/lang/String" "coder" "B" (.int 0)) (Vb : Arv Z h0 b kb .byte (3 : Int32) [(.int y0), (.int y1), (.int y2)] (.int 0)) :
    own_Met l (⟨"java/lang/String", "charAt", "(I)C"⟩ : MethodName) jdk_42_method_56_code 2 (some .char) ws ({ frames := 4, cells := 0, slots := 0, locals := 53 } : Room) Z #[(.ref a), (.int 0)] h0 (fun v h L => v = some (.int (own_lc y0)) ∧ Fr n0 L ∧ h = h0) := by
  refine own_body (plainFor_of_name pn_1) ?_
  intro p e s m below meth c s₁ X0 hx hby hml hown hnm hret hlk hZ e0
  replace hown : s.vm.findClass "java/lang/String" = some m.cls := hown
  replace hml : c.maxLocals = 2 := hml
  replace hret : meth.sig.returnType = (some .char) := hret
  have N0 := Fr.nil n0
  refine own_ef (L0 := #[.val (.ref a), .val (.int 0)]) (by first | (simp [entryFrame, mkF, argsToLocals, Value.category]; done) | rfl) ?_
  refine own_aloadN X0 hx (hb hby d14_0) rfl rfl ?_
  refine own_cVirt (W := 0) (rest := []) X0 hx hZ [] hown (own_m hw 83 rfl) (own_m hw 84 rfl) (notFace_of_selects (args := #[]) (mvT hZ (own_m hw 86 rfl))) (own_m hw 86 rfl) (own_m hw 85 rfl) (by decide) (own_m hw 87 rfl) (own_m hw 7 rfl) e0 Ea (rmL l Z a0 hw [] a cs h0 n0 Z0 Sc hcs Fc) (by rw [hml]; rfl) (lenOf pd_12 rfl) rfl (Nat.le_of_eq rfl) (hb hby d14_1) (by decide) (by decide) (by decide) (by decide) fun v217 T217 L217 X217 hQ217 => ?_
  obtain ⟨rfl, N217q, e217⟩ := hQ217
  have N217 := Fr.app N0 N217q
  show own_At p e below _ T217 m 4 _ [(.int 1)]
  refine own_ifNo X217 hx (hb hby d14_4) (feq (by decide : ¬ ((1 : Int32) = (0 : Int32)))).1 ?_
  refine own_aloadN X217 hx (hb hby d14_7) rfl rfl ?_
  refine own_getF X217 hx hZ hown (host := "") (Or.inl (own_m hw 33 rfl)) Via.refl e217 Fv (hb hby d14_8) fun T218 X218 e218 => ?_
  refine own_iloadN X218 hx (hb hby d14_11) rfl ?_
  refine own_cStat (W := 0) (rest := []) X218 hx hZ [(.ref b), (.int 0)] hown (own_m hw 88 rfl) (own_m hw 89 rfl) (by decide) (own_m hw 91 rfl) (own_m hw 90 rfl) e218 (rmXc_0_3_0 l Z a0 hw [] a b kb cs fm y0 y1 y2 h0 n0 Z0 Sc hcs Sad Shi Slo Sf hfm Ea Fv Fc Vb) (by rw [hml]; rfl) (lenOf pd_7 rfl) rfl (Nat.le_of_eq rfl) (hb hby d14_12) (by decide) (by decide) (by decide) (by decide) fun v219 T219 L219 X219 hQ219 => ?_
  obtain ⟨rfl, N219q, e219⟩ := hQ219
  have N219 := Fr.app N217 N219q
  show own_At p e below _ T219 m 15 _ [(.int (own_lc y0))]
  refine own_retN X219 hx hlk hret (by simp) (own_narlc _) (hb hby d14_15) (own_kN (by decide) (by decide) ?_)
  try rw [e219]
  exact ⟨rfl, N219, rfl⟩
set_option maxRecDepth 65536 in
set_option maxHeartbeats 40000000 in
theorem rmXc_0_3_1 (l : Launch) (Z : State) (a0 : Array Value) (hw : own_Wd a0 Z) (ws : List Jvm.Cond) (a b : Addr) (kb : ClassId) (cs : Int32) (fm : Value) (y0 y1 y2 : Int32)  (h0 : Heap) (n0 : Nat) (Z0 : n0 ≤ h0.size) (Sc : Sta Z h0 "java/lang/String" "COMPACT_STRINGS" "Z" (.int cs)) (hcs : ¬ (cs = (0 : Int32))) (Sad : Sta Z h0 "java/lang/StringUTF16" "$assertionsDisabled" "Z" (.int 1)) (Shi : Sta Z h0 "java/lang/StringUTF16" "HI_BYTE_SHIFT" "I" (.int 0)) (Slo : Sta Z h0 "java/lang/StringUTF16" "LO_BYTE_SHIFT" "I" (.int 8)) (Sf : Sta Z h0 "jdk/internal/util/Preconditions" "SIOOBE_FORMATTER" "Ljava/util/function/BiFunction;" fm) (hfm : fm.isRef = true) (Ea : Exa Z h0 a "java/lang/String") (Fv : Fld Z h0 a "java/lang/String" "value" "[B" (.ref b)) (Fc : Fld Z h0 a "java/lang/String" "coder" "B" (.int 0)) (Vb : Arv Z h0 b kb .byte (3 : Int32) [(.int y0), (.int y1), (.int y2)] (.int 0)) :
    own_Met l (⟨"java/lang/StringLatin1", "charAt", "([BI)C"⟩ : MethodName) jdk_43_method_2_code 2 (some .char) ws ({ frames := 2, cells := 0, slots := 0, locals := 27 } : Room) Z #[(.ref b), (.int 1)] h0 (fun v h L => v = some (.int (own_lc y1)) ∧ Fr n0 L ∧ h = h0) := by
  refine own_body (plainFor_of_name pn_4) ?_
  intro p e s m below meth c s₁ X0 hx hby hml hown hnm hret hlk hZ e0
  replace hown : s.vm.findClass "java/lang/StringLatin1" = some m.cls := hown
  replace hml : c.maxLocals = 2 := hml
  replace hret : meth.sig.returnType = (some .char) := hret
  have N0 := Fr.nil n0
  refine own_ef (L0 := #[.val (.ref b), .val (.int 1)]) (by first | (simp [entryFrame, mkF, argsToLocals, Value.category]; done) | rfl) ?_
  refine own_iloadN X0 hx (hb hby d16_0) rfl ?_
  refine own_aloadN X0 hx (hb hby d16_1) rfl rfl ?_
  refine own_arraylength X0 hx hZ e0 (own_alnV Vb) (hb hby d16_2) ?_
  refine own_cStat (W := 0) (rest := []) X0 hx hZ [(.int 1), (.int 3)] hown (own_m hw 92 rfl) (own_m hw 93 rfl) (by decide) (own_m hw 94 rfl) (own_m hw 7 rfl) e0 (rmSCI l Z a0 hw [] fm (1 : Int32) (3 : Int32) h0 n0 Z0 Sf hfm (by decide) (by decide)) (by rw [hml]; rfl) (lenOf pd_11 rfl) rfl (Nat.le_of_eq rfl) (hb hby d16_3) (by decide) (by decide) (by decide) (by decide) fun v220 T220 L220 X220 hQ220 => ?_
  obtain ⟨rfl, N220q, e220⟩ := hQ220
  have N220 := Fr.app N0 N220q
  show own_At p e below _ T220 m 6 _ []
  refine own_aloadN X220 hx (hb hby d16_6) rfl rfl ?_
  refine own_iloadN X220 hx (hb hby d16_7) rfl ?_
  refine own_baload X220 hx hZ (.int y1) e220 Vb ⟨by decide, by decide⟩ rfl (hb hby d16_8) ?_
  refine own_sipush X220 hx 255 (hb hby d16_9) rfl ?_
  refine own_iand X220 hx (hb hby d16_12) ?_
  refine own_i2c X220 hx (hb hby d16_13) ?_
  refine own_retN X220 hx hlk hret (by simp) (own_narcc _) (hb hby d16_14) (own_kN (by decide) (by decide) ?_)
  try rw [e220]
  exact ⟨rfl, N220, rfl⟩
set_option maxRecDepth 65536 in
set_option maxHeartbeats 40000000 in
theorem rmCA_0_3_1 (l : Launch) (Z : State) (a0 : Array Value) (hw : own_Wd a0 Z) (ws : List Jvm.Cond) (a b : Addr) (kb : ClassId) (cs : Int32) (fm : Value) (y0 y1 y2 : Int32)  (h0 : Heap) (n0 : Nat) (Z0 : n0 ≤ h0.size) (Sc : Sta Z h0 "java/lang/String" "COMPACT_STRINGS" "Z" (.int cs)) (hcs : ¬ (cs = (0 : Int32))) (Sad : Sta Z h0 "java/lang/StringUTF16" "$assertionsDisabled" "Z" (.int 1)) (Shi : Sta Z h0 "java/lang/StringUTF16" "HI_BYTE_SHIFT" "I" (.int 0)) (Slo : Sta Z h0 "java/lang/StringUTF16" "LO_BYTE_SHIFT" "I" (.int 8)) (Sf : Sta Z h0 "jdk/internal/util/Preconditions" "SIOOBE_FORMATTER" "Ljava/util/function/BiFunction;" fm) (hfm : fm.isRef = true) (Ea : Exa Z h0 a "java/lang/String") (Fv : Fld Z h0 a "java/lang/String" "value" "[B" (.ref b)) (Fc : Fld Z h0 a "java/lang/String" "coder" "B" (.int 0)) (Vb : Arv Z h0 b kb .byte (3 : Int32) [(.int y0), (.int y1), (.int y2)] (.int 0)) :
    own_Met l (⟨"java/lang/String", "charAt", "(I)C"⟩ : MethodName) jdk_42_method_56_code 2 (some .char) ws ({ frames := 4, cells := 0, slots := 0, locals := 53 } : Room) Z #[(.ref a), (.int 1)] h0 (fun v h L => v = some (.int (own_lc y1)) ∧ Fr n0 L ∧ h = h0) := by
  refine own_body (plainFor_of_name pn_1) ?_
  intro p e s m below meth c s₁ X0 hx hby hml hown hnm hret hlk hZ e0
  replace hown : s.vm.findClass "java/lang/String" = some m.cls := hown
  replace hml : c.maxLocals = 2 := hml
  replace hret : meth.sig.returnType = (some .char) := hret
  have N0 := Fr.nil n0
  refine own_ef (L0 := #[.val (.ref a), .val (.int 1)]) (by first | (simp [entryFrame, mkF, argsToLocals, Value.category]; done) | rfl) ?_
  refine own_aloadN X0 hx (hb hby d14_0) rfl rfl ?_
  refine own_cVirt (W := 0) (rest := []) X0 hx hZ [] hown (own_m hw 83 rfl) (own_m hw 84 rfl) (notFace_of_selects (args := #[]) (mvT hZ (own_m hw 86 rfl))) (own_m hw 86 rfl) (own_m hw 85 rfl) (by decide) (own_m hw 87 rfl) (own_m hw 7 rfl) e0 Ea (rmL l Z a0 hw [] a cs h0 n0 Z0 Sc hcs Fc) (by rw [hml]; rfl) (lenOf pd_12 rfl) rfl (Nat.le_of_eq rfl) (hb hby d14_1) (by decide) (by decide) (by decide) (by decide) fun v221 T221 L221 X221 hQ221 => ?_
  obtain ⟨rfl, N221q, e221⟩ := hQ221
  have N221 := Fr.app N0 N221q
  show own_At p e below _ T221 m 4 _ [(.int 1)]
  refine own_ifNo X221 hx (hb hby d14_4) (feq (by decide : ¬ ((1 : Int32) = (0 : Int32)))).1 ?_
  refine own_aloadN X221 hx (hb hby d14_7) rfl rfl ?_
  refine own_getF X221 hx hZ hown (host := "") (Or.inl (own_m hw 33 rfl)) Via.refl e221 Fv (hb hby d14_8) fun T222 X222 e222 => ?_
  refine own_iloadN X222 hx (hb hby d14_11) rfl ?_
  refine own_cStat (W := 0) (rest := []) X222 hx hZ [(.ref b), (.int 1)] hown (own_m hw 88 rfl) (own_m hw 89 rfl) (by decide) (own_m hw 91 rfl) (own_m hw 90 rfl) e222 (rmXc_0_3_1 l Z a0 hw [] a b kb cs fm y0 y1 y2 h0 n0 Z0 Sc hcs Sad Shi Slo Sf hfm Ea Fv Fc Vb) (by rw [hml]; rfl) (lenOf pd_7 rfl) rfl (Nat.le_of_eq rfl) (hb hby d14_12) (by decide) (by decide) (by decide) (by decide) fun v223 T223 L223 X223 hQ223 => ?_
  obtain ⟨rfl, N223q, e223⟩ := hQ223
  have N223 := Fr.app N221 N223q
  show own_At p e below _ T223 m 15 _ [(.int (own_lc y1))]
  refine own_retN X223 hx hlk hret (by simp) (own_narlc _) (hb hby d14_15) (own_kN (by decide) (by decide) ?_)
  try rw [e223]
  exact ⟨rfl, N223, rfl⟩
set_option maxRecDepth 65536 in
set_option maxHeartbeats 40000000 in
theorem rmXc_0_3_2 (l : Launch) (Z : State) (a0 : Array Value) (hw : own_Wd a0 Z) (ws : List Jvm.Cond) (a b : Addr) (kb : ClassId) (cs : Int32) (fm : Value) (y0 y1 y2 : Int32)  (h0 : Heap) (n0 : Nat) (Z0 : n0 ≤ h0.size) (Sc : Sta Z h0 "java/lang/String" "COMPACT_STRINGS" "Z" (.int cs)) (hcs : ¬ (cs = (0 : Int32))) (Sad : Sta Z h0 "java/lang/StringUTF16" "$assertionsDisabled" "Z" (.int 1)) (Shi : Sta Z h0 "java/lang/StringUTF16" "HI_BYTE_SHIFT" "I" (.int 0)) (Slo : Sta Z h0 "java/lang/StringUTF16" "LO_BYTE_SHIFT" "I" (.int 8)) (Sf : Sta Z h0 "jdk/internal/util/Preconditions" "SIOOBE_FORMATTER" "Ljava/util/function/BiFunction;" fm) (hfm : fm.isRef = true) (Ea : Exa Z h0 a "java/lang/String") (Fv : Fld Z h0 a "java/lang/String" "value" "[B" (.ref b)) (Fc : Fld Z h0 a "java/lang/String" "coder" "B" (.int 0)) (Vb : Arv Z h0 b kb .byte (3 : Int32) [(.int y0), (.int y1), (.int y2)] (.int 0)) :
    own_Met l (⟨"java/lang/StringLatin1", "charAt", "([BI)C"⟩ : MethodName) jdk_43_method_2_code 2 (some .char) ws ({ frames := 2, cells := 0, slots := 0, locals := 27 } : Room) Z #[(.ref b), (.int 2)] h0 (fun v h L => v = some (.int (own_lc y2)) ∧ Fr n0 L ∧ h = h0) := by
  refine own_body (plainFor_of_name pn_4) ?_
  intro p e s m below meth c s₁ X0 hx hby hml hown hnm hret hlk hZ e0
  replace hown : s.vm.findClass "java/lang/StringLatin1" = some m.cls := hown
  replace hml : c.maxLocals = 2 := hml
  replace hret : meth.sig.returnType = (some .char) := hret
  have N0 := Fr.nil n0
  refine own_ef (L0 := #[.val (.ref b), .val (.int 2)]) (by first | (simp [entryFrame, mkF, argsToLocals, Value.category]; done) | rfl) ?_
  refine own_iloadN X0 hx (hb hby d16_0) rfl ?_
  refine own_aloadN X0 hx (hb hby d16_1) rfl rfl ?_
  refine own_arraylength X0 hx hZ e0 (own_alnV Vb) (hb hby d16_2) ?_
  refine own_cStat (W := 0) (rest := []) X0 hx hZ [(.int 2), (.int 3)] hown (own_m hw 92 rfl) (own_m hw 93 rfl) (by decide) (own_m hw 94 rfl) (own_m hw 7 rfl) e0 (rmSCI l Z a0 hw [] fm (2 : Int32) (3 : Int32) h0 n0 Z0 Sf hfm (by decide) (by decide)) (by rw [hml]; rfl) (lenOf pd_11 rfl) rfl (Nat.le_of_eq rfl) (hb hby d16_3) (by decide) (by decide) (by decide) (by decide) fun v224 T224 L224 X224 hQ224 => ?_
  obtain ⟨rfl, N224q, e224⟩ := hQ224
  have N224 := Fr.app N0 N224q
  show own_At p e below _ T224 m 6 _ []
  refine own_aloadN X224 hx (hb hby d16_6) rfl rfl ?_
  refine own_iloadN X224 hx (hb hby d16_7) rfl ?_
  refine own_baload X224 hx hZ (.int y2) e224 Vb ⟨by decide, by decide⟩ rfl (hb hby d16_8) ?_
  refine own_sipush X224 hx 255 (hb hby d16_9) rfl ?_
  refine own_iand X224 hx (hb hby d16_12) ?_
  refine own_i2c X224 hx (hb hby d16_13) ?_
  refine own_retN X224 hx hlk hret (by simp) (own_narcc _) (hb hby d16_14) (own_kN (by decide) (by decide) ?_)
  try rw [e224]
  exact ⟨rfl, N224, rfl⟩
set_option maxRecDepth 65536 in
set_option maxHeartbeats 40000000 in
theorem rmCA_0_3_2 (l : Launch) (Z : State) (a0 : Array Value) (hw : own_Wd a0 Z) (ws : List Jvm.Cond) (a b : Addr) (kb : ClassId) (cs : Int32) (fm : Value) (y0 y1 y2 : Int32)  (h0 : Heap) (n0 : Nat) (Z0 : n0 ≤ h0.size) (Sc : Sta Z h0 "java/lang/String" "COMPACT_STRINGS" "Z" (.int cs)) (hcs : ¬ (cs = (0 : Int32))) (Sad : Sta Z h0 "java/lang/StringUTF16" "$assertionsDisabled" "Z" (.int 1)) (Shi : Sta Z h0 "java/lang/StringUTF16" "HI_BYTE_SHIFT" "I" (.int 0)) (Slo : Sta Z h0 "java/lang/StringUTF16" "LO_BYTE_SHIFT" "I" (.int 8)) (Sf : Sta Z h0 "jdk/internal/util/Preconditions" "SIOOBE_FORMATTER" "Ljava/util/function/BiFunction;" fm) (hfm : fm.isRef = true) (Ea : Exa Z h0 a "java/lang/String") (Fv : Fld Z h0 a "java/lang/String" "value" "[B" (.ref b)) (Fc : Fld Z h0 a "java/lang/String" "coder" "B" (.int 0)) (Vb : Arv Z h0 b kb .byte (3 : Int32) [(.int y0), (.int y1), (.int y2)] (.int 0)) :
    own_Met l (⟨"java/lang/String", "charAt", "(I)C"⟩ : MethodName) jdk_42_method_56_code 2 (some .char) ws ({ frames := 4, cells := 0, slots := 0, locals := 53 } : Room) Z #[(.ref a), (.int 2)] h0 (fun v h L => v = some (.int (own_lc y2)) ∧ Fr n0 L ∧ h = h0) := by
  refine own_body (plainFor_of_name pn_1) ?_
  intro p e s m below meth c s₁ X0 hx hby hml hown hnm hret hlk hZ e0
  replace hown : s.vm.findClass "java/lang/String" = some m.cls := hown
  replace hml : c.maxLocals = 2 := hml
  replace hret : meth.sig.returnType = (some .char) := hret
  have N0 := Fr.nil n0
  refine own_ef (L0 := #[.val (.ref a), .val (.int 2)]) (by first | (simp [entryFrame, mkF, argsToLocals, Value.category]; done) | rfl) ?_
  refine own_aloadN X0 hx (hb hby d14_0) rfl rfl ?_
  refine own_cVirt (W := 0) (rest := []) X0 hx hZ [] hown (own_m hw 83 rfl) (own_m hw 84 rfl) (notFace_of_selects (args := #[]) (mvT hZ (own_m hw 86 rfl))) (own_m hw 86 rfl) (own_m hw 85 rfl) (by decide) (own_m hw 87 rfl) (own_m hw 7 rfl) e0 Ea (rmL l Z a0 hw [] a cs h0 n0 Z0 Sc hcs Fc) (by rw [hml]; rfl) (lenOf pd_12 rfl) rfl (Nat.le_of_eq rfl) (hb hby d14_1) (by decide) (by decide) (by decide) (by decide) fun v225 T225 L225 X225 hQ225 => ?_
  obtain ⟨rfl, N225q, e225⟩ := hQ225
  have N225 := Fr.app N0 N225q
  show own_At p e below _ T225 m 4 _ [(.int 1)]
  refine own_ifNo X225 hx (hb hby d14_4) (feq (by decide : ¬ ((1 : Int32) = (0 : Int32)))).1 ?_
  refine own_aloadN X225 hx (hb hby d14_7) rfl rfl ?_
  refine own_getF X225 hx hZ hown (host := "") (Or.inl (own_m hw 33 rfl)) Via.refl e225 Fv (hb hby d14_8) fun T226 X226 e226 => ?_
  refine own_iloadN X226 hx (hb hby d14_11) rfl ?_
  refine own_cStat (W := 0) (rest := []) X226 hx hZ [(.ref b), (.int 2)] hown (own_m hw 88 rfl) (own_m hw 89 rfl) (by decide) (own_m hw 91 rfl) (own_m hw 90 rfl) e226 (rmXc_0_3_2 l Z a0 hw [] a b kb cs fm y0 y1 y2 h0 n0 Z0 Sc hcs Sad Shi Slo Sf hfm Ea Fv Fc Vb) (by rw [hml]; rfl) (lenOf pd_7 rfl) rfl (Nat.le_of_eq rfl) (hb hby d14_12) (by decide) (by decide) (by decide) (by decide) fun v227 T227 L227 X227 hQ227 => ?_
  obtain ⟨rfl, N227q, e227⟩ := hQ227
  have N227 := Fr.app N225 N227q
  show own_At p e below _ T227 m 15 _ [(.int (own_lc y2))]
  refine own_retN X227 hx hlk hret (by simp) (own_narlc _) (hb hby d14_15) (own_kN (by decide) (by decide) ?_)
  try rw [e227]
  exact ⟨rfl, N227, rfl⟩
def own_H_0_3 (y0 y1 y2 : Int32) : Int64 := (own_m3 (own_m2 (own_m1 (own_hs (own_hs (own_hs (-3750763034362895579 : Int64) (own_lc y0)) (own_lc y1)) (own_lc y2)))))
set_option maxRecDepth 65536 in
set_option maxHeartbeats 40000000 in
theorem rmH_0_3 (l : Launch) (Z : State) (a0 : Array Value) (hw : own_Wd a0 Z) (ws : List Jvm.Cond) (a b : Addr) (kb : ClassId) (cs : Int32) (fm : Value) (y0 y1 y2 : Int32)  (h0 : Heap) (n0 : Nat) (Z0 : n0 ≤ h0.size) (Sc : Sta Z h0 "java/lang/String" "COMPACT_STRINGS" "Z" (.int cs)) (hcs : ¬ (cs = (0 : Int32))) (Sad : Sta Z h0 "java/lang/StringUTF16" "$assertionsDisabled" "Z" (.int 1)) (Shi : Sta Z h0 "java/lang/StringUTF16" "HI_BYTE_SHIFT" "I" (.int 0)) (Slo : Sta Z h0 "java/lang/StringUTF16" "LO_BYTE_SHIFT" "I" (.int 8)) (Sf : Sta Z h0 "jdk/internal/util/Preconditions" "SIOOBE_FORMATTER" "Ljava/util/function/BiFunction;" fm) (hfm : fm.isRef = true) (Ea : Exa Z h0 a "java/lang/String") (Fv : Fld Z h0 a "java/lang/String" "value" "[B" (.ref b)) (Fc : Fld Z h0 a "java/lang/String" "coder" "B" (.int 0)) (Vb : Arv Z h0 b kb .byte (3 : Int32) [(.int y0), (.int y1), (.int y2)] (.int 0)) :
    own_Met l (⟨"com/example/vestline/vestline/cli/BloomFilter", "hash", "(Ljava/lang/String;)J"⟩ : MethodName) prog_1_method_3_code 4 (some .long) ws ({ frames := 5, cells := 0, slots := 0, locals := 72 } : Room) Z #[(.ref a)] h0 (fun v h L => v = some (.long (own_H_0_3 y0 y1 y2)) ∧ Fr n0 L ∧ h = h0) := by
  refine own_body (plainFor_of_name pn_3) ?_
  intro p e s m below meth c s₁ X0 hx hby hml hown hnm hret hlk hZ e0
  replace hown : s.vm.findClass "com/example/vestline/vestline/cli/BloomFilter" = some m.cls := hown
  replace hml : c.maxLocals = 4 := hml
  replace hret : meth.sig.returnType = (some .long) := hret
  have N0 := Fr.nil n0
  refine own_ef (L0 := #[.val (.ref a), .unset, .unset, .unset]) (by first | (simp [entryFrame, mkF, argsToLocals, Value.category]; done) | rfl) ?_
  refine own_ldcL X0 hx hZ hown (own_m hw 67 rfl) (hb hby d11_0) ?_
  refine own_lstoreN (l' := #[.val (.ref a), .val (.long (-3750763034362895579 : Int64)), .second, .unset]) X0 hx (hb hby d11_3) rfl ?_
  refine own_iconst X0 hx 0 (hb hby d11_4) rfl ?_
  refine own_istoreN (l' := #[.val (.ref a), .val (.long (-3750763034362895579 : Int64)), .second, .val (.int 0)]) X0 hx (hb hby d11_5) rfl ?_
  refine own_iloadN X0 hx (hb hby d11_6) rfl ?_
  refine own_aloadN X0 hx (hb hby d11_7) rfl rfl ?_
  refine own_cVirt (W := 1) (rest := [(.int 0)]) X0 hx hZ [] hown (own_m hw 68 rfl) (own_m hw 69 rfl) (notFace_of_selects (args := #[]) (mvT hZ (own_m hw 71 rfl))) (own_m hw 71 rfl) (own_m hw 70 rfl) (by decide) (own_m hw 72 rfl) (own_m hw 7 rfl) e0 Ea (rmLn_0_3 l Z a0 hw [] a b kb cs fm y0 y1 y2 h0 n0 Z0 Sc hcs Sad Shi Slo Sf hfm Ea Fv Fc Vb) (by rw [hml]; rfl) (lenOf pd_10 rfl) rfl (Nat.le_of_eq rfl) (hb hby d11_8) (by decide) (by decide) (by decide) (by decide) fun v228 T228 L228 X228 hQ228 => ?_
  obtain ⟨rfl, N228q, e228⟩ := hQ228
  have N228 := Fr.app N0 N228q
  show own_At p e below _ T228 m 11 _ [(.int 3), (.int 0)]
  refine own_icmpNo X228 hx (hb hby d11_11) (tlt (by decide : (0 : Int32) < (3 : Int32))).2.1 ?_
  refine own_lloadN X228 hx (hb hby d11_14) rfl ?_
  refine own_aloadN X228 hx (hb hby d11_15) rfl rfl ?_
  refine own_iloadN X228 hx (hb hby d11_16) rfl ?_
  refine own_cVirt (W := 2) (rest := [(.long (-3750763034362895579 : Int64))]) X228 hx hZ [(.int 0)] hown (own_m hw 78 rfl) (own_m hw 79 rfl) (notFace_of_selects (args := #[]) (mvT hZ (own_m hw 81 rfl))) (own_m hw 81 rfl) (own_m hw 80 rfl) (by decide) (own_m hw 82 rfl) (own_m hw 7 rfl) e228 Ea (rmCA_0_3_0 l Z a0 hw [] a b kb cs fm y0 y1 y2 h0 n0 Z0 Sc hcs Sad Shi Slo Sf hfm Ea Fv Fc Vb) (by rw [hml]; rfl) (lenOf pd_13 rfl) rfl (Nat.le_of_eq rfl) (hb hby d11_17) (by decide) (by decide) (by decide) (by decide) fun v229 T229 L229 X229 hQ229 => ?_
  obtain ⟨rfl, N229q, e229⟩ := hQ229
  have N229 := Fr.app N228 N229q
  show own_At p e below _ T229 m 20 _ [(.int (own_lc y0)), (.long (-3750763034362895579 : Int64))]
  refine own_i2l X229 hx (hb hby d11_20) ?_
  refine own_lxor X229 hx (hb hby d11_21) ?_
  refine own_ldcL X229 hx hZ hown (own_m hw 100 rfl) (hb hby d11_22) ?_
  refine own_lmul X229 hx (hb hby d11_25) ?_
  rw [show (((-3750763034362895579 : Int64) ^^^ ((own_lc y0).toInt64)) * (1099511628211 : Int64)) = (own_hs (-3750763034362895579 : Int64) (own_lc y0)) from rfl]
  refine own_lstoreN (l' := #[.val (.ref a), .val (.long (own_hs (-3750763034362895579 : Int64) (own_lc y0))), .second, .val (.int 0)]) X229 hx (hb hby d11_26) rfl ?_
  refine own_iinc (l' := #[.val (.ref a), .val (.long (own_hs (-3750763034362895579 : Int64) (own_lc y0))), .second, .val (.int ((0 : Int32) + (1 : Int32)))]) X229 hx (hb hby d11_27) rfl rfl ?_
  rw [show ((0 : Int32) + (1 : Int32)) = (1 : Int32) from by decide]
  refine own_goto X229 hx 6 (hb hby d11_30) (by decide) (by decide) ?_
  refine own_iloadN X229 hx (hb hby d11_6) rfl ?_
  refine own_aloadN X229 hx (hb hby d11_7) rfl rfl ?_
  refine own_cVirt (W := 1) (rest := [(.int 1)]) X229 hx hZ [] hown (own_m hw 68 rfl) (own_m hw 69 rfl) (notFace_of_selects (args := #[]) (mvT hZ (own_m hw 71 rfl))) (own_m hw 71 rfl) (own_m hw 70 rfl) (by decide) (own_m hw 72 rfl) (own_m hw 7 rfl) e229 Ea (rmLn_0_3 l Z a0 hw [] a b kb cs fm y0 y1 y2 h0 n0 Z0 Sc hcs Sad Shi Slo Sf hfm Ea Fv Fc Vb) (by rw [hml]; rfl) (lenOf pd_10 rfl) rfl (Nat.le_of_eq rfl) (hb hby d11_8) (by decide) (by decide) (by decide) (by decide) fun v230 T230 L230 X230 hQ230 => ?_
  obtain ⟨rfl, N230q, e230⟩ := hQ230
  have N230 := Fr.app N229 N230q
  show own_At p e below _ T230 m 11 _ [(.int 3), (.int 1)]
  refine own_icmpNo X230 hx (hb hby d11_11) (tlt (by decide : (1 : Int32) < (3 : Int32))).2.1 ?_
  refine own_lloadN X230 hx (hb hby d11_14) rfl ?_
  refine own_aloadN X230 hx (hb hby d11_15) rfl rfl ?_
  refine own_iloadN X230 hx (hb hby d11_16) rfl ?_
  refine own_cVirt (W := 2) (rest := [(.long (own_hs (-3750763034362895579 : Int64) (own_lc y0)))]) X230 hx hZ [(.int 1)] hown (own_m hw 78 rfl) (own_m hw 79 rfl) (notFace_of_selects (args := #[]) (mvT hZ (own_m hw 81 rfl))) (own_m hw 81 rfl) (own_m hw 80 rfl) (by decide) (own_m hw 82 rfl) (own_m hw 7 rfl) e230 Ea (rmCA_0_3_1 l Z a0 hw [] a b kb cs fm y0 y1 y2 h0 n0 Z0 Sc hcs Sad Shi Slo Sf hfm Ea Fv Fc Vb) (by rw [hml]; rfl) (lenOf pd_13 rfl) rfl (Nat.le_of_eq rfl) (hb hby d11_17) (by decide) (by decide) (by decide) (by decide) fun v231 T231 L231 X231 hQ231 => ?_
  obtain ⟨rfl, N231q, e231⟩ := hQ231
  have N231 := Fr.app N230 N231q
  show own_At p e below _ T231 m 20 _ [(.int (own_lc y1)), (.long (own_hs (-3750763034362895579 : Int64) (own_lc y0)))]
  refine own_i2l X231 hx (hb hby d11_20) ?_
  refine own_lxor X231 hx (hb hby d11_21) ?_
  refine own_ldcL X231 hx hZ hown (own_m hw 100 rfl) (hb hby d11_22) ?_
  refine own_lmul X231 hx (hb hby d11_25) ?_
  rw [show (((own_hs (-3750763034362895579 : Int64) (own_lc y0)) ^^^ ((own_lc y1).toInt64)) * (1099511628211 : Int64)) = (own_hs (own_hs (-3750763034362895579 : Int64) (own_lc y0)) (own_lc y1)) from rfl]
  refine own_lstoreN (l' := #[.val (.ref a), .val (.long (own_hs (own_hs (-3750763034362895579 : Int64) (own_lc y0)) (own_lc y1))), .second, .val (.int 1)]) X231 hx (hb hby d11_26) rfl ?_
  refine own_iinc (l' := #[.val (.ref a), .val (.long (own_hs (own_hs (-3750763034362895579 : Int64) (own_lc y0)) (own_lc y1))), .second, .val (.int ((1 : Int32) + (1 : Int32)))]) X231 hx (hb hby d11_27) rfl rfl ?_
  rw [show ((1 : Int32) + (1 : Int32)) = (2 : Int32) from by decide]
  refine own_goto X231 hx 6 (hb hby d11_30) (by decide) (by decide) ?_
  refine own_iloadN X231 hx (hb hby d11_6) rfl ?_
  refine own_aloadN X231 hx (hb hby d11_7) rfl rfl ?_
  refine own_cVirt (W := 1) (rest := [(.int 2)]) X231 hx hZ [] hown (own_m hw 68 rfl) (own_m hw 69 rfl) (notFace_of_selects (args := #[]) (mvT hZ (own_m hw 71 rfl))) (own_m hw 71 rfl) (own_m hw 70 rfl) (by decide) (own_m hw 72 rfl) (own_m hw 7 rfl) e231 Ea (rmLn_0_3 l Z a0 hw [] a b kb cs fm y0 y1 y2 h0 n0 Z0 Sc hcs Sad Shi Slo Sf hfm Ea Fv Fc Vb) (by rw [hml]; rfl) (lenOf pd_10 rfl) rfl (Nat.le_of_eq rfl) (hb hby d11_8) (by decide) (by decide) (by decide) (by decide) fun v232 T232 L232 X232 hQ232 => ?_
  obtain ⟨rfl, N232q, e232⟩ := hQ232
  have N232 := Fr.app N231 N232q
  show own_At p e below _ T232 m 11 _ [(.int 3), (.int 2)]
  refine own_icmpNo X232 hx (hb hby d11_11) (tlt (by decide : (2 : Int32) < (3 : Int32))).2.1 ?_
  refine own_lloadN X232 hx (hb hby d11_14) rfl ?_
  refine own_aloadN X232 hx (hb hby d11_15) rfl rfl ?_
  refine own_iloadN X232 hx (hb hby d11_16) rfl ?_
  refine own_cVirt (W := 2) (rest := [(.long (own_hs (own_hs (-3750763034362895579 : Int64) (own_lc y0)) (own_lc y1)))]) X232 hx hZ [(.int 2)] hown (own_m hw 78 rfl) (own_m hw 79 rfl) (notFace_of_selects (args := #[]) (mvT hZ (own_m hw 81 rfl))) (own_m hw 81 rfl) (own_m hw 80 rfl) (by decide) (own_m hw 82 rfl) (own_m hw 7 rfl) e232 Ea (rmCA_0_3_2 l Z a0 hw [] a b kb cs fm y0 y1 y2 h0 n0 Z0 Sc hcs Sad Shi Slo Sf hfm Ea Fv Fc Vb) (by rw [hml]; rfl) (lenOf pd_13 rfl) rfl (Nat.le_of_eq rfl) (hb hby d11_17) (by decide) (by decide) (by decide) (by decide) fun v233 T233 L233 X233 hQ233 => ?_
  obtain ⟨rfl, N233q, e233⟩ := hQ233
  have N233 := Fr.app N232 N233q
  show own_At p e below _ T233 m 20 _ [(.int (own_lc y2)), (.long (own_hs (own_hs (-3750763034362895579 : Int64) (own_lc y0)) (own_lc y1)))]
  refine own_i2l X233 hx (hb hby d11_20) ?_
  refine own_lxor X233 hx (hb hby d11_21) ?_
  refine own_ldcL X233 hx hZ hown (own_m hw 100 rfl) (hb hby d11_22) ?_
  refine own_lmul X233 hx (hb hby d11_25) ?_
  rw [show (((own_hs (own_hs (-3750763034362895579 : Int64) (own_lc y0)) (own_lc y1)) ^^^ ((own_lc y2).toInt64)) * (1099511628211 : Int64)) = (own_hs (own_hs (own_hs (-3750763034362895579 : Int64) (own_lc y0)) (own_lc y1)) (own_lc y2)) from rfl]
  refine own_lstoreN (l' := #[.val (.ref a), .val (.long (own_hs (own_hs (own_hs (-3750763034362895579 : Int64) (own_lc y0)) (own_lc y1)) (own_lc y2))), .second, .val (.int 2)]) X233 hx (hb hby d11_26) rfl ?_
  refine own_iinc (l' := #[.val (.ref a), .val (.long (own_hs (own_hs (own_hs (-3750763034362895579 : Int64) (own_lc y0)) (own_lc y1)) (own_lc y2))), .second, .val (.int ((2 : Int32) + (1 : Int32)))]) X233 hx (hb hby d11_27) rfl rfl ?_
  rw [show ((2 : Int32) + (1 : Int32)) = (3 : Int32) from by decide]
  refine own_goto X233 hx 6 (hb hby d11_30) (by decide) (by decide) ?_
  refine own_iloadN X233 hx (hb hby d11_6) rfl ?_
  refine own_aloadN X233 hx (hb hby d11_7) rfl rfl ?_
  refine own_cVirt (W := 1) (rest := [(.int 3)]) X233 hx hZ [] hown (own_m hw 68 rfl) (own_m hw 69 rfl) (notFace_of_selects (args := #[]) (mvT hZ (own_m hw 71 rfl))) (own_m hw 71 rfl) (own_m hw 70 rfl) (by decide) (own_m hw 72 rfl) (own_m hw 7 rfl) e233 Ea (rmLn_0_3 l Z a0 hw [] a b kb cs fm y0 y1 y2 h0 n0 Z0 Sc hcs Sad Shi Slo Sf hfm Ea Fv Fc Vb) (by rw [hml]; rfl) (lenOf pd_10 rfl) rfl (Nat.le_of_eq rfl) (hb hby d11_8) (by decide) (by decide) (by decide) (by decide) fun v234 T234 L234 X234 hQ234 => ?_
  obtain ⟨rfl, N234q, e234⟩ := hQ234
  have N234 := Fr.app N233 N234q
  show own_At p e below _ T234 m 11 _ [(.int 3), (.int 3)]
  refine own_icmpYes X234 hx 33 (hb hby d11_11) (flt (by decide : ¬ ((3 : Int32) < (3 : Int32)))).2.1 (by decide) (by decide) ?_
  refine own_lloadN X234 hx (hb hby d11_33) rfl ?_
  refine own_lloadN X234 hx (hb hby d11_34) rfl ?_
  refine own_bipush X234 hx 33 (hb hby d11_35) rfl ?_
  refine own_lushr X234 hx (hb hby d11_37) ?_
  refine own_lxor X234 hx (hb hby d11_38) ?_
  refine own_ldcL X234 hx hZ hown (own_m hw 101 rfl) (hb hby d11_39) ?_
  refine own_lmul X234 hx (hb hby d11_42) ?_
  rw [show (((own_hs (own_hs (own_hs (-3750763034362895579 : Int64) (own_lc y0)) (own_lc y1)) (own_lc y2)) ^^^ (((own_hs (own_hs (own_hs (-3750763034362895579 : Int64) (own_lc y0)) (own_lc y1)) (own_lc y2)).toUInt64 >>> ((33 : Int32) &&& 0x3f).toInt64.toUInt64).toInt64)) * (-49064778989728563 : Int64)) = (own_m1 (own_hs (own_hs (own_hs (-3750763034362895579 : Int64) (own_lc y0)) (own_lc y1)) (own_lc y2))) from rfl]
  refine own_lstoreN (l' := #[.val (.ref a), .val (.long (own_m1 (own_hs (own_hs (own_hs (-3750763034362895579 : Int64) (own_lc y0)) (own_lc y1)) (own_lc y2)))), .second, .val (.int 3)]) X234 hx (hb hby d11_43) rfl ?_
  refine own_lloadN X234 hx (hb hby d11_44) rfl ?_
  refine own_lloadN X234 hx (hb hby d11_45) rfl ?_
  refine own_bipush X234 hx 33 (hb hby d11_46) rfl ?_
  refine own_lushr X234 hx (hb hby d11_48) ?_
  refine own_lxor X234 hx (hb hby d11_49) ?_
  refine own_ldcL X234 hx hZ hown (own_m hw 102 rfl) (hb hby d11_50) ?_
  refine own_lmul X234 hx (hb hby d11_53) ?_
  rw [show (((own_m1 (own_hs (own_hs (own_hs (-3750763034362895579 : Int64) (own_lc y0)) (own_lc y1)) (own_lc y2))) ^^^ (((own_m1 (own_hs (own_hs (own_hs (-3750763034362895579 : Int64) (own_lc y0)) (own_lc y1)) (own_lc y2))).toUInt64 >>> ((33 : Int32) &&& 0x3f).toInt64.toUInt64).toInt64)) * (-4265267296055464877 : Int64)) = (own_m2 (own_m1 (own_hs (own_hs (own_hs (-3750763034362895579 : Int64) (own_lc y0)) (own_lc y1)) (own_lc y2)))) from rfl]
  refine own_lstoreN (l' := #[.val (.ref a), .val (.long (own_m2 (own_m1 (own_hs (own_hs (own_hs (-3750763034362895579 : Int64) (own_lc y0)) (own_lc y1)) (own_lc y2))))), .second, .val (.int 3)]) X234 hx (hb hby d11_54) rfl ?_
  refine own_lloadN X234 hx (hb hby d11_55) rfl ?_
  refine own_lloadN X234 hx (hb hby d11_56) rfl ?_
  refine own_bipush X234 hx 33 (hb hby d11_57) rfl ?_
  refine own_lushr X234 hx (hb hby d11_59) ?_
  refine own_lxor X234 hx (hb hby d11_60) ?_
  rw [show ((own_m2 (own_m1 (own_hs (own_hs (own_hs (-3750763034362895579 : Int64) (own_lc y0)) (own_lc y1)) (own_lc y2)))) ^^^ (((own_m2 (own_m1 (own_hs (own_hs (own_hs (-3750763034362895579 : Int64) (own_lc y0)) (own_lc y1)) (own_lc y2)))).toUInt64 >>> ((33 : Int32) &&& 0x3f).toInt64.toUInt64).toInt64)) = (own_m3 (own_m2 (own_m1 (own_hs (own_hs (own_hs (-3750763034362895579 : Int64) (own_lc y0)) (own_lc y1)) (own_lc y2))))) from rfl]
  refine own_retL X234 hx hlk hret (hb hby d11_61) (own_kN (by decide) (by decide) ?_)
  try rw [e234]
  exact ⟨rfl, N234, rfl⟩
set_option maxRecDepth 65536 in
set_option maxHeartbeats 40000000 in
theorem rmLn_1_1 (l : Launch) (Z : State) (a0 : Array Value) (hw : own_Wd a0 Z) (ws : List Jvm.Cond) (a b : Addr) (kb : ClassId) (cs : Int32) (fm : Value) (y0 y1 : Int32)  (h0 : Heap) (n0 : Nat) (Z0 : n0 ≤ h0.size) (Sc : Sta Z h0 "java/lang/String" "COMPACT_STRINGS" "Z" (.int cs)) (hcs : ¬ (cs = (0 : Int32))) (Sad : Sta Z h0 "java/lang/StringUTF16" "$assertionsDisabled" "Z" (.int 1)) (Shi : Sta Z h0 "java/lang/StringUTF16" "HI_BYTE_SHIFT" "I" (.int 0)) (Slo : Sta Z h0 "java/lang/StringUTF16" "LO_BYTE_SHIFT" "I" (.int 8)) (Sf : Sta Z h0 "jdk/internal/util/Preconditions" "SIOOBE_FORMATTER" "Ljava/util/function/BiFunction;" fm) (hfm : fm.isRef = true) (Ea : Exa Z h0 a "java/lang/String") (Fv : Fld Z h0 a "java/lang/String" "value" "[B" (.ref b)) (Fc : Fld Z h0 a "java/lang/String" "coder" "B" (.int 1)) (Vb : Arv Z h0 b kb .byte (2 : Int32) [(.int y0), (.int y1)] (.int 0)) :
    own_Met l (⟨"java/lang/String", "length", "()I"⟩ : MethodName) jdk_42_method_54_code 1 (some .int) ws ({ frames := 1, cells := 0, slots := 0, locals := 13 } : Room) Z #[(.ref a)] h0 (fun v h L => v = some (.int 1) ∧ Fr n0 L ∧ h = h0) := by
  refine own_body (plainFor_of_name pn_1) ?_
  intro p e s m below meth c s₁ X0 hx hby hml hown hnm hret hlk hZ e0
  replace hown : s.vm.findClass "java/lang/String" = some m.cls := hown
  replace hml : c.maxLocals = 1 := hml
  replace hret : meth.sig.returnType = (some .int) := hret
  have N0 := Fr.nil n0
  refine own_ef (L0 := #[.val (.ref a)]) (by first | (simp [entryFrame, mkF, argsToLocals, Value.category]; done) | rfl) ?_
  refine own_aloadN X0 hx (hb hby d12_0) rfl rfl ?_
  refine own_getF X0 hx hZ hown (host := "") (Or.inl (own_m hw 33 rfl)) Via.refl e0 Fv (hb hby d12_1) fun T235 X235 e235 => ?_
  refine own_arraylength X235 hx hZ e235 (own_alnV Vb) (hb hby d12_4) ?_
  refine own_aloadN X235 hx (hb hby d12_5) rfl rfl ?_
  refine own_cVirt (W := 1) (rest := [(.int 2)]) X235 hx hZ [] hown (own_m hw 73 rfl) (own_m hw 74 rfl) (notFace_of_selects (args := #[]) (mvT hZ (own_m hw 76 rfl))) (own_m hw 76 rfl) (own_m hw 75 rfl) (by decide) (own_m hw 77 rfl) (own_m hw 7 rfl) e235 Ea (rmCdu l Z a0 hw [] a cs h0 n0 Z0 Sc hcs Fc) (by rw [hml]; rfl) (lenOf pd_9 rfl) rfl (Nat.le_of_eq rfl) (hb hby d12_6) (by decide) (by decide) (by decide) (by decide) fun v236 T236 L236 X236 hQ236 => ?_
  obtain ⟨rfl, N236q, e236⟩ := hQ236
  have N236 := Fr.app N0 N236q
  show own_At p e below _ T236 m 9 _ [(.int 1), (.int 2)]
  refine own_ishr X236 hx (hb hby d12_9) ?_
  rw [show ((2 : Int32) >>> ((1 : Int32) &&& 31)) = (1 : Int32) from by decide]
  refine own_retI X236 hx hlk hret (hb hby d12_10) (own_kN (by decide) (by decide) ?_)
  try rw [e236]
  exact ⟨rfl, N236, rfl⟩
theorem d26_0 : decode jdk_52_method_6_code 0 = .ok (.aload_n 0, 1) := by decide +kernel
theorem d26_1 : decode jdk_52_method_6_code 1 = .ok (.arraylength, 1) := by decide +kernel
theorem d26_2 : decode jdk_52_method_6_code 2 = .ok (.iconst 1, 1) := by decide +kernel
theorem d26_3 : decode jdk_52_method_6_code 3 = .ok (.ishr, 1) := by decide +kernel
theorem d26_4 : decode jdk_52_method_6_code 4 = .ok (.ireturn, 1) := by decide +kernel
set_option maxRecDepth 65536 in
set_option maxHeartbeats 40000000 in
theorem rmUl_1 (l : Launch) (Z : State) (a0 : Array Value) (hw : own_Wd a0 Z) (ws : List Jvm.Cond) (b : Addr)  (h0 : Heap) (n0 : Nat) (Z0 : n0 ≤ h0.size) (A : own_Aln Z h0 b .byte (2 : Int32)) :
    own_Met l (⟨"java/lang/StringUTF16", "length", "([B)I"⟩ : MethodName) jdk_52_method_6_code 1 (some .int) ws ({ frames := 0, cells := 0, slots := 0, locals := 0 } : Room) Z #[(.ref b)] h0 (fun v h L => v = some (.int 1) ∧ Fr n0 L ∧ h = h0) := by
  refine own_body (plainFor_of_name pn_0) ?_
  intro p e s m below meth c s₁ X0 hx hby hml hown hnm hret hlk hZ e0
  replace hown : s.vm.findClass "java/lang/StringUTF16" = some m.cls := hown
  replace hml : c.maxLocals = 1 := hml
  replace hret : meth.sig.returnType = (some .int) := hret
  have N0 := Fr.nil n0
  refine own_ef (L0 := #[.val (.ref b)]) (by first | (simp [entryFrame, mkF, argsToLocals, Value.category]; done) | rfl) ?_
  refine own_aloadN X0 hx (hb hby d26_0) rfl rfl ?_
  refine own_arraylength X0 hx hZ e0 A (hb hby d26_1) ?_
  refine own_iconst X0 hx 1 (hb hby d26_2) rfl ?_
  refine own_ishr X0 hx (hb hby d26_3) ?_
  rw [show ((2 : Int32) >>> ((1 : Int32) &&& 31)) = (1 : Int32) from by decide]
  refine own_retI X0 hx hlk hret (hb hby d26_4) (own_kN (by decide) (by decide) ?_)
  try rw [e0]
  exact ⟨rfl, N0, rfl⟩
theorem d25_0 : decode jdk_52_method_91_code 0 = .ok (.iload_n 0, 1) := by decide +kernel
theorem d25_1 : decode jdk_52_method_91_code 1 = .ok (.aload_n 1, 1) := by decide +kernel
theorem d25_2 : decode jdk_52_method_91_code 2 = .ok (.invokestatic 48, 3) := by decide +kernel
theorem d25_5 : decode jdk_52_method_91_code 5 = .ok (.invokestatic 414, 3) := by decide +kernel
theorem d25_8 : decode jdk_52_method_91_code 8 = .ok (.return_, 1) := by decide +kernel
theorem pd_14 : parseMethodDescriptor "([B)I" = some ⟨[(.array .byte)], some .int⟩ := by decide +kernel
set_option maxRecDepth 65536 in
set_option maxHeartbeats 40000000 in
theorem rmUci_1_1_0 (l : Launch) (Z : State) (a0 : Array Value) (hw : own_Wd a0 Z) (ws : List Jvm.Cond) (a b : Addr) (kb : ClassId) (cs : Int32) (fm : Value) (y0 y1 : Int32)  (h0 : Heap) (n0 : Nat) (Z0 : n0 ≤ h0.size) (Sc : Sta Z h0 "java/lang/String" "COMPACT_STRINGS" "Z" (.int cs)) (hcs : ¬ (cs = (0 : Int32))) (Sad : Sta Z h0 "java/lang/StringUTF16" "$assertionsDisabled" "Z" (.int 1)) (Shi : Sta Z h0 "java/lang/StringUTF16" "HI_BYTE_SHIFT" "I" (.int 0)) (Slo : Sta Z h0 "java/lang/StringUTF16" "LO_BYTE_SHIFT" "I" (.int 8)) (Sf : Sta Z h0 "jdk/internal/util/Preconditions" "SIOOBE_FORMATTER" "Ljava/util/function/BiFunction;" fm) (hfm : fm.isRef = true) (Ea : Exa Z h0 a "java/lang/String") (Fv : Fld Z h0 a "java/lang/String" "value" "[B" (.ref b)) (Fc : Fld Z h0 a "java/lang/String" "coder" "B" (.int 1)) (Vb : Arv Z h0 b kb .byte (2 : Int32) [(.int y0), (.int y1)] (.int 0)) :
    own_Met l (⟨"java/lang/StringUTF16", "checkIndex", "(I[B)V"⟩ : MethodName) jdk_52_method_91_code 2 none ws ({ frames := 2, cells := 0, slots := 0, locals := 27 } : Room) Z #[(.int 0), (.ref b)] h0 (fun v h L => v = none ∧ Fr n0 L ∧ h = h0) := by
  refine own_body (plainFor_of_name pn_0) ?_
  intro p e s m below meth c s₁ X0 hx hby hml hown hnm hret hlk hZ e0
  replace hown : s.vm.findClass "java/lang/StringUTF16" = some m.cls := hown
  replace hml : c.maxLocals = 2 := hml
  replace hret : meth.sig.returnType = none := hret
  have N0 := Fr.nil n0
  refine own_ef (L0 := #[.val (.int 0), .val (.ref b)]) (by first | (simp [entryFrame, mkF, argsToLocals, Value.category]; done) | rfl) ?_
  refine own_iloadN X0 hx (hb hby d25_0) rfl ?_
  refine own_aloadN X0 hx (hb hby d25_1) rfl rfl ?_
  refine own_cStat (W := 1) (rest := [(.int 0)]) X0 hx hZ [(.ref b)] hown (own_m hw 128 rfl) (own_m hw 129 rfl) (by decide) (own_m hw 130 rfl) (own_m hw 22 rfl) e0 (rmUl_1 l Z a0 hw [] b h0 n0 Z0 (own_alnV Vb)) (by rw [hml]; rfl) (lenOf pd_14 rfl) rfl (Nat.le_of_eq rfl) (hb hby d25_2) (by decide) (by decide) (by decide) (by decide) fun v237 T237 L237 X237 hQ237 => ?_
  obtain ⟨rfl, N237q, e237⟩ := hQ237
  have N237 := Fr.app N0 N237q
  show own_At p e below _ T237 m 5 _ [(.int 1), (.int 0)]
  refine own_cStat (W := 0) (rest := []) X237 hx hZ [(.int 0), (.int 1)] hown (own_m hw 131 rfl) (own_m hw 93 rfl) (by decide) (own_m hw 94 rfl) (own_m hw 7 rfl) e237 (rmSCI l Z a0 hw [] fm (0 : Int32) (1 : Int32) h0 n0 Z0 Sf hfm (by decide) (by decide)) (by rw [hml]; rfl) (lenOf pd_11 rfl) rfl (Nat.le_of_eq rfl) (hb hby d25_5) (by decide) (by decide) (by decide) (by decide) fun v238 T238 L238 X238 hQ238 => ?_
  obtain ⟨rfl, N238q, e238⟩ := hQ238
  have N238 := Fr.app N237 N238q
  show own_At p e below _ T238 m 8 _ []
  refine own_retV X238 hx hlk hret (hb hby d25_8) (own_kN (by decide) (by decide) ?_)
  try rw [e238]
  exact ⟨rfl, N238, rfl⟩
theorem d24_0 : decode jdk_52_method_83_code 0 = .ok (.iload_n 1, 1) := by decide +kernel
theorem d24_1 : decode jdk_52_method_83_code 1 = .ok (.aload_n 0, 1) := by decide +kernel
theorem d24_2 : decode jdk_52_method_83_code 2 = .ok (.invokestatic 67, 3) := by decide +kernel
theorem d24_5 : decode jdk_52_method_83_code 5 = .ok (.aload_n 0, 1) := by decide +kernel
theorem d24_6 : decode jdk_52_method_83_code 6 = .ok (.iload_n 1, 1) := by decide +kernel
theorem d24_7 : decode jdk_52_method_83_code 7 = .ok (.invokestatic 71, 3) := by decide +kernel
theorem d24_10 : decode jdk_52_method_83_code 10 = .ok (.ireturn, 1) := by decide +kernel
theorem pd_15 : parseMethodDescriptor "(I[B)V" = some ⟨[.int, (.array .byte)], none⟩ := by decide +kernel
set_option maxRecDepth 65536 in
set_option maxHeartbeats 40000000 in
theorem rmXc_1_1_0 (l : Launch) (Z : State) (a0 : Array Value) (hw : own_Wd a0 Z) (ws : List Jvm.Cond) (a b : Addr) (kb : ClassId) (cs : Int32) (fm : Value) (y0 y1 : Int32)  (h0 : Heap) (n0 : Nat) (Z0 : n0 ≤ h0.size) (Sc : Sta Z h0 "java/lang/String" "COMPACT_STRINGS" "Z" (.int cs)) (hcs : ¬ (cs = (0 : Int32))) (Sad : Sta Z h0 "java/lang/StringUTF16" "$assertionsDisabled" "Z" (.int 1)) (Shi : Sta Z h0 "java/lang/StringUTF16" "HI_BYTE_SHIFT" "I" (.int 0)) (Slo : Sta Z h0 "java/lang/StringUTF16" "LO_BYTE_SHIFT" "I" (.int 8)) (Sf : Sta Z h0 "jdk/internal/util/Preconditions" "SIOOBE_FORMATTER" "Ljava/util/function/BiFunction;" fm) (hfm : fm.isRef = true) (Ea : Exa Z h0 a "java/lang/String") (Fv : Fld Z h0 a "java/lang/String" "value" "[B" (.ref b)) (Fc : Fld Z h0 a "java/lang/String" "coder" "B" (.int 1)) (Vb : Arv Z h0 b kb .byte (2 : Int32) [(.int y0), (.int y1)] (.int 0)) :
    own_Met l (⟨"java/lang/StringUTF16", "charAt", "([BI)C"⟩ : MethodName) jdk_52_method_83_code 2 (some .char) ws ({ frames := 3, cells := 0, slots := 0, locals := 40 } : Room) Z #[(.ref b), (.int 0)] h0 (fun v h L => v = some (.int (own_gc y0 y1)) ∧ Fr n0 L ∧ h = h0) := by
  refine own_body (plainFor_of_name pn_0) ?_
  intro p e s m below meth c s₁ X0 hx hby hml hown hnm hret hlk hZ e0
  replace hown : s.vm.findClass "java/lang/StringUTF16" = some m.cls := hown
  replace hml : c.maxLocals = 2 := hml
  replace hret : meth.sig.returnType = (some .char) := hret
  have N0 := Fr.nil n0
  refine own_ef (L0 := #[.val (.ref b), .val (.int 0)]) (by first | (simp [entryFrame, mkF, argsToLocals, Value.category]; done) | rfl) ?_
  refine own_iloadN X0 hx (hb hby d24_0) rfl ?_
  refine own_aloadN X0 hx (hb hby d24_1) rfl rfl ?_
  refine own_cStat (W := 0) (rest := []) X0 hx hZ [(.int 0), (.ref b)] hown (own_m hw 125 rfl) (own_m hw 126 rfl) (by decide) (own_m hw 127 rfl) (own_m hw 22 rfl) e0 (rmUci_1_1_0 l Z a0 hw [] a b kb cs fm y0 y1 h0 n0 Z0 Sc hcs Sad Shi Slo Sf hfm Ea Fv Fc Vb) (by rw [hml]; rfl) (lenOf pd_15 rfl) rfl (Nat.le_of_eq rfl) (hb hby d24_2) (by decide) (by decide) (by decide) (by decide) fun v239 T239 L239 X239 hQ239 => ?_
  obtain ⟨rfl, N239q, e239⟩ := hQ239
  have N239 := Fr.app N0 N239q
  show own_At p e below _ T239 m 5 _ []
  refine own_aloadN X239 hx (hb hby d24_5) rfl rfl ?_
  refine own_iloadN X239 hx (hb hby d24_6) rfl ?_
  refine own_cStat (W := 0) (rest := []) X239 hx hZ [(.ref b), (.int 0)] hown (own_m hw 119 rfl) (own_m hw 120 rfl) (by decide) (own_m hw 121 rfl) (own_m hw 22 rfl) e239 (rmGet_1_0 l Z a0 hw [] b kb y0 y1 h0 n0 Z0 Sad Shi Slo Vb) (by rw [hml]; rfl) (lenOf pd_7 rfl) rfl (Nat.le_of_eq rfl) (hb hby d24_7) (by decide) (by decide) (by decide) (by decide) fun v240 T240 L240 X240 hQ240 => ?_
  obtain ⟨rfl, N240q, e240⟩ := hQ240
  have N240 := Fr.app N239 N240q
  show own_At p e below _ T240 m 10 _ [(.int (own_gc y0 y1))]
  refine own_retN X240 hx hlk hret (by simp) (own_nargc _ _) (hb hby d24_10) (own_kN (by decide) (by decide) ?_)
  try rw [e240]
  exact ⟨rfl, N240, rfl⟩
set_option maxRecDepth 65536 in
set_option maxHeartbeats 40000000 in
theorem rmCA_1_1_0 (l : Launch) (Z : State) (a0 : Array Value) (hw : own_Wd a0 Z) (ws : List Jvm.Cond) (a b : Addr) (kb : ClassId) (cs : Int32) (fm : Value) (y0 y1 : Int32)  (h0 : Heap) (n0 : Nat) (Z0 : n0 ≤ h0.size) (Sc : Sta Z h0 "java/lang/String" "COMPACT_STRINGS" "Z" (.int cs)) (hcs : ¬ (cs = (0 : Int32))) (Sad : Sta Z h0 "java/lang/StringUTF16" "$assertionsDisabled" "Z" (.int 1)) (Shi : Sta Z h0 "java/lang/StringUTF16" "HI_BYTE_SHIFT" "I" (.int 0)) (Slo : Sta Z h0 "java/lang/StringUTF16" "LO_BYTE_SHIFT" "I" (.int 8)) (Sf : Sta Z h0 "jdk/internal/util/Preconditions" "SIOOBE_FORMATTER" "Ljava/util/function/BiFunction;" fm) (hfm : fm.isRef = true) (Ea : Exa Z h0 a "java/lang/String") (Fv : Fld Z h0 a "java/lang/String" "value" "[B" (.ref b)) (Fc : Fld Z h0 a "java/lang/String" "coder" "B" (.int 1)) (Vb : Arv Z h0 b kb .byte (2 : Int32) [(.int y0), (.int y1)] (.int 0)) :
    own_Met l (⟨"java/lang/String", "charAt", "(I)C"⟩ : MethodName) jdk_42_method_56_code 2 (some .char) ws ({ frames := 4, cells := 0, slots := 0, locals := 53 } : Room) Z #[(.ref a), (.int 0)] h0 (fun v h L => v = some (.int (own_gc y0 y1)) ∧ Fr n0 L ∧ h = h0) := by
  refine own_body (plainFor_of_name pn_1) ?_
  intro p e s m below meth c s₁ X0 hx hby hml hown hnm hret hlk hZ e0
  replace hown : s.vm.findClass "java/lang/String" = some m.cls := hown
  replace hml : c.maxLocals = 2 := hml
  replace hret : meth.sig.returnType = (some .char) := hret
  have N0 := Fr.nil n0
  refine own_ef (L0 := #[.val (.ref a), .val (.int 0)]) (by first | (simp [entryFrame, mkF, argsToLocals, Value.category]; done) | rfl) ?_
  refine own_aloadN X0 hx (hb hby d14_0) rfl rfl ?_
  refine own_cVirt (W := 0) (rest := []) X0 hx hZ [] hown (own_m hw 83 rfl) (own_m hw 84 rfl) (notFace_of_selects (args := #[]) (mvT hZ (own_m hw 86 rfl))) (own_m hw 86 rfl) (own_m hw 85 rfl) (by decide) (own_m hw 87 rfl) (own_m hw 7 rfl) e0 Ea (rmLu l Z a0 hw [] a cs h0 n0 Z0 Sc hcs Fc) (by rw [hml]; rfl) (lenOf pd_12 rfl) rfl (Nat.le_of_eq rfl) (hb hby d14_1) (by decide) (by decide) (by decide) (by decide) fun v241 T241 L241 X241 hQ241 => ?_
  obtain ⟨rfl, N241q, e241⟩ := hQ241
  have N241 := Fr.app N0 N241q
  show own_At p e below _ T241 m 4 _ [(.int 0)]
  refine own_ifYes X241 hx 16 (hb hby d14_4) (teq (by decide : (0 : Int32) = (0 : Int32))).1 (by decide) (by decide) ?_
  refine own_aloadN X241 hx (hb hby d14_16) rfl rfl ?_
  refine own_getF X241 hx hZ hown (host := "") (Or.inl (own_m hw 33 rfl)) Via.refl e241 Fv (hb hby d14_17) fun T242 X242 e242 => ?_
  refine own_iloadN X242 hx (hb hby d14_20) rfl ?_
  refine own_cStat (W := 0) (rest := []) X242 hx hZ [(.ref b), (.int 0)] hown (own_m hw 122 rfl) (own_m hw 123 rfl) (by decide) (own_m hw 124 rfl) (own_m hw 22 rfl) e242 (rmXc_1_1_0 l Z a0 hw [] a b kb cs fm y0 y1 h0 n0 Z0 Sc hcs Sad Shi Slo Sf hfm Ea Fv Fc Vb) (by rw [hml]; rfl) (lenOf pd_7 rfl) rfl (Nat.le_of_eq rfl) (hb hby d14_21) (by decide) (by decide) (by decide) (by decide) fun v243 T243 L243 X243 hQ243 => ?_
  obtain ⟨rfl, N243q, e243⟩ := hQ243
  have N243 := Fr.app N241 N243q
  show own_At p e below _ T243 m 24 _ [(.int (own_gc y0 y1))]
  refine own_retN X243 hx hlk hret (by simp) (own_nargc _ _) (hb hby d14_24) (own_kN (by decide) (by decide) ?_)
  try rw [e243]
  exact ⟨rfl, N243, rfl⟩
def own_H_1_1 (y0 y1 : Int32) : Int64 := (own_m3 (own_m2 (own_m1 (own_hs (-3750763034362895579 : Int64) (own_gc y0 y1)))))
set_option maxRecDepth 65536 in
set_option maxHeartbeats 40000000 in
theorem rmH_1_1 (l : Launch) (Z : State) (a0 : Array Value) (hw : own_Wd a0 Z) (ws : List Jvm.Cond) (a b : Addr) (kb : ClassId) (cs : Int32) (fm : Value) (y0 y1 : Int32)  (h0 : Heap) (n0 : Nat) (Z0 : n0 ≤ h0.size) (Sc : Sta Z h0 "java/lang/String" "COMPACT_STRINGS" "Z" (.int cs)) (hcs : ¬ (cs = (0 : Int32))) (Sad : Sta Z h0 "java/lang/StringUTF16" "$assertionsDisabled" "Z" (.int 1)) (Shi : Sta Z h0 "java/lang/StringUTF16" "HI_BYTE_SHIFT" "I" (.int 0)) (Slo : Sta Z h0 "java/lang/StringUTF16" "LO_BYTE_SHIFT" "I" (.int 8)) (Sf : Sta Z h0 "jdk/internal/util/Preconditions" "SIOOBE_FORMATTER" "Ljava/util/function/BiFunction;" fm) (hfm : fm.isRef = true) (Ea : Exa Z h0 a "java/lang/String") (Fv : Fld Z h0 a "java/lang/String" "value" "[B" (.ref b)) (Fc : Fld Z h0 a "java/lang/String" "coder" "B" (.int 1)) (Vb : Arv Z h0 b kb .byte (2 : Int32) [(.int y0), (.int y1)] (.int 0)) :
    own_Met l (⟨"com/example/vestline/vestline/cli/BloomFilter", "hash", "(Ljava/lang/String;)J"⟩ : MethodName) prog_1_method_3_code 4 (some .long) ws ({ frames := 5, cells := 0, slots := 0, locals := 72 } : Room) Z #[(.ref a)] h0 (fun v h L => v = some (.long (own_H_1_1 y0 y1)) ∧ Fr n0 L ∧ h = h0) := by
  refine own_body (plainFor_of_name pn_3) ?_
  intro p e s m below meth c s₁ X0 hx hby hml hown hnm hret hlk hZ e0
  replace hown : s.vm.findClass "com/example/vestline/vestline/cli/BloomFilter" = some m.cls := hown
  replace hml : c.maxLocals = 4 := hml
  replace hret : meth.sig.returnType = (some .long) := hret
  have N0 := Fr.nil n0
  refine own_ef (L0 := #[.val (.ref a), .unset, .unset, .unset]) (by first | (simp [entryFrame, mkF, argsToLocals, Value.category]; done) | rfl) ?_
  refine own_ldcL X0 hx hZ hown (own_m hw 67 rfl) (hb hby d11_0) ?_
  refine own_lstoreN (l' := #[.val (.ref a), .val (.long (-3750763034362895579 : Int64)), .second, .unset]) X0 hx (hb hby d11_3) rfl ?_
  refine own_iconst X0 hx 0 (hb hby d11_4) rfl ?_
  refine own_istoreN (l' := #[.val (.ref a), .val (.long (-3750763034362895579 : Int64)), .second, .val (.int 0)]) X0 hx (hb hby d11_5) rfl ?_
  refine own_iloadN X0 hx (hb hby d11_6) rfl ?_
  refine own_aloadN X0 hx (hb hby d11_7) rfl rfl ?_
  refine own_cVirt (W := 1) (rest := [(.int 0)]) X0 hx hZ [] hown (own_m hw 68 rfl) (own_m hw 69 rfl) (notFace_of_selects (args := #[]) (mvT hZ (own_m hw 71 rfl))) (own_m hw 71 rfl) (own_m hw 70 rfl) (by decide) (own_m hw 72 rfl) (own_m hw 7 rfl) e0 Ea (rmLn_1_1 l Z a0 hw [] a b kb cs fm y0 y1 h0 n0 Z0 Sc hcs Sad Shi Slo Sf hfm Ea Fv Fc Vb) (by rw [hml]; rfl) (lenOf pd_10 rfl) rfl (Nat.le_of_eq rfl) (hb hby d11_8) (by decide) (by decide) (by decide) (by decide) fun v244 T244 L244 X244 hQ244 => ?_
  obtain ⟨rfl, N244q, e244⟩ := hQ244
  have N244 := Fr.app N0 N244q
  show own_At p e below _ T244 m 11 _ [(.int 1), (.int 0)]
  refine own_icmpNo X244 hx (hb hby d11_11) (tlt (by decide : (0 : Int32) < (1 : Int32))).2.1 ?_
  refine own_lloadN X244 hx (hb hby d11_14) rfl ?_
  refine own_aloadN X244 hx (hb hby d11_15) rfl rfl ?_
  refine own_iloadN X244 hx (hb hby d11_16) rfl ?_
  refine own_cVirt (W := 2) (rest := [(.long (-3750763034362895579 : Int64))]) X244 hx hZ [(.int 0)] hown (own_m hw 78 rfl) (own_m hw 79 rfl) (notFace_of_selects (args := #[]) (mvT hZ (own_m hw 81 rfl))) (own_m hw 81 rfl) (own_m hw 80 rfl) (by decide) (own_m hw 82 rfl) (own_m hw 7 rfl) e244 Ea (rmCA_1_1_0 l Z a0 hw [] a b kb cs fm y0 y1 h0 n0 Z0 Sc hcs Sad Shi Slo Sf hfm Ea Fv Fc Vb) (by rw [hml]; rfl) (lenOf pd_13 rfl) rfl (Nat.le_of_eq rfl) (hb hby d11_17) (by decide) (by decide) (by decide) (by decide) fun v245 T245 L245 X245 hQ245 => ?_
  obtain ⟨rfl, N245q, e245⟩ := hQ245
  have N245 := Fr.app N244 N245q
  show own_At p e below _ T245 m 20 _ [(.int (own_gc y0 y1)), (.long (-3750763034362895579 : Int64))]
  refine own_i2l X245 hx (hb hby d11_20) ?_
  refine own_lxor X245 hx (hb hby d11_21) ?_
  refine own_ldcL X245 hx hZ hown (own_m hw 100 rfl) (hb hby d11_22) ?_
  refine own_lmul X245 hx (hb hby d11_25) ?_
  rw [show (((-3750763034362895579 : Int64) ^^^ ((own_gc y0 y1).toInt64)) * (1099511628211 : Int64)) = (own_hs (-3750763034362895579 : Int64) (own_gc y0 y1)) from rfl]
  refine own_lstoreN (l' := #[.val (.ref a), .val (.long (own_hs (-3750763034362895579 : Int64) (own_gc y0 y1))), .second, .val (.int 0)]) X245 hx (hb hby d11_26) rfl ?_
  refine own_iinc (l' := #[.val (.ref a), .val (.long (own_hs (-3750763034362895579 : Int64) (own_gc y0 y1))), .second, .val (.int ((0 : Int32) + (1 : Int32)))]) X245 hx (hb hby d11_27) rfl rfl ?_
  rw [show ((0 : Int32) + (1 : Int32)) = (1 : Int32) from by decide]
  refine own_goto X245 hx 6 (hb hby d11_30) (by decide) (by decide) ?_
  refine own_iloadN X245 hx (hb hby d11_6) rfl ?_
  refine own_aloadN X245 hx (hb hby d11_7) rfl rfl ?_
  refine own_cVirt (W := 1) (rest := [(.int 1)]) X245 hx hZ [] hown (own_m hw 68 rfl) (own_m hw 69 rfl) (notFace_of_selects (args := #[]) (mvT hZ (own_m hw 71 rfl))) (own_m hw 71 rfl) (own_m hw 70 rfl) (by decide) (own_m hw 72 rfl) (own_m hw 7 rfl) e245 Ea (rmLn_1_1 l Z a0 hw [] a b kb cs fm y0 y1 h0 n0 Z0 Sc hcs Sad Shi Slo Sf hfm Ea Fv Fc Vb) (by rw [hml]; rfl) (lenOf pd_10 rfl) rfl (Nat.le_of_eq rfl) (hb hby d11_8) (by decide) (by decide) (by decide) (by decide) fun v246 T246 L246 X246 hQ246 => ?_
  obtain ⟨rfl, N246q, e246⟩ := hQ246
  have N246 := Fr.app N245 N246q
  show own_At p e below _ T246 m 11 _ [(.int 1), (.int 1)]
  refine own_icmpYes X246 hx 33 (hb hby d11_11) (flt (by decide : ¬ ((1 : Int32) < (1 : Int32)))).2.1 (by decide) (by decide) ?_
  refine own_lloadN X246 hx (hb hby d11_33) rfl ?_
  refine own_lloadN X246 hx (hb hby d11_34) rfl ?_
  refine own_bipush X246 hx 33 (hb hby d11_35) rfl ?_
  refine own_lushr X246 hx (hb hby d11_37) ?_
  refine own_lxor X246 hx (hb hby d11_38) ?_
  refine own_ldcL X246 hx hZ hown (own_m hw 101 rfl) (hb hby d11_39) ?_
  refine own_lmul X246 hx (hb hby d11_42) ?_
  rw [show (((own_hs (-3750763034362895579 : Int64) (own_gc y0 y1)) ^^^ (((own_hs (-3750763034362895579 : Int64) (own_gc y0 y1)).toUInt64 >>> ((33 : Int32) &&& 0x3f).toInt64.toUInt64).toInt64)) * (-49064778989728563 : Int64)) = (own_m1 (own_hs (-3750763034362895579 : Int64) (own_gc y0 y1))) from rfl]
  refine own_lstoreN (l' := #[.val (.ref a), .val (.long (own_m1 (own_hs (-3750763034362895579 : Int64) (own_gc y0 y1)))), .second, .val (.int 1)]) X246 hx (hb hby d11_43) rfl ?_
  refine own_lloadN X246 hx (hb hby d11_44) rfl ?_
  refine own_lloadN X246 hx (hb hby d11_45) rfl ?_
  refine own_bipush X246 hx 33 (hb hby d11_46) rfl ?_
  refine own_lushr X246 hx (hb hby d11_48) ?_
  refine own_lxor X246 hx (hb hby d11_49) ?_
  refine own_ldcL X246 hx hZ hown (own_m hw 102 rfl) (hb hby d11_50) ?_
  refine own_lmul X246 hx (hb hby d11_53) ?_
  rw [show (((own_m1 (own_hs (-3750763034362895579 : Int64) (own_gc y0 y1))) ^^^ (((own_m1 (own_hs (-3750763034362895579 : Int64) (own_gc y0 y1))).toUInt64 >>> ((33 : Int32) &&& 0x3f).toInt64.toUInt64).toInt64)) * (-4265267296055464877 : Int64)) = (own_m2 (own_m1 (own_hs (-3750763034362895579 : Int64) (own_gc y0 y1)))) from rfl]
  refine own_lstoreN (l' := #[.val (.ref a), .val (.long (own_m2 (own_m1 (own_hs (-3750763034362895579 : Int64) (own_gc y0 y1))))), .second, .val (.int 1)]) X246 hx (hb hby d11_54) rfl ?_
  refine own_lloadN X246 hx (hb hby d11_55) rfl ?_
  refine own_lloadN X246 hx (hb hby d11_56) rfl ?_
  refine own_bipush X246 hx 33 (hb hby d11_57) rfl ?_
  refine own_lushr X246 hx (hb hby d11_59) ?_
  refine own_lxor X246 hx (hb hby d11_60) ?_
  rw [show ((own_m2 (own_m1 (own_hs (-3750763034362895579 : Int64) (own_gc y0 y1)))) ^^^ (((own_m2 (own_m1 (own_hs (-3750763034362895579 : Int64) (own_gc y0 y1)))).toUInt64 >>> ((33 : Int32) &&& 0x3f).toInt64.toUInt64).toInt64)) = (own_m3 (own_m2 (own_m1 (own_hs (-3750763034362895579 : Int64) (own_gc y0 y1))))) from rfl]
  refine own_retL X246 hx hlk hret (hb hby d11_61) (own_kN (by decide) (by decide) ?_)
  try rw [e246]
  exact ⟨rfl, N246, rfl⟩
set_option maxRecDepth 65536 in
set_option maxHeartbeats 40000000 in
theorem rmLn_1_2 (l : Launch) (Z : State) (a0 : Array Value) (hw : own_Wd a0 Z) (ws : List Jvm.Cond) (a b : Addr) (kb : ClassId) (cs : Int32) (fm : Value) (y0 y1 y2 y3 : Int32)  (h0 : Heap) (n0 : Nat) (Z0 : n0 ≤ h0.size) (Sc : Sta Z h0 "java/lang/String" "COMPACT_STRINGS" "Z" (.int cs)) (hcs : ¬ (cs = (0 : Int32))) (Sad : Sta Z h0 "java/lang/StringUTF16" "$assertionsDisabled" "Z" (.int 1)) (Shi : Sta Z h0 "java/lang/StringUTF16" "HI_BYTE_SHIFT" "I" (.int 0)) (Slo : Sta Z h0 "java/lang/StringUTF16" "LO_BYTE_SHIFT" "I" (.int 8)) (Sf : Sta Z h0 "jdk/internal/util/Preconditions" "SIOOBE_FORMATTER" "Ljava/util/function/BiFunction;" fm) (hfm : fm.isRef = true) (Ea : Exa Z h0 a "java/lang/String") (Fv : Fld Z h0 a "java/lang/String" "value" "[B" (.ref b)) (Fc : Fld Z h0 a "java/lang/String" "coder" "B" (.int 1)) (Vb : Arv Z h0 b kb .byte (4 : Int32) [(.int y0), (.int y1), (.int y2), (.int y3)] (.int 0)) :
    own_Met l (⟨"java/lang/String", "length", "()I"⟩ : MethodName) jdk_42_method_54_code 1 (some .int) ws ({ frames := 1, cells := 0, slots := 0, locals := 13 } : Room) Z #[(.ref a)] h0 (fun v h L => v = some (.int 2) ∧ Fr n0 L ∧ h = h0) := by
  refine own_body (plainFor_of_name pn_1) ?_
  intro p e s m below meth c s₁ X0 hx hby hml hown hnm hret hlk hZ e0
  replace hown : s.vm.findClass "java/lang/String" = some m.cls := hown
  replace hml : c.maxLocals = 1 := hml
  replace hret : meth.sig.returnType = (some .int) := hret
  have N0 := Fr.nil n0
  refine own_ef (L0 := #[.val (.ref a)]) (by first | (simp [entryFrame, mkF, argsToLocals, Value.category]; done) | rfl) ?_
  refine own_aloadN X0 hx (hb hby d12_0) rfl rfl ?_
  refine own_getF X0 hx hZ hown (host := "") (Or.inl (own_m hw 33 rfl)) Via.refl e0 Fv (hb hby d12_1) fun T247 X247 e247 => ?_
  refine own_arraylength X247 hx hZ e247 (own_alnV Vb) (hb hby d12_4) ?_
  refine own_aloadN X247 hx (hb hby d12_5) rfl rfl ?_
  refine own_cVirt (W := 1) (rest := [(.int 4)]) X247 hx hZ [] hown (own_m hw 73 rfl) (own_m hw 74 rfl) (notFace_of_selects (args := #[]) (mvT hZ (own_m hw 76 rfl))) (own_m hw 76 rfl) (own_m hw 75 rfl) (by decide) (own_m hw 77 rfl) (own_m hw 7 rfl) e247 Ea (rmCdu l Z a0 hw [] a cs h0 n0 Z0 Sc hcs Fc) (by rw [hml]; rfl) (lenOf pd_9 rfl) rfl (Nat.le_of_eq rfl) (hb hby d12_6) (by decide) (by decide) (by decide) (by decide) fun v248 T248 L248 X248 hQ248 => ?_
  obtain ⟨rfl, N248q, e248⟩ := hQ248
  have N248 := Fr.app N0 N248q
  show own_At p e below _ T248 m 9 _ [(.int 1), (.int 4)]
  refine own_ishr X248 hx (hb hby d12_9) ?_
  rw [show ((4 : Int32) >>> ((1 : Int32) &&& 31)) = (2 : Int32) from by decide]
  refine own_retI X248 hx hlk hret (hb hby d12_10) (own_kN (by decide) (by decide) ?_)
  try rw [e248]
  exact ⟨rfl, N248, rfl⟩
set_option maxRecDepth 65536 in
set_option maxHeartbeats 40000000 in
theorem rmUl_2 (l : Launch) (Z : State) (a0 : Array Value) (hw : own_Wd a0 Z) (ws : List Jvm.Cond) (b : Addr)  (h0 : Heap) (n0 : Nat) (Z0 : n0 ≤ h0.size) (A : own_Aln Z h0 b .byte (4 : Int32)) :
    own_Met l (⟨"java/lang/StringUTF16", "length", "([B)I"⟩ : MethodName) jdk_52_method_6_code 1 (some .int) ws ({ frames := 0, cells := 0, slots := 0, locals := 0 } : Room) Z #[(.ref b)] h0 (fun v h L => v = some (.int 2) ∧ Fr n0 L ∧ h = h0) := by
  refine own_body (plainFor_of_name pn_0) ?_
  intro p e s m below meth c s₁ X0 hx hby hml hown hnm hret hlk hZ e0
  replace hown : s.vm.findClass "java/lang/StringUTF16" = some m.cls := hown
  replace hml : c.maxLocals = 1 := hml
  replace hret : meth.sig.returnType = (some .int) := hret
  have N0 := Fr.nil n0
  refine own_ef (L0 := #[.val (.ref b)]) (by first | (simp [entryFrame, mkF, argsToLocals, Value.category]; done) | rfl) ?_
  refine own_aloadN X0 hx (hb hby d26_0) rfl rfl ?_
  refine own_arraylength X0 hx hZ e0 A (hb hby d26_1) ?_
  refine own_iconst X0 hx 1 (hb hby d26_2) rfl ?_
  refine own_ishr X0 hx (hb hby d26_3) ?_
  rw [show ((4 : Int32) >>> ((1 : Int32) &&& 31)) = (2 : Int32) from by decide]
  refine own_retI X0 hx hlk hret (hb hby d26_4) (own_kN (by decide) (by decide) ?_)
  try rw [e0]
  exact ⟨rfl, N0, rfl⟩
set_option maxRecDepth 65536 in
set_option maxHeartbeats 40000000 in
theorem rmUci_1_2_0 (l : Launch) (Z : State) (a0 : Array Value) (hw : own_Wd a0 Z) (ws : List Jvm.Cond) (a b : Addr) (kb : ClassId) (cs : Int32) (fm : Value) (y0 y1 y2 y3 : Int32)  (h0 : Heap) (n0 : Nat) (Z0 : n0 ≤ h0.size) (Sc : Sta Z h0 "java/lang/String" "COMPACT_STRINGS" "Z" (.int cs)) (hcs : ¬ (cs = (0 : Int32))) (Sad : Sta Z h0 "java/lang/StringUTF16" "$assertionsDisabled" "Z" (.int 1)) (Shi : Sta Z h0 "java/lang/StringUTF16" "HI_BYTE_SHIFT" "I" (.int 0)) (Slo : Sta Z h0 "java/lang/StringUTF16" "LO_BYTE_SHIFT" "I" (.int 8)) (Sf : Sta Z h0 "jdk/internal/util/Preconditions" "SIOOBE_FORMATTER" "Ljava/util/function/BiFunction;" fm) (hfm : fm.isRef = true) (Ea : Exa Z h0 a "java/lang/String") (Fv : Fld Z h0 a "java/lang/String" "value" "[B" (.ref b)) (Fc : Fld Z h0 a "java/lang/String" "coder" "B" (.int 1)) (Vb : Arv Z h0 b kb .byte (4 : Int32) [(.int y0), (.int y1), (.int y2), (.int y3)] (.int 0)) :
    own_Met l (⟨"java/lang/StringUTF16", "checkIndex", "(I[B)V"⟩ : MethodName) jdk_52_method_91_code 2 none ws ({ frames := 2, cells := 0, slots := 0, locals := 27 } : Room) Z #[(.int 0), (.ref b)] h0 (fun v h L => v = none ∧ Fr n0 L ∧ h = h0) := by
  refine own_body (plainFor_of_name pn_0) ?_
  intro p e s m below meth c s₁ X0 hx hby hml hown hnm hret hlk hZ e0
  replace hown : s.vm.findClass "java/lang/StringUTF16" = some m.cls := hown
  replace hml : c.maxLocals = 2 := hml
  replace hret : meth.sig.returnType = none := hret
  have N0 := Fr.nil n0
  refine own_ef (L0 := #[.val (.int 0), .val (.ref b)]) (by first | (simp [entryFrame, mkF, argsToLocals, Value.category]; done) | rfl) ?_
  refine own_iloadN X0 hx (hb hby d25_0) rfl ?_
  refine own_aloadN X0 hx (hb hby d25_1) rfl rfl ?_
  refine own_cStat (W := 1) (rest := [(.int 0)]) X0 hx hZ [(.ref b)] hown (own_m hw 128 rfl) (own_m hw 129 rfl) (by decide) (own_m hw 130 rfl) (own_m hw 22 rfl) e0 (rmUl_2 l Z a0 hw [] b h0 n0 Z0 (own_alnV Vb)) (by rw [hml]; rfl) (lenOf pd_14 rfl) rfl (Nat.le_of_eq rfl) (hb hby d25_2) (by decide) (by decide) (by decide) (by decide) fun v249 T249 L249 X249 hQ249 => ?_
  obtain ⟨rfl, N249q, e249⟩ := hQ249
  have N249 := Fr.app N0 N249q
  show own_At p e below _ T249 m 5 _ [(.int 2), (.int 0)]
  refine own_cStat (W := 0) (rest := []) X249 hx hZ [(.int 0), (.int 2)] hown (own_m hw 131 rfl) (own_m hw 93 rfl) (by decide) (own_m hw 94 rfl) (own_m hw 7 rfl) e249 (rmSCI l Z a0 hw [] fm (0 : Int32) (2 : Int32) h0 n0 Z0 Sf hfm (by decide) (by decide)) (by rw [hml]; rfl) (lenOf pd_11 rfl) rfl (Nat.le_of_eq rfl) (hb hby d25_5) (by decide) (by decide) (by decide) (by decide) fun v250 T250 L250 X250 hQ250 => ?_
  obtain ⟨rfl, N250q, e250⟩ := hQ250
  have N250 := Fr.app N249 N250q
  show own_At p e below _ T250 m 8 _ []
  refine own_retV X250 hx hlk hret (hb hby d25_8) (own_kN (by decide) (by decide) ?_)
  try rw [e250]
  exact ⟨rfl, N250, rfl⟩
set_option maxRecDepth 65536 in
set_option maxHeartbeats 40000000 in
theorem rmXc_1_2_0 (l : Launch) (Z : State) (a0 : Array Value) (hw : own_Wd a0 Z) (ws : List Jvm.Cond) (a b : Addr) (kb : ClassId) (cs : Int32) (fm : Value) (y0 y1 y2 y3 : Int32)  (h0 : Heap) (n0 : Nat) (Z0 : n0 ≤ h0.size) (Sc : Sta Z h0 "java/lang/String" "COMPACT_STRINGS" "Z" (.int cs)) (hcs : ¬ (cs = (0 : Int32))) (Sad : Sta Z h0 "java/lang/StringUTF16" "$assertionsDisabled" "Z" (.int 1)) (Shi : Sta Z h0 "java/lang/StringUTF16" "HI_BYTE_SHIFT" "I" (.int 0)) (Slo : Sta Z h0 "java/lang/StringUTF16" "LO_BYTE_SHIFT" "I" (.int 8)) (Sf : Sta Z h0 "jdk/internal/util/Preconditions" "SIOOBE_FORMATTER" "Ljava/util/function/BiFunction;" fm) (hfm : fm.isRef = true) (Ea : Exa Z h0 a "java/lang/String") (Fv : Fld Z h0 a "java/lang/String" "value" "[B" (.ref b)) (Fc : Fld Z h0 a "java/lang/String" "coder" "B" (.int 1)) (Vb : Arv Z h0 b kb .byte (4 : Int32) [(.int y0), (.int y1), (.int y2), (.int y3)] (.int 0)) :
    own_Met l (⟨"java/lang/StringUTF16", "charAt", "([BI)C"⟩ : MethodName) jdk_52_method_83_code 2 (some .char) ws ({ frames := 3, cells := 0, slots := 0, locals := 40 } : Room) Z #[(.ref b), (.int 0)] h0 (fun v h L => v = some (.int (own_gc y0 y1)) ∧ Fr n0 L ∧ h = h0) := by
  refine own_body (plainFor_of_name pn_0) ?_
  intro p e s m below meth c s₁ X0 hx hby hml hown hnm hret hlk hZ e0
  replace hown : s.vm.findClass "java/lang/StringUTF16" = some m.cls := hown
  replace hml : c.maxLocals = 2 := hml
  replace hret : meth.sig.returnType = (some .char) := hret
  have N0 := Fr.nil n0
  refine own_ef (L0 := #[.val (.ref b), .val (.int 0)]) (by first | (simp [entryFrame, mkF, argsToLocals, Value.category]; done) | rfl) ?_
  refine own_iloadN X0 hx (hb hby d24_0) rfl ?_
  refine own_aloadN X0 hx (hb hby d24_1) rfl rfl ?_
  refine own_cStat (W := 0) (rest := []) X0 hx hZ [(.int 0), (.ref b)] hown (own_m hw 125 rfl) (own_m hw 126 rfl) (by decide) (own_m hw 127 rfl) (own_m hw 22 rfl) e0 (rmUci_1_2_0 l Z a0 hw [] a b kb cs fm y0 y1 y2 y3 h0 n0 Z0 Sc hcs Sad Shi Slo Sf hfm Ea Fv Fc Vb) (by rw [hml]; rfl) (lenOf pd_15 rfl) rfl (Nat.le_of_eq rfl) (hb hby d24_2) (by decide) (by decide) (by decide) (by decide) fun v251 T251 L251 X251 hQ251 => ?_
  obtain ⟨rfl, N251q, e251⟩ := hQ251
  have N251 := Fr.app N0 N251q
  show own_At p e below _ T251 m 5 _ []
  refine own_aloadN X251 hx (hb hby d24_5) rfl rfl ?_
  refine own_iloadN X251 hx (hb hby d24_6) rfl ?_
  refine own_cStat (W := 0) (rest := []) X251 hx hZ [(.ref b), (.int 0)] hown (own_m hw 119 rfl) (own_m hw 120 rfl) (by decide) (own_m hw 121 rfl) (own_m hw 22 rfl) e251 (rmGet_2_0 l Z a0 hw [] b kb y0 y1 y2 y3 h0 n0 Z0 Sad Shi Slo Vb) (by rw [hml]; rfl) (lenOf pd_7 rfl) rfl (Nat.le_of_eq rfl) (hb hby d24_7) (by decide) (by decide) (by decide) (by decide) fun v252 T252 L252 X252 hQ252 => ?_
  obtain ⟨rfl, N252q, e252⟩ := hQ252
  have N252 := Fr.app N251 N252q
  show own_At p e below _ T252 m 10 _ [(.int (own_gc y0 y1))]
  refine own_retN X252 hx hlk hret (by simp) (own_nargc _ _) (hb hby d24_10) (own_kN (by decide) (by decide) ?_)
  try rw [e252]
  exact ⟨rfl, N252, rfl⟩
set_option maxRecDepth 65536 in
set_option maxHeartbeats 40000000 in
theorem rmCA_1_2_0 (l : Launch) (Z : State) (a0 : Array Value) (hw : own_Wd a0 Z) (ws : List Jvm.Cond) (a b : Addr) (kb : ClassId) (cs : Int32) (fm : Value) (y0 y1 y2 y3 : Int32)  (h0 : Heap) (n0 : Nat) (Z0 : n0 ≤ h0.size) (Sc : Sta Z h0 "java/lang/String" "COMPACT_STRINGS" "Z" (.int cs)) (hcs : ¬ (cs = (0 : Int32))) (Sad : Sta Z h0 "java/lang/StringUTF16" "$assertionsDisabled" "Z" (.int 1)) (Shi : Sta Z h0 "java/lang/StringUTF16" "HI_BYTE_SHIFT" "I" (.int 0)) (Slo : Sta Z h0 "java/lang/StringUTF16" "LO_BYTE_SHIFT" "I" (.int 8)) (Sf : Sta Z h0 "jdk/internal/util/Preconditions" "SIOOBE_FORMATTER" "Ljava/util/function/BiFunction;" fm) (hfm : fm.isRef = true) (Ea : Exa Z h0 a "java/lang/String") (Fv : Fld Z h0 a "java/lang/String" "value" "[B" (.ref b)) (Fc : Fld Z h0 a "java/lang/String" "coder" "B" (.int 1)) (Vb : Arv Z h0 b kb .byte (4 : Int32) [(.int y0), (.int y1), (.int y2), (.int y3)] (.int 0)) :
    own_Met l (⟨"java/lang/String", "charAt", "(I)C"⟩ : MethodName) jdk_42_method_56_code 2 (some .char) ws ({ frames := 4, cells := 0, slots := 0, locals := 53 } : Room) Z #[(.ref a), (.int 0)] h0 (fun v h L => v = some (.int (own_gc y0 y1)) ∧ Fr n0 L ∧ h = h0) := by
  refine own_body (plainFor_of_name pn_1) ?_
  intro p e s m below meth c s₁ X0 hx hby hml hown hnm hret hlk hZ e0
  replace hown : s.vm.findClass "java/lang/String" = some m.cls := hown
  replace hml : c.maxLocals = 2 := hml
  replace hret : meth.sig.returnType = (some .char) := hret
  have N0 := Fr.nil n0
  refine own_ef (L0 := #[.val (.ref a), .val (.int 0)]) (by first | (simp [entryFrame, mkF, argsToLocals, Value.category]; done) | rfl) ?_
  refine own_aloadN X0 hx (hb hby d14_0) rfl rfl ?_
  refine own_cVirt (W := 0) (rest := []) X0 hx hZ [] hown (own_m hw 83 rfl) (own_m hw 84 rfl) (notFace_of_selects (args := #[]) (mvT hZ (own_m hw 86 rfl))) (own_m hw 86 rfl) (own_m hw 85 rfl) (by decide) (own_m hw 87 rfl) (own_m hw 7 rfl) e0 Ea (rmLu l Z a0 hw [] a cs h0 n0 Z0 Sc hcs Fc) (by rw [hml]; rfl) (lenOf pd_12 rfl) rfl (Nat.le_of_eq rfl) (hb hby d14_1) (by decide) (by decide) (by decide) (by decide) fun v253 T253 L253 X253 hQ253 => ?_
  obtain ⟨rfl, N253q, e253⟩ := hQ253
  have N253 := Fr.app N0 N253q
  show own_At p e below _ T253 m 4 _ [(.int 0)]
  refine own_ifYes X253 hx 16 (hb hby d14_4) (teq (by decide : (0 : Int32) = (0 : Int32))).1 (by decide) (by decide) ?_
  refine own_aloadN X253 hx (hb hby d14_16) rfl rfl ?_
  refine own_getF X253 hx hZ hown (host := "") (Or.inl (own_m hw 33 rfl)) Via.refl e253 Fv (hb hby d14_17) fun T254 X254 e254 => ?_
  refine own_iloadN X254 hx (hb hby d14_20) rfl ?_
  refine own_cStat (W := 0) (rest := []) X254 hx hZ [(.ref b), (.int 0)] hown (own_m hw 122 rfl) (own_m hw 123 rfl) (by decide) (own_m hw 124 rfl) (own_m hw 22 rfl) e254 (rmXc_1_2_0 l Z a0 hw [] a b kb cs fm y0 y1 y2 y3 h0 n0 Z0 Sc hcs Sad Shi Slo Sf hfm Ea Fv Fc Vb) (by rw [hml]; rfl) (lenOf pd_7 rfl) rfl (Nat.le_of_eq rfl) (hb hby d14_21) (by decide) (by decide) (by decide) (by decide) fun v255 T255 L255 X255 hQ255 => ?_
  obtain ⟨rfl, N255q, e255⟩ := hQ255
  have N255 := Fr.app N253 N255q
  show own_At p e below _ T255 m 24 _ [(.int (own_gc y0 y1))]
  refine own_retN X255 hx hlk hret (by simp) (own_nargc _ _) (hb hby d14_24) (own_kN (by decide) (by decide) ?_)
  try rw [e255]
  exact ⟨rfl, N255, rfl⟩
set_option maxRecDepth 65536 in
set_option maxHeartbeats 40000000 in
theorem rmUci_1_2_1 (l : Launch) (Z : State) (a0 : Array Value) (hw : own_Wd a0 Z) (ws : List Jvm.Cond) (a b : Addr) (kb : ClassId) (cs : Int32) (fm : Value) (y0 y1 y2 y3 : Int32)  (h0 : Heap) (n0 : Nat) (Z0 : n0 ≤ h0.size) (Sc : Sta Z h0 "java/lang/String" "COMPACT_STRINGS" "Z" (.int cs)) (hcs : ¬ (cs = (0 : Int32))) (Sad : Sta Z h0 "java/lang/StringUTF16" "$assertionsDisabled" "Z" (.int 1)) (Shi : Sta Z h0 "java/lang/StringUTF16" "HI_BYTE_SHIFT" "I" (.int 0)) (Slo : Sta Z h0 "java/lang/StringUTF16" "LO_BYTE_SHIFT" "I" (.int 8)) (Sf : Sta Z h0 "jdk/internal/util/Preconditions" "SIOOBE_FORMATTER" "Ljava/util/function/BiFunction;" fm) (hfm : fm.isRef = true) (Ea : Exa Z h0 a "java/lang/String") (Fv : Fld Z h0 a "java/lang/String" "value" "[B" (.ref b)) (Fc : Fld Z h0 a "java/lang/String" "coder" "B" (.int 1)) (Vb : Arv Z h0 b kb .byte (4 : Int32) [(.int y0), (.int y1), (.int y2), (.int y3)] (.int 0)) :
    own_Met l (⟨"java/lang/StringUTF16", "checkIndex", "(I[B)V"⟩ : MethodName) jdk_52_method_91_code 2 none ws ({ frames := 2, cells := 0, slots := 0, locals := 27 } : Room) Z #[(.int 1), (.ref b)] h0 (fun v h L => v = none ∧ Fr n0 L ∧ h = h0) := by
  refine own_body (plainFor_of_name pn_0) ?_
  intro p e s m below meth c s₁ X0 hx hby hml hown hnm hret hlk hZ e0
  replace hown : s.vm.findClass "java/lang/StringUTF16" = some m.cls := hown
  replace hml : c.maxLocals = 2 := hml
  replace hret : meth.sig.returnType = none := hret
  have N0 := Fr.nil n0
  refine own_ef (L0 := #[.val (.int 1), .val (.ref b)]) (by first | (simp [entryFrame, mkF, argsToLocals, Value.category]; done) | rfl) ?_
  refine own_iloadN X0 hx (hb hby d25_0) rfl ?_
  refine own_aloadN X0 hx (hb hby d25_1) rfl rfl ?_
  refine own_cStat (W := 1) (rest := [(.int 1)]) X0 hx hZ [(.ref b)] hown (own_m hw 128 rfl) (own_m hw 129 rfl) (by decide) (own_m hw 130 rfl) (own_m hw 22 rfl) e0 (rmUl_2 l Z a0 hw [] b h0 n0 Z0 (own_alnV Vb)) (by rw [hml]; rfl) (lenOf pd_14 rfl) rfl (Nat.le_of_eq rfl) (hb hby d25_2) (by decide) (by decide) (by decide) (by decide) fun v256 T256 L256 X256 hQ256 => ?_
  obtain ⟨rfl, N256q, e256⟩ := hQ256
  have N256 := Fr.app N0 N256q
  show own_At p e below _ T256 m 5 _ [(.int 2), (.int 1)]
  refine own_cStat (W := 0) (rest := []) X256 hx hZ [(.int 1), (.int 2)] hown (own_m hw 131 rfl) (own_m hw 93 rfl) (by decide) (own_m hw 94 rfl) (own_m hw 7 rfl) e256 (rmSCI l Z a0 hw [] fm (1 : Int32) (2 : Int32) h0 n0 Z0 Sf hfm (by decide) (by decide)) (by rw [hml]; rfl) (lenOf pd_11 rfl) rfl (Nat.le_of_eq rfl) (hb hby d25_5) (by decide) (by decide) (by decide) (by decide) fun v257 T257 L257 X257 hQ257 => ?_
  obtain ⟨rfl, N257q, e257⟩ := hQ257
  have N257 := Fr.app N256 N257q
  show own_At p e below _ T257 m 8 _ []
  refine own_retV X257 hx hlk hret (hb hby d25_8) (own_kN (by decide) (by decide) ?_)
  try rw [e257]
  exact ⟨rfl, N257, rfl⟩
set_option maxRecDepth 65536 in
set_option maxHeartbeats 40000000 in
theorem rmXc_1_2_1 (l : Launch) (Z : State) (a0 : Array Value) (hw : own_Wd a0 Z) (ws : List Jvm.Cond) (a b : Addr) (kb : ClassId) (cs : Int32) (fm : Value) (y0 y1 y2 y3 : Int32)  (h0 : Heap) (n0 : Nat) (Z0 : n0 ≤ h0.size) (Sc : Sta Z h0 "java/lang/String" "COMPACT_STRINGS" "Z" (.int cs)) (hcs : ¬ (cs = (0 : Int32))) (Sad : Sta Z h0 "java/lang/StringUTF16" "$assertionsDisabled" "Z" (.int 1)) (Shi : Sta Z h0 "java/lang/StringUTF16" "HI_BYTE_SHIFT" "I" (.int 0)) (Slo : Sta Z h0 "java/lang/StringUTF16" "LO_BYTE_SHIFT" "I" (.int 8)) (Sf : Sta Z h0 "jdk/internal/util/Preconditions" "SIOOBE_FORMATTER" "Ljava/util/function/BiFunction;" fm) (hfm : fm.isRef = true) (Ea : Exa Z h0 a "java/lang/String") (Fv : Fld Z h0 a "java/lang/String" "value" "[B" (.ref b)) (Fc : Fld Z h0 a "java/lang/String" "coder" "B" (.int 1)) (Vb : Arv Z h0 b kb .byte (4 : Int32) [(.int y0), (.int y1), (.int y2), (.int y3)] (.int 0)) :
    own_Met l (⟨"java/lang/StringUTF16", "charAt", "([BI)C"⟩ : MethodName) jdk_52_method_83_code 2 (some .char) ws ({ frames := 3, cells := 0, slots := 0, locals := 40 } : Room) Z #[(.ref b), (.int 1)] h0 (fun v h L => v = some (.int (own_gc y2 y3)) ∧ Fr n0 L ∧ h = h0) := by
  refine own_body (plainFor_of_name pn_0) ?_
  intro p e s m below meth c s₁ X0 hx hby hml hown hnm hret hlk hZ e0
  replace hown : s.vm.findClass "java/lang/StringUTF16" = some m.cls := hown
  replace hml : c.maxLocals = 2 := hml
  replace hret : meth.sig.returnType = (some .char) := hret
  have N0 := Fr.nil n0
  refine own_ef (L0 := #[.val (.ref b), .val (.int 1)]) (by first | (simp [entryFrame, mkF, argsToLocals, Value.category]; done) | rfl) ?_
  refine own_iloadN X0 hx (hb hby d24_0) rfl ?_
  refine own_aloadN X0 hx (hb hby d24_1) rfl rfl ?_
  refine own_cStat (W := 0) (rest := []) X0 hx hZ [(.int 1), (.ref b)] hown (own_m hw 125 rfl) (own_m hw 126 rfl) (by decide) (own_m hw 127 rfl) (own_m hw 22 rfl) e0 (rmUci_1_2_1 l Z a0 hw [] a b kb cs fm y0 y1 y2 y3 h0 n0 Z0 Sc hcs Sad Shi Slo Sf hfm Ea Fv Fc Vb) (by rw [hml]; rfl) (lenOf pd_15 rfl) rfl (Nat.le_of_eq rfl) (hb hby d24_2) (by decide) (by decide) (by decide) (by decide) fun v258 T258 L258 X258 hQ258 => ?_
  obtain ⟨rfl, N258q, e258⟩ := hQ258
  have N258 := Fr.app N0 N258q
  show own_At p e below _ T258 m 5 _ []
  refine own_aloadN X258 hx (hb hby d24_5) rfl rfl ?_
  refine own_iloadN X258 hx (hb hby d24_6) rfl ?_
  refine own_cStat (W := 0) (rest := []) X258 hx hZ [(.ref b), (.int 1)] hown (own_m hw 119 rfl) (own_m hw 120 rfl) (by decide) (own_m hw 121 rfl) (own_m hw 22 rfl) e258 (rmGet_2_1 l Z a0 hw [] b kb y0 y1 y2 y3 h0 n0 Z0 Sad Shi Slo Vb) (by rw [hml]; rfl) (lenOf pd_7 rfl) rfl (Nat.le_of_eq rfl) (hb hby d24_7) (by decide) (by decide) (by decide) (by decide) fun v259 T259 L259 X259 hQ259 => ?_
  obtain ⟨rfl, N259q, e259⟩ := hQ259
  have N259 := Fr.app N258 N259q
  show own_At p e below _ T259 m 10 _ [(.int (own_gc y2 y3))]
  refine own_retN X259 hx hlk hret (by simp) (own_nargc _ _) (hb hby d24_10) (own_kN (by decide) (by decide) ?_)
  try rw [e259]
  exact ⟨rfl, N259, rfl⟩
set_option maxRecDepth 65536 in
set_option maxHeartbeats 40000000 in
theorem rmCA_1_2_1 (l : Launch) (Z : State) (a0 : Array Value) (hw : own_Wd a0 Z) (ws : List Jvm.Cond) (a b : Addr) (kb : ClassId) (cs : Int32) (fm : Value) (y0 y1 y2 y3 : Int32)  (h0 : Heap) (n0 : Nat) (Z0 : n0 ≤ h0.size) (Sc : Sta Z h0 "java/lang/String" "COMPACT_STRINGS" "Z" (.int cs)) (hcs : ¬ (cs = (0 : Int32))) (Sad : Sta Z h0 "java/lang/StringUTF16" "$assertionsDisabled" "Z" (.int 1)) (Shi : Sta Z h0 "java/lang/StringUTF16" "HI_BYTE_SHIFT" "I" (.int 0)) (Slo : Sta Z h0 "java/lang/StringUTF16" "LO_BYTE_SHIFT" "I" (.int 8)) (Sf : Sta Z h0 "jdk/internal/util/Preconditions" "SIOOBE_FORMATTER" "Ljava/util/function/BiFunction;" fm) (hfm : fm.isRef = true) (Ea : Exa Z h0 a "java/lang/String") (Fv : Fld Z h0 a "java/lang/String" "value" "[B" (.ref b)) (Fc : Fld Z h0 a "java/lang/String" "coder" "B" (.int 1)) (Vb : Arv Z h0 b kb .byte (4 : Int32) [(.int y0), (.int y1), (.int y2), (.int y3)] (.int 0)) :
    own_Met l (⟨"java/lang/String", "charAt", "(I)C"⟩ : MethodName) jdk_42_method_56_code 2 (some .char) ws ({ frames := 4, cells := 0, slots := 0, locals := 53 } : Room) Z #[(.ref a), (.int 1)] h0 (fun v h L => v = some (.int (own_gc y2 y3)) ∧ Fr n0 L ∧ h = h0) := by
  refine own_body (plainFor_of_name pn_1) ?_
  intro p e s m below meth c s₁ X0 hx hby hml hown hnm hret hlk hZ e0
  replace hown : s.vm.findClass "java/lang/String" = some m.cls := hown
  replace hml : c.maxLocals = 2 := hml
  replace hret : meth.sig.returnType = (some .char) := hret
  have N0 := Fr.nil n0
  refine own_ef (L0 := #[.val (.ref a), .val (.int 1)]) (by first | (simp [entryFrame, mkF, argsToLocals, Value.category]; done) | rfl) ?_
  refine own_aloadN X0 hx (hb hby d14_0) rfl rfl ?_
  refine own_cVirt (W := 0) (rest := []) X0 hx hZ [] hown (own_m hw 83 rfl) (own_m hw 84 rfl) (notFace_of_selects (args := #[]) (mvT hZ (own_m hw 86 rfl))) (own_m hw 86 rfl) (own_m hw 85 rfl) (by decide) (own_m hw 87 rfl) (own_m hw 7 rfl) e0 Ea (rmLu l Z a0 hw [] a cs h0 n0 Z0 Sc hcs Fc) (by rw [hml]; rfl) (lenOf pd_12 rfl) rfl (Nat.le_of_eq rfl) (hb hby d14_1) (by decide) (by decide) (by decide) (by decide) fun v260 T260 L260 X260 hQ260 => ?_
  obtain ⟨rfl, N260q, e260⟩ := hQ260
  have N260 := Fr.app N0 N260q
  show own_At p e below _ T260 m 4 _ [(.int 0)]
  refine own_ifYes X260 hx 16 (hb hby d14_4) (teq (by decide : (0 : Int32) = (0 : Int32))).1 (by decide) (by decide) ?_
  refine own_aloadN X260 hx (hb hby d14_16) rfl rfl ?_
  refine own_getF X260 hx hZ hown (host := "") (Or.inl (own_m hw 33 rfl)) Via.refl e260 Fv (hb hby d14_17) fun T261 X261 e261 => ?_
  refine own_iloadN X261 hx (hb hby d14_20) rfl ?_
  refine own_cStat (W := 0) (rest := []) X261 hx hZ [(.ref b), (.int 1)] hown (own_m hw 122 rfl) (own_m hw 123 rfl) (by decide) (own_m hw 124 rfl) (own_m hw 22 rfl) e261 (rmXc_1_2_1 l Z a0 hw [] a b kb cs fm y0 y1 y2 y3 h0 n0 Z0 Sc hcs Sad Shi Slo Sf hfm Ea Fv Fc Vb) (by rw [hml]; rfl) (lenOf pd_7 rfl) rfl (Nat.le_of_eq rfl) (hb hby d14_21) (by decide) (by decide) (by decide) (by decide) fun v262 T262 L262 X262 hQ262 => ?_
  obtain ⟨rfl, N262q, e262⟩ := hQ262
  have N262 := Fr.app N260 N262q
  show own_At p e below _ T262 m 24 _ [(.int (own_gc y2 y3))]
  refine own_retN X262 hx hlk hret (by simp) (own_nargc _ _) (hb hby d14_24) (own_kN (by decide) (by decide) ?_)
  try rw [e262]
  exact ⟨rfl, N262, rfl⟩
def own_H_1_2 (y0 y1 y2 y3 : Int32) : Int64 := (own_m3 (own_m2 (own_m1 (own_hs (own_hs (-3750763034362895579 : Int64) (own_gc y0 y1)) (own_gc y2 y3)))))
set_option maxRecDepth 65536 in
set_option maxHeartbeats 40000000 in
theorem rmH_1_2 (l : Launch) (Z : State) (a0 : Array Value) (hw : own_Wd a0 Z) (ws : List Jvm.Cond) (a b : Addr) (kb : ClassId) (cs : Int32) (fm : Value) (y0 y1 y2 y3 : Int32)  (h0 : Heap) (n0 : Nat) (Z0 : n0 ≤ h0.size) (Sc : Sta Z h0 "java/lang/String" "COMPACT_STRINGS" "Z" (.int cs)) (hcs : ¬ (cs = (0 : Int32))) (Sad : Sta Z h0 "java/lang/StringUTF16" "$assertionsDisabled" "Z" (.int 1)) (Shi : Sta Z h0 "java/lang/StringUTF16" "HI_BYTE_SHIFT" "I" (.int 0)) (Slo : Sta Z h0 "java/lang/StringUTF16" "LO_BYTE_SHIFT" "I" (.int 8)) (Sf : Sta Z h0 "jdk/internal/util/Preconditions" "SIOOBE_FORMATTER" "Ljava/util/function/BiFunction;" fm) (hfm : fm.isRef = true) (Ea : Exa Z h0 a "java/lang/String") (Fv : Fld Z h0 a "java/lang/String" "value" "[B" (.ref b)) (Fc : Fld Z h0 a "java/lang/String" "coder" "B" (.int 1)) (Vb : Arv Z h0 b kb .byte (4 : Int32) [(.int y0), (.int y1), (.int y2), (.int y3)] (.int 0)) :
    own_Met l (⟨"com/example/vestline/vestline/cli/BloomFilter", "hash", "(Ljava/lang/String;)J"⟩ : MethodName) prog_1_method_3_code 4 (some .long) ws ({ frames := 5, cells := 0, slots := 0, locals := 72 } : Room) Z #[(.ref a)] h0 (fun v h L => v = some (.long (own_H_1_2 y0 y1 y2 y3)) ∧ Fr n0 L ∧ h = h0) := by
  refine own_body (plainFor_of_name pn_3) ?_
  intro p e s m below meth c s₁ X0 hx hby hml hown hnm hret hlk hZ e0
  replace hown : s.vm.findClass "com/example/vestline/vestline/cli/BloomFilter" = some m.cls := hown
  replace hml : c.maxLocals = 4 := hml
  replace hret : meth.sig.returnType = (some .long) := hret
  have N0 := Fr.nil n0
  refine own_ef (L0 := #[.val (.ref a), .unset, .unset, .unset]) (by first | (simp [entryFrame, mkF, argsToLocals, Value.category]; done) | rfl) ?_
  refine own_ldcL X0 hx hZ hown (own_m hw 67 rfl) (hb hby d11_0) ?_
  refine own_lstoreN (l' := #[.val (.ref a), .val (.long (-3750763034362895579 : Int64)), .second, .unset]) X0 hx (hb hby d11_3) rfl ?_
  refine own_iconst X0 hx 0 (hb hby d11_4) rfl ?_
  refine own_istoreN (l' := #[.val (.ref a), .val (.long (-3750763034362895579 : Int64)), .second, .val (.int 0)]) X0 hx (hb hby d11_5) rfl ?_
  refine own_iloadN X0 hx (hb hby d11_6) rfl ?_
  refine own_aloadN X0 hx (hb hby d11_7) rfl rfl ?_
  refine own_cVirt (W := 1) (rest := [(.int 0)]) X0 hx hZ [] hown (own_m hw 68 rfl) (own_m hw 69 rfl) (notFace_of_selects (args := #[]) (mvT hZ (own_m hw 71 rfl))) (own_m hw 71 rfl) (own_m hw 70 rfl) (by decide) (own_m hw 72 rfl) (own_m hw 7 rfl) e0 Ea (rmLn_1_2 l Z a0 hw [] a b kb cs fm y0 y1 y2 y3 h0 n0 Z0 Sc hcs Sad Shi Slo Sf hfm Ea Fv Fc Vb) (by rw [hml]; rfl) (lenOf pd_10 rfl) rfl (Nat.le_of_eq rfl) (hb hby d11_8) (by decide) (by decide) (by decide) (by decide) fun v263 T263 L263 X263 hQ263 => ?_
  obtain ⟨rfl, N263q, e263⟩ := hQ263
  have N263 := Fr.app N0 N263q
  show own_At p e below _ T263 m 11 _ [(.int 2), (.int 0)]
  refine own_icmpNo X263 hx (hb hby d11_11) (tlt (by decide : (0 : Int32) < (2 : Int32))).2.1 ?_
  refine own_lloadN X263 hx (hb hby d11_14) rfl ?_
  refine own_aloadN X263 hx (hb hby d11_15) rfl rfl ?_
  refine own_iloadN X263 hx (hb hby d11_16) rfl ?_
  refine own_cVirt (W := 2) (rest := [(.long (-3750763034362895579 : Int64))]) X263 hx hZ [(.int 0)] hown (own_m hw 78 rfl) (own_m hw 79 rfl) (notFace_of_selects (args := #[]) (mvT hZ (own_m hw 81 rfl))) (own_m hw 81 rfl) (own_m hw 80 rfl) (by decide) (own_m hw 82 rfl) (own_m hw 7 rfl) e263 Ea (rmCA_1_2_0 l Z a0 hw [] a b kb cs fm y0 y1 y2 y3 h0 n0 Z0 Sc hcs Sad Shi Slo Sf hfm Ea Fv Fc Vb) (by rw [hml]; rfl) (lenOf pd_13 rfl) rfl (Nat.le_of_eq rfl) (hb hby d11_17) (by decide) (by decide) (by decide) (by decide) fun v264 T264 L264 X264 hQ264 => ?_
  obtain ⟨rfl, N264q, e264⟩ := hQ264
  have N264 := Fr.app N263 N264q
  show own_At p e below _ T264 m 20 _ [(.int (own_gc y0 y1)), (.long (-3750763034362895579 : Int64))]
  refine own_i2l X264 hx (hb hby d11_20) ?_
  refine own_lxor X264 hx (hb hby d11_21) ?_
  refine own_ldcL X264 hx hZ hown (own_m hw 100 rfl) (hb hby d11_22) ?_
  refine own_lmul X264 hx (hb hby d11_25) ?_
  rw [show (((-3750763034362895579 : Int64) ^^^ ((own_gc y0 y1).toInt64)) * (1099511628211 : Int64)) = (own_hs (-3750763034362895579 : Int64) (own_gc y0 y1)) from rfl]
  refine own_lstoreN (l' := #[.val (.ref a), .val (.long (own_hs (-3750763034362895579 : Int64) (own_gc y0 y1))), .second, .val (.int 0)]) X264 hx (hb hby d11_26) rfl ?_
  refine own_iinc (l' := #[.val (.ref a), .val (.long (own_hs (-3750763034362895579 : Int64) (own_gc y0 y1))), .second, .val (.int ((0 : Int32) + (1 : Int32)))]) X264 hx (hb hby d11_27) rfl rfl ?_
  rw [show ((0 : Int32) + (1 : Int32)) = (1 : Int32) from by decide]
  refine own_goto X264 hx 6 (hb hby d11_30) (by decide) (by decide) ?_
  refine own_iloadN X264 hx (hb hby d11_6) rfl ?_
  refine own_aloadN X264 hx (hb hby d11_7) rfl rfl ?_
  refine own_cVirt (W := 1) (rest := [(.int 1)]) X264 hx hZ [] hown (own_m hw 68 rfl) (own_m hw 69 rfl) (notFace_of_selects (args := #[]) (mvT hZ (own_m hw 71 rfl))) (own_m hw 71 rfl) (own_m hw 70 rfl) (by decide) (own_m hw 72 rfl) (own_m hw 7 rfl) e264 Ea (rmLn_1_2 l Z a0 hw [] a b kb cs fm y0 y1 y2 y3 h0 n0 Z0 Sc hcs Sad Shi Slo Sf hfm Ea Fv Fc Vb) (by rw [hml]; rfl) (lenOf pd_10 rfl) rfl (Nat.le_of_eq rfl) (hb hby d11_8) (by decide) (by decide) (by decide) (by decide) fun v265 T265 L265 X265 hQ265 => ?_
  obtain ⟨rfl, N265q, e265⟩ := hQ265
  have N265 := Fr.app N264 N265q
  show own_At p e below _ T265 m 11 _ [(.int 2), (.int 1)]
  refine own_icmpNo X265 hx (hb hby d11_11) (tlt (by decide : (1 : Int32) < (2 : Int32))).2.1 ?_
  refine own_lloadN X265 hx (hb hby d11_14) rfl ?_
  refine own_aloadN X265 hx (hb hby d11_15) rfl rfl ?_
  refine own_iloadN X265 hx (hb hby d11_16) rfl ?_
  refine own_cVirt (W := 2) (rest := [(.long (own_hs (-3750763034362895579 : Int64) (own_gc y0 y1)))]) X265 hx hZ [(.int 1)] hown (own_m hw 78 rfl) (own_m hw 79 rfl) (notFace_of_selects (args := #[]) (mvT hZ (own_m hw 81 rfl))) (own_m hw 81 rfl) (own_m hw 80 rfl) (by decide) (own_m hw 82 rfl) (own_m hw 7 rfl) e265 Ea (rmCA_1_2_1 l Z a0 hw [] a b kb cs fm y0 y1 y2 y3 h0 n0 Z0 Sc hcs Sad Shi Slo Sf hfm Ea Fv Fc Vb) (by rw [hml]; rfl) (lenOf pd_13 rfl) rfl (Nat.le_of_eq rfl) (hb hby d11_17) (by decide) (by decide) (by decide) (by decide) fun v266 T266 L266 X266 hQ266 => ?_
  obtain ⟨rfl, N266q, e266⟩ := hQ266
  have N266 := Fr.app N265 N266q
  show own_At p e below _ T266 m 20 _ [(.int (own_gc y2 y3)), (.long (own_hs (-3750763034362895579 : Int64) (own_gc y0 y1)))]
  refine own_i2l X266 hx (hb hby d11_20) ?_
  refine own_lxor X266 hx (hb hby d11_21) ?_
  refine own_ldcL X266 hx hZ hown (own_m hw 100 rfl) (hb hby d11_22) ?_
  refine own_lmul X266 hx (hb hby d11_25) ?_
  rw [show (((own_hs (-3750763034362895579 : Int64) (own_gc y0 y1)) ^^^ ((own_gc y2 y3).toInt64)) * (1099511628211 : Int64)) = (own_hs (own_hs (-3750763034362895579 : Int64) (own_gc y0 y1)) (own_gc y2 y3)) from rfl]
  refine own_lstoreN (l' := #[.val (.ref a), .val (.long (own_hs (own_hs (-3750763034362895579 : Int64) (own_gc y0 y1)) (own_gc y2 y3))), .second, .val (.int 1)]) X266 hx (hb hby d11_26) rfl ?_
  refine own_iinc (l' := #[.val (.ref a), .val (.long (own_hs (own_hs (-3750763034362895579 : Int64) (own_gc y0 y1)) (own_gc y2 y3))), .second, .val (.int ((1 : Int32) + (1 : Int32)))]) X266 hx (hb hby d11_27) rfl rfl ?_
  rw [show ((1 : Int32) + (1 : Int32)) = (2 : Int32) from by decide]
  refine own_goto X266 hx 6 (hb hby d11_30) (by decide) (by decide) ?_
  refine own_iloadN X266 hx (hb hby d11_6) rfl ?_
  refine own_aloadN X266 hx (hb hby d11_7) rfl rfl ?_
  refine own_cVirt (W := 1) (rest := [(.int 2)]) X266 hx hZ [] hown (own_m hw 68 rfl) (own_m hw 69 rfl) (notFace_of_selects (args := #[]) (mvT hZ (own_m hw 71 rfl))) (own_m hw 71 rfl) (own_m hw 70 rfl) (by decide) (own_m hw 72 rfl) (own_m hw 7 rfl) e266 Ea (rmLn_1_2 l Z a0 hw [] a b kb cs fm y0 y1 y2 y3 h0 n0 Z0 Sc hcs Sad Shi Slo Sf hfm Ea Fv Fc Vb) (by rw [hml]; rfl) (lenOf pd_10 rfl) rfl (Nat.le_of_eq rfl) (hb hby d11_8) (by decide) (by decide) (by decide) (by decide) fun v267 T267 L267 X267 hQ267 => ?_
  obtain ⟨rfl, N267q, e267⟩ := hQ267
  have N267 := Fr.app N266 N267q
  show own_At p e below _ T267 m 11 _ [(.int 2), (.int 2)]
  refine own_icmpYes X267 hx 33 (hb hby d11_11) (flt (by decide : ¬ ((2 : Int32) < (2 : Int32)))).2.1 (by decide) (by decide) ?_
  refine own_lloadN X267 hx (hb hby d11_33) rfl ?_
  refine own_lloadN X267 hx (hb hby d11_34) rfl ?_
  refine own_bipush X267 hx 33 (hb hby d11_35) rfl ?_
  refine own_lushr X267 hx (hb hby d11_37) ?_
  refine own_lxor X267 hx (hb hby d11_38) ?_
  refine own_ldcL X267 hx hZ hown (own_m hw 101 rfl) (hb hby d11_39) ?_
  refine own_lmul X267 hx (hb hby d11_42) ?_
  rw [show (((own_hs (own_hs (-3750763034362895579 : Int64) (own_gc y0 y1)) (own_gc y2 y3)) ^^^ (((own_hs (own_hs (-3750763034362895579 : Int64) (own_gc y0 y1)) (own_gc y2 y3)).toUInt64 >>> ((33 : Int32) &&& 0x3f).toInt64.toUInt64).toInt64)) * (-49064778989728563 : Int64)) = (own_m1 (own_hs (own_hs (-3750763034362895579 : Int64) (own_gc y0 y1)) (own_gc y2 y3))) from rfl]
  refine own_lstoreN (l' := #[.val (.ref a), .val (.long (own_m1 (own_hs (own_hs (-3750763034362895579 : Int64) (own_gc y0 y1)) (own_gc y2 y3)))), .second, .val (.int 2)]) X267 hx (hb hby d11_43) rfl ?_
  refine own_lloadN X267 hx (hb hby d11_44) rfl ?_
  refine own_lloadN X267 hx (hb hby d11_45) rfl ?_
  refine own_bipush X267 hx 33 (hb hby d11_46) rfl ?_
  refine own_lushr X267 hx (hb hby d11_48) ?_
  refine own_lxor X267 hx (hb hby d11_49) ?_
  refine own_ldcL X267 hx hZ hown (own_m hw 102 rfl) (hb hby d11_50) ?_
  refine own_lmul X267 hx (hb hby d11_53) ?_
  rw [show (((own_m1 (own_hs (own_hs (-3750763034362895579 : Int64) (own_gc y0 y1)) (own_gc y2 y3))) ^^^ (((own_m1 (own_hs (own_hs (-3750763034362895579 : Int64) (own_gc y0 y1)) (own_gc y2 y3))).toUInt64 >>> ((33 : Int32) &&& 0x3f).toInt64.toUInt64).toInt64)) * (-4265267296055464877 : Int64)) = (own_m2 (own_m1 (own_hs (own_hs (-3750763034362895579 : Int64) (own_gc y0 y1)) (own_gc y2 y3)))) from rfl]
  refine own_lstoreN (l' := #[.val (.ref a), .val (.long (own_m2 (own_m1 (own_hs (own_hs (-3750763034362895579 : Int64) (own_gc y0 y1)) (own_gc y2 y3))))), .second, .val (.int 2)]) X267 hx (hb hby d11_54) rfl ?_
  refine own_lloadN X267 hx (hb hby d11_55) rfl ?_
  refine own_lloadN X267 hx (hb hby d11_56) rfl ?_
  refine own_bipush X267 hx 33 (hb hby d11_57) rfl ?_
  refine own_lushr X267 hx (hb hby d11_59) ?_
  refine own_lxor X267 hx (hb hby d11_60) ?_
  rw [show ((own_m2 (own_m1 (own_hs (own_hs (-3750763034362895579 : Int64) (own_gc y0 y1)) (own_gc y2 y3)))) ^^^ (((own_m2 (own_m1 (own_hs (own_hs (-3750763034362895579 : Int64) (own_gc y0 y1)) (own_gc y2 y3)))).toUInt64 >>> ((33 : Int32) &&& 0x3f).toInt64.toUInt64).toInt64)) = (own_m3 (own_m2 (own_m1 (own_hs (own_hs (-3750763034362895579 : Int64) (own_gc y0 y1)) (own_gc y2 y3))))) from rfl]
  refine own_retL X267 hx hlk hret (hb hby d11_61) (own_kN (by decide) (by decide) ?_)
  try rw [e267]
  exact ⟨rfl, N267, rfl⟩
set_option maxRecDepth 65536 in
set_option maxHeartbeats 40000000 in
theorem rmLn_1_3 (l : Launch) (Z : State) (a0 : Array Value) (hw : own_Wd a0 Z) (ws : List Jvm.Cond) (a b : Addr) (kb : ClassId) (cs : Int32) (fm : Value) (y0 y1 y2 y3 y4 y5 : Int32)  (h0 : Heap) (n0 : Nat) (Z0 : n0 ≤ h0.size) (Sc : Sta Z h0 "java/lang/String" "COMPACT_STRINGS" "Z" (.int cs)) (hcs : ¬ (cs = (0 : Int32))) (Sad : Sta Z h0 "java/lang/StringUTF16" "$assertionsDisabled" "Z" (.int 1)) (Shi : Sta Z h0 "java/lang/StringUTF16" "HI_BYTE_SHIFT" "I" (.int 0)) (Slo : Sta Z h0 "java/lang/StringUTF16" "LO_BYTE_SHIFT" "I" (.int 8)) (Sf : Sta Z h0 "jdk/internal/util/Preconditions" "SIOOBE_FORMATTER" "Ljava/util/function/BiFunction;" fm) (hfm : fm.isRef = true) (Ea : Exa Z h0 a "java/lang/String") (Fv : Fld Z h0 a "java/lang/String" "value" "[B" (.ref b)) (Fc : Fld Z h0 a "java/lang/String" "coder" "B" (.int 1)) (Vb : Arv Z h0 b kb .byte (6 : Int32) [(.int y0), (.int y1), (.int y2), (.int y3), (.int y4), (.int y5)] (.int 0)) :
    own_Met l (⟨"java/lang/String", "length", "()I"⟩ : MethodName) jdk_42_method_54_code 1 (some .int) ws ({ frames := 1, cells := 0, slots := 0, locals := 13 } : Room) Z #[(.ref a)] h0 (fun v h L => v = some (.int 3) ∧ Fr n0 L ∧ h = h0) := by
  refine own_body (plainFor_of_name pn_1) ?_
  intro p e s m below meth c s₁ X0 hx hby hml hown hnm hret hlk hZ e0
  replace hown : s.vm.findClass "java/lang/String" = some m.cls := hown
  replace hml : c.maxLocals = 1 := hml
  replace hret : meth.sig.returnType = (some .int) := hret
  have N0 := Fr.nil n0
  refine own_ef (L0 := #[.val (.ref a)]) (by first | (simp [entryFrame, mkF, argsToLocals, Value.category]; done) | rfl) ?_
  refine own_aloadN X0 hx (hb hby d12_0) rfl rfl ?_
  refine own_getF X0 hx hZ hown (host := "") (Or.inl (own_m hw 33 rfl)) Via.refl e0 Fv (hb hby d12_1) fun T268 X268 e268 => ?_
  refine own_arraylength X268 hx hZ e268 (own_alnV Vb) (hb hby d12_4) ?_
  refine own_aloadN X268 hx (hb hby d12_5) rfl rfl ?_
  refine own_cVirt (W := 1) (rest := [(.int 6)]) X268 hx hZ [] hown (own_m hw 73 rfl) (own_m hw 74 rfl) (notFace_of_selects (args := #[]) (mvT hZ (own_m hw 76 rfl))) (own_m hw 76 rfl) (own_m hw 75 rfl) (by decide) (own_m hw 77 rfl) (own_m hw 7 rfl) e268 Ea (rmCdu l Z a0 hw [] a cs h0 n0 Z0 Sc hcs Fc) (by rw [hml]; rfl) (lenOf pd_9 rfl) rfl (Nat.le_of_eq rfl) (hb hby d12_6) (by decide) (by decide) (by decide) (by decide) fun v269 T269 L269 X269 hQ269 => ?_
  obtain ⟨rfl, N269q, e269⟩ := hQ269
  have N269 := Fr.app N0 N269q
  show own_At p e below _ T269 m 9 _ [(.int 1), (.int 6)]
  refine own_ishr X269 hx (hb hby d12_9) ?_
  rw [show ((6 : Int32) >>> ((1 : Int32) &&& 31)) = (3 : Int32) from by decide]
  refine own_retI X269 hx hlk hret (hb hby d12_10) (own_kN (by decide) (by decide) ?_)
  try rw [e269]
  exact ⟨rfl, N269, rfl⟩
set_option maxRecDepth 65536 in
set_option maxHeartbeats 40000000 in
theorem rmUl_3 (l : Launch) (Z : State) (a0 : Array Value) (hw : own_Wd a0 Z) (ws : List Jvm.Cond) (b : Addr)  (h0 : Heap) (n0 : Nat) (Z0 : n0 ≤ h0.size) (A : own_Aln Z h0 b .byte (6 : Int32)) :
    own_Met l (⟨"java/lang/StringUTF16", "length", "([B)I"⟩ : MethodName) jdk_52_method_6_code 1 (some .int) ws ({ frames := 0, cells := 0, slots := 0, locals := 0 } : Room) Z #[(.ref b)] h0 (fun v h L => v = some (.int 3) ∧ Fr n0 L ∧ h = h0) := by
  refine own_body (plainFor_of_name pn_0) ?_
  intro p e s m below meth c s₁ X0 hx hby hml hown hnm hret hlk hZ e0
  replace hown : s.vm.findClass "java/lang/StringUTF16" = some m.cls := hown
  replace hml : c.maxLocals = 1 := hml
  replace hret : meth.sig.returnType = (some .int) := hret
  have N0 := Fr.nil n0
  refine own_ef (L0 := #[.val (.ref b)]) (by first | (simp [entryFrame, mkF, argsToLocals, Value.category]; done) | rfl) ?_
  refine own_aloadN X0 hx (hb hby d26_0) rfl rfl ?_
  refine own_arraylength X0 hx hZ e0 A (hb hby d26_1) ?_
  refine own_iconst X0 hx 1 (hb hby d26_2) rfl ?_
  refine own_ishr X0 hx (hb hby d26_3) ?_
  rw [show ((6 : Int32) >>> ((1 : Int32) &&& 31)) = (3 : Int32) from by decide]
  refine own_retI X0 hx hlk hret (hb hby d26_4) (own_kN (by decide) (by decide) ?_)
  try rw [e0]
  exact ⟨rfl, N0, rfl⟩
set_option maxRecDepth 65536 in
set_option maxHeartbeats 40000000 in
theorem rmUci_1_3_0 (l : Launch) (Z : State) (a0 : Array Value) (hw : own_Wd a0 Z) (ws : List Jvm.Cond) (a b : Addr) (kb : ClassId) (cs : Int32) (fm : Value) (y0 y1 y2 y3 y4 y5 : Int32)  (h0 : Heap) (n0 : Nat) (Z0 : n0 ≤ h0.size) (Sc : Sta Z h0 "java/lang/String" "COMPACT_STRINGS" "Z" (.int cs)) (hcs : ¬ (cs = (0 : Int32))) (Sad : Sta Z h0 "java/lang/StringUTF16" "$assertionsDisabled" "Z" (.int 1)) (Shi : Sta Z h0 "java/lang/StringUTF16" "HI_BYTE_SHIFT" "I" (.int 0)) (Slo : Sta Z h0 "java/lang/StringUTF16" "LO_BYTE_SHIFT" "I" (.int 8)) (Sf : Sta Z h0 "jdk/internal/util/Preconditions" "SIOOBE_FORMATTER" "Ljava/util/function/BiFunction;" fm) (hfm : fm.isRef = true) (Ea : Exa Z h0 a "java/lang/String") (Fv : Fld Z h0 a "java/lang/String" "value" "[B" (.ref b)) (Fc : Fld Z h0 a "java/lang/String" "coder" "B" (.int 1)) (Vb : Arv Z h0 b kb .byte (6 : Int32) [(.int y0), (.int y1), (.int y2), (.int y3), (.int y4), (.int y5)] (.int 0)) :
    own_Met l (⟨"java/lang/StringUTF16", "checkIndex", "(I[B)V"⟩ : MethodName) jdk_52_method_91_code 2 none ws ({ frames := 2, cells := 0, slots := 0, locals := 27 } : Room) Z #[(.int 0), (.ref b)] h0 (fun v h L => v = none ∧ Fr n0 L ∧ h = h0) := by
  refine own_body (plainFor_of_name pn_0) ?_
  intro p e s m below meth c s₁ X0 hx hby hml hown hnm hret hlk hZ e0
  replace hown : s.vm.findClass "java/lang/StringUTF16" = some m.cls := hown
  replace hml : c.maxLocals = 2 := hml
  replace hret : meth.sig.returnType = none := hret
  have N0 := Fr.nil n0
  refine own_ef (L0 := #[.val (.int 0), .val (.ref b)]) (by first | (simp [entryFrame, mkF, argsToLocals, Value.category]; done) | rfl) ?_
  refine own_iloadN X0 hx (hb hby d25_0) rfl ?_
  refine own_aloadN X0 hx (hb hby d25_1) rfl rfl ?_
  refine own_cStat (W := 1) (rest := [(.int 0)]) X0 hx hZ [(.ref b)] hown (own_m hw 128 rfl) (own_m hw 129 rfl) (by decide) (own_m hw 130 rfl) (own_m hw 22 rfl) e0 (rmUl_3 l Z a0 hw [] b h0 n0 Z0 (own_alnV Vb)) (by rw [hml]; rfl) (lenOf pd_14 rfl) rfl (Nat.le_of_eq rfl) (hb hby d25_2) (by decide) (by decide) (by decide) (by decide) fun v270 T270 L270 X270 hQ270 => ?_
  obtain ⟨rfl, N270q, e270⟩ := hQ270
  have N270 := Fr.app N0 N270q
  show own_At p e below _ T270 m 5 _ [(.int 3), (.int 0)]
  refine own_cStat (W := 0) (rest := []) X270 hx hZ [(.int 0), (.int 3)] hown (own_m hw 131 rfl) (own_m hw 93 rfl) (by decide) (own_m hw 94 rfl) (own_m hw 7 rfl) e270 (rmSCI l Z a0 hw [] fm (0 : Int32) (3 : Int32) h0 n0 Z0 Sf hfm (by decide) (by decide)) (by rw [hml]; rfl) (lenOf pd_11 rfl) rfl (Nat.le_of_eq rfl) (hb hby d25_5) (by decide) (by decide) (by decide) (by decide) fun v271 T271 L271 X271 hQ271 => ?_
  obtain ⟨rfl, N271q, e271⟩ := hQ271
  have N271 := Fr.app N270 N271q
  show own_At p e below _ T271 m 8 _ []
  refine own_retV X271 hx hlk hret (hb hby d25_8) (own_kN (by decide) (by decide) ?_)
  try rw [e271]
  exact ⟨rfl, N271, rfl⟩
set_option maxRecDepth 65536 in
set_option maxHeartbeats 40000000 in
theorem rmXc_1_3_0 (l : Launch) (Z : State) (a0 : Array Value) (hw : own_Wd a0 Z) (ws : List Jvm.Cond) (a b : Addr) (kb : ClassId) (cs : Int32) (fm : Value) (y0 y1 y2 y3 y4 y5 : Int32)  (h0 : Heap) (n0 : Nat) (Z0 : n0 ≤ h0.size) (Sc : Sta Z h0 "java/lang/String" "COMPACT_STRINGS" "Z" (.int cs)) (hcs : ¬ (cs = (0 : Int32))) (Sad : Sta Z h0 "java/lang/StringUTF16" "$assertionsDisabled" "Z" (.int 1)) (Shi : Sta Z h0 "java/lang/StringUTF16" "HI_BYTE_SHIFT" "I" (.int 0)) (Slo : Sta Z h0 "java/lang/StringUTF16" "LO_BYTE_SHIFT" "I" (.int 8)) (Sf : Sta Z h0 "jdk/internal/util/Preconditions" "SIOOBE_FORMATTER" "Ljava/util/function/BiFunction;" fm) (hfm : fm.isRef = true) (Ea : Exa Z h0 a "java/lang/String") (Fv : Fld Z h0 a "java/lang/String" "value" "[B" (.ref b)) (Fc : Fld Z h0 a "java/lang/String" "coder" "B" (.int 1)) (Vb : Arv Z h0 b kb .byte (6 : Int32) [(.int y0), (.int y1), (.int y2), (.int y3), (.int y4), (.int y5)] (.int 0)) :
    own_Met l (⟨"java/lang/StringUTF16", "charAt", "([BI)C"⟩ : MethodName) jdk_52_method_83_code 2 (some .char) ws ({ frames := 3, cells := 0, slots := 0, locals := 40 } : Room) Z #[(.ref b), (.int 0)] h0 (fun v h L => v = some (.int (own_gc y0 y1)) ∧ Fr n0 L ∧ h = h0) := by
  refine own_body (plainFor_of_name pn_0) ?_
  intro p e s m below meth c s₁ X0 hx hby hml hown hnm hret hlk hZ e0
  replace hown : s.vm.findClass "java/lang/StringUTF16" = some m.cls := hown
  replace hml : c.maxLocals = 2 := hml
  replace hret : meth.sig.returnType = (some .char) := hret
  have N0 := Fr.nil n0
  refine own_ef (L0 := #[.val (.ref b), .val (.int 0)]) (by first | (simp [entryFrame, mkF, argsToLocals, Value.category]; done) | rfl) ?_
  refine own_iloadN X0 hx (hb hby d24_0) rfl ?_
  refine own_aloadN X0 hx (hb hby d24_1) rfl rfl ?_
  refine own_cStat (W := 0) (rest := []) X0 hx hZ [(.int 0), (.ref b)] hown (own_m hw 125 rfl) (own_m hw 126 rfl) (by decide) (own_m hw 127 rfl) (own_m hw 22 rfl) e0 (rmUci_1_3_0 l Z a0 hw [] a b kb cs fm y0 y1 y2 y3 y4 y5 h0 n0 Z0 Sc hcs Sad Shi Slo Sf hfm Ea Fv Fc Vb) (by rw [hml]; rfl) (lenOf pd_15 rfl) rfl (Nat.le_of_eq rfl) (hb hby d24_2) (by decide) (by decide) (by decide) (by decide) fun v272 T272 L272 X272 hQ272 => ?_
  obtain ⟨rfl, N272q, e272⟩ := hQ272
  have N272 := Fr.app N0 N272q
  show own_At p e below _ T272 m 5 _ []
  refine own_aloadN X272 hx (hb hby d24_5) rfl rfl ?_
  refine own_iloadN X272 hx (hb hby d24_6) rfl ?_
  refine own_cStat (W := 0) (rest := []) X272 hx hZ [(.ref b), (.int 0)] hown (own_m hw 119 rfl) (own_m hw 120 rfl) (by decide) (own_m hw 121 rfl) (own_m hw 22 rfl) e272 (rmGet_3_0 l Z a0 hw [] b kb y0 y1 y2 y3 y4 y5 h0 n0 Z0 Sad Shi Slo Vb) (by rw [hml]; rfl) (lenOf pd_7 rfl) rfl (Nat.le_of_eq rfl) (hb hby d24_7) (by decide) (by decide) (by decide) (by decide) fun v273 T273 L273 X273 hQ273 => ?_
  obtain ⟨rfl, N273q, e273⟩ := hQ273
  have N273 := Fr.app N272 N273q
  show own_At p e below _ T273 m 10 _ [(.int (own_gc y0 y1))]
  refine own_retN X273 hx hlk hret (by simp) (own_nargc _ _) (hb hby d24_10) (own_kN (by decide) (by decide) ?_)
  try rw [e273]
  exact ⟨rfl, N273, rfl⟩
set_option maxRecDepth 65536 in
set_option maxHeartbeats 40000000 in
theorem rmCA_1_3_0 (l : Launch) (Z : State) (a0 : Array Value) (hw : own_Wd a0 Z) (ws : List Jvm.Cond) (a b : Addr) (kb : ClassId) (cs : Int32) (fm : Value) (y0 y1 y2 y3 y4 y5 : Int32)  (h0 : Heap) (n0 : Nat) (Z0 : n0 ≤ h0.size) (Sc : Sta Z h0 "java/lang/String" "COMPACT_STRINGS" "Z" (.int cs)) (hcs : ¬ (cs = (0 : Int32))) (Sad : Sta Z h0 "java/lang/StringUTF16" "$assertionsDisabled" "Z" (.int 1)) (Shi : Sta Z h0 "java/lang/StringUTF16" "HI_BYTE_SHIFT" "I" (.int 0)) (Slo : Sta Z h0 "java/lang/StringUTF16" "LO_BYTE_SHIFT" "I" (.int 8)) (Sf : Sta Z h0 "jdk/internal/util/Preconditions" "SIOOBE_FORMATTER" "Ljava/util/function/BiFunction;" fm) (hfm : fm.isRef = true) (Ea : Exa Z h0 a "java/lang/String") (Fv : Fld Z h0 a "java/lang/String" "value" "[B" (.ref b)) (Fc : Fld Z h0 a "java/lang/String" "coder" "B" (.int 1)) (Vb : Arv Z h0 b kb .byte (6 : Int32) [(.int y0), (.int y1), (.int y2), (.int y3), (.int y4), (.int y5)] (.int 0)) :
    own_Met l (⟨"java/lang/String", "charAt", "(I)C"⟩ : MethodName) jdk_42_method_56_code 2 (some .char) ws ({ frames := 4, cells := 0, slots := 0, locals := 53 } : Room) Z #[(.ref a), (.int 0)] h0 (fun v h L => v = some (.int (own_gc y0 y1)) ∧ Fr n0 L ∧ h = h0) := by
  refine own_body (plainFor_of_name pn_1) ?_
  intro p e s m below meth c s₁ X0 hx hby hml hown hnm hret hlk hZ e0
  replace hown : s.vm.findClass "java/lang/String" = some m.cls := hown
  replace hml : c.maxLocals = 2 := hml
  replace hret : meth.sig.returnType = (some .char) := hret
  have N0 := Fr.nil n0
  refine own_ef (L0 := #[.val (.ref a), .val (.int 0)]) (by first | (simp [entryFrame, mkF, argsToLocals, Value.category]; done) | rfl) ?_
  refine own_aloadN X0 hx (hb hby d14_0) rfl rfl ?_
  refine own_cVirt (W := 0) (rest := []) X0 hx hZ [] hown (own_m hw 83 rfl) (own_m hw 84 rfl) (notFace_of_selects (args := #[]) (mvT hZ (own_m hw 86 rfl))) (own_m hw 86 rfl) (own_m hw 85 rfl) (by decide) (own_m hw 87 rfl) (own_m hw 7 rfl) e0 Ea (rmLu l Z a0 hw [] a cs h0 n0 Z0 Sc hcs Fc) (by rw [hml]; rfl) (lenOf pd_12 rfl) rfl (Nat.le_of_eq rfl) (hb hby d14_1) (by decide) (by decide) (by decide) (by decide) fun v274 T274 L274 X274 hQ274 => ?_
  obtain ⟨rfl, N274q, e274⟩ := hQ274
  have N274 := Fr.app N0 N274q
  show own_At p e below _ T274 m 4 _ [(.int 0)]
  refine own_ifYes X274 hx 16 (hb hby d14_4) (teq (by decide : (0 : Int32) = (0 : Int32))).1 (by decide) (by decide) ?_
  refine own_aloadN X274 hx (hb hby d14_16) rfl rfl ?_
  refine own_getF X274 hx hZ hown (host := "") (Or.inl (own_m hw 33 rfl)) Via.refl e274 Fv (hb hby d14_17) fun T275 X275 e275 => ?_
  refine own_iloadN X275 hx (hb hby d14_20) rfl ?_
  refine own_cStat (W := 0) (rest := []) X275 hx hZ [(.ref b), (.int 0)] hown (own_m hw 122 rfl) (own_m hw 123 rfl) (by decide) (own_m hw 124 rfl) (own_m hw 22 rfl) e275 (rmXc_1_3_0 l Z a0 hw [] a b kb cs fm y0 y1 y2 y3 y4 y5 h0 n0 Z0 Sc hcs Sad Shi Slo Sf hfm Ea Fv Fc Vb) (by rw [hml]; rfl) (lenOf pd_7 rfl) rfl (Nat.le_of_eq rfl) (hb hby d14_21) (by decide) (by decide) (by decide) (by decide) fun v276 T276 L276 X276 hQ276 => ?_
  obtain ⟨rfl, N276q, e276⟩ := hQ276
  have N276 := Fr.app N274 N276q
  show own_At p e below _ T276 m 24 _ [(.int (own_gc y0 y1))]
  refine own_retN X276 hx hlk hret (by simp) (own_nargc _ _) (hb hby d14_24) (own_kN (by decide) (by decide) ?_)
  try rw [e276]
  exact ⟨rfl, N276, rfl⟩
set_option maxRecDepth 65536 in
set_option maxHeartbeats 40000000 in
theorem rmUci_1_3_1 (l : Launch) (Z : State) (a0 : Array Value) (hw : own_Wd a0 Z) (ws : List Jvm.Cond) (a b : Addr) (kb : ClassId) (cs : Int32) (fm : Value) (y0 y1 y2 y3 y4 y5 : Int32)  (h0 : Heap) (n0 : Nat) (Z0 : n0 ≤ h0.size) (Sc : Sta Z h0 "java/lang/String" "COMPACT_STRINGS" "Z" (.int cs)) (hcs : ¬ (cs = (0 : Int32))) (Sad : Sta Z h0 "java/lang/StringUTF16" "$assertionsDisabled" "Z" (.int 1)) (Shi : Sta Z h0 "java/lang/StringUTF16" "HI_BYTE_SHIFT" "I" (.int 0)) (Slo : Sta Z h0 "java/lang/StringUTF16" "LO_BYTE_SHIFT" "I" (.int 8)) (Sf : Sta Z h0 "jdk/internal/util/Preconditions" "SIOOBE_FORMATTER" "Ljava/util/function/BiFunction;" fm) (hfm : fm.isRef = true) (Ea : Exa Z h0 a "java/lang/String") (Fv : Fld Z h0 a "java/lang/String" "value" "[B" (.ref b)) (Fc : Fld Z h0 a "java/lang/String" "coder" "B" (.int 1)) (Vb : Arv Z h0 b kb .byte (6 : Int32) [(.int y0), (.int y1), (.int y2), (.int y3), (.int y4), (.int y5)] (.int 0)) :
    own_Met l (⟨"java/lang/StringUTF16", "checkIndex", "(I[B)V"⟩ : MethodName) jdk_52_method_91_code 2 none ws ({ frames := 2, cells := 0, slots := 0, locals := 27 } : Room) Z #[(.int 1), (.ref b)] h0 (fun v h L => v = none ∧ Fr n0 L ∧ h = h0) := by
  refine own_body (plainFor_of_name pn_0) ?_
  intro p e s m below meth c s₁ X0 hx hby hml hown hnm hret hlk hZ e0
  replace hown : s.vm.findClass "java/lang/StringUTF16" = some m.cls := hown
  replace hml : c.maxLocals = 2 := hml
  replace hret : meth.sig.returnType = none := hret
  have N0 := Fr.nil n0
  refine own_ef (L0 := #[.val (.int 1), .val (.ref b)]) (by first | (simp [entryFrame, mkF, argsToLocals, Value.category]; done) | rfl) ?_
  refine own_iloadN X0 hx (hb hby d25_0) rfl ?_
  refine own_aloadN X0 hx (hb hby d25_1) rfl rfl ?_
  refine own_cStat (W := 1) (rest := [(.int 1)]) X0 hx hZ [(.ref b)] hown (own_m hw 128 rfl) (own_m hw 129 rfl) (by decide) (own_m hw 130 rfl) (own_m hw 22 rfl) e0 (rmUl_3 l Z a0 hw [] b h0 n0 Z0 (own_alnV Vb)) (by rw [hml]; rfl) (lenOf pd_14 rfl) rfl (Nat.le_of_eq rfl) (hb hby d25_2) (by decide) (by decide) (by decide) (by decide) fun v277 T277 L277 X277 hQ277 => ?_
  obtain ⟨rfl, N277q, e277⟩ := hQ277
  have N277 := Fr.app N0 N277q
  show own_At p e below _ T277 m 5 _ [(.int 3), (.int 1)]
  refine own_cStat (W := 0) (rest := []) X277 hx hZ [(.int 1), (.int 3)] hown (own_m hw 131 rfl) (own_m hw 93 rfl) (by decide) (own_m hw 94 rfl) (own_m hw 7 rfl) e277 (rmSCI l Z a0 hw [] fm (1 : Int32) (3 : Int32) h0 n0 Z0 Sf hfm (by decide) (by decide)) (by rw [hml]; rfl) (lenOf pd_11 rfl) rfl (Nat.le_of_eq rfl) (hb hby d25_5) (by decide) (by decide) (by decide) (by decide) fun v278 T278 L278 X278 hQ278 => ?_
  obtain ⟨rfl, N278q, e278⟩ := hQ278
  have N278 := Fr.app N277 N278q
  show own_At p e below _ T278 m 8 _ []
  refine own_retV X278 hx hlk hret (hb hby d25_8) (own_kN (by decide) (by decide) ?_)
  try rw [e278]
  exact ⟨rfl, N278, rfl⟩
set_option maxRecDepth 65536 in
set_option maxHeartbeats 40000000 in
theorem rmXc_1_3_1 (l : Launch) (Z : State) (a0 : Array Value) (hw : own_Wd a0 Z) (ws : List Jvm.Cond) (a b : Addr) (kb : ClassId) (cs : Int32) (fm : Value) (y0 y1 y2 y3 y4 y5 : Int32)  (h0 : Heap) (n0 : Nat) (Z0 : n0 ≤ h0.size) (Sc : Sta Z h0 "java/lang/String" "COMPACT_STRINGS" "Z" (.int cs)) (hcs : ¬ (cs = (0 : Int32))) (Sad : Sta Z h0 "java/lang/StringUTF16" "$assertionsDisabled" "Z" (.int 1)) (Shi : Sta Z h0 "java/lang/StringUTF16" "HI_BYTE_SHIFT" "I" (.int 0)) (Slo : Sta Z h0 "java/lang/StringUTF16" "LO_BYTE_SHIFT" "I" (.int 8)) (Sf : Sta Z h0 "jdk/internal/util/Preconditions" "SIOOBE_FORMATTER" "Ljava/util/function/BiFunction;" fm) (hfm : fm.isRef = true) (Ea : Exa Z h0 a "java/lang/String") (Fv : Fld Z h0 a "java/lang/String" "value" "[B" (.ref b)) (Fc : Fld Z h0 a "java/lang/String" "coder" "B" (.int 1)) (Vb : Arv Z h0 b kb .byte (6 : Int32) [(.int y0), (.int y1), (.int y2), (.int y3), (.int y4), (.int y5)] (.int 0)) :
    own_Met l (⟨"java/lang/StringUTF16", "charAt", "([BI)C"⟩ : MethodName) jdk_52_method_83_code 2 (some .char) ws ({ frames := 3, cells := 0, slots := 0, locals := 40 } : Room) Z #[(.ref b), (.int 1)] h0 (fun v h L => v = some (.int (own_gc y2 y3)) ∧ Fr n0 L ∧ h = h0) := by
  refine own_body (plainFor_of_name pn_0) ?_
  intro p e s m below meth c s₁ X0 hx hby hml hown hnm hret hlk hZ e0
  replace hown : s.vm.findClass "java/lang/StringUTF16" = some m.cls := hown
  replace hml : c.maxLocals = 2 := hml
  replace hret : meth.sig.returnType = (some .char) := hret
  have N0 := Fr.nil n0
  refine own_ef (L0 := #[.val (.ref b), .val (.int 1)]) (by first | (simp [entryFrame, mkF, argsToLocals, Value.category]; done) | rfl) ?_
  refine own_iloadN X0 hx (hb hby d24_0) rfl ?_
  refine own_aloadN X0 hx (hb hby d24_1) rfl rfl ?_
  refine own_cStat (W := 0) (rest := []) X0 hx hZ [(.int 1), (.ref b)] hown (own_m hw 125 rfl) (own_m hw 126 rfl) (by decide) (own_m hw 127 rfl) (own_m hw 22 rfl) e0 (rmUci_1_3_1 l Z a0 hw [] a b kb cs fm y0 y1 y2 y3 y4 y5 h0 n0 Z0 Sc hcs Sad Shi Slo Sf hfm Ea Fv Fc Vb) (by rw [hml]; rfl) (lenOf pd_15 rfl) rfl (Nat.le_of_eq rfl) (hb hby d24_2) (by decide) (by decide) (by decide) (by decide) fun v279 T279 L279 X279 hQ279 => ?_
  obtain ⟨rfl, N279q, e279⟩ := hQ279
  have N279 := Fr.app N0 N279q
  show own_At p e below _ T279 m 5 _ []
  refine own_aloadN X279 hx (hb hby d24_5) rfl rfl ?_
  refine own_iloadN X279 hx (hb hby d24_6) rfl ?_
  refine own_cStat (W := 0) (rest := []) X279 hx hZ [(.ref b), (.int 1)] hown (own_m hw 119 rfl) (own_m hw 120 rfl) (by decide) (own_m hw 121 rfl) (own_m hw 22 rfl) e279 (rmGet_3_1 l Z a0 hw [] b kb y0 y1 y2 y3 y4 y5 h0 n0 Z0 Sad Shi Slo Vb) (by rw [hml]; rfl) (lenOf pd_7 rfl) rfl (Nat.le_of_eq rfl) (hb hby d24_7) (by decide) (by decide) (by decide) (by decide) fun v280 T280 L280 X280 hQ280 => ?_
  obtain ⟨rfl, N280q, e280⟩ := hQ280
  have N280 := Fr.app N279 N280q
  show own_At p e below _ T280 m 10 _ [(.int (own_gc y2 y3))]
  refine own_retN X280 hx hlk hret (by simp) (own_nargc _ _) (hb hby d24_10) (own_kN (by decide) (by decide) ?_)
  try rw [e280]
  exact ⟨rfl, N280, rfl⟩
set_option maxRecDepth 65536 in
set_option maxHeartbeats 40000000 in
theorem rmCA_1_3_1 (l : Launch) (Z : State) (a0 : Array Value) (hw : own_Wd a0 Z) (ws : List Jvm.Cond) (a b : Addr) (kb : ClassId) (cs : Int32) (fm : Value) (y0 y1 y2 y3 y4 y5 : Int32)  (h0 : Heap) (n0 : Nat) (Z0 : n0 ≤ h0.size) (Sc : Sta Z h0 "java/lang/String" "COMPACT_STRINGS" "Z" (.int cs)) (hcs : ¬ (cs = (0 : Int32))) (Sad : Sta Z h0 "java/lang/StringUTF16" "$assertionsDisabled" "Z" (.int 1)) (Shi : Sta Z h0 "java/lang/StringUTF16" "HI_BYTE_SHIFT" "I" (.int 0)) (Slo : Sta Z h0 "java/lang/StringUTF16" "LO_BYTE_SHIFT" "I" (.int 8)) (Sf : Sta Z h0 "jdk/internal/util/Preconditions" "SIOOBE_FORMATTER" "Ljava/util/function/BiFunction;" fm) (hfm : fm.isRef = true) (Ea : Exa Z h0 a "java/lang/String") (Fv : Fld Z h0 a "java/lang/String" "value" "[B" (.ref b)) (Fc : Fld Z h0 a "java/lang/String" "coder" "B" (.int 1)) (Vb : Arv Z h0 b kb .byte (6 : Int32) [(.int y0), (.int y1), (.int y2), (.int y3), (.int y4), (.int y5)] (.int 0)) :
    own_Met l (⟨"java/lang/String", "charAt", "(I)C"⟩ : MethodName) jdk_42_method_56_code 2 (some .char) ws ({ frames := 4, cells := 0, slots := 0, locals := 53 } : Room) Z #[(.ref a), (.int 1)] h0 (fun v h L => v = some (.int (own_gc y2 y3)) ∧ Fr n0 L ∧ h = h0) := by
  refine own_body (plainFor_of_name pn_1) ?_
  intro p e s m below meth c s₁ X0 hx hby hml hown hnm hret hlk hZ e0
  replace hown : s.vm.findClass "java/lang/String" = some m.cls := hown
  replace hml : c.maxLocals = 2 := hml
  replace hret : meth.sig.returnType = (some .char) := hret
  have N0 := Fr.nil n0
  refine own_ef (L0 := #[.val (.ref a), .val (.int 1)]) (by first | (simp [entryFrame, mkF, argsToLocals, Value.category]; done) | rfl) ?_
  refine own_aloadN X0 hx (hb hby d14_0) rfl rfl ?_
  refine own_cVirt (W := 0) (rest := []) X0 hx hZ [] hown (own_m hw 83 rfl) (own_m hw 84 rfl) (notFace_of_selects (args := #[]) (mvT hZ (own_m hw 86 rfl))) (own_m hw 86 rfl) (own_m hw 85 rfl) (by decide) (own_m hw 87 rfl) (own_m hw 7 rfl) e0 Ea (rmLu l Z a0 hw [] a cs h0 n0 Z0 Sc hcs Fc) (by rw [hml]; rfl) (lenOf pd_12 rfl) rfl (Nat.le_of_eq rfl) (hb hby d14_1) (by decide) (by decide) (by decide) (by decide) fun v281 T281 L281 X281 hQ281 => ?_
  obtain ⟨rfl, N281q, e281⟩ := hQ281
  have N281 := Fr.app N0 N281q
  show own_At p e below _ T281 m 4 _ [(.int 0)]
  refine own_ifYes X281 hx 16 (hb hby d14_4) (teq (by decide : (0 : Int32) = (0 : Int32))).1 (by decide) (by decide) ?_
  refine own_aloadN X281 hx (hb hby d14_16) rfl rfl ?_
  refine own_getF X281 hx hZ hown (host := "") (Or.inl (own_m hw 33 rfl)) Via.refl e281 Fv (hb hby d14_17) fun T282 X282 e282 => ?_
  refine own_iloadN X282 hx (hb hby d14_20) rfl ?_
  refine own_cStat (W := 0) (rest := []) X282 hx hZ [(.ref b), (.int 1)] hown (own_m hw 122 rfl) (own_m hw 123 rfl) (by decide) (own_m hw 124 rfl) (own_m hw 22 rfl) e282 (rmXc_1_3_1 l Z a0 hw [] a b kb cs fm y0 y1 y2 y3 y4 y5 h0 n0 Z0 Sc hcs Sad Shi Slo Sf hfm Ea Fv Fc Vb) (by rw [hml]; rfl) (lenOf pd_7 rfl) rfl (Nat.le_of_eq rfl) (hb hby d14_21) (by decide) (by decide) (by decide) (by decide) fun v283 T283 L283 X283 hQ283 => ?_
  obtain ⟨rfl, N283q, e283⟩ := hQ283
  have N283 := Fr.app N281 N283q
  show own_At p e below _ T283 m 24 _ [(.int (own_gc y2 y3))]
  refine own_retN X283 hx hlk hret (by simp) (own_nargc _ _) (hb hby d14_24) (own_kN (by decide) (by decide) ?_)
  try rw [e283]
  exact ⟨rfl, N283, rfl⟩
set_option maxRecDepth 65536 in
set_option maxHeartbeats 40000000 in
theorem rmUci_1_3_2 (l : Launch) (Z : State) (a0 : Array Value) (hw : own_Wd a0 Z) (ws : List Jvm.Cond) (a b : Addr) (kb : ClassId) (cs : Int32) (fm : Value) (y0 y1 y2 y3 y4 y5 : Int32)  (h0 : Heap) (n0 : Nat) (Z0 : n0 ≤ h0.size) (Sc : Sta Z h0 "java/lang/String" "COMPACT_STRINGS" "Z" (.int cs)) (hcs : ¬ (cs = (0 : Int32))) (Sad : Sta Z h0 "java/lang/StringUTF16" "$assertionsDisabled" "Z" (.int 1)) (Shi : Sta Z h0 "java/lang/StringUTF16" "HI_BYTE_SHIFT" "I" (.int 0)) (Slo : Sta Z h0 "java/lang/StringUTF16" "LO_BYTE_SHIFT" "I" (.int 8)) (Sf : Sta Z h0 "jdk/internal/util/Preconditions" "SIOOBE_FORMATTER" "Ljava/util/function/BiFunction;" fm) (hfm : fm.isRef = true) (Ea : Exa Z h0 a "java/lang/String") (Fv : Fld Z h0 a "java/lang/String" "value" "[B" (.ref b)) (Fc : Fld Z h0 a "java/lang/String" "coder" "B" (.int 1)) (Vb : Arv Z h0 b kb .byte (6 : Int32) [(.int y0), (.int y1), (.int y2), (.int y3), (.int y4), (.int y5)] (.int 0)) :
    own_Met l (⟨"java/lang/StringUTF16", "checkIndex", "(I[B)V"⟩ : MethodName) jdk_52_method_91_code 2 none ws ({ frames := 2, cells := 0, slots := 0, locals := 27 } : Room) Z #[(.int 2), (.ref b)] h0 (fun v h L => v = none ∧ Fr n0 L ∧ h = h0) := by
  refine own_body (plainFor_of_name pn_0) ?_
  intro p e s m below meth c s₁ X0 hx hby hml hown hnm hret hlk hZ e0
  replace hown : s.vm.findClass "java/lang/StringUTF16" = some m.cls := hown
  replace hml : c.maxLocals = 2 := hml
  replace hret : meth.sig.returnType = none := hret
  have N0 := Fr.nil n0
  refine own_ef (L0 := #[.val (.int 2), .val (.ref b)]) (by first | (simp [entryFrame, mkF, argsToLocals, Value.category]; done) | rfl) ?_
  refine own_iloadN X0 hx (hb hby d25_0) rfl ?_
  refine own_aloadN X0 hx (hb hby d25_1) rfl rfl ?_
  refine own_cStat (W := 1) (rest := [(.int 2)]) X0 hx hZ [(.ref b)] hown (own_m hw 128 rfl) (own_m hw 129 rfl) (by decide) (own_m hw 130 rfl) (own_m hw 22 rfl) e0 (rmUl_3 l Z a0 hw [] b h0 n0 Z0 (own_alnV Vb)) (by rw [hml]; rfl) (lenOf pd_14 rfl) rfl (Nat.le_of_eq rfl) (hb hby d25_2) (by decide) (by decide) (by decide) (by decide) fun v284 T284 L284 X284 hQ284 => ?_
  obtain ⟨rfl, N284q, e284⟩ := hQ284
  have N284 := Fr.app N0 N284q
  show own_At p e below _ T284 m 5 _ [(.int 3), (.int 2)]
  refine own_cStat (W := 0) (rest := []) X284 hx hZ [(.int 2), (.int 3)] hown (own_m hw 131 rfl) (own_m hw 93 rfl) (by decide) (own_m hw 94 rfl) (own_m hw 7 rfl) e284 (rmSCI l Z a0 hw [] fm (2 : Int32) (3 : Int32) h0 n0 Z0 Sf hfm (by decide) (by decide)) (by rw [hml]; rfl) (lenOf pd_11 rfl) rfl (Nat.le_of_eq rfl) (hb hby d25_5) (by decide) (by decide) (by decide) (by decide) fun v285 T285 L285 X285 hQ285 => ?_
  obtain ⟨rfl, N285q, e285⟩ := hQ285
  have N285 := Fr.app N284 N285q
  show own_At p e below _ T285 m 8 _ []
  refine own_retV X285 hx hlk hret (hb hby d25_8) (own_kN (by decide) (by decide) ?_)
  try rw [e285]
  exact ⟨rfl, N285, rfl⟩
set_option maxRecDepth 65536 in
set_option maxHeartbeats 40000000 in
theorem rmXc_1_3_2 (l : Launch) (Z : State) (a0 : Array Value) (hw : own_Wd a0 Z) (ws : List Jvm.Cond) (a b : Addr) (kb : ClassId) (cs : Int32) (fm : Value) (y0 y1 y2 y3 y4 y5 : Int32)  (h0 : Heap) (n0 : Nat) (Z0 : n0 ≤ h0.size) (Sc : Sta Z h0 "java/lang/String" "COMPACT_STRINGS" "Z" (.int cs)) (hcs : ¬ (cs = (0 : Int32))) (Sad : Sta Z h0 "java/lang/StringUTF16" "$assertionsDisabled" "Z" (.int 1)) (Shi : Sta Z h0 "java/lang/StringUTF16" "HI_BYTE_SHIFT" "I" (.int 0)) (Slo : Sta Z h0 "java/lang/StringUTF16" "LO_BYTE_SHIFT" "I" (.int 8)) (Sf : Sta Z h0 "jdk/internal/util/Preconditions" "SIOOBE_FORMATTER" "Ljava/util/function/BiFunction;" fm) (hfm : fm.isRef = true) (Ea : Exa Z h0 a "java/lang/String") (Fv : Fld Z h0 a "java/lang/String" "value" "[B" (.ref b)) (Fc : Fld Z h0 a "java/lang/String" "coder" "B" (.int 1)) (Vb : Arv Z h0 b kb .byte (6 : Int32) [(.int y0), (.int y1), (.int y2), (.int y3), (.int y4), (.int y5)] (.int 0)) :
    own_Met l (⟨"java/lang/StringUTF16", "charAt", "([BI)C"⟩ : MethodName) jdk_52_method_83_code 2 (some .char) ws ({ frames := 3, cells := 0, slots := 0, locals := 40 } : Room) Z #[(.ref b), (.int 2)] h0 (fun v h L => v = some (.int (own_gc y4 y5)) ∧ Fr n0 L ∧ h = h0) := by
  refine own_body (plainFor_of_name pn_0) ?_
  intro p e s m below meth c s₁ X0 hx hby hml hown hnm hret hlk hZ e0
  replace hown : s.vm.findClass "java/lang/StringUTF16" = some m.cls := hown
  replace hml : c.maxLocals = 2 := hml
  replace hret : meth.sig.returnType = (some .char) := hret
  have N0 := Fr.nil n0
  refine own_ef (L0 := #[.val (.ref b), .val (.int 2)]) (by first | (simp [entryFrame, mkF, argsToLocals, Value.category]; done) | rfl) ?_
  refine own_iloadN X0 hx (hb hby d24_0) rfl ?_
  refine own_aloadN X0 hx (hb hby d24_1) rfl rfl ?_
  refine own_cStat (W := 0) (rest := []) X0 hx hZ [(.int 2), (.ref b)] hown (own_m hw 125 rfl) (own_m hw 126 rfl) (by decide) (own_m hw 127 rfl) (own_m hw 22 rfl) e0 (rmUci_1_3_2 l Z a0 hw [] a b kb cs fm y0 y1 y2 y3 y4 y5 h0 n0 Z0 Sc hcs Sad Shi Slo Sf hfm Ea Fv Fc Vb) (by rw [hml]; rfl) (lenOf pd_15 rfl) rfl (Nat.le_of_eq rfl) (hb hby d24_2) (by decide) (by decide) (by decide) (by decide) fun v286 T286 L286 X286 hQ286 => ?_
  obtain ⟨rfl, N286q, e286⟩ := hQ286
  have N286 := Fr.app N0 N286q
  show own_At p e below _ T286 m 5 _ []
  refine own_aloadN X286 hx (hb hby d24_5) rfl rfl ?_
  refine own_iloadN X286 hx (hb hby d24_6) rfl ?_
  refine own_cStat (W := 0) (rest := []) X286 hx hZ [(.ref b), (.int 2)] hown (own_m hw 119 rfl) (own_m hw 120 rfl) (by decide) (own_m hw 121 rfl) (own_m hw 22 rfl) e286 (rmGet_3_2 l Z a0 hw [] b kb y0 y1 y2 y3 y4 y5 h0 n0 Z0 Sad Shi Slo Vb) (by rw [hml]; rfl) (lenOf pd_7 rfl) rfl (Nat.le_of_eq rfl) (hb hby d24_7) (by decide) (by decide) (by decide) (by decide) fun v287 T287 L287 X287 hQ287 => ?_
  obtain ⟨rfl, N287q, e287⟩ := hQ287
  have N287 := Fr.app N286 N287q
  show own_At p e below _ T287 m 10 _ [(.int (own_gc y4 y5))]
  refine own_retN X287 hx hlk hret (by simp) (own_nargc _ _) (hb hby d24_10) (own_kN (by decide) (by decide) ?_)
  try rw [e287]
  exact ⟨rfl, N287, rfl⟩
set_option maxRecDepth 65536 in
set_option maxHeartbeats 40000000 in
theorem rmCA_1_3_2 (l : Launch) (Z : State) (a0 : Array Value) (hw : own_Wd a0 Z) (ws : List Jvm.Cond) (a b : Addr) (kb : ClassId) (cs : Int32) (fm : Value) (y0 y1 y2 y3 y4 y5 : Int32)  (h0 : Heap) (n0 : Nat) (Z0 : n0 ≤ h0.size) (Sc : Sta Z h0 "java/lang/String" "COMPACT_STRINGS" "Z" (.int cs)) (hcs : ¬ (cs = (0 : Int32))) (Sad : Sta Z h0 "java/lang/StringUTF16" "$assertionsDisabled" "Z" (.int 1)) (Shi : Sta Z h0 "java/lang/StringUTF16" "HI_BYTE_SHIFT" "I" (.int 0)) (Slo : Sta Z h0 "java/lang/StringUTF16" "LO_BYTE_SHIFT" "I" (.int 8)) (Sf : Sta Z h0 "jdk/internal/util/Preconditions" "SIOOBE_FORMATTER" "Ljava/util/function/BiFunction;" fm) (hfm : fm.isRef = true) (Ea : Exa Z h0 a "java/lang/String") (Fv : Fld Z h0 a "java/lang/String" "value" "[B" (.ref b)) (Fc : Fld Z h0 a "java/lang/String" "coder" "B" (.int 1)) (Vb : Arv Z h0 b kb .byte (6 : Int32) [(.int y0), (.int y1), (.int y2), (.int y3), (.int y4), (.int y5)] (.int 0)) :
    own_Met l (⟨"java/lang/String", "charAt", "(I)C"⟩ : MethodName) jdk_42_method_56_code 2 (some .char) ws ({ frames := 4, cells := 0, slots := 0, locals := 53 } : Room) Z #[(.ref a), (.int 2)] h0 (fun v h L => v = some (.int (own_gc y4 y5)) ∧ Fr n0 L ∧ h = h0) := by
  refine own_body (plainFor_of_name pn_1) ?_
  intro p e s m below meth c s₁ X0 hx hby hml hown hnm hret hlk hZ e0
  replace hown : s.vm.findClass "java/lang/String" = some m.cls := hown
  replace hml : c.maxLocals = 2 := hml
  replace hret : meth.sig.returnType = (some .char) := hret
  have N0 := Fr.nil n0
  refine own_ef (L0 := #[.val (.ref a), .val (.int 2)]) (by first | (simp [entryFrame, mkF, argsToLocals, Value.category]; done) | rfl) ?_
  refine own_aloadN X0 hx (hb hby d14_0) rfl rfl ?_
  refine own_cVirt (W := 0) (rest := []) X0 hx hZ [] hown (own_m hw 83 rfl) (own_m hw 84 rfl) (notFace_of_selects (args := #[]) (mvT hZ (own_m hw 86 rfl))) (own_m hw 86 rfl) (own_m hw 85 rfl) (by decide) (own_m hw 87 rfl) (own_m hw 7 rfl) e0 Ea (rmLu l Z a0 hw [] a cs h0 n0 Z0 Sc hcs Fc) (by rw [hml]; rfl) (lenOf pd_12 rfl) rfl (Nat.le_of_eq rfl) (hb hby d14_1) (by decide) (by decide) (by decide) (by decide) fun v288 T288 L288 X288 hQ288 => ?_
  obtain ⟨rfl, N288q, e288⟩ := hQ288
  have N288 := Fr.app N0 N288q
  show own_At p e below _ T288 m 4 _ [(.int 0)]
  refine own_ifYes X288 hx 16 (hb hby d14_4) (teq (by decide : (0 : Int32) = (0 : Int32))).1 (by decide) (by decide) ?_
  refine own_aloadN X288 hx (hb hby d14_16) rfl rfl ?_
  refine own_getF X288 hx hZ hown (host := "") (Or.inl (own_m hw 33 rfl)) Via.refl e288 Fv (hb hby d14_17) fun T289 X289 e289 => ?_
  refine own_iloadN X289 hx (hb hby d14_20) rfl ?_
  refine own_cStat (W := 0) (rest := []) X289 hx hZ [(.ref b), (.int 2)] hown (own_m hw 122 rfl) (own_m hw 123 rfl) (by decide) (own_m hw 124 rfl) (own_m hw 22 rfl) e289 (rmXc_1_3_2 l Z a0 hw [] a b kb cs fm y0 y1 y2 y3 y4 y5 h0 n0 Z0 Sc hcs Sad Shi Slo Sf hfm Ea Fv Fc Vb) (by rw [hml]; rfl) (lenOf pd_7 rfl) rfl (Nat.le_of_eq rfl) (hb hby d14_21) (by decide) (by decide) (by decide) (by decide) fun v290 T290 L290 X290 hQ290 => ?_
  obtain ⟨rfl, N290q, e290⟩ := hQ290
  have N290 := Fr.app N288 N290q
  show own_At p e below _ T290 m 24 _ [(.int (own_gc y4 y5))]
  refine own_retN X290 hx hlk hret (by simp) (own_nargc _ _) (hb hby d14_24) (own_kN (by decide) (by decide) ?_)
  try rw [e290]
  exact ⟨rfl, N290, rfl⟩
def own_H_1_3 (y0 y1 y2 y3 y4 y5 : Int32) : Int64 := (own_m3 (own_m2 (own_m1 (own_hs (own_hs (own_hs (-3750763034362895579 : Int64) (own_gc y0 y1)) (own_gc y2 y3)) (own_gc y4 y5)))))
set_option maxRecDepth 65536 in
set_option maxHeartbeats 40000000 in
theorem rmH_1_3 (l : Launch) (Z : State) (a0 : Array Value) (hw : own_Wd a0 Z) (ws : List Jvm.Cond) (a b : Addr) (kb : ClassId) (cs : Int32) (fm : Value) (y0 y1 y2 y3 y4 y5 : Int32)  (h0 : Heap) (n0 : Nat) (Z0 : n0 ≤ h0.size) (Sc : Sta Z h0 "java/lang/String" "COMPACT_STRINGS" "Z" (.int cs)) (hcs : ¬ (cs = (0 : Int32))) (Sad : Sta Z h0 "java/lang/StringUTF16" "$assertionsDisabled" "Z" (.int 1)) (Shi : Sta Z h0 "java/lang/StringUTF16" "HI_BYTE_SHIFT" "I" (.int 0)) (Slo : Sta Z h0 "java/lang/StringUTF16" "LO_BYTE_SHIFT" "I" (.int 8)) (Sf : Sta Z h0 "jdk/internal/util/Preconditions" "SIOOBE_FORMATTER" "Ljava/util/function/BiFunction;" fm) (hfm : fm.isRef = true) (Ea : Exa Z h0 a "java/lang/String") (Fv : Fld Z h0 a "java/lang/String" "value" "[B" (.ref b)) (Fc : Fld Z h0 a "java/lang/String" "coder" "B" (.int 1)) (Vb : Arv Z h0 b kb .byte (6 : Int32) [(.int y0), (.int y1), (.int y2), (.int y3), (.int y4), (.int y5)] (.int 0)) :
    own_Met l (⟨"com/example/vestline/vestline/cli/BloomFilter", "hash", "(Ljava/lang/String;)J"⟩ : MethodName) prog_1_method_3_code 4 (some .long) ws ({ frames := 5, cells := 0, slots := 0, locals := 72 } : Room) Z #[(.ref a)] h0 (fun v h L => v = some (.long (own_H_1_3 y0 y1 y2 y3 y4 y5)) ∧ Fr n0 L ∧ h = h0) := by
  refine own_body (plainFor_of_name pn_3) ?_
  intro p e s m below meth c s₁ X0 hx hby hml hown hnm hret hlk hZ e0
  replace hown : s.vm.findClass "com/example/vestline/vestline/cli/BloomFilter" = some m.cls := hown
  replace hml : c.maxLocals = 4 := hml
  replace hret : meth.sig.returnType = (some .long) := hret
  have N0 := Fr.nil n0
  refine own_ef (L0 := #[.val (.ref a), .unset, .unset, .unset]) (by first | (simp [entryFrame, mkF, argsToLocals, Value.category]; done) | rfl) ?_
  refine own_ldcL X0 hx hZ hown (own_m hw 67 rfl) (hb hby d11_0) ?_
  refine own_lstoreN (l' := #[.val (.ref a), .val (.long (-3750763034362895579 : Int64)), .second, .unset]) X0 hx (hb hby d11_3) rfl ?_
  refine own_iconst X0 hx 0 (hb hby d11_4) rfl ?_
  refine own_istoreN (l' := #[.val (.ref a), .val (.long (-3750763034362895579 : Int64)), .second, .val (.int 0)]) X0 hx (hb hby d11_5) rfl ?_
  refine own_iloadN X0 hx (hb hby d11_6) rfl ?_
  refine own_aloadN X0 hx (hb hby d11_7) rfl rfl ?_
  refine own_cVirt (W := 1) (rest := [(.int 0)]) X0 hx hZ [] hown (own_m hw 68 rfl) (own_m hw 69 rfl) (notFace_of_selects (args := #[]) (mvT hZ (own_m hw 71 rfl))) (own_m hw 71 rfl) (own_m hw 70 rfl) (by decide) (own_m hw 72 rfl) (own_m hw 7 rfl) e0 Ea (rmLn_1_3 l Z a0 hw [] a b kb cs fm y0 y1 y2 y3 y4 y5 h0 n0 Z0 Sc hcs Sad Shi Slo Sf hfm Ea Fv Fc Vb) (by rw [hml]; rfl) (lenOf pd_10 rfl) rfl (Nat.le_of_eq rfl) (hb hby d11_8) (by decide) (by decide) (by decide) (by decide) fun v291 T291 L291 X291 hQ291 => ?_
  obtain ⟨rfl, N291q, e291⟩ := hQ291
  have N291 := Fr.app N0 N291q
  show own_At p e below _ T291 m 11 _ [(.int 3), (.int 0)]
  refine own_icmpNo X291 hx (hb hby d11_11) (tlt (by decide : (0 : Int32) < (3 : Int32))).2.1 ?_
  refine own_lloadN X291 hx (hb hby d11_14) rfl ?_
  refine own_aloadN X291 hx (hb hby d11_15) rfl rfl ?_
  refine own_iloadN X291 hx (hb hby d11_16) rfl ?_
  refine own_cVirt (W := 2) (rest := [(.long (-3750763034362895579 : Int64))]) X291 hx hZ [(.int 0)] hown (own_m hw 78 rfl) (own_m hw 79 rfl) (notFace_of_selects (args := #[]) (mvT hZ (own_m hw 81 rfl))) (own_m hw 81 rfl) (own_m hw 80 rfl) (by decide) (own_m hw 82 rfl) (own_m hw 7 rfl) e291 Ea (rmCA_1_3_0 l Z a0 hw [] a b kb cs fm y0 y1 y2 y3 y4 y5 h0 n0 Z0 Sc hcs Sad Shi Slo Sf hfm Ea Fv Fc Vb) (by rw [hml]; rfl) (lenOf pd_13 rfl) rfl (Nat.le_of_eq rfl) (hb hby d11_17) (by decide) (by decide) (by decide) (by decide) fun v292 T292 L292 X292 hQ292 => ?_
  obtain ⟨rfl, N292q, e292⟩ := hQ292
  have N292 := Fr.app N291 N292q
  show own_At p e below _ T292 m 20 _ [(.int (own_gc y0 y1)), (.long (-3750763034362895579 : Int64))]
  refine own_i2l X292 hx (hb hby d11_20) ?_
  refine own_lxor X292 hx (hb hby d11_21) ?_
  refine own_ldcL X292 hx hZ hown (own_m hw 100 rfl) (hb hby d11_22) ?_
  refine own_lmul X292 hx (hb hby d11_25) ?_
  rw [show (((-3750763034362895579 : Int64) ^^^ ((own_gc y0 y1).toInt64)) * (1099511628211 : Int64)) = (own_hs (-3750763034362895579 : Int64) (own_gc y0 y1)) from rfl]
  refine own_lstoreN (l' := #[.val (.ref a), .val (.long (own_hs (-3750763034362895579 : Int64) (own_gc y0 y1))), .second, .val (.int 0)]) X292 hx (hb hby d11_26) rfl ?_
  refine own_iinc (l' := #[.val (.ref a), .val (.long (own_hs (-3750763034362895579 : Int64) (own_gc y0 y1))), .second, .val (.int ((0 : Int32) + (1 : Int32)))]) X292 hx (hb hby d11_27) rfl rfl ?_
  rw [show ((0 : Int32) + (1 : Int32)) = (1 : Int32) from by decide]
  refine own_goto X292 hx 6 (hb hby d11_30) (by decide) (by decide) ?_
  refine own_iloadN X292 hx (hb hby d11_6) rfl ?_
  refine own_aloadN X292 hx (hb hby d11_7) rfl rfl ?_
  refine own_cVirt (W := 1) (rest := [(.int 1)]) X292 hx hZ [] hown (own_m hw 68 rfl) (own_m hw 69 rfl) (notFace_of_selects (args := #[]) (mvT hZ (own_m hw 71 rfl))) (own_m hw 71 rfl) (own_m hw 70 rfl) (by decide) (own_m hw 72 rfl) (own_m hw 7 rfl) e292 Ea (rmLn_1_3 l Z a0 hw [] a b kb cs fm y0 y1 y2 y3 y4 y5 h0 n0 Z0 Sc hcs Sad Shi Slo Sf hfm Ea Fv Fc Vb) (by rw [hml]; rfl) (lenOf pd_10 rfl) rfl (Nat.le_of_eq rfl) (hb hby d11_8) (by decide) (by decide) (by decide) (by decide) fun v293 T293 L293 X293 hQ293 => ?_
  obtain ⟨rfl, N293q, e293⟩ := hQ293
  have N293 := Fr.app N292 N293q
  show own_At p e below _ T293 m 11 _ [(.int 3), (.int 1)]
  refine own_icmpNo X293 hx (hb hby d11_11) (tlt (by decide : (1 : Int32) < (3 : Int32))).2.1 ?_
  refine own_lloadN X293 hx (hb hby d11_14) rfl ?_
  refine own_aloadN X293 hx (hb hby d11_15) rfl rfl ?_
  refine own_iloadN X293 hx (hb hby d11_16) rfl ?_
  refine own_cVirt (W := 2) (rest := [(.long (own_hs (-3750763034362895579 : Int64) (own_gc y0 y1)))]) X293 hx hZ [(.int 1)] hown (own_m hw 78 rfl) (own_m hw 79 rfl) (notFace_of_selects (args := #[]) (mvT hZ (own_m hw 81 rfl))) (own_m hw 81 rfl) (own_m hw 80 rfl) (by decide) (own_m hw 82 rfl) (own_m hw 7 rfl) e293 Ea (rmCA_1_3_1 l Z a0 hw [] a b kb cs fm y0 y1 y2 y3 y4 y5 h0 n0 Z0 Sc hcs Sad Shi Slo Sf hfm Ea Fv Fc Vb) (by rw [hml]; rfl) (lenOf pd_13 rfl) rfl (Nat.le_of_eq rfl) (hb hby d11_17) (by decide) (by decide) (by decide) (by decide) fun v294 T294 L294 X294 hQ294 => ?_
  obtain ⟨rfl, N294q, e294⟩ := hQ294
  have N294 := Fr.app N293 N294q
  show own_At p e below _ T294 m 20 _ [(.int (own_gc y2 y3)), (.long (own_hs (-3750763034362895579 : Int64) (own_gc y0 y1)))]
  refine own_i2l X294 hx (hb hby d11_20) ?_
  refine own_lxor X294 hx (hb hby d11_21) ?_
  refine own_ldcL X294 hx hZ hown (own_m hw 100 rfl) (hb hby d11_22) ?_
  refine own_lmul X294 hx (hb hby d11_25) ?_
  rw [show (((own_hs (-3750763034362895579 : Int64) (own_gc y0 y1)) ^^^ ((own_gc y2 y3).toInt64)) * (1099511628211 : Int64)) = (own_hs (own_hs (-3750763034362895579 : Int64) (own_gc y0 y1)) (own_gc y2 y3)) from rfl]
  refine own_lstoreN (l' := #[.val (.ref a), .val (.long (own_hs (own_hs (-3750763034362895579 : Int64) (own_gc y0 y1)) (own_gc y2 y3))), .second, .val (.int 1)]) X294 hx (hb hby d11_26) rfl ?_
  refine own_iinc (l' := #[.val (.ref a), .val (.long (own_hs (own_hs (-3750763034362895579 : Int64) (own_gc y0 y1)) (own_gc y2 y3))), .second, .val (.int ((1 : Int32) + (1 : Int32)))]) X294 hx (hb hby d11_27) rfl rfl ?_
  rw [show ((1 : Int32) + (1 : Int32)) = (2 : Int32) from by decide]
  refine own_goto X294 hx 6 (hb hby d11_30) (by decide) (by decide) ?_
  refine own_iloadN X294 hx (hb hby d11_6) rfl ?_
  refine own_aloadN X294 hx (hb hby d11_7) rfl rfl ?_
  refine own_cVirt (W := 1) (rest := [(.int 2)]) X294 hx hZ [] hown (own_m hw 68 rfl) (own_m hw 69 rfl) (notFace_of_selects (args := #[]) (mvT hZ (own_m hw 71 rfl))) (own_m hw 71 rfl) (own_m hw 70 rfl) (by decide) (own_m hw 72 rfl) (own_m hw 7 rfl) e294 Ea (rmLn_1_3 l Z a0 hw [] a b kb cs fm y0 y1 y2 y3 y4 y5 h0 n0 Z0 Sc hcs Sad Shi Slo Sf hfm Ea Fv Fc Vb) (by rw [hml]; rfl) (lenOf pd_10 rfl) rfl (Nat.le_of_eq rfl) (hb hby d11_8) (by decide) (by decide) (by decide) (by decide) fun v295 T295 L295 X295 hQ295 => ?_
  obtain ⟨rfl, N295q, e295⟩ := hQ295
  have N295 := Fr.app N294 N295q
  show own_At p e below _ T295 m 11 _ [(.int 3), (.int 2)]
  refine own_icmpNo X295 hx (hb hby d11_11) (tlt (by decide : (2 : Int32) < (3 : Int32))).2.1 ?_
  refine own_lloadN X295 hx (hb hby d11_14) rfl ?_
  refine own_aloadN X295 hx (hb hby d11_15) rfl rfl ?_
  refine own_iloadN X295 hx (hb hby d11_16) rfl ?_
  refine own_cVirt (W := 2) (rest := [(.long (own_hs (own_hs (-3750763034362895579 : Int64) (own_gc y0 y1)) (own_gc y2 y3)))]) X295 hx hZ [(.int 2)] hown (own_m hw 78 rfl) (own_m hw 79 rfl) (notFace_of_selects (args := #[]) (mvT hZ (own_m hw 81 rfl))) (own_m hw 81 rfl) (own_m hw 80 rfl) (by decide) (own_m hw 82 rfl) (own_m hw 7 rfl) e295 Ea (rmCA_1_3_2 l Z a0 hw [] a b kb cs fm y0 y1 y2 y3 y4 y5 h0 n0 Z0 Sc hcs Sad Shi Slo Sf hfm Ea Fv Fc Vb) (by rw [hml]; rfl) (lenOf pd_13 rfl) rfl (Nat.le_of_eq rfl) (hb hby d11_17) (by decide) (by decide) (by decide) (by decide) fun v296 T296 L296 X296 hQ296 => ?_
  obtain ⟨rfl, N296q, e296⟩ := hQ296
  have N296 := Fr.app N295 N296q
  show own_At p e below _ T296 m 20 _ [(.int (own_gc y4 y5)), (.long (own_hs (own_hs (-3750763034362895579 : Int64) (own_gc y0 y1)) (own_gc y2 y3)))]
  refine own_i2l X296 hx (hb hby d11_20) ?_
  refine own_lxor X296 hx (hb hby d11_21) ?_
  refine own_ldcL X296 hx hZ hown (own_m hw 100 rfl) (hb hby d11_22) ?_
  refine own_lmul X296 hx (hb hby d11_25) ?_
  rw [show (((own_hs (own_hs (-3750763034362895579 : Int64) (own_gc y0 y1)) (own_gc y2 y3)) ^^^ ((own_gc y4 y5).toInt64)) * (1099511628211 : Int64)) = (own_hs (own_hs (own_hs (-3750763034362895579 : Int64) (own_gc y0 y1)) (own_gc y2 y3)) (own_gc y4 y5)) from rfl]
  refine own_lstoreN (l' := #[.val (.ref a), .val (.long (own_hs (own_hs (own_hs (-3750763034362895579 : Int64) (own_gc y0 y1)) (own_gc y2 y3)) (own_gc y4 y5))), .second, .val (.int 2)]) X296 hx (hb hby d11_26) rfl ?_
  refine own_iinc (l' := #[.val (.ref a), .val (.long (own_hs (own_hs (own_hs (-3750763034362895579 : Int64) (own_gc y0 y1)) (own_gc y2 y3)) (own_gc y4 y5))), .second, .val (.int ((2 : Int32) + (1 : Int32)))]) X296 hx (hb hby d11_27) rfl rfl ?_
  rw [show ((2 : Int32) + (1 : Int32)) = (3 : Int32) from by decide]
  refine own_goto X296 hx 6 (hb hby d11_30) (by decide) (by decide) ?_
  refine own_iloadN X296 hx (hb hby d11_6) rfl ?_
  refine own_aloadN X296 hx (hb hby d11_7) rfl rfl ?_
  refine own_cVirt (W := 1) (rest := [(.int 3)]) X296 hx hZ [] hown (own_m hw 68 rfl) (own_m hw 69 rfl) (notFace_of_selects (args := #[]) (mvT hZ (own_m hw 71 rfl))) (own_m hw 71 rfl) (own_m hw 70 rfl) (by decide) (own_m hw 72 rfl) (own_m hw 7 rfl) e296 Ea (rmLn_1_3 l Z a0 hw [] a b kb cs fm y0 y1 y2 y3 y4 y5 h0 n0 Z0 Sc hcs Sad Shi Slo Sf hfm Ea Fv Fc Vb) (by rw [hml]; rfl) (lenOf pd_10 rfl) rfl (Nat.le_of_eq rfl) (hb hby d11_8) (by decide) (by decide) (by decide) (by decide) fun v297 T297 L297 X297 hQ297 => ?_
  obtain ⟨rfl, N297q, e297⟩ := hQ297
  have N297 := Fr.app N296 N297q
  show own_At p e below _ T297 m 11 _ [(.int 3), (.int 3)]
  refine own_icmpYes X297 hx 33 (hb hby d11_11) (flt (by decide : ¬ ((3 : Int32) < (3 : Int32)))).2.1 (by decide) (by decide) ?_
  refine own_lloadN X297 hx (hb hby d11_33) rfl ?_
  refine own_lloadN X297 hx (hb hby d11_34) rfl ?_
  refine own_bipush X297 hx 33 (hb hby d11_35) rfl ?_
  refine own_lushr X297 hx (hb hby d11_37) ?_
  refine own_lxor X297 hx (hb hby d11_38) ?_
  refine own_ldcL X297 hx hZ hown (own_m hw 101 rfl) (hb hby d11_39) ?_
  refine own_lmul X297 hx (hb hby d11_42) ?_
  rw [show (((own_hs (own_hs (own_hs (-3750763034362895579 : Int64) (own_gc y0 y1)) (own_gc y2 y3)) (own_gc y4 y5)) ^^^ (((own_hs (own_hs (own_hs (-3750763034362895579 : Int64) (own_gc y0 y1)) (own_gc y2 y3)) (own_gc y4 y5)).toUInt64 >>> ((33 : Int32) &&& 0x3f).toInt64.toUInt64).toInt64)) * (-49064778989728563 : Int64)) = (own_m1 (own_hs (own_hs (own_hs (-3750763034362895579 : Int64) (own_gc y0 y1)) (own_gc y2 y3)) (own_gc y4 y5))) from rfl]
  refine own_lstoreN (l' := #[.val (.ref a), .val (.long (own_m1 (own_hs (own_hs (own_hs (-3750763034362895579 : Int64) (own_gc y0 y1)) (own_gc y2 y3)) (own_gc y4 y5)))), .second, .val (.int 3)]) X297 hx (hb hby d11_43) rfl ?_
  refine own_lloadN X297 hx (hb hby d11_44) rfl ?_
  refine own_lloadN X297 hx (hb hby d11_45) rfl ?_
  refine own_bipush X297 hx 33 (hb hby d11_46) rfl ?_
  refine own_lushr X297 hx (hb hby d11_48) ?_
  refine own_lxor X297 hx (hb hby d11_49) ?_
  refine own_ldcL X297 hx hZ hown (own_m hw 102 rfl) (hb hby d11_50) ?_
  refine own_lmul X297 hx (hb hby d11_53) ?_
  rw [show (((own_m1 (own_hs (own_hs (own_hs (-3750763034362895579 : Int64) (own_gc y0 y1)) (own_gc y2 y3)) (own_gc y4 y5))) ^^^ (((own_m1 (own_hs (own_hs (own_hs (-3750763034362895579 : Int64) (own_gc y0 y1)) (own_gc y2 y3)) (own_gc y4 y5))).toUInt64 >>> ((33 : Int32) &&& 0x3f).toInt64.toUInt64).toInt64)) * (-4265267296055464877 : Int64)) = (own_m2 (own_m1 (own_hs (own_hs (own_hs (-3750763034362895579 : Int64) (own_gc y0 y1)) (own_gc y2 y3)) (own_gc y4 y5)))) from rfl]
  refine own_lstoreN (l' := #[.val (.ref a), .val (.long (own_m2 (own_m1 (own_hs (own_hs (own_hs (-3750763034362895579 : Int64) (own_gc y0 y1)) (own_gc y2 y3)) (own_gc y4 y5))))), .second, .val (.int 3)]) X297 hx (hb hby d11_54) rfl ?_
  refine own_lloadN X297 hx (hb hby d11_55) rfl ?_
  refine own_lloadN X297 hx (hb hby d11_56) rfl ?_
  refine own_bipush X297 hx 33 (hb hby d11_57) rfl ?_
  refine own_lushr X297 hx (hb hby d11_59) ?_
  refine own_lxor X297 hx (hb hby d11_60) ?_
  rw [show ((own_m2 (own_m1 (own_hs (own_hs (own_hs (-3750763034362895579 : Int64) (own_gc y0 y1)) (own_gc y2 y3)) (own_gc y4 y5)))) ^^^ (((own_m2 (own_m1 (own_hs (own_hs (own_hs (-3750763034362895579 : Int64) (own_gc y0 y1)) (own_gc y2 y3)) (own_gc y4 y5)))).toUInt64 >>> ((33 : Int32) &&& 0x3f).toInt64.toUInt64).toInt64)) = (own_m3 (own_m2 (own_m1 (own_hs (own_hs (own_hs (-3750763034362895579 : Int64) (own_gc y0 y1)) (own_gc y2 y3)) (own_gc y4 y5))))) from rfl]
  refine own_retL X297 hx hlk hret (hb hby d11_61) (own_kN (by decide) (by decide) ?_)
  try rw [e297]
  exact ⟨rfl, N297, rfl⟩
abbrev own_CH (l : Launch) (Z : State) (cs : Int32) (fm : Value) (a b : Addr) (kb : ClassId) (cd bl : Int32) (bs : List Value) (H : Int64) : Prop := ∀ (h0 : Heap) (n0 : Nat), n0 ≤ h0.size → Sta Z h0 "java/lang/String" "COMPACT_STRINGS" "Z" (.int cs) → ¬ (cs = (0 : Int32)) → Sta Z h0 "java/lang/StringUTF16" "$assertionsDisabled" "Z" (.int 1) → Sta Z h0 "java/lang/StringUTF16" "HI_BYTE_SHIFT" "I" (.int 0) → Sta Z h0 "java/lang/StringUTF16" "LO_BYTE_SHIFT" "I" (.int 8) → Sta Z h0 "jdk/internal/util/Preconditions" "SIOOBE_FORMATTER" "Ljava/util/function/BiFunction;" fm → fm.isRef = true → Exa Z h0 a "java/lang/String" → Fld Z h0 a "java/lang/String" "value" "[B" (.ref b) → Fld Z h0 a "java/lang/String" "coder" "B" (.int cd) → Arv Z h0 b kb .byte bl bs (.int 0) → own_Met l (⟨"com/example/vestline/vestline/cli/BloomFilter", "hash", "(Ljava/lang/String;)J"⟩ : MethodName) prog_1_method_3_code 4 (some .long) [] ({ frames := 5, cells := 0, slots := 0, locals := 72 } : Room) Z #[(.ref a)] h0 (fun v h L => v = some (.long H) ∧ Fr n0 L ∧ h = h0)
theorem d1_0 : decode method_2_code 0 = .ok (.iload_n 1, 1) := by decide +kernel
theorem d1_1 : decode method_2_code 1 = .ok (.ldc 7, 2) := by decide +kernel
theorem d1_3 : decode method_2_code 3 = .ok (.iand, 1) := by decide +kernel
theorem d1_4 : decode method_2_code 4 = .ok (.i2c, 1) := by decide +kernel
theorem d1_5 : decode method_2_code 5 = .ok (.istore_n 3, 1) := by decide +kernel
theorem d1_6 : decode method_2_code 6 = .ok (.iload_n 1, 1) := by decide +kernel
theorem d1_7 : decode method_2_code 7 = .ok (.bipush 16, 2) := by decide +kernel
theorem d1_9 : decode method_2_code 9 = .ok (.iushr, 1) := by decide +kernel
theorem d1_10 : decode method_2_code 10 = .ok (.ldc 7, 2) := by decide +kernel
theorem d1_12 : decode method_2_code 12 = .ok (.iand, 1) := by decide +kernel
theorem d1_13 : decode method_2_code 13 = .ok (.i2c, 1) := by decide +kernel
theorem d1_14 : decode method_2_code 14 = .ok (.istore 4, 2) := by decide +kernel
theorem d1_16 : decode method_2_code 16 = .ok (.iload_n 2, 1) := by decide +kernel
theorem d1_17 : decode method_2_code 17 = .ok (.ldc 7, 2) := by decide +kernel
theorem d1_19 : decode method_2_code 19 = .ok (.iand, 1) := by decide +kernel
theorem d1_20 : decode method_2_code 20 = .ok (.i2c, 1) := by decide +kernel
theorem d1_21 : decode method_2_code 21 = .ok (.istore 5, 2) := by decide +kernel
theorem d1_23 : decode method_2_code 23 = .ok (.iload_n 0, 1) := by decide +kernel
theorem d1_24 : decode method_2_code 24 = .ok (.ifCond .ne 14, 3) := by decide +kernel
theorem d1_27 : decode method_2_code 27 = .ok (.new 8, 3) := by decide +kernel
theorem d1_30 : decode method_2_code 30 = .ok (.dup, 1) := by decide +kernel
theorem d1_31 : decode method_2_code 31 = .ok (.iconst 0, 1) := by decide +kernel
theorem d1_32 : decode method_2_code 32 = .ok (.newarray .char, 2) := by decide +kernel
theorem d1_34 : decode method_2_code 34 = .ok (.invokespecial 10, 3) := by decide +kernel
theorem d1_37 : decode method_2_code 37 = .ok (.areturn, 1) := by decide +kernel
theorem d1_38 : decode method_2_code 38 = .ok (.iload_n 0, 1) := by decide +kernel
theorem d1_39 : decode method_2_code 39 = .ok (.iconst 1, 1) := by decide +kernel
theorem d1_40 : decode method_2_code 40 = .ok (.if_icmp .ne 18, 3) := by decide +kernel
theorem d1_43 : decode method_2_code 43 = .ok (.new 8, 3) := by decide +kernel
theorem d1_46 : decode method_2_code 46 = .ok (.dup, 1) := by decide +kernel
theorem d1_47 : decode method_2_code 47 = .ok (.iconst 1, 1) := by decide +kernel
theorem d1_48 : decode method_2_code 48 = .ok (.newarray .char, 2) := by decide +kernel
theorem d1_50 : decode method_2_code 50 = .ok (.dup, 1) := by decide +kernel
theorem d1_51 : decode method_2_code 51 = .ok (.iconst 0, 1) := by decide +kernel
theorem d1_52 : decode method_2_code 52 = .ok (.iload_n 3, 1) := by decide +kernel
theorem d1_53 : decode method_2_code 53 = .ok (.castore, 1) := by decide +kernel
theorem d1_54 : decode method_2_code 54 = .ok (.invokespecial 10, 3) := by decide +kernel
theorem d1_57 : decode method_2_code 57 = .ok (.areturn, 1) := by decide +kernel
theorem d1_58 : decode method_2_code 58 = .ok (.iload_n 0, 1) := by decide +kernel
theorem d1_59 : decode method_2_code 59 = .ok (.iconst 2, 1) := by decide +kernel
theorem d1_60 : decode method_2_code 60 = .ok (.if_icmp .ne 23, 3) := by decide +kernel
theorem d1_63 : decode method_2_code 63 = .ok (.new 8, 3) := by decide +kernel
theorem d1_66 : decode method_2_code 66 = .ok (.dup, 1) := by decide +kernel
theorem d1_67 : decode method_2_code 67 = .ok (.iconst 2, 1) := by decide +kernel
theorem d1_68 : decode method_2_code 68 = .ok (.newarray .char, 2) := by decide +kernel
theorem d1_70 : decode method_2_code 70 = .ok (.dup, 1) := by decide +kernel
theorem d1_71 : decode method_2_code 71 = .ok (.iconst 0, 1) := by decide +kernel
theorem d1_72 : decode method_2_code 72 = .ok (.iload_n 3, 1) := by decide +kernel
theorem d1_73 : decode method_2_code 73 = .ok (.castore, 1) := by decide +kernel
theorem d1_74 : decode method_2_code 74 = .ok (.dup, 1) := by decide +kernel
theorem d1_75 : decode method_2_code 75 = .ok (.iconst 1, 1) := by decide +kernel
theorem d1_76 : decode method_2_code 76 = .ok (.iload 4, 2) := by decide +kernel
theorem d1_78 : decode method_2_code 78 = .ok (.castore, 1) := by decide +kernel
theorem d1_79 : decode method_2_code 79 = .ok (.invokespecial 10, 3) := by decide +kernel
theorem d1_82 : decode method_2_code 82 = .ok (.areturn, 1) := by decide +kernel
theorem d1_83 : decode method_2_code 83 = .ok (.new 8, 3) := by decide +kernel
theorem d1_86 : decode method_2_code 86 = .ok (.dup, 1) := by decide +kernel
theorem d1_87 : decode method_2_code 87 = .ok (.iconst 3, 1) := by decide +kernel
theorem d1_88 : decode method_2_code 88 = .ok (.newarray .char, 2) := by decide +kernel
theorem d1_90 : decode method_2_code 90 = .ok (.dup, 1) := by decide +kernel
theorem d1_91 : decode method_2_code 91 = .ok (.iconst 0, 1) := by decide +kernel
theorem d1_92 : decode method_2_code 92 = .ok (.iload_n 3, 1) := by decide +kernel
theorem d1_93 : decode method_2_code 93 = .ok (.castore, 1) := by decide +kernel
theorem d1_94 : decode method_2_code 94 = .ok (.dup, 1) := by decide +kernel
theorem d1_95 : decode method_2_code 95 = .ok (.iconst 1, 1) := by decide +kernel
theorem d1_96 : decode method_2_code 96 = .ok (.iload 4, 2) := by decide +kernel
theorem d1_98 : decode method_2_code 98 = .ok (.castore, 1) := by decide +kernel
theorem d1_99 : decode method_2_code 99 = .ok (.dup, 1) := by decide +kernel
theorem d1_100 : decode method_2_code 100 = .ok (.iconst 2, 1) := by decide +kernel
theorem d1_101 : decode method_2_code 101 = .ok (.iload 5, 2) := by decide +kernel
theorem d1_103 : decode method_2_code 103 = .ok (.castore, 1) := by decide +kernel
theorem d1_104 : decode method_2_code 104 = .ok (.invokespecial 10, 3) := by decide +kernel
theorem d1_107 : decode method_2_code 107 = .ok (.areturn, 1) := by decide +kernel
theorem pn_5 : plainName "com/example/vestline/vestline/cli/BloomFilterAddPinLaw" = true := by first | (simp [plainName, overriddenIn]; done) | decide +kernel
theorem pd_16 : parseMethodDescriptor "([C)V" = some ⟨[(.array .char)], none⟩ := by decide +kernel
set_option maxRecDepth 65536 in
set_option maxHeartbeats 40000000 in
theorem rmTX_0_l (l : Launch) (Z : State) (a0 : Array Value) (hw : own_Wd a0 Z) (ws : List Jvm.Cond) (c01 c2 x0 x1 x2 cs : Int32) (fm : Value)  (h0 : Heap) (n0 : Nat) (Z0 : n0 ≤ h0.size) (Sc : Sta Z h0 "java/lang/String" "COMPACT_STRINGS" "Z" (.int cs)) (hcs : ¬ (cs = (0 : Int32))) (Sad : Sta Z h0 "java/lang/StringUTF16" "$assertionsDisabled" "Z" (.int 1)) (Shi : Sta Z h0 "java/lang/StringUTF16" "HI_BYTE_SHIFT" "I" (.int 0)) (Slo : Sta Z h0 "java/lang/StringUTF16" "LO_BYTE_SHIFT" "I" (.int 8)) (Sf : Sta Z h0 "jdk/internal/util/Preconditions" "SIOOBE_FORMATTER" "Ljava/util/function/BiFunction;" fm) (hfm : fm.isRef = true) (hX0 : ((c01 &&& (65535 : Int32)).toUInt32.toUInt16.toUInt32.toInt32) = x0) (hX1 : ((((c01.toUInt32 >>> ((16 : Int32) &&& 31).toUInt32).toInt32) &&& (65535 : Int32)).toUInt32.toUInt16.toUInt32.toInt32) = x1) (hX2 : ((c2 &&& (65535 : Int32)).toUInt32.toUInt16.toUInt32.toInt32) = x2) :
    own_MetW l (⟨"com/example/vestline/vestline/cli/BloomFilterAddPinLaw", "text", "(III)Ljava/lang/String;"⟩ : MethodName) method_2_code 6 (some (.object "java/lang/String")) ws ({ frames := 6, cells := 6, slots := 24, locals := 100 } : Room) Z own_EL #[(.int 0), (.int c01), (.int c2)] h0 (fun v h L => ∃ a b kb cd bl bs, v = some (.ref a) ∧ Fr n0 L ∧ Keep h0 h [] ∧ h0.size ≤ a ∧ Exa Z h a "java/lang/String" ∧ Fld Z h a "java/lang/String" "value" "[B" (.ref b) ∧ Fld Z h a "java/lang/String" "coder" "B" (.int cd) ∧ Arv Z h b kb .byte bl bs (.int 0) ∧ own_CH l Z cs fm a b kb cd bl bs (own_H_0_0 )) := by
  refine own_bodyW (plainFor_of_name pn_5) ?_
  intro p e s m below meth c s₁ X0 hx hby hml hown hnm hret hlk hZ e0 hs0 CH0 hS0
  replace hown : (s.setVm s.vm).vm.findClass "com/example/vestline/vestline/cli/BloomFilterAddPinLaw" = some m.cls := hown
  replace hml : c.maxLocals = 6 := hml
  replace hret : meth.sig.returnType = (some (.object "java/lang/String")) := hret
  have N0 := Fr.nil n0
  have hEL : EW Z a0 own_EL := own_ELw hw
  have CR0 : CHr Z own_EL s.vm s.heap s.vm h0 := by rw [hs0]; exact CHr.refl CH0
  refine own_ef (L0 := #[.val (.int 0), .val (.int c01), .val (.int c2), .unset, .unset, .unset]) (by first | (simp [entryFrame, mkF, argsToLocals, Value.category]; done) | rfl) ?_
  refine own_iloadN X0 hx (hb hby d1_0) rfl ?_
  refine own_ldcI X0 hx hZ hown (own_m hw 4 rfl) (hb hby d1_1) ?_
  refine own_iand X0 hx (hb hby d1_3) ?_
  refine own_i2c X0 hx (hb hby d1_4) ?_
  rw [hX0]
  refine own_istoreN (l' := #[.val (.int 0), .val (.int c01), .val (.int c2), .val (.int x0), .unset, .unset]) X0 hx (hb hby d1_5) rfl ?_
  refine own_iloadN X0 hx (hb hby d1_6) rfl ?_
  refine own_bipush X0 hx 16 (hb hby d1_7) rfl ?_
  refine own_iushr X0 hx (hb hby d1_9) ?_
  refine own_ldcI X0 hx hZ hown (own_m hw 4 rfl) (hb hby d1_10) ?_
  refine own_iand X0 hx (hb hby d1_12) ?_
  refine own_i2c X0 hx (hb hby d1_13) ?_
  rw [hX1]
  refine own_istore (l' := #[.val (.int 0), .val (.int c01), .val (.int c2), .val (.int x0), .val (.int x1), .unset]) X0 hx (hb hby d1_14) rfl ?_
  refine own_iloadN X0 hx (hb hby d1_16) rfl ?_
  refine own_ldcI X0 hx hZ hown (own_m hw 4 rfl) (hb hby d1_17) ?_
  refine own_iand X0 hx (hb hby d1_19) ?_
  refine own_i2c X0 hx (hb hby d1_20) ?_
  rw [hX2]
  refine own_istore (l' := #[.val (.int 0), .val (.int c01), .val (.int c2), .val (.int x0), .val (.int x1), .val (.int x2)]) X0 hx (hb hby d1_21) rfl ?_
  refine own_iloadN X0 hx (hb hby d1_23) rfl ?_
  refine own_ifNo X0 hx (hb hby d1_24) (teq (by decide : (0 : Int32) = (0 : Int32))).2 ?_
  refine own_newO X0 hx hZ hown (own_m hw 5 rfl) (own_m hw 6 rfl) (own_m hw 7 rfl) e0 (hb hby d1_27) (by decide) (by decide) fun T298 h298 b298 g298 X298 e298 E298 A298 D298 => ?_
  have g_b298 : n0 ≤ b298 := Nat.le_trans Z0 (Nat.le_of_eq g298.symm)
  have szo_b298 : h0.size ≤ b298 := Nat.le_trans (Nat.le_refl h0.size) (Nat.le_of_eq g298.symm)
  have F_coder_b298 : Fld Z h298 b298 "java/lang/String" "coder" "B" (.int 0) := D298 (Or.inr (own_m hw 32 rfl)) (ty := .byte) (by decide)
  have F_value_b298 : Fld Z h298 b298 "java/lang/String" "value" "[B" .null := D298 (Or.inr (own_m hw 34 rfl)) (ty := (.array .byte)) (by decide)
  refine own_dup X298 hx (hb hby d1_30) rfl ?_
  refine own_iconst X298 hx 0 (hb hby d1_31) rfl ?_
  refine own_newP (n := (0 : Int32)) (cap := 0) (ad := "[C") X298 hx hZ (own_m hw 8 rfl) e298 (hb hby d1_32) (by decide) (by decide) (by decide) (by decide) (by decide) (by decide) fun T299 h299 k299 b299 g299 X299 e299 E299 A299 Ex299 => ?_
  have g_b299 : n0 ≤ b299 := Nat.le_trans (Nat.le_trans Z0 E298.1) (Nat.le_of_eq g299.symm)
  have szo_b299 : h0.size ≤ b299 := Nat.le_trans (Nat.le_trans (Nat.le_refl h0.size) E298.1) (Nat.le_of_eq g299.symm)
  have V299 : Arv Z h299 b299 k299 .char (0 : Int32) [] (.int 0) := Arv.new A299 (by decide)
  have f300 := (Sta.ext E299 (Sta.ext E298 Sc))
  have f301 := (Sta.ext E299 (Sta.ext E298 Sad))
  have f302 := (Sta.ext E299 (Sta.ext E298 Shi))
  have f303 := (Sta.ext E299 (Sta.ext E298 Slo))
  have f304 := (Sta.ext E299 (Sta.ext E298 Sf))
  have f305 := (Exa.ext E299 A298)
  have f306 := (Fld.ext E299 F_coder_b298)
  have f307 := (Fld.ext E299 F_value_b298)
  have Zs308 : n0 ≤ h299.size := (Nat.le_trans (Nat.le_trans Z0 E298.1) E299.1)
  refine own_cSpecW (b := b298) (W := 1) (rest := [(.ref b298)]) X299 hx hZ [(.ref b299)] rfl hown (own_m hw 9 rfl) (own_m hw 10 rfl) (by decide) (own_m hw 11 rfl) (own_m hw 7 rfl) e299 (rmI1_0 l Z a0 hw [] b298 b299 k299 h299 n0 Zs308 f305 f307 f306 g_b298 V299) hEL (CHv.ext E299 (CHv.ext E298 CH0)) hS0 (Nat.le_trans (Nat.le_trans (Nat.le_refl _) E298.1) E299.1) (by rw [hml]; rfl) (lenOf pd_16 rfl) rfl (Nat.le_of_eq rfl) (hb hby d1_34) (by decide) (by decide) (by decide) (by decide) fun v309 T309 L309 X309 hS309 hZ309 ho309 CR309 hQ309 => ?_
  obtain ⟨rfl, N309q, K309, sb309, kb309, Ea309, Fv309, Fc309, Vb309⟩ := hQ309
  have N309 := Fr.app N0 N309q
  show own_At p e below _ T309 m 37 _ [(.ref b298)]
  refine own_retA X309 hx hlk hret rfl rfl rfl (hb hby d1_37) (own_kW X309 hZ309 hEL (CHr.trans (CHr.trans (CHr.trans CR0 (CHr.ext E298 CH0)) (CHr.ext E299 (CHv.ext E298 CH0))) CR309) hS309 (Nat.le_refl _) (by decide) (by decide) ?_)
  exact ⟨b298, sb309, kb309, (0 : Int32), (0 : Int32), [], rfl, N309, (Keep.trans (Keep.ext (Keep.ext (Keep.refl h0 []) E298) E299) K309 (allS (Or.inr szo_b298) all0)), szo_b298, Ea309, Fv309, Fc309, Vb309, fun h0 n0 Z0 Sc hcs Sad Shi Slo Sf hfm Ea Fv Fc Vb => rmH_0_0 l Z a0 hw [] b298 sb309 kb309 cs fm  h0 n0 Z0 Sc hcs Sad Shi Slo Sf hfm Ea Fv Fc Vb⟩
set_option maxRecDepth 65536 in
set_option maxHeartbeats 40000000 in
theorem rmTX_1_l (l : Launch) (Z : State) (a0 : Array Value) (hw : own_Wd a0 Z) (ws : List Jvm.Cond) (c01 c2 x0 x1 x2 cs : Int32) (fm : Value)  (h0 : Heap) (n0 : Nat) (Z0 : n0 ≤ h0.size) (Sc : Sta Z h0 "java/lang/String" "COMPACT_STRINGS" "Z" (.int cs)) (hcs : ¬ (cs = (0 : Int32))) (Sad : Sta Z h0 "java/lang/StringUTF16" "$assertionsDisabled" "Z" (.int 1)) (Shi : Sta Z h0 "java/lang/StringUTF16" "HI_BYTE_SHIFT" "I" (.int 0)) (Slo : Sta Z h0 "java/lang/StringUTF16" "LO_BYTE_SHIFT" "I" (.int 8)) (Sf : Sta Z h0 "jdk/internal/util/Preconditions" "SIOOBE_FORMATTER" "Ljava/util/function/BiFunction;" fm) (hfm : fm.isRef = true) (hX0 : ((c01 &&& (65535 : Int32)).toUInt32.toUInt16.toUInt32.toInt32) = x0) (hX1 : ((((c01.toUInt32 >>> ((16 : Int32) &&& 31).toUInt32).toInt32) &&& (65535 : Int32)).toUInt32.toUInt16.toUInt32.toInt32) = x1) (hX2 : ((c2 &&& (65535 : Int32)).toUInt32.toUInt16.toUInt32.toInt32) = x2) (lo0 : ¬ x0 < (0 : Int32)) (hi0 : ¬ (65535 : Int32) < x0) (hx0 : ¬ ((255 : Int32) < x0)) :
    own_MetW l (⟨"com/example/vestline/vestline/cli/BloomFilterAddPinLaw", "text", "(III)Ljava/lang/String;"⟩ : MethodName) method_2_code 6 (some (.object "java/lang/String")) ws ({ frames := 6, cells := 6, slots := 24, locals := 100 } : Room) Z own_EL #[(.int 1), (.int c01), (.int c2)] h0 (fun v h L => ∃ a b kb cd bl bs, v = some (.ref a) ∧ Fr n0 L ∧ Keep h0 h [] ∧ h0.size ≤ a ∧ Exa Z h a "java/lang/String" ∧ Fld Z h a "java/lang/String" "value" "[B" (.ref b) ∧ Fld Z h a "java/lang/String" "coder" "B" (.int cd) ∧ Arv Z h b kb .byte bl bs (.int 0) ∧ own_CH l Z cs fm a b kb cd bl bs (own_H_0_1 (x0.toInt8.toInt32))) := by
  refine own_bodyW (plainFor_of_name pn_5) ?_
  intro p e s m below meth c s₁ X0 hx hby hml hown hnm hret hlk hZ e0 hs0 CH0 hS0
  replace hown : (s.setVm s.vm).vm.findClass "com/example/vestline/vestline/cli/BloomFilterAddPinLaw" = some m.cls := hown
  replace hml : c.maxLocals = 6 := hml
  replace hret : meth.sig.returnType = (some (.object "java/lang/String")) := hret
  have N0 := Fr.nil n0
  have hEL : EW Z a0 own_EL := own_ELw hw
  have CR0 : CHr Z own_EL s.vm s.heap s.vm h0 := by rw [hs0]; exact CHr.refl CH0
  refine own_ef (L0 := #[.val (.int 1), .val (.int c01), .val (.int c2), .unset, .unset, .unset]) (by first | (simp [entryFrame, mkF, argsToLocals, Value.category]; done) | rfl) ?_
  refine own_iloadN X0 hx (hb hby d1_0) rfl ?_
  refine own_ldcI X0 hx hZ hown (own_m hw 4 rfl) (hb hby d1_1) ?_
  refine own_iand X0 hx (hb hby d1_3) ?_
  refine own_i2c X0 hx (hb hby d1_4) ?_
  rw [hX0]
  refine own_istoreN (l' := #[.val (.int 1), .val (.int c01), .val (.int c2), .val (.int x0), .unset, .unset]) X0 hx (hb hby d1_5) rfl ?_
  refine own_iloadN X0 hx (hb hby d1_6) rfl ?_
  refine own_bipush X0 hx 16 (hb hby d1_7) rfl ?_
  refine own_iushr X0 hx (hb hby d1_9) ?_
  refine own_ldcI X0 hx hZ hown (own_m hw 4 rfl) (hb hby d1_10) ?_
  refine own_iand X0 hx (hb hby d1_12) ?_
  refine own_i2c X0 hx (hb hby d1_13) ?_
  rw [hX1]
  refine own_istore (l' := #[.val (.int 1), .val (.int c01), .val (.int c2), .val (.int x0), .val (.int x1), .unset]) X0 hx (hb hby d1_14) rfl ?_
  refine own_iloadN X0 hx (hb hby d1_16) rfl ?_
  refine own_ldcI X0 hx hZ hown (own_m hw 4 rfl) (hb hby d1_17) ?_
  refine own_iand X0 hx (hb hby d1_19) ?_
  refine own_i2c X0 hx (hb hby d1_20) ?_
  rw [hX2]
  refine own_istore (l' := #[.val (.int 1), .val (.int c01), .val (.int c2), .val (.int x0), .val (.int x1), .val (.int x2)]) X0 hx (hb hby d1_21) rfl ?_
  refine own_iloadN X0 hx (hb hby d1_23) rfl ?_
  refine own_ifYes X0 hx 38 (hb hby d1_24) (feq (by decide : ¬ ((1 : Int32) = (0 : Int32)))).2 (by decide) (by decide) ?_
  refine own_iloadN X0 hx (hb hby d1_38) rfl ?_
  refine own_iconst X0 hx 1 (hb hby d1_39) rfl ?_
  refine own_icmpNo X0 hx (hb hby d1_40) (teq (by decide : (1 : Int32) = (1 : Int32))).2 ?_
  refine own_newO X0 hx hZ hown (own_m hw 5 rfl) (own_m hw 6 rfl) (own_m hw 7 rfl) e0 (hb hby d1_43) (by decide) (by decide) fun T310 h310 b310 g310 X310 e310 E310 A310 D310 => ?_
  have g_b310 : n0 ≤ b310 := Nat.le_trans Z0 (Nat.le_of_eq g310.symm)
  have szo_b310 : h0.size ≤ b310 := Nat.le_trans (Nat.le_refl h0.size) (Nat.le_of_eq g310.symm)
  have F_coder_b310 : Fld Z h310 b310 "java/lang/String" "coder" "B" (.int 0) := D310 (Or.inr (own_m hw 32 rfl)) (ty := .byte) (by decide)
  have F_value_b310 : Fld Z h310 b310 "java/lang/String" "value" "[B" .null := D310 (Or.inr (own_m hw 34 rfl)) (ty := (.array .byte)) (by decide)
  refine own_dup X310 hx (hb hby d1_46) rfl ?_
  refine own_iconst X310 hx 1 (hb hby d1_47) rfl ?_
  refine own_newP (n := (1 : Int32)) (cap := 1) (ad := "[C") X310 hx hZ (own_m hw 8 rfl) e310 (hb hby d1_48) (by decide) (by decide) (by decide) (by decide) (by decide) (by decide) fun T311 h311 k311 b311 g311 X311 e311 E311 A311 Ex311 => ?_
  have g_b311 : n0 ≤ b311 := Nat.le_trans (Nat.le_trans Z0 E310.1) (Nat.le_of_eq g311.symm)
  have szo_b311 : h0.size ≤ b311 := Nat.le_trans (Nat.le_trans (Nat.le_refl h0.size) E310.1) (Nat.le_of_eq g311.symm)
  have V311 : Arv Z h311 b311 k311 .char (1 : Int32) [(.int 0)] (.int 0) := (Arv.new A311 (by decide)).pad (pad_rep [] (.int 0) 1)
  refine own_dup X311 hx (hb hby d1_50) rfl ?_
  refine own_iconst X311 hx 0 (hb hby d1_51) rfl ?_
  refine own_iloadN X311 hx (hb hby d1_52) rfl ?_
  refine own_stC (vs' := [(.int x0)]) (w := (.int x0)) X311 hx hZ e311 V311 ⟨by decide, by decide⟩ 0 rfl (Nat.le_of_ble_eq_true rfl) (congrArg Value.int (own_nar16 lo0 hi0)) rfl (hb hby d1_53) fun T312 h312 X312 e312 W312 V312 => ?_
  have N312 := Fr.snoc X312 N0 g_b311
  have f313 := (Sta.wr W312 (Sta.ext E311 (Sta.ext E310 Sc)))
  have f314 := (Sta.wr W312 (Sta.ext E311 (Sta.ext E310 Sad)))
  have f315 := (Sta.wr W312 (Sta.ext E311 (Sta.ext E310 Shi)))
  have f316 := (Sta.wr W312 (Sta.ext E311 (Sta.ext E310 Slo)))
  have f317 := (Sta.wr W312 (Sta.ext E311 (Sta.ext E310 Sf)))
  have f318 := (Exa.wr W312 (Exa.ext E311 A310))
  have f319 := (Fld.other W312 (Fld.ext E311 F_coder_b310) (Or.inl (Nat.ne_of_lt (Nat.lt_of_lt_of_le A310.lt (Nat.le_of_eq g311.symm)))))
  have f320 := (Fld.other W312 (Fld.ext E311 F_value_b310) (Or.inl (Nat.ne_of_lt (Nat.lt_of_lt_of_le A310.lt (Nat.le_of_eq g311.symm)))))
  have f321 := (Exa.wr W312 Ex311)
  have Zs322 : n0 ≤ h312.size := (Nat.le_trans (Nat.le_trans (Nat.le_trans Z0 E310.1) E311.1) (Keep.of_wr W312).1)
  refine own_cSpec (b := b310) (W := 1) (rest := [(.ref b310)]) X312 hx hZ [(.ref b311)] rfl hown (own_m hw 9 rfl) (own_m hw 10 rfl) (by decide) (own_m hw 11 rfl) (own_m hw 7 rfl) e312 (rmI1_1 l Z a0 hw [] b310 b311 k311 cs x0 h312 n0 Zs322 f318 f320 f319 g_b310 f313 hcs V312 f321 hx0) (by rw [hml]; rfl) (lenOf pd_16 rfl) rfl (Nat.le_of_eq rfl) (hb hby d1_54) (by decide) (by decide) (by decide) (by decide) fun v323 T323 L323 X323 hQ323 => ?_
  obtain ⟨rfl, N323q, K323, sb323, kb323, szb323, Eb323, Ea323, Fv323, Fc323, Vb323⟩ := hQ323
  have N323 := Fr.app N312 N323q
  show own_At p e below _ T323 m 57 _ [(.ref b310)]
  refine own_retA X323 hx hlk hret rfl rfl rfl (hb hby d1_57) (own_kW X323 hZ hEL (CHr.trans (CHr.trans (CHr.trans (CHr.trans CR0 (CHr.ext E310 CH0)) (CHr.ext E311 (CHv.ext E310 CH0))) (CHr.wr W312 (Safe.exa hZ.alike Ex311 (by decide) (by decide)) (CHv.ext E311 (CHv.ext E310 CH0)))) (CHr.keep K323 (sfS (Safe.wr W312 (Safe.exa hZ.alike Ex311 (by decide) (by decide)) (CHv.ext E311 (CHv.ext E310 CH0)) (Safe.ext E311 (CHv.ext E310 CH0) (Safe.ext E310 CH0 (Safe.new (Nat.le_of_eq g310.symm))))) sf0) (CHv.wr W312 (Safe.exa hZ.alike Ex311 (by decide) (by decide)) (CHv.ext E311 (CHv.ext E310 CH0))))) hS0 (Nat.le_trans (Nat.le_trans (Nat.le_trans (Nat.le_trans (Nat.le_refl _) E310.1) E311.1) (Keep.of_wr W312).1) K323.1) (by decide) (by decide) ?_)
  exact ⟨b310, sb323, kb323, (0 : Int32), (1 : Int32), [(.int (x0.toInt8.toInt32))], rfl, N323, (Keep.trans (Keep.wr (Keep.ext (Keep.ext (Keep.refl h0 []) E310) E311) W312 (Or.inr szo_b311)) K323 (allS (Or.inr szo_b310) all0)), szo_b310, Ea323, Fv323, Fc323, Vb323, fun h0 n0 Z0 Sc hcs Sad Shi Slo Sf hfm Ea Fv Fc Vb => rmH_0_1 l Z a0 hw [] b310 sb323 kb323 cs fm (x0.toInt8.toInt32) h0 n0 Z0 Sc hcs Sad Shi Slo Sf hfm Ea Fv Fc Vb⟩
set_option maxRecDepth 65536 in
set_option maxHeartbeats 40000000 in
theorem rmTX_1_0 (l : Launch) (Z : State) (a0 : Array Value) (hw : own_Wd a0 Z) (ws : List Jvm.Cond) (c01 c2 x0 x1 x2 cs : Int32) (fm : Value)  (h0 : Heap) (n0 : Nat) (Z0 : n0 ≤ h0.size) (Sc : Sta Z h0 "java/lang/String" "COMPACT_STRINGS" "Z" (.int cs)) (hcs : ¬ (cs = (0 : Int32))) (Sad : Sta Z h0 "java/lang/StringUTF16" "$assertionsDisabled" "Z" (.int 1)) (Shi : Sta Z h0 "java/lang/StringUTF16" "HI_BYTE_SHIFT" "I" (.int 0)) (Slo : Sta Z h0 "java/lang/StringUTF16" "LO_BYTE_SHIFT" "I" (.int 8)) (Sf : Sta Z h0 "jdk/internal/util/Preconditions" "SIOOBE_FORMATTER" "Ljava/util/function/BiFunction;" fm) (hfm : fm.isRef = true) (hX0 : ((c01 &&& (65535 : Int32)).toUInt32.toUInt16.toUInt32.toInt32) = x0) (hX1 : ((((c01.toUInt32 >>> ((16 : Int32) &&& 31).toUInt32).toInt32) &&& (65535 : Int32)).toUInt32.toUInt16.toUInt32.toInt32) = x1) (hX2 : ((c2 &&& (65535 : Int32)).toUInt32.toUInt16.toUInt32.toInt32) = x2) (lo0 : ¬ x0 < (0 : Int32)) (hi0 : ¬ (65535 : Int32) < x0) (hx0 : (255 : Int32) < x0) :
    own_MetW l (⟨"com/example/vestline/vestline/cli/BloomFilterAddPinLaw", "text", "(III)Ljava/lang/String;"⟩ : MethodName) method_2_code 6 (some (.object "java/lang/String")) ws ({ frames := 6, cells := 6, slots := 24, locals := 100 } : Room) Z own_EL #[(.int 1), (.int c01), (.int c2)] h0 (fun v h L => ∃ a b kb cd bl bs, v = some (.ref a) ∧ Fr n0 L ∧ Keep h0 h [] ∧ h0.size ≤ a ∧ Exa Z h a "java/lang/String" ∧ Fld Z h a "java/lang/String" "value" "[B" (.ref b) ∧ Fld Z h a "java/lang/String" "coder" "B" (.int cd) ∧ Arv Z h b kb .byte bl bs (.int 0) ∧ own_CH l Z cs fm a b kb cd bl bs (own_H_1_1 (own_lo x0) (own_hi x0))) := by
  refine own_bodyW (plainFor_of_name pn_5) ?_
  intro p e s m below meth c s₁ X0 hx hby hml hown hnm hret hlk hZ e0 hs0 CH0 hS0
  replace hown : (s.setVm s.vm).vm.findClass "com/example/vestline/vestline/cli/BloomFilterAddPinLaw" = some m.cls := hown
  replace hml : c.maxLocals = 6 := hml
  replace hret : meth.sig.returnType = (some (.object "java/lang/String")) := hret
  have N0 := Fr.nil n0
  have hEL : EW Z a0 own_EL := own_ELw hw
  have CR0 : CHr Z own_EL s.vm s.heap s.vm h0 := by rw [hs0]; exact CHr.refl CH0
  refine own_ef (L0 := #[.val (.int 1), .val (.int c01), .val (.int c2), .unset, .unset, .unset]) (by first | (simp [entryFrame, mkF, argsToLocals, Value.category]; done) | rfl) ?_
  refine own_iloadN X0 hx (hb hby d1_0) rfl ?_
  refine own_ldcI X0 hx hZ hown (own_m hw 4 rfl) (hb hby d1_1) ?_
  refine own_iand X0 hx (hb hby d1_3) ?_
  refine own_i2c X0 hx (hb hby d1_4) ?_
  rw [hX0]
  refine own_istoreN (l' := #[.val (.int 1), .val (.int c01), .val (.int c2), .val (.int x0), .unset, .unset]) X0 hx (hb hby d1_5) rfl ?_
  refine own_iloadN X0 hx (hb hby d1_6) rfl ?_
  refine own_bipush X0 hx 16 (hb hby d1_7) rfl ?_
  refine own_iushr X0 hx (hb hby d1_9) ?_
  refine own_ldcI X0 hx hZ hown (own_m hw 4 rfl) (hb hby d1_10) ?_
  refine own_iand X0 hx (hb hby d1_12) ?_
  refine own_i2c X0 hx (hb hby d1_13) ?_
  rw [hX1]
  refine own_istore (l' := #[.val (.int 1), .val (.int c01), .val (.int c2), .val (.int x0), .val (.int x1), .unset]) X0 hx (hb hby d1_14) rfl ?_
  refine own_iloadN X0 hx (hb hby d1_16) rfl ?_
  refine own_ldcI X0 hx hZ hown (own_m hw 4 rfl) (hb hby d1_17) ?_
  refine own_iand X0 hx (hb hby d1_19) ?_
  refine own_i2c X0 hx (hb hby d1_20) ?_
  rw [hX2]
  refine own_istore (l' := #[.val (.int 1), .val (.int c01), .val (.int c2), .val (.int x0), .val (.int x1), .val (.int x2)]) X0 hx (hb hby d1_21) rfl ?_
  refine own_iloadN X0 hx (hb hby d1_23) rfl ?_
  refine own_ifYes X0 hx 38 (hb hby d1_24) (feq (by decide : ¬ ((1 : Int32) = (0 : Int32)))).2 (by decide) (by decide) ?_
  refine own_iloadN X0 hx (hb hby d1_38) rfl ?_
  refine own_iconst X0 hx 1 (hb hby d1_39) rfl ?_
  refine own_icmpNo X0 hx (hb hby d1_40) (teq (by decide : (1 : Int32) = (1 : Int32))).2 ?_
  refine own_newO X0 hx hZ hown (own_m hw 5 rfl) (own_m hw 6 rfl) (own_m hw 7 rfl) e0 (hb hby d1_43) (by decide) (by decide) fun T324 h324 b324 g324 X324 e324 E324 A324 D324 => ?_
  have g_b324 : n0 ≤ b324 := Nat.le_trans Z0 (Nat.le_of_eq g324.symm)
  have szo_b324 : h0.size ≤ b324 := Nat.le_trans (Nat.le_refl h0.size) (Nat.le_of_eq g324.symm)
  have F_coder_b324 : Fld Z h324 b324 "java/lang/String" "coder" "B" (.int 0) := D324 (Or.inr (own_m hw 32 rfl)) (ty := .byte) (by decide)
  have F_value_b324 : Fld Z h324 b324 "java/lang/String" "value" "[B" .null := D324 (Or.inr (own_m hw 34 rfl)) (ty := (.array .byte)) (by decide)
  refine own_dup X324 hx (hb hby d1_46) rfl ?_
  refine own_iconst X324 hx 1 (hb hby d1_47) rfl ?_
  refine own_newP (n := (1 : Int32)) (cap := 1) (ad := "[C") X324 hx hZ (own_m hw 8 rfl) e324 (hb hby d1_48) (by decide) (by decide) (by decide) (by decide) (by decide) (by decide) fun T325 h325 k325 b325 g325 X325 e325 E325 A325 Ex325 => ?_
  have g_b325 : n0 ≤ b325 := Nat.le_trans (Nat.le_trans Z0 E324.1) (Nat.le_of_eq g325.symm)
  have szo_b325 : h0.size ≤ b325 := Nat.le_trans (Nat.le_trans (Nat.le_refl h0.size) E324.1) (Nat.le_of_eq g325.symm)
  have V325 : Arv Z h325 b325 k325 .char (1 : Int32) [(.int 0)] (.int 0) := (Arv.new A325 (by decide)).pad (pad_rep [] (.int 0) 1)
  refine own_dup X325 hx (hb hby d1_50) rfl ?_
  refine own_iconst X325 hx 0 (hb hby d1_51) rfl ?_
  refine own_iloadN X325 hx (hb hby d1_52) rfl ?_
  refine own_stC (vs' := [(.int x0)]) (w := (.int x0)) X325 hx hZ e325 V325 ⟨by decide, by decide⟩ 0 rfl (Nat.le_of_ble_eq_true rfl) (congrArg Value.int (own_nar16 lo0 hi0)) rfl (hb hby d1_53) fun T326 h326 X326 e326 W326 V326 => ?_
  have N326 := Fr.snoc X326 N0 g_b325
  have f327 := (Sta.wr W326 (Sta.ext E325 (Sta.ext E324 Sc)))
  have f328 := (Sta.wr W326 (Sta.ext E325 (Sta.ext E324 Sad)))
  have f329 := (Sta.wr W326 (Sta.ext E325 (Sta.ext E324 Shi)))
  have f330 := (Sta.wr W326 (Sta.ext E325 (Sta.ext E324 Slo)))
  have f331 := (Sta.wr W326 (Sta.ext E325 (Sta.ext E324 Sf)))
  have f332 := (Exa.wr W326 (Exa.ext E325 A324))
  have f333 := (Fld.other W326 (Fld.ext E325 F_coder_b324) (Or.inl (Nat.ne_of_lt (Nat.lt_of_lt_of_le A324.lt (Nat.le_of_eq g325.symm)))))
  have f334 := (Fld.other W326 (Fld.ext E325 F_value_b324) (Or.inl (Nat.ne_of_lt (Nat.lt_of_lt_of_le A324.lt (Nat.le_of_eq g325.symm)))))
  have f335 := (Exa.wr W326 Ex325)
  have Zs336 : n0 ≤ h326.size := (Nat.le_trans (Nat.le_trans (Nat.le_trans Z0 E324.1) E325.1) (Keep.of_wr W326).1)
  refine own_cSpec (b := b324) (W := 1) (rest := [(.ref b324)]) X326 hx hZ [(.ref b325)] rfl hown (own_m hw 9 rfl) (own_m hw 10 rfl) (by decide) (own_m hw 11 rfl) (own_m hw 7 rfl) e326 (rmIu1_1_0 l Z a0 hw [] b324 b325 k325 cs x0 h326 n0 Zs336 f332 f334 f333 g_b324 f327 hcs f328 f329 f330 V326 f335 hx0 lo0 hi0) (by rw [hml]; rfl) (lenOf pd_16 rfl) rfl (Nat.le_of_eq rfl) (hb hby d1_54) (by decide) (by decide) (by decide) (by decide) fun v337 T337 L337 X337 hQ337 => ?_
  obtain ⟨rfl, N337q, K337, sb337, kb337, szb337, Eb337, Ea337, Fv337, Fc337, Vb337⟩ := hQ337
  have N337 := Fr.app N326 N337q
  show own_At p e below _ T337 m 57 _ [(.ref b324)]
  refine own_retA X337 hx hlk hret rfl rfl rfl (hb hby d1_57) (own_kW X337 hZ hEL (CHr.trans (CHr.trans (CHr.trans (CHr.trans CR0 (CHr.ext E324 CH0)) (CHr.ext E325 (CHv.ext E324 CH0))) (CHr.wr W326 (Safe.exa hZ.alike Ex325 (by decide) (by decide)) (CHv.ext E325 (CHv.ext E324 CH0)))) (CHr.keep K337 (sfS (Safe.wr W326 (Safe.exa hZ.alike Ex325 (by decide) (by decide)) (CHv.ext E325 (CHv.ext E324 CH0)) (Safe.ext E325 (CHv.ext E324 CH0) (Safe.ext E324 CH0 (Safe.new (Nat.le_of_eq g324.symm))))) sf0) (CHv.wr W326 (Safe.exa hZ.alike Ex325 (by decide) (by decide)) (CHv.ext E325 (CHv.ext E324 CH0))))) hS0 (Nat.le_trans (Nat.le_trans (Nat.le_trans (Nat.le_trans (Nat.le_refl _) E324.1) E325.1) (Keep.of_wr W326).1) K337.1) (by decide) (by decide) ?_)
  exact ⟨b324, sb337, kb337, (1 : Int32), (2 : Int32), [(.int (own_lo x0)), (.int (own_hi x0))], rfl, N337, (Keep.trans (Keep.wr (Keep.ext (Keep.ext (Keep.refl h0 []) E324) E325) W326 (Or.inr szo_b325)) K337 (allS (Or.inr szo_b324) all0)), szo_b324, Ea337, Fv337, Fc337, Vb337, fun h0 n0 Z0 Sc hcs Sad Shi Slo Sf hfm Ea Fv Fc Vb => rmH_1_1 l Z a0 hw [] b324 sb337 kb337 cs fm (own_lo x0) (own_hi x0) h0 n0 Z0 Sc hcs Sad Shi Slo Sf hfm Ea Fv Fc Vb⟩
set_option maxRecDepth 65536 in
set_option maxHeartbeats 40000000 in
theorem rmTX_2_l (l : Launch) (Z : State) (a0 : Array Value) (hw : own_Wd a0 Z) (ws : List Jvm.Cond) (c01 c2 x0 x1 x2 cs : Int32) (fm : Value)  (h0 : Heap) (n0 : Nat) (Z0 : n0 ≤ h0.size) (Sc : Sta Z h0 "java/lang/String" "COMPACT_STRINGS" "Z" (.int cs)) (hcs : ¬ (cs = (0 : Int32))) (Sad : Sta Z h0 "java/lang/StringUTF16" "$assertionsDisabled" "Z" (.int 1)) (Shi : Sta Z h0 "java/lang/StringUTF16" "HI_BYTE_SHIFT" "I" (.int 0)) (Slo : Sta Z h0 "java/lang/StringUTF16" "LO_BYTE_SHIFT" "I" (.int 8)) (Sf : Sta Z h0 "jdk/internal/util/Preconditions" "SIOOBE_FORMATTER" "Ljava/util/function/BiFunction;" fm) (hfm : fm.isRef = true) (hX0 : ((c01 &&& (65535 : Int32)).toUInt32.toUInt16.toUInt32.toInt32) = x0) (hX1 : ((((c01.toUInt32 >>> ((16 : Int32) &&& 31).toUInt32).toInt32) &&& (65535 : Int32)).toUInt32.toUInt16.toUInt32.toInt32) = x1) (hX2 : ((c2 &&& (65535 : Int32)).toUInt32.toUInt16.toUInt32.toInt32) = x2) (lo0 : ¬ x0 < (0 : Int32)) (hi0 : ¬ (65535 : Int32) < x0) (lo1 : ¬ x1 < (0 : Int32)) (hi1 : ¬ (65535 : Int32) < x1) (hx0 : ¬ ((255 : Int32) < x0)) (hx1 : ¬ ((255 : Int32) < x1)) :
    own_MetW l (⟨"com/example/vestline/vestline/cli/BloomFilterAddPinLaw", "text", "(III)Ljava/lang/String;"⟩ : MethodName) method_2_code 6 (some (.object "java/lang/String")) ws ({ frames := 6, cells := 6, slots := 24, locals := 100 } : Room) Z own_EL #[(.int 2), (.int c01), (.int c2)] h0 (fun v h L => ∃ a b kb cd bl bs, v = some (.ref a) ∧ Fr n0 L ∧ Keep h0 h [] ∧ h0.size ≤ a ∧ Exa Z h a "java/lang/String" ∧ Fld Z h a "java/lang/String" "value" "[B" (.ref b) ∧ Fld Z h a "java/lang/String" "coder" "B" (.int cd) ∧ Arv Z h b kb .byte bl bs (.int 0) ∧ own_CH l Z cs fm a b kb cd bl bs (own_H_0_2 (x0.toInt8.toInt32) (x1.toInt8.toInt32))) := by
  refine own_bodyW (plainFor_of_name pn_5) ?_
  intro p e s m below meth c s₁ X0 hx hby hml hown hnm hret hlk hZ e0 hs0 CH0 hS0
  replace hown : (s.setVm s.vm).vm.findClass "com/example/vestline/vestline/cli/BloomFilterAddPinLaw" = some m.cls := hown
  replace hml : c.maxLocals = 6 := hml
  replace hret : meth.sig.returnType = (some (.object "java/lang/String")) := hret
  have N0 := Fr.nil n0
  have hEL : EW Z a0 own_EL := own_ELw hw
  have CR0 : CHr Z own_EL s.vm s.heap s.vm h0 := by rw [hs0]; exact CHr.refl CH0
  refine own_ef (L0 := #[.val (.int 2), .val (.int c01), .val (.int c2), .unset, .unset, .unset]) (by first | (simp [entryFrame, mkF, argsToLocals, Value.category]; done) | rfl) ?_
  refine own_iloadN X0 hx (hb hby d1_0) rfl ?_
  refine own_ldcI X0 hx hZ hown (own_m hw 4 rfl) (hb hby d1_1) ?_
  refine own_iand X0 hx (hb hby d1_3) ?_
  refine own_i2c X0 hx (hb hby d1_4) ?_
  rw [hX0]
  refine own_istoreN (l' := #[.val (.int 2), .val (.int c01), .val (.int c2), .val (.int x0), .unset, .unset]) X0 hx (hb hby d1_5) rfl ?_
  refine own_iloadN X0 hx (hb hby d1_6) rfl ?_
  refine own_bipush X0 hx 16 (hb hby d1_7) rfl ?_
  refine own_iushr X0 hx (hb hby d1_9) ?_
  refine own_ldcI X0 hx hZ hown (own_m hw 4 rfl) (hb hby d1_10) ?_
  refine own_iand X0 hx (hb hby d1_12) ?_
  refine own_i2c X0 hx (hb hby d1_13) ?_
  rw [hX1]
  refine own_istore (l' := #[.val (.int 2), .val (.int c01), .val (.int c2), .val (.int x0), .val (.int x1), .unset]) X0 hx (hb hby d1_14) rfl ?_
  refine own_iloadN X0 hx (hb hby d1_16) rfl ?_
  refine own_ldcI X0 hx hZ hown (own_m hw 4 rfl) (hb hby d1_17) ?_
  refine own_iand X0 hx (hb hby d1_19) ?_
  refine own_i2c X0 hx (hb hby d1_20) ?_
  rw [hX2]
  refine own_istore (l' := #[.val (.int 2), .val (.int c01), .val (.int c2), .val (.int x0), .val (.int x1), .val (.int x2)]) X0 hx (hb hby d1_21) rfl ?_
  refine own_iloadN X0 hx (hb hby d1_23) rfl ?_
  refine own_ifYes X0 hx 38 (hb hby d1_24) (feq (by decide : ¬ ((2 : Int32) = (0 : Int32)))).2 (by decide) (by decide) ?_
  refine own_iloadN X0 hx (hb hby d1_38) rfl ?_
  refine own_iconst X0 hx 1 (hb hby d1_39) rfl ?_
  refine own_icmpYes X0 hx 58 (hb hby d1_40) (feq (by decide : ¬ ((2 : Int32) = (1 : Int32)))).2 (by decide) (by decide) ?_
  refine own_iloadN X0 hx (hb hby d1_58) rfl ?_
  refine own_iconst X0 hx 2 (hb hby d1_59) rfl ?_
  refine own_icmpNo X0 hx (hb hby d1_60) (teq (by decide : (2 : Int32) = (2 : Int32))).2 ?_
  refine own_newO X0 hx hZ hown (own_m hw 5 rfl) (own_m hw 6 rfl) (own_m hw 7 rfl) e0 (hb hby d1_63) (by decide) (by decide) fun T338 h338 b338 g338 X338 e338 E338 A338 D338 => ?_
  have g_b338 : n0 ≤ b338 := Nat.le_trans Z0 (Nat.le_of_eq g338.symm)
  have szo_b338 : h0.size ≤ b338 := Nat.le_trans (Nat.le_refl h0.size) (Nat.le_of_eq g338.symm)
  have F_coder_b338 : Fld Z h338 b338 "java/lang/String" "coder" "B" (.int 0) := D338 (Or.inr (own_m hw 32 rfl)) (ty := .byte) (by decide)
  have F_value_b338 : Fld Z h338 b338 "java/lang/String" "value" "[B" .null := D338 (Or.inr (own_m hw 34 rfl)) (ty := (.array .byte)) (by decide)
  refine own_dup X338 hx (hb hby d1_66) rfl ?_
  refine own_iconst X338 hx 2 (hb hby d1_67) rfl ?_
  refine own_newP (n := (2 : Int32)) (cap := 2) (ad := "[C") X338 hx hZ (own_m hw 8 rfl) e338 (hb hby d1_68) (by decide) (by decide) (by decide) (by decide) (by decide) (by decide) fun T339 h339 k339 b339 g339 X339 e339 E339 A339 Ex339 => ?_
  have g_b339 : n0 ≤ b339 := Nat.le_trans (Nat.le_trans Z0 E338.1) (Nat.le_of_eq g339.symm)
  have szo_b339 : h0.size ≤ b339 := Nat.le_trans (Nat.le_trans (Nat.le_refl h0.size) E338.1) (Nat.le_of_eq g339.symm)
  have V339 : Arv Z h339 b339 k339 .char (2 : Int32) [(.int 0), (.int 0)] (.int 0) := (Arv.new A339 (by decide)).pad (pad_rep [] (.int 0) 2)
  refine own_dup X339 hx (hb hby d1_70) rfl ?_
  refine own_iconst X339 hx 0 (hb hby d1_71) rfl ?_
  refine own_iloadN X339 hx (hb hby d1_72) rfl ?_
  refine own_stC (vs' := [(.int x0), (.int 0)]) (w := (.int x0)) X339 hx hZ e339 V339 ⟨by decide, by decide⟩ 0 rfl (Nat.le_of_ble_eq_true rfl) (congrArg Value.int (own_nar16 lo0 hi0)) rfl (hb hby d1_73) fun T340 h340 X340 e340 W340 V340 => ?_
  have N340 := Fr.snoc X340 N0 g_b339
  refine own_dup X340 hx (hb hby d1_74) rfl ?_
  refine own_iconst X340 hx 1 (hb hby d1_75) rfl ?_
  refine own_iload X340 hx (hb hby d1_76) rfl ?_
  refine own_stC (vs' := [(.int x0), (.int x1)]) (w := (.int x1)) X340 hx hZ e340 V340 ⟨by decide, by decide⟩ 1 rfl (Nat.le_of_ble_eq_true rfl) (congrArg Value.int (own_nar16 lo1 hi1)) rfl (hb hby d1_78) fun T341 h341 X341 e341 W341 V341 => ?_
  have N341 := Fr.snoc X341 N340 g_b339
  have f342 := (Sta.wr W341 (Sta.wr W340 (Sta.ext E339 (Sta.ext E338 Sc))))
  have f343 := (Sta.wr W341 (Sta.wr W340 (Sta.ext E339 (Sta.ext E338 Sad))))
  have f344 := (Sta.wr W341 (Sta.wr W340 (Sta.ext E339 (Sta.ext E338 Shi))))
  have f345 := (Sta.wr W341 (Sta.wr W340 (Sta.ext E339 (Sta.ext E338 Slo))))
  have f346 := (Sta.wr W341 (Sta.wr W340 (Sta.ext E339 (Sta.ext E338 Sf))))
  have f347 := (Exa.wr W341 (Exa.wr W340 (Exa.ext E339 A338)))
  have f348 := (Fld.other W341 (Fld.other W340 (Fld.ext E339 F_coder_b338) (Or.inl (Nat.ne_of_lt (Nat.lt_of_lt_of_le A338.lt (Nat.le_of_eq g339.symm))))) (Or.inl (Nat.ne_of_lt (Nat.lt_of_lt_of_le A338.lt (Nat.le_of_eq g339.symm)))))
  have f349 := (Fld.other W341 (Fld.other W340 (Fld.ext E339 F_value_b338) (Or.inl (Nat.ne_of_lt (Nat.lt_of_lt_of_le A338.lt (Nat.le_of_eq g339.symm))))) (Or.inl (Nat.ne_of_lt (Nat.lt_of_lt_of_le A338.lt (Nat.le_of_eq g339.symm)))))
  have f350 := (Exa.wr W341 (Exa.wr W340 Ex339))
  have Zs351 : n0 ≤ h341.size := (Nat.le_trans (Nat.le_trans (Nat.le_trans (Nat.le_trans Z0 E338.1) E339.1) (Keep.of_wr W340).1) (Keep.of_wr W341).1)
  refine own_cSpec (b := b338) (W := 1) (rest := [(.ref b338)]) X341 hx hZ [(.ref b339)] rfl hown (own_m hw 9 rfl) (own_m hw 10 rfl) (by decide) (own_m hw 11 rfl) (own_m hw 7 rfl) e341 (rmI1_2 l Z a0 hw [] b338 b339 k339 cs x0 x1 h341 n0 Zs351 f347 f349 f348 g_b338 f342 hcs V341 f350 hx0 hx1) (by rw [hml]; rfl) (lenOf pd_16 rfl) rfl (Nat.le_of_eq rfl) (hb hby d1_79) (by decide) (by decide) (by decide) (by decide) fun v352 T352 L352 X352 hQ352 => ?_
  obtain ⟨rfl, N352q, K352, sb352, kb352, szb352, Eb352, Ea352, Fv352, Fc352, Vb352⟩ := hQ352
  have N352 := Fr.app N341 N352q
  show own_At p e below _ T352 m 82 _ [(.ref b338)]
  refine own_retA X352 hx hlk hret rfl rfl rfl (hb hby d1_82) (own_kW X352 hZ hEL (CHr.trans (CHr.trans (CHr.trans (CHr.trans (CHr.trans CR0 (CHr.ext E338 CH0)) (CHr.ext E339 (CHv.ext E338 CH0))) (CHr.wr W340 (Safe.exa hZ.alike Ex339 (by decide) (by decide)) (CHv.ext E339 (CHv.ext E338 CH0)))) (CHr.wr W341 (Safe.exa hZ.alike (Exa.wr W340 Ex339) (by decide) (by decide)) (CHv.wr W340 (Safe.exa hZ.alike Ex339 (by decide) (by decide)) (CHv.ext E339 (CHv.ext E338 CH0))))) (CHr.keep K352 (sfS (Safe.wr W341 (Safe.exa hZ.alike (Exa.wr W340 Ex339) (by decide) (by decide)) (CHv.wr W340 (Safe.exa hZ.alike Ex339 (by decide) (by decide)) (CHv.ext E339 (CHv.ext E338 CH0))) (Safe.wr W340 (Safe.exa hZ.alike Ex339 (by decide) (by decide)) (CHv.ext E339 (CHv.ext E338 CH0)) (Safe.ext E339 (CHv.ext E338 CH0) (Safe.ext E338 CH0 (Safe.new (Nat.le_of_eq g338.symm)))))) sf0) (CHv.wr W341 (Safe.exa hZ.alike (Exa.wr W340 Ex339) (by decide) (by decide)) (CHv.wr W340 (Safe.exa hZ.alike Ex339 (by decide) (by decide)) (CHv.ext E339 (CHv.ext E338 CH0)))))) hS0 (Nat.le_trans (Nat.le_trans (Nat.le_trans (Nat.le_trans (Nat.le_trans (Nat.le_refl _) E338.1) E339.1) (Keep.of_wr W340).1) (Keep.of_wr W341).1) K352.1) (by decide) (by decide) ?_)
  exact ⟨b338, sb352, kb352, (0 : Int32), (2 : Int32), [(.int (x0.toInt8.toInt32)), (.int (x1.toInt8.toInt32))], rfl, N352, (Keep.trans (Keep.wr (Keep.wr (Keep.ext (Keep.ext (Keep.refl h0 []) E338) E339) W340 (Or.inr szo_b339)) W341 (Or.inr szo_b339)) K352 (allS (Or.inr szo_b338) all0)), szo_b338, Ea352, Fv352, Fc352, Vb352, fun h0 n0 Z0 Sc hcs Sad Shi Slo Sf hfm Ea Fv Fc Vb => rmH_0_2 l Z a0 hw [] b338 sb352 kb352 cs fm (x0.toInt8.toInt32) (x1.toInt8.toInt32) h0 n0 Z0 Sc hcs Sad Shi Slo Sf hfm Ea Fv Fc Vb⟩
set_option maxRecDepth 65536 in
set_option maxHeartbeats 40000000 in
theorem rmTX_2_0 (l : Launch) (Z : State) (a0 : Array Value) (hw : own_Wd a0 Z) (ws : List Jvm.Cond) (c01 c2 x0 x1 x2 cs : Int32) (fm : Value)  (h0 : Heap) (n0 : Nat) (Z0 : n0 ≤ h0.size) (Sc : Sta Z h0 "java/lang/String" "COMPACT_STRINGS" "Z" (.int cs)) (hcs : ¬ (cs = (0 : Int32))) (Sad : Sta Z h0 "java/lang/StringUTF16" "$assertionsDisabled" "Z" (.int 1)) (Shi : Sta Z h0 "java/lang/StringUTF16" "HI_BYTE_SHIFT" "I" (.int 0)) (Slo : Sta Z h0 "java/lang/StringUTF16" "LO_BYTE_SHIFT" "I" (.int 8)) (Sf : Sta Z h0 "jdk/internal/util/Preconditions" "SIOOBE_FORMATTER" "Ljava/util/function/BiFunction;" fm) (hfm : fm.isRef = true) (hX0 : ((c01 &&& (65535 : Int32)).toUInt32.toUInt16.toUInt32.toInt32) = x0) (hX1 : ((((c01.toUInt32 >>> ((16 : Int32) &&& 31).toUInt32).toInt32) &&& (65535 : Int32)).toUInt32.toUInt16.toUInt32.toInt32) = x1) (hX2 : ((c2 &&& (65535 : Int32)).toUInt32.toUInt16.toUInt32.toInt32) = x2) (lo0 : ¬ x0 < (0 : Int32)) (hi0 : ¬ (65535 : Int32) < x0) (lo1 : ¬ x1 < (0 : Int32)) (hi1 : ¬ (65535 : Int32) < x1) (hx0 : (255 : Int32) < x0) :
    own_MetW l (⟨"com/example/vestline/vestline/cli/BloomFilterAddPinLaw", "text", "(III)Ljava/lang/String;"⟩ : MethodName) method_2_code 6 (some (.object "java/lang/String")) ws ({ frames := 6, cells := 6, slots := 24, locals := 100 } : Room) Z own_EL #[(.int 2), (.int c01), (.int c2)] h0 (fun v h L => ∃ a b kb cd bl bs, v = some (.ref a) ∧ Fr n0 L ∧ Keep h0 h [] ∧ h0.size ≤ a ∧ Exa Z h a "java/lang/String" ∧ Fld Z h a "java/lang/String" "value" "[B" (.ref b) ∧ Fld Z h a "java/lang/String" "coder" "B" (.int cd) ∧ Arv Z h b kb .byte bl bs (.int 0) ∧ own_CH l Z cs fm a b kb cd bl bs (own_H_1_2 (own_lo x0) (own_hi x0) (own_lo x1) (own_hi x1))) := by
  refine own_bodyW (plainFor_of_name pn_5) ?_
  intro p e s m below meth c s₁ X0 hx hby hml hown hnm hret hlk hZ e0 hs0 CH0 hS0
  replace hown : (s.setVm s.vm).vm.findClass "com/example/vestline/vestline/cli/BloomFilterAddPinLaw" = some m.cls := hown
  replace hml : c.maxLocals = 6 := hml
  replace hret : meth.sig.returnType = (some (.object "java/lang/String")) := hret
  have N0 := Fr.nil n0
  have hEL : EW Z a0 own_EL := own_ELw hw
  have CR0 : CHr Z own_EL s.vm s.heap s.vm h0 := by rw [hs0]; exact CHr.refl CH0
  refine own_ef (L0 := #[.val (.int 2), .val (.int c01), .val (.int c2), .unset, .unset, .unset]) (by first | (simp [entryFrame, mkF, argsToLocals, Value.category]; done) | rfl) ?_
  refine own_iloadN X0 hx (hb hby d1_0) rfl ?_
  refine own_ldcI X0 hx hZ hown (own_m hw 4 rfl) (hb hby d1_1) ?_
  refine own_iand X0 hx (hb hby d1_3) ?_
  refine own_i2c X0 hx (hb hby d1_4) ?_
  rw [hX0]
  refine own_istoreN (l' := #[.val (.int 2), .val (.int c01), .val (.int c2), .val (.int x0), .unset, .unset]) X0 hx (hb hby d1_5) rfl ?_
  refine own_iloadN X0 hx (hb hby d1_6) rfl ?_
  refine own_bipush X0 hx 16 (hb hby d1_7) rfl ?_
  refine own_iushr X0 hx (hb hby d1_9) ?_
  refine own_ldcI X0 hx hZ hown (own_m hw 4 rfl) (hb hby d1_10) ?_
  refine own_iand X0 hx (hb hby d1_12) ?_
  refine own_i2c X0 hx (hb hby d1_13) ?_
  rw [hX1]
  refine own_istore (l' := #[.val (.int 2), .val (.int c01), .val (.int c2), .val (.int x0), .val (.int x1), .unset]) X0 hx (hb hby d1_14) rfl ?_
  refine own_iloadN X0 hx (hb hby d1_16) rfl ?_
  refine own_ldcI X0 hx hZ hown (own_m hw 4 rfl) (hb hby d1_17) ?_
  refine own_iand X0 hx (hb hby d1_19) ?_
  refine own_i2c X0 hx (hb hby d1_20) ?_
  rw [hX2]
  refine own_istore (l' := #[.val (.int 2), .val (.int c01), .val (.int c2), .val (.int x0), .val (.int x1), .val (.int x2)]) X0 hx (hb hby d1_21) rfl ?_
  refine own_iloadN X0 hx (hb hby d1_23) rfl ?_
  refine own_ifYes X0 hx 38 (hb hby d1_24) (feq (by decide : ¬ ((2 : Int32) = (0 : Int32)))).2 (by decide) (by decide) ?_
  refine own_iloadN X0 hx (hb hby d1_38) rfl ?_
  refine own_iconst X0 hx 1 (hb hby d1_39) rfl ?_
  refine own_icmpYes X0 hx 58 (hb hby d1_40) (feq (by decide : ¬ ((2 : Int32) = (1 : Int32)))).2 (by decide) (by decide) ?_
  refine own_iloadN X0 hx (hb hby d1_58) rfl ?_
  refine own_iconst X0 hx 2 (hb hby d1_59) rfl ?_
  refine own_icmpNo X0 hx (hb hby d1_60) (teq (by decide : (2 : Int32) = (2 : Int32))).2 ?_
  refine own_newO X0 hx hZ hown (own_m hw 5 rfl) (own_m hw 6 rfl) (own_m hw 7 rfl) e0 (hb hby d1_63) (by decide) (by decide) fun T353 h353 b353 g353 X353 e353 E353 A353 D353 => ?_
  have g_b353 : n0 ≤ b353 := Nat.le_trans Z0 (Nat.le_of_eq g353.symm)
  have szo_b353 : h0.size ≤ b353 := Nat.le_trans (Nat.le_refl h0.size) (Nat.le_of_eq g353.symm)
  have F_coder_b353 : Fld Z h353 b353 "java/lang/String" "coder" "B" (.int 0) := D353 (Or.inr (own_m hw 32 rfl)) (ty := .byte) (by decide)
  have F_value_b353 : Fld Z h353 b353 "java/lang/String" "value" "[B" .null := D353 (Or.inr (own_m hw 34 rfl)) (ty := (.array .byte)) (by decide)
  refine own_dup X353 hx (hb hby d1_66) rfl ?_
  refine own_iconst X353 hx 2 (hb hby d1_67) rfl ?_
  refine own_newP (n := (2 : Int32)) (cap := 2) (ad := "[C") X353 hx hZ (own_m hw 8 rfl) e353 (hb hby d1_68) (by decide) (by decide) (by decide) (by decide) (by decide) (by decide) fun T354 h354 k354 b354 g354 X354 e354 E354 A354 Ex354 => ?_
  have g_b354 : n0 ≤ b354 := Nat.le_trans (Nat.le_trans Z0 E353.1) (Nat.le_of_eq g354.symm)
  have szo_b354 : h0.size ≤ b354 := Nat.le_trans (Nat.le_trans (Nat.le_refl h0.size) E353.1) (Nat.le_of_eq g354.symm)
  have V354 : Arv Z h354 b354 k354 .char (2 : Int32) [(.int 0), (.int 0)] (.int 0) := (Arv.new A354 (by decide)).pad (pad_rep [] (.int 0) 2)
  refine own_dup X354 hx (hb hby d1_70) rfl ?_
  refine own_iconst X354 hx 0 (hb hby d1_71) rfl ?_
  refine own_iloadN X354 hx (hb hby d1_72) rfl ?_
  refine own_stC (vs' := [(.int x0), (.int 0)]) (w := (.int x0)) X354 hx hZ e354 V354 ⟨by decide, by decide⟩ 0 rfl (Nat.le_of_ble_eq_true rfl) (congrArg Value.int (own_nar16 lo0 hi0)) rfl (hb hby d1_73) fun T355 h355 X355 e355 W355 V355 => ?_
  have N355 := Fr.snoc X355 N0 g_b354
  refine own_dup X355 hx (hb hby d1_74) rfl ?_
  refine own_iconst X355 hx 1 (hb hby d1_75) rfl ?_
  refine own_iload X355 hx (hb hby d1_76) rfl ?_
  refine own_stC (vs' := [(.int x0), (.int x1)]) (w := (.int x1)) X355 hx hZ e355 V355 ⟨by decide, by decide⟩ 1 rfl (Nat.le_of_ble_eq_true rfl) (congrArg Value.int (own_nar16 lo1 hi1)) rfl (hb hby d1_78) fun T356 h356 X356 e356 W356 V356 => ?_
  have N356 := Fr.snoc X356 N355 g_b354
  have f357 := (Sta.wr W356 (Sta.wr W355 (Sta.ext E354 (Sta.ext E353 Sc))))
  have f358 := (Sta.wr W356 (Sta.wr W355 (Sta.ext E354 (Sta.ext E353 Sad))))
  have f359 := (Sta.wr W356 (Sta.wr W355 (Sta.ext E354 (Sta.ext E353 Shi))))
  have f360 := (Sta.wr W356 (Sta.wr W355 (Sta.ext E354 (Sta.ext E353 Slo))))
  have f361 := (Sta.wr W356 (Sta.wr W355 (Sta.ext E354 (Sta.ext E353 Sf))))
  have f362 := (Exa.wr W356 (Exa.wr W355 (Exa.ext E354 A353)))
  have f363 := (Fld.other W356 (Fld.other W355 (Fld.ext E354 F_coder_b353) (Or.inl (Nat.ne_of_lt (Nat.lt_of_lt_of_le A353.lt (Nat.le_of_eq g354.symm))))) (Or.inl (Nat.ne_of_lt (Nat.lt_of_lt_of_le A353.lt (Nat.le_of_eq g354.symm)))))
  have f364 := (Fld.other W356 (Fld.other W355 (Fld.ext E354 F_value_b353) (Or.inl (Nat.ne_of_lt (Nat.lt_of_lt_of_le A353.lt (Nat.le_of_eq g354.symm))))) (Or.inl (Nat.ne_of_lt (Nat.lt_of_lt_of_le A353.lt (Nat.le_of_eq g354.symm)))))
  have f365 := (Exa.wr W356 (Exa.wr W355 Ex354))
  have Zs366 : n0 ≤ h356.size := (Nat.le_trans (Nat.le_trans (Nat.le_trans (Nat.le_trans Z0 E353.1) E354.1) (Keep.of_wr W355).1) (Keep.of_wr W356).1)
  refine own_cSpec (b := b353) (W := 1) (rest := [(.ref b353)]) X356 hx hZ [(.ref b354)] rfl hown (own_m hw 9 rfl) (own_m hw 10 rfl) (by decide) (own_m hw 11 rfl) (own_m hw 7 rfl) e356 (rmIu1_2_0 l Z a0 hw [] b353 b354 k354 cs x0 x1 h356 n0 Zs366 f362 f364 f363 g_b353 f357 hcs f358 f359 f360 V356 f365 hx0 lo0 hi0) (by rw [hml]; rfl) (lenOf pd_16 rfl) rfl (Nat.le_of_eq rfl) (hb hby d1_79) (by decide) (by decide) (by decide) (by decide) fun v367 T367 L367 X367 hQ367 => ?_
  obtain ⟨rfl, N367q, K367, sb367, kb367, szb367, Eb367, Ea367, Fv367, Fc367, Vb367⟩ := hQ367
  have N367 := Fr.app N356 N367q
  show own_At p e below _ T367 m 82 _ [(.ref b353)]
  refine own_retA X367 hx hlk hret rfl rfl rfl (hb hby d1_82) (own_kW X367 hZ hEL (CHr.trans (CHr.trans (CHr.trans (CHr.trans (CHr.trans CR0 (CHr.ext E353 CH0)) (CHr.ext E354 (CHv.ext E353 CH0))) (CHr.wr W355 (Safe.exa hZ.alike Ex354 (by decide) (by decide)) (CHv.ext E354 (CHv.ext E353 CH0)))) (CHr.wr W356 (Safe.exa hZ.alike (Exa.wr W355 Ex354) (by decide) (by decide)) (CHv.wr W355 (Safe.exa hZ.alike Ex354 (by decide) (by decide)) (CHv.ext E354 (CHv.ext E353 CH0))))) (CHr.keep K367 (sfS (Safe.wr W356 (Safe.exa hZ.alike (Exa.wr W355 Ex354) (by decide) (by decide)) (CHv.wr W355 (Safe.exa hZ.alike Ex354 (by decide) (by decide)) (CHv.ext E354 (CHv.ext E353 CH0))) (Safe.wr W355 (Safe.exa hZ.alike Ex354 (by decide) (by decide)) (CHv.ext E354 (CHv.ext E353 CH0)) (Safe.ext E354 (CHv.ext E353 CH0) (Safe.ext E353 CH0 (Safe.new (Nat.le_of_eq g353.symm)))))) sf0) (CHv.wr W356 (Safe.exa hZ.alike (Exa.wr W355 Ex354) (by decide) (by decide)) (CHv.wr W355 (Safe.exa hZ.alike Ex354 (by decide) (by decide)) (CHv.ext E354 (CHv.ext E353 CH0)))))) hS0 (Nat.le_trans (Nat.le_trans (Nat.le_trans (Nat.le_trans (Nat.le_trans (Nat.le_refl _) E353.1) E354.1) (Keep.of_wr W355).1) (Keep.of_wr W356).1) K367.1) (by decide) (by decide) ?_)
  exact ⟨b353, sb367, kb367, (1 : Int32), (4 : Int32), [(.int (own_lo x0)), (.int (own_hi x0)), (.int (own_lo x1)), (.int (own_hi x1))], rfl, N367, (Keep.trans (Keep.wr (Keep.wr (Keep.ext (Keep.ext (Keep.refl h0 []) E353) E354) W355 (Or.inr szo_b354)) W356 (Or.inr szo_b354)) K367 (allS (Or.inr szo_b353) all0)), szo_b353, Ea367, Fv367, Fc367, Vb367, fun h0 n0 Z0 Sc hcs Sad Shi Slo Sf hfm Ea Fv Fc Vb => rmH_1_2 l Z a0 hw [] b353 sb367 kb367 cs fm (own_lo x0) (own_hi x0) (own_lo x1) (own_hi x1) h0 n0 Z0 Sc hcs Sad Shi Slo Sf hfm Ea Fv Fc Vb⟩
set_option maxRecDepth 65536 in
set_option maxHeartbeats 40000000 in
theorem rmTX_2_1 (l : Launch) (Z : State) (a0 : Array Value) (hw : own_Wd a0 Z) (ws : List Jvm.Cond) (c01 c2 x0 x1 x2 cs : Int32) (fm : Value)  (h0 : Heap) (n0 : Nat) (Z0 : n0 ≤ h0.size) (Sc : Sta Z h0 "java/lang/String" "COMPACT_STRINGS" "Z" (.int cs)) (hcs : ¬ (cs = (0 : Int32))) (Sad : Sta Z h0 "java/lang/StringUTF16" "$assertionsDisabled" "Z" (.int 1)) (Shi : Sta Z h0 "java/lang/StringUTF16" "HI_BYTE_SHIFT" "I" (.int 0)) (Slo : Sta Z h0 "java/lang/StringUTF16" "LO_BYTE_SHIFT" "I" (.int 8)) (Sf : Sta Z h0 "jdk/internal/util/Preconditions" "SIOOBE_FORMATTER" "Ljava/util/function/BiFunction;" fm) (hfm : fm.isRef = true) (hX0 : ((c01 &&& (65535 : Int32)).toUInt32.toUInt16.toUInt32.toInt32) = x0) (hX1 : ((((c01.toUInt32 >>> ((16 : Int32) &&& 31).toUInt32).toInt32) &&& (65535 : Int32)).toUInt32.toUInt16.toUInt32.toInt32) = x1) (hX2 : ((c2 &&& (65535 : Int32)).toUInt32.toUInt16.toUInt32.toInt32) = x2) (lo0 : ¬ x0 < (0 : Int32)) (hi0 : ¬ (65535 : Int32) < x0) (lo1 : ¬ x1 < (0 : Int32)) (hi1 : ¬ (65535 : Int32) < x1) (hx0 : ¬ ((255 : Int32) < x0)) (hx1 : (255 : Int32) < x1) :
    own_MetW l (⟨"com/example/vestline/vestline/cli/BloomFilterAddPinLaw", "text", "(III)Ljava/lang/String;"⟩ : MethodName) method_2_code 6 (some (.object "java/lang/String")) ws ({ frames := 6, cells := 6, slots := 24, locals := 100 } : Room) Z own_EL #[(.int 2), (.int c01), (.int c2)] h0 (fun v h L => ∃ a b kb cd bl bs, v = some (.ref a) ∧ Fr n0 L ∧ Keep h0 h [] ∧ h0.size ≤ a ∧ Exa Z h a "java/lang/String" ∧ Fld Z h a "java/lang/String" "value" "[B" (.ref b) ∧ Fld Z h a "java/lang/String" "coder" "B" (.int cd) ∧ Arv Z h b kb .byte bl bs (.int 0) ∧ own_CH l Z cs fm a b kb cd bl bs (own_H_1_2 (own_lo x0) (own_hi x0) (own_lo x1) (own_hi x1))) := by
  refine own_bodyW (plainFor_of_name pn_5) ?_
  intro p e s m below meth c s₁ X0 hx hby hml hown hnm hret hlk hZ e0 hs0 CH0 hS0
  replace hown : (s.setVm s.vm).vm.findClass "com/example/vestline/vestline/cli/BloomFilterAddPinLaw" = some m.cls := hown
  replace hml : c.maxLocals = 6 := hml
  replace hret : meth.sig.returnType = (some (.object "java/lang/String")) := hret
  have N0 := Fr.nil n0
  have hEL : EW Z a0 own_EL := own_ELw hw
  have CR0 : CHr Z own_EL s.vm s.heap s.vm h0 := by rw [hs0]; exact CHr.refl CH0
  refine own_ef (L0 := #[.val (.int 2), .val (.int c01), .val (.int c2), .unset, .unset, .unset]) (by first | (simp [entryFrame, mkF, argsToLocals, Value.category]; done) | rfl) ?_
  refine own_iloadN X0 hx (hb hby d1_0) rfl ?_
  refine own_ldcI X0 hx hZ hown (own_m hw 4 rfl) (hb hby d1_1) ?_
  refine own_iand X0 hx (hb hby d1_3) ?_
  refine own_i2c X0 hx (hb hby d1_4) ?_
  rw [hX0]
  refine own_istoreN (l' := #[.val (.int 2), .val (.int c01), .val (.int c2), .val (.int x0), .unset, .unset]) X0 hx (hb hby d1_5) rfl ?_
  refine own_iloadN X0 hx (hb hby d1_6) rfl ?_
  refine own_bipush X0 hx 16 (hb hby d1_7) rfl ?_
  refine own_iushr X0 hx (hb hby d1_9) ?_
  refine own_ldcI X0 hx hZ hown (own_m hw 4 rfl) (hb hby d1_10) ?_
  refine own_iand X0 hx (hb hby d1_12) ?_
  refine own_i2c X0 hx (hb hby d1_13) ?_
  rw [hX1]
  refine own_istore (l' := #[.val (.int 2), .val (.int c01), .val (.int c2), .val (.int x0), .val (.int x1), .unset]) X0 hx (hb hby d1_14) rfl ?_
  refine own_iloadN X0 hx (hb hby d1_16) rfl ?_
  refine own_ldcI X0 hx hZ hown (own_m hw 4 rfl) (hb hby d1_17) ?_
  refine own_iand X0 hx (hb hby d1_19) ?_
  refine own_i2c X0 hx (hb hby d1_20) ?_
  rw [hX2]
  refine own_istore (l' := #[.val (.int 2), .val (.int c01), .val (.int c2), .val (.int x0), .val (.int x1), .val (.int x2)]) X0 hx (hb hby d1_21) rfl ?_
  refine own_iloadN X0 hx (hb hby d1_23) rfl ?_
  refine own_ifYes X0 hx 38 (hb hby d1_24) (feq (by decide : ¬ ((2 : Int32) = (0 : Int32)))).2 (by decide) (by decide) ?_
  refine own_iloadN X0 hx (hb hby d1_38) rfl ?_
  refine own_iconst X0 hx 1 (hb hby d1_39) rfl ?_
  refine own_icmpYes X0 hx 58 (hb hby d1_40) (feq (by decide : ¬ ((2 : Int32) = (1 : Int32)))).2 (by decide) (by decide) ?_
  refine own_iloadN X0 hx (hb hby d1_58) rfl ?_
  refine own_iconst X0 hx 2 (hb hby d1_59) rfl ?_
  refine own_icmpNo X0 hx (hb hby d1_60) (teq (by decide : (2 : Int32) = (2 : Int32))).2 ?_
  refine own_newO X0 hx hZ hown (own_m hw 5 rfl) (own_m hw 6 rfl) (own_m hw 7 rfl) e0 (hb hby d1_63) (by decide) (by decide) fun T368 h368 b368 g368 X368 e368 E368 A368 D368 => ?_
  have g_b368 : n0 ≤ b368 := Nat.le_trans Z0 (Nat.le_of_eq g368.symm)
  have szo_b368 : h0.size ≤ b368 := Nat.le_trans (Nat.le_refl h0.size) (Nat.le_of_eq g368.symm)
  have F_coder_b368 : Fld Z h368 b368 "java/lang/String" "coder" "B" (.int 0) := D368 (Or.inr (own_m hw 32 rfl)) (ty := .byte) (by decide)
  have F_value_b368 : Fld Z h368 b368 "java/lang/String" "value" "[B" .null := D368 (Or.inr (own_m hw 34 rfl)) (ty := (.array .byte)) (by decide)
  refine own_dup X368 hx (hb hby d1_66) rfl ?_
  refine own_iconst X368 hx 2 (hb hby d1_67) rfl ?_
  refine own_newP (n := (2 : Int32)) (cap := 2) (ad := "[C") X368 hx hZ (own_m hw 8 rfl) e368 (hb hby d1_68) (by decide) (by decide) (by decide) (by decide) (by decide) (by decide) fun T369 h369 k369 b369 g369 X369 e369 E369 A369 Ex369 => ?_
  have g_b369 : n0 ≤ b369 := Nat.le_trans (Nat.le_trans Z0 E368.1) (Nat.le_of_eq g369.symm)
  have szo_b369 : h0.size ≤ b369 := Nat.le_trans (Nat.le_trans (Nat.le_refl h0.size) E368.1) (Nat.le_of_eq g369.symm)
  have V369 : Arv Z h369 b369 k369 .char (2 : Int32) [(.int 0), (.int 0)] (.int 0) := (Arv.new A369 (by decide)).pad (pad_rep [] (.int 0) 2)
  refine own_dup X369 hx (hb hby d1_70) rfl ?_
  refine own_iconst X369 hx 0 (hb hby d1_71) rfl ?_
  refine own_iloadN X369 hx (hb hby d1_72) rfl ?_
  refine own_stC (vs' := [(.int x0), (.int 0)]) (w := (.int x0)) X369 hx hZ e369 V369 ⟨by decide, by decide⟩ 0 rfl (Nat.le_of_ble_eq_true rfl) (congrArg Value.int (own_nar16 lo0 hi0)) rfl (hb hby d1_73) fun T370 h370 X370 e370 W370 V370 => ?_
  have N370 := Fr.snoc X370 N0 g_b369
  refine own_dup X370 hx (hb hby d1_74) rfl ?_
  refine own_iconst X370 hx 1 (hb hby d1_75) rfl ?_
  refine own_iload X370 hx (hb hby d1_76) rfl ?_
  refine own_stC (vs' := [(.int x0), (.int x1)]) (w := (.int x1)) X370 hx hZ e370 V370 ⟨by decide, by decide⟩ 1 rfl (Nat.le_of_ble_eq_true rfl) (congrArg Value.int (own_nar16 lo1 hi1)) rfl (hb hby d1_78) fun T371 h371 X371 e371 W371 V371 => ?_
  have N371 := Fr.snoc X371 N370 g_b369
  have f372 := (Sta.wr W371 (Sta.wr W370 (Sta.ext E369 (Sta.ext E368 Sc))))
  have f373 := (Sta.wr W371 (Sta.wr W370 (Sta.ext E369 (Sta.ext E368 Sad))))
  have f374 := (Sta.wr W371 (Sta.wr W370 (Sta.ext E369 (Sta.ext E368 Shi))))
  have f375 := (Sta.wr W371 (Sta.wr W370 (Sta.ext E369 (Sta.ext E368 Slo))))
  have f376 := (Sta.wr W371 (Sta.wr W370 (Sta.ext E369 (Sta.ext E368 Sf))))
  have f377 := (Exa.wr W371 (Exa.wr W370 (Exa.ext E369 A368)))
  have f378 := (Fld.other W371 (Fld.other W370 (Fld.ext E369 F_coder_b368) (Or.inl (Nat.ne_of_lt (Nat.lt_of_lt_of_le A368.lt (Nat.le_of_eq g369.symm))))) (Or.inl (Nat.ne_of_lt (Nat.lt_of_lt_of_le A368.lt (Nat.le_of_eq g369.symm)))))
  have f379 := (Fld.other W371 (Fld.other W370 (Fld.ext E369 F_value_b368) (Or.inl (Nat.ne_of_lt (Nat.lt_of_lt_of_le A368.lt (Nat.le_of_eq g369.symm))))) (Or.inl (Nat.ne_of_lt (Nat.lt_of_lt_of_le A368.lt (Nat.le_of_eq g369.symm)))))
  have f380 := (Exa.wr W371 (Exa.wr W370 Ex369))
  have Zs381 : n0 ≤ h371.size := (Nat.le_trans (Nat.le_trans (Nat.le_trans (Nat.le_trans Z0 E368.1) E369.1) (Keep.of_wr W370).1) (Keep.of_wr W371).1)
  refine own_cSpec (b := b368) (W := 1) (rest := [(.ref b368)]) X371 hx hZ [(.ref b369)] rfl hown (own_m hw 9 rfl) (own_m hw 10 rfl) (by decide) (own_m hw 11 rfl) (own_m hw 7 rfl) e371 (rmIu1_2_1 l Z a0 hw [] b368 b369 k369 cs x0 x1 h371 n0 Zs381 f377 f379 f378 g_b368 f372 hcs f373 f374 f375 V371 f380 hx0 hx1 lo1 hi1) (by rw [hml]; rfl) (lenOf pd_16 rfl) rfl (Nat.le_of_eq rfl) (hb hby d1_79) (by decide) (by decide) (by decide) (by decide) fun v382 T382 L382 X382 hQ382 => ?_
  obtain ⟨rfl, N382q, K382, sb382, kb382, szb382, Eb382, Ea382, Fv382, Fc382, Vb382⟩ := hQ382
  have N382 := Fr.app N371 N382q
  show own_At p e below _ T382 m 82 _ [(.ref b368)]
  refine own_retA X382 hx hlk hret rfl rfl rfl (hb hby d1_82) (own_kW X382 hZ hEL (CHr.trans (CHr.trans (CHr.trans (CHr.trans (CHr.trans CR0 (CHr.ext E368 CH0)) (CHr.ext E369 (CHv.ext E368 CH0))) (CHr.wr W370 (Safe.exa hZ.alike Ex369 (by decide) (by decide)) (CHv.ext E369 (CHv.ext E368 CH0)))) (CHr.wr W371 (Safe.exa hZ.alike (Exa.wr W370 Ex369) (by decide) (by decide)) (CHv.wr W370 (Safe.exa hZ.alike Ex369 (by decide) (by decide)) (CHv.ext E369 (CHv.ext E368 CH0))))) (CHr.keep K382 (sfS (Safe.wr W371 (Safe.exa hZ.alike (Exa.wr W370 Ex369) (by decide) (by decide)) (CHv.wr W370 (Safe.exa hZ.alike Ex369 (by decide) (by decide)) (CHv.ext E369 (CHv.ext E368 CH0))) (Safe.wr W370 (Safe.exa hZ.alike Ex369 (by decide) (by decide)) (CHv.ext E369 (CHv.ext E368 CH0)) (Safe.ext E369 (CHv.ext E368 CH0) (Safe.ext E368 CH0 (Safe.new (Nat.le_of_eq g368.symm)))))) sf0) (CHv.wr W371 (Safe.exa hZ.alike (Exa.wr W370 Ex369) (by decide) (by decide)) (CHv.wr W370 (Safe.exa hZ.alike Ex369 (by decide) (by decide)) (CHv.ext E369 (CHv.ext E368 CH0)))))) hS0 (Nat.le_trans (Nat.le_trans (Nat.le_trans (Nat.le_trans (Nat.le_trans (Nat.le_refl _) E368.1) E369.1) (Keep.of_wr W370).1) (Keep.of_wr W371).1) K382.1) (by decide) (by decide) ?_)
  exact ⟨b368, sb382, kb382, (1 : Int32), (4 : Int32), [(.int (own_lo x0)), (.int (own_hi x0)), (.int (own_lo x1)), (.int (own_hi x1))], rfl, N382, (Keep.trans (Keep.wr (Keep.wr (Keep.ext (Keep.ext (Keep.refl h0 []) E368) E369) W370 (Or.inr szo_b369)) W371 (Or.inr szo_b369)) K382 (allS (Or.inr szo_b368) all0)), szo_b368, Ea382, Fv382, Fc382, Vb382, fun h0 n0 Z0 Sc hcs Sad Shi Slo Sf hfm Ea Fv Fc Vb => rmH_1_2 l Z a0 hw [] b368 sb382 kb382 cs fm (own_lo x0) (own_hi x0) (own_lo x1) (own_hi x1) h0 n0 Z0 Sc hcs Sad Shi Slo Sf hfm Ea Fv Fc Vb⟩
set_option maxRecDepth 65536 in
set_option maxHeartbeats 40000000 in
theorem rmTX_3_l (l : Launch) (Z : State) (a0 : Array Value) (hw : own_Wd a0 Z) (ws : List Jvm.Cond) (c01 c2 x0 x1 x2 cs : Int32) (fm : Value)  (h0 : Heap) (n0 : Nat) (Z0 : n0 ≤ h0.size) (Sc : Sta Z h0 "java/lang/String" "COMPACT_STRINGS" "Z" (.int cs)) (hcs : ¬ (cs = (0 : Int32))) (Sad : Sta Z h0 "java/lang/StringUTF16" "$assertionsDisabled" "Z" (.int 1)) (Shi : Sta Z h0 "java/lang/StringUTF16" "HI_BYTE_SHIFT" "I" (.int 0)) (Slo : Sta Z h0 "java/lang/StringUTF16" "LO_BYTE_SHIFT" "I" (.int 8)) (Sf : Sta Z h0 "jdk/internal/util/Preconditions" "SIOOBE_FORMATTER" "Ljava/util/function/BiFunction;" fm) (hfm : fm.isRef = true) (hX0 : ((c01 &&& (65535 : Int32)).toUInt32.toUInt16.toUInt32.toInt32) = x0) (hX1 : ((((c01.toUInt32 >>> ((16 : Int32) &&& 31).toUInt32).toInt32) &&& (65535 : Int32)).toUInt32.toUInt16.toUInt32.toInt32) = x1) (hX2 : ((c2 &&& (65535 : Int32)).toUInt32.toUInt16.toUInt32.toInt32) = x2) (lo0 : ¬ x0 < (0 : Int32)) (hi0 : ¬ (65535 : Int32) < x0) (lo1 : ¬ x1 < (0 : Int32)) (hi1 : ¬ (65535 : Int32) < x1) (lo2 : ¬ x2 < (0 : Int32)) (hi2 : ¬ (65535 : Int32) < x2) (hx0 : ¬ ((255 : Int32) < x0)) (hx1 : ¬ ((255 : Int32) < x1)) (hx2 : ¬ ((255 : Int32) < x2)) :
    own_MetW l (⟨"com/example/vestline/vestline/cli/BloomFilterAddPinLaw", "text", "(III)Ljava/lang/String;"⟩ : MethodName) method_2_code 6 (some (.object "java/lang/String")) ws ({ frames := 6, cells := 6, slots := 24, locals := 100 } : Room) Z own_EL #[(.int 3), (.int c01), (.int c2)] h0 (fun v h L => ∃ a b kb cd bl bs, v = some (.ref a) ∧ Fr n0 L ∧ Keep h0 h [] ∧ h0.size ≤ a ∧ Exa Z h a "java/lang/String" ∧ Fld Z h a "java/lang/String" "value" "[B" (.ref b) ∧ Fld Z h a "java/lang/String" "coder" "B" (.int cd) ∧ Arv Z h b kb .byte bl bs (.int 0) ∧ own_CH l Z cs fm a b kb cd bl bs (own_H_0_3 (x0.toInt8.toInt32) (x1.toInt8.toInt32) (x2.toInt8.toInt32))) := by
  refine own_bodyW (plainFor_of_name pn_5) ?_
  intro p e s m below meth c s₁ X0 hx hby hml hown hnm hret hlk hZ e0 hs0 CH0 hS0
  replace hown : (s.setVm s.vm).vm.findClass "com/example/vestline/vestline/cli/BloomFilterAddPinLaw" = some m.cls := hown
  replace hml : c.maxLocals = 6 := hml
  replace hret : meth.sig.returnType = (some (.object "java/lang/String")) := hret
  have N0 := Fr.nil n0
  have hEL : EW Z a0 own_EL := own_ELw hw
  have CR0 : CHr Z own_EL s.vm s.heap s.vm h0 := by rw [hs0]; exact CHr.refl CH0
  refine own_ef (L0 := #[.val (.int 3), .val (.int c01), .val (.int c2), .unset, .unset, .unset]) (by first | (simp [entryFrame, mkF, argsToLocals, Value.category]; done) | rfl) ?_
  refine own_iloadN X0 hx (hb hby d1_0) rfl ?_
  refine own_ldcI X0 hx hZ hown (own_m hw 4 rfl) (hb hby d1_1) ?_
  refine own_iand X0 hx (hb hby d1_3) ?_
  refine own_i2c X0 hx (hb hby d1_4) ?_
  rw [hX0]
  refine own_istoreN (l' := #[.val (.int 3), .val (.int c01), .val (.int c2), .val (.int x0), .unset, .unset]) X0 hx (hb hby d1_5) rfl ?_
  refine own_iloadN X0 hx (hb hby d1_6) rfl ?_
  refine own_bipush X0 hx 16 (hb hby d1_7) rfl ?_
  refine own_iushr X0 hx (hb hby d1_9) ?_
  refine own_ldcI X0 hx hZ hown (own_m hw 4 rfl) (hb hby d1_10) ?_
  refine own_iand X0 hx (hb hby d1_12) ?_
  refine own_i2c X0 hx (hb hby d1_13) ?_
  rw [hX1]
  refine own_istore (l' := #[.val (.int 3), .val (.int c01), .val (.int c2), .val (.int x0), .val (.int x1), .unset]) X0 hx (hb hby d1_14) rfl ?_
  refine own_iloadN X0 hx (hb hby d1_16) rfl ?_
  refine own_ldcI X0 hx hZ hown (own_m hw 4 rfl) (hb hby d1_17) ?_
  refine own_iand X0 hx (hb hby d1_19) ?_
  refine own_i2c X0 hx (hb hby d1_20) ?_
  rw [hX2]
  refine own_istore (l' := #[.val (.int 3), .val (.int c01), .val (.int c2), .val (.int x0), .val (.int x1), .val (.int x2)]) X0 hx (hb hby d1_21) rfl ?_
  refine own_iloadN X0 hx (hb hby d1_23) rfl ?_
  refine own_ifYes X0 hx 38 (hb hby d1_24) (feq (by decide : ¬ ((3 : Int32) = (0 : Int32)))).2 (by decide) (by decide) ?_
  refine own_iloadN X0 hx (hb hby d1_38) rfl ?_
  refine own_iconst X0 hx 1 (hb hby d1_39) rfl ?_
  refine own_icmpYes X0 hx 58 (hb hby d1_40) (feq (by decide : ¬ ((3 : Int32) = (1 : Int32)))).2 (by decide) (by decide) ?_
  refine own_iloadN X0 hx (hb hby d1_58) rfl ?_
  refine own_iconst X0 hx 2 (hb hby d1_59) rfl ?_
  refine own_icmpYes X0 hx 83 (hb hby d1_60) (feq (by decide : ¬ ((3 : Int32) = (2 : Int32)))).2 (by decide) (by decide) ?_
  refine own_newO X0 hx hZ hown (own_m hw 5 rfl) (own_m hw 6 rfl) (own_m hw 7 rfl) e0 (hb hby d1_83) (by decide) (by decide) fun T383 h383 b383 g383 X383 e383 E383 A383 D383 => ?_
  have g_b383 : n0 ≤ b383 := Nat.le_trans Z0 (Nat.le_of_eq g383.symm)
  have szo_b383 : h0.size ≤ b383 := Nat.le_trans (Nat.le_refl h0.size) (Nat.le_of_eq g383.symm)
  have F_coder_b383 : Fld Z h383 b383 "java/lang/String" "coder" "B" (.int 0) := D383 (Or.inr (own_m hw 32 rfl)) (ty := .byte) (by decide)
  have F_value_b383 : Fld Z h383 b383 "java/lang/String" "value" "[B" .null := D383 (Or.inr (own_m hw 34 rfl)) (ty := (.array .byte)) (by decide)
  refine own_dup X383 hx (hb hby d1_86) rfl ?_
  refine own_iconst X383 hx 3 (hb hby d1_87) rfl ?_
  refine own_newP (n := (3 : Int32)) (cap := 3) (ad := "[C") X383 hx hZ (own_m hw 8 rfl) e383 (hb hby d1_88) (by decide) (by decide) (by decide) (by decide) (by decide) (by decide) fun T384 h384 k384 b384 g384 X384 e384 E384 A384 Ex384 => ?_
  have g_b384 : n0 ≤ b384 := Nat.le_trans (Nat.le_trans Z0 E383.1) (Nat.le_of_eq g384.symm)
  have szo_b384 : h0.size ≤ b384 := Nat.le_trans (Nat.le_trans (Nat.le_refl h0.size) E383.1) (Nat.le_of_eq g384.symm)
  have V384 : Arv Z h384 b384 k384 .char (3 : Int32) [(.int 0), (.int 0), (.int 0)] (.int 0) := (Arv.new A384 (by decide)).pad (pad_rep [] (.int 0) 3)
  refine own_dup X384 hx (hb hby d1_90) rfl ?_
  refine own_iconst X384 hx 0 (hb hby d1_91) rfl ?_
  refine own_iloadN X384 hx (hb hby d1_92) rfl ?_
  refine own_stC (vs' := [(.int x0), (.int 0), (.int 0)]) (w := (.int x0)) X384 hx hZ e384 V384 ⟨by decide, by decide⟩ 0 rfl (Nat.le_of_ble_eq_true rfl) (congrArg Value.int (own_nar16 lo0 hi0)) rfl (hb hby d1_93) fun T385 h385 X385 e385 W385 V385 => ?_
  have N385 := Fr.snoc X385 N0 g_b384
  refine own_dup X385 hx (hb hby d1_94) rfl ?_
  refine own_iconst X385 hx 1 (hb hby d1_95) rfl ?_
  refine own_iload X385 hx (hb hby d1_96) rfl ?_
  refine own_stC (vs' := [(.int x0), (.int x1), (.int 0)]) (w := (.int x1)) X385 hx hZ e385 V385 ⟨by decide, by decide⟩ 1 rfl (Nat.le_of_ble_eq_true rfl) (congrArg Value.int (own_nar16 lo1 hi1)) rfl (hb hby d1_98) fun T386 h386 X386 e386 W386 V386 => ?_
  have N386 := Fr.snoc X386 N385 g_b384
  refine own_dup X386 hx (hb hby d1_99) rfl ?_
  refine own_iconst X386 hx 2 (hb hby d1_100) rfl ?_
  refine own_iload X386 hx (hb hby d1_101) rfl ?_
  refine own_stC (vs' := [(.int x0), (.int x1), (.int x2)]) (w := (.int x2)) X386 hx hZ e386 V386 ⟨by decide, by decide⟩ 2 rfl (Nat.le_of_ble_eq_true rfl) (congrArg Value.int (own_nar16 lo2 hi2)) rfl (hb hby d1_103) fun T387 h387 X387 e387 W387 V387 => ?_
  have N387 := Fr.snoc X387 N386 g_b384
  have f388 := (Sta.wr W387 (Sta.wr W386 (Sta.wr W385 (Sta.ext E384 (Sta.ext E383 Sc)))))
  have f389 := (Sta.wr W387 (Sta.wr W386 (Sta.wr W385 (Sta.ext E384 (Sta.ext E383 Sad)))))
  have f390 := (Sta.wr W387 (Sta.wr W386 (Sta.wr W385 (Sta.ext E384 (Sta.ext E383 Shi)))))
  have f391 := (Sta.wr W387 (Sta.wr W386 (Sta.wr W385 (Sta.ext E384 (Sta.ext E383 Slo)))))
  have f392 := (Sta.wr W387 (Sta.wr W386 (Sta.wr W385 (Sta.ext E384 (Sta.ext E383 Sf)))))
  have f393 := (Exa.wr W387 (Exa.wr W386 (Exa.wr W385 (Exa.ext E384 A383))))
  have f394 := (Fld.other W387 (Fld.other W386 (Fld.other W385 (Fld.ext E384 F_coder_b383) (Or.inl (Nat.ne_of_lt (Nat.lt_of_lt_of_le A383.lt (Nat.le_of_eq g384.symm))))) (Or.inl (Nat.ne_of_lt (Nat.lt_of_lt_of_le A383.lt (Nat.le_of_eq g384.symm))))) (Or.inl (Nat.ne_of_lt (Nat.lt_of_lt_of_le A383.lt (Nat.le_of_eq g384.symm)))))
  have f395 := (Fld.other W387 (Fld.other W386 (Fld.other W385 (Fld.ext E384 F_value_b383) (Or.inl (Nat.ne_of_lt (Nat.lt_of_lt_of_le A383.lt (Nat.le_of_eq g384.symm))))) (Or.inl (Nat.ne_of_lt (Nat.lt_of_lt_of_le A383.lt (Nat.le_of_eq g384.symm))))) (Or.inl (Nat.ne_of_lt (Nat.lt_of_lt_of_le A383.lt (Nat.le_of_eq g384.symm)))))
  have f396 := (Exa.wr W387 (Exa.wr W386 (Exa.wr W385 Ex384)))
  have Zs397 : n0 ≤ h387.size := (Nat.le_trans (Nat.le_trans (Nat.le_trans (Nat.le_trans (Nat.le_trans Z0 E383.1) E384.1) (Keep.of_wr W385).1) (Keep.of_wr W386).1) (Keep.of_wr W387).1)
  refine own_cSpec (b := b383) (W := 1) (rest := [(.ref b383)]) X387 hx hZ [(.ref b384)] rfl hown (own_m hw 9 rfl) (own_m hw 10 rfl) (by decide) (own_m hw 11 rfl) (own_m hw 7 rfl) e387 (rmI1_3 l Z a0 hw [] b383 b384 k384 cs x0 x1 x2 h387 n0 Zs397 f393 f395 f394 g_b383 f388 hcs V387 f396 hx0 hx1 hx2) (by rw [hml]; rfl) (lenOf pd_16 rfl) rfl (Nat.le_of_eq rfl) (hb hby d1_104) (by decide) (by decide) (by decide) (by decide) fun v398 T398 L398 X398 hQ398 => ?_
  obtain ⟨rfl, N398q, K398, sb398, kb398, szb398, Eb398, Ea398, Fv398, Fc398, Vb398⟩ := hQ398
  have N398 := Fr.app N387 N398q
  show own_At p e below _ T398 m 107 _ [(.ref b383)]
  refine own_retA X398 hx hlk hret rfl rfl rfl (hb hby d1_107) (own_kW X398 hZ hEL (CHr.trans (CHr.trans (CHr.trans (CHr.trans (CHr.trans (CHr.trans CR0 (CHr.ext E383 CH0)) (CHr.ext E384 (CHv.ext E383 CH0))) (CHr.wr W385 (Safe.exa hZ.alike Ex384 (by decide) (by decide)) (CHv.ext E384 (CHv.ext E383 CH0)))) (CHr.wr W386 (Safe.exa hZ.alike (Exa.wr W385 Ex384) (by decide) (by decide)) (CHv.wr W385 (Safe.exa hZ.alike Ex384 (by decide) (by decide)) (CHv.ext E384 (CHv.ext E383 CH0))))) (CHr.wr W387 (Safe.exa hZ.alike (Exa.wr W386 (Exa.wr W385 Ex384)) (by decide) (by decide)) (CHv.wr W386 (Safe.exa hZ.alike (Exa.wr W385 Ex384) (by decide) (by decide)) (CHv.wr W385 (Safe.exa hZ.alike Ex384 (by decide) (by decide)) (CHv.ext E384 (CHv.ext E383 CH0)))))) (CHr.keep K398 (sfS (Safe.wr W387 (Safe.exa hZ.alike (Exa.wr W386 (Exa.wr W385 Ex384)) (by decide) (by decide)) (CHv.wr W386 (Safe.exa hZ.alike (Exa.wr W385 Ex384) (by decide) (by decide)) (CHv.wr W385 (Safe.exa hZ.alike Ex384 (by decide) (by decide)) (CHv.ext E384 (CHv.ext E383 CH0)))) (Safe.wr W386 (Safe.exa hZ.alike (Exa.wr W385 Ex384) (by decide) (by decide)) (CHv.wr W385 (Safe.exa hZ.alike Ex384 (by decide) (by decide)) (CHv.ext E384 (CHv.ext E383 CH0))) (Safe.wr W385 (Safe.exa hZ.alike Ex384 (by decide) (by decide)) (CHv.ext E384 (CHv.ext E383 CH0)) (Safe.ext E384 (CHv.ext E383 CH0) (Safe.ext E383 CH0 (Safe.new (Nat.le_of_eq g383.symm))))))) sf0) (CHv.wr W387 (Safe.exa hZ.alike (Exa.wr W386 (Exa.wr W385 Ex384)) (by decide) (by decide)) (CHv.wr W386 (Safe.exa hZ.alike (Exa.wr W385 Ex384) (by decide) (by decide)) (CHv.wr W385 (Safe.exa hZ.alike Ex384 (by decide) (by decide)) (CHv.ext E384 (CHv.ext E383 CH0))))))) hS0 (Nat.le_trans (Nat.le_trans (Nat.le_trans (Nat.le_trans (Nat.le_trans (Nat.le_trans (Nat.le_refl _) E383.1) E384.1) (Keep.of_wr W385).1) (Keep.of_wr W386).1) (Keep.of_wr W387).1) K398.1) (by decide) (by decide) ?_)
  exact ⟨b383, sb398, kb398, (0 : Int32), (3 : Int32), [(.int (x0.toInt8.toInt32)), (.int (x1.toInt8.toInt32)), (.int (x2.toInt8.toInt32))], rfl, N398, (Keep.trans (Keep.wr (Keep.wr (Keep.wr (Keep.ext (Keep.ext (Keep.refl h0 []) E383) E384) W385 (Or.inr szo_b384)) W386 (Or.inr szo_b384)) W387 (Or.inr szo_b384)) K398 (allS (Or.inr szo_b383) all0)), szo_b383, Ea398, Fv398, Fc398, Vb398, fun h0 n0 Z0 Sc hcs Sad Shi Slo Sf hfm Ea Fv Fc Vb => rmH_0_3 l Z a0 hw [] b383 sb398 kb398 cs fm (x0.toInt8.toInt32) (x1.toInt8.toInt32) (x2.toInt8.toInt32) h0 n0 Z0 Sc hcs Sad Shi Slo Sf hfm Ea Fv Fc Vb⟩
set_option maxRecDepth 65536 in
set_option maxHeartbeats 40000000 in
theorem rmTX_3_0 (l : Launch) (Z : State) (a0 : Array Value) (hw : own_Wd a0 Z) (ws : List Jvm.Cond) (c01 c2 x0 x1 x2 cs : Int32) (fm : Value)  (h0 : Heap) (n0 : Nat) (Z0 : n0 ≤ h0.size) (Sc : Sta Z h0 "java/lang/String" "COMPACT_STRINGS" "Z" (.int cs)) (hcs : ¬ (cs = (0 : Int32))) (Sad : Sta Z h0 "java/lang/StringUTF16" "$assertionsDisabled" "Z" (.int 1)) (Shi : Sta Z h0 "java/lang/StringUTF16" "HI_BYTE_SHIFT" "I" (.int 0)) (Slo : Sta Z h0 "java/lang/StringUTF16" "LO_BYTE_SHIFT" "I" (.int 8)) (Sf : Sta Z h0 "jdk/internal/util/Preconditions" "SIOOBE_FORMATTER" "Ljava/util/function/BiFunction;" fm) (hfm : fm.isRef = true) (hX0 : ((c01 &&& (65535 : Int32)).toUInt32.toUInt16.toUInt32.toInt32) = x0) (hX1 : ((((c01.toUInt32 >>> ((16 : Int32) &&& 31).toUInt32).toInt32) &&& (65535 : Int32)).toUInt32.toUInt16.toUInt32.toInt32) = x1) (hX2 : ((c2 &&& (65535 : Int32)).toUInt32.toUInt16.toUInt32.toInt32) = x2) (lo0 : ¬ x0 < (0 : Int32)) (hi0 : ¬ (65535 : Int32) < x0) (lo1 : ¬ x1 < (0 : Int32)) (hi1 : ¬ (65535 : Int32) < x1) (lo2 : ¬ x2 < (0 : Int32)) (hi2 : ¬ (65535 : Int32) < x2) (hx0 : (255 : Int32) < x0) :
    own_MetW l (⟨"com/example/vestline/vestline/cli/BloomFilterAddPinLaw", "text", "(III)Ljava/lang/String;"⟩ : MethodName) method_2_code 6 (some (.object "java/lang/String")) ws ({ frames := 6, cells := 6, slots := 24, locals := 100 } : Room) Z own_EL #[(.int 3), (.int c01), (.int c2)] h0 (fun v h L => ∃ a b kb cd bl bs, v = some (.ref a) ∧ Fr n0 L ∧ Keep h0 h [] ∧ h0.size ≤ a ∧ Exa Z h a "java/lang/String" ∧ Fld Z h a "java/lang/String" "value" "[B" (.ref b) ∧ Fld Z h a "java/lang/String" "coder" "B" (.int cd) ∧ Arv Z h b kb .byte bl bs (.int 0) ∧ own_CH l Z cs fm a b kb cd bl bs (own_H_1_3 (own_lo x0) (own_hi x0) (own_lo x1) (own_hi x1) (own_lo x2) (own_hi x2))) := by
  refine own_bodyW (plainFor_of_name pn_5) ?_
  intro p e s m below meth c s₁ X0 hx hby hml hown hnm hret hlk hZ e0 hs0 CH0 hS0
  replace hown : (s.setVm s.vm).vm.findClass "com/example/vestline/vestline/cli/BloomFilterAddPinLaw" = some m.cls := hown
  replace hml : c.maxLocals = 6 := hml
  replace hret : meth.sig.returnType = (some (.object "java/lang/String")) := hret
  have N0 := Fr.nil n0
  have hEL : EW Z a0 own_EL := own_ELw hw
  have CR0 : CHr Z own_EL s.vm s.heap s.vm h0 := by rw [hs0]; exact CHr.refl CH0
  refine own_ef (L0 := #[.val (.int 3), .val (.int c01), .val (.int c2), .unset, .unset, .unset]) (by first | (simp [entryFrame, mkF, argsToLocals, Value.category]; done) | rfl) ?_
  refine own_iloadN X0 hx (hb hby d1_0) rfl ?_
  refine own_ldcI X0 hx hZ hown (own_m hw 4 rfl) (hb hby d1_1) ?_
  refine own_iand X0 hx (hb hby d1_3) ?_
  refine own_i2c X0 hx (hb hby d1_4) ?_
  rw [hX0]
  refine own_istoreN (l' := #[.val (.int 3), .val (.int c01), .val (.int c2), .val (.int x0), .unset, .unset]) X0 hx (hb hby d1_5) rfl ?_
  refine own_iloadN X0 hx (hb hby d1_6) rfl ?_
  refine own_bipush X0 hx 16 (hb hby d1_7) rfl ?_
  refine own_iushr X0 hx (hb hby d1_9) ?_
  refine own_ldcI X0 hx hZ hown (own_m hw 4 rfl) (hb hby d1_10) ?_
  refine own_iand X0 hx (hb hby d1_12) ?_
  refine own_i2c X0 hx (hb hby d1_13) ?_
  rw [hX1]
  refine own_istore (l' := #[.val (.int 3), .val (.int c01), .val (.int c2), .val (.int x0), .val (.int x1), .unset]) X0 hx (hb hby d1_14) rfl ?_
  refine own_iloadN X0 hx (hb hby d1_16) rfl ?_
  refine own_ldcI X0 hx hZ hown (own_m hw 4 rfl) (hb hby d1_17) ?_
  refine own_iand X0 hx (hb hby d1_19) ?_
  refine own_i2c X0 hx (hb hby d1_20) ?_
  rw [hX2]
  refine own_istore (l' := #[.val (.int 3), .val (.int c01), .val (.int c2), .val (.int x0), .val (.int x1), .val (.int x2)]) X0 hx (hb hby d1_21) rfl ?_
  refine own_iloadN X0 hx (hb hby d1_23) rfl ?_
  refine own_ifYes X0 hx 38 (hb hby d1_24) (feq (by decide : ¬ ((3 : Int32) = (0 : Int32)))).2 (by decide) (by decide) ?_
  refine own_iloadN X0 hx (hb hby d1_38) rfl ?_
  refine own_iconst X0 hx 1 (hb hby d1_39) rfl ?_
  refine own_icmpYes X0 hx 58 (hb hby d1_40) (feq (by decide : ¬ ((3 : Int32) = (1 : Int32)))).2 (by decide) (by decide) ?_
  refine own_iloadN X0 hx (hb hby d1_58) rfl ?_
  refine own_iconst X0 hx 2 (hb hby d1_59) rfl ?_
  refine own_icmpYes X0 hx 83 (hb hby d1_60) (feq (by decide : ¬ ((3 : Int32) = (2 : Int32)))).2 (by decide) (by decide) ?_
  refine own_newO X0 hx hZ hown (own_m hw 5 rfl) (own_m hw 6 rfl) (own_m hw 7 rfl) e0 (hb hby d1_83) (by decide) (by decide) fun T399 h399 b399 g399 X399 e399 E399 A399 D399 => ?_
  have g_b399 : n0 ≤ b399 := Nat.le_trans Z0 (Nat.le_of_eq g399.symm)
  have szo_b399 : h0.size ≤ b399 := Nat.le_trans (Nat.le_refl h0.size) (Nat.le_of_eq g399.symm)
  have F_coder_b399 : Fld Z h399 b399 "java/lang/String" "coder" "B" (.int 0) := D399 (Or.inr (own_m hw 32 rfl)) (ty := .byte) (by decide)
  have F_value_b399 : Fld Z h399 b399 "java/lang/String" "value" "[B" .null := D399 (Or.inr (own_m hw 34 rfl)) (ty := (.array .byte)) (by decide)
  refine own_dup X399 hx (hb hby d1_86) rfl ?_
  refine own_iconst X399 hx 3 (hb hby d1_87) rfl ?_
  refine own_newP (n := (3 : Int32)) (cap := 3) (ad := "[C") X399 hx hZ (own_m hw 8 rfl) e399 (hb hby d1_88) (by decide) (by decide) (by decide) (by decide) (by decide) (by decide) fun T400 h400 k400 b400 g400 X400 e400 E400 A400 Ex400 => ?_
  have g_b400 : n0 ≤ b400 := Nat.le_trans (Nat.le_trans Z0 E399.1) (Nat.le_of_eq g400.symm)
  have szo_b400 : h0.size ≤ b400 := Nat.le_trans (Nat.le_trans (Nat.le_refl h0.size) E399.1) (Nat.le_of_eq g400.symm)
  have V400 : Arv Z h400 b400 k400 .char (3 : Int32) [(.int 0), (.int 0), (.int 0)] (.int 0) := (Arv.new A400 (by decide)).pad (pad_rep [] (.int 0) 3)
  refine own_dup X400 hx (hb hby d1_90) rfl ?_
  refine own_iconst X400 hx 0 (hb hby d1_91) rfl ?_
  refine own_iloadN X400 hx (hb hby d1_92) rfl ?_
  refine own_stC (vs' := [(.int x0), (.int 0), (.int 0)]) (w := (.int x0)) X400 hx hZ e400 V400 ⟨by decide, by decide⟩ 0 rfl (Nat.le_of_ble_eq_true rfl) (congrArg Value.int (own_nar16 lo0 hi0)) rfl (hb hby d1_93) fun T401 h401 X401 e401 W401 V401 => ?_
  have N401 := Fr.snoc X401 N0 g_b400
  refine own_dup X401 hx (hb hby d1_94) rfl ?_
  refine own_iconst X401 hx 1 (hb hby d1_95) rfl ?_
  refine own_iload X401 hx (hb hby d1_96) rfl ?_
  refine own_stC (vs' := [(.int x0), (.int x1), (.int 0)]) (w := (.int x1)) X401 hx hZ e401 V401 ⟨by decide, by decide⟩ 1 rfl (Nat.le_of_ble_eq_true rfl) (congrArg Value.int (own_nar16 lo1 hi1)) rfl (hb hby d1_98) fun T402 h402 X402 e402 W402 V402 => ?_
  have N402 := Fr.snoc X402 N401 g_b400
  refine own_dup X402 hx (hb hby d1_99) rfl ?_
  refine own_iconst X402 hx 2 (hb hby d1_100) rfl ?_
  refine own_iload X402 hx (hb hby d1_101) rfl ?_
  refine own_stC (vs' := [(.int x0), (.int x1), (.int x2)]) (w := (.int x2)) X402 hx hZ e402 V402 ⟨by decide, by decide⟩ 2 rfl (Nat.le_of_ble_eq_true rfl) (congrArg Value.int (own_nar16 lo2 hi2)) rfl (hb hby d1_103) fun T403 h403 X403 e403 W403 V403 => ?_
  have N403 := Fr.snoc X403 N402 g_b400
  have f404 := (Sta.wr W403 (Sta.wr W402 (Sta.wr W401 (Sta.ext E400 (Sta.ext E399 Sc)))))
  have f405 := (Sta.wr W403 (Sta.wr W402 (Sta.wr W401 (Sta.ext E400 (Sta.ext E399 Sad)))))
  have f406 := (Sta.wr W403 (Sta.wr W402 (Sta.wr W401 (Sta.ext E400 (Sta.ext E399 Shi)))))
  have f407 := (Sta.wr W403 (Sta.wr W402 (Sta.wr W401 (Sta.ext E400 (Sta.ext E399 Slo)))))
  have f408 := (Sta.wr W403 (Sta.wr W402 (Sta.wr W401 (Sta.ext E400 (Sta.ext E399 Sf)))))
  have f409 := (Exa.wr W403 (Exa.wr W402 (Exa.wr W401 (Exa.ext E400 A399))))
  have f410 := (Fld.other W403 (Fld.other W402 (Fld.other W401 (Fld.ext E400 F_coder_b399) (Or.inl (Nat.ne_of_lt (Nat.lt_of_lt_of_le A399.lt (Nat.le_of_eq g400.symm))))) (Or.inl (Nat.ne_of_lt (Nat.lt_of_lt_of_le A399.lt (Nat.le_of_eq g400.symm))))) (Or.inl (Nat.ne_of_lt (Nat.lt_of_lt_of_le A399.lt (Nat.le_of_eq g400.symm)))))
  have f411 := (Fld.other W403 (Fld.other W402 (Fld.other W401 (Fld.ext E400 F_value_b399) (Or.inl (Nat.ne_of_lt (Nat.lt_of_lt_of_le A399.lt (Nat.le_of_eq g400.symm))))) (Or.inl (Nat.ne_of_lt (Nat.lt_of_lt_of_le A399.lt (Nat.le_of_eq g400.symm))))) (Or.inl (Nat.ne_of_lt (Nat.lt_of_lt_of_le A399.lt (Nat.le_of_eq g400.symm)))))
  have f412 := (Exa.wr W403 (Exa.wr W402 (Exa.wr W401 Ex400)))
  have Zs413 : n0 ≤ h403.size := (Nat.le_trans (Nat.le_trans (Nat.le_trans (Nat.le_trans (Nat.le_trans Z0 E399.1) E400.1) (Keep.of_wr W401).1) (Keep.of_wr W402).1) (Keep.of_wr W403).1)
  refine own_cSpec (b := b399) (W := 1) (rest := [(.ref b399)]) X403 hx hZ [(.ref b400)] rfl hown (own_m hw 9 rfl) (own_m hw 10 rfl) (by decide) (own_m hw 11 rfl) (own_m hw 7 rfl) e403 (rmIu1_3_0 l Z a0 hw [] b399 b400 k400 cs x0 x1 x2 h403 n0 Zs413 f409 f411 f410 g_b399 f404 hcs f405 f406 f407 V403 f412 hx0 lo0 hi0) (by rw [hml]; rfl) (lenOf pd_16 rfl) rfl (Nat.le_of_eq rfl) (hb hby d1_104) (by decide) (by decide) (by decide) (by decide) fun v414 T414 L414 X414 hQ414 => ?_
  obtain ⟨rfl, N414q, K414, sb414, kb414, szb414, Eb414, Ea414, Fv414, Fc414, Vb414⟩ := hQ414
  have N414 := Fr.app N403 N414q
  show own_At p e below _ T414 m 107 _ [(.ref b399)]
  refine own_retA X414 hx hlk hret rfl rfl rfl (hb hby d1_107) (own_kW X414 hZ hEL (CHr.trans (CHr.trans (CHr.trans (CHr.trans (CHr.trans (CHr.trans CR0 (CHr.ext E399 CH0)) (CHr.ext E400 (CHv.ext E399 CH0))) (CHr.wr W401 (Safe.exa hZ.alike Ex400 (by decide) (by decide)) (CHv.ext E400 (CHv.ext E399 CH0)))) (CHr.wr W402 (Safe.exa hZ.alike (Exa.wr W401 Ex400) (by decide) (by decide)) (CHv.wr W401 (Safe.exa hZ.alike Ex400 (by decide) (by decide)) (CHv.ext E400 (CHv.ext E399 CH0))))) (CHr.wr W403 (Safe.exa hZ.alike (Exa.wr W402 (Exa.wr W401 Ex400)) (by decide) (by decide)) (CHv.wr W402 (Safe.exa hZ.alike (Exa.wr W401 Ex400) (by decide) (by decide)) (CHv.wr W401 (Safe.exa hZ.alike Ex400 (by decide) (by decide)) (CHv.ext E400 (CHv.ext E399 CH0)))))) (CHr.keep K414 (sfS (Safe.wr W403 (Safe.exa hZ.alike (Exa.wr W402 (Exa.wr W401 Ex400)) (by decide) (by decide)) (CHv.wr W402 (Safe.exa hZ.alike (Exa.wr W401 Ex400) (by decide) (by decide)) (CHv.wr W401 (Safe.exa hZ.alike Ex400 (by decide) (by decide)) (CHv.ext E400 (CHv.ext E399 CH0)))) (Safe.wr W402 (Safe.exa hZ.alike (Exa.wr W401 Ex400) (by decide) (by decide)) (CHv.wr W401 (Safe.exa hZ.alike Ex400 (by decide) (by decide)) (CHv.ext E400 (CHv.ext E399 CH0))) (Safe.wr W401 (Safe.exa hZ.alike Ex400 (by decide) (by decide)) (CHv.ext E400 (CHv.ext E399 CH0)) (Safe.ext E400 (CHv.ext E399 CH0) (Safe.ext E399 CH0 (Safe.new (Nat.le_of_eq g399.symm))))))) sf0) (CHv.wr W403 (Safe.exa hZ.alike (Exa.wr W402 (Exa.wr W401 Ex400)) (by decide) (by decide)) (CHv.wr W402 (Safe.exa hZ.alike (Exa.wr W401 Ex400) (by decide) (by decide)) (CHv.wr W401 (Safe.exa hZ.alike Ex400 (by decide) (by decide)) (CHv.ext E400 (CHv.ext E399 CH0))))))) hS0 (Nat.le_trans (Nat.le_trans (Nat.le_trans (Nat.le_trans (Nat.le_trans (Nat.le_trans (Nat.le_refl _) E399.1) E400.1) (Keep.of_wr W401).1) (Keep.of_wr W402).1) (Keep.of_wr W403).1) K414.1) (by decide) (by decide) ?_)
  exact ⟨b399, sb414, kb414, (1 : Int32), (6 : Int32), [(.int (own_lo x0)), (.int (own_hi x0)), (.int (own_lo x1)), (.int (own_hi x1)), (.int (own_lo x2)), (.int (own_hi x2))], rfl, N414, (Keep.trans (Keep.wr (Keep.wr (Keep.wr (Keep.ext (Keep.ext (Keep.refl h0 []) E399) E400) W401 (Or.inr szo_b400)) W402 (Or.inr szo_b400)) W403 (Or.inr szo_b400)) K414 (allS (Or.inr szo_b399) all0)), szo_b399, Ea414, Fv414, Fc414, Vb414, fun h0 n0 Z0 Sc hcs Sad Shi Slo Sf hfm Ea Fv Fc Vb => rmH_1_3 l Z a0 hw [] b399 sb414 kb414 cs fm (own_lo x0) (own_hi x0) (own_lo x1) (own_hi x1) (own_lo x2) (own_hi x2) h0 n0 Z0 Sc hcs Sad Shi Slo Sf hfm Ea Fv Fc Vb⟩
set_option maxRecDepth 65536 in
set_option maxHeartbeats 40000000 in
theorem rmTX_3_1 (l : Launch) (Z : State) (a0 : Array Value) (hw : own_Wd a0 Z) (ws : List Jvm.Cond) (c01 c2 x0 x1 x2 cs : Int32) (fm : Value)  (h0 : Heap) (n0 : Nat) (Z0 : n0 ≤ h0.size) (Sc : Sta Z h0 "java/lang/String" "COMPACT_STRINGS" "Z" (.int cs)) (hcs : ¬ (cs = (0 : Int32))) (Sad : Sta Z h0 "java/lang/StringUTF16" "$assertionsDisabled" "Z" (.int 1)) (Shi : Sta Z h0 "java/lang/StringUTF16" "HI_BYTE_SHIFT" "I" (.int 0)) (Slo : Sta Z h0 "java/lang/StringUTF16" "LO_BYTE_SHIFT" "I" (.int 8)) (Sf : Sta Z h0 "jdk/internal/util/Preconditions" "SIOOBE_FORMATTER" "Ljava/util/function/BiFunction;" fm) (hfm : fm.isRef = true) (hX0 : ((c01 &&& (65535 : Int32)).toUInt32.toUInt16.toUInt32.toInt32) = x0) (hX1 : ((((c01.toUInt32 >>> ((16 : Int32) &&& 31).toUInt32).toInt32) &&& (65535 : Int32)).toUInt32.toUInt16.toUInt32.toInt32) = x1) (hX2 : ((c2 &&& (65535 : Int32)).toUInt32.toUInt16.toUInt32.toInt32) = x2) (lo0 : ¬ x0 < (0 : Int32)) (hi0 : ¬ (65535 : Int32) < x0) (lo1 : ¬ x1 < (0 : Int32)) (hi1 : ¬ (65535 : Int32) < x1) (lo2 : ¬ x2 < (0 : Int32)) (hi2 : ¬ (65535 : Int32) < x2) (hx0 : ¬ ((255 : Int32) < x0)) (hx1 : (255 : Int32) < x1) :
    own_MetW l (⟨"com/example/vestline/vestline/cli/BloomFilterAddPinLaw", "text", "(III)Ljava/lang/String;"⟩ : MethodName) method_2_code 6 (some (.object "java/lang/String")) ws ({ frames := 6, cells := 6, slots := 24, locals := 100 } : Room) Z own_EL #[(.int 3), (.int c01), (.int c2)] h0 (fun v h L => ∃ a b kb cd bl bs, v = some (.ref a) ∧ Fr n0 L ∧ Keep h0 h [] ∧ h0.size ≤ a ∧ Exa Z h a "java/lang/String" ∧ Fld Z h a "java/lang/String" "value" "[B" (.ref b) ∧ Fld Z h a "java/lang/String" "coder" "B" (.int cd) ∧ Arv Z h b kb .byte bl bs (.int 0) ∧ own_CH l Z cs fm a b kb cd bl bs (own_H_1_3 (own_lo x0) (own_hi x0) (own_lo x1) (own_hi x1) (own_lo x2) (own_hi x2))) := by
  refine own_bodyW (plainFor_of_name pn_5) ?_
  intro p e s m below meth c s₁ X0 hx hby hml hown hnm hret hlk hZ e0 hs0 CH0 hS0
  replace hown : (s.setVm s.vm).vm.findClass "com/example/vestline/vestline/cli/BloomFilterAddPinLaw" = some m.cls := hown
  replace hml : c.maxLocals = 6 := hml
  replace hret : meth.sig.returnType = (some (.object "java/lang/String")) := hret
  have N0 := Fr.nil n0
  have hEL : EW Z a0 own_EL := own_ELw hw
  have CR0 : CHr Z own_EL s.vm s.heap s.vm h0 := by rw [hs0]; exact CHr.refl CH0
  refine own_ef (L0 := #[.val (.int 3), .val (.int c01), .val (.int c2), .unset, .unset, .unset]) (by first | (simp [entryFrame, mkF, argsToLocals, Value.category]; done) | rfl) ?_
  refine own_iloadN X0 hx (hb hby d1_0) rfl ?_
  refine own_ldcI X0 hx hZ hown (own_m hw 4 rfl) (hb hby d1_1) ?_
  refine own_iand X0 hx (hb hby d1_3) ?_
  refine own_i2c X0 hx (hb hby d1_4) ?_
  rw [hX0]
  refine own_istoreN (l' := #[.val (.int 3), .val (.int c01), .val (.int c2), .val (.int x0), .unset, .unset]) X0 hx (hb hby d1_5) rfl ?_
  refine own_iloadN X0 hx (hb hby d1_6) rfl ?_
  refine own_bipush X0 hx 16 (hb hby d1_7) rfl ?_
  refine own_iushr X0 hx (hb hby d1_9) ?_
  refine own_ldcI X0 hx hZ hown (own_m hw 4 rfl) (hb hby d1_10) ?_
  refine own_iand X0 hx (hb hby d1_12) ?_
  refine own_i2c X0 hx (hb hby d1_13) ?_
  rw [hX1]
  refine own_istore (l' := #[.val (.int 3), .val (.int c01), .val (.int c2), .val (.int x0), .val (.int x1), .unset]) X0 hx (hb hby d1_14) rfl ?_
  refine own_iloadN X0 hx (hb hby d1_16) rfl ?_
  refine own_ldcI X0 hx hZ hown (own_m hw 4 rfl) (hb hby d1_17) ?_
  refine own_iand X0 hx (hb hby d1_19) ?_
  refine own_i2c X0 hx (hb hby d1_20) ?_
  rw [hX2]
  refine own_istore (l' := #[.val (.int 3), .val (.int c01), .val (.int c2), .val (.int x0), .val (.int x1), .val (.int x2)]) X0 hx (hb hby d1_21) rfl ?_
  refine own_iloadN X0 hx (hb hby d1_23) rfl ?_
  refine own_ifYes X0 hx 38 (hb hby d1_24) (feq (by decide : ¬ ((3 : Int32) = (0 : Int32)))).2 (by decide) (by decide) ?_
  refine own_iloadN X0 hx (hb hby d1_38) rfl ?_
  refine own_iconst X0 hx 1 (hb hby d1_39) rfl ?_
  refine own_icmpYes X0 hx 58 (hb hby d1_40) (feq (by decide : ¬ ((3 : Int32) = (1 : Int32)))).2 (by decide) (by decide) ?_
  refine own_iloadN X0 hx (hb hby d1_58) rfl ?_
  refine own_iconst X0 hx 2 (hb hby d1_59) rfl ?_
  refine own_icmpYes X0 hx 83 (hb hby d1_60) (feq (by decide : ¬ ((3 : Int32) = (2 : Int32)))).2 (by decide) (by decide) ?_
  refine own_newO X0 hx hZ hown (own_m hw 5 rfl) (own_m hw 6 rfl) (own_m hw 7 rfl) e0 (hb hby d1_83) (by decide) (by decide) fun T415 h415 b415 g415 X415 e415 E415 A415 D415 => ?_
  have g_b415 : n0 ≤ b415 := Nat.le_trans Z0 (Nat.le_of_eq g415.symm)
  have szo_b415 : h0.size ≤ b415 := Nat.le_trans (Nat.le_refl h0.size) (Nat.le_of_eq g415.symm)
  have F_coder_b415 : Fld Z h415 b415 "java/lang/String" "coder" "B" (.int 0) := D415 (Or.inr (own_m hw 32 rfl)) (ty := .byte) (by decide)
  have F_value_b415 : Fld Z h415 b415 "java/lang/String" "value" "[B" .null := D415 (Or.inr (own_m hw 34 rfl)) (ty := (.array .byte)) (by decide)
  refine own_dup X415 hx (hb hby d1_86) rfl ?_
  refine own_iconst X415 hx 3 (hb hby d1_87) rfl ?_
  refine own_newP (n := (3 : Int32)) (cap := 3) (ad := "[C") X415 hx hZ (own_m hw 8 rfl) e415 (hb hby d1_88) (by decide) (by decide) (by decide) (by decide) (by decide) (by decide) fun T416 h416 k416 b416 g416 X416 e416 E416 A416 Ex416 => ?_
  have g_b416 : n0 ≤ b416 := Nat.le_trans (Nat.le_trans Z0 E415.1) (Nat.le_of_eq g416.symm)
  have szo_b416 : h0.size ≤ b416 := Nat.le_trans (Nat.le_trans (Nat.le_refl h0.size) E415.1) (Nat.le_of_eq g416.symm)
  have V416 : Arv Z h416 b416 k416 .char (3 : Int32) [(.int 0), (.int 0), (.int 0)] (.int 0) := (Arv.new A416 (by decide)).pad (pad_rep [] (.int 0) 3)
  refine own_dup X416 hx (hb hby d1_90) rfl ?_
  refine own_iconst X416 hx 0 (hb hby d1_91) rfl ?_
  refine own_iloadN X416 hx (hb hby d1_92) rfl ?_
  refine own_stC (vs' := [(.int x0), (.int 0), (.int 0)]) (w := (.int x0)) X416 hx hZ e416 V416 ⟨by decide, by decide⟩ 0 rfl (Nat.le_of_ble_eq_true rfl) (congrArg Value.int (own_nar16 lo0 hi0)) rfl (hb hby d1_93) fun T417 h417 X417 e417 W417 V417 => ?_
  have N417 := Fr.snoc X417 N0 g_b416
  refine own_dup X417 hx (hb hby d1_94) rfl ?_
  refine own_iconst X417 hx 1 (hb hby d1_95) rfl ?_
  refine own_iload X417 hx (hb hby d1_96) rfl ?_
  refine own_stC (vs' := [(.int x0), (.int x1), (.int 0)]) (w := (.int x1)) X417 hx hZ e417 V417 ⟨by decide, by decide⟩ 1 rfl (Nat.le_of_ble_eq_true rfl) (congrArg Value.int (own_nar16 lo1 hi1)) rfl (hb hby d1_98) fun T418 h418 X418 e418 W418 V418 => ?_
  have N418 := Fr.snoc X418 N417 g_b416
  refine own_dup X418 hx (hb hby d1_99) rfl ?_
  refine own_iconst X418 hx 2 (hb hby d1_100) rfl ?_
  refine own_iload X418 hx (hb hby d1_101) rfl ?_
  refine own_stC (vs' := [(.int x0), (.int x1), (.int x2)]) (w := (.int x2)) X418 hx hZ e418 V418 ⟨by decide, by decide⟩ 2 rfl (Nat.le_of_ble_eq_true rfl) (congrArg Value.int (own_nar16 lo2 hi2)) rfl (hb hby d1_103) fun T419 h419 X419 e419 W419 V419 => ?_
  have N419 := Fr.snoc X419 N418 g_b416
  have f420 := (Sta.wr W419 (Sta.wr W418 (Sta.wr W417 (Sta.ext E416 (Sta.ext E415 Sc)))))
  have f421 := (Sta.wr W419 (Sta.wr W418 (Sta.wr W417 (Sta.ext E416 (Sta.ext E415 Sad)))))
  have f422 := (Sta.wr W419 (Sta.wr W418 (Sta.wr W417 (Sta.ext E416 (Sta.ext E415 Shi)))))
  have f423 := (Sta.wr W419 (Sta.wr W418 (Sta.wr W417 (Sta.ext E416 (Sta.ext E415 Slo)))))
  have f424 := (Sta.wr W419 (Sta.wr W418 (Sta.wr W417 (Sta.ext E416 (Sta.ext E415 Sf)))))
  have f425 := (Exa.wr W419 (Exa.wr W418 (Exa.wr W417 (Exa.ext E416 A415))))
  have f426 := (Fld.other W419 (Fld.other W418 (Fld.other W417 (Fld.ext E416 F_coder_b415) (Or.inl (Nat.ne_of_lt (Nat.lt_of_lt_of_le A415.lt (Nat.le_of_eq g416.symm))))) (Or.inl (Nat.ne_of_lt (Nat.lt_of_lt_of_le A415.lt (Nat.le_of_eq g416.symm))))) (Or.inl (Nat.ne_of_lt (Nat.lt_of_lt_of_le A415.lt (Nat.le_of_eq g416.symm)))))
  have f427 := (Fld.other W419 (Fld.other W418 (Fld.other W417 (Fld.ext E416 F_value_b415) (Or.inl (Nat.ne_of_lt (Nat.lt_of_lt_of_le A415.lt (Nat.le_of_eq g416.symm))))) (Or.inl (Nat.ne_of_lt (Nat.lt_of_lt_of_le A415.lt (Nat.le_of_eq g416.symm))))) (Or.inl (Nat.ne_of_lt (Nat.lt_of_lt_of_le A415.lt (Nat.le_of_eq g416.symm)))))
  have f428 := (Exa.wr W419 (Exa.wr W418 (Exa.wr W417 Ex416)))
  have Zs429 : n0 ≤ h419.size := (Nat.le_trans (Nat.le_trans (Nat.le_trans (Nat.le_trans (Nat.le_trans Z0 E415.1) E416.1) (Keep.of_wr W417).1) (Keep.of_wr W418).1) (Keep.of_wr W419).1)
  refine own_cSpec (b := b415) (W := 1) (rest := [(.ref b415)]) X419 hx hZ [(.ref b416)] rfl hown (own_m hw 9 rfl) (own_m hw 10 rfl) (by decide) (own_m hw 11 rfl) (own_m hw 7 rfl) e419 (rmIu1_3_1 l Z a0 hw [] b415 b416 k416 cs x0 x1 x2 h419 n0 Zs429 f425 f427 f426 g_b415 f420 hcs f421 f422 f423 V419 f428 hx0 hx1 lo1 hi1) (by rw [hml]; rfl) (lenOf pd_16 rfl) rfl (Nat.le_of_eq rfl) (hb hby d1_104) (by decide) (by decide) (by decide) (by decide) fun v430 T430 L430 X430 hQ430 => ?_
  obtain ⟨rfl, N430q, K430, sb430, kb430, szb430, Eb430, Ea430, Fv430, Fc430, Vb430⟩ := hQ430
  have N430 := Fr.app N419 N430q
  show own_At p e below _ T430 m 107 _ [(.ref b415)]
  refine own_retA X430 hx hlk hret rfl rfl rfl (hb hby d1_107) (own_kW X430 hZ hEL (CHr.trans (CHr.trans (CHr.trans (CHr.trans (CHr.trans (CHr.trans CR0 (CHr.ext E415 CH0)) (CHr.ext E416 (CHv.ext E415 CH0))) (CHr.wr W417 (Safe.exa hZ.alike Ex416 (by decide) (by decide)) (CHv.ext E416 (CHv.ext E415 CH0)))) (CHr.wr W418 (Safe.exa hZ.alike (Exa.wr W417 Ex416) (by decide) (by decide)) (CHv.wr W417 (Safe.exa hZ.alike Ex416 (by decide) (by decide)) (CHv.ext E416 (CHv.ext E415 CH0))))) (CHr.wr W419 (Safe.exa hZ.alike (Exa.wr W418 (Exa.wr W417 Ex416)) (by decide) (by decide)) (CHv.wr W418 (Safe.exa hZ.alike (Exa.wr W417 Ex416) (by decide) (by decide)) (CHv.wr W417 (Safe.exa hZ.alike Ex416 (by decide) (by decide)) (CHv.ext E416 (CHv.ext E415 CH0)))))) (CHr.keep K430 (sfS (Safe.wr W419 (Safe.exa hZ.alike (Exa.wr W418 (Exa.wr W417 Ex416)) (by decide) (by decide)) (CHv.wr W418 (Safe.exa hZ.alike (Exa.wr W417 Ex416) (by decide) (by decide)) (CHv.wr W417 (Safe.exa hZ.alike Ex416 (by decide) (by decide)) (CHv.ext E416 (CHv.ext E415 CH0)))) (Safe.wr W418 (Safe.exa hZ.alike (Exa.wr W417 Ex416) (by decide) (by decide)) (CHv.wr W417 (Safe.exa hZ.alike Ex416 (by decide) (by decide)) (CHv.ext E416 (CHv.ext E415 CH0))) (Safe.wr W417 (Safe.exa hZ.alike Ex416 (by decide) (by decide)) (CHv.ext E416 (CHv.ext E415 CH0)) (Safe.ext E416 (CHv.ext E415 CH0) (Safe.ext E415 CH0 (Safe.new (Nat.le_of_eq g415.symm))))))) sf0) (CHv.wr W419 (Safe.exa hZ.alike (Exa.wr W418 (Exa.wr W417 Ex416)) (by decide) (by decide)) (CHv.wr W418 (Safe.exa hZ.alike (Exa.wr W417 Ex416) (by decide) (by decide)) (CHv.wr W417 (Safe.exa hZ.alike Ex416 (by decide) (by decide)) (CHv.ext E416 (CHv.ext E415 CH0))))))) hS0 (Nat.le_trans (Nat.le_trans (Nat.le_trans (Nat.le_trans (Nat.le_trans (Nat.le_trans (Nat.le_refl _) E415.1) E416.1) (Keep.of_wr W417).1) (Keep.of_wr W418).1) (Keep.of_wr W419).1) K430.1) (by decide) (by decide) ?_)
  exact ⟨b415, sb430, kb430, (1 : Int32), (6 : Int32), [(.int (own_lo x0)), (.int (own_hi x0)), (.int (own_lo x1)), (.int (own_hi x1)), (.int (own_lo x2)), (.int (own_hi x2))], rfl, N430, (Keep.trans (Keep.wr (Keep.wr (Keep.wr (Keep.ext (Keep.ext (Keep.refl h0 []) E415) E416) W417 (Or.inr szo_b416)) W418 (Or.inr szo_b416)) W419 (Or.inr szo_b416)) K430 (allS (Or.inr szo_b415) all0)), szo_b415, Ea430, Fv430, Fc430, Vb430, fun h0 n0 Z0 Sc hcs Sad Shi Slo Sf hfm Ea Fv Fc Vb => rmH_1_3 l Z a0 hw [] b415 sb430 kb430 cs fm (own_lo x0) (own_hi x0) (own_lo x1) (own_hi x1) (own_lo x2) (own_hi x2) h0 n0 Z0 Sc hcs Sad Shi Slo Sf hfm Ea Fv Fc Vb⟩
set_option maxRecDepth 65536 in
set_option maxHeartbeats 40000000 in
theorem rmTX_3_2 (l : Launch) (Z : State) (a0 : Array Value) (hw : own_Wd a0 Z) (ws : List Jvm.Cond) (c01 c2 x0 x1 x2 cs : Int32) (fm : Value)  (h0 : Heap) (n0 : Nat) (Z0 : n0 ≤ h0.size) (Sc : Sta Z h0 "java/lang/String" "COMPACT_STRINGS" "Z" (.int cs)) (hcs : ¬ (cs = (0 : Int32))) (Sad : Sta Z h0 "java/lang/StringUTF16" "$assertionsDisabled" "Z" (.int 1)) (Shi : Sta Z h0 "java/lang/StringUTF16" "HI_BYTE_SHIFT" "I" (.int 0)) (Slo : Sta Z h0 "java/lang/StringUTF16" "LO_BYTE_SHIFT" "I" (.int 8)) (Sf : Sta Z h0 "jdk/internal/util/Preconditions" "SIOOBE_FORMATTER" "Ljava/util/function/BiFunction;" fm) (hfm : fm.isRef = true) (hX0 : ((c01 &&& (65535 : Int32)).toUInt32.toUInt16.toUInt32.toInt32) = x0) (hX1 : ((((c01.toUInt32 >>> ((16 : Int32) &&& 31).toUInt32).toInt32) &&& (65535 : Int32)).toUInt32.toUInt16.toUInt32.toInt32) = x1) (hX2 : ((c2 &&& (65535 : Int32)).toUInt32.toUInt16.toUInt32.toInt32) = x2) (lo0 : ¬ x0 < (0 : Int32)) (hi0 : ¬ (65535 : Int32) < x0) (lo1 : ¬ x1 < (0 : Int32)) (hi1 : ¬ (65535 : Int32) < x1) (lo2 : ¬ x2 < (0 : Int32)) (hi2 : ¬ (65535 : Int32) < x2) (hx0 : ¬ ((255 : Int32) < x0)) (hx1 : ¬ ((255 : Int32) < x1)) (hx2 : (255 : Int32) < x2) :
    own_MetW l (⟨"com/example/vestline/vestline/cli/BloomFilterAddPinLaw", "text", "(III)Ljava/lang/String;"⟩ : MethodName) method_2_code 6 (some (.object "java/lang/String")) ws ({ frames := 6, cells := 6, slots := 24, locals := 100 } : Room) Z own_EL #[(.int 3), (.int c01), (.int c2)] h0 (fun v h L => ∃ a b kb cd bl bs, v = some (.ref a) ∧ Fr n0 L ∧ Keep h0 h [] ∧ h0.size ≤ a ∧ Exa Z h a "java/lang/String" ∧ Fld Z h a "java/lang/String" "value" "[B" (.ref b) ∧ Fld Z h a "java/lang/String" "coder" "B" (.int cd) ∧ Arv Z h b kb .byte bl bs (.int 0) ∧ own_CH l Z cs fm a b kb cd bl bs (own_H_1_3 (own_lo x0) (own_hi x0) (own_lo x1) (own_hi x1) (own_lo x2) (own_hi x2))) := by
  refine own_bodyW (plainFor_of_name pn_5) ?_
  intro p e s m below meth c s₁ X0 hx hby hml hown hnm hret hlk hZ e0 hs0 CH0 hS0
  replace hown : (s.setVm s.vm).vm.findClass "com/example/vestline/vestline/cli/BloomFilterAddPinLaw" = some m.cls := hown
  replace hml : c.maxLocals = 6 := hml
  replace hret : meth.sig.returnType = (some (.object "java/lang/String")) := hret
  have N0 := Fr.nil n0
  have hEL : EW Z a0 own_EL := own_ELw hw
  have CR0 : CHr Z own_EL s.vm s.heap s.vm h0 := by rw [hs0]; exact CHr.refl CH0
  refine own_ef (L0 := #[.val (.int 3), .val (.int c01), .val (.int c2), .unset, .unset, .unset]) (by first | (simp [entryFrame, mkF, argsToLocals, Value.category]; done) | rfl) ?_
  refine own_iloadN X0 hx (hb hby d1_0) rfl ?_
  refine own_ldcI X0 hx hZ hown (own_m hw 4 rfl) (hb hby d1_1) ?_
  refine own_iand X0 hx (hb hby d1_3) ?_
  refine own_i2c X0 hx (hb hby d1_4) ?_
  rw [hX0]
  refine own_istoreN (l' := #[.val (.int 3), .val (.int c01), .val (.int c2), .val (.int x0), .unset, .unset]) X0 hx (hb hby d1_5) rfl ?_
  refine own_iloadN X0 hx (hb hby d1_6) rfl ?_
  refine own_bipush X0 hx 16 (hb hby d1_7) rfl ?_
  refine own_iushr X0 hx (hb hby d1_9) ?_
  refine own_ldcI X0 hx hZ hown (own_m hw 4 rfl) (hb hby d1_10) ?_
  refine own_iand X0 hx (hb hby d1_12) ?_
  refine own_i2c X0 hx (hb hby d1_13) ?_
  rw [hX1]
  refine own_istore (l' := #[.val (.int 3), .val (.int c01), .val (.int c2), .val (.int x0), .val (.int x1), .unset]) X0 hx (hb hby d1_14) rfl ?_
  refine own_iloadN X0 hx (hb hby d1_16) rfl ?_
  refine own_ldcI X0 hx hZ hown (own_m hw 4 rfl) (hb hby d1_17) ?_
  refine own_iand X0 hx (hb hby d1_19) ?_
  refine own_i2c X0 hx (hb hby d1_20) ?_
  rw [hX2]
  refine own_istore (l' := #[.val (.int 3), .val (.int c01), .val (.int c2), .val (.int x0), .val (.int x1), .val (.int x2)]) X0 hx (hb hby d1_21) rfl ?_
  refine own_iloadN X0 hx (hb hby d1_23) rfl ?_
  refine own_ifYes X0 hx 38 (hb hby d1_24) (feq (by decide : ¬ ((3 : Int32) = (0 : Int32)))).2 (by decide) (by decide) ?_
  refine own_iloadN X0 hx (hb hby d1_38) rfl ?_
  refine own_iconst X0 hx 1 (hb hby d1_39) rfl ?_
  refine own_icmpYes X0 hx 58 (hb hby d1_40) (feq (by decide : ¬ ((3 : Int32) = (1 : Int32)))).2 (by decide) (by decide) ?_
  refine own_iloadN X0 hx (hb hby d1_58) rfl ?_
  refine own_iconst X0 hx 2 (hb hby d1_59) rfl ?_
  refine own_icmpYes X0 hx 83 (hb hby d1_60) (feq (by decide : ¬ ((3 : Int32) = (2 : Int32)))).2 (by decide) (by decide) ?_
  refine own_newO X0 hx hZ hown (own_m hw 5 rfl) (own_m hw 6 rfl) (own_m hw 7 rfl) e0 (hb hby d1_83) (by decide) (by decide) fun T431 h431 b431 g431 X431 e431 E431 A431 D431 => ?_
  have g_b431 : n0 ≤ b431 := Nat.le_trans Z0 (Nat.le_of_eq g431.symm)
  have szo_b431 : h0.size ≤ b431 := Nat.le_trans (Nat.le_refl h0.size) (Nat.le_of_eq g431.symm)
  have F_coder_b431 : Fld Z h431 b431 "java/lang/String" "coder" "B" (.int 0) := D431 (Or.inr (own_m hw 32 rfl)) (ty := .byte) (by decide)
  have F_value_b431 : Fld Z h431 b431 "java/lang/String" "value" "[B" .null := D431 (Or.inr (own_m hw 34 rfl)) (ty := (.array .byte)) (by decide)
  refine own_dup X431 hx (hb hby d1_86) rfl ?_
  refine own_iconst X431 hx 3 (hb hby d1_87) rfl ?_
  refine own_newP (n := (3 : Int32)) (cap := 3) (ad := "[C") X431 hx hZ (own_m hw 8 rfl) e431 (hb hby d1_88) (by decide) (by decide) (by decide) (by decide) (by decide) (by decide) fun T432 h432 k432 b432 g432 X432 e432 E432 A432 Ex432 => ?_
  have g_b432 : n0 ≤ b432 := Nat.le_trans (Nat.le_trans Z0 E431.1) (Nat.le_of_eq g432.symm)
  have szo_b432 : h0.size ≤ b432 := Nat.le_trans (Nat.le_trans (Nat.le_refl h0.size) E431.1) (Nat.le_of_eq g432.symm)
  have V432 : Arv Z h432 b432 k432 .char (3 : Int32) [(.int 0), (.int 0), (.int 0)] (.int 0) := (Arv.new A432 (by decide)).pad (pad_rep [] (.int 0) 3)
  refine own_dup X432 hx (hb hby d1_90) rfl ?_
  refine own_iconst X432 hx 0 (hb hby d1_91) rfl ?_
  refine own_iloadN X432 hx (hb hby d1_92) rfl ?_
  refine own_stC (vs' := [(.int x0), (.int 0), (.int 0)]) (w := (.int x0)) X432 hx hZ e432 V432 ⟨by decide, by decide⟩ 0 rfl (Nat.le_of_ble_eq_true rfl) (congrArg Value.int (own_nar16 lo0 hi0)) rfl (hb hby d1_93) fun T433 h433 X433 e433 W433 V433 => ?_
  have N433 := Fr.snoc X433 N0 g_b432
  refine own_dup X433 hx (hb hby d1_94) rfl ?_
  refine own_iconst X433 hx 1 (hb hby d1_95) rfl ?_
  refine own_iload X433 hx (hb hby d1_96) rfl ?_
  refine own_stC (vs' := [(.int x0), (.int x1), (.int 0)]) (w := (.int x1)) X433 hx hZ e433 V433 ⟨by decide, by decide⟩ 1 rfl (Nat.le_of_ble_eq_true rfl) (congrArg Value.int (own_nar16 lo1 hi1)) rfl (hb hby d1_98) fun T434 h434 X434 e434 W434 V434 => ?_
  have N434 := Fr.snoc X434 N433 g_b432
  refine own_dup X434 hx (hb hby d1_99) rfl ?_
  refine own_iconst X434 hx 2 (hb hby d1_100) rfl ?_
  refine own_iload X434 hx (hb hby d1_101) rfl ?_
  refine own_stC (vs' := [(.int x0), (.int x1), (.int x2)]) (w := (.int x2)) X434 hx hZ e434 V434 ⟨by decide, by decide⟩ 2 rfl (Nat.le_of_ble_eq_true rfl) (congrArg Value.int (own_nar16 lo2 hi2)) rfl (hb hby d1_103) fun T435 h435 X435 e435 W435 V435 => ?_
  have N435 := Fr.snoc X435 N434 g_b432
  have f436 := (Sta.wr W435 (Sta.wr W434 (Sta.wr W433 (Sta.ext E432 (Sta.ext E431 Sc)))))
  have f437 := (Sta.wr W435 (Sta.wr W434 (Sta.wr W433 (Sta.ext E432 (Sta.ext E431 Sad)))))
  have f438 := (Sta.wr W435 (Sta.wr W434 (Sta.wr W433 (Sta.ext E432 (Sta.ext E431 Shi)))))
  have f439 := (Sta.wr W435 (Sta.wr W434 (Sta.wr W433 (Sta.ext E432 (Sta.ext E431 Slo)))))
  have f440 := (Sta.wr W435 (Sta.wr W434 (Sta.wr W433 (Sta.ext E432 (Sta.ext E431 Sf)))))
  have f441 := (Exa.wr W435 (Exa.wr W434 (Exa.wr W433 (Exa.ext E432 A431))))
  have f442 := (Fld.other W435 (Fld.other W434 (Fld.other W433 (Fld.ext E432 F_coder_b431) (Or.inl (Nat.ne_of_lt (Nat.lt_of_lt_of_le A431.lt (Nat.le_of_eq g432.symm))))) (Or.inl (Nat.ne_of_lt (Nat.lt_of_lt_of_le A431.lt (Nat.le_of_eq g432.symm))))) (Or.inl (Nat.ne_of_lt (Nat.lt_of_lt_of_le A431.lt (Nat.le_of_eq g432.symm)))))
  have f443 := (Fld.other W435 (Fld.other W434 (Fld.other W433 (Fld.ext E432 F_value_b431) (Or.inl (Nat.ne_of_lt (Nat.lt_of_lt_of_le A431.lt (Nat.le_of_eq g432.symm))))) (Or.inl (Nat.ne_of_lt (Nat.lt_of_lt_of_le A431.lt (Nat.le_of_eq g432.symm))))) (Or.inl (Nat.ne_of_lt (Nat.lt_of_lt_of_le A431.lt (Nat.le_of_eq g432.symm)))))
  have f444 := (Exa.wr W435 (Exa.wr W434 (Exa.wr W433 Ex432)))
  have Zs445 : n0 ≤ h435.size := (Nat.le_trans (Nat.le_trans (Nat.le_trans (Nat.le_trans (Nat.le_trans Z0 E431.1) E432.1) (Keep.of_wr W433).1) (Keep.of_wr W434).1) (Keep.of_wr W435).1)
  refine own_cSpec (b := b431) (W := 1) (rest := [(.ref b431)]) X435 hx hZ [(.ref b432)] rfl hown (own_m hw 9 rfl) (own_m hw 10 rfl) (by decide) (own_m hw 11 rfl) (own_m hw 7 rfl) e435 (rmIu1_3_2 l Z a0 hw [] b431 b432 k432 cs x0 x1 x2 h435 n0 Zs445 f441 f443 f442 g_b431 f436 hcs f437 f438 f439 V435 f444 hx0 hx1 hx2 lo2 hi2) (by rw [hml]; rfl) (lenOf pd_16 rfl) rfl (Nat.le_of_eq rfl) (hb hby d1_104) (by decide) (by decide) (by decide) (by decide) fun v446 T446 L446 X446 hQ446 => ?_
  obtain ⟨rfl, N446q, K446, sb446, kb446, szb446, Eb446, Ea446, Fv446, Fc446, Vb446⟩ := hQ446
  have N446 := Fr.app N435 N446q
  show own_At p e below _ T446 m 107 _ [(.ref b431)]
  refine own_retA X446 hx hlk hret rfl rfl rfl (hb hby d1_107) (own_kW X446 hZ hEL (CHr.trans (CHr.trans (CHr.trans (CHr.trans (CHr.trans (CHr.trans CR0 (CHr.ext E431 CH0)) (CHr.ext E432 (CHv.ext E431 CH0))) (CHr.wr W433 (Safe.exa hZ.alike Ex432 (by decide) (by decide)) (CHv.ext E432 (CHv.ext E431 CH0)))) (CHr.wr W434 (Safe.exa hZ.alike (Exa.wr W433 Ex432) (by decide) (by decide)) (CHv.wr W433 (Safe.exa hZ.alike Ex432 (by decide) (by decide)) (CHv.ext E432 (CHv.ext E431 CH0))))) (CHr.wr W435 (Safe.exa hZ.alike (Exa.wr W434 (Exa.wr W433 Ex432)) (by decide) (by decide)) (CHv.wr W434 (Safe.exa hZ.alike (Exa.wr W433 Ex432) (by decide) (by decide)) (CHv.wr W433 (Safe.exa hZ.alike Ex432 (by decide) (by decide)) (CHv.ext E432 (CHv.ext E431 CH0)))))) (CHr.keep K446 (sfS (Safe.wr W435 (Safe.exa hZ.alike (Exa.wr W434 (Exa.wr W433 Ex432)) (by decide) (by decide)) (CHv.wr W434 (Safe.exa hZ.alike (Exa.wr W433 Ex432) (by decide) (by decide)) (CHv.wr W433 (Safe.exa hZ.alike Ex432 (by decide) (by decide)) (CHv.ext E432 (CHv.ext E431 CH0)))) (Safe.wr W434 (Safe.exa hZ.alike (Exa.wr W433 Ex432) (by decide) (by decide)) (CHv.wr W433 (Safe.exa hZ.alike Ex432 (by decide) (by decide)) (CHv.ext E432 (CHv.ext E431 CH0))) (Safe.wr W433 (Safe.exa hZ.alike Ex432 (by decide) (by decide)) (CHv.ext E432 (CHv.ext E431 CH0)) (Safe.ext E432 (CHv.ext E431 CH0) (Safe.ext E431 CH0 (Safe.new (Nat.le_of_eq g431.symm))))))) sf0) (CHv.wr W435 (Safe.exa hZ.alike (Exa.wr W434 (Exa.wr W433 Ex432)) (by decide) (by decide)) (CHv.wr W434 (Safe.exa hZ.alike (Exa.wr W433 Ex432) (by decide) (by decide)) (CHv.wr W433 (Safe.exa hZ.alike Ex432 (by decide) (by decide)) (CHv.ext E432 (CHv.ext E431 CH0))))))) hS0 (Nat.le_trans (Nat.le_trans (Nat.le_trans (Nat.le_trans (Nat.le_trans (Nat.le_trans (Nat.le_refl _) E431.1) E432.1) (Keep.of_wr W433).1) (Keep.of_wr W434).1) (Keep.of_wr W435).1) K446.1) (by decide) (by decide) ?_)
  exact ⟨b431, sb446, kb446, (1 : Int32), (6 : Int32), [(.int (own_lo x0)), (.int (own_hi x0)), (.int (own_lo x1)), (.int (own_hi x1)), (.int (own_lo x2)), (.int (own_hi x2))], rfl, N446, (Keep.trans (Keep.wr (Keep.wr (Keep.wr (Keep.ext (Keep.ext (Keep.refl h0 []) E431) E432) W433 (Or.inr szo_b432)) W434 (Or.inr szo_b432)) W435 (Or.inr szo_b432)) K446 (allS (Or.inr szo_b431) all0)), szo_b431, Ea446, Fv446, Fc446, Vb446, fun h0 n0 Z0 Sc hcs Sad Shi Slo Sf hfm Ea Fv Fc Vb => rmH_1_3 l Z a0 hw [] b431 sb446 kb446 cs fm (own_lo x0) (own_hi x0) (own_lo x1) (own_hi x1) (own_lo x2) (own_hi x2) h0 n0 Z0 Sc hcs Sad Shi Slo Sf hfm Ea Fv Fc Vb⟩
theorem own_i2cb (x : Int32) : ¬ (x.toUInt32.toUInt16.toUInt32.toInt32) < (0 : Int32) ∧ ¬ (65535 : Int32) < (x.toUInt32.toUInt16.toUInt32.toInt32) := by
  have e := c_i2c x
  have k0 : (0 : Int32).toInt = 0 := by decide
  have k1 : (65535 : Int32).toInt = 65535 := by decide
  simp only [Int32.lt_iff_toInt_lt, k0, k1]
  omega
theorem own_and3 (p : Int32) : (p &&& (3 : Int32)) = 0 ∨ (p &&& (3 : Int32)) = 1 ∨ (p &&& (3 : Int32)) = 2 ∨ (p &&& (3 : Int32)) = 3 := by
  have m := c_mask p 3 2 (by decide) (by decide)
  simp only [← Int32.toInt_inj]
  have e0 : (0 : Int32).toInt = 0 := by decide
  have e1 : (1 : Int32).toInt = 1 := by decide
  have e2 : (2 : Int32).toInt = 2 := by decide
  have e3 : (3 : Int32).toInt = 3 := by decide
  rw [e0, e1, e2, e3]
  omega
set_option maxRecDepth 65536 in
theorem own_TX (l : Launch) (Z : State) (a0 : Array Value) (hw : ∀ d ∈ tables_1, d.before a0 Z = true) (cs : Int32) (fm : Value) (len c01 c2 : Int32) (hlen : len = 0 ∨ len = 1 ∨ len = 2 ∨ len = 3) : ∃ H : Int64, ∀ (h0 : Heap) (n0 : Nat), n0 ≤ h0.size → Sta Z h0 "java/lang/String" "COMPACT_STRINGS" "Z" (.int cs) → ¬ (cs = (0 : Int32)) → Sta Z h0 "java/lang/StringUTF16" "$assertionsDisabled" "Z" (.int 1) → Sta Z h0 "java/lang/StringUTF16" "HI_BYTE_SHIFT" "I" (.int 0) → Sta Z h0 "java/lang/StringUTF16" "LO_BYTE_SHIFT" "I" (.int 8) → Sta Z h0 "jdk/internal/util/Preconditions" "SIOOBE_FORMATTER" "Ljava/util/function/BiFunction;" fm → fm.isRef = true → own_MetW l (⟨"com/example/vestline/vestline/cli/BloomFilterAddPinLaw", "text", "(III)Ljava/lang/String;"⟩ : MethodName) method_2_code 6 (some (.object "java/lang/String")) [] ({ frames := 6, cells := 6, slots := 24, locals := 100 } : Room) Z own_EL #[(.int len), (.int c01), (.int c2)] h0 (fun v h L => ∃ a b kb cd bl bs, v = some (.ref a) ∧ Fr n0 L ∧ Keep h0 h [] ∧ h0.size ≤ a ∧ Exa Z h a "java/lang/String" ∧ Fld Z h a "java/lang/String" "value" "[B" (.ref b) ∧ Fld Z h a "java/lang/String" "coder" "B" (.int cd) ∧ Arv Z h b kb .byte bl bs (.int 0) ∧ own_CH l Z cs fm a b kb cd bl bs H) := by
  rcases hlen with rfl | rfl | rfl | rfl
  · exact ⟨_, fun h0 n0 Z0 Sc hcs Sad Shi Slo Sf hfm => rmTX_0_l l Z a0 hw [] c01 c2 _ _ _ cs fm h0 n0 Z0 Sc hcs Sad Shi Slo Sf hfm rfl rfl rfl  ⟩
  · by_cases q0 : (255 : Int32) < ((c01 &&& (65535 : Int32)).toUInt32.toUInt16.toUInt32.toInt32)
    · exact ⟨_, fun h0 n0 Z0 Sc hcs Sad Shi Slo Sf hfm => rmTX_1_0 l Z a0 hw [] c01 c2 _ _ _ cs fm h0 n0 Z0 Sc hcs Sad Shi Slo Sf hfm rfl rfl rfl (own_i2cb _).1 (own_i2cb _).2 q0⟩
    · exact ⟨_, fun h0 n0 Z0 Sc hcs Sad Shi Slo Sf hfm => rmTX_1_l l Z a0 hw [] c01 c2 _ _ _ cs fm h0 n0 Z0 Sc hcs Sad Shi Slo Sf hfm rfl rfl rfl (own_i2cb _).1 (own_i2cb _).2 q0⟩
  · by_cases q0 : (255 : Int32) < ((c01 &&& (65535 : Int32)).toUInt32.toUInt16.toUInt32.toInt32)
    · exact ⟨_, fun h0 n0 Z0 Sc hcs Sad Shi Slo Sf hfm => rmTX_2_0 l Z a0 hw [] c01 c2 _ _ _ cs fm h0 n0 Z0 Sc hcs Sad Shi Slo Sf hfm rfl rfl rfl (own_i2cb _).1 (own_i2cb _).2 (own_i2cb _).1 (own_i2cb _).2 q0⟩
    · by_cases q1 : (255 : Int32) < ((((c01.toUInt32 >>> ((16 : Int32) &&& 31).toUInt32).toInt32) &&& (65535 : Int32)).toUInt32.toUInt16.toUInt32.toInt32)
      · exact ⟨_, fun h0 n0 Z0 Sc hcs Sad Shi Slo Sf hfm => rmTX_2_1 l Z a0 hw [] c01 c2 _ _ _ cs fm h0 n0 Z0 Sc hcs Sad Shi Slo Sf hfm rfl rfl rfl (own_i2cb _).1 (own_i2cb _).2 (own_i2cb _).1 (own_i2cb _).2 q0 q1⟩
      · exact ⟨_, fun h0 n0 Z0 Sc hcs Sad Shi Slo Sf hfm => rmTX_2_l l Z a0 hw [] c01 c2 _ _ _ cs fm h0 n0 Z0 Sc hcs Sad Shi Slo Sf hfm rfl rfl rfl (own_i2cb _).1 (own_i2cb _).2 (own_i2cb _).1 (own_i2cb _).2 q0 q1⟩
  · by_cases q0 : (255 : Int32) < ((c01 &&& (65535 : Int32)).toUInt32.toUInt16.toUInt32.toInt32)
    · exact ⟨_, fun h0 n0 Z0 Sc hcs Sad Shi Slo Sf hfm => rmTX_3_0 l Z a0 hw [] c01 c2 _ _ _ cs fm h0 n0 Z0 Sc hcs Sad Shi Slo Sf hfm rfl rfl rfl (own_i2cb _).1 (own_i2cb _).2 (own_i2cb _).1 (own_i2cb _).2 (own_i2cb _).1 (own_i2cb _).2 q0⟩
    · by_cases q1 : (255 : Int32) < ((((c01.toUInt32 >>> ((16 : Int32) &&& 31).toUInt32).toInt32) &&& (65535 : Int32)).toUInt32.toUInt16.toUInt32.toInt32)
      · exact ⟨_, fun h0 n0 Z0 Sc hcs Sad Shi Slo Sf hfm => rmTX_3_1 l Z a0 hw [] c01 c2 _ _ _ cs fm h0 n0 Z0 Sc hcs Sad Shi Slo Sf hfm rfl rfl rfl (own_i2cb _).1 (own_i2cb _).2 (own_i2cb _).1 (own_i2cb _).2 (own_i2cb _).1 (own_i2cb _).2 q0 q1⟩
      · by_cases q2 : (255 : Int32) < ((c2 &&& (65535 : Int32)).toUInt32.toUInt16.toUInt32.toInt32)
        · exact ⟨_, fun h0 n0 Z0 Sc hcs Sad Shi Slo Sf hfm => rmTX_3_2 l Z a0 hw [] c01 c2 _ _ _ cs fm h0 n0 Z0 Sc hcs Sad Shi Slo Sf hfm rfl rfl rfl (own_i2cb _).1 (own_i2cb _).2 (own_i2cb _).1 (own_i2cb _).2 (own_i2cb _).1 (own_i2cb _).2 q0 q1 q2⟩
        · exact ⟨_, fun h0 n0 Z0 Sc hcs Sad Shi Slo Sf hfm => rmTX_3_l l Z a0 hw [] c01 c2 _ _ _ cs fm h0 n0 Z0 Sc hcs Sad Shi Slo Sf hfm rfl rfl rfl (own_i2cb _).1 (own_i2cb _).2 (own_i2cb _).1 (own_i2cb _).2 (own_i2cb _).1 (own_i2cb _).2 q0 q1 q2⟩
abbrev own_P2 (x : Int64) : Prop := x = (1 : Int64) ∨ x = (2 : Int64) ∨ x = (4 : Int64) ∨ x = (8 : Int64) ∨ x = (16 : Int64) ∨ x = (32 : Int64) ∨ x = (64 : Int64) ∨ x = (128 : Int64) ∨ x = (256 : Int64) ∨ x = (512 : Int64) ∨ x = (1024 : Int64) ∨ x = (2048 : Int64) ∨ x = (4096 : Int64) ∨ x = (8192 : Int64) ∨ x = (16384 : Int64) ∨ x = (32768 : Int64)
theorem d9_0 : decode jdk_35_method_50_code 0 = .ok (.lload_n 0, 1) := by decide +kernel
theorem d9_1 : decode jdk_35_method_50_code 1 = .ok (.lload_n 0, 1) := by decide +kernel
theorem d9_2 : decode jdk_35_method_50_code 2 = .ok (.iconst 1, 1) := by decide +kernel
theorem d9_3 : decode jdk_35_method_50_code 3 = .ok (.lushr, 1) := by decide +kernel
theorem d9_4 : decode jdk_35_method_50_code 4 = .ok (.ldc2_w 314, 3) := by decide +kernel
theorem d9_7 : decode jdk_35_method_50_code 7 = .ok (.land, 1) := by decide +kernel
theorem d9_8 : decode jdk_35_method_50_code 8 = .ok (.lsub, 1) := by decide +kernel
theorem d9_9 : decode jdk_35_method_50_code 9 = .ok (.lstore_n 0, 1) := by decide +kernel
theorem d9_10 : decode jdk_35_method_50_code 10 = .ok (.lload_n 0, 1) := by decide +kernel
theorem d9_11 : decode jdk_35_method_50_code 11 = .ok (.ldc2_w 316, 3) := by decide +kernel
theorem d9_14 : decode jdk_35_method_50_code 14 = .ok (.land, 1) := by decide +kernel
theorem d9_15 : decode jdk_35_method_50_code 15 = .ok (.lload_n 0, 1) := by decide +kernel
theorem d9_16 : decode jdk_35_method_50_code 16 = .ok (.iconst 2, 1) := by decide +kernel
theorem d9_17 : decode jdk_35_method_50_code 17 = .ok (.lushr, 1) := by decide +kernel
theorem d9_18 : decode jdk_35_method_50_code 18 = .ok (.ldc2_w 316, 3) := by decide +kernel
theorem d9_21 : decode jdk_35_method_50_code 21 = .ok (.land, 1) := by decide +kernel
theorem d9_22 : decode jdk_35_method_50_code 22 = .ok (.ladd, 1) := by decide +kernel
theorem d9_23 : decode jdk_35_method_50_code 23 = .ok (.lstore_n 0, 1) := by decide +kernel
theorem d9_24 : decode jdk_35_method_50_code 24 = .ok (.lload_n 0, 1) := by decide +kernel
theorem d9_25 : decode jdk_35_method_50_code 25 = .ok (.lload_n 0, 1) := by decide +kernel
theorem d9_26 : decode jdk_35_method_50_code 26 = .ok (.iconst 4, 1) := by decide +kernel
theorem d9_27 : decode jdk_35_method_50_code 27 = .ok (.lushr, 1) := by decide +kernel
theorem d9_28 : decode jdk_35_method_50_code 28 = .ok (.ladd, 1) := by decide +kernel
theorem d9_29 : decode jdk_35_method_50_code 29 = .ok (.ldc2_w 318, 3) := by decide +kernel
theorem d9_32 : decode jdk_35_method_50_code 32 = .ok (.land, 1) := by decide +kernel
theorem d9_33 : decode jdk_35_method_50_code 33 = .ok (.lstore_n 0, 1) := by decide +kernel
theorem d9_34 : decode jdk_35_method_50_code 34 = .ok (.lload_n 0, 1) := by decide +kernel
theorem d9_35 : decode jdk_35_method_50_code 35 = .ok (.lload_n 0, 1) := by decide +kernel
theorem d9_36 : decode jdk_35_method_50_code 36 = .ok (.bipush 8, 2) := by decide +kernel
theorem d9_38 : decode jdk_35_method_50_code 38 = .ok (.lushr, 1) := by decide +kernel
theorem d9_39 : decode jdk_35_method_50_code 39 = .ok (.ladd, 1) := by decide +kernel
theorem d9_40 : decode jdk_35_method_50_code 40 = .ok (.lstore_n 0, 1) := by decide +kernel
theorem d9_41 : decode jdk_35_method_50_code 41 = .ok (.lload_n 0, 1) := by decide +kernel
theorem d9_42 : decode jdk_35_method_50_code 42 = .ok (.lload_n 0, 1) := by decide +kernel
theorem d9_43 : decode jdk_35_method_50_code 43 = .ok (.bipush 16, 2) := by decide +kernel
theorem d9_45 : decode jdk_35_method_50_code 45 = .ok (.lushr, 1) := by decide +kernel
theorem d9_46 : decode jdk_35_method_50_code 46 = .ok (.ladd, 1) := by decide +kernel
theorem d9_47 : decode jdk_35_method_50_code 47 = .ok (.lstore_n 0, 1) := by decide +kernel
theorem d9_48 : decode jdk_35_method_50_code 48 = .ok (.lload_n 0, 1) := by decide +kernel
theorem d9_49 : decode jdk_35_method_50_code 49 = .ok (.lload_n 0, 1) := by decide +kernel
theorem d9_50 : decode jdk_35_method_50_code 50 = .ok (.bipush 32, 2) := by decide +kernel
theorem d9_52 : decode jdk_35_method_50_code 52 = .ok (.lushr, 1) := by decide +kernel
theorem d9_53 : decode jdk_35_method_50_code 53 = .ok (.ladd, 1) := by decide +kernel
theorem d9_54 : decode jdk_35_method_50_code 54 = .ok (.lstore_n 0, 1) := by decide +kernel
theorem d9_55 : decode jdk_35_method_50_code 55 = .ok (.lload_n 0, 1) := by decide +kernel
theorem d9_56 : decode jdk_35_method_50_code 56 = .ok (.l2i, 1) := by decide +kernel
theorem d9_57 : decode jdk_35_method_50_code 57 = .ok (.bipush 127, 2) := by decide +kernel
theorem d9_59 : decode jdk_35_method_50_code 59 = .ok (.iand, 1) := by decide +kernel
theorem d9_60 : decode jdk_35_method_50_code 60 = .ok (.ireturn, 1) := by decide +kernel
theorem pn_6 : plainName "java/lang/Long" = true := by first | (simp [plainName, overriddenIn]; done) | decide +kernel
set_option maxRecDepth 65536 in
theorem own_bc {x : Int64} (h2 : own_P2 x) : ((((((((((x - (((x.toUInt64 >>> ((1 : Int32) &&& 0x3f).toInt64.toUInt64).toInt64) &&& (6148914691236517205 : Int64))) &&& (3689348814741910323 : Int64)) + ((((x - (((x.toUInt64 >>> ((1 : Int32) &&& 0x3f).toInt64.toUInt64).toInt64) &&& (6148914691236517205 : Int64))).toUInt64 >>> ((2 : Int32) &&& 0x3f).toInt64.toUInt64).toInt64) &&& (3689348814741910323 : Int64))) + (((((x - (((x.toUInt64 >>> ((1 : Int32) &&& 0x3f).toInt64.toUInt64).toInt64) &&& (6148914691236517205 : Int64))) &&& (3689348814741910323 : Int64)) + ((((x - (((x.toUInt64 >>> ((1 : Int32) &&& 0x3f).toInt64.toUInt64).toInt64) &&& (6148914691236517205 : Int64))).toUInt64 >>> ((2 : Int32) &&& 0x3f).toInt64.toUInt64).toInt64) &&& (3689348814741910323 : Int64))).toUInt64 >>> ((4 : Int32) &&& 0x3f).toInt64.toUInt64).toInt64)) &&& (1085102592571150095 : Int64)) + (((((((x - (((x.toUInt64 >>> ((1 : Int32) &&& 0x3f).toInt64.toUInt64).toInt64) &&& (6148914691236517205 : Int64))) &&& (3689348814741910323 : Int64)) + ((((x - (((x.toUInt64 >>> ((1 : Int32) &&& 0x3f).toInt64.toUInt64).toInt64) &&& (6148914691236517205 : Int64))).toUInt64 >>> ((2 : Int32) &&& 0x3f).toInt64.toUInt64).toInt64) &&& (3689348814741910323 : Int64))) + (((((x - (((x.toUInt64 >>> ((1 : Int32) &&& 0x3f).toInt64.toUInt64).toInt64) &&& (6148914691236517205 : Int64))) &&& (3689348814741910323 : Int64)) + ((((x - (((x.toUInt64 >>> ((1 : Int32) &&& 0x3f).toInt64.toUInt64).toInt64) &&& (6148914691236517205 : Int64))).toUInt64 >>> ((2 : Int32) &&& 0x3f).toInt64.toUInt64).toInt64) &&& (3689348814741910323 : Int64))).toUInt64 >>> ((4 : Int32) &&& 0x3f).toInt64.toUInt64).toInt64)) &&& (1085102592571150095 : Int64)).toUInt64 >>> ((8 : Int32) &&& 0x3f).toInt64.toUInt64).toInt64)) + ((((((((x - (((x.toUInt64 >>> ((1 : Int32) &&& 0x3f).toInt64.toUInt64).toInt64) &&& (6148914691236517205 : Int64))) &&& (3689348814741910323 : Int64)) + ((((x - (((x.toUInt64 >>> ((1 : Int32) &&& 0x3f).toInt64.toUInt64).toInt64) &&& (6148914691236517205 : Int64))).toUInt64 >>> ((2 : Int32) &&& 0x3f).toInt64.toUInt64).toInt64) &&& (3689348814741910323 : Int64))) + (((((x - (((x.toUInt64 >>> ((1 : Int32) &&& 0x3f).toInt64.toUInt64).toInt64) &&& (6148914691236517205 : Int64))) &&& (3689348814741910323 : Int64)) + ((((x - (((x.toUInt64 >>> ((1 : Int32) &&& 0x3f).toInt64.toUInt64).toInt64) &&& (6148914691236517205 : Int64))).toUInt64 >>> ((2 : Int32) &&& 0x3f).toInt64.toUInt64).toInt64) &&& (3689348814741910323 : Int64))).toUInt64 >>> ((4 : Int32) &&& 0x3f).toInt64.toUInt64).toInt64)) &&& (1085102592571150095 : Int64)) + (((((((x - (((x.toUInt64 >>> ((1 : Int32) &&& 0x3f).toInt64.toUInt64).toInt64) &&& (6148914691236517205 : Int64))) &&& (3689348814741910323 : Int64)) + ((((x - (((x.toUInt64 >>> ((1 : Int32) &&& 0x3f).toInt64.toUInt64).toInt64) &&& (6148914691236517205 : Int64))).toUInt64 >>> ((2 : Int32) &&& 0x3f).toInt64.toUInt64).toInt64) &&& (3689348814741910323 : Int64))) + (((((x - (((x.toUInt64 >>> ((1 : Int32) &&& 0x3f).toInt64.toUInt64).toInt64) &&& (6148914691236517205 : Int64))) &&& (3689348814741910323 : Int64)) + ((((x - (((x.toUInt64 >>> ((1 : Int32) &&& 0x3f).toInt64.toUInt64).toInt64) &&& (6148914691236517205 : Int64))).toUInt64 >>> ((2 : Int32) &&& 0x3f).toInt64.toUInt64).toInt64) &&& (3689348814741910323 : Int64))).toUInt64 >>> ((4 : Int32) &&& 0x3f).toInt64.toUInt64).toInt64)) &&& (1085102592571150095 : Int64)).toUInt64 >>> ((8 : Int32) &&& 0x3f).toInt64.toUInt64).toInt64)).toUInt64 >>> ((16 : Int32) &&& 0x3f).toInt64.toUInt64).toInt64)) + (((((((((x - (((x.toUInt64 >>> ((1 : Int32) &&& 0x3f).toInt64.toUInt64).toInt64) &&& (6148914691236517205 : Int64))) &&& (3689348814741910323 : Int64)) + ((((x - (((x.toUInt64 >>> ((1 : Int32) &&& 0x3f).toInt64.toUInt64).toInt64) &&& (6148914691236517205 : Int64))).toUInt64 >>> ((2 : Int32) &&& 0x3f).toInt64.toUInt64).toInt64) &&& (3689348814741910323 : Int64))) + (((((x - (((x.toUInt64 >>> ((1 : Int32) &&& 0x3f).toInt64.toUInt64).toInt64) &&& (6148914691236517205 : Int64))) &&& (3689348814741910323 : Int64)) + ((((x - (((x.toUInt64 >>> ((1 : Int32) &&& 0x3f).toInt64.toUInt64).toInt64) &&& (6148914691236517205 : Int64))).toUInt64 >>> ((2 : Int32) &&& 0x3f).toInt64.toUInt64).toInt64) &&& (3689348814741910323 : Int64))).toUInt64 >>> ((4 : Int32) &&& 0x3f).toInt64.toUInt64).toInt64)) &&& (1085102592571150095 : Int64)) + (((((((x - (((x.toUInt64 >>> ((1 : Int32) &&& 0x3f).toInt64.toUInt64).toInt64) &&& (6148914691236517205 : Int64))) &&& (3689348814741910323 : Int64)) + ((((x - (((x.toUInt64 >>> ((1 : Int32) &&& 0x3f).toInt64.toUInt64).toInt64) &&& (6148914691236517205 : Int64))).toUInt64 >>> ((2 : Int32) &&& 0x3f).toInt64.toUInt64).toInt64) &&& (3689348814741910323 : Int64))) + (((((x - (((x.toUInt64 >>> ((1 : Int32) &&& 0x3f).toInt64.toUInt64).toInt64) &&& (6148914691236517205 : Int64))) &&& (3689348814741910323 : Int64)) + ((((x - (((x.toUInt64 >>> ((1 : Int32) &&& 0x3f).toInt64.toUInt64).toInt64) &&& (6148914691236517205 : Int64))).toUInt64 >>> ((2 : Int32) &&& 0x3f).toInt64.toUInt64).toInt64) &&& (3689348814741910323 : Int64))).toUInt64 >>> ((4 : Int32) &&& 0x3f).toInt64.toUInt64).toInt64)) &&& (1085102592571150095 : Int64)).toUInt64 >>> ((8 : Int32) &&& 0x3f).toInt64.toUInt64).toInt64)) + ((((((((x - (((x.toUInt64 >>> ((1 : Int32) &&& 0x3f).toInt64.toUInt64).toInt64) &&& (6148914691236517205 : Int64))) &&& (3689348814741910323 : Int64)) + ((((x - (((x.toUInt64 >>> ((1 : Int32) &&& 0x3f).toInt64.toUInt64).toInt64) &&& (6148914691236517205 : Int64))).toUInt64 >>> ((2 : Int32) &&& 0x3f).toInt64.toUInt64).toInt64) &&& (3689348814741910323 : Int64))) + (((((x - (((x.toUInt64 >>> ((1 : Int32) &&& 0x3f).toInt64.toUInt64).toInt64) &&& (6148914691236517205 : Int64))) &&& (3689348814741910323 : Int64)) + ((((x - (((x.toUInt64 >>> ((1 : Int32) &&& 0x3f).toInt64.toUInt64).toInt64) &&& (6148914691236517205 : Int64))).toUInt64 >>> ((2 : Int32) &&& 0x3f).toInt64.toUInt64).toInt64) &&& (3689348814741910323 : Int64))).toUInt64 >>> ((4 : Int32) &&& 0x3f).toInt64.toUInt64).toInt64)) &&& (1085102592571150095 : Int64)) + (((((((x - (((x.toUInt64 >>> ((1 : Int32) &&& 0x3f).toInt64.toUInt64).toInt64) &&& (6148914691236517205 : Int64))) &&& (3689348814741910323 : Int64)) + ((((x - (((x.toUInt64 >>> ((1 : Int32) &&& 0x3f).toInt64.toUInt64).toInt64) &&& (6148914691236517205 : Int64))).toUInt64 >>> ((2 : Int32) &&& 0x3f).toInt64.toUInt64).toInt64) &&& (3689348814741910323 : Int64))) + (((((x - (((x.toUInt64 >>> ((1 : Int32) &&& 0x3f).toInt64.toUInt64).toInt64) &&& (6148914691236517205 : Int64))) &&& (3689348814741910323 : Int64)) + ((((x - (((x.toUInt64 >>> ((1 : Int32) &&& 0x3f).toInt64.toUInt64).toInt64) &&& (6148914691236517205 : Int64))).toUInt64 >>> ((2 : Int32) &&& 0x3f).toInt64.toUInt64).toInt64) &&& (3689348814741910323 : Int64))).toUInt64 >>> ((4 : Int32) &&& 0x3f).toInt64.toUInt64).toInt64)) &&& (1085102592571150095 : Int64)).toUInt64 >>> ((8 : Int32) &&& 0x3f).toInt64.toUInt64).toInt64)).toUInt64 >>> ((16 : Int32) &&& 0x3f).toInt64.toUInt64).toInt64)).toUInt64 >>> ((32 : Int32) &&& 0x3f).toInt64.toUInt64).toInt64)).toInt32) &&& (127 : Int32)) = (1 : Int32) := by
  rcases h2 with rfl | rfl | rfl | rfl | rfl | rfl | rfl | rfl | rfl | rfl | rfl | rfl | rfl | rfl | rfl | rfl <;> decide
set_option maxRecDepth 65536 in
set_option maxHeartbeats 40000000 in
theorem rmBC (l : Launch) (Z : State) (a0 : Array Value) (hw : own_Wd a0 Z) (ws : List Jvm.Cond)  (x : Int64) (h0 : Heap) (n0 : Nat) (Z0 : n0 ≤ h0.size) (h2 : own_P2 x) :
    own_Met l (⟨"java/lang/Long", "bitCount", "(J)I"⟩ : MethodName) jdk_35_method_50_code 2 (some .int) ws ({ frames := 0, cells := 0, slots := 0, locals := 0 } : Room) Z #[(.long x)] h0 (fun v h L => v = some (.int 1) ∧ Fr n0 L ∧ h = h0) := by
  refine own_body (plainFor_of_name pn_6) ?_
  intro p e s m below meth c s₁ X0 hx hby hml hown hnm hret hlk hZ e0
  replace hown : s.vm.findClass "java/lang/Long" = some m.cls := hown
  replace hml : c.maxLocals = 2 := hml
  replace hret : meth.sig.returnType = (some .int) := hret
  have N0 := Fr.nil n0
  refine own_ef (L0 := #[.val (.long x), .second]) (by first | (simp [entryFrame, mkF, argsToLocals, Value.category]; done) | rfl) ?_
  refine own_lloadN X0 hx (hb hby d9_0) rfl ?_
  refine own_lloadN X0 hx (hb hby d9_1) rfl ?_
  refine own_iconst X0 hx 1 (hb hby d9_2) rfl ?_
  refine own_lushr X0 hx (hb hby d9_3) ?_
  refine own_ldcL X0 hx hZ hown (own_m hw 49 rfl) (hb hby d9_4) ?_
  refine own_land X0 hx (hb hby d9_7) ?_
  refine own_lsub X0 hx (hb hby d9_8) ?_
  refine own_lstoreN (l' := #[.val (.long (x - (((x.toUInt64 >>> ((1 : Int32) &&& 0x3f).toInt64.toUInt64).toInt64) &&& (6148914691236517205 : Int64)))), .second]) X0 hx (hb hby d9_9) rfl ?_
  refine own_lloadN X0 hx (hb hby d9_10) rfl ?_
  refine own_ldcL X0 hx hZ hown (own_m hw 50 rfl) (hb hby d9_11) ?_
  refine own_land X0 hx (hb hby d9_14) ?_
  refine own_lloadN X0 hx (hb hby d9_15) rfl ?_
  refine own_iconst X0 hx 2 (hb hby d9_16) rfl ?_
  refine own_lushr X0 hx (hb hby d9_17) ?_
  refine own_ldcL X0 hx hZ hown (own_m hw 50 rfl) (hb hby d9_18) ?_
  refine own_land X0 hx (hb hby d9_21) ?_
  refine own_ladd X0 hx (hb hby d9_22) ?_
  refine own_lstoreN (l' := #[.val (.long (((x - (((x.toUInt64 >>> ((1 : Int32) &&& 0x3f).toInt64.toUInt64).toInt64) &&& (6148914691236517205 : Int64))) &&& (3689348814741910323 : Int64)) + ((((x - (((x.toUInt64 >>> ((1 : Int32) &&& 0x3f).toInt64.toUInt64).toInt64) &&& (6148914691236517205 : Int64))).toUInt64 >>> ((2 : Int32) &&& 0x3f).toInt64.toUInt64).toInt64) &&& (3689348814741910323 : Int64)))), .second]) X0 hx (hb hby d9_23) rfl ?_
  refine own_lloadN X0 hx (hb hby d9_24) rfl ?_
  refine own_lloadN X0 hx (hb hby d9_25) rfl ?_
  refine own_iconst X0 hx 4 (hb hby d9_26) rfl ?_
  refine own_lushr X0 hx (hb hby d9_27) ?_
  refine own_ladd X0 hx (hb hby d9_28) ?_
  refine own_ldcL X0 hx hZ hown (own_m hw 51 rfl) (hb hby d9_29) ?_
  refine own_land X0 hx (hb hby d9_32) ?_
  refine own_lstoreN (l' := #[.val (.long (((((x - (((x.toUInt64 >>> ((1 : Int32) &&& 0x3f).toInt64.toUInt64).toInt64) &&& (6148914691236517205 : Int64))) &&& (3689348814741910323 : Int64)) + ((((x - (((x.toUInt64 >>> ((1 : Int32) &&& 0x3f).toInt64.toUInt64).toInt64) &&& (6148914691236517205 : Int64))).toUInt64 >>> ((2 : Int32) &&& 0x3f).toInt64.toUInt64).toInt64) &&& (3689348814741910323 : Int64))) + (((((x - (((x.toUInt64 >>> ((1 : Int32) &&& 0x3f).toInt64.toUInt64).toInt64) &&& (6148914691236517205 : Int64))) &&& (3689348814741910323 : Int64)) + ((((x - (((x.toUInt64 >>> ((1 : Int32) &&& 0x3f).toInt64.toUInt64).toInt64) &&& (6148914691236517205 : Int64))).toUInt64 >>> ((2 : Int32) &&& 0x3f).toInt64.toUInt64).toInt64) &&& (3689348814741910323 : Int64))).toUInt64 >>> ((4 : Int32) &&& 0x3f).toInt64.toUInt64).toInt64)) &&& (1085102592571150095 : Int64))), .second]) X0 hx (hb hby d9_33) rfl ?_
  refine own_lloadN X0 hx (hb hby d9_34) rfl ?_
  refine own_lloadN X0 hx (hb hby d9_35) rfl ?_
  refine own_bipush X0 hx 8 (hb hby d9_36) rfl ?_
  refine own_lushr X0 hx (hb hby d9_38) ?_
  refine own_ladd X0 hx (hb hby d9_39) ?_
  refine own_lstoreN (l' := #[.val (.long ((((((x - (((x.toUInt64 >>> ((1 : Int32) &&& 0x3f).toInt64.toUInt64).toInt64) &&& (6148914691236517205 : Int64))) &&& (3689348814741910323 : Int64)) + ((((x - (((x.toUInt64 >>> ((1 : Int32) &&& 0x3f).toInt64.toUInt64).toInt64) &&& (6148914691236517205 : Int64))).toUInt64 >>> ((2 : Int32) &&& 0x3f).toInt64.toUInt64).toInt64) &&& (3689348814741910323 : Int64))) + (((((x - (((x.toUInt64 >>> ((1 : Int32) &&& 0x3f).toInt64.toUInt64).toInt64) &&& (6148914691236517205 : Int64))) &&& (3689348814741910323 : Int64)) + ((((x - (((x.toUInt64 >>> ((1 : Int32) &&& 0x3f).toInt64.toUInt64).toInt64) &&& (6148914691236517205 : Int64))).toUInt64 >>> ((2 : Int32) &&& 0x3f).toInt64.toUInt64).toInt64) &&& (3689348814741910323 : Int64))).toUInt64 >>> ((4 : Int32) &&& 0x3f).toInt64.toUInt64).toInt64)) &&& (1085102592571150095 : Int64)) + (((((((x - (((x.toUInt64 >>> ((1 : Int32) &&& 0x3f).toInt64.toUInt64).toInt64) &&& (6148914691236517205 : Int64))) &&& (3689348814741910323 : Int64)) + ((((x - (((x.toUInt64 >>> ((1 : Int32) &&& 0x3f).toInt64.toUInt64).toInt64) &&& (6148914691236517205 : Int64))).toUInt64 >>> ((2 : Int32) &&& 0x3f).toInt64.toUInt64).toInt64) &&& (3689348814741910323 : Int64))) + (((((x - (((x.toUInt64 >>> ((1 : Int32) &&& 0x3f).toInt64.toUInt64).toInt64) &&& (6148914691236517205 : Int64))) &&& (3689348814741910323 : Int64)) + ((((x - (((x.toUInt64 >>> ((1 : Int32) &&& 0x3f).toInt64.toUInt64).toInt64) &&& (6148914691236517205 : Int64))).toUInt64 >>> ((2 : Int32) &&& 0x3f).toInt64.toUInt64).toInt64) &&& (3689348814741910323 : Int64))).toUInt64 >>> ((4 : Int32) &&& 0x3f).toInt64.toUInt64).toInt64)) &&& (1085102592571150095 : Int64)).toUInt64 >>> ((8 : Int32) &&& 0x3f).toInt64.toUInt64).toInt64))), .second]) X0 hx (hb hby d9_40) rfl ?_
  refine own_lloadN X0 hx (hb hby d9_41) rfl ?_
  refine own_lloadN X0 hx (hb hby d9_42) rfl ?_
  refine own_bipush X0 hx 16 (hb hby d9_43) rfl ?_
  refine own_lushr X0 hx (hb hby d9_45) ?_
  refine own_ladd X0 hx (hb hby d9_46) ?_
  refine own_lstoreN (l' := #[.val (.long (((((((x - (((x.toUInt64 >>> ((1 : Int32) &&& 0x3f).toInt64.toUInt64).toInt64) &&& (6148914691236517205 : Int64))) &&& (3689348814741910323 : Int64)) + ((((x - (((x.toUInt64 >>> ((1 : Int32) &&& 0x3f).toInt64.toUInt64).toInt64) &&& (6148914691236517205 : Int64))).toUInt64 >>> ((2 : Int32) &&& 0x3f).toInt64.toUInt64).toInt64) &&& (3689348814741910323 : Int64))) + (((((x - (((x.toUInt64 >>> ((1 : Int32) &&& 0x3f).toInt64.toUInt64).toInt64) &&& (6148914691236517205 : Int64))) &&& (3689348814741910323 : Int64)) + ((((x - (((x.toUInt64 >>> ((1 : Int32) &&& 0x3f).toInt64.toUInt64).toInt64) &&& (6148914691236517205 : Int64))).toUInt64 >>> ((2 : Int32) &&& 0x3f).toInt64.toUInt64).toInt64) &&& (3689348814741910323 : Int64))).toUInt64 >>> ((4 : Int32) &&& 0x3f).toInt64.toUInt64).toInt64)) &&& (1085102592571150095 : Int64)) + (((((((x - (((x.toUInt64 >>> ((1 : Int32) &&& 0x3f).toInt64.toUInt64).toInt64) &&& (6148914691236517205 : Int64))) &&& (3689348814741910323 : Int64)) + ((((x - (((x.toUInt64 >>> ((1 : Int32) &&& 0x3f).toInt64.toUInt64).toInt64) &&& (6148914691236517205 : Int64))).toUInt64 >>> ((2 : Int32) &&& 0x3f).toInt64.toUInt64).toInt64) &&& (3689348814741910323 : Int64))) + (((((x - (((x.toUInt64 >>> ((1 : Int32) &&& 0x3f).toInt64.toUInt64).toInt64) &&& (6148914691236517205 : Int64))) &&& (3689348814741910323 : Int64)) + ((((x - (((x.toUInt64 >>> ((1 : Int32) &&& 0x3f).toInt64.toUInt64).toInt64) &&& (6148914691236517205 : Int64))).toUInt64 >>> ((2 : Int32) &&& 0x3f).toInt64.toUInt64).toInt64) &&& (3689348814741910323 : Int64))).toUInt64 >>> ((4 : Int32) &&& 0x3f).toInt64.toUInt64).toInt64)) &&& (1085102592571150095 : Int64)).toUInt64 >>> ((8 : Int32) &&& 0x3f).toInt64.toUInt64).toInt64)) + ((((((((x - (((x.toUInt64 >>> ((1 : Int32) &&& 0x3f).toInt64.toUInt64).toInt64) &&& (6148914691236517205 : Int64))) &&& (3689348814741910323 : Int64)) + ((((x - (((x.toUInt64 >>> ((1 : Int32) &&& 0x3f).toInt64.toUInt64).toInt64) &&& (6148914691236517205 : Int64))).toUInt64 >>> ((2 : Int32) &&& 0x3f).toInt64.toUInt64).toInt64) &&& (3689348814741910323 : Int64))) + (((((x - (((x.toUInt64 >>> ((1 : Int32) &&& 0x3f).toInt64.toUInt64).toInt64) &&& (6148914691236517205 : Int64))) &&& (3689348814741910323 : Int64)) + ((((x - (((x.toUInt64 >>> ((1 : Int32) &&& 0x3f).toInt64.toUInt64).toInt64) &&& (6148914691236517205 : Int64))).toUInt64 >>> ((2 : Int32) &&& 0x3f).toInt64.toUInt64).toInt64) &&& (3689348814741910323 : Int64))).toUInt64 >>> ((4 : Int32) &&& 0x3f).toInt64.toUInt64).toInt64)) &&& (1085102592571150095 : Int64)) + (((((((x - (((x.toUInt64 >>> ((1 : Int32) &&& 0x3f).toInt64.toUInt64).toInt64) &&& (6148914691236517205 : Int64))) &&& (3689348814741910323 : Int64)) + ((((x - (((x.toUInt64 >>> ((1 : Int32) &&& 0x3f).toInt64.toUInt64).toInt64) &&& (6148914691236517205 : Int64))).toUInt64 >>> ((2 : Int32) &&& 0x3f).toInt64.toUInt64).toInt64) &&& (3689348814741910323 : Int64))) + (((((x - (((x.toUInt64 >>> ((1 : Int32) &&& 0x3f).toInt64.toUInt64).toInt64) &&& (6148914691236517205 : Int64))) &&& (3689348814741910323 : Int64)) + ((((x - (((x.toUInt64 >>> ((1 : Int32) &&& 0x3f).toInt64.toUInt64).toInt64) &&& (6148914691236517205 : Int64))).toUInt64 >>> ((2 : Int32) &&& 0x3f).toInt64.toUInt64).toInt64) &&& (3689348814741910323 : Int64))).toUInt64 >>> ((4 : Int32) &&& 0x3f).toInt64.toUInt64).toInt64)) &&& (1085102592571150095 : Int64)).toUInt64 >>> ((8 : Int32) &&& 0x3f).toInt64.toUInt64).toInt64)).toUInt64 >>> ((16 : Int32) &&& 0x3f).toInt64.toUInt64).toInt64))), .second]) X0 hx (hb hby d9_47) rfl ?_
  refine own_lloadN X0 hx (hb hby d9_48) rfl ?_
  refine own_lloadN X0 hx (hb hby d9_49) rfl ?_
  refine own_bipush X0 hx 32 (hb hby d9_50) rfl ?_
  refine own_lushr X0 hx (hb hby d9_52) ?_
  refine own_ladd X0 hx (hb hby d9_53) ?_
  refine own_lstoreN (l' := #[.val (.long ((((((((x - (((x.toUInt64 >>> ((1 : Int32) &&& 0x3f).toInt64.toUInt64).toInt64) &&& (6148914691236517205 : Int64))) &&& (3689348814741910323 : Int64)) + ((((x - (((x.toUInt64 >>> ((1 : Int32) &&& 0x3f).toInt64.toUInt64).toInt64) &&& (6148914691236517205 : Int64))).toUInt64 >>> ((2 : Int32) &&& 0x3f).toInt64.toUInt64).toInt64) &&& (3689348814741910323 : Int64))) + (((((x - (((x.toUInt64 >>> ((1 : Int32) &&& 0x3f).toInt64.toUInt64).toInt64) &&& (6148914691236517205 : Int64))) &&& (3689348814741910323 : Int64)) + ((((x - (((x.toUInt64 >>> ((1 : Int32) &&& 0x3f).toInt64.toUInt64).toInt64) &&& (6148914691236517205 : Int64))).toUInt64 >>> ((2 : Int32) &&& 0x3f).toInt64.toUInt64).toInt64) &&& (3689348814741910323 : Int64))).toUInt64 >>> ((4 : Int32) &&& 0x3f).toInt64.toUInt64).toInt64)) &&& (1085102592571150095 : Int64)) + (((((((x - (((x.toUInt64 >>> ((1 : Int32) &&& 0x3f).toInt64.toUInt64).toInt64) &&& (6148914691236517205 : Int64))) &&& (3689348814741910323 : Int64)) + ((((x - (((x.toUInt64 >>> ((1 : Int32) &&& 0x3f).toInt64.toUInt64).toInt64) &&& (6148914691236517205 : Int64))).toUInt64 >>> ((2 : Int32) &&& 0x3f).toInt64.toUInt64).toInt64) &&& (3689348814741910323 : Int64))) + (((((x - (((x.toUInt64 >>> ((1 : Int32) &&& 0x3f).toInt64.toUInt64).toInt64) &&& (6148914691236517205 : Int64))) &&& (3689348814741910323 : Int64)) + ((((x - (((x.toUInt64 >>> ((1 : Int32) &&& 0x3f).toInt64.toUInt64).toInt64) &&& (6148914691236517205 : Int64))).toUInt64 >>> ((2 : Int32) &&& 0x3f).toInt64.toUInt64).toInt64) &&& (3689348814741910323 : Int64))).toUInt64 >>> ((4 : Int32) &&& 0x3f).toInt64.toUInt64).toInt64)) &&& (1085102592571150095 : Int64)).toUInt64 >>> ((8 : Int32) &&& 0x3f).toInt64.toUInt64).toInt64)) + ((((((((x - (((x.toUInt64 >>> ((1 : Int32) &&& 0x3f).toInt64.toUInt64).toInt64) &&& (6148914691236517205 : Int64))) &&& (3689348814741910323 : Int64)) + ((((x - (((x.toUInt64 >>> ((1 : Int32) &&& 0x3f).toInt64.toUInt64).toInt64) &&& (6148914691236517205 : Int64))).toUInt64 >>> ((2 : Int32) &&& 0x3f).toInt64.toUInt64).toInt64) &&& (3689348814741910323 : Int64))) + (((((x - (((x.toUInt64 >>> ((1 : Int32) &&& 0x3f).toInt64.toUInt64).toInt64) &&& (6148914691236517205 : Int64))) &&& (3689348814741910323 : Int64)) + ((((x - (((x.toUInt64 >>> ((1 : Int32) &&& 0x3f).toInt64.toUInt64).toInt64) &&& (6148914691236517205 : Int64))).toUInt64 >>> ((2 : Int32) &&& 0x3f).toInt64.toUInt64).toInt64) &&& (3689348814741910323 : Int64))).toUInt64 >>> ((4 : Int32) &&& 0x3f).toInt64.toUInt64).toInt64)) &&& (1085102592571150095 : Int64)) + (((((((x - (((x.toUInt64 >>> ((1 : Int32) &&& 0x3f).toInt64.toUInt64).toInt64) &&& (6148914691236517205 : Int64))) &&& (3689348814741910323 : Int64)) + ((((x - (((x.toUInt64 >>> ((1 : Int32) &&& 0x3f).toInt64.toUInt64).toInt64) &&& (6148914691236517205 : Int64))).toUInt64 >>> ((2 : Int32) &&& 0x3f).toInt64.toUInt64).toInt64) &&& (3689348814741910323 : Int64))) + (((((x - (((x.toUInt64 >>> ((1 : Int32) &&& 0x3f).toInt64.toUInt64).toInt64) &&& (6148914691236517205 : Int64))) &&& (3689348814741910323 : Int64)) + ((((x - (((x.toUInt64 >>> ((1 : Int32) &&& 0x3f).toInt64.toUInt64).toInt64) &&& (6148914691236517205 : Int64))).toUInt64 >>> ((2 : Int32) &&& 0x3f).toInt64.toUInt64).toInt64) &&& (3689348814741910323 : Int64))).toUInt64 >>> ((4 : Int32) &&& 0x3f).toInt64.toUInt64).toInt64)) &&& (1085102592571150095 : Int64)).toUInt64 >>> ((8 : Int32) &&& 0x3f).toInt64.toUInt64).toInt64)).toUInt64 >>> ((16 : Int32) &&& 0x3f).toInt64.toUInt64).toInt64)) + (((((((((x - (((x.toUInt64 >>> ((1 : Int32) &&& 0x3f).toInt64.toUInt64).toInt64) &&& (6148914691236517205 : Int64))) &&& (3689348814741910323 : Int64)) + ((((x - (((x.toUInt64 >>> ((1 : Int32) &&& 0x3f).toInt64.toUInt64).toInt64) &&& (6148914691236517205 : Int64))).toUInt64 >>> ((2 : Int32) &&& 0x3f).toInt64.toUInt64).toInt64) &&& (3689348814741910323 : Int64))) + (((((x - (((x.toUInt64 >>> ((1 : Int32) &&& 0x3f).toInt64.toUInt64).toInt64) &&& (6148914691236517205 : Int64))) &&& (3689348814741910323 : Int64)) + ((((x - (((x.toUInt64 >>> ((1 : Int32) &&& 0x3f).toInt64.toUInt64).toInt64) &&& (6148914691236517205 : Int64))).toUInt64 >>> ((2 : Int32) &&& 0x3f).toInt64.toUInt64).toInt64) &&& (3689348814741910323 : Int64))).toUInt64 >>> ((4 : Int32) &&& 0x3f).toInt64.toUInt64).toInt64)) &&& (1085102592571150095 : Int64)) + (((((((x - (((x.toUInt64 >>> ((1 : Int32) &&& 0x3f).toInt64.toUInt64).toInt64) &&& (6148914691236517205 : Int64))) &&& (3689348814741910323 : Int64)) + ((((x - (((x.toUInt64 >>> ((1 : Int32) &&& 0x3f).toInt64.toUInt64).toInt64) &&& (6148914691236517205 : Int64))).toUInt64 >>> ((2 : Int32) &&& 0x3f).toInt64.toUInt64).toInt64) &&& (3689348814741910323 : Int64))) + (((((x - (((x.toUInt64 >>> ((1 : Int32) &&& 0x3f).toInt64.toUInt64).toInt64) &&& (6148914691236517205 : Int64))) &&& (3689348814741910323 : Int64)) + ((((x - (((x.toUInt64 >>> ((1 : Int32) &&& 0x3f).toInt64.toUInt64).toInt64) &&& (6148914691236517205 : Int64))).toUInt64 >>> ((2 : Int32) &&& 0x3f).toInt64.toUInt64).toInt64) &&& (3689348814741910323 : Int64))).toUInt64 >>> ((4 : Int32) &&& 0x3f).toInt64.toUInt64).toInt64)) &&& (1085102592571150095 : Int64)).toUInt64 >>> ((8 : Int32) &&& 0x3f).toInt64.toUInt64).toInt64)) + ((((((((x - (((x.toUInt64 >>> ((1 : Int32) &&& 0x3f).toInt64.toUInt64).toInt64) &&& (6148914691236517205 : Int64))) &&& (3689348814741910323 : Int64)) + ((((x - (((x.toUInt64 >>> ((1 : Int32) &&& 0x3f).toInt64.toUInt64).toInt64) &&& (6148914691236517205 : Int64))).toUInt64 >>> ((2 : Int32) &&& 0x3f).toInt64.toUInt64).toInt64) &&& (3689348814741910323 : Int64))) + (((((x - (((x.toUInt64 >>> ((1 : Int32) &&& 0x3f).toInt64.toUInt64).toInt64) &&& (6148914691236517205 : Int64))) &&& (3689348814741910323 : Int64)) + ((((x - (((x.toUInt64 >>> ((1 : Int32) &&& 0x3f).toInt64.toUInt64).toInt64) &&& (6148914691236517205 : Int64))).toUInt64 >>> ((2 : Int32) &&& 0x3f).toInt64.toUInt64).toInt64) &&& (3689348814741910323 : Int64))).toUInt64 >>> ((4 : Int32) &&& 0x3f).toInt64.toUInt64).toInt64)) &&& (1085102592571150095 : Int64)) + (((((((x - (((x.toUInt64 >>> ((1 : Int32) &&& 0x3f).toInt64.toUInt64).toInt64) &&& (6148914691236517205 : Int64))) &&& (3689348814741910323 : Int64)) + ((((x - (((x.toUInt64 >>> ((1 : Int32) &&& 0x3f).toInt64.toUInt64).toInt64) &&& (6148914691236517205 : Int64))).toUInt64 >>> ((2 : Int32) &&& 0x3f).toInt64.toUInt64).toInt64) &&& (3689348814741910323 : Int64))) + (((((x - (((x.toUInt64 >>> ((1 : Int32) &&& 0x3f).toInt64.toUInt64).toInt64) &&& (6148914691236517205 : Int64))) &&& (3689348814741910323 : Int64)) + ((((x - (((x.toUInt64 >>> ((1 : Int32) &&& 0x3f).toInt64.toUInt64).toInt64) &&& (6148914691236517205 : Int64))).toUInt64 >>> ((2 : Int32) &&& 0x3f).toInt64.toUInt64).toInt64) &&& (3689348814741910323 : Int64))).toUInt64 >>> ((4 : Int32) &&& 0x3f).toInt64.toUInt64).toInt64)) &&& (1085102592571150095 : Int64)).toUInt64 >>> ((8 : Int32) &&& 0x3f).toInt64.toUInt64).toInt64)).toUInt64 >>> ((16 : Int32) &&& 0x3f).toInt64.toUInt64).toInt64)).toUInt64 >>> ((32 : Int32) &&& 0x3f).toInt64.toUInt64).toInt64))), .second]) X0 hx (hb hby d9_54) rfl ?_
  refine own_lloadN X0 hx (hb hby d9_55) rfl ?_
  refine own_l2i X0 hx (hb hby d9_56) ?_
  refine own_bipush X0 hx 127 (hb hby d9_57) rfl ?_
  refine own_iand X0 hx (hb hby d9_59) ?_
  rw [own_bc h2]
  refine own_retI X0 hx hlk hret (hb hby d9_60) (own_kN (by decide) (by decide) ?_)
  try rw [e0]
  exact ⟨rfl, N0, rfl⟩
theorem own_p36 {x : Int64} (h2 : own_P2 x) : ¬ (68719476736 : Int64) < x := by
  rcases h2 with rfl | rfl | rfl | rfl | rfl | rfl | rfl | rfl | rfl | rfl | rfl | rfl | rfl | rfl | rfl | rfl <;> decide
theorem own_nwb {x : Int64} {nw : Int32} (h2 : own_P2 x) (hn : ((((x + (64 : Int64)) - (1 : Int64)) / (64 : Int64)).toInt32) = nw) : ¬ nw < (0 : Int32) ∧ nw.toNatClampNeg ≤ 512 := by
  subst hn
  rcases h2 with rfl | rfl | rfl | rfl | rfl | rfl | rfl | rfl | rfl | rfl | rfl | rfl | rfl | rfl | rfl | rfl <;> decide
def own_ix (b : Int64) : Int32 := (((b.toUInt64 >>> ((6 : Int32) &&& 0x3f).toInt64.toUInt64).toInt64).toInt32)
def own_fl (b : Int64) : Int64 := ((1 : Int64) <<< ((b.toInt32) &&& 0x3f).toInt64)
theorem own_ixb {x mk : Int64} {nw : Int32} (h2 : own_P2 x) (hm : (x - (1 : Int64)) = mk) (hn : ((((x + (64 : Int64)) - (1 : Int64)) / (64 : Int64)).toInt32) = nw) (h : Int64) : ¬ own_ix (h &&& mk) < (0 : Int32) ∧ own_ix (h &&& mk) < nw := by
  subst hm hn
  have k0 : (0 : Int32).toInt = 0 := by decide
  rcases h2 with rfl | rfl | rfl | rfl | rfl | rfl | rfl | rfl | rfl | rfl | rfl | rfl | rfl | rfl | rfl | rfl
  · have m := c_maskL h (1 - 1) 0 (by decide) (by decide)
    have u := c_lushr (h &&& (1 - 1)) 6 6 (by decide) (by decide)
    have e := c_l2i (((h &&& (1 - 1)).toUInt64 >>> ((6 : Int32) &&& 0x3f).toInt64.toUInt64).toInt64)
    have r := rng32 (own_ix (h &&& (1 - 1)))
    have n : (((((1 : Int64) + (64 : Int64)) - (1 : Int64)) / (64 : Int64)).toInt32).toInt = 1 := by decide
    have d : own_ix (h &&& (1 - 1)) = ((((h &&& (1 - 1)).toUInt64 >>> ((6 : Int32) &&& 0x3f).toInt64.toUInt64).toInt64).toInt32) := rfl
    rw [← d] at e
    simp only [Nat.reducePow] at m u
    rw [Int32.lt_iff_toInt_lt, Int32.lt_iff_toInt_lt, k0, n]
    omega
  · have m := c_maskL h (2 - 1) 1 (by decide) (by decide)
    have u := c_lushr (h &&& (2 - 1)) 6 6 (by decide) (by decide)
    have e := c_l2i (((h &&& (2 - 1)).toUInt64 >>> ((6 : Int32) &&& 0x3f).toInt64.toUInt64).toInt64)
    have r := rng32 (own_ix (h &&& (2 - 1)))
    have n : (((((2 : Int64) + (64 : Int64)) - (1 : Int64)) / (64 : Int64)).toInt32).toInt = 1 := by decide
    have d : own_ix (h &&& (2 - 1)) = ((((h &&& (2 - 1)).toUInt64 >>> ((6 : Int32) &&& 0x3f).toInt64.toUInt64).toInt64).toInt32) := rfl
    rw [← d] at e
    simp only [Nat.reducePow] at m u
    rw [Int32.lt_iff_toInt_lt, Int32.lt_iff_toInt_lt, k0, n]
    omega
  · have m := c_maskL h (4 - 1) 2 (by decide) (by decide)
    have u := c_lushr (h &&& (4 - 1)) 6 6 (by decide) (by decide)
    have e := c_l2i (((h &&& (4 - 1)).toUInt64 >>> ((6 : Int32) &&& 0x3f).toInt64.toUInt64).toInt64)
    have r := rng32 (own_ix (h &&& (4 - 1)))
    have n : (((((4 : Int64) + (64 : Int64)) - (1 : Int64)) / (64 : Int64)).toInt32).toInt = 1 := by decide
    have d : own_ix (h &&& (4 - 1)) = ((((h &&& (4 - 1)).toUInt64 >>> ((6 : Int32) &&& 0x3f).toInt64.toUInt64).toInt64).toInt32) := rfl
    rw [← d] at e
    simp only [Nat.reducePow] at m u
    rw [Int32.lt_iff_toInt_lt, Int32.lt_iff_toInt_lt, k0, n]
    omega
  · have m := c_maskL h (8 - 1) 3 (by decide) (by decide)
    have u := c_lushr (h &&& (8 - 1)) 6 6 (by decide) (by decide)
    have e := c_l2i (((h &&& (8 - 1)).toUInt64 >>> ((6 : Int32) &&& 0x3f).toInt64.toUInt64).toInt64)
    have r := rng32 (own_ix (h &&& (8 - 1)))
    have n : (((((8 : Int64) + (64 : Int64)) - (1 : Int64)) / (64 : Int64)).toInt32).toInt = 1 := by decide
    have d : own_ix (h &&& (8 - 1)) = ((((h &&& (8 - 1)).toUInt64 >>> ((6 : Int32) &&& 0x3f).toInt64.toUInt64).toInt64).toInt32) := rfl
    rw [← d] at e
    simp only [Nat.reducePow] at m u
    rw [Int32.lt_iff_toInt_lt, Int32.lt_iff_toInt_lt, k0, n]
    omega
  · have m := c_maskL h (16 - 1) 4 (by decide) (by decide)
    have u := c_lushr (h &&& (16 - 1)) 6 6 (by decide) (by decide)
    have e := c_l2i (((h &&& (16 - 1)).toUInt64 >>> ((6 : Int32) &&& 0x3f).toInt64.toUInt64).toInt64)
    have r := rng32 (own_ix (h &&& (16 - 1)))
    have n : (((((16 : Int64) + (64 : Int64)) - (1 : Int64)) / (64 : Int64)).toInt32).toInt = 1 := by decide
    have d : own_ix (h &&& (16 - 1)) = ((((h &&& (16 - 1)).toUInt64 >>> ((6 : Int32) &&& 0x3f).toInt64.toUInt64).toInt64).toInt32) := rfl
    rw [← d] at e
    simp only [Nat.reducePow] at m u
    rw [Int32.lt_iff_toInt_lt, Int32.lt_iff_toInt_lt, k0, n]
    omega
  · have m := c_maskL h (32 - 1) 5 (by decide) (by decide)
    have u := c_lushr (h &&& (32 - 1)) 6 6 (by decide) (by decide)
    have e := c_l2i (((h &&& (32 - 1)).toUInt64 >>> ((6 : Int32) &&& 0x3f).toInt64.toUInt64).toInt64)
    have r := rng32 (own_ix (h &&& (32 - 1)))
    have n : (((((32 : Int64) + (64 : Int64)) - (1 : Int64)) / (64 : Int64)).toInt32).toInt = 1 := by decide
    have d : own_ix (h &&& (32 - 1)) = ((((h &&& (32 - 1)).toUInt64 >>> ((6 : Int32) &&& 0x3f).toInt64.toUInt64).toInt64).toInt32) := rfl
    rw [← d] at e
    simp only [Nat.reducePow] at m u
    rw [Int32.lt_iff_toInt_lt, Int32.lt_iff_toInt_lt, k0, n]
    omega
  · have m := c_maskL h (64 - 1) 6 (by decide) (by decide)
    have u := c_lushr (h &&& (64 - 1)) 6 6 (by decide) (by decide)
    have e := c_l2i (((h &&& (64 - 1)).toUInt64 >>> ((6 : Int32) &&& 0x3f).toInt64.toUInt64).toInt64)
    have r := rng32 (own_ix (h &&& (64 - 1)))
    have n : (((((64 : Int64) + (64 : Int64)) - (1 : Int64)) / (64 : Int64)).toInt32).toInt = 1 := by decide
    have d : own_ix (h &&& (64 - 1)) = ((((h &&& (64 - 1)).toUInt64 >>> ((6 : Int32) &&& 0x3f).toInt64.toUInt64).toInt64).toInt32) := rfl
    rw [← d] at e
    simp only [Nat.reducePow] at m u
    rw [Int32.lt_iff_toInt_lt, Int32.lt_iff_toInt_lt, k0, n]
    omega
  · have m := c_maskL h (128 - 1) 7 (by decide) (by decide)
    have u := c_lushr (h &&& (128 - 1)) 6 6 (by decide) (by decide)
    have e := c_l2i (((h &&& (128 - 1)).toUInt64 >>> ((6 : Int32) &&& 0x3f).toInt64.toUInt64).toInt64)
    have r := rng32 (own_ix (h &&& (128 - 1)))
    have n : (((((128 : Int64) + (64 : Int64)) - (1 : Int64)) / (64 : Int64)).toInt32).toInt = 2 := by decide
    have d : own_ix (h &&& (128 - 1)) = ((((h &&& (128 - 1)).toUInt64 >>> ((6 : Int32) &&& 0x3f).toInt64.toUInt64).toInt64).toInt32) := rfl
    rw [← d] at e
    simp only [Nat.reducePow] at m u
    rw [Int32.lt_iff_toInt_lt, Int32.lt_iff_toInt_lt, k0, n]
    omega
  · have m := c_maskL h (256 - 1) 8 (by decide) (by decide)
    have u := c_lushr (h &&& (256 - 1)) 6 6 (by decide) (by decide)
    have e := c_l2i (((h &&& (256 - 1)).toUInt64 >>> ((6 : Int32) &&& 0x3f).toInt64.toUInt64).toInt64)
    have r := rng32 (own_ix (h &&& (256 - 1)))
    have n : (((((256 : Int64) + (64 : Int64)) - (1 : Int64)) / (64 : Int64)).toInt32).toInt = 4 := by decide
    have d : own_ix (h &&& (256 - 1)) = ((((h &&& (256 - 1)).toUInt64 >>> ((6 : Int32) &&& 0x3f).toInt64.toUInt64).toInt64).toInt32) := rfl
    rw [← d] at e
    simp only [Nat.reducePow] at m u
    rw [Int32.lt_iff_toInt_lt, Int32.lt_iff_toInt_lt, k0, n]
    omega
  · have m := c_maskL h (512 - 1) 9 (by decide) (by decide)
    have u := c_lushr (h &&& (512 - 1)) 6 6 (by decide) (by decide)
    have e := c_l2i (((h &&& (512 - 1)).toUInt64 >>> ((6 : Int32) &&& 0x3f).toInt64.toUInt64).toInt64)
    have r := rng32 (own_ix (h &&& (512 - 1)))
    have n : (((((512 : Int64) + (64 : Int64)) - (1 : Int64)) / (64 : Int64)).toInt32).toInt = 8 := by decide
    have d : own_ix (h &&& (512 - 1)) = ((((h &&& (512 - 1)).toUInt64 >>> ((6 : Int32) &&& 0x3f).toInt64.toUInt64).toInt64).toInt32) := rfl
    rw [← d] at e
    simp only [Nat.reducePow] at m u
    rw [Int32.lt_iff_toInt_lt, Int32.lt_iff_toInt_lt, k0, n]
    omega
  · have m := c_maskL h (1024 - 1) 10 (by decide) (by decide)
    have u := c_lushr (h &&& (1024 - 1)) 6 6 (by decide) (by decide)
    have e := c_l2i (((h &&& (1024 - 1)).toUInt64 >>> ((6 : Int32) &&& 0x3f).toInt64.toUInt64).toInt64)
    have r := rng32 (own_ix (h &&& (1024 - 1)))
    have n : (((((1024 : Int64) + (64 : Int64)) - (1 : Int64)) / (64 : Int64)).toInt32).toInt = 16 := by decide
    have d : own_ix (h &&& (1024 - 1)) = ((((h &&& (1024 - 1)).toUInt64 >>> ((6 : Int32) &&& 0x3f).toInt64.toUInt64).toInt64).toInt32) := rfl
    rw [← d] at e
    simp only [Nat.reducePow] at m u
    rw [Int32.lt_iff_toInt_lt, Int32.lt_iff_toInt_lt, k0, n]
    omega
  · have m := c_maskL h (2048 - 1) 11 (by decide) (by decide)
    have u := c_lushr (h &&& (2048 - 1)) 6 6 (by decide) (by decide)
    have e := c_l2i (((h &&& (2048 - 1)).toUInt64 >>> ((6 : Int32) &&& 0x3f).toInt64.toUInt64).toInt64)
    have r := rng32 (own_ix (h &&& (2048 - 1)))
    have n : (((((2048 : Int64) + (64 : Int64)) - (1 : Int64)) / (64 : Int64)).toInt32).toInt = 32 := by decide
    have d : own_ix (h &&& (2048 - 1)) = ((((h &&& (2048 - 1)).toUInt64 >>> ((6 : Int32) &&& 0x3f).toInt64.toUInt64).toInt64).toInt32) := rfl
    rw [← d] at e
    simp only [Nat.reducePow] at m u
    rw [Int32.lt_iff_toInt_lt, Int32.lt_iff_toInt_lt, k0, n]
    omega
  · have m := c_maskL h (4096 - 1) 12 (by decide) (by decide)
    have u := c_lushr (h &&& (4096 - 1)) 6 6 (by decide) (by decide)
    have e := c_l2i (((h &&& (4096 - 1)).toUInt64 >>> ((6 : Int32) &&& 0x3f).toInt64.toUInt64).toInt64)
    have r := rng32 (own_ix (h &&& (4096 - 1)))
    have n : (((((4096 : Int64) + (64 : Int64)) - (1 : Int64)) / (64 : Int64)).toInt32).toInt = 64 := by decide
    have d : own_ix (h &&& (4096 - 1)) = ((((h &&& (4096 - 1)).toUInt64 >>> ((6 : Int32) &&& 0x3f).toInt64.toUInt64).toInt64).toInt32) := rfl
    rw [← d] at e
    simp only [Nat.reducePow] at m u
    rw [Int32.lt_iff_toInt_lt, Int32.lt_iff_toInt_lt, k0, n]
    omega
  · have m := c_maskL h (8192 - 1) 13 (by decide) (by decide)
    have u := c_lushr (h &&& (8192 - 1)) 6 6 (by decide) (by decide)
    have e := c_l2i (((h &&& (8192 - 1)).toUInt64 >>> ((6 : Int32) &&& 0x3f).toInt64.toUInt64).toInt64)
    have r := rng32 (own_ix (h &&& (8192 - 1)))
    have n : (((((8192 : Int64) + (64 : Int64)) - (1 : Int64)) / (64 : Int64)).toInt32).toInt = 128 := by decide
    have d : own_ix (h &&& (8192 - 1)) = ((((h &&& (8192 - 1)).toUInt64 >>> ((6 : Int32) &&& 0x3f).toInt64.toUInt64).toInt64).toInt32) := rfl
    rw [← d] at e
    simp only [Nat.reducePow] at m u
    rw [Int32.lt_iff_toInt_lt, Int32.lt_iff_toInt_lt, k0, n]
    omega
  · have m := c_maskL h (16384 - 1) 14 (by decide) (by decide)
    have u := c_lushr (h &&& (16384 - 1)) 6 6 (by decide) (by decide)
    have e := c_l2i (((h &&& (16384 - 1)).toUInt64 >>> ((6 : Int32) &&& 0x3f).toInt64.toUInt64).toInt64)
    have r := rng32 (own_ix (h &&& (16384 - 1)))
    have n : (((((16384 : Int64) + (64 : Int64)) - (1 : Int64)) / (64 : Int64)).toInt32).toInt = 256 := by decide
    have d : own_ix (h &&& (16384 - 1)) = ((((h &&& (16384 - 1)).toUInt64 >>> ((6 : Int32) &&& 0x3f).toInt64.toUInt64).toInt64).toInt32) := rfl
    rw [← d] at e
    simp only [Nat.reducePow] at m u
    rw [Int32.lt_iff_toInt_lt, Int32.lt_iff_toInt_lt, k0, n]
    omega
  · have m := c_maskL h (32768 - 1) 15 (by decide) (by decide)
    have u := c_lushr (h &&& (32768 - 1)) 6 6 (by decide) (by decide)
    have e := c_l2i (((h &&& (32768 - 1)).toUInt64 >>> ((6 : Int32) &&& 0x3f).toInt64.toUInt64).toInt64)
    have r := rng32 (own_ix (h &&& (32768 - 1)))
    have n : (((((32768 : Int64) + (64 : Int64)) - (1 : Int64)) / (64 : Int64)).toInt32).toInt = 512 := by decide
    have d : own_ix (h &&& (32768 - 1)) = ((((h &&& (32768 - 1)).toUInt64 >>> ((6 : Int32) &&& 0x3f).toInt64.toUInt64).toInt64).toInt32) := rfl
    rw [← d] at e
    simp only [Nat.reducePow] at m u
    rw [Int32.lt_iff_toInt_lt, Int32.lt_iff_toInt_lt, k0, n]
    omega
theorem own_zw {Z : State} {h : Heap} {a : Addr} {k : ClassId} {z : Int32} (V : Arv Z h a k .long z [] (.long (0 : Int64))) (n : Nat) : Arv Z h a k .long z (List.map Value.long (List.replicate n (0 : Int64))) (.long (0 : Int64)) := by
  have q := V.pad (pad_rep [] _ n)
  rw [List.nil_append] at q
  rw [List.map_replicate]
  exact q
theorem d8_0 : decode prog_1_method_1_code 0 = .ok (.aload_n 0, 1) := by decide +kernel
theorem d8_1 : decode prog_1_method_1_code 1 = .ok (.invokespecial 1, 3) := by decide +kernel
theorem d8_4 : decode prog_1_method_1_code 4 = .ok (.lload_n 1, 1) := by decide +kernel
theorem d8_5 : decode prog_1_method_1_code 5 = .ok (.invokestatic 7, 3) := by decide +kernel
theorem d8_8 : decode prog_1_method_1_code 8 = .ok (.iconst 1, 1) := by decide +kernel
theorem d8_9 : decode prog_1_method_1_code 9 = .ok (.if_icmp .ne 11, 3) := by decide +kernel
theorem d8_12 : decode prog_1_method_1_code 12 = .ok (.lload_n 1, 1) := by decide +kernel
theorem d8_13 : decode prog_1_method_1_code 13 = .ok (.ldc2_w 13, 3) := by decide +kernel
theorem d8_16 : decode prog_1_method_1_code 16 = .ok (.lcmp, 1) := by decide +kernel
theorem d8_17 : decode prog_1_method_1_code 17 = .ok (.ifCond .le 17, 3) := by decide +kernel
theorem d8_34 : decode prog_1_method_1_code 34 = .ok (.aload_n 0, 1) := by decide +kernel
theorem d8_35 : decode prog_1_method_1_code 35 = .ok (.lload_n 1, 1) := by decide +kernel
theorem d8_36 : decode prog_1_method_1_code 36 = .ok (.ldc2_w 24, 3) := by decide +kernel
theorem d8_39 : decode prog_1_method_1_code 39 = .ok (.ladd, 1) := by decide +kernel
theorem d8_40 : decode prog_1_method_1_code 40 = .ok (.lconst 1, 1) := by decide +kernel
theorem d8_41 : decode prog_1_method_1_code 41 = .ok (.lsub, 1) := by decide +kernel
theorem d8_42 : decode prog_1_method_1_code 42 = .ok (.ldc2_w 24, 3) := by decide +kernel
theorem d8_45 : decode prog_1_method_1_code 45 = .ok (.ldiv, 1) := by decide +kernel
theorem d8_46 : decode prog_1_method_1_code 46 = .ok (.l2i, 1) := by decide +kernel
theorem d8_47 : decode prog_1_method_1_code 47 = .ok (.newarray .long, 2) := by decide +kernel
theorem d8_49 : decode prog_1_method_1_code 49 = .ok (.putfield 26, 3) := by decide +kernel
theorem d8_52 : decode prog_1_method_1_code 52 = .ok (.aload_n 0, 1) := by decide +kernel
theorem d8_53 : decode prog_1_method_1_code 53 = .ok (.lload_n 1, 1) := by decide +kernel
theorem d8_54 : decode prog_1_method_1_code 54 = .ok (.lconst 1, 1) := by decide +kernel
theorem d8_55 : decode prog_1_method_1_code 55 = .ok (.lsub, 1) := by decide +kernel
theorem d8_56 : decode prog_1_method_1_code 56 = .ok (.putfield 32, 3) := by decide +kernel
theorem d8_59 : decode prog_1_method_1_code 59 = .ok (.return_, 1) := by decide +kernel
theorem pd_17 : parseMethodDescriptor "(J)I" = some ⟨[.long], some .int⟩ := by decide +kernel
set_option maxRecDepth 65536 in
set_option maxHeartbeats 40000000 in
theorem rmBI (l : Launch) (Z : State) (a0 : Array Value) (hw : own_Wd a0 Z) (ws : List Jvm.Cond) (f : Addr) (x mk : Int64) (nw : Int32)  (h0 : Heap) (n0 : Nat) (Z0 : n0 ≤ h0.size) (h2 : own_P2 x) (hnw : ((((x + (64 : Int64)) - (1 : Int64)) / (64 : Int64)).toInt32) = nw) (hmk : (x - (1 : Int64)) = mk) (Ef : Exa Z h0 f "com/example/vestline/vestline/cli/BloomFilter") (Fw : Fld Z h0 f "com/example/vestline/vestline/cli/BloomFilter" "words" "[J" .null) (Fm : Fld Z h0 f "com/example/vestline/vestline/cli/BloomFilter" "mask" "J" (.long (0 : Int64))) (g_f : n0 ≤ f) :
    own_Met l (⟨"com/example/vestline/vestline/cli/BloomFilter", "<init>", "(J)V"⟩ : MethodName) prog_1_method_1_code 3 none ws ({ frames := 1, cells := 1, slots := 512, locals := 13 } : Room) Z #[(.ref f), (.long x)] h0 (fun v h L => v = none ∧ Fr n0 L ∧ Keep h0 h [f] ∧ ∃ w kw, h0.size ≤ w ∧ n0 ≤ w ∧ Exa Z h w "[J" ∧ Exa Z h f "com/example/vestline/vestline/cli/BloomFilter" ∧ Fld Z h f "com/example/vestline/vestline/cli/BloomFilter" "words" "[J" (.ref w) ∧ Fld Z h f "com/example/vestline/vestline/cli/BloomFilter" "mask" "J" (.long mk) ∧ Arv Z h w kw .long nw (List.map Value.long (List.replicate nw.toNatClampNeg (0 : Int64))) (.long (0 : Int64))) := by
  refine own_body (plainFor_of_name pn_3) ?_
  intro p e s m below meth c s₁ X0 hx hby hml hown hnm hret hlk hZ e0
  replace hown : s.vm.findClass "com/example/vestline/vestline/cli/BloomFilter" = some m.cls := hown
  replace hml : c.maxLocals = 3 := hml
  replace hret : meth.sig.returnType = none := hret
  have N0 := Fr.nil n0
  refine own_ef (L0 := #[.val (.ref f), .val (.long x), .second]) (by first | (simp [entryFrame, mkF, argsToLocals, Value.category]; done) | rfl) ?_
  refine own_aloadN X0 hx (hb hby d8_0) rfl rfl ?_
  refine own_initO (W := 0) X0 hx hZ hown (own_m hw 44 rfl) (own_m hw 17 rfl) (own_m hw 18 rfl) e0 (by rw [hml]; rfl) (hb hby d8_1) (by decide) (Nat.le_of_eq rfl) (by decide) fun T447 X447 e447 => ?_
  refine own_lloadN X447 hx (hb hby d8_4) rfl ?_
  refine own_cStat (W := 0) (rest := []) X447 hx hZ [(.long x)] hown (own_m hw 45 rfl) (own_m hw 46 rfl) (by decide) (own_m hw 48 rfl) (own_m hw 47 rfl) e447 (rmBC l Z a0 hw [] x h0 n0 Z0 h2) (by rw [hml]; rfl) (lenOf pd_17 rfl) rfl (Nat.le_of_eq rfl) (hb hby d8_5) (by decide) (by decide) (by decide) (by decide) fun v448 T448 L448 X448 hQ448 => ?_
  obtain ⟨rfl, N448q, e448⟩ := hQ448
  have N448 := Fr.app N0 N448q
  show own_At p e below _ T448 m 8 _ [(.int 1)]
  refine own_iconst X448 hx 1 (hb hby d8_8) rfl ?_
  refine own_icmpNo X448 hx (hb hby d8_9) (teq (by decide : (1 : Int32) = (1 : Int32))).2 ?_
  refine own_lloadN X448 hx (hb hby d8_12) rfl ?_
  refine own_ldcL X448 hx hZ hown (own_m hw 52 rfl) (hb hby d8_13) ?_
  refine own_lcmp X448 hx (hb hby d8_16) ?_
  refine own_ifYes X448 hx 34 (hb hby d8_17) (flt (fun q => (own_p36 h2) ((lw_gt x (68719476736 : Int64)).mp q))).2.2.2 (by decide) (by decide) ?_
  refine own_aloadN X448 hx (hb hby d8_34) rfl rfl ?_
  refine own_lloadN X448 hx (hb hby d8_35) rfl ?_
  refine own_ldcL X448 hx hZ hown (own_m hw 53 rfl) (hb hby d8_36) ?_
  refine own_ladd X448 hx (hb hby d8_39) ?_
  refine own_lconst1 X448 hx (hb hby d8_40) ?_
  refine own_lsub X448 hx (hb hby d8_41) ?_
  refine own_ldcL X448 hx hZ hown (own_m hw 53 rfl) (hb hby d8_42) ?_
  refine own_ldiv X448 hx (hb hby d8_45) (by decide) ?_
  refine own_l2i X448 hx (hb hby d8_46) ?_
  rw [hnw]
  refine own_newP (n := nw) (cap := 512) (ad := "[J") X448 hx hZ (own_m hw 54 rfl) e448 (hb hby d8_47) (own_nwb h2 hnw).1 (own_nwb h2 hnw).2 (by decide) (by decide) (by decide) (by decide) fun T449 h449 k449 b449 g449 X449 e449 E449 A449 Ex449 => ?_
  have g_b449 : n0 ≤ b449 := Nat.le_trans Z0 (Nat.le_of_eq g449.symm)
  have szo_b449 : h0.size ≤ b449 := Nat.le_trans (Nat.le_refl h0.size) (Nat.le_of_eq g449.symm)
  have V449 : Arv Z h449 b449 k449 .long nw [] (.long (0 : Int64)) := Arv.new A449 (own_nwb h2 hnw).1
  refine own_putF X449 hx hZ hown (host := "") (Or.inl (own_m hw 55 rfl)) Via.refl e449 (Fld.ext E449 Fw) (Exa.ext E449 Ef) (Or.inr ⟨(own_m hw 56 rfl), rfl, hnm⟩) (own_m hw 39 rfl) (ty := (.array .long)) (by decide) rfl rfl (hb hby d8_49) fun T450 h450 X450 e450 W450 => ?_
  have Fw450 := Fld.same W450 (Fld.ext E449 Fw)
  have N450 := Fr.snoc X450 N448 g_f
  refine own_aloadN X450 hx (hb hby d8_52) rfl rfl ?_
  refine own_lloadN X450 hx (hb hby d8_53) rfl ?_
  refine own_lconst1 X450 hx (hb hby d8_54) ?_
  refine own_lsub X450 hx (hb hby d8_55) ?_
  rw [hmk]
  refine own_putF X450 hx hZ hown (host := "") (Or.inl (own_m hw 57 rfl)) Via.refl e450 (Fld.other W450 (Fld.ext E449 Fm) (Or.inr (slot_ne (Or.inr (own_m hw 58 rfl)) (Or.inr (own_m hw 56 rfl)) (by decide) (t := .long) (t' := (.array .long)) (by decide) (by decide)))) (Exa.wr W450 (Exa.ext E449 Ef)) (Or.inr ⟨(own_m hw 58 rfl), rfl, hnm⟩) (own_m hw 39 rfl) (ty := .long) (by decide) rfl rfl (hb hby d8_56) fun T451 h451 X451 e451 W451 => ?_
  have Fw451 := Fld.same W451 (Fld.other W450 (Fld.ext E449 Fm) (Or.inr (slot_ne (Or.inr (own_m hw 58 rfl)) (Or.inr (own_m hw 56 rfl)) (by decide) (t := .long) (t' := (.array .long)) (by decide) (by decide))))
  have N451 := Fr.snoc X451 N450 g_f
  refine own_retV X451 hx hlk hret (hb hby d8_59) (own_kN (by decide) (by decide) ?_)
  try rw [e451]
  exact ⟨rfl, N451, (Keep.wr (Keep.wr (Keep.ext (Keep.refl h0 [f]) E449) W450 (Or.inl (List.mem_of_getElem? (i := 0) rfl))) W451 (Or.inl (List.mem_of_getElem? (i := 0) rfl))), b449, k449, szo_b449, g_b449, (Exa.wr W451 (Exa.wr W450 Ex449)), (Exa.wr W451 (Exa.wr W450 (Exa.ext E449 Ef))), (Fld.other W451 Fw450 (Or.inr (slot_ne (Or.inr (own_m hw 56 rfl)) (Or.inr (own_m hw 58 rfl)) (by decide) (t := (.array .long)) (t' := .long) (by decide) (by decide)))), Fw451, own_zw (Arv.other (Arv.other V449 W450 (Ne.symm (Nat.ne_of_lt (Nat.lt_of_lt_of_le Ef.lt (Nat.le_of_eq g449.symm))))) W451 (Ne.symm (Nat.ne_of_lt (Nat.lt_of_lt_of_le Ef.lt (Nat.le_of_eq g449.symm))))) _⟩
def own_gt (xs : List Int64) (b : Int64) : Int64 := xs.getD (own_ix b).toNatClampNeg (0 : Int64)
def own_tt (g f : Int64) : Int32 := if (g &&& f) = (0 : Int64) then (0 : Int32) else (1 : Int32)
def own_nt (h : Int32) : Int32 := if h = (0 : Int32) then (1 : Int32) else (0 : Int32)
def own_ad (xs : List Int64) (b : Int64) : List Int64 := xs.set (own_ix b).toNatClampNeg ((own_gt xs b) ||| (own_fl b))
theorem own_tt0 {g f : Int64} (h : (g &&& f) = (0 : Int64)) : own_tt g f = (0 : Int32) := if_pos h
theorem own_tt1 {g f : Int64} (h : ¬ (g &&& f) = (0 : Int64)) : own_tt g f = (1 : Int32) := if_neg h
theorem own_getJ (xs : List Int64) (b : Int64) : (List.map Value.long xs).getD (own_ix b).toNatClampNeg (.long (0 : Int64)) = .long (own_gt xs b) := by
  simp [own_gt, List.getD_eq_getElem?_getD, List.getElem?_map]
theorem own_setJ {xs ys : List Int64} {b : Int64} (h : own_ad xs b = ys) : (List.map Value.long xs).set (own_ix b).toNatClampNeg (.long ((own_gt xs b) ||| (own_fl b))) = List.map Value.long ys := by
  rw [← h, own_ad, List.map_set]
theorem own_tc {p : Program} {e : Env} {below : List Frame} {K : State → Outcome → Prop} {T : State} {m : MethodId} {pc : Nat} {Ls : Array Slot} {S : List Value} {t c : Int32} (q : t = c) (hJ : own_At p e below K T m pc Ls (.int t :: S)) : own_At p e below K T m pc Ls (.int c :: S) := by subst q; exact hJ
theorem own_join {p : Program} {e : Env} {below : List Frame} {K : State → Outcome → Prop} {T : State} {m : MethodId} {pc : Nat} {Ls : Array Slot} {S : List Value} (pc' : Nat) (Ls' : Array Slot) (S' : List Value) (hJ : own_At p e below K T m pc' Ls' S') (hF : own_At p e below K T m pc' Ls' S' → own_At p e below K T m pc Ls S) : own_At p e below K T m pc Ls S := hF hJ
theorem d10_0 : decode prog_1_method_2_code 0 = .ok (.aload_n 1, 1) := by decide +kernel
theorem d10_1 : decode prog_1_method_2_code 1 = .ok (.invokestatic 36, 3) := by decide +kernel
theorem d10_4 : decode prog_1_method_2_code 4 = .ok (.lstore_n 2, 1) := by decide +kernel
theorem d10_5 : decode prog_1_method_2_code 5 = .ok (.lload_n 2, 1) := by decide +kernel
theorem d10_6 : decode prog_1_method_2_code 6 = .ok (.bipush 32, 2) := by decide +kernel
theorem d10_8 : decode prog_1_method_2_code 8 = .ok (.lushr, 1) := by decide +kernel
theorem d10_9 : decode prog_1_method_2_code 9 = .ok (.lconst 1, 1) := by decide +kernel
theorem d10_10 : decode prog_1_method_2_code 10 = .ok (.lor, 1) := by decide +kernel
theorem d10_11 : decode prog_1_method_2_code 11 = .ok (.lstore 4, 2) := by decide +kernel
theorem d10_13 : decode prog_1_method_2_code 13 = .ok (.iconst 1, 1) := by decide +kernel
theorem d10_14 : decode prog_1_method_2_code 14 = .ok (.istore 6, 2) := by decide +kernel
theorem d10_16 : decode prog_1_method_2_code 16 = .ok (.iconst 0, 1) := by decide +kernel
theorem d10_17 : decode prog_1_method_2_code 17 = .ok (.istore 7, 2) := by decide +kernel
theorem d10_19 : decode prog_1_method_2_code 19 = .ok (.iload 7, 2) := by decide +kernel
theorem d10_21 : decode prog_1_method_2_code 21 = .ok (.bipush 8, 2) := by decide +kernel
theorem d10_23 : decode prog_1_method_2_code 23 = .ok (.if_icmp .ge 76, 3) := by decide +kernel
theorem d10_26 : decode prog_1_method_2_code 26 = .ok (.lload_n 2, 1) := by decide +kernel
theorem d10_27 : decode prog_1_method_2_code 27 = .ok (.iload 7, 2) := by decide +kernel
theorem d10_29 : decode prog_1_method_2_code 29 = .ok (.i2l, 1) := by decide +kernel
theorem d10_30 : decode prog_1_method_2_code 30 = .ok (.lload 4, 2) := by decide +kernel
theorem d10_32 : decode prog_1_method_2_code 32 = .ok (.lmul, 1) := by decide +kernel
theorem d10_33 : decode prog_1_method_2_code 33 = .ok (.ladd, 1) := by decide +kernel
theorem d10_34 : decode prog_1_method_2_code 34 = .ok (.aload_n 0, 1) := by decide +kernel
theorem d10_35 : decode prog_1_method_2_code 35 = .ok (.getfield 32, 3) := by decide +kernel
theorem d10_38 : decode prog_1_method_2_code 38 = .ok (.land, 1) := by decide +kernel
theorem d10_39 : decode prog_1_method_2_code 39 = .ok (.lstore 8, 2) := by decide +kernel
theorem d10_41 : decode prog_1_method_2_code 41 = .ok (.lload 8, 2) := by decide +kernel
theorem d10_43 : decode prog_1_method_2_code 43 = .ok (.bipush 6, 2) := by decide +kernel
theorem d10_45 : decode prog_1_method_2_code 45 = .ok (.lushr, 1) := by decide +kernel
theorem d10_46 : decode prog_1_method_2_code 46 = .ok (.l2i, 1) := by decide +kernel
theorem d10_47 : decode prog_1_method_2_code 47 = .ok (.istore 10, 2) := by decide +kernel
theorem d10_49 : decode prog_1_method_2_code 49 = .ok (.lconst 1, 1) := by decide +kernel
theorem d10_50 : decode prog_1_method_2_code 50 = .ok (.lload 8, 2) := by decide +kernel
theorem d10_52 : decode prog_1_method_2_code 52 = .ok (.l2i, 1) := by decide +kernel
theorem d10_53 : decode prog_1_method_2_code 53 = .ok (.lshl, 1) := by decide +kernel
theorem d10_54 : decode prog_1_method_2_code 54 = .ok (.lstore 11, 2) := by decide +kernel
theorem d10_56 : decode prog_1_method_2_code 56 = .ok (.iload 6, 2) := by decide +kernel
theorem d10_58 : decode prog_1_method_2_code 58 = .ok (.aload_n 0, 1) := by decide +kernel
theorem d10_59 : decode prog_1_method_2_code 59 = .ok (.getfield 26, 3) := by decide +kernel
theorem d10_62 : decode prog_1_method_2_code 62 = .ok (.iload 10, 2) := by decide +kernel
theorem d10_64 : decode prog_1_method_2_code 64 = .ok (.laload, 1) := by decide +kernel
theorem d10_65 : decode prog_1_method_2_code 65 = .ok (.lload 11, 2) := by decide +kernel
theorem d10_67 : decode prog_1_method_2_code 67 = .ok (.land, 1) := by decide +kernel
theorem d10_68 : decode prog_1_method_2_code 68 = .ok (.lconst 0, 1) := by decide +kernel
theorem d10_69 : decode prog_1_method_2_code 69 = .ok (.lcmp, 1) := by decide +kernel
theorem d10_70 : decode prog_1_method_2_code 70 = .ok (.ifCond .eq 7, 3) := by decide +kernel
theorem d10_73 : decode prog_1_method_2_code 73 = .ok (.iconst 1, 1) := by decide +kernel
theorem d10_74 : decode prog_1_method_2_code 74 = .ok (.goto 4, 3) := by decide +kernel
theorem d10_77 : decode prog_1_method_2_code 77 = .ok (.iconst 0, 1) := by decide +kernel
theorem d10_78 : decode prog_1_method_2_code 78 = .ok (.iand, 1) := by decide +kernel
theorem d10_79 : decode prog_1_method_2_code 79 = .ok (.istore 6, 2) := by decide +kernel
theorem d10_81 : decode prog_1_method_2_code 81 = .ok (.aload_n 0, 1) := by decide +kernel
theorem d10_82 : decode prog_1_method_2_code 82 = .ok (.getfield 26, 3) := by decide +kernel
theorem d10_85 : decode prog_1_method_2_code 85 = .ok (.iload 10, 2) := by decide +kernel
theorem d10_87 : decode prog_1_method_2_code 87 = .ok (.dup2, 1) := by decide +kernel
theorem d10_88 : decode prog_1_method_2_code 88 = .ok (.laload, 1) := by decide +kernel
theorem d10_89 : decode prog_1_method_2_code 89 = .ok (.lload 11, 2) := by decide +kernel
theorem d10_91 : decode prog_1_method_2_code 91 = .ok (.lor, 1) := by decide +kernel
theorem d10_92 : decode prog_1_method_2_code 92 = .ok (.lastore, 1) := by decide +kernel
theorem d10_93 : decode prog_1_method_2_code 93 = .ok (.iinc 7 1, 3) := by decide +kernel
theorem d10_96 : decode prog_1_method_2_code 96 = .ok (.goto (-77), 3) := by decide +kernel
theorem d10_99 : decode prog_1_method_2_code 99 = .ok (.iload 6, 2) := by decide +kernel
theorem d10_101 : decode prog_1_method_2_code 101 = .ok (.ifCond .ne 7, 3) := by decide +kernel
theorem d10_104 : decode prog_1_method_2_code 104 = .ok (.iconst 1, 1) := by decide +kernel
theorem d10_105 : decode prog_1_method_2_code 105 = .ok (.goto 4, 3) := by decide +kernel
theorem d10_108 : decode prog_1_method_2_code 108 = .ok (.iconst 0, 1) := by decide +kernel
theorem d10_109 : decode prog_1_method_2_code 109 = .ok (.ireturn, 1) := by decide +kernel
theorem pd_18 : parseMethodDescriptor "(Ljava/lang/String;)J" = some ⟨[(.object "java/lang/String")], some .long⟩ := by decide +kernel
set_option maxRecDepth 65536 in
set_option maxHeartbeats 40000000 in
theorem rmAdd (l : Launch) (Z : State) (a0 : Array Value) (hw : own_Wd a0 Z) (ws : List Jvm.Cond) (f a b w : Addr) (kb kw : ClassId) (cs cd bl nw : Int32) (fm : Value) (bs : List Value) (H mk sp b0 b1 b2 b3 b4 b5 b6 b7 : Int64) (xs0 xs1 xs2 xs3 xs4 xs5 xs6 xs7 xs8 : List Int64) (t0 t1 t2 t3 t4 t5 t6 t7 : Int32)  (h0 : Heap) (n0 : Nat) (Z0 : n0 ≤ h0.size) (Sc : Sta Z h0 "java/lang/String" "COMPACT_STRINGS" "Z" (.int cs)) (hcs : ¬ (cs = (0 : Int32))) (Sad : Sta Z h0 "java/lang/StringUTF16" "$assertionsDisabled" "Z" (.int 1)) (Shi : Sta Z h0 "java/lang/StringUTF16" "HI_BYTE_SHIFT" "I" (.int 0)) (Slo : Sta Z h0 "java/lang/StringUTF16" "LO_BYTE_SHIFT" "I" (.int 8)) (Sf : Sta Z h0 "jdk/internal/util/Preconditions" "SIOOBE_FORMATTER" "Ljava/util/function/BiFunction;" fm) (hfm : fm.isRef = true) (Ea : Exa Z h0 a "java/lang/String") (Fv : Fld Z h0 a "java/lang/String" "value" "[B" (.ref b)) (Fc : Fld Z h0 a "java/lang/String" "coder" "B" (.int cd)) (Vb : Arv Z h0 b kb .byte bl bs (.int 0)) (hCH : own_CH l Z cs fm a b kb cd bl bs H) (Ef : Exa Z h0 f "com/example/vestline/vestline/cli/BloomFilter") (Fw : Fld Z h0 f "com/example/vestline/vestline/cli/BloomFilter" "words" "[J" (.ref w)) (Fm : Fld Z h0 f "com/example/vestline/vestline/cli/BloomFilter" "mask" "J" (.long mk)) (Ew : Exa Z h0 w "[J") (Vw : Arv Z h0 w kw .long nw (List.map Value.long xs0) (.long (0 : Int64))) (g_w : n0 ≤ w) (hsp : (((H.toUInt64 >>> ((32 : Int32) &&& 0x3f).toInt64.toUInt64).toInt64) ||| (1 : Int64)) = sp) (hb0 : ((H + (((0 : Int32).toInt64) * sp)) &&& mk) = b0) (hb1 : ((H + (((1 : Int32).toInt64) * sp)) &&& mk) = b1) (hb2 : ((H + (((2 : Int32).toInt64) * sp)) &&& mk) = b2) (hb3 : ((H + (((3 : Int32).toInt64) * sp)) &&& mk) = b3) (hb4 : ((H + (((4 : Int32).toInt64) * sp)) &&& mk) = b4) (hb5 : ((H + (((5 : Int32).toInt64) * sp)) &&& mk) = b5) (hb6 : ((H + (((6 : Int32).toInt64) * sp)) &&& mk) = b6) (hb7 : ((H + (((7 : Int32).toInt64) * sp)) &&& mk) = b7) (hs0 : own_ad xs0 b0 = xs1) (hs1 : own_ad xs1 b1 = xs2) (hs2 : own_ad xs2 b2 = xs3) (hs3 : own_ad xs3 b3 = xs4) (hs4 : own_ad xs4 b4 = xs5) (hs5 : own_ad xs5 b5 = xs6) (hs6 : own_ad xs6 b6 = xs7) (hs7 : own_ad xs7 b7 = xs8) (ht0 : own_tt (own_gt xs0 b0) (own_fl b0) = t0) (ht1 : own_tt (own_gt xs1 b1) (own_fl b1) = t1) (ht2 : own_tt (own_gt xs2 b2) (own_fl b2) = t2) (ht3 : own_tt (own_gt xs3 b3) (own_fl b3) = t3) (ht4 : own_tt (own_gt xs4 b4) (own_fl b4) = t4) (ht5 : own_tt (own_gt xs5 b5) (own_fl b5) = t5) (ht6 : own_tt (own_gt xs6 b6) (own_fl b6) = t6) (ht7 : own_tt (own_gt xs7 b7) (own_fl b7) = t7) (hj0 : ¬ own_ix b0 < (0 : Int32) ∧ own_ix b0 < nw) (hj1 : ¬ own_ix b1 < (0 : Int32) ∧ own_ix b1 < nw) (hj2 : ¬ own_ix b2 < (0 : Int32) ∧ own_ix b2 < nw) (hj3 : ¬ own_ix b3 < (0 : Int32) ∧ own_ix b3 < nw) (hj4 : ¬ own_ix b4 < (0 : Int32) ∧ own_ix b4 < nw) (hj5 : ¬ own_ix b5 < (0 : Int32) ∧ own_ix b5 < nw) (hj6 : ¬ own_ix b6 < (0 : Int32) ∧ own_ix b6 < nw) (hj7 : ¬ own_ix b7 < (0 : Int32) ∧ own_ix b7 < nw) (hl0 : (own_ix b0).toNatClampNeg < xs0.length) (hl1 : (own_ix b1).toNatClampNeg < xs1.length) (hl2 : (own_ix b2).toNatClampNeg < xs2.length) (hl3 : (own_ix b3).toNatClampNeg < xs3.length) (hl4 : (own_ix b4).toNatClampNeg < xs4.length) (hl5 : (own_ix b5).toNatClampNeg < xs5.length) (hl6 : (own_ix b6).toNatClampNeg < xs6.length) (hl7 : (own_ix b7).toNatClampNeg < xs7.length) :
    own_Met l (⟨"com/example/vestline/vestline/cli/BloomFilter", "add", "(Ljava/lang/String;)Z"⟩ : MethodName) prog_1_method_2_code 13 (some .boolean) ws ({ frames := 6, cells := 0, slots := 0, locals := 88 } : Room) Z #[(.ref f), (.ref a)] h0 (fun v h L => v = some (.int (own_nt (((((((((1 : Int32) &&& t0) &&& t1) &&& t2) &&& t3) &&& t4) &&& t5) &&& t6) &&& t7))) ∧ Fr n0 L ∧ Keep h0 h [w] ∧ Arv Z h w kw .long nw (List.map Value.long xs8) (.long (0 : Int64))) := by
  refine own_body (plainFor_of_name pn_3) ?_
  intro p e s m below meth c s₁ X0 hx hby hml hown hnm hret hlk hZ e0
  replace hown : s.vm.findClass "com/example/vestline/vestline/cli/BloomFilter" = some m.cls := hown
  replace hml : c.maxLocals = 13 := hml
  replace hret : meth.sig.returnType = (some .boolean) := hret
  have N0 := Fr.nil n0
  refine own_ef (L0 := #[.val (.ref f), .val (.ref a), .unset, .unset, .unset, .unset, .unset, .unset, .unset, .unset, .unset, .unset, .unset]) (by first | (simp [entryFrame, mkF, argsToLocals, Value.category]; done) | rfl) ?_
  refine own_aloadN X0 hx (hb hby d10_0) rfl rfl ?_
  refine own_cStat (W := 0) (rest := []) X0 hx hZ [(.ref a)] hown (own_m hw 64 rfl) (own_m hw 65 rfl) (by decide) (own_m hw 66 rfl) (own_m hw 40 rfl) e0 (hCH h0 n0 Z0 Sc hcs Sad Shi Slo Sf hfm Ea Fv Fc Vb) (by rw [hml]; rfl) (lenOf pd_18 rfl) rfl (Nat.le_of_eq rfl) (hb hby d10_1) (by decide) (by decide) (by decide) (by decide) fun v452 T452 L452 X452 hQ452 => ?_
  obtain ⟨rfl, N452q, e452⟩ := hQ452
  have N452 := Fr.app N0 N452q
  show own_At p e below _ T452 m 4 _ [(.long H)]
  refine own_lstoreN (l' := #[.val (.ref f), .val (.ref a), .val (.long H), .second, .unset, .unset, .unset, .unset, .unset, .unset, .unset, .unset, .unset]) X452 hx (hb hby d10_4) rfl ?_
  refine own_lloadN X452 hx (hb hby d10_5) rfl ?_
  refine own_bipush X452 hx 32 (hb hby d10_6) rfl ?_
  refine own_lushr X452 hx (hb hby d10_8) ?_
  refine own_lconst1 X452 hx (hb hby d10_9) ?_
  refine own_lor X452 hx (hb hby d10_10) ?_
  rw [hsp]
  refine own_lstore (l' := #[.val (.ref f), .val (.ref a), .val (.long H), .second, .val (.long sp), .second, .unset, .unset, .unset, .unset, .unset, .unset, .unset]) X452 hx (hb hby d10_11) rfl ?_
  refine own_iconst X452 hx 1 (hb hby d10_13) rfl ?_
  refine own_istore (l' := #[.val (.ref f), .val (.ref a), .val (.long H), .second, .val (.long sp), .second, .val (.int 1), .unset, .unset, .unset, .unset, .unset, .unset]) X452 hx (hb hby d10_14) rfl ?_
  refine own_iconst X452 hx 0 (hb hby d10_16) rfl ?_
  refine own_istore (l' := #[.val (.ref f), .val (.ref a), .val (.long H), .second, .val (.long sp), .second, .val (.int 1), .val (.int 0), .unset, .unset, .unset, .unset, .unset]) X452 hx (hb hby d10_17) rfl ?_
  refine own_iload X452 hx (hb hby d10_19) rfl ?_
  refine own_bipush X452 hx 8 (hb hby d10_21) rfl ?_
  refine own_icmpNo X452 hx (hb hby d10_23) (tlt (by decide : (0 : Int32) < (8 : Int32))).2.1 ?_
  refine own_lloadN X452 hx (hb hby d10_26) rfl ?_
  refine own_iload X452 hx (hb hby d10_27) rfl ?_
  refine own_i2l X452 hx (hb hby d10_29) ?_
  refine own_lload X452 hx (hb hby d10_30) rfl ?_
  refine own_lmul X452 hx (hb hby d10_32) ?_
  refine own_ladd X452 hx (hb hby d10_33) ?_
  refine own_aloadN X452 hx (hb hby d10_34) rfl rfl ?_
  refine own_getF X452 hx hZ hown (host := "") (Or.inl (own_m hw 57 rfl)) Via.refl e452 Fm (hb hby d10_35) fun T453 X453 e453 => ?_
  refine own_land X453 hx (hb hby d10_38) ?_
  rw [hb0]
  refine own_lstore (l' := #[.val (.ref f), .val (.ref a), .val (.long H), .second, .val (.long sp), .second, .val (.int 1), .val (.int 0), .val (.long b0), .second, .unset, .unset, .unset]) X453 hx (hb hby d10_39) rfl ?_
  refine own_lload X453 hx (hb hby d10_41) rfl ?_
  refine own_bipush X453 hx 6 (hb hby d10_43) rfl ?_
  refine own_lushr X453 hx (hb hby d10_45) ?_
  refine own_l2i X453 hx (hb hby d10_46) ?_
  rw [show (((b0.toUInt64 >>> ((6 : Int32) &&& 0x3f).toInt64.toUInt64).toInt64).toInt32) = own_ix b0 from rfl]
  refine own_istore (l' := #[.val (.ref f), .val (.ref a), .val (.long H), .second, .val (.long sp), .second, .val (.int 1), .val (.int 0), .val (.long b0), .second, .val (.int (own_ix b0)), .unset, .unset]) X453 hx (hb hby d10_47) rfl ?_
  refine own_lconst1 X453 hx (hb hby d10_49) ?_
  refine own_lload X453 hx (hb hby d10_50) rfl ?_
  refine own_l2i X453 hx (hb hby d10_52) ?_
  refine own_lshl X453 hx (hb hby d10_53) ?_
  rw [show ((1 : Int64) <<< ((b0.toInt32) &&& 0x3f).toInt64) = own_fl b0 from rfl]
  refine own_lstore (l' := #[.val (.ref f), .val (.ref a), .val (.long H), .second, .val (.long sp), .second, .val (.int 1), .val (.int 0), .val (.long b0), .second, .val (.int (own_ix b0)), .val (.long (own_fl b0)), .second]) X453 hx (hb hby d10_54) rfl ?_
  refine own_iload X453 hx (hb hby d10_56) rfl ?_
  refine own_aloadN X453 hx (hb hby d10_58) rfl rfl ?_
  refine own_getF X453 hx hZ hown (host := "") (Or.inl (own_m hw 55 rfl)) Via.refl e453 Fw (hb hby d10_59) fun T454 X454 e454 => ?_
  refine own_iload X454 hx (hb hby d10_62) rfl ?_
  refine own_laload X454 hx hZ (.long (own_gt xs0 b0)) e454 Vw hj0 (own_getJ xs0 b0) (hb hby d10_64) ?_
  refine own_lload X454 hx (hb hby d10_65) rfl ?_
  refine own_land X454 hx (hb hby d10_67) ?_
  refine own_lconst0 X454 hx (hb hby d10_68) ?_
  refine own_lcmp X454 hx (hb hby d10_69) ?_
  refine own_join 78 #[.val (.ref f), .val (.ref a), .val (.long H), .second, .val (.long sp), .second, .val (.int 1), .val (.int 0), .val (.long b0), .second, .val (.int (own_ix b0)), .val (.long (own_fl b0)), .second] [(.int t0), (.int 1)] ?_ fun hJ0 => ?_
  · skip
    refine own_iand X454 hx (hb hby d10_78) ?_
    refine own_istore (l' := #[.val (.ref f), .val (.ref a), .val (.long H), .second, .val (.long sp), .second, .val (.int ((1 : Int32) &&& t0)), .val (.int 0), .val (.long b0), .second, .val (.int (own_ix b0)), .val (.long (own_fl b0)), .second]) X454 hx (hb hby d10_79) rfl ?_
    refine own_aloadN X454 hx (hb hby d10_81) rfl rfl ?_
    refine own_getF X454 hx hZ hown (host := "") (Or.inl (own_m hw 55 rfl)) Via.refl e454 Fw (hb hby d10_82) fun T455 X455 e455 => ?_
    refine own_iload X455 hx (hb hby d10_85) rfl ?_
    refine own_dup2 X455 hx (hb hby d10_87) rfl rfl ?_
    refine own_laload X455 hx hZ (.long (own_gt xs0 b0)) e455 Vw hj0 (own_getJ xs0 b0) (hb hby d10_88) ?_
    refine own_lload X455 hx (hb hby d10_89) rfl ?_
    refine own_lor X455 hx (hb hby d10_91) ?_
    refine own_stJ (vs' := (List.map Value.long xs1)) (w := (.long ((own_gt xs0 b0) ||| (own_fl b0)))) X455 hx hZ e455 Vw hj0 (own_ix b0).toNatClampNeg rfl (by rw [List.length_map]; exact hl0) rfl (own_setJ hs0) (hb hby d10_92) fun T456 h456 X456 e456 W456 V456 => ?_
    have N456 := Fr.snoc X456 N452 g_w
    refine own_iinc (l' := #[.val (.ref f), .val (.ref a), .val (.long H), .second, .val (.long sp), .second, .val (.int ((1 : Int32) &&& t0)), .val (.int ((0 : Int32) + (1 : Int32))), .val (.long b0), .second, .val (.int (own_ix b0)), .val (.long (own_fl b0)), .second]) X456 hx (hb hby d10_93) rfl rfl ?_
    rw [show ((0 : Int32) + (1 : Int32)) = (1 : Int32) from by decide]
    refine own_goto X456 hx 19 (hb hby d10_96) (by decide) (by decide) ?_
    refine own_iload X456 hx (hb hby d10_19) rfl ?_
    refine own_bipush X456 hx 8 (hb hby d10_21) rfl ?_
    refine own_icmpNo X456 hx (hb hby d10_23) (tlt (by decide : (1 : Int32) < (8 : Int32))).2.1 ?_
    refine own_lloadN X456 hx (hb hby d10_26) rfl ?_
    refine own_iload X456 hx (hb hby d10_27) rfl ?_
    refine own_i2l X456 hx (hb hby d10_29) ?_
    refine own_lload X456 hx (hb hby d10_30) rfl ?_
    refine own_lmul X456 hx (hb hby d10_32) ?_
    refine own_ladd X456 hx (hb hby d10_33) ?_
    refine own_aloadN X456 hx (hb hby d10_34) rfl rfl ?_
    refine own_getF X456 hx hZ hown (host := "") (Or.inl (own_m hw 57 rfl)) Via.refl e456 (Fld.other W456 Fm (Or.inl (ne_exa Ef Ew (by decide)))) (hb hby d10_35) fun T457 X457 e457 => ?_
    refine own_land X457 hx (hb hby d10_38) ?_
    rw [hb1]
    refine own_lstore (l' := #[.val (.ref f), .val (.ref a), .val (.long H), .second, .val (.long sp), .second, .val (.int ((1 : Int32) &&& t0)), .val (.int 1), .val (.long b1), .second, .val (.int (own_ix b0)), .val (.long (own_fl b0)), .second]) X457 hx (hb hby d10_39) rfl ?_
    refine own_lload X457 hx (hb hby d10_41) rfl ?_
    refine own_bipush X457 hx 6 (hb hby d10_43) rfl ?_
    refine own_lushr X457 hx (hb hby d10_45) ?_
    refine own_l2i X457 hx (hb hby d10_46) ?_
    rw [show (((b1.toUInt64 >>> ((6 : Int32) &&& 0x3f).toInt64.toUInt64).toInt64).toInt32) = own_ix b1 from rfl]
    refine own_istore (l' := #[.val (.ref f), .val (.ref a), .val (.long H), .second, .val (.long sp), .second, .val (.int ((1 : Int32) &&& t0)), .val (.int 1), .val (.long b1), .second, .val (.int (own_ix b1)), .val (.long (own_fl b0)), .second]) X457 hx (hb hby d10_47) rfl ?_
    refine own_lconst1 X457 hx (hb hby d10_49) ?_
    refine own_lload X457 hx (hb hby d10_50) rfl ?_
    refine own_l2i X457 hx (hb hby d10_52) ?_
    refine own_lshl X457 hx (hb hby d10_53) ?_
    rw [show ((1 : Int64) <<< ((b1.toInt32) &&& 0x3f).toInt64) = own_fl b1 from rfl]
    refine own_lstore (l' := #[.val (.ref f), .val (.ref a), .val (.long H), .second, .val (.long sp), .second, .val (.int ((1 : Int32) &&& t0)), .val (.int 1), .val (.long b1), .second, .val (.int (own_ix b1)), .val (.long (own_fl b1)), .second]) X457 hx (hb hby d10_54) rfl ?_
    refine own_iload X457 hx (hb hby d10_56) rfl ?_
    refine own_aloadN X457 hx (hb hby d10_58) rfl rfl ?_
    refine own_getF X457 hx hZ hown (host := "") (Or.inl (own_m hw 55 rfl)) Via.refl e457 (Fld.other W456 Fw (Or.inl (ne_exa Ef Ew (by decide)))) (hb hby d10_59) fun T458 X458 e458 => ?_
    refine own_iload X458 hx (hb hby d10_62) rfl ?_
    refine own_laload X458 hx hZ (.long (own_gt xs1 b1)) e458 V456 hj1 (own_getJ xs1 b1) (hb hby d10_64) ?_
    refine own_lload X458 hx (hb hby d10_65) rfl ?_
    refine own_land X458 hx (hb hby d10_67) ?_
    refine own_lconst0 X458 hx (hb hby d10_68) ?_
    refine own_lcmp X458 hx (hb hby d10_69) ?_
    refine own_join 78 #[.val (.ref f), .val (.ref a), .val (.long H), .second, .val (.long sp), .second, .val (.int ((1 : Int32) &&& t0)), .val (.int 1), .val (.long b1), .second, .val (.int (own_ix b1)), .val (.long (own_fl b1)), .second] [(.int t1), (.int ((1 : Int32) &&& t0))] ?_ fun hJ1 => ?_
    · skip
      refine own_iand X458 hx (hb hby d10_78) ?_
      refine own_istore (l' := #[.val (.ref f), .val (.ref a), .val (.long H), .second, .val (.long sp), .second, .val (.int (((1 : Int32) &&& t0) &&& t1)), .val (.int 1), .val (.long b1), .second, .val (.int (own_ix b1)), .val (.long (own_fl b1)), .second]) X458 hx (hb hby d10_79) rfl ?_
      refine own_aloadN X458 hx (hb hby d10_81) rfl rfl ?_
      refine own_getF X458 hx hZ hown (host := "") (Or.inl (own_m hw 55 rfl)) Via.refl e458 (Fld.other W456 Fw (Or.inl (ne_exa Ef Ew (by decide)))) (hb hby d10_82) fun T459 X459 e459 => ?_
      refine own_iload X459 hx (hb hby d10_85) rfl ?_
      refine own_dup2 X459 hx (hb hby d10_87) rfl rfl ?_
      refine own_laload X459 hx hZ (.long (own_gt xs1 b1)) e459 V456 hj1 (own_getJ xs1 b1) (hb hby d10_88) ?_
      refine own_lload X459 hx (hb hby d10_89) rfl ?_
      refine own_lor X459 hx (hb hby d10_91) ?_
      refine own_stJ (vs' := (List.map Value.long xs2)) (w := (.long ((own_gt xs1 b1) ||| (own_fl b1)))) X459 hx hZ e459 V456 hj1 (own_ix b1).toNatClampNeg rfl (by rw [List.length_map]; exact hl1) rfl (own_setJ hs1) (hb hby d10_92) fun T460 h460 X460 e460 W460 V460 => ?_
      have N460 := Fr.snoc X460 N456 g_w
      refine own_iinc (l' := #[.val (.ref f), .val (.ref a), .val (.long H), .second, .val (.long sp), .second, .val (.int (((1 : Int32) &&& t0) &&& t1)), .val (.int ((1 : Int32) + (1 : Int32))), .val (.long b1), .second, .val (.int (own_ix b1)), .val (.long (own_fl b1)), .second]) X460 hx (hb hby d10_93) rfl rfl ?_
      rw [show ((1 : Int32) + (1 : Int32)) = (2 : Int32) from by decide]
      refine own_goto X460 hx 19 (hb hby d10_96) (by decide) (by decide) ?_
      refine own_iload X460 hx (hb hby d10_19) rfl ?_
      refine own_bipush X460 hx 8 (hb hby d10_21) rfl ?_
      refine own_icmpNo X460 hx (hb hby d10_23) (tlt (by decide : (2 : Int32) < (8 : Int32))).2.1 ?_
      refine own_lloadN X460 hx (hb hby d10_26) rfl ?_
      refine own_iload X460 hx (hb hby d10_27) rfl ?_
      refine own_i2l X460 hx (hb hby d10_29) ?_
      refine own_lload X460 hx (hb hby d10_30) rfl ?_
      refine own_lmul X460 hx (hb hby d10_32) ?_
      refine own_ladd X460 hx (hb hby d10_33) ?_
      refine own_aloadN X460 hx (hb hby d10_34) rfl rfl ?_
      refine own_getF X460 hx hZ hown (host := "") (Or.inl (own_m hw 57 rfl)) Via.refl e460 (Fld.other W460 (Fld.other W456 Fm (Or.inl (ne_exa Ef Ew (by decide)))) (Or.inl (ne_exa Ef Ew (by decide)))) (hb hby d10_35) fun T461 X461 e461 => ?_
      refine own_land X461 hx (hb hby d10_38) ?_
      rw [hb2]
      refine own_lstore (l' := #[.val (.ref f), .val (.ref a), .val (.long H), .second, .val (.long sp), .second, .val (.int (((1 : Int32) &&& t0) &&& t1)), .val (.int 2), .val (.long b2), .second, .val (.int (own_ix b1)), .val (.long (own_fl b1)), .second]) X461 hx (hb hby d10_39) rfl ?_
      refine own_lload X461 hx (hb hby d10_41) rfl ?_
      refine own_bipush X461 hx 6 (hb hby d10_43) rfl ?_
      refine own_lushr X461 hx (hb hby d10_45) ?_
      refine own_l2i X461 hx (hb hby d10_46) ?_
      rw [show (((b2.toUInt64 >>> ((6 : Int32) &&& 0x3f).toInt64.toUInt64).toInt64).toInt32) = own_ix b2 from rfl]
      refine own_istore (l' := #[.val (.ref f), .val (.ref a), .val (.long H), .second, .val (.long sp), .second, .val (.int (((1 : Int32) &&& t0) &&& t1)), .val (.int 2), .val (.long b2), .second, .val (.int (own_ix b2)), .val (.long (own_fl b1)), .second]) X461 hx (hb hby d10_47) rfl ?_
      refine own_lconst1 X461 hx (hb hby d10_49) ?_
      refine own_lload X461 hx (hb hby d10_50) rfl ?_
      refine own_l2i X461 hx (hb hby d10_52) ?_
      refine own_lshl X461 hx (hb hby d10_53) ?_
      rw [show ((1 : Int64) <<< ((b2.toInt32) &&& 0x3f).toInt64) = own_fl b2 from rfl]
      refine own_lstore (l' := #[.val (.ref f), .val (.ref a), .val (.long H), .second, .val (.long sp), .second, .val (.int (((1 : Int32) &&& t0) &&& t1)), .val (.int 2), .val (.long b2), .second, .val (.int (own_ix b2)), .val (.long (own_fl b2)), .second]) X461 hx (hb hby d10_54) rfl ?_
      refine own_iload X461 hx (hb hby d10_56) rfl ?_
      refine own_aloadN X461 hx (hb hby d10_58) rfl rfl ?_
      refine own_getF X461 hx hZ hown (host := "") (Or.inl (own_m hw 55 rfl)) Via.refl e461 (Fld.other W460 (Fld.other W456 Fw (Or.inl (ne_exa Ef Ew (by decide)))) (Or.inl (ne_exa Ef Ew (by decide)))) (hb hby d10_59) fun T462 X462 e462 => ?_
      refine own_iload X462 hx (hb hby d10_62) rfl ?_
      refine own_laload X462 hx hZ (.long (own_gt xs2 b2)) e462 V460 hj2 (own_getJ xs2 b2) (hb hby d10_64) ?_
      refine own_lload X462 hx (hb hby d10_65) rfl ?_
      refine own_land X462 hx (hb hby d10_67) ?_
      refine own_lconst0 X462 hx (hb hby d10_68) ?_
      refine own_lcmp X462 hx (hb hby d10_69) ?_
      refine own_join 78 #[.val (.ref f), .val (.ref a), .val (.long H), .second, .val (.long sp), .second, .val (.int (((1 : Int32) &&& t0) &&& t1)), .val (.int 2), .val (.long b2), .second, .val (.int (own_ix b2)), .val (.long (own_fl b2)), .second] [(.int t2), (.int (((1 : Int32) &&& t0) &&& t1))] ?_ fun hJ2 => ?_
      · skip
        refine own_iand X462 hx (hb hby d10_78) ?_
        refine own_istore (l' := #[.val (.ref f), .val (.ref a), .val (.long H), .second, .val (.long sp), .second, .val (.int ((((1 : Int32) &&& t0) &&& t1) &&& t2)), .val (.int 2), .val (.long b2), .second, .val (.int (own_ix b2)), .val (.long (own_fl b2)), .second]) X462 hx (hb hby d10_79) rfl ?_
        refine own_aloadN X462 hx (hb hby d10_81) rfl rfl ?_
        refine own_getF X462 hx hZ hown (host := "") (Or.inl (own_m hw 55 rfl)) Via.refl e462 (Fld.other W460 (Fld.other W456 Fw (Or.inl (ne_exa Ef Ew (by decide)))) (Or.inl (ne_exa Ef Ew (by decide)))) (hb hby d10_82) fun T463 X463 e463 => ?_
        refine own_iload X463 hx (hb hby d10_85) rfl ?_
        refine own_dup2 X463 hx (hb hby d10_87) rfl rfl ?_
        refine own_laload X463 hx hZ (.long (own_gt xs2 b2)) e463 V460 hj2 (own_getJ xs2 b2) (hb hby d10_88) ?_
        refine own_lload X463 hx (hb hby d10_89) rfl ?_
        refine own_lor X463 hx (hb hby d10_91) ?_
        refine own_stJ (vs' := (List.map Value.long xs3)) (w := (.long ((own_gt xs2 b2) ||| (own_fl b2)))) X463 hx hZ e463 V460 hj2 (own_ix b2).toNatClampNeg rfl (by rw [List.length_map]; exact hl2) rfl (own_setJ hs2) (hb hby d10_92) fun T464 h464 X464 e464 W464 V464 => ?_
        have N464 := Fr.snoc X464 N460 g_w
        refine own_iinc (l' := #[.val (.ref f), .val (.ref a), .val (.long H), .second, .val (.long sp), .second, .val (.int ((((1 : Int32) &&& t0) &&& t1) &&& t2)), .val (.int ((2 : Int32) + (1 : Int32))), .val (.long b2), .second, .val (.int (own_ix b2)), .val (.long (own_fl b2)), .second]) X464 hx (hb hby d10_93) rfl rfl ?_
        rw [show ((2 : Int32) + (1 : Int32)) = (3 : Int32) from by decide]
        refine own_goto X464 hx 19 (hb hby d10_96) (by decide) (by decide) ?_
        refine own_iload X464 hx (hb hby d10_19) rfl ?_
        refine own_bipush X464 hx 8 (hb hby d10_21) rfl ?_
        refine own_icmpNo X464 hx (hb hby d10_23) (tlt (by decide : (3 : Int32) < (8 : Int32))).2.1 ?_
        refine own_lloadN X464 hx (hb hby d10_26) rfl ?_
        refine own_iload X464 hx (hb hby d10_27) rfl ?_
        refine own_i2l X464 hx (hb hby d10_29) ?_
        refine own_lload X464 hx (hb hby d10_30) rfl ?_
        refine own_lmul X464 hx (hb hby d10_32) ?_
        refine own_ladd X464 hx (hb hby d10_33) ?_
        refine own_aloadN X464 hx (hb hby d10_34) rfl rfl ?_
        refine own_getF X464 hx hZ hown (host := "") (Or.inl (own_m hw 57 rfl)) Via.refl e464 (Fld.other W464 (Fld.other W460 (Fld.other W456 Fm (Or.inl (ne_exa Ef Ew (by decide)))) (Or.inl (ne_exa Ef Ew (by decide)))) (Or.inl (ne_exa Ef Ew (by decide)))) (hb hby d10_35) fun T465 X465 e465 => ?_
        refine own_land X465 hx (hb hby d10_38) ?_
        rw [hb3]
        refine own_lstore (l' := #[.val (.ref f), .val (.ref a), .val (.long H), .second, .val (.long sp), .second, .val (.int ((((1 : Int32) &&& t0) &&& t1) &&& t2)), .val (.int 3), .val (.long b3), .second, .val (.int (own_ix b2)), .val (.long (own_fl b2)), .second]) X465 hx (hb hby d10_39) rfl ?_
        refine own_lload X465 hx (hb hby d10_41) rfl ?_
        refine own_bipush X465 hx 6 (hb hby d10_43) rfl ?_
        refine own_lushr X465 hx (hb hby d10_45) ?_
        refine own_l2i X465 hx (hb hby d10_46) ?_
        rw [show (((b3.toUInt64 >>> ((6 : Int32) &&& 0x3f).toInt64.toUInt64).toInt64).toInt32) = own_ix b3 from rfl]
        refine own_istore (l' := #[.val (.ref f), .val (.ref a), .val (.long H), .second, .val (.long sp), .second, .val (.int ((((1 : Int32) &&& t0) &&& t1) &&& t2)), .val (.int 3), .val (.long b3), .second, .val (.int (own_ix b3)), .val (.long (own_fl b2)), .second]) X465 hx (hb hby d10_47) rfl ?_
        refine own_lconst1 X465 hx (hb hby d10_49) ?_
        refine own_lload X465 hx (hb hby d10_50) rfl ?_
        refine own_l2i X465 hx (hb hby d10_52) ?_
        refine own_lshl X465 hx (hb hby d10_53) ?_
        rw [show ((1 : Int64) <<< ((b3.toInt32) &&& 0x3f).toInt64) = own_fl b3 from rfl]
        refine own_lstore (l' := #[.val (.ref f), .val (.ref a), .val (.long H), .second, .val (.long sp), .second, .val (.int ((((1 : Int32) &&& t0) &&& t1) &&& t2)), .val (.int 3), .val (.long b3), .second, .val (.int (own_ix b3)), .val (.long (own_fl b3)), .second]) X465 hx (hb hby d10_54) rfl ?_
        refine own_iload X465 hx (hb hby d10_56) rfl ?_
        refine own_aloadN X465 hx (hb hby d10_58) rfl rfl ?_
        refine own_getF X465 hx hZ hown (host := "") (Or.inl (own_m hw 55 rfl)) Via.refl e465 (Fld.other W464 (Fld.other W460 (Fld.other W456 Fw (Or.inl (ne_exa Ef Ew (by decide)))) (Or.inl (ne_exa Ef Ew (by decide)))) (Or.inl (ne_exa Ef Ew (by decide)))) (hb hby d10_59) fun T466 X466 e466 => ?_
        refine own_iload X466 hx (hb hby d10_62) rfl ?_
        refine own_laload X466 hx hZ (.long (own_gt xs3 b3)) e466 V464 hj3 (own_getJ xs3 b3) (hb hby d10_64) ?_
        refine own_lload X466 hx (hb hby d10_65) rfl ?_
        refine own_land X466 hx (hb hby d10_67) ?_
        refine own_lconst0 X466 hx (hb hby d10_68) ?_
        refine own_lcmp X466 hx (hb hby d10_69) ?_
        refine own_join 78 #[.val (.ref f), .val (.ref a), .val (.long H), .second, .val (.long sp), .second, .val (.int ((((1 : Int32) &&& t0) &&& t1) &&& t2)), .val (.int 3), .val (.long b3), .second, .val (.int (own_ix b3)), .val (.long (own_fl b3)), .second] [(.int t3), (.int ((((1 : Int32) &&& t0) &&& t1) &&& t2))] ?_ fun hJ3 => ?_
        · skip
          refine own_iand X466 hx (hb hby d10_78) ?_
          refine own_istore (l' := #[.val (.ref f), .val (.ref a), .val (.long H), .second, .val (.long sp), .second, .val (.int (((((1 : Int32) &&& t0) &&& t1) &&& t2) &&& t3)), .val (.int 3), .val (.long b3), .second, .val (.int (own_ix b3)), .val (.long (own_fl b3)), .second]) X466 hx (hb hby d10_79) rfl ?_
          refine own_aloadN X466 hx (hb hby d10_81) rfl rfl ?_
          refine own_getF X466 hx hZ hown (host := "") (Or.inl (own_m hw 55 rfl)) Via.refl e466 (Fld.other W464 (Fld.other W460 (Fld.other W456 Fw (Or.inl (ne_exa Ef Ew (by decide)))) (Or.inl (ne_exa Ef Ew (by decide)))) (Or.inl (ne_exa Ef Ew (by decide)))) (hb hby d10_82) fun T467 X467 e467 => ?_
          refine own_iload X467 hx (hb hby d10_85) rfl ?_
          refine own_dup2 X467 hx (hb hby d10_87) rfl rfl ?_
          refine own_laload X467 hx hZ (.long (own_gt xs3 b3)) e467 V464 hj3 (own_getJ xs3 b3) (hb hby d10_88) ?_
          refine own_lload X467 hx (hb hby d10_89) rfl ?_
          refine own_lor X467 hx (hb hby d10_91) ?_
          refine own_stJ (vs' := (List.map Value.long xs4)) (w := (.long ((own_gt xs3 b3) ||| (own_fl b3)))) X467 hx hZ e467 V464 hj3 (own_ix b3).toNatClampNeg rfl (by rw [List.length_map]; exact hl3) rfl (own_setJ hs3) (hb hby d10_92) fun T468 h468 X468 e468 W468 V468 => ?_
          have N468 := Fr.snoc X468 N464 g_w
          refine own_iinc (l' := #[.val (.ref f), .val (.ref a), .val (.long H), .second, .val (.long sp), .second, .val (.int (((((1 : Int32) &&& t0) &&& t1) &&& t2) &&& t3)), .val (.int ((3 : Int32) + (1 : Int32))), .val (.long b3), .second, .val (.int (own_ix b3)), .val (.long (own_fl b3)), .second]) X468 hx (hb hby d10_93) rfl rfl ?_
          rw [show ((3 : Int32) + (1 : Int32)) = (4 : Int32) from by decide]
          refine own_goto X468 hx 19 (hb hby d10_96) (by decide) (by decide) ?_
          refine own_iload X468 hx (hb hby d10_19) rfl ?_
          refine own_bipush X468 hx 8 (hb hby d10_21) rfl ?_
          refine own_icmpNo X468 hx (hb hby d10_23) (tlt (by decide : (4 : Int32) < (8 : Int32))).2.1 ?_
          refine own_lloadN X468 hx (hb hby d10_26) rfl ?_
          refine own_iload X468 hx (hb hby d10_27) rfl ?_
          refine own_i2l X468 hx (hb hby d10_29) ?_
          refine own_lload X468 hx (hb hby d10_30) rfl ?_
          refine own_lmul X468 hx (hb hby d10_32) ?_
          refine own_ladd X468 hx (hb hby d10_33) ?_
          refine own_aloadN X468 hx (hb hby d10_34) rfl rfl ?_
          refine own_getF X468 hx hZ hown (host := "") (Or.inl (own_m hw 57 rfl)) Via.refl e468 (Fld.other W468 (Fld.other W464 (Fld.other W460 (Fld.other W456 Fm (Or.inl (ne_exa Ef Ew (by decide)))) (Or.inl (ne_exa Ef Ew (by decide)))) (Or.inl (ne_exa Ef Ew (by decide)))) (Or.inl (ne_exa Ef Ew (by decide)))) (hb hby d10_35) fun T469 X469 e469 => ?_
          refine own_land X469 hx (hb hby d10_38) ?_
          rw [hb4]
          refine own_lstore (l' := #[.val (.ref f), .val (.ref a), .val (.long H), .second, .val (.long sp), .second, .val (.int (((((1 : Int32) &&& t0) &&& t1) &&& t2) &&& t3)), .val (.int 4), .val (.long b4), .second, .val (.int (own_ix b3)), .val (.long (own_fl b3)), .second]) X469 hx (hb hby d10_39) rfl ?_
          refine own_lload X469 hx (hb hby d10_41) rfl ?_
          refine own_bipush X469 hx 6 (hb hby d10_43) rfl ?_
          refine own_lushr X469 hx (hb hby d10_45) ?_
          refine own_l2i X469 hx (hb hby d10_46) ?_
          rw [show (((b4.toUInt64 >>> ((6 : Int32) &&& 0x3f).toInt64.toUInt64).toInt64).toInt32) = own_ix b4 from rfl]
          refine own_istore (l' := #[.val (.ref f), .val (.ref a), .val (.long H), .second, .val (.long sp), .second, .val (.int (((((1 : Int32) &&& t0) &&& t1) &&& t2) &&& t3)), .val (.int 4), .val (.long b4), .second, .val (.int (own_ix b4)), .val (.long (own_fl b3)), .second]) X469 hx (hb hby d10_47) rfl ?_
          refine own_lconst1 X469 hx (hb hby d10_49) ?_
          refine own_lload X469 hx (hb hby d10_50) rfl ?_
          refine own_l2i X469 hx (hb hby d10_52) ?_
          refine own_lshl X469 hx (hb hby d10_53) ?_
          rw [show ((1 : Int64) <<< ((b4.toInt32) &&& 0x3f).toInt64) = own_fl b4 from rfl]
          refine own_lstore (l' := #[.val (.ref f), .val (.ref a), .val (.long H), .second, .val (.long sp), .second, .val (.int (((((1 : Int32) &&& t0) &&& t1) &&& t2) &&& t3)), .val (.int 4), .val (.long b4), .second, .val (.int (own_ix b4)), .val (.long (own_fl b4)), .second]) X469 hx (hb hby d10_54) rfl ?_
          refine own_iload X469 hx (hb hby d10_56) rfl ?_
          refine own_aloadN X469 hx (hb hby d10_58) rfl rfl ?_
          refine own_getF X469 hx hZ hown (host := "") (Or.inl (own_m hw 55 rfl)) Via.refl e469 (Fld.other W468 (Fld.other W464 (Fld.other W460 (Fld.other W456 Fw (Or.inl (ne_exa Ef Ew (by decide)))) (Or.inl (ne_exa Ef Ew (by decide)))) (Or.inl (ne_exa Ef Ew (by decide)))) (Or.inl (ne_exa Ef Ew (by decide)))) (hb hby d10_59) fun T470 X470 e470 => ?_
          refine own_iload X470 hx (hb hby d10_62) rfl ?_
          refine own_laload X470 hx hZ (.long (own_gt xs4 b4)) e470 V468 hj4 (own_getJ xs4 b4) (hb hby d10_64) ?_
          refine own_lload X470 hx (hb hby d10_65) rfl ?_
          refine own_land X470 hx (hb hby d10_67) ?_
          refine own_lconst0 X470 hx (hb hby d10_68) ?_
          refine own_lcmp X470 hx (hb hby d10_69) ?_
          refine own_join 78 #[.val (.ref f), .val (.ref a), .val (.long H), .second, .val (.long sp), .second, .val (.int (((((1 : Int32) &&& t0) &&& t1) &&& t2) &&& t3)), .val (.int 4), .val (.long b4), .second, .val (.int (own_ix b4)), .val (.long (own_fl b4)), .second] [(.int t4), (.int (((((1 : Int32) &&& t0) &&& t1) &&& t2) &&& t3))] ?_ fun hJ4 => ?_
          · skip
            refine own_iand X470 hx (hb hby d10_78) ?_
            refine own_istore (l' := #[.val (.ref f), .val (.ref a), .val (.long H), .second, .val (.long sp), .second, .val (.int ((((((1 : Int32) &&& t0) &&& t1) &&& t2) &&& t3) &&& t4)), .val (.int 4), .val (.long b4), .second, .val (.int (own_ix b4)), .val (.long (own_fl b4)), .second]) X470 hx (hb hby d10_79) rfl ?_
            refine own_aloadN X470 hx (hb hby d10_81) rfl rfl ?_
            refine own_getF X470 hx hZ hown (host := "") (Or.inl (own_m hw 55 rfl)) Via.refl e470 (Fld.other W468 (Fld.other W464 (Fld.other W460 (Fld.other W456 Fw (Or.inl (ne_exa Ef Ew (by decide)))) (Or.inl (ne_exa Ef Ew (by decide)))) (Or.inl (ne_exa Ef Ew (by decide)))) (Or.inl (ne_exa Ef Ew (by decide)))) (hb hby d10_82) fun T471 X471 e471 => ?_
            refine own_iload X471 hx (hb hby d10_85) rfl ?_
            refine own_dup2 X471 hx (hb hby d10_87) rfl rfl ?_
            refine own_laload X471 hx hZ (.long (own_gt xs4 b4)) e471 V468 hj4 (own_getJ xs4 b4) (hb hby d10_88) ?_
            refine own_lload X471 hx (hb hby d10_89) rfl ?_
            refine own_lor X471 hx (hb hby d10_91) ?_
            refine own_stJ (vs' := (List.map Value.long xs5)) (w := (.long ((own_gt xs4 b4) ||| (own_fl b4)))) X471 hx hZ e471 V468 hj4 (own_ix b4).toNatClampNeg rfl (by rw [List.length_map]; exact hl4) rfl (own_setJ hs4) (hb hby d10_92) fun T472 h472 X472 e472 W472 V472 => ?_
            have N472 := Fr.snoc X472 N468 g_w
            refine own_iinc (l' := #[.val (.ref f), .val (.ref a), .val (.long H), .second, .val (.long sp), .second, .val (.int ((((((1 : Int32) &&& t0) &&& t1) &&& t2) &&& t3) &&& t4)), .val (.int ((4 : Int32) + (1 : Int32))), .val (.long b4), .second, .val (.int (own_ix b4)), .val (.long (own_fl b4)), .second]) X472 hx (hb hby d10_93) rfl rfl ?_
            rw [show ((4 : Int32) + (1 : Int32)) = (5 : Int32) from by decide]
            refine own_goto X472 hx 19 (hb hby d10_96) (by decide) (by decide) ?_
            refine own_iload X472 hx (hb hby d10_19) rfl ?_
            refine own_bipush X472 hx 8 (hb hby d10_21) rfl ?_
            refine own_icmpNo X472 hx (hb hby d10_23) (tlt (by decide : (5 : Int32) < (8 : Int32))).2.1 ?_
            refine own_lloadN X472 hx (hb hby d10_26) rfl ?_
            refine own_iload X472 hx (hb hby d10_27) rfl ?_
            refine own_i2l X472 hx (hb hby d10_29) ?_
            refine own_lload X472 hx (hb hby d10_30) rfl ?_
            refine own_lmul X472 hx (hb hby d10_32) ?_
            refine own_ladd X472 hx (hb hby d10_33) ?_
            refine own_aloadN X472 hx (hb hby d10_34) rfl rfl ?_
            refine own_getF X472 hx hZ hown (host := "") (Or.inl (own_m hw 57 rfl)) Via.refl e472 (Fld.other W472 (Fld.other W468 (Fld.other W464 (Fld.other W460 (Fld.other W456 Fm (Or.inl (ne_exa Ef Ew (by decide)))) (Or.inl (ne_exa Ef Ew (by decide)))) (Or.inl (ne_exa Ef Ew (by decide)))) (Or.inl (ne_exa Ef Ew (by decide)))) (Or.inl (ne_exa Ef Ew (by decide)))) (hb hby d10_35) fun T473 X473 e473 => ?_
            refine own_land X473 hx (hb hby d10_38) ?_
            rw [hb5]
            refine own_lstore (l' := #[.val (.ref f), .val (.ref a), .val (.long H), .second, .val (.long sp), .second, .val (.int ((((((1 : Int32) &&& t0) &&& t1) &&& t2) &&& t3) &&& t4)), .val (.int 5), .val (.long b5), .second, .val (.int (own_ix b4)), .val (.long (own_fl b4)), .second]) X473 hx (hb hby d10_39) rfl ?_
            refine own_lload X473 hx (hb hby d10_41) rfl ?_
            refine own_bipush X473 hx 6 (hb hby d10_43) rfl ?_
            refine own_lushr X473 hx (hb hby d10_45) ?_
            refine own_l2i X473 hx (hb hby d10_46) ?_
            rw [show (((b5.toUInt64 >>> ((6 : Int32) &&& 0x3f).toInt64.toUInt64).toInt64).toInt32) = own_ix b5 from rfl]
            refine own_istore (l' := #[.val (.ref f), .val (.ref a), .val (.long H), .second, .val (.long sp), .second, .val (.int ((((((1 : Int32) &&& t0) &&& t1) &&& t2) &&& t3) &&& t4)), .val (.int 5), .val (.long b5), .second, .val (.int (own_ix b5)), .val (.long (own_fl b4)), .second]) X473 hx (hb hby d10_47) rfl ?_
            refine own_lconst1 X473 hx (hb hby d10_49) ?_
            refine own_lload X473 hx (hb hby d10_50) rfl ?_
            refine own_l2i X473 hx (hb hby d10_52) ?_
            refine own_lshl X473 hx (hb hby d10_53) ?_
            rw [show ((1 : Int64) <<< ((b5.toInt32) &&& 0x3f).toInt64) = own_fl b5 from rfl]
            refine own_lstore (l' := #[.val (.ref f), .val (.ref a), .val (.long H), .second, .val (.long sp), .second, .val (.int ((((((1 : Int32) &&& t0) &&& t1) &&& t2) &&& t3) &&& t4)), .val (.int 5), .val (.long b5), .second, .val (.int (own_ix b5)), .val (.long (own_fl b5)), .second]) X473 hx (hb hby d10_54) rfl ?_
            refine own_iload X473 hx (hb hby d10_56) rfl ?_
            refine own_aloadN X473 hx (hb hby d10_58) rfl rfl ?_
            refine own_getF X473 hx hZ hown (host := "") (Or.inl (own_m hw 55 rfl)) Via.refl e473 (Fld.other W472 (Fld.other W468 (Fld.other W464 (Fld.other W460 (Fld.other W456 Fw (Or.inl (ne_exa Ef Ew (by decide)))) (Or.inl (ne_exa Ef Ew (by decide)))) (Or.inl (ne_exa Ef Ew (by decide)))) (Or.inl (ne_exa Ef Ew (by decide)))) (Or.inl (ne_exa Ef Ew (by decide)))) (hb hby d10_59) fun T474 X474 e474 => ?_
            refine own_iload X474 hx (hb hby d10_62) rfl ?_
            refine own_laload X474 hx hZ (.long (own_gt xs5 b5)) e474 V472 hj5 (own_getJ xs5 b5) (hb hby d10_64) ?_
            refine own_lload X474 hx (hb hby d10_65) rfl ?_
            refine own_land X474 hx (hb hby d10_67) ?_
            refine own_lconst0 X474 hx (hb hby d10_68) ?_
            refine own_lcmp X474 hx (hb hby d10_69) ?_
            refine own_join 78 #[.val (.ref f), .val (.ref a), .val (.long H), .second, .val (.long sp), .second, .val (.int ((((((1 : Int32) &&& t0) &&& t1) &&& t2) &&& t3) &&& t4)), .val (.int 5), .val (.long b5), .second, .val (.int (own_ix b5)), .val (.long (own_fl b5)), .second] [(.int t5), (.int ((((((1 : Int32) &&& t0) &&& t1) &&& t2) &&& t3) &&& t4))] ?_ fun hJ5 => ?_
            · skip
              refine own_iand X474 hx (hb hby d10_78) ?_
              refine own_istore (l' := #[.val (.ref f), .val (.ref a), .val (.long H), .second, .val (.long sp), .second, .val (.int (((((((1 : Int32) &&& t0) &&& t1) &&& t2) &&& t3) &&& t4) &&& t5)), .val (.int 5), .val (.long b5), .second, .val (.int (own_ix b5)), .val (.long (own_fl b5)), .second]) X474 hx (hb hby d10_79) rfl ?_
              refine own_aloadN X474 hx (hb hby d10_81) rfl rfl ?_
              refine own_getF X474 hx hZ hown (host := "") (Or.inl (own_m hw 55 rfl)) Via.refl e474 (Fld.other W472 (Fld.other W468 (Fld.other W464 (Fld.other W460 (Fld.other W456 Fw (Or.inl (ne_exa Ef Ew (by decide)))) (Or.inl (ne_exa Ef Ew (by decide)))) (Or.inl (ne_exa Ef Ew (by decide)))) (Or.inl (ne_exa Ef Ew (by decide)))) (Or.inl (ne_exa Ef Ew (by decide)))) (hb hby d10_82) fun T475 X475 e475 => ?_
              refine own_iload X475 hx (hb hby d10_85) rfl ?_
              refine own_dup2 X475 hx (hb hby d10_87) rfl rfl ?_
              refine own_laload X475 hx hZ (.long (own_gt xs5 b5)) e475 V472 hj5 (own_getJ xs5 b5) (hb hby d10_88) ?_
              refine own_lload X475 hx (hb hby d10_89) rfl ?_
              refine own_lor X475 hx (hb hby d10_91) ?_
              refine own_stJ (vs' := (List.map Value.long xs6)) (w := (.long ((own_gt xs5 b5) ||| (own_fl b5)))) X475 hx hZ e475 V472 hj5 (own_ix b5).toNatClampNeg rfl (by rw [List.length_map]; exact hl5) rfl (own_setJ hs5) (hb hby d10_92) fun T476 h476 X476 e476 W476 V476 => ?_
              have N476 := Fr.snoc X476 N472 g_w
              refine own_iinc (l' := #[.val (.ref f), .val (.ref a), .val (.long H), .second, .val (.long sp), .second, .val (.int (((((((1 : Int32) &&& t0) &&& t1) &&& t2) &&& t3) &&& t4) &&& t5)), .val (.int ((5 : Int32) + (1 : Int32))), .val (.long b5), .second, .val (.int (own_ix b5)), .val (.long (own_fl b5)), .second]) X476 hx (hb hby d10_93) rfl rfl ?_
              rw [show ((5 : Int32) + (1 : Int32)) = (6 : Int32) from by decide]
              refine own_goto X476 hx 19 (hb hby d10_96) (by decide) (by decide) ?_
              refine own_iload X476 hx (hb hby d10_19) rfl ?_
              refine own_bipush X476 hx 8 (hb hby d10_21) rfl ?_
              refine own_icmpNo X476 hx (hb hby d10_23) (tlt (by decide : (6 : Int32) < (8 : Int32))).2.1 ?_
              refine own_lloadN X476 hx (hb hby d10_26) rfl ?_
              refine own_iload X476 hx (hb hby d10_27) rfl ?_
              refine own_i2l X476 hx (hb hby d10_29) ?_
              refine own_lload X476 hx (hb hby d10_30) rfl ?_
              refine own_lmul X476 hx (hb hby d10_32) ?_
              refine own_ladd X476 hx (hb hby d10_33) ?_
              refine own_aloadN X476 hx (hb hby d10_34) rfl rfl ?_
              refine own_getF X476 hx hZ hown (host := "") (Or.inl (own_m hw 57 rfl)) Via.refl e476 (Fld.other W476 (Fld.other W472 (Fld.other W468 (Fld.other W464 (Fld.other W460 (Fld.other W456 Fm (Or.inl (ne_exa Ef Ew (by decide)))) (Or.inl (ne_exa Ef Ew (by decide)))) (Or.inl (ne_exa Ef Ew (by decide)))) (Or.inl (ne_exa Ef Ew (by decide)))) (Or.inl (ne_exa Ef Ew (by decide)))) (Or.inl (ne_exa Ef Ew (by decide)))) (hb hby d10_35) fun T477 X477 e477 => ?_
              refine own_land X477 hx (hb hby d10_38) ?_
              rw [hb6]
              refine own_lstore (l' := #[.val (.ref f), .val (.ref a), .val (.long H), .second, .val (.long sp), .second, .val (.int (((((((1 : Int32) &&& t0) &&& t1) &&& t2) &&& t3) &&& t4) &&& t5)), .val (.int 6), .val (.long b6), .second, .val (.int (own_ix b5)), .val (.long (own_fl b5)), .second]) X477 hx (hb hby d10_39) rfl ?_
              refine own_lload X477 hx (hb hby d10_41) rfl ?_
              refine own_bipush X477 hx 6 (hb hby d10_43) rfl ?_
              refine own_lushr X477 hx (hb hby d10_45) ?_
              refine own_l2i X477 hx (hb hby d10_46) ?_
              rw [show (((b6.toUInt64 >>> ((6 : Int32) &&& 0x3f).toInt64.toUInt64).toInt64).toInt32) = own_ix b6 from rfl]
              refine own_istore (l' := #[.val (.ref f), .val (.ref a), .val (.long H), .second, .val (.long sp), .second, .val (.int (((((((1 : Int32) &&& t0) &&& t1) &&& t2) &&& t3) &&& t4) &&& t5)), .val (.int 6), .val (.long b6), .second, .val (.int (own_ix b6)), .val (.long (own_fl b5)), .second]) X477 hx (hb hby d10_47) rfl ?_
              refine own_lconst1 X477 hx (hb hby d10_49) ?_
              refine own_lload X477 hx (hb hby d10_50) rfl ?_
              refine own_l2i X477 hx (hb hby d10_52) ?_
              refine own_lshl X477 hx (hb hby d10_53) ?_
              rw [show ((1 : Int64) <<< ((b6.toInt32) &&& 0x3f).toInt64) = own_fl b6 from rfl]
              refine own_lstore (l' := #[.val (.ref f), .val (.ref a), .val (.long H), .second, .val (.long sp), .second, .val (.int (((((((1 : Int32) &&& t0) &&& t1) &&& t2) &&& t3) &&& t4) &&& t5)), .val (.int 6), .val (.long b6), .second, .val (.int (own_ix b6)), .val (.long (own_fl b6)), .second]) X477 hx (hb hby d10_54) rfl ?_
              refine own_iload X477 hx (hb hby d10_56) rfl ?_
              refine own_aloadN X477 hx (hb hby d10_58) rfl rfl ?_
              refine own_getF X477 hx hZ hown (host := "") (Or.inl (own_m hw 55 rfl)) Via.refl e477 (Fld.other W476 (Fld.other W472 (Fld.other W468 (Fld.other W464 (Fld.other W460 (Fld.other W456 Fw (Or.inl (ne_exa Ef Ew (by decide)))) (Or.inl (ne_exa Ef Ew (by decide)))) (Or.inl (ne_exa Ef Ew (by decide)))) (Or.inl (ne_exa Ef Ew (by decide)))) (Or.inl (ne_exa Ef Ew (by decide)))) (Or.inl (ne_exa Ef Ew (by decide)))) (hb hby d10_59) fun T478 X478 e478 => ?_
              refine own_iload X478 hx (hb hby d10_62) rfl ?_
              refine own_laload X478 hx hZ (.long (own_gt xs6 b6)) e478 V476 hj6 (own_getJ xs6 b6) (hb hby d10_64) ?_
              refine own_lload X478 hx (hb hby d10_65) rfl ?_
              refine own_land X478 hx (hb hby d10_67) ?_
              refine own_lconst0 X478 hx (hb hby d10_68) ?_
              refine own_lcmp X478 hx (hb hby d10_69) ?_
              refine own_join 78 #[.val (.ref f), .val (.ref a), .val (.long H), .second, .val (.long sp), .second, .val (.int (((((((1 : Int32) &&& t0) &&& t1) &&& t2) &&& t3) &&& t4) &&& t5)), .val (.int 6), .val (.long b6), .second, .val (.int (own_ix b6)), .val (.long (own_fl b6)), .second] [(.int t6), (.int (((((((1 : Int32) &&& t0) &&& t1) &&& t2) &&& t3) &&& t4) &&& t5))] ?_ fun hJ6 => ?_
              · skip
                refine own_iand X478 hx (hb hby d10_78) ?_
                refine own_istore (l' := #[.val (.ref f), .val (.ref a), .val (.long H), .second, .val (.long sp), .second, .val (.int ((((((((1 : Int32) &&& t0) &&& t1) &&& t2) &&& t3) &&& t4) &&& t5) &&& t6)), .val (.int 6), .val (.long b6), .second, .val (.int (own_ix b6)), .val (.long (own_fl b6)), .second]) X478 hx (hb hby d10_79) rfl ?_
                refine own_aloadN X478 hx (hb hby d10_81) rfl rfl ?_
                refine own_getF X478 hx hZ hown (host := "") (Or.inl (own_m hw 55 rfl)) Via.refl e478 (Fld.other W476 (Fld.other W472 (Fld.other W468 (Fld.other W464 (Fld.other W460 (Fld.other W456 Fw (Or.inl (ne_exa Ef Ew (by decide)))) (Or.inl (ne_exa Ef Ew (by decide)))) (Or.inl (ne_exa Ef Ew (by decide)))) (Or.inl (ne_exa Ef Ew (by decide)))) (Or.inl (ne_exa Ef Ew (by decide)))) (Or.inl (ne_exa Ef Ew (by decide)))) (hb hby d10_82) fun T479 X479 e479 => ?_
                refine own_iload X479 hx (hb hby d10_85) rfl ?_
                refine own_dup2 X479 hx (hb hby d10_87) rfl rfl ?_
                refine own_laload X479 hx hZ (.long (own_gt xs6 b6)) e479 V476 hj6 (own_getJ xs6 b6) (hb hby d10_88) ?_
                refine own_lload X479 hx (hb hby d10_89) rfl ?_
                refine own_lor X479 hx (hb hby d10_91) ?_
                refine own_stJ (vs' := (List.map Value.long xs7)) (w := (.long ((own_gt xs6 b6) ||| (own_fl b6)))) X479 hx hZ e479 V476 hj6 (own_ix b6).toNatClampNeg rfl (by rw [List.length_map]; exact hl6) rfl (own_setJ hs6) (hb hby d10_92) fun T480 h480 X480 e480 W480 V480 => ?_
                have N480 := Fr.snoc X480 N476 g_w
                refine own_iinc (l' := #[.val (.ref f), .val (.ref a), .val (.long H), .second, .val (.long sp), .second, .val (.int ((((((((1 : Int32) &&& t0) &&& t1) &&& t2) &&& t3) &&& t4) &&& t5) &&& t6)), .val (.int ((6 : Int32) + (1 : Int32))), .val (.long b6), .second, .val (.int (own_ix b6)), .val (.long (own_fl b6)), .second]) X480 hx (hb hby d10_93) rfl rfl ?_
                rw [show ((6 : Int32) + (1 : Int32)) = (7 : Int32) from by decide]
                refine own_goto X480 hx 19 (hb hby d10_96) (by decide) (by decide) ?_
                refine own_iload X480 hx (hb hby d10_19) rfl ?_
                refine own_bipush X480 hx 8 (hb hby d10_21) rfl ?_
                refine own_icmpNo X480 hx (hb hby d10_23) (tlt (by decide : (7 : Int32) < (8 : Int32))).2.1 ?_
                refine own_lloadN X480 hx (hb hby d10_26) rfl ?_
                refine own_iload X480 hx (hb hby d10_27) rfl ?_
                refine own_i2l X480 hx (hb hby d10_29) ?_
                refine own_lload X480 hx (hb hby d10_30) rfl ?_
                refine own_lmul X480 hx (hb hby d10_32) ?_
                refine own_ladd X480 hx (hb hby d10_33) ?_
                refine own_aloadN X480 hx (hb hby d10_34) rfl rfl ?_
                refine own_getF X480 hx hZ hown (host := "") (Or.inl (own_m hw 57 rfl)) Via.refl e480 (Fld.other W480 (Fld.other W476 (Fld.other W472 (Fld.other W468 (Fld.other W464 (Fld.other W460 (Fld.other W456 Fm (Or.inl (ne_exa Ef Ew (by decide)))) (Or.inl (ne_exa Ef Ew (by decide)))) (Or.inl (ne_exa Ef Ew (by decide)))) (Or.inl (ne_exa Ef Ew (by decide)))) (Or.inl (ne_exa Ef Ew (by decide)))) (Or.inl (ne_exa Ef Ew (by decide)))) (Or.inl (ne_exa Ef Ew (by decide)))) (hb hby d10_35) fun T481 X481 e481 => ?_
                refine own_land X481 hx (hb hby d10_38) ?_
                rw [hb7]
                refine own_lstore (l' := #[.val (.ref f), .val (.ref a), .val (.long H), .second, .val (.long sp), .second, .val (.int ((((((((1 : Int32) &&& t0) &&& t1) &&& t2) &&& t3) &&& t4) &&& t5) &&& t6)), .val (.int 7), .val (.long b7), .second, .val (.int (own_ix b6)), .val (.long (own_fl b6)), .second]) X481 hx (hb hby d10_39) rfl ?_
                refine own_lload X481 hx (hb hby d10_41) rfl ?_
                refine own_bipush X481 hx 6 (hb hby d10_43) rfl ?_
                refine own_lushr X481 hx (hb hby d10_45) ?_
                refine own_l2i X481 hx (hb hby d10_46) ?_
                rw [show (((b7.toUInt64 >>> ((6 : Int32) &&& 0x3f).toInt64.toUInt64).toInt64).toInt32) = own_ix b7 from rfl]
                refine own_istore (l' := #[.val (.ref f), .val (.ref a), .val (.long H), .second, .val (.long sp), .second, .val (.int ((((((((1 : Int32) &&& t0) &&& t1) &&& t2) &&& t3) &&& t4) &&& t5) &&& t6)), .val (.int 7), .val (.long b7), .second, .val (.int (own_ix b7)), .val (.long (own_fl b6)), .second]) X481 hx (hb hby d10_47) rfl ?_
                refine own_lconst1 X481 hx (hb hby d10_49) ?_
                refine own_lload X481 hx (hb hby d10_50) rfl ?_
                refine own_l2i X481 hx (hb hby d10_52) ?_
                refine own_lshl X481 hx (hb hby d10_53) ?_
                rw [show ((1 : Int64) <<< ((b7.toInt32) &&& 0x3f).toInt64) = own_fl b7 from rfl]
                refine own_lstore (l' := #[.val (.ref f), .val (.ref a), .val (.long H), .second, .val (.long sp), .second, .val (.int ((((((((1 : Int32) &&& t0) &&& t1) &&& t2) &&& t3) &&& t4) &&& t5) &&& t6)), .val (.int 7), .val (.long b7), .second, .val (.int (own_ix b7)), .val (.long (own_fl b7)), .second]) X481 hx (hb hby d10_54) rfl ?_
                refine own_iload X481 hx (hb hby d10_56) rfl ?_
                refine own_aloadN X481 hx (hb hby d10_58) rfl rfl ?_
                refine own_getF X481 hx hZ hown (host := "") (Or.inl (own_m hw 55 rfl)) Via.refl e481 (Fld.other W480 (Fld.other W476 (Fld.other W472 (Fld.other W468 (Fld.other W464 (Fld.other W460 (Fld.other W456 Fw (Or.inl (ne_exa Ef Ew (by decide)))) (Or.inl (ne_exa Ef Ew (by decide)))) (Or.inl (ne_exa Ef Ew (by decide)))) (Or.inl (ne_exa Ef Ew (by decide)))) (Or.inl (ne_exa Ef Ew (by decide)))) (Or.inl (ne_exa Ef Ew (by decide)))) (Or.inl (ne_exa Ef Ew (by decide)))) (hb hby d10_59) fun T482 X482 e482 => ?_
                refine own_iload X482 hx (hb hby d10_62) rfl ?_
                refine own_laload X482 hx hZ (.long (own_gt xs7 b7)) e482 V480 hj7 (own_getJ xs7 b7) (hb hby d10_64) ?_
                refine own_lload X482 hx (hb hby d10_65) rfl ?_
                refine own_land X482 hx (hb hby d10_67) ?_
                refine own_lconst0 X482 hx (hb hby d10_68) ?_
                refine own_lcmp X482 hx (hb hby d10_69) ?_
                refine own_join 78 #[.val (.ref f), .val (.ref a), .val (.long H), .second, .val (.long sp), .second, .val (.int ((((((((1 : Int32) &&& t0) &&& t1) &&& t2) &&& t3) &&& t4) &&& t5) &&& t6)), .val (.int 7), .val (.long b7), .second, .val (.int (own_ix b7)), .val (.long (own_fl b7)), .second] [(.int t7), (.int ((((((((1 : Int32) &&& t0) &&& t1) &&& t2) &&& t3) &&& t4) &&& t5) &&& t6))] ?_ fun hJ7 => ?_
                · skip
                  refine own_iand X482 hx (hb hby d10_78) ?_
                  refine own_istore (l' := #[.val (.ref f), .val (.ref a), .val (.long H), .second, .val (.long sp), .second, .val (.int (((((((((1 : Int32) &&& t0) &&& t1) &&& t2) &&& t3) &&& t4) &&& t5) &&& t6) &&& t7)), .val (.int 7), .val (.long b7), .second, .val (.int (own_ix b7)), .val (.long (own_fl b7)), .second]) X482 hx (hb hby d10_79) rfl ?_
                  refine own_aloadN X482 hx (hb hby d10_81) rfl rfl ?_
                  refine own_getF X482 hx hZ hown (host := "") (Or.inl (own_m hw 55 rfl)) Via.refl e482 (Fld.other W480 (Fld.other W476 (Fld.other W472 (Fld.other W468 (Fld.other W464 (Fld.other W460 (Fld.other W456 Fw (Or.inl (ne_exa Ef Ew (by decide)))) (Or.inl (ne_exa Ef Ew (by decide)))) (Or.inl (ne_exa Ef Ew (by decide)))) (Or.inl (ne_exa Ef Ew (by decide)))) (Or.inl (ne_exa Ef Ew (by decide)))) (Or.inl (ne_exa Ef Ew (by decide)))) (Or.inl (ne_exa Ef Ew (by decide)))) (hb hby d10_82) fun T483 X483 e483 => ?_
                  refine own_iload X483 hx (hb hby d10_85) rfl ?_
                  refine own_dup2 X483 hx (hb hby d10_87) rfl rfl ?_
                  refine own_laload X483 hx hZ (.long (own_gt xs7 b7)) e483 V480 hj7 (own_getJ xs7 b7) (hb hby d10_88) ?_
                  refine own_lload X483 hx (hb hby d10_89) rfl ?_
                  refine own_lor X483 hx (hb hby d10_91) ?_
                  refine own_stJ (vs' := (List.map Value.long xs8)) (w := (.long ((own_gt xs7 b7) ||| (own_fl b7)))) X483 hx hZ e483 V480 hj7 (own_ix b7).toNatClampNeg rfl (by rw [List.length_map]; exact hl7) rfl (own_setJ hs7) (hb hby d10_92) fun T484 h484 X484 e484 W484 V484 => ?_
                  have N484 := Fr.snoc X484 N480 g_w
                  refine own_iinc (l' := #[.val (.ref f), .val (.ref a), .val (.long H), .second, .val (.long sp), .second, .val (.int (((((((((1 : Int32) &&& t0) &&& t1) &&& t2) &&& t3) &&& t4) &&& t5) &&& t6) &&& t7)), .val (.int ((7 : Int32) + (1 : Int32))), .val (.long b7), .second, .val (.int (own_ix b7)), .val (.long (own_fl b7)), .second]) X484 hx (hb hby d10_93) rfl rfl ?_
                  rw [show ((7 : Int32) + (1 : Int32)) = (8 : Int32) from by decide]
                  refine own_goto X484 hx 19 (hb hby d10_96) (by decide) (by decide) ?_
                  refine own_iload X484 hx (hb hby d10_19) rfl ?_
                  refine own_bipush X484 hx 8 (hb hby d10_21) rfl ?_
                  refine own_icmpYes X484 hx 99 (hb hby d10_23) (flt (by decide : ¬ ((8 : Int32) < (8 : Int32)))).2.1 (by decide) (by decide) ?_
                  refine own_iload X484 hx (hb hby d10_99) rfl ?_
                  by_cases hc485 : (((((((((1 : Int32) &&& t0) &&& t1) &&& t2) &&& t3) &&& t4) &&& t5) &&& t6) &&& t7) = (0 : Int32)
                  · refine own_ifNo X484 hx (hb hby d10_101) (teq hc485).2 ?_
                    refine own_iconst X484 hx 1 (hb hby d10_104) rfl ?_
                    refine own_goto X484 hx 109 (hb hby d10_105) (by decide) (by decide) ?_
                    refine own_retN X484 hx hlk hret (by simp) (by decide) (hb hby d10_109) (own_kN (by decide) (by decide) ?_)
                    try rw [e484]
                    exact ⟨congrArg (fun z => some (Value.int z)) (if_pos hc485).symm, N484, (Keep.wr (Keep.wr (Keep.wr (Keep.wr (Keep.wr (Keep.wr (Keep.wr (Keep.wr (Keep.refl h0 [w]) W456 (Or.inl (List.mem_of_getElem? (i := 0) rfl))) W460 (Or.inl (List.mem_of_getElem? (i := 0) rfl))) W464 (Or.inl (List.mem_of_getElem? (i := 0) rfl))) W468 (Or.inl (List.mem_of_getElem? (i := 0) rfl))) W472 (Or.inl (List.mem_of_getElem? (i := 0) rfl))) W476 (Or.inl (List.mem_of_getElem? (i := 0) rfl))) W480 (Or.inl (List.mem_of_getElem? (i := 0) rfl))) W484 (Or.inl (List.mem_of_getElem? (i := 0) rfl))), V484⟩
                  · refine own_ifYes X484 hx 108 (hb hby d10_101) (feq hc485).2 (by decide) (by decide) ?_
                    refine own_iconst X484 hx 0 (hb hby d10_108) rfl ?_
                    refine own_retN X484 hx hlk hret (by simp) (by decide) (hb hby d10_109) (own_kN (by decide) (by decide) ?_)
                    try rw [e484]
                    exact ⟨congrArg (fun z => some (Value.int z)) (if_neg hc485).symm, N484, (Keep.wr (Keep.wr (Keep.wr (Keep.wr (Keep.wr (Keep.wr (Keep.wr (Keep.wr (Keep.refl h0 [w]) W456 (Or.inl (List.mem_of_getElem? (i := 0) rfl))) W460 (Or.inl (List.mem_of_getElem? (i := 0) rfl))) W464 (Or.inl (List.mem_of_getElem? (i := 0) rfl))) W468 (Or.inl (List.mem_of_getElem? (i := 0) rfl))) W472 (Or.inl (List.mem_of_getElem? (i := 0) rfl))) W476 (Or.inl (List.mem_of_getElem? (i := 0) rfl))) W480 (Or.inl (List.mem_of_getElem? (i := 0) rfl))) W484 (Or.inl (List.mem_of_getElem? (i := 0) rfl))), V484⟩
                · skip
                  by_cases hc486 : ((own_gt xs7 b7) &&& (own_fl b7)) = (0 : Int64)
                  · refine own_ifYes X482 hx 77 (hb hby d10_70) (teq ((lw_eq ((own_gt xs7 b7) &&& (own_fl b7)) (0 : Int64)).mpr hc486)).1 (by decide) (by decide) ?_
                    refine own_iconst X482 hx 0 (hb hby d10_77) rfl ?_
                    exact own_tc (ht7.symm.trans (own_tt0 hc486)) hJ7
                  · refine own_ifNo X482 hx (hb hby d10_70) (feq (fun q => hc486 ((lw_eq ((own_gt xs7 b7) &&& (own_fl b7)) (0 : Int64)).mp q))).1 ?_
                    refine own_iconst X482 hx 1 (hb hby d10_73) rfl ?_
                    refine own_goto X482 hx 78 (hb hby d10_74) (by decide) (by decide) ?_
                    exact own_tc (ht7.symm.trans (own_tt1 hc486)) hJ7
              · skip
                by_cases hc487 : ((own_gt xs6 b6) &&& (own_fl b6)) = (0 : Int64)
                · refine own_ifYes X478 hx 77 (hb hby d10_70) (teq ((lw_eq ((own_gt xs6 b6) &&& (own_fl b6)) (0 : Int64)).mpr hc487)).1 (by decide) (by decide) ?_
                  refine own_iconst X478 hx 0 (hb hby d10_77) rfl ?_
                  exact own_tc (ht6.symm.trans (own_tt0 hc487)) hJ6
                · refine own_ifNo X478 hx (hb hby d10_70) (feq (fun q => hc487 ((lw_eq ((own_gt xs6 b6) &&& (own_fl b6)) (0 : Int64)).mp q))).1 ?_
                  refine own_iconst X478 hx 1 (hb hby d10_73) rfl ?_
                  refine own_goto X478 hx 78 (hb hby d10_74) (by decide) (by decide) ?_
                  exact own_tc (ht6.symm.trans (own_tt1 hc487)) hJ6
            · skip
              by_cases hc488 : ((own_gt xs5 b5) &&& (own_fl b5)) = (0 : Int64)
              · refine own_ifYes X474 hx 77 (hb hby d10_70) (teq ((lw_eq ((own_gt xs5 b5) &&& (own_fl b5)) (0 : Int64)).mpr hc488)).1 (by decide) (by decide) ?_
                refine own_iconst X474 hx 0 (hb hby d10_77) rfl ?_
                exact own_tc (ht5.symm.trans (own_tt0 hc488)) hJ5
              · refine own_ifNo X474 hx (hb hby d10_70) (feq (fun q => hc488 ((lw_eq ((own_gt xs5 b5) &&& (own_fl b5)) (0 : Int64)).mp q))).1 ?_
                refine own_iconst X474 hx 1 (hb hby d10_73) rfl ?_
                refine own_goto X474 hx 78 (hb hby d10_74) (by decide) (by decide) ?_
                exact own_tc (ht5.symm.trans (own_tt1 hc488)) hJ5
          · skip
            by_cases hc489 : ((own_gt xs4 b4) &&& (own_fl b4)) = (0 : Int64)
            · refine own_ifYes X470 hx 77 (hb hby d10_70) (teq ((lw_eq ((own_gt xs4 b4) &&& (own_fl b4)) (0 : Int64)).mpr hc489)).1 (by decide) (by decide) ?_
              refine own_iconst X470 hx 0 (hb hby d10_77) rfl ?_
              exact own_tc (ht4.symm.trans (own_tt0 hc489)) hJ4
            · refine own_ifNo X470 hx (hb hby d10_70) (feq (fun q => hc489 ((lw_eq ((own_gt xs4 b4) &&& (own_fl b4)) (0 : Int64)).mp q))).1 ?_
              refine own_iconst X470 hx 1 (hb hby d10_73) rfl ?_
              refine own_goto X470 hx 78 (hb hby d10_74) (by decide) (by decide) ?_
              exact own_tc (ht4.symm.trans (own_tt1 hc489)) hJ4
        · skip
          by_cases hc490 : ((own_gt xs3 b3) &&& (own_fl b3)) = (0 : Int64)
          · refine own_ifYes X466 hx 77 (hb hby d10_70) (teq ((lw_eq ((own_gt xs3 b3) &&& (own_fl b3)) (0 : Int64)).mpr hc490)).1 (by decide) (by decide) ?_
            refine own_iconst X466 hx 0 (hb hby d10_77) rfl ?_
            exact own_tc (ht3.symm.trans (own_tt0 hc490)) hJ3
          · refine own_ifNo X466 hx (hb hby d10_70) (feq (fun q => hc490 ((lw_eq ((own_gt xs3 b3) &&& (own_fl b3)) (0 : Int64)).mp q))).1 ?_
            refine own_iconst X466 hx 1 (hb hby d10_73) rfl ?_
            refine own_goto X466 hx 78 (hb hby d10_74) (by decide) (by decide) ?_
            exact own_tc (ht3.symm.trans (own_tt1 hc490)) hJ3
      · skip
        by_cases hc491 : ((own_gt xs2 b2) &&& (own_fl b2)) = (0 : Int64)
        · refine own_ifYes X462 hx 77 (hb hby d10_70) (teq ((lw_eq ((own_gt xs2 b2) &&& (own_fl b2)) (0 : Int64)).mpr hc491)).1 (by decide) (by decide) ?_
          refine own_iconst X462 hx 0 (hb hby d10_77) rfl ?_
          exact own_tc (ht2.symm.trans (own_tt0 hc491)) hJ2
        · refine own_ifNo X462 hx (hb hby d10_70) (feq (fun q => hc491 ((lw_eq ((own_gt xs2 b2) &&& (own_fl b2)) (0 : Int64)).mp q))).1 ?_
          refine own_iconst X462 hx 1 (hb hby d10_73) rfl ?_
          refine own_goto X462 hx 78 (hb hby d10_74) (by decide) (by decide) ?_
          exact own_tc (ht2.symm.trans (own_tt1 hc491)) hJ2
    · skip
      by_cases hc492 : ((own_gt xs1 b1) &&& (own_fl b1)) = (0 : Int64)
      · refine own_ifYes X458 hx 77 (hb hby d10_70) (teq ((lw_eq ((own_gt xs1 b1) &&& (own_fl b1)) (0 : Int64)).mpr hc492)).1 (by decide) (by decide) ?_
        refine own_iconst X458 hx 0 (hb hby d10_77) rfl ?_
        exact own_tc (ht1.symm.trans (own_tt0 hc492)) hJ1
      · refine own_ifNo X458 hx (hb hby d10_70) (feq (fun q => hc492 ((lw_eq ((own_gt xs1 b1) &&& (own_fl b1)) (0 : Int64)).mp q))).1 ?_
        refine own_iconst X458 hx 1 (hb hby d10_73) rfl ?_
        refine own_goto X458 hx 78 (hb hby d10_74) (by decide) (by decide) ?_
        exact own_tc (ht1.symm.trans (own_tt1 hc492)) hJ1
  · skip
    by_cases hc493 : ((own_gt xs0 b0) &&& (own_fl b0)) = (0 : Int64)
    · refine own_ifYes X454 hx 77 (hb hby d10_70) (teq ((lw_eq ((own_gt xs0 b0) &&& (own_fl b0)) (0 : Int64)).mpr hc493)).1 (by decide) (by decide) ?_
      refine own_iconst X454 hx 0 (hb hby d10_77) rfl ?_
      exact own_tc (ht0.symm.trans (own_tt0 hc493)) hJ0
    · refine own_ifNo X454 hx (hb hby d10_70) (feq (fun q => hc493 ((lw_eq ((own_gt xs0 b0) &&& (own_fl b0)) (0 : Int64)).mp q))).1 ?_
      refine own_iconst X454 hx 1 (hb hby d10_73) rfl ?_
      refine own_goto X454 hx 78 (hb hby d10_74) (by decide) (by decide) ?_
      exact own_tc (ht0.symm.trans (own_tt1 hc493)) hJ0
def own_sp (H : Int64) : Int64 := (((H.toUInt64 >>> ((32 : Int32) &&& 0x3f).toInt64.toUInt64).toInt64) ||| (1 : Int64))
def own_bt (H mk : Int64) (k : Int32) : Int64 := ((H + ((k.toInt64) * own_sp H)) &&& mk)
def own_ads (H mk : Int64) (xs : List Int64) : List Int64 := (own_ad (own_ad (own_ad (own_ad (own_ad (own_ad (own_ad (own_ad xs (own_bt H mk (0 : Int32))) (own_bt H mk (1 : Int32))) (own_bt H mk (2 : Int32))) (own_bt H mk (3 : Int32))) (own_bt H mk (4 : Int32))) (own_bt H mk (5 : Int32))) (own_bt H mk (6 : Int32))) (own_bt H mk (7 : Int32)))
def own_hd (H mk : Int64) (xs : List Int64) : Int32 := (((((((((1 : Int32) &&& (own_tt (own_gt xs (own_bt H mk (0 : Int32))) (own_fl (own_bt H mk (0 : Int32))))) &&& (own_tt (own_gt (own_ad xs (own_bt H mk (0 : Int32))) (own_bt H mk (1 : Int32))) (own_fl (own_bt H mk (1 : Int32))))) &&& (own_tt (own_gt (own_ad (own_ad xs (own_bt H mk (0 : Int32))) (own_bt H mk (1 : Int32))) (own_bt H mk (2 : Int32))) (own_fl (own_bt H mk (2 : Int32))))) &&& (own_tt (own_gt (own_ad (own_ad (own_ad xs (own_bt H mk (0 : Int32))) (own_bt H mk (1 : Int32))) (own_bt H mk (2 : Int32))) (own_bt H mk (3 : Int32))) (own_fl (own_bt H mk (3 : Int32))))) &&& (own_tt (own_gt (own_ad (own_ad (own_ad (own_ad xs (own_bt H mk (0 : Int32))) (own_bt H mk (1 : Int32))) (own_bt H mk (2 : Int32))) (own_bt H mk (3 : Int32))) (own_bt H mk (4 : Int32))) (own_fl (own_bt H mk (4 : Int32))))) &&& (own_tt (own_gt (own_ad (own_ad (own_ad (own_ad (own_ad xs (own_bt H mk (0 : Int32))) (own_bt H mk (1 : Int32))) (own_bt H mk (2 : Int32))) (own_bt H mk (3 : Int32))) (own_bt H mk (4 : Int32))) (own_bt H mk (5 : Int32))) (own_fl (own_bt H mk (5 : Int32))))) &&& (own_tt (own_gt (own_ad (own_ad (own_ad (own_ad (own_ad (own_ad xs (own_bt H mk (0 : Int32))) (own_bt H mk (1 : Int32))) (own_bt H mk (2 : Int32))) (own_bt H mk (3 : Int32))) (own_bt H mk (4 : Int32))) (own_bt H mk (5 : Int32))) (own_bt H mk (6 : Int32))) (own_fl (own_bt H mk (6 : Int32))))) &&& (own_tt (own_gt (own_ad (own_ad (own_ad (own_ad (own_ad (own_ad (own_ad xs (own_bt H mk (0 : Int32))) (own_bt H mk (1 : Int32))) (own_bt H mk (2 : Int32))) (own_bt H mk (3 : Int32))) (own_bt H mk (4 : Int32))) (own_bt H mk (5 : Int32))) (own_bt H mk (6 : Int32))) (own_bt H mk (7 : Int32))) (own_fl (own_bt H mk (7 : Int32)))))
def own_has (xs : List Int64) (b : Int64) : Prop := ¬ ((own_gt xs b) &&& (own_fl b)) = (0 : Int64)
def own_HA (H mk : Int64) (xs : List Int64) : Prop := own_has xs (own_bt H mk (0 : Int32)) ∧ own_has xs (own_bt H mk (1 : Int32)) ∧ own_has xs (own_bt H mk (2 : Int32)) ∧ own_has xs (own_bt H mk (3 : Int32)) ∧ own_has xs (own_bt H mk (4 : Int32)) ∧ own_has xs (own_bt H mk (5 : Int32)) ∧ own_has xs (own_bt H mk (6 : Int32)) ∧ own_has xs (own_bt H mk (7 : Int32))
theorem own_lad (xs : List Int64) (b : Int64) : (own_ad xs b).length = xs.length := by rw [own_ad, List.length_set]
theorem own_lens (H mk : Int64) (xs : List Int64) : (own_ads H mk xs).length = xs.length := by simp only [own_ads, own_lad]
theorem own_fl0 : ∀ k : Nat, k < 64 → ¬ ((1 : Int64) <<< (Int32.ofNat k).toInt64) = (0 : Int64) := by decide
theorem own_flnz (b : Int64) : ¬ own_fl b = (0 : Int64) := by
  have m := c_mask (b.toInt32) 63 6 (by decide) (by decide)
  simp only [Nat.reducePow] at m
  have e : ((b.toInt32) &&& 0x3f) = Int32.ofNat (((b.toInt32) &&& 0x3f).toInt.toNat) := by
    rw [← Int32.toInt_inj, Int32.toInt_ofNat_of_lt (by omega)]
    omega
  unfold own_fl
  rw [e]
  exact own_fl0 _ (by omega)
theorem own_abs (g f : Int64) : ((g ||| f) &&& f) = f := by
  rw [← Int64.toBitVec_inj]
  simp only [Int64.toBitVec_and, Int64.toBitVec_or]
  ext i hi
  simp only [BitVec.getElem_and, BitVec.getElem_or]
  cases g.toBitVec[i] <;> cases f.toBitVec[i] <;> rfl
theorem own_z {g f f' : Int64} (q : ((g ||| f) &&& f') = (0 : Int64)) : (g &&& f') = (0 : Int64) := by
  rw [← Int64.toBitVec_inj] at q ⊢
  simp only [Int64.toBitVec_and, Int64.toBitVec_or, Int64.toBitVec_zero] at q ⊢
  ext i hi
  have q2 := congrArg (fun z : BitVec 64 => z.getLsbD i) q
  simp only [BitVec.getLsbD_and, BitVec.getLsbD_or, BitVec.getLsbD_zero] at q2
  simp only [← BitVec.getLsbD_eq_getElem, BitVec.getLsbD_and, BitVec.getLsbD_zero]
  revert q2
  cases g.toBitVec.getLsbD i <;> cases f.toBitVec.getLsbD i <;> cases f'.toBitVec.getLsbD i <;> simp
theorem own_h1 {xs : List Int64} {b : Int64} (h : (own_ix b).toNatClampNeg < xs.length) : own_has (own_ad xs b) b := by
  have e : own_gt (own_ad xs b) b = ((own_gt xs b) ||| (own_fl b)) := by
    rw [own_gt, own_ad, List.getD_eq_getElem?_getD, List.getElem?_set_self h]
    rfl
  unfold own_has
  rw [e, own_abs]
  exact own_flnz b
theorem own_h2 {xs : List Int64} {b b' : Int64} (h : own_has xs b') : own_has (own_ad xs b) b' := by
  have e : own_gt (own_ad xs b) b' = own_gt xs b' ∨ own_gt (own_ad xs b) b' = ((own_gt xs b') ||| (own_fl b)) := by
    by_cases e : (own_ix b).toNatClampNeg = (own_ix b').toNatClampNeg
    · by_cases hl : (own_ix b).toNatClampNeg < xs.length
      · right
        rw [own_gt, own_ad, ← e, List.getD_eq_getElem?_getD, List.getElem?_set_self hl, own_gt, own_gt, e]
        rfl
      · left
        rw [own_ad, List.set_eq_of_length_le (Nat.le_of_not_lt hl)]
    · left
      rw [own_gt, own_ad, List.getD_eq_getElem?_getD, List.getElem?_set_ne e, ← List.getD_eq_getElem?_getD]
      rfl
  unfold own_has at h ⊢
  rcases e with e | e
  · rw [e]; exact h
  · rw [e]; exact fun q => h (own_z q)
theorem own_hads {H mk b : Int64} {xs : List Int64} (h : own_has xs b) : own_has (own_ads H mk xs) b := (own_h2 (own_h2 (own_h2 (own_h2 (own_h2 (own_h2 (own_h2 (own_h2 h))))))))
theorem own_HAads {H H' mk : Int64} {xs : List Int64} (h : own_HA H mk xs) : own_HA H mk (own_ads H' mk xs) := by
  obtain ⟨h0, h1, h2, h3, h4, h5, h6, h7⟩ := h
  exact ⟨own_hads h0, own_hads h1, own_hads h2, own_hads h3, own_hads h4, own_hads h5, own_hads h6, own_hads h7⟩
theorem own_HAself {H mk : Int64} {xs : List Int64} (hl : ∀ h : Int64, (own_ix (h &&& mk)).toNatClampNeg < xs.length) : own_HA H mk (own_ads H mk xs) :=
  ⟨(own_h2 (own_h2 (own_h2 (own_h2 (own_h2 (own_h2 (own_h2 (own_h1 (by first | exact hl _ | (simp only [own_lad]; exact hl _)))))))))), (own_h2 (own_h2 (own_h2 (own_h2 (own_h2 (own_h2 (own_h1 (by first | exact hl _ | (simp only [own_lad]; exact hl _))))))))), (own_h2 (own_h2 (own_h2 (own_h2 (own_h2 (own_h1 (by first | exact hl _ | (simp only [own_lad]; exact hl _)))))))), (own_h2 (own_h2 (own_h2 (own_h2 (own_h1 (by first | exact hl _ | (simp only [own_lad]; exact hl _))))))), (own_h2 (own_h2 (own_h2 (own_h1 (by first | exact hl _ | (simp only [own_lad]; exact hl _)))))), (own_h2 (own_h2 (own_h1 (by first | exact hl _ | (simp only [own_lad]; exact hl _))))), (own_h2 (own_h1 (by first | exact hl _ | (simp only [own_lad]; exact hl _)))), (own_h1 (by first | exact hl _ | (simp only [own_lad]; exact hl _)))⟩
theorem own_nt0 {H mk : Int64} {xs : List Int64} (h : own_HA H mk xs) : own_nt (own_hd H mk xs) = (0 : Int32) := by
  obtain ⟨h0, h1, h2, h3, h4, h5, h6, h7⟩ := h
  unfold own_hd
  rw [own_tt1 h0, own_tt1 (own_h2 h1), own_tt1 (own_h2 (own_h2 h2)), own_tt1 (own_h2 (own_h2 (own_h2 h3))), own_tt1 (own_h2 (own_h2 (own_h2 (own_h2 h4)))), own_tt1 (own_h2 (own_h2 (own_h2 (own_h2 (own_h2 h5))))), own_tt1 (own_h2 (own_h2 (own_h2 (own_h2 (own_h2 (own_h2 h6)))))), own_tt1 (own_h2 (own_h2 (own_h2 (own_h2 (own_h2 (own_h2 (own_h2 h7)))))))]
  decide
theorem own_nt1 (H mk : Int64) (n : Nat) : own_nt (own_hd H mk (List.replicate n (0 : Int64))) = (1 : Int32) := by
  have e : own_gt (List.replicate n (0 : Int64)) (own_bt H mk (0 : Int32)) = (0 : Int64) := by
    rw [own_gt, List.getD_eq_getElem?_getD, List.getElem?_replicate]
    split <;> rfl
  unfold own_hd
  rw [own_tt0 (g := own_gt (List.replicate n (0 : Int64)) (own_bt H mk (0 : Int32))) (by rw [e]; simp), show ((1 : Int32) &&& (0 : Int32)) = 0 from by decide]
  simp only [Int32.zero_and]
  decide
theorem own_HA0 {H H' mk : Int64} {xs : List Int64} (hm : mk = (0 : Int64)) (h : own_HA H mk xs) : own_HA H' mk xs := by
  subst hm
  have e : ∀ (H : Int64) (k : Int32), own_bt H 0 k = 0 := fun H k => by simp [own_bt]
  have q := h.1
  rw [e] at q
  unfold own_HA
  simp only [e]
  exact ⟨q, q, q, q, q, q, q, q⟩
theorem own_hl {mk : Int64} {nw : Int32} {ys : List Int64} (hix : ∀ h : Int64, ¬ own_ix (h &&& mk) < (0 : Int32) ∧ own_ix (h &&& mk) < nw) (e : ys.length = nw.toNatClampNeg) (h : Int64) : (own_ix (h &&& mk)).toNatClampNeg < ys.length := by
  obtain ⟨q0, q1⟩ := hix h
  have a := nat_of q0
  have k0 : (0 : Int32).toInt = 0 := by decide
  rw [Int32.lt_iff_toInt_lt, k0] at q0
  rw [Int32.lt_iff_toInt_lt] at q1
  have b := nat_of (j := nw) (by rw [Int32.lt_iff_toInt_lt, k0]; omega)
  omega
theorem own_Add (l : Launch) (Z : State) (a0 : Array Value) (hw : ∀ d ∈ tables_1, d.before a0 Z = true) (f a b w : Addr) (kb kw : ClassId) (cs cd bl nw : Int32) (fm : Value) (bs : List Value) (H mk : Int64) (xs0 : List Int64) (hix : ∀ h : Int64, ¬ own_ix (h &&& mk) < (0 : Int32) ∧ own_ix (h &&& mk) < nw) (hln : xs0.length = nw.toNatClampNeg) (h0 : Heap) (n0 : Nat) (Z0 : n0 ≤ h0.size) (Sc : Sta Z h0 "java/lang/String" "COMPACT_STRINGS" "Z" (.int cs)) (hcs : ¬ (cs = (0 : Int32))) (Sad : Sta Z h0 "java/lang/StringUTF16" "$assertionsDisabled" "Z" (.int 1)) (Shi : Sta Z h0 "java/lang/StringUTF16" "HI_BYTE_SHIFT" "I" (.int 0)) (Slo : Sta Z h0 "java/lang/StringUTF16" "LO_BYTE_SHIFT" "I" (.int 8)) (Sf : Sta Z h0 "jdk/internal/util/Preconditions" "SIOOBE_FORMATTER" "Ljava/util/function/BiFunction;" fm) (hfm : fm.isRef = true) (Ea : Exa Z h0 a "java/lang/String") (Fv : Fld Z h0 a "java/lang/String" "value" "[B" (.ref b)) (Fc : Fld Z h0 a "java/lang/String" "coder" "B" (.int cd)) (Vb : Arv Z h0 b kb .byte bl bs (.int 0)) (hCH : own_CH l Z cs fm a b kb cd bl bs H) (Ef : Exa Z h0 f "com/example/vestline/vestline/cli/BloomFilter") (Fw : Fld Z h0 f "com/example/vestline/vestline/cli/BloomFilter" "words" "[J" (.ref w)) (Fm : Fld Z h0 f "com/example/vestline/vestline/cli/BloomFilter" "mask" "J" (.long mk)) (Ew : Exa Z h0 w "[J") (Vw : Arv Z h0 w kw .long nw (List.map Value.long xs0) (.long (0 : Int64))) (g_w : n0 ≤ w) :
    own_Met l (⟨"com/example/vestline/vestline/cli/BloomFilter", "add", "(Ljava/lang/String;)Z"⟩ : MethodName) prog_1_method_2_code 13 (some .boolean) [] ({ frames := 6, cells := 0, slots := 0, locals := 88 } : Room) Z #[(.ref f), (.ref a)] h0 (fun v h L => v = some (.int (own_nt (own_hd H mk xs0))) ∧ Fr n0 L ∧ Keep h0 h [w] ∧ Arv Z h w kw .long nw (List.map Value.long (own_ads H mk xs0)) (.long (0 : Int64))) :=
  rmAdd l Z a0 hw [] f a b w kb kw cs cd bl nw fm bs H mk _ _ _ _ _ _ _ _ _ _ _ _ _ _ _ _ _ _ _ _ _ _ _ _ _ _ h0 n0 Z0 Sc hcs Sad Shi Slo Sf hfm Ea Fv Fc Vb hCH Ef Fw Fm Ew Vw g_w rfl rfl rfl rfl rfl rfl rfl rfl rfl rfl rfl rfl rfl rfl rfl rfl rfl rfl rfl rfl rfl rfl rfl rfl rfl (hix _) (hix _) (hix _) (hix _) (hix _) (hix _) (hix _) (hix _) (own_hl hix (by first | exact hln | (simp only [own_lad]; exact hln)) _) (own_hl hix (by first | exact hln | (simp only [own_lad]; exact hln)) _) (own_hl hix (by first | exact hln | (simp only [own_lad]; exact hln)) _) (own_hl hix (by first | exact hln | (simp only [own_lad]; exact hln)) _) (own_hl hix (by first | exact hln | (simp only [own_lad]; exact hln)) _) (own_hl hix (by first | exact hln | (simp only [own_lad]; exact hln)) _) (own_hl hix (by first | exact hln | (simp only [own_lad]; exact hln)) _) (own_hl hix (by first | exact hln | (simp only [own_lad]; exact hln)) _)
theorem own_and15 : ∀ k : Nat, k < 16 → own_P2 ((1 : Int64) <<< ((Int32.ofNat k) &&& 0x3f).toInt64) := by decide
theorem own_p2 (p0 : Int32) : own_P2 ((1 : Int64) <<< ((p0 &&& (15 : Int32)) &&& 0x3f).toInt64) := by
  have m := c_mask p0 15 4 (by decide) (by decide)
  simp only [Nat.reducePow] at m
  have e : (p0 &&& (15 : Int32)) = Int32.ofNat ((p0 &&& (15 : Int32)).toInt.toNat) := by
    rw [← Int32.toInt_inj, Int32.toInt_ofNat_of_lt (by omega)]
    omega
  rw [e]
  exact own_and15 _ (by omega)
theorem pd_19 : parseMethodDescriptor "(III)Ljava/lang/String;" = some ⟨[.int, .int, .int], some (.object "java/lang/String")⟩ := by decide +kernel
theorem pd_20 : parseMethodDescriptor "(J)V" = some ⟨[.long], none⟩ := by decide +kernel
theorem pd_21 : parseMethodDescriptor "(Ljava/lang/String;)Z" = some ⟨[(.object "java/lang/String")], some .boolean⟩ := by decide +kernel
set_option maxRecDepth 65536 in
set_option maxHeartbeats 40000000 in
theorem rm0 (l : Launch) (Z : State) (a0 : Array Value) (hw : own_Wd a0 Z) (ws : List Jvm.Cond) (cs : Int32) (fm : Value) (p0 : Int32) (p1 : Int32) (p2 : Int32) (p3 : Int32) (p4 : Int32) (p5 : Int32) (h0 : Heap) (n0 : Nat) (Z0 : n0 ≤ h0.size) (Sc : Sta Z h0 "java/lang/String" "COMPACT_STRINGS" "Z" (.int cs)) (hcs : ¬ (cs = (0 : Int32))) (Sad : Sta Z h0 "java/lang/StringUTF16" "$assertionsDisabled" "Z" (.int 1)) (Shi : Sta Z h0 "java/lang/StringUTF16" "HI_BYTE_SHIFT" "I" (.int 0)) (Slo : Sta Z h0 "java/lang/StringUTF16" "LO_BYTE_SHIFT" "I" (.int 8)) (Sf : Sta Z h0 "jdk/internal/util/Preconditions" "SIOOBE_FORMATTER" "Ljava/util/function/BiFunction;" fm) (hfm : fm.isRef = true) :
    own_MetL l x code maxLocals ret ws room_1 Z own_EL #[(.int p0), (.int p1), (.int p2), (.int p3), (.int p4), (.int p5)] h0 (fun v h L => v = some (.int 1) ∧ Fr n0 L) := by
  refine own_bodyL (plainFor_of_name pn_5) ?_
  intro p e s m below meth c s₁ X0 hx hby hml hown hnm hret hlk hZ e0 hs0 CH0 hS0
  replace hown : (s.setVm s.vm).vm.findClass "com/example/vestline/vestline/cli/BloomFilterAddPinLaw" = some m.cls := hown
  replace hml : c.maxLocals = 23 := hml
  replace hret : meth.sig.returnType = (some .boolean) := hret
  have N0 := Fr.nil n0
  have hEL : EW Z a0 own_EL := own_ELw hw
  refine own_ef (L0 := #[.val (.int p0), .val (.int p1), .val (.int p2), .val (.int p3), .val (.int p4), .val (.int p5), .unset, .unset, .unset, .unset, .unset, .unset, .unset, .unset, .unset, .unset, .unset, .unset, .unset, .unset, .unset, .unset, .unset]) (by first | (simp [entryFrame, mkF, argsToLocals, Value.category, maxLocals]; done) | rfl) ?_
  refine own_lconst1 X0 hx (hb hby at_0) ?_
  refine own_iloadN X0 hx (hb hby at_1) rfl ?_
  refine own_bipush X0 hx 15 (hb hby at_2) rfl ?_
  refine own_iand X0 hx (hb hby at_4) ?_
  refine own_lshl X0 hx (hb hby at_5) ?_
  obtain ⟨x, hxe⟩ : ∃ x : Int64, ((1 : Int64) <<< ((p0 &&& (15 : Int32)) &&& 0x3f).toInt64) = x := ⟨_, rfl⟩
  have h2 : own_P2 x := hxe ▸ own_p2 p0
  rw [hxe]
  obtain ⟨mk, hmk⟩ : ∃ mk : Int64, (x - (1 : Int64)) = mk := ⟨_, rfl⟩
  obtain ⟨nw, hnw⟩ : ∃ nw : Int32, ((((x + (64 : Int64)) - (1 : Int64)) / (64 : Int64)).toInt32) = nw := ⟨_, rfl⟩
  have hix := own_ixb h2 hmk hnw
  have hz : (List.replicate nw.toNatClampNeg (0 : Int64)).length = nw.toNatClampNeg := List.length_replicate
  refine own_lstore (l' := #[.val (.int p0), .val (.int p1), .val (.int p2), .val (.int p3), .val (.int p4), .val (.int p5), .val (.long x), .second, .unset, .unset, .unset, .unset, .unset, .unset, .unset, .unset, .unset, .unset, .unset, .unset, .unset, .unset, .unset]) X0 hx (hb hby at_6) rfl ?_
  refine own_iload X0 hx (hb hby at_8) rfl ?_
  refine own_iconst X0 hx 3 (hb hby at_10) rfl ?_
  refine own_iand X0 hx (hb hby at_11) ?_
  refine own_istore (l' := #[.val (.int p0), .val (.int p1), .val (.int p2), .val (.int p3), .val (.int p4), .val (.int p5), .val (.long x), .second, .val (.int (p5 &&& (3 : Int32))), .unset, .unset, .unset, .unset, .unset, .unset, .unset, .unset, .unset, .unset, .unset, .unset, .unset, .unset]) X0 hx (hb hby at_12) rfl ?_
  refine own_iload X0 hx (hb hby at_14) rfl ?_
  refine own_iconst X0 hx 2 (hb hby at_16) rfl ?_
  refine own_iushr X0 hx (hb hby at_17) ?_
  refine own_iconst X0 hx 3 (hb hby at_18) rfl ?_
  refine own_iand X0 hx (hb hby at_19) ?_
  refine own_istore (l' := #[.val (.int p0), .val (.int p1), .val (.int p2), .val (.int p3), .val (.int p4), .val (.int p5), .val (.long x), .second, .val (.int (p5 &&& (3 : Int32))), .val (.int (((p5.toUInt32 >>> ((2 : Int32) &&& 31).toUInt32).toInt32) &&& (3 : Int32))), .unset, .unset, .unset, .unset, .unset, .unset, .unset, .unset, .unset, .unset, .unset, .unset, .unset]) X0 hx (hb hby at_20) rfl ?_
  refine own_iload X0 hx (hb hby at_22) rfl ?_
  refine own_iconst X0 hx 4 (hb hby at_24) rfl ?_
  refine own_iushr X0 hx (hb hby at_25) ?_
  refine own_iconst X0 hx 1 (hb hby at_26) rfl ?_
  refine own_iand X0 hx (hb hby at_27) ?_
  by_cases hc494 : (((p5.toUInt32 >>> ((4 : Int32) &&& 31).toUInt32).toInt32) &&& (1 : Int32)) = (0 : Int32)
  · refine own_ifYes X0 hx 35 (hb hby at_28) (teq hc494).1 (by decide) (by decide) ?_
    refine own_iconst X0 hx 0 (hb hby at_35) rfl ?_
    refine own_istore (l' := #[.val (.int p0), .val (.int p1), .val (.int p2), .val (.int p3), .val (.int p4), .val (.int p5), .val (.long x), .second, .val (.int (p5 &&& (3 : Int32))), .val (.int (((p5.toUInt32 >>> ((2 : Int32) &&& 31).toUInt32).toInt32) &&& (3 : Int32))), .val (.int 0), .unset, .unset, .unset, .unset, .unset, .unset, .unset, .unset, .unset, .unset, .unset, .unset]) X0 hx (hb hby at_36) rfl ?_
    refine own_iload X0 hx (hb hby at_38) rfl ?_
    refine own_iloadN X0 hx (hb hby at_40) rfl ?_
    refine own_iloadN X0 hx (hb hby at_41) rfl ?_
    obtain ⟨H495, hT495⟩ := own_TX l Z a0 hw cs fm (p5 &&& (3 : Int32)) p1 p2 (own_and3 _)
    have Zs496 : n0 ≤ h0.size := Z0
    refine own_cStatW (W := 0) (rest := []) X0 hx hZ [(.int (p5 &&& (3 : Int32))), (.int p1), (.int p2)] hown (own_m hw 0 rfl) (own_m hw 1 rfl) (by decide) (own_m hw 3 rfl) (own_m hw 2 rfl) e0 (hT495 h0 n0 Zs496 Sc hcs Sad Shi Slo Sf hfm) hEL CH0 hS0 (Nat.le_refl _) (by rw [hml]; rfl) (lenOf pd_19 rfl) rfl (Nat.le_of_eq rfl) (hb hby at_42) (by decide) (by decide) (by decide) (by decide) fun v497 T497 L497 X497 hS497 hZ497 ho497 CR497 hQ497 => ?_
    obtain ⟨a497, b497, kb497, cd497, bl497, bs497, rfl, N497q, K497, sza497, Ea497, Fv497, Fc497, Vb497, CH497⟩ := hQ497
    have N497 := Fr.app N0 N497q
    show own_At p e below _ T497 m 45 _ [(.ref a497)]
    refine own_astore (l' := #[.val (.int p0), .val (.int p1), .val (.int p2), .val (.int p3), .val (.int p4), .val (.int p5), .val (.long x), .second, .val (.int (p5 &&& (3 : Int32))), .val (.int (((p5.toUInt32 >>> ((2 : Int32) &&& 31).toUInt32).toInt32) &&& (3 : Int32))), .val (.int 0), .val (.ref a497), .unset, .unset, .unset, .unset, .unset, .unset, .unset, .unset, .unset, .unset, .unset]) X497 hx (hb hby at_45) rfl rfl ?_
    refine own_iload X497 hx (hb hby at_47) rfl ?_
    refine own_ifYes X497 hx 62 (hb hby at_49) (teq (by decide : (0 : Int32) = (0 : Int32))).1 (by decide) (by decide) ?_
    refine own_iload X497 hx (hb hby at_62) rfl ?_
    refine own_iloadN X497 hx (hb hby at_64) rfl ?_
    refine own_iload X497 hx (hb hby at_65) rfl ?_
    obtain ⟨H498, hT498⟩ := own_TX l Z a0 hw cs fm (((p5.toUInt32 >>> ((2 : Int32) &&& 31).toUInt32).toInt32) &&& (3 : Int32)) p3 p4 (own_and3 _)
    have f499 := (own_staKeep Sc K497 all0)
    have f500 := (own_staKeep Sad K497 all0)
    have f501 := (own_staKeep Shi K497 all0)
    have f502 := (own_staKeep Slo K497 all0)
    have f503 := (own_staKeep Sf K497 all0)
    have Zs504 : n0 ≤ T497.heap.size := (Nat.le_trans Zs496 K497.1)
    refine own_cStatW (W := 0) (rest := []) X497 hx hZ497 [(.int (((p5.toUInt32 >>> ((2 : Int32) &&& 31).toUInt32).toInt32) &&& (3 : Int32))), (.int p3), (.int p4)] ho497 (own_m hw 0 rfl) (own_m hw 1 rfl) (by decide) (own_m hw 3 rfl) (own_m hw 2 rfl) rfl (hT498 T497.heap n0 Zs504 f499 hcs f500 f501 f502 f503 hfm) hEL CR497.1 hS497 (Nat.le_refl _) (by rw [hml]; rfl) (lenOf pd_19 rfl) rfl (Nat.le_of_eq rfl) (hb hby at_67) (by decide) (by decide) (by decide) (by decide) fun v505 T505 L505 X505 hS505 hZ505 ho505 CR505 hQ505 => ?_
    obtain ⟨a505, b505, kb505, cd505, bl505, bs505, rfl, N505q, K505, sza505, Ea505, Fv505, Fc505, Vb505, CH505⟩ := hQ505
    have N505 := Fr.app N497 N505q
    show own_At p e below _ T505 m 70 _ [(.ref a505)]
    refine own_astore (l' := #[.val (.int p0), .val (.int p1), .val (.int p2), .val (.int p3), .val (.int p4), .val (.int p5), .val (.long x), .second, .val (.int (p5 &&& (3 : Int32))), .val (.int (((p5.toUInt32 >>> ((2 : Int32) &&& 31).toUInt32).toInt32) &&& (3 : Int32))), .val (.int 0), .val (.ref a497), .val (.ref a505), .unset, .unset, .unset, .unset, .unset, .unset, .unset, .unset, .unset, .unset]) X505 hx (hb hby at_70) rfl rfl ?_
    refine own_newO X505 hx hZ505 ho505 (own_m hw 38 rfl) (own_m hw 39 rfl) (own_m hw 40 rfl) rfl (hb hby at_72) (by decide) (by decide) fun T506 h506 b506 g506 X506 e506 E506 A506 D506 => ?_
    have g_b506 : n0 ≤ b506 := Nat.le_trans (Nat.le_trans Zs504 K505.1) (Nat.le_of_eq g506.symm)
    have szo_b506 : h0.size ≤ b506 := Nat.le_trans (Nat.le_trans (Nat.le_trans (Nat.le_refl h0.size) K497.1) K505.1) (Nat.le_of_eq g506.symm)
    have F_words_b506 : Fld Z h506 b506 "com/example/vestline/vestline/cli/BloomFilter" "words" "[J" .null := D506 (Or.inr (own_m hw 56 rfl)) (ty := (.array .long)) (by decide)
    have F_mask_b506 : Fld Z h506 b506 "com/example/vestline/vestline/cli/BloomFilter" "mask" "J" (.long (0 : Int64)) := D506 (Or.inr (own_m hw 58 rfl)) (ty := .long) (by decide)
    refine own_dup X506 hx (hb hby at_75) rfl ?_
    refine own_lload X506 hx (hb hby at_76) rfl ?_
    refine own_cSpec (b := b506) (W := 1) (rest := [(.ref b506)]) X506 hx hZ505 [(.long x)] rfl ho505 (own_m hw 41 rfl) (own_m hw 42 rfl) (by decide) (own_m hw 43 rfl) (own_m hw 40 rfl) e506 (rmBI l Z a0 hw [] b506 x mk nw h506 n0 (Nat.le_trans (Nat.le_trans Zs504 K505.1) E506.1) h2 hnw hmk A506 F_words_b506 F_mask_b506 g_b506) (by rw [hml]; rfl) (lenOf pd_20 rfl) rfl (Nat.le_of_eq rfl) (hb hby at_78) (by decide) (by decide) (by decide) (by decide) fun v507 T507 L507 X507 hQ507 => ?_
    obtain ⟨rfl, N507q, K507, w507, kw507, szw507, gw507, Ew507, Ef507, Fw507, Fm507, Vw507⟩ := hQ507
    have N507 := Fr.app N505 N507q
    have g_w507 := gw507
    have f508 := (own_staKeep (Sta.ext E506 (own_staKeep f499 K505 all0)) K507 (allS (own_exaStat A506) all0))
    have f509 := (own_staKeep (Sta.ext E506 (own_staKeep f500 K505 all0)) K507 (allS (own_exaStat A506) all0))
    have f510 := (own_staKeep (Sta.ext E506 (own_staKeep f501 K505 all0)) K507 (allS (own_exaStat A506) all0))
    have f511 := (own_staKeep (Sta.ext E506 (own_staKeep f502 K505 all0)) K507 (allS (own_exaStat A506) all0))
    have f512 := (own_staKeep (Sta.ext E506 (own_staKeep f503 K505 all0)) K507 (allS (own_exaStat A506) all0))
    have f513 := (Exa.keep (Exa.ext E506 (Exa.keep Ea497 K505)) K507)
    have f514 := (Fld.keep (Fld.ext E506 (Fld.keep Fv497 K505 nin0)) K507 (ninS (Nat.ne_of_lt (Nat.lt_of_lt_of_le (Exa.keep Ea497 K505).lt (Nat.le_of_eq g506.symm))) nin0))
    have f515 := (Fld.keep (Fld.ext E506 (Fld.keep Fc497 K505 nin0)) K507 (ninS (Nat.ne_of_lt (Nat.lt_of_lt_of_le (Exa.keep Ea497 K505).lt (Nat.le_of_eq g506.symm))) nin0))
    have f516 := (Arv.keep ((Arv.keep Vb497 K505 nin0).ext E506) K507 (ninS (Nat.ne_of_lt (Nat.lt_of_lt_of_le (Arv.keep Vb497 K505 nin0).lt (Nat.le_of_eq g506.symm))) nin0))
    have f517 := (Exa.keep (Exa.ext E506 Ea505) K507)
    have f518 := (Fld.keep (Fld.ext E506 Fv505) K507 (ninS (Nat.ne_of_lt (Nat.lt_of_lt_of_le Ea505.lt (Nat.le_of_eq g506.symm))) nin0))
    have f519 := (Fld.keep (Fld.ext E506 Fc505) K507 (ninS (Nat.ne_of_lt (Nat.lt_of_lt_of_le Ea505.lt (Nat.le_of_eq g506.symm))) nin0))
    have f520 := (Arv.keep (Vb505.ext E506) K507 (ninS (Nat.ne_of_lt (Nat.lt_of_lt_of_le Vb505.lt (Nat.le_of_eq g506.symm))) nin0))
    have Zs521 : n0 ≤ T507.heap.size := (Nat.le_trans (Nat.le_trans (Nat.le_trans Zs504 K505.1) E506.1) K507.1)
    show own_At p e below _ T507 m 81 _ [(.ref b506)]
    refine own_astore (l' := #[.val (.int p0), .val (.int p1), .val (.int p2), .val (.int p3), .val (.int p4), .val (.int p5), .val (.long x), .second, .val (.int (p5 &&& (3 : Int32))), .val (.int (((p5.toUInt32 >>> ((2 : Int32) &&& 31).toUInt32).toInt32) &&& (3 : Int32))), .val (.int 0), .val (.ref a497), .val (.ref a505), .val (.ref b506), .unset, .unset, .unset, .unset, .unset, .unset, .unset, .unset, .unset]) X507 hx (hb hby at_81) rfl rfl ?_
    refine own_newO X507 hx hZ505 ho505 (own_m hw 38 rfl) (own_m hw 39 rfl) (own_m hw 40 rfl) rfl (hb hby at_83) (by decide) (by decide) fun T522 h522 b522 g522 X522 e522 E522 A522 D522 => ?_
    have g_b522 : n0 ≤ b522 := Nat.le_trans Zs521 (Nat.le_of_eq g522.symm)
    have szo_b522 : h0.size ≤ b522 := Nat.le_trans (Nat.le_trans (Nat.le_trans (Nat.le_trans (Nat.le_trans (Nat.le_refl h0.size) K497.1) K505.1) E506.1) K507.1) (Nat.le_of_eq g522.symm)
    have F_words_b522 : Fld Z h522 b522 "com/example/vestline/vestline/cli/BloomFilter" "words" "[J" .null := D522 (Or.inr (own_m hw 56 rfl)) (ty := (.array .long)) (by decide)
    have F_mask_b522 : Fld Z h522 b522 "com/example/vestline/vestline/cli/BloomFilter" "mask" "J" (.long (0 : Int64)) := D522 (Or.inr (own_m hw 58 rfl)) (ty := .long) (by decide)
    refine own_dup X522 hx (hb hby at_86) rfl ?_
    refine own_lload X522 hx (hb hby at_87) rfl ?_
    refine own_cSpec (b := b522) (W := 1) (rest := [(.ref b522)]) X522 hx hZ505 [(.long x)] rfl ho505 (own_m hw 41 rfl) (own_m hw 42 rfl) (by decide) (own_m hw 43 rfl) (own_m hw 40 rfl) e522 (rmBI l Z a0 hw [] b522 x mk nw h522 n0 (Nat.le_trans Zs521 E522.1) h2 hnw hmk A522 F_words_b522 F_mask_b522 g_b522) (by rw [hml]; rfl) (lenOf pd_20 rfl) rfl (Nat.le_of_eq rfl) (hb hby at_89) (by decide) (by decide) (by decide) (by decide) fun v523 T523 L523 X523 hQ523 => ?_
    obtain ⟨rfl, N523q, K523, w523, kw523, szw523, gw523, Ew523, Ef523, Fw523, Fm523, Vw523⟩ := hQ523
    have N523 := Fr.app N507 N523q
    have g_w523 := gw523
    have f524 := (own_staKeep (Sta.ext E522 f508) K523 (allS (own_exaStat A522) all0))
    have f525 := (own_staKeep (Sta.ext E522 f509) K523 (allS (own_exaStat A522) all0))
    have f526 := (own_staKeep (Sta.ext E522 f510) K523 (allS (own_exaStat A522) all0))
    have f527 := (own_staKeep (Sta.ext E522 f511) K523 (allS (own_exaStat A522) all0))
    have f528 := (own_staKeep (Sta.ext E522 f512) K523 (allS (own_exaStat A522) all0))
    have f529 := (Exa.keep (Exa.ext E522 f513) K523)
    have f530 := (Fld.keep (Fld.ext E522 f514) K523 (ninS (Nat.ne_of_lt (Nat.lt_of_lt_of_le f513.lt (Nat.le_of_eq g522.symm))) nin0))
    have f531 := (Fld.keep (Fld.ext E522 f515) K523 (ninS (Nat.ne_of_lt (Nat.lt_of_lt_of_le f513.lt (Nat.le_of_eq g522.symm))) nin0))
    have f532 := (Arv.keep (f516.ext E522) K523 (ninS (Nat.ne_of_lt (Nat.lt_of_lt_of_le f516.lt (Nat.le_of_eq g522.symm))) nin0))
    have f533 := (Exa.keep (Exa.ext E522 f517) K523)
    have f534 := (Fld.keep (Fld.ext E522 f518) K523 (ninS (Nat.ne_of_lt (Nat.lt_of_lt_of_le f517.lt (Nat.le_of_eq g522.symm))) nin0))
    have f535 := (Fld.keep (Fld.ext E522 f519) K523 (ninS (Nat.ne_of_lt (Nat.lt_of_lt_of_le f517.lt (Nat.le_of_eq g522.symm))) nin0))
    have f536 := (Arv.keep (f520.ext E522) K523 (ninS (Nat.ne_of_lt (Nat.lt_of_lt_of_le f520.lt (Nat.le_of_eq g522.symm))) nin0))
    have f537 := (Exa.keep (Exa.ext E522 Ef507) K523)
    have f538 := (Fld.keep (Fld.ext E522 Fw507) K523 (ninS (Nat.ne_of_lt (Nat.lt_of_lt_of_le Ef507.lt (Nat.le_of_eq g522.symm))) nin0))
    have f539 := (Fld.keep (Fld.ext E522 Fm507) K523 (ninS (Nat.ne_of_lt (Nat.lt_of_lt_of_le Ef507.lt (Nat.le_of_eq g522.symm))) nin0))
    have f540 := (Exa.keep (Exa.ext E522 Ew507) K523)
    have f541 := (Arv.keep (Vw507.ext E522) K523 (ninS (Nat.ne_of_lt (Nat.lt_of_lt_of_le Ew507.lt (Nat.le_of_eq g522.symm))) nin0))
    have Zs542 : n0 ≤ T523.heap.size := (Nat.le_trans (Nat.le_trans Zs521 E522.1) K523.1)
    show own_At p e below _ T523 m 92 _ [(.ref b522)]
    refine own_astore (l' := #[.val (.int p0), .val (.int p1), .val (.int p2), .val (.int p3), .val (.int p4), .val (.int p5), .val (.long x), .second, .val (.int (p5 &&& (3 : Int32))), .val (.int (((p5.toUInt32 >>> ((2 : Int32) &&& 31).toUInt32).toInt32) &&& (3 : Int32))), .val (.int 0), .val (.ref a497), .val (.ref a505), .val (.ref b506), .val (.ref b522), .unset, .unset, .unset, .unset, .unset, .unset, .unset, .unset]) X523 hx (hb hby at_92) rfl rfl ?_
    refine own_aload X523 hx (hb hby at_94) rfl rfl ?_
    refine own_aload X523 hx (hb hby at_96) rfl rfl ?_
    refine own_cVirt (W := 0) (rest := []) X523 hx hZ505 [(.ref a497)] ho505 (own_m hw 59 rfl) (own_m hw 60 rfl) (notFace_of_selects (args := #[]) (mvT hZ505 (own_m hw 62 rfl))) (own_m hw 62 rfl) (own_m hw 61 rfl) (by decide) (own_m hw 63 rfl) (own_m hw 40 rfl) rfl f537 (own_Add l Z a0 hw b506 a497 b497 w507 kb497 kw507 cs cd497 bl497 nw fm bs497 H495 mk (List.replicate nw.toNatClampNeg (0 : Int64)) hix hz T523.heap n0 Zs542 f524 hcs f525 f526 f527 f528 hfm f529 f530 f531 f532 CH497 f537 f538 f539 f540 f541 g_w507) (by rw [hml]; rfl) (lenOf pd_21 rfl) rfl (Nat.le_of_eq rfl) (hb hby at_98) (by decide) (by decide) (by decide) (by decide) fun v543 T543 L543 X543 hQ543 => ?_
    obtain ⟨rfl, N543q, K543, Vw543⟩ := hQ543
    have N543 := Fr.app N523 N543q
    have f544 := (own_staKeep f524 K543 (allS (own_exaStat f540) all0))
    have f545 := (own_staKeep f525 K543 (allS (own_exaStat f540) all0))
    have f546 := (own_staKeep f526 K543 (allS (own_exaStat f540) all0))
    have f547 := (own_staKeep f527 K543 (allS (own_exaStat f540) all0))
    have f548 := (own_staKeep f528 K543 (allS (own_exaStat f540) all0))
    have f549 := (Exa.keep f529 K543)
    have f550 := (Fld.keep f530 K543 (ninS (Nat.ne_of_lt (Nat.lt_of_lt_of_le (Exa.ext E506 (Exa.keep Ea497 K505)).lt szw507)) nin0))
    have f551 := (Fld.keep f531 K543 (ninS (Nat.ne_of_lt (Nat.lt_of_lt_of_le (Exa.ext E506 (Exa.keep Ea497 K505)).lt szw507)) nin0))
    have f552 := (Arv.keep f532 K543 (ninS (Nat.ne_of_lt (Nat.lt_of_lt_of_le ((Arv.keep Vb497 K505 nin0).ext E506).lt szw507)) nin0))
    have f553 := (Exa.keep f533 K543)
    have f554 := (Fld.keep f534 K543 (ninS (Nat.ne_of_lt (Nat.lt_of_lt_of_le (Exa.ext E506 Ea505).lt szw507)) nin0))
    have f555 := (Fld.keep f535 K543 (ninS (Nat.ne_of_lt (Nat.lt_of_lt_of_le (Exa.ext E506 Ea505).lt szw507)) nin0))
    have f556 := (Arv.keep f536 K543 (ninS (Nat.ne_of_lt (Nat.lt_of_lt_of_le (Vb505.ext E506).lt szw507)) nin0))
    have f557 := (Exa.keep f537 K543)
    have f558 := (Fld.keep f538 K543 (ninS (Nat.ne_of_lt (Nat.lt_of_lt_of_le A506.lt szw507)) nin0))
    have f559 := (Fld.keep f539 K543 (ninS (Nat.ne_of_lt (Nat.lt_of_lt_of_le A506.lt szw507)) nin0))
    have f560 := (Exa.keep f540 K543)
    have f561 := (Exa.keep Ef523 K543)
    have f562 := (Fld.keep Fw523 K543 (ninS (Ne.symm (Nat.ne_of_lt (Nat.lt_of_lt_of_le Ew507.lt (Nat.le_of_eq g522.symm)))) nin0))
    have f563 := (Fld.keep Fm523 K543 (ninS (Ne.symm (Nat.ne_of_lt (Nat.lt_of_lt_of_le Ew507.lt (Nat.le_of_eq g522.symm)))) nin0))
    have f564 := (Exa.keep Ew523 K543)
    have f565 := (Arv.keep Vw523 K543 (ninS (Ne.symm (Nat.ne_of_lt (Nat.lt_of_lt_of_le (Exa.ext E522 Ew507).lt szw523))) nin0))
    have Zs566 : n0 ≤ T543.heap.size := (Nat.le_trans Zs542 K543.1)
    show own_At p e below _ T543 m 101 _ [(.int (own_nt (own_hd H495 mk (List.replicate nw.toNatClampNeg (0 : Int64)))))]
    rw [own_nt1]
    refine own_istore (l' := #[.val (.int p0), .val (.int p1), .val (.int p2), .val (.int p3), .val (.int p4), .val (.int p5), .val (.long x), .second, .val (.int (p5 &&& (3 : Int32))), .val (.int (((p5.toUInt32 >>> ((2 : Int32) &&& 31).toUInt32).toInt32) &&& (3 : Int32))), .val (.int 0), .val (.ref a497), .val (.ref a505), .val (.ref b506), .val (.ref b522), .val (.int 1), .unset, .unset, .unset, .unset, .unset, .unset, .unset]) X543 hx (hb hby at_101) rfl ?_
    refine own_aload X543 hx (hb hby at_103) rfl rfl ?_
    refine own_aload X543 hx (hb hby at_105) rfl rfl ?_
    refine own_cVirt (W := 0) (rest := []) X543 hx hZ505 [(.ref a497)] ho505 (own_m hw 59 rfl) (own_m hw 60 rfl) (notFace_of_selects (args := #[]) (mvT hZ505 (own_m hw 62 rfl))) (own_m hw 62 rfl) (own_m hw 61 rfl) (by decide) (own_m hw 63 rfl) (own_m hw 40 rfl) rfl f557 (own_Add l Z a0 hw b506 a497 b497 w507 kb497 kw507 cs cd497 bl497 nw fm bs497 H495 mk (own_ads H495 mk (List.replicate nw.toNatClampNeg (0 : Int64))) hix ((own_lens _ _ _).trans hz) T543.heap n0 Zs566 f544 hcs f545 f546 f547 f548 hfm f549 f550 f551 f552 CH497 f557 f558 f559 f560 Vw543 g_w507) (by rw [hml]; rfl) (lenOf pd_21 rfl) rfl (Nat.le_of_eq rfl) (hb hby at_107) (by decide) (by decide) (by decide) (by decide) fun v567 T567 L567 X567 hQ567 => ?_
    obtain ⟨rfl, N567q, K567, Vw567⟩ := hQ567
    have N567 := Fr.app N543 N567q
    have f568 := (own_staKeep f544 K567 (allS (own_exaStat f560) all0))
    have f569 := (own_staKeep f545 K567 (allS (own_exaStat f560) all0))
    have f570 := (own_staKeep f546 K567 (allS (own_exaStat f560) all0))
    have f571 := (own_staKeep f547 K567 (allS (own_exaStat f560) all0))
    have f572 := (own_staKeep f548 K567 (allS (own_exaStat f560) all0))
    have f573 := (Exa.keep f549 K567)
    have f574 := (Fld.keep f550 K567 (ninS (Nat.ne_of_lt (Nat.lt_of_lt_of_le (Exa.ext E506 (Exa.keep Ea497 K505)).lt szw507)) nin0))
    have f575 := (Fld.keep f551 K567 (ninS (Nat.ne_of_lt (Nat.lt_of_lt_of_le (Exa.ext E506 (Exa.keep Ea497 K505)).lt szw507)) nin0))
    have f576 := (Arv.keep f552 K567 (ninS (Nat.ne_of_lt (Nat.lt_of_lt_of_le ((Arv.keep Vb497 K505 nin0).ext E506).lt szw507)) nin0))
    have f577 := (Exa.keep f553 K567)
    have f578 := (Fld.keep f554 K567 (ninS (Nat.ne_of_lt (Nat.lt_of_lt_of_le (Exa.ext E506 Ea505).lt szw507)) nin0))
    have f579 := (Fld.keep f555 K567 (ninS (Nat.ne_of_lt (Nat.lt_of_lt_of_le (Exa.ext E506 Ea505).lt szw507)) nin0))
    have f580 := (Arv.keep f556 K567 (ninS (Nat.ne_of_lt (Nat.lt_of_lt_of_le (Vb505.ext E506).lt szw507)) nin0))
    have f581 := (Exa.keep f557 K567)
    have f582 := (Fld.keep f558 K567 (ninS (Nat.ne_of_lt (Nat.lt_of_lt_of_le A506.lt szw507)) nin0))
    have f583 := (Fld.keep f559 K567 (ninS (Nat.ne_of_lt (Nat.lt_of_lt_of_le A506.lt szw507)) nin0))
    have f584 := (Exa.keep f560 K567)
    have f585 := (Exa.keep f561 K567)
    have f586 := (Fld.keep f562 K567 (ninS (Ne.symm (Nat.ne_of_lt (Nat.lt_of_lt_of_le Ew507.lt (Nat.le_of_eq g522.symm)))) nin0))
    have f587 := (Fld.keep f563 K567 (ninS (Ne.symm (Nat.ne_of_lt (Nat.lt_of_lt_of_le Ew507.lt (Nat.le_of_eq g522.symm)))) nin0))
    have f588 := (Exa.keep f564 K567)
    have f589 := (Arv.keep f565 K567 (ninS (Ne.symm (Nat.ne_of_lt (Nat.lt_of_lt_of_le (Exa.ext E522 Ew507).lt szw523))) nin0))
    have Zs590 : n0 ≤ T567.heap.size := (Nat.le_trans Zs566 K567.1)
    show own_At p e below _ T567 m 110 _ [(.int (own_nt (own_hd H495 mk (own_ads H495 mk (List.replicate nw.toNatClampNeg (0 : Int64))))))]
    rw [own_nt0 (own_HAself (own_hl hix hz))]
    refine own_istore (l' := #[.val (.int p0), .val (.int p1), .val (.int p2), .val (.int p3), .val (.int p4), .val (.int p5), .val (.long x), .second, .val (.int (p5 &&& (3 : Int32))), .val (.int (((p5.toUInt32 >>> ((2 : Int32) &&& 31).toUInt32).toInt32) &&& (3 : Int32))), .val (.int 0), .val (.ref a497), .val (.ref a505), .val (.ref b506), .val (.ref b522), .val (.int 1), .val (.int 0), .unset, .unset, .unset, .unset, .unset, .unset]) X567 hx (hb hby at_110) rfl ?_
    refine own_aload X567 hx (hb hby at_112) rfl rfl ?_
    refine own_aload X567 hx (hb hby at_114) rfl rfl ?_
    refine own_cVirt (W := 0) (rest := []) X567 hx hZ505 [(.ref a505)] ho505 (own_m hw 59 rfl) (own_m hw 60 rfl) (notFace_of_selects (args := #[]) (mvT hZ505 (own_m hw 62 rfl))) (own_m hw 62 rfl) (own_m hw 61 rfl) (by decide) (own_m hw 63 rfl) (own_m hw 40 rfl) rfl f581 (own_Add l Z a0 hw b506 a505 b505 w507 kb505 kw507 cs cd505 bl505 nw fm bs505 H498 mk (own_ads H495 mk (own_ads H495 mk (List.replicate nw.toNatClampNeg (0 : Int64)))) hix ((own_lens _ _ _).trans ((own_lens _ _ _).trans hz)) T567.heap n0 Zs590 f568 hcs f569 f570 f571 f572 hfm f577 f578 f579 f580 CH505 f581 f582 f583 f584 Vw567 g_w507) (by rw [hml]; rfl) (lenOf pd_21 rfl) rfl (Nat.le_of_eq rfl) (hb hby at_116) (by decide) (by decide) (by decide) (by decide) fun v591 T591 L591 X591 hQ591 => ?_
    obtain ⟨rfl, N591q, K591, Vw591⟩ := hQ591
    have N591 := Fr.app N567 N591q
    have f592 := (own_staKeep f568 K591 (allS (own_exaStat f584) all0))
    have f593 := (own_staKeep f569 K591 (allS (own_exaStat f584) all0))
    have f594 := (own_staKeep f570 K591 (allS (own_exaStat f584) all0))
    have f595 := (own_staKeep f571 K591 (allS (own_exaStat f584) all0))
    have f596 := (own_staKeep f572 K591 (allS (own_exaStat f584) all0))
    have f597 := (Exa.keep f573 K591)
    have f598 := (Fld.keep f574 K591 (ninS (Nat.ne_of_lt (Nat.lt_of_lt_of_le (Exa.ext E506 (Exa.keep Ea497 K505)).lt szw507)) nin0))
    have f599 := (Fld.keep f575 K591 (ninS (Nat.ne_of_lt (Nat.lt_of_lt_of_le (Exa.ext E506 (Exa.keep Ea497 K505)).lt szw507)) nin0))
    have f600 := (Arv.keep f576 K591 (ninS (Nat.ne_of_lt (Nat.lt_of_lt_of_le ((Arv.keep Vb497 K505 nin0).ext E506).lt szw507)) nin0))
    have f601 := (Exa.keep f577 K591)
    have f602 := (Fld.keep f578 K591 (ninS (Nat.ne_of_lt (Nat.lt_of_lt_of_le (Exa.ext E506 Ea505).lt szw507)) nin0))
    have f603 := (Fld.keep f579 K591 (ninS (Nat.ne_of_lt (Nat.lt_of_lt_of_le (Exa.ext E506 Ea505).lt szw507)) nin0))
    have f604 := (Arv.keep f580 K591 (ninS (Nat.ne_of_lt (Nat.lt_of_lt_of_le (Vb505.ext E506).lt szw507)) nin0))
    have f605 := (Exa.keep f581 K591)
    have f606 := (Fld.keep f582 K591 (ninS (Nat.ne_of_lt (Nat.lt_of_lt_of_le A506.lt szw507)) nin0))
    have f607 := (Fld.keep f583 K591 (ninS (Nat.ne_of_lt (Nat.lt_of_lt_of_le A506.lt szw507)) nin0))
    have f608 := (Exa.keep f584 K591)
    have f609 := (Exa.keep f585 K591)
    have f610 := (Fld.keep f586 K591 (ninS (Ne.symm (Nat.ne_of_lt (Nat.lt_of_lt_of_le Ew507.lt (Nat.le_of_eq g522.symm)))) nin0))
    have f611 := (Fld.keep f587 K591 (ninS (Ne.symm (Nat.ne_of_lt (Nat.lt_of_lt_of_le Ew507.lt (Nat.le_of_eq g522.symm)))) nin0))
    have f612 := (Exa.keep f588 K591)
    have f613 := (Arv.keep f589 K591 (ninS (Ne.symm (Nat.ne_of_lt (Nat.lt_of_lt_of_le (Exa.ext E522 Ew507).lt szw523))) nin0))
    have Zs614 : n0 ≤ T591.heap.size := (Nat.le_trans Zs590 K591.1)
    show own_At p e below _ T591 m 119 _ [(.int (own_nt (own_hd H498 mk (own_ads H495 mk (own_ads H495 mk (List.replicate nw.toNatClampNeg (0 : Int64)))))))]
    refine own_istore (l' := #[.val (.int p0), .val (.int p1), .val (.int p2), .val (.int p3), .val (.int p4), .val (.int p5), .val (.long x), .second, .val (.int (p5 &&& (3 : Int32))), .val (.int (((p5.toUInt32 >>> ((2 : Int32) &&& 31).toUInt32).toInt32) &&& (3 : Int32))), .val (.int 0), .val (.ref a497), .val (.ref a505), .val (.ref b506), .val (.ref b522), .val (.int 1), .val (.int 0), .val (.int (own_nt (own_hd H498 mk (own_ads H495 mk (own_ads H495 mk (List.replicate nw.toNatClampNeg (0 : Int64))))))), .unset, .unset, .unset, .unset, .unset]) X591 hx (hb hby at_119) rfl ?_
    refine own_aload X591 hx (hb hby at_121) rfl rfl ?_
    refine own_aload X591 hx (hb hby at_123) rfl rfl ?_
    refine own_cVirt (W := 0) (rest := []) X591 hx hZ505 [(.ref a497)] ho505 (own_m hw 59 rfl) (own_m hw 60 rfl) (notFace_of_selects (args := #[]) (mvT hZ505 (own_m hw 62 rfl))) (own_m hw 62 rfl) (own_m hw 61 rfl) (by decide) (own_m hw 63 rfl) (own_m hw 40 rfl) rfl f605 (own_Add l Z a0 hw b506 a497 b497 w507 kb497 kw507 cs cd497 bl497 nw fm bs497 H495 mk (own_ads H498 mk (own_ads H495 mk (own_ads H495 mk (List.replicate nw.toNatClampNeg (0 : Int64))))) hix ((own_lens _ _ _).trans ((own_lens _ _ _).trans ((own_lens _ _ _).trans hz))) T591.heap n0 Zs614 f592 hcs f593 f594 f595 f596 hfm f597 f598 f599 f600 CH497 f605 f606 f607 f608 Vw591 g_w507) (by rw [hml]; rfl) (lenOf pd_21 rfl) rfl (Nat.le_of_eq rfl) (hb hby at_125) (by decide) (by decide) (by decide) (by decide) fun v615 T615 L615 X615 hQ615 => ?_
    obtain ⟨rfl, N615q, K615, Vw615⟩ := hQ615
    have N615 := Fr.app N591 N615q
    have f616 := (own_staKeep f592 K615 (allS (own_exaStat f608) all0))
    have f617 := (own_staKeep f593 K615 (allS (own_exaStat f608) all0))
    have f618 := (own_staKeep f594 K615 (allS (own_exaStat f608) all0))
    have f619 := (own_staKeep f595 K615 (allS (own_exaStat f608) all0))
    have f620 := (own_staKeep f596 K615 (allS (own_exaStat f608) all0))
    have f621 := (Exa.keep f597 K615)
    have f622 := (Fld.keep f598 K615 (ninS (Nat.ne_of_lt (Nat.lt_of_lt_of_le (Exa.ext E506 (Exa.keep Ea497 K505)).lt szw507)) nin0))
    have f623 := (Fld.keep f599 K615 (ninS (Nat.ne_of_lt (Nat.lt_of_lt_of_le (Exa.ext E506 (Exa.keep Ea497 K505)).lt szw507)) nin0))
    have f624 := (Arv.keep f600 K615 (ninS (Nat.ne_of_lt (Nat.lt_of_lt_of_le ((Arv.keep Vb497 K505 nin0).ext E506).lt szw507)) nin0))
    have f625 := (Exa.keep f601 K615)
    have f626 := (Fld.keep f602 K615 (ninS (Nat.ne_of_lt (Nat.lt_of_lt_of_le (Exa.ext E506 Ea505).lt szw507)) nin0))
    have f627 := (Fld.keep f603 K615 (ninS (Nat.ne_of_lt (Nat.lt_of_lt_of_le (Exa.ext E506 Ea505).lt szw507)) nin0))
    have f628 := (Arv.keep f604 K615 (ninS (Nat.ne_of_lt (Nat.lt_of_lt_of_le (Vb505.ext E506).lt szw507)) nin0))
    have f629 := (Exa.keep f605 K615)
    have f630 := (Fld.keep f606 K615 (ninS (Nat.ne_of_lt (Nat.lt_of_lt_of_le A506.lt szw507)) nin0))
    have f631 := (Fld.keep f607 K615 (ninS (Nat.ne_of_lt (Nat.lt_of_lt_of_le A506.lt szw507)) nin0))
    have f632 := (Exa.keep f608 K615)
    have f633 := (Exa.keep f609 K615)
    have f634 := (Fld.keep f610 K615 (ninS (Ne.symm (Nat.ne_of_lt (Nat.lt_of_lt_of_le Ew507.lt (Nat.le_of_eq g522.symm)))) nin0))
    have f635 := (Fld.keep f611 K615 (ninS (Ne.symm (Nat.ne_of_lt (Nat.lt_of_lt_of_le Ew507.lt (Nat.le_of_eq g522.symm)))) nin0))
    have f636 := (Exa.keep f612 K615)
    have f637 := (Arv.keep f613 K615 (ninS (Ne.symm (Nat.ne_of_lt (Nat.lt_of_lt_of_le (Exa.ext E522 Ew507).lt szw523))) nin0))
    have Zs638 : n0 ≤ T615.heap.size := (Nat.le_trans Zs614 K615.1)
    show own_At p e below _ T615 m 128 _ [(.int (own_nt (own_hd H495 mk (own_ads H498 mk (own_ads H495 mk (own_ads H495 mk (List.replicate nw.toNatClampNeg (0 : Int64))))))))]
    rw [own_nt0 (own_HAads (own_HAself (own_hl hix ((own_lens _ _ _).trans hz))))]
    refine own_istore (l' := #[.val (.int p0), .val (.int p1), .val (.int p2), .val (.int p3), .val (.int p4), .val (.int p5), .val (.long x), .second, .val (.int (p5 &&& (3 : Int32))), .val (.int (((p5.toUInt32 >>> ((2 : Int32) &&& 31).toUInt32).toInt32) &&& (3 : Int32))), .val (.int 0), .val (.ref a497), .val (.ref a505), .val (.ref b506), .val (.ref b522), .val (.int 1), .val (.int 0), .val (.int (own_nt (own_hd H498 mk (own_ads H495 mk (own_ads H495 mk (List.replicate nw.toNatClampNeg (0 : Int64))))))), .val (.int 0), .unset, .unset, .unset, .unset]) X615 hx (hb hby at_128) rfl ?_
    refine own_aload X615 hx (hb hby at_130) rfl rfl ?_
    refine own_aload X615 hx (hb hby at_132) rfl rfl ?_
    refine own_cVirt (W := 0) (rest := []) X615 hx hZ505 [(.ref a505)] ho505 (own_m hw 59 rfl) (own_m hw 60 rfl) (notFace_of_selects (args := #[]) (mvT hZ505 (own_m hw 62 rfl))) (own_m hw 62 rfl) (own_m hw 61 rfl) (by decide) (own_m hw 63 rfl) (own_m hw 40 rfl) rfl f629 (own_Add l Z a0 hw b506 a505 b505 w507 kb505 kw507 cs cd505 bl505 nw fm bs505 H498 mk (own_ads H495 mk (own_ads H498 mk (own_ads H495 mk (own_ads H495 mk (List.replicate nw.toNatClampNeg (0 : Int64)))))) hix ((own_lens _ _ _).trans ((own_lens _ _ _).trans ((own_lens _ _ _).trans ((own_lens _ _ _).trans hz)))) T615.heap n0 Zs638 f616 hcs f617 f618 f619 f620 hfm f625 f626 f627 f628 CH505 f629 f630 f631 f632 Vw615 g_w507) (by rw [hml]; rfl) (lenOf pd_21 rfl) rfl (Nat.le_of_eq rfl) (hb hby at_134) (by decide) (by decide) (by decide) (by decide) fun v639 T639 L639 X639 hQ639 => ?_
    obtain ⟨rfl, N639q, K639, Vw639⟩ := hQ639
    have N639 := Fr.app N615 N639q
    have f640 := (own_staKeep f616 K639 (allS (own_exaStat f632) all0))
    have f641 := (own_staKeep f617 K639 (allS (own_exaStat f632) all0))
    have f642 := (own_staKeep f618 K639 (allS (own_exaStat f632) all0))
    have f643 := (own_staKeep f619 K639 (allS (own_exaStat f632) all0))
    have f644 := (own_staKeep f620 K639 (allS (own_exaStat f632) all0))
    have f645 := (Exa.keep f621 K639)
    have f646 := (Fld.keep f622 K639 (ninS (Nat.ne_of_lt (Nat.lt_of_lt_of_le (Exa.ext E506 (Exa.keep Ea497 K505)).lt szw507)) nin0))
    have f647 := (Fld.keep f623 K639 (ninS (Nat.ne_of_lt (Nat.lt_of_lt_of_le (Exa.ext E506 (Exa.keep Ea497 K505)).lt szw507)) nin0))
    have f648 := (Arv.keep f624 K639 (ninS (Nat.ne_of_lt (Nat.lt_of_lt_of_le ((Arv.keep Vb497 K505 nin0).ext E506).lt szw507)) nin0))
    have f649 := (Exa.keep f625 K639)
    have f650 := (Fld.keep f626 K639 (ninS (Nat.ne_of_lt (Nat.lt_of_lt_of_le (Exa.ext E506 Ea505).lt szw507)) nin0))
    have f651 := (Fld.keep f627 K639 (ninS (Nat.ne_of_lt (Nat.lt_of_lt_of_le (Exa.ext E506 Ea505).lt szw507)) nin0))
    have f652 := (Arv.keep f628 K639 (ninS (Nat.ne_of_lt (Nat.lt_of_lt_of_le (Vb505.ext E506).lt szw507)) nin0))
    have f653 := (Exa.keep f629 K639)
    have f654 := (Fld.keep f630 K639 (ninS (Nat.ne_of_lt (Nat.lt_of_lt_of_le A506.lt szw507)) nin0))
    have f655 := (Fld.keep f631 K639 (ninS (Nat.ne_of_lt (Nat.lt_of_lt_of_le A506.lt szw507)) nin0))
    have f656 := (Exa.keep f632 K639)
    have f657 := (Exa.keep f633 K639)
    have f658 := (Fld.keep f634 K639 (ninS (Ne.symm (Nat.ne_of_lt (Nat.lt_of_lt_of_le Ew507.lt (Nat.le_of_eq g522.symm)))) nin0))
    have f659 := (Fld.keep f635 K639 (ninS (Ne.symm (Nat.ne_of_lt (Nat.lt_of_lt_of_le Ew507.lt (Nat.le_of_eq g522.symm)))) nin0))
    have f660 := (Exa.keep f636 K639)
    have f661 := (Arv.keep f637 K639 (ninS (Ne.symm (Nat.ne_of_lt (Nat.lt_of_lt_of_le (Exa.ext E522 Ew507).lt szw523))) nin0))
    have Zs662 : n0 ≤ T639.heap.size := (Nat.le_trans Zs638 K639.1)
    show own_At p e below _ T639 m 137 _ [(.int (own_nt (own_hd H498 mk (own_ads H495 mk (own_ads H498 mk (own_ads H495 mk (own_ads H495 mk (List.replicate nw.toNatClampNeg (0 : Int64)))))))))]
    rw [own_nt0 (own_HAads (own_HAself (own_hl hix ((own_lens _ _ _).trans ((own_lens _ _ _).trans hz)))))]
    refine own_istore (l' := #[.val (.int p0), .val (.int p1), .val (.int p2), .val (.int p3), .val (.int p4), .val (.int p5), .val (.long x), .second, .val (.int (p5 &&& (3 : Int32))), .val (.int (((p5.toUInt32 >>> ((2 : Int32) &&& 31).toUInt32).toInt32) &&& (3 : Int32))), .val (.int 0), .val (.ref a497), .val (.ref a505), .val (.ref b506), .val (.ref b522), .val (.int 1), .val (.int 0), .val (.int (own_nt (own_hd H498 mk (own_ads H495 mk (own_ads H495 mk (List.replicate nw.toNatClampNeg (0 : Int64))))))), .val (.int 0), .val (.int 0), .unset, .unset, .unset]) X639 hx (hb hby at_137) rfl ?_
    refine own_aload X639 hx (hb hby at_139) rfl rfl ?_
    refine own_aload X639 hx (hb hby at_141) rfl rfl ?_
    refine own_cVirt (W := 0) (rest := []) X639 hx hZ505 [(.ref a505)] ho505 (own_m hw 59 rfl) (own_m hw 60 rfl) (notFace_of_selects (args := #[]) (mvT hZ505 (own_m hw 62 rfl))) (own_m hw 62 rfl) (own_m hw 61 rfl) (by decide) (own_m hw 63 rfl) (own_m hw 40 rfl) rfl f657 (own_Add l Z a0 hw b522 a505 b505 w523 kb505 kw523 cs cd505 bl505 nw fm bs505 H498 mk (List.replicate nw.toNatClampNeg (0 : Int64)) hix hz T639.heap n0 Zs662 f640 hcs f641 f642 f643 f644 hfm f649 f650 f651 f652 CH505 f657 f658 f659 f660 f661 g_w523) (by rw [hml]; rfl) (lenOf pd_21 rfl) rfl (Nat.le_of_eq rfl) (hb hby at_143) (by decide) (by decide) (by decide) (by decide) fun v663 T663 L663 X663 hQ663 => ?_
    obtain ⟨rfl, N663q, K663, Vw663⟩ := hQ663
    have N663 := Fr.app N639 N663q
    have f664 := (own_staKeep f640 K663 (allS (own_exaStat f660) all0))
    have f665 := (own_staKeep f641 K663 (allS (own_exaStat f660) all0))
    have f666 := (own_staKeep f642 K663 (allS (own_exaStat f660) all0))
    have f667 := (own_staKeep f643 K663 (allS (own_exaStat f660) all0))
    have f668 := (own_staKeep f644 K663 (allS (own_exaStat f660) all0))
    have f669 := (Exa.keep f645 K663)
    have f670 := (Fld.keep f646 K663 (ninS (Nat.ne_of_lt (Nat.lt_of_lt_of_le (Exa.ext E522 f513).lt szw523)) nin0))
    have f671 := (Fld.keep f647 K663 (ninS (Nat.ne_of_lt (Nat.lt_of_lt_of_le (Exa.ext E522 f513).lt szw523)) nin0))
    have f672 := (Arv.keep f648 K663 (ninS (Nat.ne_of_lt (Nat.lt_of_lt_of_le (f516.ext E522).lt szw523)) nin0))
    have f673 := (Exa.keep f649 K663)
    have f674 := (Fld.keep f650 K663 (ninS (Nat.ne_of_lt (Nat.lt_of_lt_of_le (Exa.ext E522 f517).lt szw523)) nin0))
    have f675 := (Fld.keep f651 K663 (ninS (Nat.ne_of_lt (Nat.lt_of_lt_of_le (Exa.ext E522 f517).lt szw523)) nin0))
    have f676 := (Arv.keep f652 K663 (ninS (Nat.ne_of_lt (Nat.lt_of_lt_of_le (f520.ext E522).lt szw523)) nin0))
    have f677 := (Exa.keep f653 K663)
    have f678 := (Fld.keep f654 K663 (ninS (Nat.ne_of_lt (Nat.lt_of_lt_of_le (Exa.ext E522 Ef507).lt szw523)) nin0))
    have f679 := (Fld.keep f655 K663 (ninS (Nat.ne_of_lt (Nat.lt_of_lt_of_le (Exa.ext E522 Ef507).lt szw523)) nin0))
    have f680 := (Exa.keep f656 K663)
    have f681 := (Arv.keep Vw639 K663 (ninS (Nat.ne_of_lt (Nat.lt_of_lt_of_le (Exa.ext E522 Ew507).lt szw523)) nin0))
    have f682 := (Exa.keep f657 K663)
    have f683 := (Fld.keep f658 K663 (ninS (Nat.ne_of_lt (Nat.lt_of_lt_of_le A522.lt szw523)) nin0))
    have f684 := (Fld.keep f659 K663 (ninS (Nat.ne_of_lt (Nat.lt_of_lt_of_le A522.lt szw523)) nin0))
    have f685 := (Exa.keep f660 K663)
    have Zs686 : n0 ≤ T663.heap.size := (Nat.le_trans Zs662 K663.1)
    show own_At p e below _ T663 m 146 _ [(.int (own_nt (own_hd H498 mk (List.replicate nw.toNatClampNeg (0 : Int64)))))]
    rw [own_nt1]
    refine own_istore (l' := #[.val (.int p0), .val (.int p1), .val (.int p2), .val (.int p3), .val (.int p4), .val (.int p5), .val (.long x), .second, .val (.int (p5 &&& (3 : Int32))), .val (.int (((p5.toUInt32 >>> ((2 : Int32) &&& 31).toUInt32).toInt32) &&& (3 : Int32))), .val (.int 0), .val (.ref a497), .val (.ref a505), .val (.ref b506), .val (.ref b522), .val (.int 1), .val (.int 0), .val (.int (own_nt (own_hd H498 mk (own_ads H495 mk (own_ads H495 mk (List.replicate nw.toNatClampNeg (0 : Int64))))))), .val (.int 0), .val (.int 0), .val (.int 1), .unset, .unset]) X663 hx (hb hby at_146) rfl ?_
    refine own_aload X663 hx (hb hby at_148) rfl rfl ?_
    refine own_aload X663 hx (hb hby at_150) rfl rfl ?_
    refine own_cVirt (W := 0) (rest := []) X663 hx hZ505 [(.ref a497)] ho505 (own_m hw 59 rfl) (own_m hw 60 rfl) (notFace_of_selects (args := #[]) (mvT hZ505 (own_m hw 62 rfl))) (own_m hw 62 rfl) (own_m hw 61 rfl) (by decide) (own_m hw 63 rfl) (own_m hw 40 rfl) rfl f682 (own_Add l Z a0 hw b522 a497 b497 w523 kb497 kw523 cs cd497 bl497 nw fm bs497 H495 mk (own_ads H498 mk (List.replicate nw.toNatClampNeg (0 : Int64))) hix ((own_lens _ _ _).trans hz) T663.heap n0 Zs686 f664 hcs f665 f666 f667 f668 hfm f669 f670 f671 f672 CH497 f682 f683 f684 f685 Vw663 g_w523) (by rw [hml]; rfl) (lenOf pd_21 rfl) rfl (Nat.le_of_eq rfl) (hb hby at_152) (by decide) (by decide) (by decide) (by decide) fun v687 T687 L687 X687 hQ687 => ?_
    obtain ⟨rfl, N687q, K687, Vw687⟩ := hQ687
    have N687 := Fr.app N663 N687q
    have f688 := (own_staKeep f664 K687 (allS (own_exaStat f685) all0))
    have f689 := (own_staKeep f665 K687 (allS (own_exaStat f685) all0))
    have f690 := (own_staKeep f666 K687 (allS (own_exaStat f685) all0))
    have f691 := (own_staKeep f667 K687 (allS (own_exaStat f685) all0))
    have f692 := (own_staKeep f668 K687 (allS (own_exaStat f685) all0))
    have f693 := (Exa.keep f669 K687)
    have f694 := (Fld.keep f670 K687 (ninS (Nat.ne_of_lt (Nat.lt_of_lt_of_le (Exa.ext E522 f513).lt szw523)) nin0))
    have f695 := (Fld.keep f671 K687 (ninS (Nat.ne_of_lt (Nat.lt_of_lt_of_le (Exa.ext E522 f513).lt szw523)) nin0))
    have f696 := (Arv.keep f672 K687 (ninS (Nat.ne_of_lt (Nat.lt_of_lt_of_le (f516.ext E522).lt szw523)) nin0))
    have f697 := (Exa.keep f673 K687)
    have f698 := (Fld.keep f674 K687 (ninS (Nat.ne_of_lt (Nat.lt_of_lt_of_le (Exa.ext E522 f517).lt szw523)) nin0))
    have f699 := (Fld.keep f675 K687 (ninS (Nat.ne_of_lt (Nat.lt_of_lt_of_le (Exa.ext E522 f517).lt szw523)) nin0))
    have f700 := (Arv.keep f676 K687 (ninS (Nat.ne_of_lt (Nat.lt_of_lt_of_le (f520.ext E522).lt szw523)) nin0))
    have f701 := (Exa.keep f677 K687)
    have f702 := (Fld.keep f678 K687 (ninS (Nat.ne_of_lt (Nat.lt_of_lt_of_le (Exa.ext E522 Ef507).lt szw523)) nin0))
    have f703 := (Fld.keep f679 K687 (ninS (Nat.ne_of_lt (Nat.lt_of_lt_of_le (Exa.ext E522 Ef507).lt szw523)) nin0))
    have f704 := (Exa.keep f680 K687)
    have f705 := (Arv.keep f681 K687 (ninS (Nat.ne_of_lt (Nat.lt_of_lt_of_le (Exa.ext E522 Ew507).lt szw523)) nin0))
    have f706 := (Exa.keep f682 K687)
    have f707 := (Fld.keep f683 K687 (ninS (Nat.ne_of_lt (Nat.lt_of_lt_of_le A522.lt szw523)) nin0))
    have f708 := (Fld.keep f684 K687 (ninS (Nat.ne_of_lt (Nat.lt_of_lt_of_le A522.lt szw523)) nin0))
    have f709 := (Exa.keep f685 K687)
    have Zs710 : n0 ≤ T687.heap.size := (Nat.le_trans Zs686 K687.1)
    show own_At p e below _ T687 m 155 _ [(.int (own_nt (own_hd H495 mk (own_ads H498 mk (List.replicate nw.toNatClampNeg (0 : Int64))))))]
    refine own_istore (l' := #[.val (.int p0), .val (.int p1), .val (.int p2), .val (.int p3), .val (.int p4), .val (.int p5), .val (.long x), .second, .val (.int (p5 &&& (3 : Int32))), .val (.int (((p5.toUInt32 >>> ((2 : Int32) &&& 31).toUInt32).toInt32) &&& (3 : Int32))), .val (.int 0), .val (.ref a497), .val (.ref a505), .val (.ref b506), .val (.ref b522), .val (.int 1), .val (.int 0), .val (.int (own_nt (own_hd H498 mk (own_ads H495 mk (own_ads H495 mk (List.replicate nw.toNatClampNeg (0 : Int64))))))), .val (.int 0), .val (.int 0), .val (.int 1), .val (.int (own_nt (own_hd H495 mk (own_ads H498 mk (List.replicate nw.toNatClampNeg (0 : Int64)))))), .unset]) X687 hx (hb hby at_155) rfl ?_
    refine own_iload X687 hx (hb hby at_157) rfl ?_
    refine own_ifNo X687 hx (hb hby at_159) (feq (by decide : ¬ ((1 : Int32) = (0 : Int32)))).1 ?_
    refine own_iload X687 hx (hb hby at_162) rfl ?_
    refine own_ifNo X687 hx (hb hby at_164) (teq (by decide : (0 : Int32) = (0 : Int32))).2 ?_
    refine own_iload X687 hx (hb hby at_167) rfl ?_
    refine own_ifNo X687 hx (hb hby at_169) (teq (by decide : (0 : Int32) = (0 : Int32))).2 ?_
    refine own_iload X687 hx (hb hby at_172) rfl ?_
    refine own_ifNo X687 hx (hb hby at_174) (teq (by decide : (0 : Int32) = (0 : Int32))).2 ?_
    refine own_iload X687 hx (hb hby at_177) rfl ?_
    refine own_ifNo X687 hx (hb hby at_179) (feq (by decide : ¬ ((1 : Int32) = (0 : Int32)))).1 ?_
    refine own_iconst X687 hx 1 (hb hby at_182) rfl ?_
    refine own_goto X687 hx 187 (hb hby at_183) (by decide) (by decide) ?_
    refine own_istore (l' := #[.val (.int p0), .val (.int p1), .val (.int p2), .val (.int p3), .val (.int p4), .val (.int p5), .val (.long x), .second, .val (.int (p5 &&& (3 : Int32))), .val (.int (((p5.toUInt32 >>> ((2 : Int32) &&& 31).toUInt32).toInt32) &&& (3 : Int32))), .val (.int 0), .val (.ref a497), .val (.ref a505), .val (.ref b506), .val (.ref b522), .val (.int 1), .val (.int 0), .val (.int (own_nt (own_hd H498 mk (own_ads H495 mk (own_ads H495 mk (List.replicate nw.toNatClampNeg (0 : Int64))))))), .val (.int 0), .val (.int 0), .val (.int 1), .val (.int (own_nt (own_hd H495 mk (own_ads H498 mk (List.replicate nw.toNatClampNeg (0 : Int64)))))), .val (.int 1)]) X687 hx (hb hby at_187) rfl ?_
    refine own_iload X687 hx (hb hby at_189) rfl ?_
    refine own_ifNo X687 hx (hb hby at_191) (teq (by decide : (0 : Int32) = (0 : Int32))).2 ?_
    refine own_lload X687 hx (hb hby at_194) rfl ?_
    refine own_lconst1 X687 hx (hb hby at_196) ?_
    refine own_lcmp X687 hx (hb hby at_197) ?_
    by_cases hc711 : x = (1 : Int64)
    · refine own_ifNo X687 hx (hb hby at_198) (teq ((lw_eq x (1 : Int64)).mpr hc711)).2 ?_
      refine own_iload X687 hx (hb hby at_201) rfl ?_
      refine own_ifNo X687 hx (hb hby at_203) (feq (by decide : ¬ ((1 : Int32) = (0 : Int32)))).1 ?_
      refine own_iload X687 hx (hb hby at_206) rfl ?_
      refine own_ifNo X687 hx (hb hby at_208) (teq (own_nt0 (own_HA0 (by rw [← hmk, hc711]; decide) (own_HAself (own_hl hix ((own_lens _ _ _).trans hz)))))).2 ?_
      refine own_iload X687 hx (hb hby at_211) rfl ?_
      refine own_ifNo X687 hx (hb hby at_213) (teq (own_nt0 (own_HA0 (by rw [← hmk, hc711]; decide) (own_HAself (own_hl hix hz))))).2 ?_
      refine own_iconst X687 hx 1 (hb hby at_216) rfl ?_
      refine own_goto X687 hx 221 (hb hby at_217) (by decide) (by decide) ?_
      refine own_istore (l' := #[.val (.int p0), .val (.int p1), .val (.int p2), .val (.int p3), .val (.int p4), .val (.int p5), .val (.long x), .second, .val (.int (p5 &&& (3 : Int32))), .val (.int (((p5.toUInt32 >>> ((2 : Int32) &&& 31).toUInt32).toInt32) &&& (3 : Int32))), .val (.int 0), .val (.ref a497), .val (.ref a505), .val (.ref b506), .val (.ref b522), .val (.int 1), .val (.int 0), .val (.int (own_nt (own_hd H498 mk (own_ads H495 mk (own_ads H495 mk (List.replicate nw.toNatClampNeg (0 : Int64))))))), .val (.int 0), .val (.int 0), .val (.int 1), .val (.int (own_nt (own_hd H495 mk (own_ads H498 mk (List.replicate nw.toNatClampNeg (0 : Int64)))))), .val (.int 1)]) X687 hx (hb hby at_221) rfl ?_
      refine own_iload X687 hx (hb hby at_223) rfl ?_
      refine own_retN X687 hx hlk hret (by simp) (by decide) (hb hby at_225) (own_kL hS505 (Nat.le_trans (Nat.le_trans (Nat.le_trans (Nat.le_trans (Nat.le_trans (Nat.le_trans (Nat.le_trans (Nat.le_trans (Nat.le_trans (Nat.le_trans (Nat.le_trans (Nat.le_refl _) E506.1) K507.1) E522.1) K523.1) K543.1) K567.1) K591.1) K615.1) K639.1) K663.1) K687.1) (by decide) (by decide) ?_)
      exact ⟨rfl, N687⟩
    · refine own_ifYes X687 hx 223 (hb hby at_198) (feq (fun q => hc711 ((lw_eq x (1 : Int64)).mp q))).2 (by decide) (by decide) ?_
      refine own_iload X687 hx (hb hby at_223) rfl ?_
      refine own_retN X687 hx hlk hret (by simp) (by decide) (hb hby at_225) (own_kL hS505 (Nat.le_trans (Nat.le_trans (Nat.le_trans (Nat.le_trans (Nat.le_trans (Nat.le_trans (Nat.le_trans (Nat.le_trans (Nat.le_trans (Nat.le_trans (Nat.le_trans (Nat.le_refl _) E506.1) K507.1) E522.1) K523.1) K543.1) K567.1) K591.1) K615.1) K639.1) K663.1) K687.1) (by decide) (by decide) ?_)
      exact ⟨rfl, N687⟩
  · refine own_ifNo X0 hx (hb hby at_28) (feq hc494).1 ?_
    refine own_iconst X0 hx 1 (hb hby at_31) rfl ?_
    refine own_goto X0 hx 36 (hb hby at_32) (by decide) (by decide) ?_
    refine own_istore (l' := #[.val (.int p0), .val (.int p1), .val (.int p2), .val (.int p3), .val (.int p4), .val (.int p5), .val (.long x), .second, .val (.int (p5 &&& (3 : Int32))), .val (.int (((p5.toUInt32 >>> ((2 : Int32) &&& 31).toUInt32).toInt32) &&& (3 : Int32))), .val (.int 1), .unset, .unset, .unset, .unset, .unset, .unset, .unset, .unset, .unset, .unset, .unset, .unset]) X0 hx (hb hby at_36) rfl ?_
    refine own_iload X0 hx (hb hby at_38) rfl ?_
    refine own_iloadN X0 hx (hb hby at_40) rfl ?_
    refine own_iloadN X0 hx (hb hby at_41) rfl ?_
    obtain ⟨H712, hT712⟩ := own_TX l Z a0 hw cs fm (p5 &&& (3 : Int32)) p1 p2 (own_and3 _)
    have Zs713 : n0 ≤ h0.size := Z0
    refine own_cStatW (W := 0) (rest := []) X0 hx hZ [(.int (p5 &&& (3 : Int32))), (.int p1), (.int p2)] hown (own_m hw 0 rfl) (own_m hw 1 rfl) (by decide) (own_m hw 3 rfl) (own_m hw 2 rfl) e0 (hT712 h0 n0 Zs713 Sc hcs Sad Shi Slo Sf hfm) hEL CH0 hS0 (Nat.le_refl _) (by rw [hml]; rfl) (lenOf pd_19 rfl) rfl (Nat.le_of_eq rfl) (hb hby at_42) (by decide) (by decide) (by decide) (by decide) fun v714 T714 L714 X714 hS714 hZ714 ho714 CR714 hQ714 => ?_
    obtain ⟨a714, b714, kb714, cd714, bl714, bs714, rfl, N714q, K714, sza714, Ea714, Fv714, Fc714, Vb714, CH714⟩ := hQ714
    have N714 := Fr.app N0 N714q
    show own_At p e below _ T714 m 45 _ [(.ref a714)]
    refine own_astore (l' := #[.val (.int p0), .val (.int p1), .val (.int p2), .val (.int p3), .val (.int p4), .val (.int p5), .val (.long x), .second, .val (.int (p5 &&& (3 : Int32))), .val (.int (((p5.toUInt32 >>> ((2 : Int32) &&& 31).toUInt32).toInt32) &&& (3 : Int32))), .val (.int 1), .val (.ref a714), .unset, .unset, .unset, .unset, .unset, .unset, .unset, .unset, .unset, .unset, .unset]) X714 hx (hb hby at_45) rfl rfl ?_
    refine own_iload X714 hx (hb hby at_47) rfl ?_
    refine own_ifNo X714 hx (hb hby at_49) (feq (by decide : ¬ ((1 : Int32) = (0 : Int32)))).1 ?_
    refine own_iload X714 hx (hb hby at_52) rfl ?_
    refine own_iloadN X714 hx (hb hby at_54) rfl ?_
    refine own_iloadN X714 hx (hb hby at_55) rfl ?_
    have f715 := (own_staKeep Sc K714 all0)
    have f716 := (own_staKeep Sad K714 all0)
    have f717 := (own_staKeep Shi K714 all0)
    have f718 := (own_staKeep Slo K714 all0)
    have f719 := (own_staKeep Sf K714 all0)
    have Zs720 : n0 ≤ T714.heap.size := (Nat.le_trans Zs713 K714.1)
    refine own_cStatW (W := 0) (rest := []) X714 hx hZ714 [(.int (p5 &&& (3 : Int32))), (.int p1), (.int p2)] ho714 (own_m hw 0 rfl) (own_m hw 1 rfl) (by decide) (own_m hw 3 rfl) (own_m hw 2 rfl) rfl (hT712 T714.heap n0 Zs720 f715 hcs f716 f717 f718 f719 hfm) hEL CR714.1 hS714 (Nat.le_refl _) (by rw [hml]; rfl) (lenOf pd_19 rfl) rfl (Nat.le_of_eq rfl) (hb hby at_56) (by decide) (by decide) (by decide) (by decide) fun v721 T721 L721 X721 hS721 hZ721 ho721 CR721 hQ721 => ?_
    obtain ⟨a721, b721, kb721, cd721, bl721, bs721, rfl, N721q, K721, sza721, Ea721, Fv721, Fc721, Vb721, CH721⟩ := hQ721
    have N721 := Fr.app N714 N721q
    show own_At p e below _ T721 m 59 _ [(.ref a721)]
    refine own_goto X721 hx 70 (hb hby at_59) (by decide) (by decide) ?_
    refine own_astore (l' := #[.val (.int p0), .val (.int p1), .val (.int p2), .val (.int p3), .val (.int p4), .val (.int p5), .val (.long x), .second, .val (.int (p5 &&& (3 : Int32))), .val (.int (((p5.toUInt32 >>> ((2 : Int32) &&& 31).toUInt32).toInt32) &&& (3 : Int32))), .val (.int 1), .val (.ref a714), .val (.ref a721), .unset, .unset, .unset, .unset, .unset, .unset, .unset, .unset, .unset, .unset]) X721 hx (hb hby at_70) rfl rfl ?_
    refine own_newO X721 hx hZ721 ho721 (own_m hw 38 rfl) (own_m hw 39 rfl) (own_m hw 40 rfl) rfl (hb hby at_72) (by decide) (by decide) fun T722 h722 b722 g722 X722 e722 E722 A722 D722 => ?_
    have g_b722 : n0 ≤ b722 := Nat.le_trans (Nat.le_trans Zs720 K721.1) (Nat.le_of_eq g722.symm)
    have szo_b722 : h0.size ≤ b722 := Nat.le_trans (Nat.le_trans (Nat.le_trans (Nat.le_refl h0.size) K714.1) K721.1) (Nat.le_of_eq g722.symm)
    have F_words_b722 : Fld Z h722 b722 "com/example/vestline/vestline/cli/BloomFilter" "words" "[J" .null := D722 (Or.inr (own_m hw 56 rfl)) (ty := (.array .long)) (by decide)
    have F_mask_b722 : Fld Z h722 b722 "com/example/vestline/vestline/cli/BloomFilter" "mask" "J" (.long (0 : Int64)) := D722 (Or.inr (own_m hw 58 rfl)) (ty := .long) (by decide)
    refine own_dup X722 hx (hb hby at_75) rfl ?_
    refine own_lload X722 hx (hb hby at_76) rfl ?_
    refine own_cSpec (b := b722) (W := 1) (rest := [(.ref b722)]) X722 hx hZ721 [(.long x)] rfl ho721 (own_m hw 41 rfl) (own_m hw 42 rfl) (by decide) (own_m hw 43 rfl) (own_m hw 40 rfl) e722 (rmBI l Z a0 hw [] b722 x mk nw h722 n0 (Nat.le_trans (Nat.le_trans Zs720 K721.1) E722.1) h2 hnw hmk A722 F_words_b722 F_mask_b722 g_b722) (by rw [hml]; rfl) (lenOf pd_20 rfl) rfl (Nat.le_of_eq rfl) (hb hby at_78) (by decide) (by decide) (by decide) (by decide) fun v723 T723 L723 X723 hQ723 => ?_
    obtain ⟨rfl, N723q, K723, w723, kw723, szw723, gw723, Ew723, Ef723, Fw723, Fm723, Vw723⟩ := hQ723
    have N723 := Fr.app N721 N723q
    have g_w723 := gw723
    have f724 := (own_staKeep (Sta.ext E722 (own_staKeep f715 K721 all0)) K723 (allS (own_exaStat A722) all0))
    have f725 := (own_staKeep (Sta.ext E722 (own_staKeep f716 K721 all0)) K723 (allS (own_exaStat A722) all0))
    have f726 := (own_staKeep (Sta.ext E722 (own_staKeep f717 K721 all0)) K723 (allS (own_exaStat A722) all0))
    have f727 := (own_staKeep (Sta.ext E722 (own_staKeep f718 K721 all0)) K723 (allS (own_exaStat A722) all0))
    have f728 := (own_staKeep (Sta.ext E722 (own_staKeep f719 K721 all0)) K723 (allS (own_exaStat A722) all0))
    have f729 := (Exa.keep (Exa.ext E722 (Exa.keep Ea714 K721)) K723)
    have f730 := (Fld.keep (Fld.ext E722 (Fld.keep Fv714 K721 nin0)) K723 (ninS (Nat.ne_of_lt (Nat.lt_of_lt_of_le (Exa.keep Ea714 K721).lt (Nat.le_of_eq g722.symm))) nin0))
    have f731 := (Fld.keep (Fld.ext E722 (Fld.keep Fc714 K721 nin0)) K723 (ninS (Nat.ne_of_lt (Nat.lt_of_lt_of_le (Exa.keep Ea714 K721).lt (Nat.le_of_eq g722.symm))) nin0))
    have f732 := (Arv.keep ((Arv.keep Vb714 K721 nin0).ext E722) K723 (ninS (Nat.ne_of_lt (Nat.lt_of_lt_of_le (Arv.keep Vb714 K721 nin0).lt (Nat.le_of_eq g722.symm))) nin0))
    have f733 := (Exa.keep (Exa.ext E722 Ea721) K723)
    have f734 := (Fld.keep (Fld.ext E722 Fv721) K723 (ninS (Nat.ne_of_lt (Nat.lt_of_lt_of_le Ea721.lt (Nat.le_of_eq g722.symm))) nin0))
    have f735 := (Fld.keep (Fld.ext E722 Fc721) K723 (ninS (Nat.ne_of_lt (Nat.lt_of_lt_of_le Ea721.lt (Nat.le_of_eq g722.symm))) nin0))
    have f736 := (Arv.keep (Vb721.ext E722) K723 (ninS (Nat.ne_of_lt (Nat.lt_of_lt_of_le Vb721.lt (Nat.le_of_eq g722.symm))) nin0))
    have Zs737 : n0 ≤ T723.heap.size := (Nat.le_trans (Nat.le_trans (Nat.le_trans Zs720 K721.1) E722.1) K723.1)
    show own_At p e below _ T723 m 81 _ [(.ref b722)]
    refine own_astore (l' := #[.val (.int p0), .val (.int p1), .val (.int p2), .val (.int p3), .val (.int p4), .val (.int p5), .val (.long x), .second, .val (.int (p5 &&& (3 : Int32))), .val (.int (((p5.toUInt32 >>> ((2 : Int32) &&& 31).toUInt32).toInt32) &&& (3 : Int32))), .val (.int 1), .val (.ref a714), .val (.ref a721), .val (.ref b722), .unset, .unset, .unset, .unset, .unset, .unset, .unset, .unset, .unset]) X723 hx (hb hby at_81) rfl rfl ?_
    refine own_newO X723 hx hZ721 ho721 (own_m hw 38 rfl) (own_m hw 39 rfl) (own_m hw 40 rfl) rfl (hb hby at_83) (by decide) (by decide) fun T738 h738 b738 g738 X738 e738 E738 A738 D738 => ?_
    have g_b738 : n0 ≤ b738 := Nat.le_trans Zs737 (Nat.le_of_eq g738.symm)
    have szo_b738 : h0.size ≤ b738 := Nat.le_trans (Nat.le_trans (Nat.le_trans (Nat.le_trans (Nat.le_trans (Nat.le_refl h0.size) K714.1) K721.1) E722.1) K723.1) (Nat.le_of_eq g738.symm)
    have F_words_b738 : Fld Z h738 b738 "com/example/vestline/vestline/cli/BloomFilter" "words" "[J" .null := D738 (Or.inr (own_m hw 56 rfl)) (ty := (.array .long)) (by decide)
    have F_mask_b738 : Fld Z h738 b738 "com/example/vestline/vestline/cli/BloomFilter" "mask" "J" (.long (0 : Int64)) := D738 (Or.inr (own_m hw 58 rfl)) (ty := .long) (by decide)
    refine own_dup X738 hx (hb hby at_86) rfl ?_
    refine own_lload X738 hx (hb hby at_87) rfl ?_
    refine own_cSpec (b := b738) (W := 1) (rest := [(.ref b738)]) X738 hx hZ721 [(.long x)] rfl ho721 (own_m hw 41 rfl) (own_m hw 42 rfl) (by decide) (own_m hw 43 rfl) (own_m hw 40 rfl) e738 (rmBI l Z a0 hw [] b738 x mk nw h738 n0 (Nat.le_trans Zs737 E738.1) h2 hnw hmk A738 F_words_b738 F_mask_b738 g_b738) (by rw [hml]; rfl) (lenOf pd_20 rfl) rfl (Nat.le_of_eq rfl) (hb hby at_89) (by decide) (by decide) (by decide) (by decide) fun v739 T739 L739 X739 hQ739 => ?_
    obtain ⟨rfl, N739q, K739, w739, kw739, szw739, gw739, Ew739, Ef739, Fw739, Fm739, Vw739⟩ := hQ739
    have N739 := Fr.app N723 N739q
    have g_w739 := gw739
    have f740 := (own_staKeep (Sta.ext E738 f724) K739 (allS (own_exaStat A738) all0))
    have f741 := (own_staKeep (Sta.ext E738 f725) K739 (allS (own_exaStat A738) all0))
    have f742 := (own_staKeep (Sta.ext E738 f726) K739 (allS (own_exaStat A738) all0))
    have f743 := (own_staKeep (Sta.ext E738 f727) K739 (allS (own_exaStat A738) all0))
    have f744 := (own_staKeep (Sta.ext E738 f728) K739 (allS (own_exaStat A738) all0))
    have f745 := (Exa.keep (Exa.ext E738 f729) K739)
    have f746 := (Fld.keep (Fld.ext E738 f730) K739 (ninS (Nat.ne_of_lt (Nat.lt_of_lt_of_le f729.lt (Nat.le_of_eq g738.symm))) nin0))
    have f747 := (Fld.keep (Fld.ext E738 f731) K739 (ninS (Nat.ne_of_lt (Nat.lt_of_lt_of_le f729.lt (Nat.le_of_eq g738.symm))) nin0))
    have f748 := (Arv.keep (f732.ext E738) K739 (ninS (Nat.ne_of_lt (Nat.lt_of_lt_of_le f732.lt (Nat.le_of_eq g738.symm))) nin0))
    have f749 := (Exa.keep (Exa.ext E738 f733) K739)
    have f750 := (Fld.keep (Fld.ext E738 f734) K739 (ninS (Nat.ne_of_lt (Nat.lt_of_lt_of_le f733.lt (Nat.le_of_eq g738.symm))) nin0))
    have f751 := (Fld.keep (Fld.ext E738 f735) K739 (ninS (Nat.ne_of_lt (Nat.lt_of_lt_of_le f733.lt (Nat.le_of_eq g738.symm))) nin0))
    have f752 := (Arv.keep (f736.ext E738) K739 (ninS (Nat.ne_of_lt (Nat.lt_of_lt_of_le f736.lt (Nat.le_of_eq g738.symm))) nin0))
    have f753 := (Exa.keep (Exa.ext E738 Ef723) K739)
    have f754 := (Fld.keep (Fld.ext E738 Fw723) K739 (ninS (Nat.ne_of_lt (Nat.lt_of_lt_of_le Ef723.lt (Nat.le_of_eq g738.symm))) nin0))
    have f755 := (Fld.keep (Fld.ext E738 Fm723) K739 (ninS (Nat.ne_of_lt (Nat.lt_of_lt_of_le Ef723.lt (Nat.le_of_eq g738.symm))) nin0))
    have f756 := (Exa.keep (Exa.ext E738 Ew723) K739)
    have f757 := (Arv.keep (Vw723.ext E738) K739 (ninS (Nat.ne_of_lt (Nat.lt_of_lt_of_le Ew723.lt (Nat.le_of_eq g738.symm))) nin0))
    have Zs758 : n0 ≤ T739.heap.size := (Nat.le_trans (Nat.le_trans Zs737 E738.1) K739.1)
    show own_At p e below _ T739 m 92 _ [(.ref b738)]
    refine own_astore (l' := #[.val (.int p0), .val (.int p1), .val (.int p2), .val (.int p3), .val (.int p4), .val (.int p5), .val (.long x), .second, .val (.int (p5 &&& (3 : Int32))), .val (.int (((p5.toUInt32 >>> ((2 : Int32) &&& 31).toUInt32).toInt32) &&& (3 : Int32))), .val (.int 1), .val (.ref a714), .val (.ref a721), .val (.ref b722), .val (.ref b738), .unset, .unset, .unset, .unset, .unset, .unset, .unset, .unset]) X739 hx (hb hby at_92) rfl rfl ?_
    refine own_aload X739 hx (hb hby at_94) rfl rfl ?_
    refine own_aload X739 hx (hb hby at_96) rfl rfl ?_
    refine own_cVirt (W := 0) (rest := []) X739 hx hZ721 [(.ref a714)] ho721 (own_m hw 59 rfl) (own_m hw 60 rfl) (notFace_of_selects (args := #[]) (mvT hZ721 (own_m hw 62 rfl))) (own_m hw 62 rfl) (own_m hw 61 rfl) (by decide) (own_m hw 63 rfl) (own_m hw 40 rfl) rfl f753 (own_Add l Z a0 hw b722 a714 b714 w723 kb714 kw723 cs cd714 bl714 nw fm bs714 H712 mk (List.replicate nw.toNatClampNeg (0 : Int64)) hix hz T739.heap n0 Zs758 f740 hcs f741 f742 f743 f744 hfm f745 f746 f747 f748 CH714 f753 f754 f755 f756 f757 g_w723) (by rw [hml]; rfl) (lenOf pd_21 rfl) rfl (Nat.le_of_eq rfl) (hb hby at_98) (by decide) (by decide) (by decide) (by decide) fun v759 T759 L759 X759 hQ759 => ?_
    obtain ⟨rfl, N759q, K759, Vw759⟩ := hQ759
    have N759 := Fr.app N739 N759q
    have f760 := (own_staKeep f740 K759 (allS (own_exaStat f756) all0))
    have f761 := (own_staKeep f741 K759 (allS (own_exaStat f756) all0))
    have f762 := (own_staKeep f742 K759 (allS (own_exaStat f756) all0))
    have f763 := (own_staKeep f743 K759 (allS (own_exaStat f756) all0))
    have f764 := (own_staKeep f744 K759 (allS (own_exaStat f756) all0))
    have f765 := (Exa.keep f745 K759)
    have f766 := (Fld.keep f746 K759 (ninS (Nat.ne_of_lt (Nat.lt_of_lt_of_le (Exa.ext E722 (Exa.keep Ea714 K721)).lt szw723)) nin0))
    have f767 := (Fld.keep f747 K759 (ninS (Nat.ne_of_lt (Nat.lt_of_lt_of_le (Exa.ext E722 (Exa.keep Ea714 K721)).lt szw723)) nin0))
    have f768 := (Arv.keep f748 K759 (ninS (Nat.ne_of_lt (Nat.lt_of_lt_of_le ((Arv.keep Vb714 K721 nin0).ext E722).lt szw723)) nin0))
    have f769 := (Exa.keep f749 K759)
    have f770 := (Fld.keep f750 K759 (ninS (Nat.ne_of_lt (Nat.lt_of_lt_of_le (Exa.ext E722 Ea721).lt szw723)) nin0))
    have f771 := (Fld.keep f751 K759 (ninS (Nat.ne_of_lt (Nat.lt_of_lt_of_le (Exa.ext E722 Ea721).lt szw723)) nin0))
    have f772 := (Arv.keep f752 K759 (ninS (Nat.ne_of_lt (Nat.lt_of_lt_of_le (Vb721.ext E722).lt szw723)) nin0))
    have f773 := (Exa.keep f753 K759)
    have f774 := (Fld.keep f754 K759 (ninS (Nat.ne_of_lt (Nat.lt_of_lt_of_le A722.lt szw723)) nin0))
    have f775 := (Fld.keep f755 K759 (ninS (Nat.ne_of_lt (Nat.lt_of_lt_of_le A722.lt szw723)) nin0))
    have f776 := (Exa.keep f756 K759)
    have f777 := (Exa.keep Ef739 K759)
    have f778 := (Fld.keep Fw739 K759 (ninS (Ne.symm (Nat.ne_of_lt (Nat.lt_of_lt_of_le Ew723.lt (Nat.le_of_eq g738.symm)))) nin0))
    have f779 := (Fld.keep Fm739 K759 (ninS (Ne.symm (Nat.ne_of_lt (Nat.lt_of_lt_of_le Ew723.lt (Nat.le_of_eq g738.symm)))) nin0))
    have f780 := (Exa.keep Ew739 K759)
    have f781 := (Arv.keep Vw739 K759 (ninS (Ne.symm (Nat.ne_of_lt (Nat.lt_of_lt_of_le (Exa.ext E738 Ew723).lt szw739))) nin0))
    have Zs782 : n0 ≤ T759.heap.size := (Nat.le_trans Zs758 K759.1)
    show own_At p e below _ T759 m 101 _ [(.int (own_nt (own_hd H712 mk (List.replicate nw.toNatClampNeg (0 : Int64)))))]
    rw [own_nt1]
    refine own_istore (l' := #[.val (.int p0), .val (.int p1), .val (.int p2), .val (.int p3), .val (.int p4), .val (.int p5), .val (.long x), .second, .val (.int (p5 &&& (3 : Int32))), .val (.int (((p5.toUInt32 >>> ((2 : Int32) &&& 31).toUInt32).toInt32) &&& (3 : Int32))), .val (.int 1), .val (.ref a714), .val (.ref a721), .val (.ref b722), .val (.ref b738), .val (.int 1), .unset, .unset, .unset, .unset, .unset, .unset, .unset]) X759 hx (hb hby at_101) rfl ?_
    refine own_aload X759 hx (hb hby at_103) rfl rfl ?_
    refine own_aload X759 hx (hb hby at_105) rfl rfl ?_
    refine own_cVirt (W := 0) (rest := []) X759 hx hZ721 [(.ref a714)] ho721 (own_m hw 59 rfl) (own_m hw 60 rfl) (notFace_of_selects (args := #[]) (mvT hZ721 (own_m hw 62 rfl))) (own_m hw 62 rfl) (own_m hw 61 rfl) (by decide) (own_m hw 63 rfl) (own_m hw 40 rfl) rfl f773 (own_Add l Z a0 hw b722 a714 b714 w723 kb714 kw723 cs cd714 bl714 nw fm bs714 H712 mk (own_ads H712 mk (List.replicate nw.toNatClampNeg (0 : Int64))) hix ((own_lens _ _ _).trans hz) T759.heap n0 Zs782 f760 hcs f761 f762 f763 f764 hfm f765 f766 f767 f768 CH714 f773 f774 f775 f776 Vw759 g_w723) (by rw [hml]; rfl) (lenOf pd_21 rfl) rfl (Nat.le_of_eq rfl) (hb hby at_107) (by decide) (by decide) (by decide) (by decide) fun v783 T783 L783 X783 hQ783 => ?_
    obtain ⟨rfl, N783q, K783, Vw783⟩ := hQ783
    have N783 := Fr.app N759 N783q
    have f784 := (own_staKeep f760 K783 (allS (own_exaStat f776) all0))
    have f785 := (own_staKeep f761 K783 (allS (own_exaStat f776) all0))
    have f786 := (own_staKeep f762 K783 (allS (own_exaStat f776) all0))
    have f787 := (own_staKeep f763 K783 (allS (own_exaStat f776) all0))
    have f788 := (own_staKeep f764 K783 (allS (own_exaStat f776) all0))
    have f789 := (Exa.keep f765 K783)
    have f790 := (Fld.keep f766 K783 (ninS (Nat.ne_of_lt (Nat.lt_of_lt_of_le (Exa.ext E722 (Exa.keep Ea714 K721)).lt szw723)) nin0))
    have f791 := (Fld.keep f767 K783 (ninS (Nat.ne_of_lt (Nat.lt_of_lt_of_le (Exa.ext E722 (Exa.keep Ea714 K721)).lt szw723)) nin0))
    have f792 := (Arv.keep f768 K783 (ninS (Nat.ne_of_lt (Nat.lt_of_lt_of_le ((Arv.keep Vb714 K721 nin0).ext E722).lt szw723)) nin0))
    have f793 := (Exa.keep f769 K783)
    have f794 := (Fld.keep f770 K783 (ninS (Nat.ne_of_lt (Nat.lt_of_lt_of_le (Exa.ext E722 Ea721).lt szw723)) nin0))
    have f795 := (Fld.keep f771 K783 (ninS (Nat.ne_of_lt (Nat.lt_of_lt_of_le (Exa.ext E722 Ea721).lt szw723)) nin0))
    have f796 := (Arv.keep f772 K783 (ninS (Nat.ne_of_lt (Nat.lt_of_lt_of_le (Vb721.ext E722).lt szw723)) nin0))
    have f797 := (Exa.keep f773 K783)
    have f798 := (Fld.keep f774 K783 (ninS (Nat.ne_of_lt (Nat.lt_of_lt_of_le A722.lt szw723)) nin0))
    have f799 := (Fld.keep f775 K783 (ninS (Nat.ne_of_lt (Nat.lt_of_lt_of_le A722.lt szw723)) nin0))
    have f800 := (Exa.keep f776 K783)
    have f801 := (Exa.keep f777 K783)
    have f802 := (Fld.keep f778 K783 (ninS (Ne.symm (Nat.ne_of_lt (Nat.lt_of_lt_of_le Ew723.lt (Nat.le_of_eq g738.symm)))) nin0))
    have f803 := (Fld.keep f779 K783 (ninS (Ne.symm (Nat.ne_of_lt (Nat.lt_of_lt_of_le Ew723.lt (Nat.le_of_eq g738.symm)))) nin0))
    have f804 := (Exa.keep f780 K783)
    have f805 := (Arv.keep f781 K783 (ninS (Ne.symm (Nat.ne_of_lt (Nat.lt_of_lt_of_le (Exa.ext E738 Ew723).lt szw739))) nin0))
    have Zs806 : n0 ≤ T783.heap.size := (Nat.le_trans Zs782 K783.1)
    show own_At p e below _ T783 m 110 _ [(.int (own_nt (own_hd H712 mk (own_ads H712 mk (List.replicate nw.toNatClampNeg (0 : Int64))))))]
    rw [own_nt0 (own_HAself (own_hl hix hz))]
    refine own_istore (l' := #[.val (.int p0), .val (.int p1), .val (.int p2), .val (.int p3), .val (.int p4), .val (.int p5), .val (.long x), .second, .val (.int (p5 &&& (3 : Int32))), .val (.int (((p5.toUInt32 >>> ((2 : Int32) &&& 31).toUInt32).toInt32) &&& (3 : Int32))), .val (.int 1), .val (.ref a714), .val (.ref a721), .val (.ref b722), .val (.ref b738), .val (.int 1), .val (.int 0), .unset, .unset, .unset, .unset, .unset, .unset]) X783 hx (hb hby at_110) rfl ?_
    refine own_aload X783 hx (hb hby at_112) rfl rfl ?_
    refine own_aload X783 hx (hb hby at_114) rfl rfl ?_
    refine own_cVirt (W := 0) (rest := []) X783 hx hZ721 [(.ref a721)] ho721 (own_m hw 59 rfl) (own_m hw 60 rfl) (notFace_of_selects (args := #[]) (mvT hZ721 (own_m hw 62 rfl))) (own_m hw 62 rfl) (own_m hw 61 rfl) (by decide) (own_m hw 63 rfl) (own_m hw 40 rfl) rfl f797 (own_Add l Z a0 hw b722 a721 b721 w723 kb721 kw723 cs cd721 bl721 nw fm bs721 H712 mk (own_ads H712 mk (own_ads H712 mk (List.replicate nw.toNatClampNeg (0 : Int64)))) hix ((own_lens _ _ _).trans ((own_lens _ _ _).trans hz)) T783.heap n0 Zs806 f784 hcs f785 f786 f787 f788 hfm f793 f794 f795 f796 CH721 f797 f798 f799 f800 Vw783 g_w723) (by rw [hml]; rfl) (lenOf pd_21 rfl) rfl (Nat.le_of_eq rfl) (hb hby at_116) (by decide) (by decide) (by decide) (by decide) fun v807 T807 L807 X807 hQ807 => ?_
    obtain ⟨rfl, N807q, K807, Vw807⟩ := hQ807
    have N807 := Fr.app N783 N807q
    have f808 := (own_staKeep f784 K807 (allS (own_exaStat f800) all0))
    have f809 := (own_staKeep f785 K807 (allS (own_exaStat f800) all0))
    have f810 := (own_staKeep f786 K807 (allS (own_exaStat f800) all0))
    have f811 := (own_staKeep f787 K807 (allS (own_exaStat f800) all0))
    have f812 := (own_staKeep f788 K807 (allS (own_exaStat f800) all0))
    have f813 := (Exa.keep f789 K807)
    have f814 := (Fld.keep f790 K807 (ninS (Nat.ne_of_lt (Nat.lt_of_lt_of_le (Exa.ext E722 (Exa.keep Ea714 K721)).lt szw723)) nin0))
    have f815 := (Fld.keep f791 K807 (ninS (Nat.ne_of_lt (Nat.lt_of_lt_of_le (Exa.ext E722 (Exa.keep Ea714 K721)).lt szw723)) nin0))
    have f816 := (Arv.keep f792 K807 (ninS (Nat.ne_of_lt (Nat.lt_of_lt_of_le ((Arv.keep Vb714 K721 nin0).ext E722).lt szw723)) nin0))
    have f817 := (Exa.keep f793 K807)
    have f818 := (Fld.keep f794 K807 (ninS (Nat.ne_of_lt (Nat.lt_of_lt_of_le (Exa.ext E722 Ea721).lt szw723)) nin0))
    have f819 := (Fld.keep f795 K807 (ninS (Nat.ne_of_lt (Nat.lt_of_lt_of_le (Exa.ext E722 Ea721).lt szw723)) nin0))
    have f820 := (Arv.keep f796 K807 (ninS (Nat.ne_of_lt (Nat.lt_of_lt_of_le (Vb721.ext E722).lt szw723)) nin0))
    have f821 := (Exa.keep f797 K807)
    have f822 := (Fld.keep f798 K807 (ninS (Nat.ne_of_lt (Nat.lt_of_lt_of_le A722.lt szw723)) nin0))
    have f823 := (Fld.keep f799 K807 (ninS (Nat.ne_of_lt (Nat.lt_of_lt_of_le A722.lt szw723)) nin0))
    have f824 := (Exa.keep f800 K807)
    have f825 := (Exa.keep f801 K807)
    have f826 := (Fld.keep f802 K807 (ninS (Ne.symm (Nat.ne_of_lt (Nat.lt_of_lt_of_le Ew723.lt (Nat.le_of_eq g738.symm)))) nin0))
    have f827 := (Fld.keep f803 K807 (ninS (Ne.symm (Nat.ne_of_lt (Nat.lt_of_lt_of_le Ew723.lt (Nat.le_of_eq g738.symm)))) nin0))
    have f828 := (Exa.keep f804 K807)
    have f829 := (Arv.keep f805 K807 (ninS (Ne.symm (Nat.ne_of_lt (Nat.lt_of_lt_of_le (Exa.ext E738 Ew723).lt szw739))) nin0))
    have Zs830 : n0 ≤ T807.heap.size := (Nat.le_trans Zs806 K807.1)
    show own_At p e below _ T807 m 119 _ [(.int (own_nt (own_hd H712 mk (own_ads H712 mk (own_ads H712 mk (List.replicate nw.toNatClampNeg (0 : Int64)))))))]
    rw [own_nt0 (own_HAself (own_hl hix ((own_lens _ _ _).trans hz)))]
    refine own_istore (l' := #[.val (.int p0), .val (.int p1), .val (.int p2), .val (.int p3), .val (.int p4), .val (.int p5), .val (.long x), .second, .val (.int (p5 &&& (3 : Int32))), .val (.int (((p5.toUInt32 >>> ((2 : Int32) &&& 31).toUInt32).toInt32) &&& (3 : Int32))), .val (.int 1), .val (.ref a714), .val (.ref a721), .val (.ref b722), .val (.ref b738), .val (.int 1), .val (.int 0), .val (.int 0), .unset, .unset, .unset, .unset, .unset]) X807 hx (hb hby at_119) rfl ?_
    refine own_aload X807 hx (hb hby at_121) rfl rfl ?_
    refine own_aload X807 hx (hb hby at_123) rfl rfl ?_
    refine own_cVirt (W := 0) (rest := []) X807 hx hZ721 [(.ref a714)] ho721 (own_m hw 59 rfl) (own_m hw 60 rfl) (notFace_of_selects (args := #[]) (mvT hZ721 (own_m hw 62 rfl))) (own_m hw 62 rfl) (own_m hw 61 rfl) (by decide) (own_m hw 63 rfl) (own_m hw 40 rfl) rfl f821 (own_Add l Z a0 hw b722 a714 b714 w723 kb714 kw723 cs cd714 bl714 nw fm bs714 H712 mk (own_ads H712 mk (own_ads H712 mk (own_ads H712 mk (List.replicate nw.toNatClampNeg (0 : Int64))))) hix ((own_lens _ _ _).trans ((own_lens _ _ _).trans ((own_lens _ _ _).trans hz))) T807.heap n0 Zs830 f808 hcs f809 f810 f811 f812 hfm f813 f814 f815 f816 CH714 f821 f822 f823 f824 Vw807 g_w723) (by rw [hml]; rfl) (lenOf pd_21 rfl) rfl (Nat.le_of_eq rfl) (hb hby at_125) (by decide) (by decide) (by decide) (by decide) fun v831 T831 L831 X831 hQ831 => ?_
    obtain ⟨rfl, N831q, K831, Vw831⟩ := hQ831
    have N831 := Fr.app N807 N831q
    have f832 := (own_staKeep f808 K831 (allS (own_exaStat f824) all0))
    have f833 := (own_staKeep f809 K831 (allS (own_exaStat f824) all0))
    have f834 := (own_staKeep f810 K831 (allS (own_exaStat f824) all0))
    have f835 := (own_staKeep f811 K831 (allS (own_exaStat f824) all0))
    have f836 := (own_staKeep f812 K831 (allS (own_exaStat f824) all0))
    have f837 := (Exa.keep f813 K831)
    have f838 := (Fld.keep f814 K831 (ninS (Nat.ne_of_lt (Nat.lt_of_lt_of_le (Exa.ext E722 (Exa.keep Ea714 K721)).lt szw723)) nin0))
    have f839 := (Fld.keep f815 K831 (ninS (Nat.ne_of_lt (Nat.lt_of_lt_of_le (Exa.ext E722 (Exa.keep Ea714 K721)).lt szw723)) nin0))
    have f840 := (Arv.keep f816 K831 (ninS (Nat.ne_of_lt (Nat.lt_of_lt_of_le ((Arv.keep Vb714 K721 nin0).ext E722).lt szw723)) nin0))
    have f841 := (Exa.keep f817 K831)
    have f842 := (Fld.keep f818 K831 (ninS (Nat.ne_of_lt (Nat.lt_of_lt_of_le (Exa.ext E722 Ea721).lt szw723)) nin0))
    have f843 := (Fld.keep f819 K831 (ninS (Nat.ne_of_lt (Nat.lt_of_lt_of_le (Exa.ext E722 Ea721).lt szw723)) nin0))
    have f844 := (Arv.keep f820 K831 (ninS (Nat.ne_of_lt (Nat.lt_of_lt_of_le (Vb721.ext E722).lt szw723)) nin0))
    have f845 := (Exa.keep f821 K831)
    have f846 := (Fld.keep f822 K831 (ninS (Nat.ne_of_lt (Nat.lt_of_lt_of_le A722.lt szw723)) nin0))
    have f847 := (Fld.keep f823 K831 (ninS (Nat.ne_of_lt (Nat.lt_of_lt_of_le A722.lt szw723)) nin0))
    have f848 := (Exa.keep f824 K831)
    have f849 := (Exa.keep f825 K831)
    have f850 := (Fld.keep f826 K831 (ninS (Ne.symm (Nat.ne_of_lt (Nat.lt_of_lt_of_le Ew723.lt (Nat.le_of_eq g738.symm)))) nin0))
    have f851 := (Fld.keep f827 K831 (ninS (Ne.symm (Nat.ne_of_lt (Nat.lt_of_lt_of_le Ew723.lt (Nat.le_of_eq g738.symm)))) nin0))
    have f852 := (Exa.keep f828 K831)
    have f853 := (Arv.keep f829 K831 (ninS (Ne.symm (Nat.ne_of_lt (Nat.lt_of_lt_of_le (Exa.ext E738 Ew723).lt szw739))) nin0))
    have Zs854 : n0 ≤ T831.heap.size := (Nat.le_trans Zs830 K831.1)
    show own_At p e below _ T831 m 128 _ [(.int (own_nt (own_hd H712 mk (own_ads H712 mk (own_ads H712 mk (own_ads H712 mk (List.replicate nw.toNatClampNeg (0 : Int64))))))))]
    rw [own_nt0 (own_HAself (own_hl hix ((own_lens _ _ _).trans ((own_lens _ _ _).trans hz))))]
    refine own_istore (l' := #[.val (.int p0), .val (.int p1), .val (.int p2), .val (.int p3), .val (.int p4), .val (.int p5), .val (.long x), .second, .val (.int (p5 &&& (3 : Int32))), .val (.int (((p5.toUInt32 >>> ((2 : Int32) &&& 31).toUInt32).toInt32) &&& (3 : Int32))), .val (.int 1), .val (.ref a714), .val (.ref a721), .val (.ref b722), .val (.ref b738), .val (.int 1), .val (.int 0), .val (.int 0), .val (.int 0), .unset, .unset, .unset, .unset]) X831 hx (hb hby at_128) rfl ?_
    refine own_aload X831 hx (hb hby at_130) rfl rfl ?_
    refine own_aload X831 hx (hb hby at_132) rfl rfl ?_
    refine own_cVirt (W := 0) (rest := []) X831 hx hZ721 [(.ref a721)] ho721 (own_m hw 59 rfl) (own_m hw 60 rfl) (notFace_of_selects (args := #[]) (mvT hZ721 (own_m hw 62 rfl))) (own_m hw 62 rfl) (own_m hw 61 rfl) (by decide) (own_m hw 63 rfl) (own_m hw 40 rfl) rfl f845 (own_Add l Z a0 hw b722 a721 b721 w723 kb721 kw723 cs cd721 bl721 nw fm bs721 H712 mk (own_ads H712 mk (own_ads H712 mk (own_ads H712 mk (own_ads H712 mk (List.replicate nw.toNatClampNeg (0 : Int64)))))) hix ((own_lens _ _ _).trans ((own_lens _ _ _).trans ((own_lens _ _ _).trans ((own_lens _ _ _).trans hz)))) T831.heap n0 Zs854 f832 hcs f833 f834 f835 f836 hfm f841 f842 f843 f844 CH721 f845 f846 f847 f848 Vw831 g_w723) (by rw [hml]; rfl) (lenOf pd_21 rfl) rfl (Nat.le_of_eq rfl) (hb hby at_134) (by decide) (by decide) (by decide) (by decide) fun v855 T855 L855 X855 hQ855 => ?_
    obtain ⟨rfl, N855q, K855, Vw855⟩ := hQ855
    have N855 := Fr.app N831 N855q
    have f856 := (own_staKeep f832 K855 (allS (own_exaStat f848) all0))
    have f857 := (own_staKeep f833 K855 (allS (own_exaStat f848) all0))
    have f858 := (own_staKeep f834 K855 (allS (own_exaStat f848) all0))
    have f859 := (own_staKeep f835 K855 (allS (own_exaStat f848) all0))
    have f860 := (own_staKeep f836 K855 (allS (own_exaStat f848) all0))
    have f861 := (Exa.keep f837 K855)
    have f862 := (Fld.keep f838 K855 (ninS (Nat.ne_of_lt (Nat.lt_of_lt_of_le (Exa.ext E722 (Exa.keep Ea714 K721)).lt szw723)) nin0))
    have f863 := (Fld.keep f839 K855 (ninS (Nat.ne_of_lt (Nat.lt_of_lt_of_le (Exa.ext E722 (Exa.keep Ea714 K721)).lt szw723)) nin0))
    have f864 := (Arv.keep f840 K855 (ninS (Nat.ne_of_lt (Nat.lt_of_lt_of_le ((Arv.keep Vb714 K721 nin0).ext E722).lt szw723)) nin0))
    have f865 := (Exa.keep f841 K855)
    have f866 := (Fld.keep f842 K855 (ninS (Nat.ne_of_lt (Nat.lt_of_lt_of_le (Exa.ext E722 Ea721).lt szw723)) nin0))
    have f867 := (Fld.keep f843 K855 (ninS (Nat.ne_of_lt (Nat.lt_of_lt_of_le (Exa.ext E722 Ea721).lt szw723)) nin0))
    have f868 := (Arv.keep f844 K855 (ninS (Nat.ne_of_lt (Nat.lt_of_lt_of_le (Vb721.ext E722).lt szw723)) nin0))
    have f869 := (Exa.keep f845 K855)
    have f870 := (Fld.keep f846 K855 (ninS (Nat.ne_of_lt (Nat.lt_of_lt_of_le A722.lt szw723)) nin0))
    have f871 := (Fld.keep f847 K855 (ninS (Nat.ne_of_lt (Nat.lt_of_lt_of_le A722.lt szw723)) nin0))
    have f872 := (Exa.keep f848 K855)
    have f873 := (Exa.keep f849 K855)
    have f874 := (Fld.keep f850 K855 (ninS (Ne.symm (Nat.ne_of_lt (Nat.lt_of_lt_of_le Ew723.lt (Nat.le_of_eq g738.symm)))) nin0))
    have f875 := (Fld.keep f851 K855 (ninS (Ne.symm (Nat.ne_of_lt (Nat.lt_of_lt_of_le Ew723.lt (Nat.le_of_eq g738.symm)))) nin0))
    have f876 := (Exa.keep f852 K855)
    have f877 := (Arv.keep f853 K855 (ninS (Ne.symm (Nat.ne_of_lt (Nat.lt_of_lt_of_le (Exa.ext E738 Ew723).lt szw739))) nin0))
    have Zs878 : n0 ≤ T855.heap.size := (Nat.le_trans Zs854 K855.1)
    show own_At p e below _ T855 m 137 _ [(.int (own_nt (own_hd H712 mk (own_ads H712 mk (own_ads H712 mk (own_ads H712 mk (own_ads H712 mk (List.replicate nw.toNatClampNeg (0 : Int64)))))))))]
    rw [own_nt0 (own_HAself (own_hl hix ((own_lens _ _ _).trans ((own_lens _ _ _).trans ((own_lens _ _ _).trans hz)))))]
    refine own_istore (l' := #[.val (.int p0), .val (.int p1), .val (.int p2), .val (.int p3), .val (.int p4), .val (.int p5), .val (.long x), .second, .val (.int (p5 &&& (3 : Int32))), .val (.int (((p5.toUInt32 >>> ((2 : Int32) &&& 31).toUInt32).toInt32) &&& (3 : Int32))), .val (.int 1), .val (.ref a714), .val (.ref a721), .val (.ref b722), .val (.ref b738), .val (.int 1), .val (.int 0), .val (.int 0), .val (.int 0), .val (.int 0), .unset, .unset, .unset]) X855 hx (hb hby at_137) rfl ?_
    refine own_aload X855 hx (hb hby at_139) rfl rfl ?_
    refine own_aload X855 hx (hb hby at_141) rfl rfl ?_
    refine own_cVirt (W := 0) (rest := []) X855 hx hZ721 [(.ref a721)] ho721 (own_m hw 59 rfl) (own_m hw 60 rfl) (notFace_of_selects (args := #[]) (mvT hZ721 (own_m hw 62 rfl))) (own_m hw 62 rfl) (own_m hw 61 rfl) (by decide) (own_m hw 63 rfl) (own_m hw 40 rfl) rfl f873 (own_Add l Z a0 hw b738 a721 b721 w739 kb721 kw739 cs cd721 bl721 nw fm bs721 H712 mk (List.replicate nw.toNatClampNeg (0 : Int64)) hix hz T855.heap n0 Zs878 f856 hcs f857 f858 f859 f860 hfm f865 f866 f867 f868 CH721 f873 f874 f875 f876 f877 g_w739) (by rw [hml]; rfl) (lenOf pd_21 rfl) rfl (Nat.le_of_eq rfl) (hb hby at_143) (by decide) (by decide) (by decide) (by decide) fun v879 T879 L879 X879 hQ879 => ?_
    obtain ⟨rfl, N879q, K879, Vw879⟩ := hQ879
    have N879 := Fr.app N855 N879q
    have f880 := (own_staKeep f856 K879 (allS (own_exaStat f876) all0))
    have f881 := (own_staKeep f857 K879 (allS (own_exaStat f876) all0))
    have f882 := (own_staKeep f858 K879 (allS (own_exaStat f876) all0))
    have f883 := (own_staKeep f859 K879 (allS (own_exaStat f876) all0))
    have f884 := (own_staKeep f860 K879 (allS (own_exaStat f876) all0))
    have f885 := (Exa.keep f861 K879)
    have f886 := (Fld.keep f862 K879 (ninS (Nat.ne_of_lt (Nat.lt_of_lt_of_le (Exa.ext E738 f729).lt szw739)) nin0))
    have f887 := (Fld.keep f863 K879 (ninS (Nat.ne_of_lt (Nat.lt_of_lt_of_le (Exa.ext E738 f729).lt szw739)) nin0))
    have f888 := (Arv.keep f864 K879 (ninS (Nat.ne_of_lt (Nat.lt_of_lt_of_le (f732.ext E738).lt szw739)) nin0))
    have f889 := (Exa.keep f865 K879)
    have f890 := (Fld.keep f866 K879 (ninS (Nat.ne_of_lt (Nat.lt_of_lt_of_le (Exa.ext E738 f733).lt szw739)) nin0))
    have f891 := (Fld.keep f867 K879 (ninS (Nat.ne_of_lt (Nat.lt_of_lt_of_le (Exa.ext E738 f733).lt szw739)) nin0))
    have f892 := (Arv.keep f868 K879 (ninS (Nat.ne_of_lt (Nat.lt_of_lt_of_le (f736.ext E738).lt szw739)) nin0))
    have f893 := (Exa.keep f869 K879)
    have f894 := (Fld.keep f870 K879 (ninS (Nat.ne_of_lt (Nat.lt_of_lt_of_le (Exa.ext E738 Ef723).lt szw739)) nin0))
    have f895 := (Fld.keep f871 K879 (ninS (Nat.ne_of_lt (Nat.lt_of_lt_of_le (Exa.ext E738 Ef723).lt szw739)) nin0))
    have f896 := (Exa.keep f872 K879)
    have f897 := (Arv.keep Vw855 K879 (ninS (Nat.ne_of_lt (Nat.lt_of_lt_of_le (Exa.ext E738 Ew723).lt szw739)) nin0))
    have f898 := (Exa.keep f873 K879)
    have f899 := (Fld.keep f874 K879 (ninS (Nat.ne_of_lt (Nat.lt_of_lt_of_le A738.lt szw739)) nin0))
    have f900 := (Fld.keep f875 K879 (ninS (Nat.ne_of_lt (Nat.lt_of_lt_of_le A738.lt szw739)) nin0))
    have f901 := (Exa.keep f876 K879)
    have Zs902 : n0 ≤ T879.heap.size := (Nat.le_trans Zs878 K879.1)
    show own_At p e below _ T879 m 146 _ [(.int (own_nt (own_hd H712 mk (List.replicate nw.toNatClampNeg (0 : Int64)))))]
    rw [own_nt1]
    refine own_istore (l' := #[.val (.int p0), .val (.int p1), .val (.int p2), .val (.int p3), .val (.int p4), .val (.int p5), .val (.long x), .second, .val (.int (p5 &&& (3 : Int32))), .val (.int (((p5.toUInt32 >>> ((2 : Int32) &&& 31).toUInt32).toInt32) &&& (3 : Int32))), .val (.int 1), .val (.ref a714), .val (.ref a721), .val (.ref b722), .val (.ref b738), .val (.int 1), .val (.int 0), .val (.int 0), .val (.int 0), .val (.int 0), .val (.int 1), .unset, .unset]) X879 hx (hb hby at_146) rfl ?_
    refine own_aload X879 hx (hb hby at_148) rfl rfl ?_
    refine own_aload X879 hx (hb hby at_150) rfl rfl ?_
    refine own_cVirt (W := 0) (rest := []) X879 hx hZ721 [(.ref a714)] ho721 (own_m hw 59 rfl) (own_m hw 60 rfl) (notFace_of_selects (args := #[]) (mvT hZ721 (own_m hw 62 rfl))) (own_m hw 62 rfl) (own_m hw 61 rfl) (by decide) (own_m hw 63 rfl) (own_m hw 40 rfl) rfl f898 (own_Add l Z a0 hw b738 a714 b714 w739 kb714 kw739 cs cd714 bl714 nw fm bs714 H712 mk (own_ads H712 mk (List.replicate nw.toNatClampNeg (0 : Int64))) hix ((own_lens _ _ _).trans hz) T879.heap n0 Zs902 f880 hcs f881 f882 f883 f884 hfm f885 f886 f887 f888 CH714 f898 f899 f900 f901 Vw879 g_w739) (by rw [hml]; rfl) (lenOf pd_21 rfl) rfl (Nat.le_of_eq rfl) (hb hby at_152) (by decide) (by decide) (by decide) (by decide) fun v903 T903 L903 X903 hQ903 => ?_
    obtain ⟨rfl, N903q, K903, Vw903⟩ := hQ903
    have N903 := Fr.app N879 N903q
    have f904 := (own_staKeep f880 K903 (allS (own_exaStat f901) all0))
    have f905 := (own_staKeep f881 K903 (allS (own_exaStat f901) all0))
    have f906 := (own_staKeep f882 K903 (allS (own_exaStat f901) all0))
    have f907 := (own_staKeep f883 K903 (allS (own_exaStat f901) all0))
    have f908 := (own_staKeep f884 K903 (allS (own_exaStat f901) all0))
    have f909 := (Exa.keep f885 K903)
    have f910 := (Fld.keep f886 K903 (ninS (Nat.ne_of_lt (Nat.lt_of_lt_of_le (Exa.ext E738 f729).lt szw739)) nin0))
    have f911 := (Fld.keep f887 K903 (ninS (Nat.ne_of_lt (Nat.lt_of_lt_of_le (Exa.ext E738 f729).lt szw739)) nin0))
    have f912 := (Arv.keep f888 K903 (ninS (Nat.ne_of_lt (Nat.lt_of_lt_of_le (f732.ext E738).lt szw739)) nin0))
    have f913 := (Exa.keep f889 K903)
    have f914 := (Fld.keep f890 K903 (ninS (Nat.ne_of_lt (Nat.lt_of_lt_of_le (Exa.ext E738 f733).lt szw739)) nin0))
    have f915 := (Fld.keep f891 K903 (ninS (Nat.ne_of_lt (Nat.lt_of_lt_of_le (Exa.ext E738 f733).lt szw739)) nin0))
    have f916 := (Arv.keep f892 K903 (ninS (Nat.ne_of_lt (Nat.lt_of_lt_of_le (f736.ext E738).lt szw739)) nin0))
    have f917 := (Exa.keep f893 K903)
    have f918 := (Fld.keep f894 K903 (ninS (Nat.ne_of_lt (Nat.lt_of_lt_of_le (Exa.ext E738 Ef723).lt szw739)) nin0))
    have f919 := (Fld.keep f895 K903 (ninS (Nat.ne_of_lt (Nat.lt_of_lt_of_le (Exa.ext E738 Ef723).lt szw739)) nin0))
    have f920 := (Exa.keep f896 K903)
    have f921 := (Arv.keep f897 K903 (ninS (Nat.ne_of_lt (Nat.lt_of_lt_of_le (Exa.ext E738 Ew723).lt szw739)) nin0))
    have f922 := (Exa.keep f898 K903)
    have f923 := (Fld.keep f899 K903 (ninS (Nat.ne_of_lt (Nat.lt_of_lt_of_le A738.lt szw739)) nin0))
    have f924 := (Fld.keep f900 K903 (ninS (Nat.ne_of_lt (Nat.lt_of_lt_of_le A738.lt szw739)) nin0))
    have f925 := (Exa.keep f901 K903)
    have Zs926 : n0 ≤ T903.heap.size := (Nat.le_trans Zs902 K903.1)
    show own_At p e below _ T903 m 155 _ [(.int (own_nt (own_hd H712 mk (own_ads H712 mk (List.replicate nw.toNatClampNeg (0 : Int64))))))]
    rw [own_nt0 (own_HAself (own_hl hix hz))]
    refine own_istore (l' := #[.val (.int p0), .val (.int p1), .val (.int p2), .val (.int p3), .val (.int p4), .val (.int p5), .val (.long x), .second, .val (.int (p5 &&& (3 : Int32))), .val (.int (((p5.toUInt32 >>> ((2 : Int32) &&& 31).toUInt32).toInt32) &&& (3 : Int32))), .val (.int 1), .val (.ref a714), .val (.ref a721), .val (.ref b722), .val (.ref b738), .val (.int 1), .val (.int 0), .val (.int 0), .val (.int 0), .val (.int 0), .val (.int 1), .val (.int 0), .unset]) X903 hx (hb hby at_155) rfl ?_
    refine own_iload X903 hx (hb hby at_157) rfl ?_
    refine own_ifNo X903 hx (hb hby at_159) (feq (by decide : ¬ ((1 : Int32) = (0 : Int32)))).1 ?_
    refine own_iload X903 hx (hb hby at_162) rfl ?_
    refine own_ifNo X903 hx (hb hby at_164) (teq (by decide : (0 : Int32) = (0 : Int32))).2 ?_
    refine own_iload X903 hx (hb hby at_167) rfl ?_
    refine own_ifNo X903 hx (hb hby at_169) (teq (by decide : (0 : Int32) = (0 : Int32))).2 ?_
    refine own_iload X903 hx (hb hby at_172) rfl ?_
    refine own_ifNo X903 hx (hb hby at_174) (teq (by decide : (0 : Int32) = (0 : Int32))).2 ?_
    refine own_iload X903 hx (hb hby at_177) rfl ?_
    refine own_ifNo X903 hx (hb hby at_179) (feq (by decide : ¬ ((1 : Int32) = (0 : Int32)))).1 ?_
    refine own_iconst X903 hx 1 (hb hby at_182) rfl ?_
    refine own_goto X903 hx 187 (hb hby at_183) (by decide) (by decide) ?_
    refine own_istore (l' := #[.val (.int p0), .val (.int p1), .val (.int p2), .val (.int p3), .val (.int p4), .val (.int p5), .val (.long x), .second, .val (.int (p5 &&& (3 : Int32))), .val (.int (((p5.toUInt32 >>> ((2 : Int32) &&& 31).toUInt32).toInt32) &&& (3 : Int32))), .val (.int 1), .val (.ref a714), .val (.ref a721), .val (.ref b722), .val (.ref b738), .val (.int 1), .val (.int 0), .val (.int 0), .val (.int 0), .val (.int 0), .val (.int 1), .val (.int 0), .val (.int 1)]) X903 hx (hb hby at_187) rfl ?_
    refine own_iload X903 hx (hb hby at_189) rfl ?_
    refine own_ifYes X903 hx 201 (hb hby at_191) (feq (by decide : ¬ ((1 : Int32) = (0 : Int32)))).2 (by decide) (by decide) ?_
    refine own_iload X903 hx (hb hby at_201) rfl ?_
    refine own_ifNo X903 hx (hb hby at_203) (feq (by decide : ¬ ((1 : Int32) = (0 : Int32)))).1 ?_
    refine own_iload X903 hx (hb hby at_206) rfl ?_
    refine own_ifNo X903 hx (hb hby at_208) (teq (by decide : (0 : Int32) = (0 : Int32))).2 ?_
    refine own_iload X903 hx (hb hby at_211) rfl ?_
    refine own_ifNo X903 hx (hb hby at_213) (teq (by decide : (0 : Int32) = (0 : Int32))).2 ?_
    refine own_iconst X903 hx 1 (hb hby at_216) rfl ?_
    refine own_goto X903 hx 221 (hb hby at_217) (by decide) (by decide) ?_
    refine own_istore (l' := #[.val (.int p0), .val (.int p1), .val (.int p2), .val (.int p3), .val (.int p4), .val (.int p5), .val (.long x), .second, .val (.int (p5 &&& (3 : Int32))), .val (.int (((p5.toUInt32 >>> ((2 : Int32) &&& 31).toUInt32).toInt32) &&& (3 : Int32))), .val (.int 1), .val (.ref a714), .val (.ref a721), .val (.ref b722), .val (.ref b738), .val (.int 1), .val (.int 0), .val (.int 0), .val (.int 0), .val (.int 0), .val (.int 1), .val (.int 0), .val (.int 1)]) X903 hx (hb hby at_221) rfl ?_
    refine own_iload X903 hx (hb hby at_223) rfl ?_
    refine own_retN X903 hx hlk hret (by simp) (by decide) (hb hby at_225) (own_kL hS721 (Nat.le_trans (Nat.le_trans (Nat.le_trans (Nat.le_trans (Nat.le_trans (Nat.le_trans (Nat.le_trans (Nat.le_trans (Nat.le_trans (Nat.le_trans (Nat.le_trans (Nat.le_refl _) E722.1) K723.1) E738.1) K739.1) K759.1) K783.1) K807.1) K831.1) K855.1) K879.1) K903.1) (by decide) (by decide) ?_)
    exact ⟨rfl, N903⟩
set_option maxRecDepth 65536 in
set_option maxHeartbeats 40000000 in
theorem comes_1 {Post : Tables → Env → Array Value → State → Outcome → State → Prop} (hpost : ∀ tb e args s v u, (limb_1_1.after args s (.returned v) u = true ∧ limb_1_2.after args s (.returned v) u = true ∧ True) → ReturnedEndW s (.returned v) u (Jvm.fieldLocs frame_1_writes args s ++ Jvm.arrayLocs frame_1_arrays args s ++ Jvm.staticLocs frame_1_statics s) 40 3264 → Post tb e args s (.returned v) u) :
    ArmFor flags0 classFile x code maxLocals ret World_1 tables_1 room_1 Calls_1 rest_1 Pre_1 Post := by
  intro l hfl _ _ p e ha hc hk s m args below hf hA hF happ hP
  obtain ⟨hcalls, hrest, hpre⟩ := hP
  obtain ⟨-, -, -, hnamed, -, -, -, hat⟩ := (Spec.applies_iff hf).mp happ
  obtain ⟨hg, hn⟩ := and_e (Cond.before_iff.mp (show (Jvm.Cond.and given_1 narrow_1).before args s = true from hpre))
  obtain ⟨g0a, g0b⟩ := and_e hg
  obtain ⟨g1a, g1b⟩ := and_e g0b
  obtain ⟨g2a, g2b⟩ := and_e g1b
  obtain ⟨g3a, g3b⟩ := and_e g2b
  obtain ⟨g4a, g4b⟩ := and_e g3b
  obtain ⟨g5a, g5b⟩ := and_e g4b
  obtain ⟨w0, w1, w2, w3, w4, w5, rfl⟩ : ∃ w0 w1 w2 w3 w4 w5 : Value, args = #[w0, w1, w2, w3, w4, w5] := by
    have hs : args.size = 6 := by simpa [Cond.value, given_1] using g0a
    obtain ⟨L⟩ := args
    match L, hs with
    | [w0, w1, w2, w3, w4, w5], _ => exact ⟨w0, w1, w2, w3, w4, w5, rfl⟩
  have hw := fun d (hd : d ∈ tables_1) => atoms_spec (ws := Jvm.Cond.code x code maxLocals ret :: tables_1) hat d (List.mem_cons_of_mem _ hd)
  have hfit : Fit s := fun {y c} hc i hi => by
    obtain ⟨ha, rfl⟩ := Array.getElem?_eq_some_iff.mp hc
    have q := List.all_eq_true.mp ((Array.all_eq_true_iff_forall_mem.mp hF) _ (Array.getElem_mem ha)) i (List.mem_range.mpr hi)
    simpa [Array.getElem?_eq_getElem hi] using q
  obtain ⟨hsets, hown0⟩ := atoms_of _ (rest_1_c_eq ▸ (show rest_1_c.before _ s = true from hrest))
  have hr0 := Cond.before_iff.mp hown0
  obtain ⟨i0, ei0⟩ := is_v g1a
  obtain rfl : w0 = (.int i0) := Option.some.inj ei0
  obtain ⟨i1, ei1⟩ := is_v g2a
  obtain rfl : w1 = (.int i1) := Option.some.inj ei1
  obtain ⟨i2, ei2⟩ := is_v g3a
  obtain rfl : w2 = (.int i2) := Option.some.inj ei2
  obtain ⟨i3, ei3⟩ := is_v g4a
  obtain rfl : w3 = (.int i3) := Option.some.inj ei3
  obtain ⟨i4, ei4⟩ := is_v g5a
  obtain rfl : w4 = (.int i4) := Option.some.inj ei4
  obtain ⟨i5, ei5⟩ := is_v g5b
  obtain rfl : w5 = (.int i5) := Option.some.inj ei5
  obtain ⟨cs, evc⟩ := is_v (Cond.before_iff.mp (hsets _ (List.mem_of_getElem? (i := 1) rfl)))
  have Sc := Sta.start evc (Or.inl (hsets _ (List.mem_of_getElem? (i := 0) rfl)))
  have hcs : ¬ cs = (0 : Int32) := gotF (Cond.eq_ints evc (Term.int_eval 0)) (not_v (Cond.before_iff.mp (hsets _ (List.mem_of_getElem? (i := 2) rfl))))
  obtain ⟨fm, evf, hfm⟩ := isR_v (Cond.before_iff.mp (hsets _ (List.mem_of_getElem? (i := 8) rfl)))
  have Sf := Sta.start evf (Or.inl (hsets _ (List.mem_of_getElem? (i := 7) rfl)))
  have Sad := Sta.start (own_eqI (Cond.before_iff.mp (hsets _ (List.mem_of_getElem? (i := 12) rfl)))) (Or.inl (hsets _ (List.mem_of_getElem? (i := 11) rfl)))
  have Shi := Sta.start (own_eqI (Cond.before_iff.mp (hsets _ (List.mem_of_getElem? (i := 15) rfl)))) (Or.inl (hsets _ (List.mem_of_getElem? (i := 14) rfl)))
  have Slo := Sta.start (own_eqI (Cond.before_iff.mp (hsets _ (List.mem_of_getElem? (i := 18) rfl)))) (Or.inl (hsets _ (List.mem_of_getElem? (i := 17) rfl)))
  have CHs : CHv s own_EL s.vm s.heap := CHv.start (own_ELw hw) (fun p hp => by simp only [List.mem_singleton] at hp; subst hp; exact (hcalls.1 _ (List.mem_of_getElem? (i := 0) rfl))) (hsets _ (List.mem_of_getElem? (i := 2) rfl)) (own_m hw 24 rfl) (own_m hw 6 rfl)
  obtain ⟨n, o, h1, h2, h3, _, L, rfl, ⟨rfl, N⟩, hq⟩ := (rm0 l s _ hw tables_1 cs fm i0 i1 i2 i3 i4 i5 s.heap s.heap.size (Nat.le_refl _) Sc hcs Sad Shi Slo Sf hfm) p e ha hc hk s m _ below hf ((Spec.applies_iff_loose hf).mp happ).1 ⟨rfl, State.Warmed39.refl s, rfl, CHs⟩ trivial
  refine ⟨n, _, h1, h2, h3, hpost _ _ _ _ _ _ ⟨Cond.after_iff.mpr rfl, Cond.after_iff.mpr (eq_i res_at (Term.int_eval (1)) rfl), trivial⟩ ⟨hq.1, hq.2.1, hq.2.2.1, (hq.2.2.2.sift fun y hy => Or.inr (N y hy)).mono (by decide) (by decide)⟩⟩
theorem main_1_1 : Claimed_1_1 := comes_1 fun _ _ _ _ _ _ h hF => ⟨h.1, hF⟩
theorem main_1_2 : Claimed_1_2 := comes_1 fun _ _ _ _ _ _ h hF => ⟨h.2.1, hF⟩
end Jvm.Pilot.@@N@@
namespace Jvm.Pilot.@@N@@
open Jvm Jvm.ClassFile Sem Op Lib Jvm.Free Jvm.Stand Jvm.Pilot.@@N@@.Jvm.D
/-! MADE BY PROGRAM (witnessworld.py) out of the Statement's table words and the real class files: 24 classes; the members and pool entries that the words name. The judged class is class 1, her method 2. -/
namespace start1
open Jvm.ClassFile
def u (s : String) : CpInfo := .utf8 (stringToUtf16 s)
/-- a pool by its gaps: so many unusable entries, then the entry; so many at the end -/
def gap : Nat → List CpInfo → List CpInfo
  | 0, r => r
  | n + 1, r => .unusable :: gap n r
def poolList (es : List (Nat × CpInfo)) (last : Nat) : List CpInfo := es.foldr (fun e r => gap e.1 (e.2 :: r)) (gap last [])
def pool (es : List (Nat × CpInfo)) (last : Nat) : Array CpInfo := ⟨poolList es last⟩
def fileOf (pool : Array CpInfo) (this : Nat) (attrs : Array Attribute := #[]) (ms : Array MethodInfo := #[]) (fl : Nat := 33) (sup : Nat := 0) (ifs : Array Nat := #[]) (fds : Array FieldInfo := #[]) : ClassFile where
  minorVersion := 0
  majorVersion := 65
  constantPool := pool
  accessFlags := fl
  thisClass := this
  superClass := sup
  interfaces := ifs
  fields := fds
  methods := ms
  attributes := attrs
def plain (name : String) (sup : Option ClassId) : Class where
  name := name
  kind := .ordinary
  loader := none
  accessFlags := 33
  super := sup
  interfaces := #[]
  cf := none
  fields := #[]
  methods := #[]
  instanceTypes := #[]
  staticTypes := #[]
  resolved := #[]
  callSites := []
  init := .initialized
  statics := none
  mirror := none

def pool0 : Array CpInfo := pool [(5, u "<init>"), (0, u "()V"), (1, .class_ 10), (1, u "java/lang/Object")] 113

def k0c0 : Code := { maxStack := 0, maxLocals := 1, code := object_method_1_code, exceptionTable := #[], attributes := #[] }
def k0m0 : Method := { name := "<init>", desc := "()V", sig := { parameters := [], returnType := none }, accessFlags := 1, code := some k0c0 }
/-- java/lang/Object -/
def k0 : Class := { plain "java/lang/Object" none with
  accessFlags := 33
  interfaces := #[]
  cf := some (fileOf pool0 8 #[] #[{ accessFlags := 1, nameIndex := 5, descriptorIndex := 6, attributes := #[] }] 33 0 #[] #[])
  fields := #[]
  methods := #[k0m0]
  instanceTypes := #[]
  staticTypes := #[]
  resolved := Array.replicate 124 none
  statics := none }

def pool1 : Array CpInfo := pool [(2, .class_ 4), (1, u "java/lang/Object"), (0, u "<init>"), (0, u "()V"), (0, .integer 65535), (0, .class_ 9), (0, u "java/lang/String"), (0, .methodref 8 11), (0, .nameAndType 5 12), (0, u "([C)V"), (0, .methodref 14 15), (0, .class_ 16), (0, .nameAndType 17 18), (0, u "com/example/vestline/vestline/cli/BloomFilterAddPinLaw"), (0, u "text"), (0, u "(III)Ljava/lang/String;"), (0, .class_ 20), (0, u "com/example/vestline/vestline/cli/BloomFilter"), (0, .methodref 19 22), (0, .nameAndType 5 23), (0, u "(J)V"), (0, .methodref 19 25), (0, .nameAndType 26 27), (0, u "add"), (0, u "(Ljava/lang/String;)Z"), (3, u "law"), (0, u "(IIIIII)Z")] 2

def k1m0 : Method := { name := "<init>", desc := "()V", sig := { parameters := [], returnType := none }, accessFlags := 1, code := none }
def k1c1 : Code := { maxStack := 6, maxLocals := 6, code := method_2_code, exceptionTable := #[], attributes := #[] }
def k1m1 : Method := { name := "text", desc := "(III)Ljava/lang/String;", sig := { parameters := [.int, .int, .int], returnType := some (.object "java/lang/String") }, accessFlags := 10, code := some k1c1 }
def k1c2 : Code := { maxStack := 4, maxLocals := 23, code := code, exceptionTable := #[], attributes := #[] }
def k1m2 : Method := { name := "law", desc := "(IIIIII)Z", sig := { parameters := [.int, .int, .int, .int, .int, .int], returnType := some .boolean }, accessFlags := 9, code := some k1c2 }
/-- com/example/vestline/vestline/cli/BloomFilterAddPinLaw -/
def k1 : Class := { plain "com/example/vestline/vestline/cli/BloomFilterAddPinLaw" (some 0) with
  accessFlags := 49
  interfaces := #[]
  cf := some (fileOf pool1 14 #[] #[{ accessFlags := 1, nameIndex := 5, descriptorIndex := 6, attributes := #[] }, { accessFlags := 10, nameIndex := 17, descriptorIndex := 18, attributes := #[] }, { accessFlags := 9, nameIndex := 31, descriptorIndex := 32, attributes := #[] }] 49 2 #[] #[])
  fields := #[]
  methods := #[k1m0, k1m1, k1m2]
  instanceTypes := #[]
  staticTypes := #[]
  resolved := Array.replicate 35 none
  statics := none }

def pool2 : Array CpInfo := pool [(1, .class_ 2), (0, u "java/io/Serializable"), (0, .class_ 4), (0, u "java/lang/Object")] 2

/-- java/io/Serializable -/
def k2 : Class := { plain "java/io/Serializable" (some 0) with
  accessFlags := 1537
  interfaces := #[]
  cf := some (fileOf pool2 1 #[] #[] 1537 3 #[] #[])
  fields := #[]
  methods := #[]
  instanceTypes := #[]
  staticTypes := #[]
  resolved := Array.replicate 7 none
  statics := none }

def pool3 : Array CpInfo := pool [(1, .class_ 2), (0, u "java/lang/Comparable"), (0, .class_ 4), (0, u "java/lang/Object")] 7

/-- java/lang/Comparable -/
def k3 : Class := { plain "java/lang/Comparable" (some 0) with
  accessFlags := 1537
  interfaces := #[]
  cf := some (fileOf pool3 1 #[] #[] 1537 3 #[] #[])
  fields := #[]
  methods := #[]
  instanceTypes := #[]
  staticTypes := #[]
  resolved := Array.replicate 12 none
  statics := none }

def pool4 : Array CpInfo := pool [(2, .class_ 4), (1, u "java/lang/CharSequence"), (42, .class_ 48), (0, u "java/lang/CharSequence$1CodePointIterator"), (10, .class_ 60), (0, u "java/lang/CharSequence$1CharIterator"), (5, .class_ 67), (0, u "java/lang/Object")] 63

/-- java/lang/CharSequence -/
def k4 : Class := { plain "java/lang/CharSequence" (some 0) with
  accessFlags := 1537
  interfaces := #[]
  cf := some (fileOf pool4 2 #[.nestMembers #[47, 59]] #[] 1537 66 #[] #[])
  fields := #[]
  methods := #[]
  instanceTypes := #[]
  staticTypes := #[]
  resolved := Array.replicate 131 none
  statics := none }

def pool5 : Array CpInfo := pool [(1, .class_ 2), (0, u "java/lang/constant/Constable"), (0, .class_ 4), (0, u "java/lang/Object")] 6

/-- java/lang/constant/Constable -/
def k5 : Class := { plain "java/lang/constant/Constable" (some 0) with
  accessFlags := 1537
  interfaces := #[]
  cf := some (fileOf pool5 1 #[] #[] 1537 3 #[] #[])
  fields := #[]
  methods := #[]
  instanceTypes := #[]
  staticTypes := #[]
  resolved := Array.replicate 11 none
  statics := none }

def pool6 : Array CpInfo := pool [(1, .class_ 2), (0, u "java/lang/constant/ConstantDesc"), (0, .class_ 4), (0, u "java/lang/Object")] 32

/-- java/lang/constant/ConstantDesc -/
def k6 : Class := { plain "java/lang/constant/ConstantDesc" (some 0) with
  accessFlags := 1537
  interfaces := #[]
  cf := some (fileOf pool6 1 #[] #[] 1537 3 #[] #[])
  fields := #[]
  methods := #[]
  instanceTypes := #[]
  staticTypes := #[]
  resolved := Array.replicate 37 none
  statics := none }

def pool7 : Array CpInfo := pool [(1, .methodref 2 3), (0, .class_ 4), (0, .nameAndType 5 6), (0, u "java/lang/Object"), (0, u "<init>"), (0, u "()V"), (0, .string 8), (0, u ""), (0, .fieldref 10 11), (0, .class_ 12), (0, .nameAndType 13 14), (0, u "java/lang/String"), (0, u "value"), (0, u "[B"), (0, .fieldref 10 16), (0, .nameAndType 17 18), (0, u "coder"), (0, u "B"), (2, u "hash"), (0, u "I"), (2, u "hashIsZero"), (0, u "Z"), (0, .methodref 10 28), (0, .nameAndType 5 29), (0, u "([CIILjava/lang/Void;)V"), (8, .fieldref 10 39), (0, .nameAndType 40 26), (0, u "COMPACT_STRINGS"), (1, .class_ 44), (1, u "java/lang/StringUTF16"), (0, u "compress"), (1, .methodref 42 48), (0, .nameAndType 49 50), (0, u "coderFromArrayLen"), (0, u "([BI)B"), (56, .class_ 109), (1, u "java/lang/StringLatin1"), (32, u "()Z"), (34, .methodref 42 178), (0, .nameAndType 45 179), (0, u "([CII)[B"), (154, u "()I"), (0, .methodref 10 336), (0, .nameAndType 17 337), (0, u "()B"), (25, u "([BI)C"), (27, u "(II)V"), (35, u "(I)C"), (64, .methodref 10 493), (0, .nameAndType 494 142), (0, u "isLatin1"), (0, .methodref 107 496), (0, .nameAndType 497 363), (0, u "charAt"), (0, .methodref 42 496), (2, u "checkIndex"), (5, u "length"), (67, .class_ 576), (0, u "java/lang/CharSequence"), (22, u "CASE_INSENSITIVE_ORDER"), (0, u "Ljava/util/Comparator;"), (409, u "([C)V"), (42, .fieldref 1054 1055), (0, .class_ 1056), (0, .nameAndType 1057 1058), (0, u "jdk/internal/util/Preconditions"), (0, u "SIOOBE_FORMATTER"), (0, u "Ljava/util/function/BiFunction;"), (0, .methodref 1054 1060), (0, .nameAndType 501 1061), (0, u "(IILjava/util/function/BiFunction;)I"), (39, u "serialPersistentFields"), (0, u "[Ljava/io/ObjectStreamField;"), (0, .class_ 1104), (0, u "java/lang/String$CaseInsensitiveComparator"), (1, .class_ 1107), (0, u "java/io/Serializable"), (0, .class_ 1109), (0, u "java/lang/Comparable"), (0, .class_ 1111), (0, u "java/lang/constant/Constable"), (0, .class_ 1113), (0, u "java/lang/constant/ConstantDesc"), (2, u "serialVersionUID"), (0, u "J"), (3, u "REPL"), (0, u "C"), (2, u "LATIN1"), (1, u "UTF16")] 323

def k7m0 : Method := { name := "<init>", desc := "()V", sig := { parameters := [], returnType := none }, accessFlags := 1, code := none }
def k7c1 : Code := { maxStack := 5, maxLocals := 2, code := jdk_42_method_3_code, exceptionTable := #[], attributes := #[] }
def k7m1 : Method := { name := "<init>", desc := "([C)V", sig := { parameters := [(.array .char)], returnType := none }, accessFlags := 1, code := some k7c1 }
def k7c2 : Code := { maxStack := 2, maxLocals := 1, code := jdk_42_method_54_code, exceptionTable := #[], attributes := #[] }
def k7m2 : Method := { name := "length", desc := "()I", sig := { parameters := [], returnType := some .int }, accessFlags := 1, code := some k7c2 }
def k7c3 : Code := { maxStack := 2, maxLocals := 2, code := jdk_42_method_56_code, exceptionTable := #[], attributes := #[] }
def k7m3 : Method := { name := "charAt", desc := "(I)C", sig := { parameters := [.int], returnType := some .char }, accessFlags := 1, code := some k7c3 }
def k7c4 : Code := { maxStack := 4, maxLocals := 6, code := jdk_42_method_149_code, exceptionTable := #[], attributes := #[] }
def k7m4 : Method := { name := "<init>", desc := "([CIILjava/lang/Void;)V", sig := { parameters := [(.array .char), .int, .int, (.object "java/lang/Void")], returnType := none }, accessFlags := 2, code := some k7c4 }
def k7c5 : Code := { maxStack := 1, maxLocals := 1, code := jdk_42_method_152_code, exceptionTable := #[], attributes := #[] }
def k7m5 : Method := { name := "coder", desc := "()B", sig := { parameters := [], returnType := some .byte }, accessFlags := 0, code := some k7c5 }
def k7c6 : Code := { maxStack := 1, maxLocals := 1, code := jdk_42_method_154_code, exceptionTable := #[], attributes := #[] }
def k7m6 : Method := { name := "isLatin1", desc := "()Z", sig := { parameters := [], returnType := some .boolean }, accessFlags := 0, code := some k7c6 }
def k7c7 : Code := { maxStack := 3, maxLocals := 2, code := jdk_42_method_155_code, exceptionTable := #[], attributes := #[] }
def k7m7 : Method := { name := "checkIndex", desc := "(II)V", sig := { parameters := [.int, .int], returnType := none }, accessFlags := 8, code := some k7c7 }
/-- java/lang/String -/
def k7 : Class := { plain "java/lang/String" (some 0) with
  accessFlags := 49
  interfaces := #[2, 3, 4, 5, 6]
  cf := some (fileOf pool7 10 #[.nestMembers #[1103]] #[{ accessFlags := 1, nameIndex := 5, descriptorIndex := 6, attributes := #[] }, { accessFlags := 1, nameIndex := 5, descriptorIndex := 1010, attributes := #[] }, { accessFlags := 1, nameIndex := 507, descriptorIndex := 334, attributes := #[] }, { accessFlags := 1, nameIndex := 497, descriptorIndex := 427, attributes := #[] }, { accessFlags := 2, nameIndex := 5, descriptorIndex := 29, attributes := #[] }, { accessFlags := 0, nameIndex := 17, descriptorIndex := 337, attributes := #[] }, { accessFlags := 0, nameIndex := 494, descriptorIndex := 142, attributes := #[] }, { accessFlags := 8, nameIndex := 501, descriptorIndex := 391, attributes := #[] }] 49 2 #[1106, 1108, 575, 1110, 1112] #[{ accessFlags := 18, nameIndex := 13, descriptorIndex := 14, attributes := #[] }, { accessFlags := 18, nameIndex := 17, descriptorIndex := 18, attributes := #[] }, { accessFlags := 2, nameIndex := 21, descriptorIndex := 22, attributes := #[] }, { accessFlags := 2, nameIndex := 25, descriptorIndex := 26, attributes := #[] }, { accessFlags := 26, nameIndex := 1116, descriptorIndex := 1117, attributes := #[] }, { accessFlags := 24, nameIndex := 40, descriptorIndex := 26, attributes := #[] }, { accessFlags := 26, nameIndex := 1101, descriptorIndex := 1102, attributes := #[] }, { accessFlags := 26, nameIndex := 1121, descriptorIndex := 1122, attributes := #[] }, { accessFlags := 25, nameIndex := 599, descriptorIndex := 600, attributes := #[] }, { accessFlags := 24, nameIndex := 1125, descriptorIndex := 18, attributes := #[] }, { accessFlags := 24, nameIndex := 1127, descriptorIndex := 18, attributes := #[] }])
  fields := #[{ name := "value", type := (.array .byte), accessFlags := 18, slot := 0, constantValue := 0 }, { name := "coder", type := .byte, accessFlags := 18, slot := 1, constantValue := 0 }, { name := "hash", type := .int, accessFlags := 2, slot := 2, constantValue := 0 }, { name := "hashIsZero", type := .boolean, accessFlags := 2, slot := 3, constantValue := 0 }, { name := "serialVersionUID", type := .long, accessFlags := 26, slot := 0, constantValue := 0 }, { name := "COMPACT_STRINGS", type := .boolean, accessFlags := 24, slot := 1, constantValue := 0 }, { name := "serialPersistentFields", type := (.array (.object "java/io/ObjectStreamField")), accessFlags := 26, slot := 2, constantValue := 0 }, { name := "REPL", type := .char, accessFlags := 26, slot := 3, constantValue := 0 }, { name := "CASE_INSENSITIVE_ORDER", type := (.object "java/util/Comparator"), accessFlags := 25, slot := 4, constantValue := 0 }, { name := "LATIN1", type := .byte, accessFlags := 24, slot := 5, constantValue := 0 }, { name := "UTF16", type := .byte, accessFlags := 24, slot := 6, constantValue := 0 }]
  methods := #[k7m0, k7m1, k7m2, k7m3, k7m4, k7m5, k7m6, k7m7]
  instanceTypes := #[(.array .byte), .byte, .int, .boolean]
  staticTypes := #[.long, .boolean, (.array (.object "java/io/ObjectStreamField")), .char, (.object "java/util/Comparator"), .byte, .byte]
  resolved := Array.replicate 1451 none
  statics := some 0 }

def pool8 : Array CpInfo := pool [(3, .class_ 4), (0, u "java/lang/String"), (1, .class_ 8), (1, u "java/lang/Object"), (0, u "<init>"), (0, u "()V"), (0, .methodref 12 13), (0, .class_ 14), (0, .nameAndType 15 16), (0, u "java/lang/StringUTF16"), (0, u "newBytesLength"), (0, u "(I)I"), (3, .integer 1073741823), (23, .fieldref 12 45), (0, .nameAndType 46 47), (0, u "$assertionsDisabled"), (0, u "Z"), (0, .methodref 12 49), (0, .nameAndType 50 51), (0, u "length"), (0, u "([B)I"), (7, .fieldref 12 60), (0, .nameAndType 61 62), (0, u "HI_BYTE_SHIFT"), (0, u "I"), (0, .fieldref 12 64), (0, .nameAndType 65 62), (0, u "LO_BYTE_SHIFT"), (1, .methodref 12 68), (0, .nameAndType 69 70), (0, u "checkIndex"), (0, u "(I[B)V"), (0, .methodref 12 72), (0, .nameAndType 73 74), (0, u "getChar"), (0, u "([BI)C"), (32, .methodref 12 108), (0, .nameAndType 109 110), (0, u "newBytesFor"), (0, u "(I)[B"), (0, .methodref 12 112), (0, .nameAndType 113 114), (0, u "putChar"), (0, u "([BII)V"), (0, .methodref 12 116), (0, .nameAndType 117 118), (0, u "compress"), (0, u "([CI[BII)I"), (0, .methodref 12 120), (0, .nameAndType 121 122), (0, u "toBytes"), (0, u "([CII)[B"), (138, u "coderFromArrayLen"), (0, u "([BI)B"), (106, .class_ 371), (1, u "java/lang/StringUTF16$LinesSpliterator"), (20, u "charAt"), (21, .methodref 3 415), (0, .nameAndType 69 416), (0, u "(II)V"), (13, u "MAX_LENGTH"), (196, .class_ 628), (0, u "java/lang/StringUTF16$CodePointsSpliterator"), (0, .class_ 630), (0, u "java/lang/StringUTF16$CharsSpliterator")] 4

def k8m0 : Method := { name := "<init>", desc := "()V", sig := { parameters := [], returnType := none }, accessFlags := 0, code := none }
def k8c1 : Code := { maxStack := 1, maxLocals := 1, code := jdk_52_method_2_code, exceptionTable := #[], attributes := #[] }
def k8m1 : Method := { name := "newBytesFor", desc := "(I)[B", sig := { parameters := [.int], returnType := some (.array .byte) }, accessFlags := 9, code := some k8c1 }
def k8c2 : Code := { maxStack := 4, maxLocals := 1, code := jdk_52_method_3_code, exceptionTable := #[], attributes := #[] }
def k8m2 : Method := { name := "newBytesLength", desc := "(I)I", sig := { parameters := [.int], returnType := some .int }, accessFlags := 9, code := some k8c2 }
def k8c3 : Code := { maxStack := 4, maxLocals := 3, code := jdk_52_method_4_code, exceptionTable := #[], attributes := #[] }
def k8m3 : Method := { name := "putChar", desc := "([BII)V", sig := { parameters := [(.array .byte), .int, .int], returnType := none }, accessFlags := 8, code := some k8c3 }
def k8c4 : Code := { maxStack := 3, maxLocals := 2, code := jdk_52_method_5_code, exceptionTable := #[], attributes := #[] }
def k8m4 : Method := { name := "getChar", desc := "([BI)C", sig := { parameters := [(.array .byte), .int], returnType := some .char }, accessFlags := 8, code := some k8c4 }
def k8c5 : Code := { maxStack := 2, maxLocals := 1, code := jdk_52_method_6_code, exceptionTable := #[], attributes := #[] }
def k8m5 : Method := { name := "length", desc := "([B)I", sig := { parameters := [(.array .byte)], returnType := some .int }, accessFlags := 9, code := some k8c5 }
def k8c6 : Code := { maxStack := 4, maxLocals := 5, code := jdk_52_method_14_code, exceptionTable := #[], attributes := #[] }
def k8m6 : Method := { name := "toBytes", desc := "([CII)[B", sig := { parameters := [(.array .char), .int, .int], returnType := some (.array .byte) }, accessFlags := 9, code := some k8c6 }
def k8c7 : Code := { maxStack := 2, maxLocals := 2, code := jdk_52_method_15_code, exceptionTable := #[], attributes := #[] }
def k8m7 : Method := { name := "coderFromArrayLen", desc := "([BI)B", sig := { parameters := [(.array .byte), .int], returnType := some .byte }, accessFlags := 8, code := some k8c7 }
def k8c8 : Code := { maxStack := 5, maxLocals := 6, code := jdk_52_method_16_code, exceptionTable := #[], attributes := #[] }
def k8m8 : Method := { name := "compress", desc := "([CII)[B", sig := { parameters := [(.array .char), .int, .int], returnType := some (.array .byte) }, accessFlags := 9, code := some k8c8 }
def k8c9 : Code := { maxStack := 3, maxLocals := 7, code := jdk_52_method_21_code, exceptionTable := #[], attributes := #[] }
def k8m9 : Method := { name := "compress", desc := "([CI[BII)I", sig := { parameters := [(.array .char), .int, (.array .byte), .int, .int], returnType := some .int }, accessFlags := 9, code := some k8c9 }
def k8c10 : Code := { maxStack := 2, maxLocals := 2, code := jdk_52_method_83_code, exceptionTable := #[], attributes := #[] }
def k8m10 : Method := { name := "charAt", desc := "([BI)C", sig := { parameters := [(.array .byte), .int], returnType := some .char }, accessFlags := 9, code := some k8c10 }
def k8c11 : Code := { maxStack := 2, maxLocals := 2, code := jdk_52_method_91_code, exceptionTable := #[], attributes := #[] }
def k8m11 : Method := { name := "checkIndex", desc := "(I[B)V", sig := { parameters := [.int, (.array .byte)], returnType := none }, accessFlags := 9, code := some k8c11 }
/-- java/lang/StringUTF16 -/
def k8 : Class := { plain "java/lang/StringUTF16" (some 0) with
  accessFlags := 48
  interfaces := #[]
  cf := some (fileOf pool8 12 #[.nestMembers #[627, 629, 369]] #[{ accessFlags := 0, nameIndex := 9, descriptorIndex := 10, attributes := #[] }, { accessFlags := 9, nameIndex := 109, descriptorIndex := 110, attributes := #[] }, { accessFlags := 9, nameIndex := 15, descriptorIndex := 16, attributes := #[] }, { accessFlags := 8, nameIndex := 113, descriptorIndex := 114, attributes := #[] }, { accessFlags := 8, nameIndex := 73, descriptorIndex := 74, attributes := #[] }, { accessFlags := 9, nameIndex := 50, descriptorIndex := 51, attributes := #[] }, { accessFlags := 9, nameIndex := 121, descriptorIndex := 122, attributes := #[] }, { accessFlags := 8, nameIndex := 261, descriptorIndex := 262, attributes := #[] }, { accessFlags := 9, nameIndex := 117, descriptorIndex := 122, attributes := #[] }, { accessFlags := 9, nameIndex := 117, descriptorIndex := 118, attributes := #[] }, { accessFlags := 9, nameIndex := 392, descriptorIndex := 74, attributes := #[] }, { accessFlags := 9, nameIndex := 69, descriptorIndex := 70, attributes := #[] }] 48 6 #[] #[{ accessFlags := 26, nameIndex := 61, descriptorIndex := 62, attributes := #[] }, { accessFlags := 26, nameIndex := 65, descriptorIndex := 62, attributes := #[] }, { accessFlags := 24, nameIndex := 430, descriptorIndex := 62, attributes := #[] }, { accessFlags := 4120, nameIndex := 46, descriptorIndex := 47, attributes := #[] }])
  fields := #[{ name := "HI_BYTE_SHIFT", type := .int, accessFlags := 26, slot := 0, constantValue := 0 }, { name := "LO_BYTE_SHIFT", type := .int, accessFlags := 26, slot := 1, constantValue := 0 }, { name := "MAX_LENGTH", type := .int, accessFlags := 24, slot := 2, constantValue := 0 }, { name := "$assertionsDisabled", type := .boolean, accessFlags := 4120, slot := 3, constantValue := 0 }]
  methods := #[k8m0, k8m1, k8m2, k8m3, k8m4, k8m5, k8m6, k8m7, k8m8, k8m9, k8m10, k8m11]
  instanceTypes := #[]
  staticTypes := #[.int, .int, .int, .boolean]
  resolved := Array.replicate 635 none
  statics := some 1 }

def pool9 : Array CpInfo := pool [(1, .methodref 2 3), (0, .class_ 4), (0, .nameAndType 5 6), (0, u "java/lang/Object"), (0, u "<init>"), (0, u "()V"), (0, .methodref 8 9), (0, .class_ 10), (0, .nameAndType 11 12), (0, u "java/lang/Long"), (0, u "bitCount"), (0, u "(J)I"), (0, .long 68719476736), (10, .long 64), (1, .fieldref 27 28), (0, .class_ 29), (0, .nameAndType 30 31), (0, u "com/example/vestline/vestline/cli/BloomFilter"), (0, u "words"), (0, u "[J"), (0, .fieldref 27 33), (0, .nameAndType 34 35), (0, u "mask"), (0, u "J"), (0, .methodref 27 37), (0, .nameAndType 38 39), (0, u "hash"), (0, u "(Ljava/lang/String;)J"), (0, .long 14695981039346656037), (1, .methodref 43 44), (0, .class_ 45), (0, .nameAndType 46 47), (0, u "java/lang/String"), (0, u "length"), (0, u "()I"), (0, .methodref 43 49), (0, .nameAndType 50 51), (0, u "charAt"), (0, u "(I)C"), (0, .long 1099511628211), (1, .long 18397679294719823053), (1, .long 14181476777654086739), (1, u "PROBES"), (0, u "I"), (2, u "(J)V"), (3, u "add"), (0, u "(Ljava/lang/String;)Z")] 17

def k9c0 : Code := { maxStack := 5, maxLocals := 3, code := prog_1_method_1_code, exceptionTable := #[], attributes := #[] }
def k9m0 : Method := { name := "<init>", desc := "(J)V", sig := { parameters := [.long], returnType := none }, accessFlags := 0, code := some k9c0 }
def k9c1 : Code := { maxStack := 6, maxLocals := 13, code := prog_1_method_2_code, exceptionTable := #[], attributes := #[] }
def k9m1 : Method := { name := "add", desc := "(Ljava/lang/String;)Z", sig := { parameters := [(.object "java/lang/String")], returnType := some .boolean }, accessFlags := 0, code := some k9c1 }
def k9c2 : Code := { maxStack := 5, maxLocals := 4, code := prog_1_method_3_code, exceptionTable := #[], attributes := #[] }
def k9m2 : Method := { name := "hash", desc := "(Ljava/lang/String;)J", sig := { parameters := [(.object "java/lang/String")], returnType := some .long }, accessFlags := 10, code := some k9c2 }
/-- com/example/vestline/vestline/cli/BloomFilter -/
def k9 : Class := { plain "com/example/vestline/vestline/cli/BloomFilter" (some 0) with
  accessFlags := 48
  interfaces := #[]
  cf := some (fileOf pool9 27 #[] #[{ accessFlags := 0, nameIndex := 5, descriptorIndex := 62, attributes := #[] }, { accessFlags := 0, nameIndex := 66, descriptorIndex := 67, attributes := #[] }, { accessFlags := 10, nameIndex := 38, descriptorIndex := 39, attributes := #[] }] 48 2 #[] #[{ accessFlags := 26, nameIndex := 58, descriptorIndex := 59, attributes := #[] }, { accessFlags := 18, nameIndex := 30, descriptorIndex := 31, attributes := #[] }, { accessFlags := 18, nameIndex := 34, descriptorIndex := 35, attributes := #[] }])
  fields := #[{ name := "PROBES", type := .int, accessFlags := 26, slot := 0, constantValue := 0 }, { name := "words", type := (.array .long), accessFlags := 18, slot := 0, constantValue := 0 }, { name := "mask", type := .long, accessFlags := 18, slot := 1, constantValue := 0 }]
  methods := #[k9m0, k9m1, k9m2]
  instanceTypes := #[(.array .long), .long]
  staticTypes := #[.int]
  resolved := Array.replicate 85 none
  statics := none }

def pool10 : Array CpInfo := pool [(2, .class_ 4), (1, u "java/lang/Object"), (0, u "<init>"), (0, u "()V"), (1, .class_ 10), (1, u "java/lang/Number"), (2, .class_ 14), (0, u "java/io/Serializable"), (0, u "serialVersionUID"), (0, u "J")] 20

def k10m0 : Method := { name := "<init>", desc := "()V", sig := { parameters := [], returnType := none }, accessFlags := 1, code := none }
/-- java/lang/Number -/
def k10 : Class := { plain "java/lang/Number" (some 0) with
  accessFlags := 1057
  interfaces := #[2]
  cf := some (fileOf pool10 8 #[] #[{ accessFlags := 1, nameIndex := 5, descriptorIndex := 6, attributes := #[] }] 1057 2 #[13] #[{ accessFlags := 26, nameIndex := 15, descriptorIndex := 16, attributes := #[] }])
  fields := #[{ name := "serialVersionUID", type := .long, accessFlags := 26, slot := 0, constantValue := 0 }]
  methods := #[k10m0]
  instanceTypes := #[]
  staticTypes := #[.long]
  resolved := Array.replicate 37 none
  statics := none }

def pool11 : Array CpInfo := pool [(1, .class_ 2), (0, u "java/lang/Long"), (98, u "(J)I"), (133, .class_ 237), (1, u "java/lang/Long$LongCache"), (33, .class_ 272), (0, u "java/lang/Number"), (2, u "value"), (0, u "J"), (37, .long 6148914691236517205), (1, .long 3689348814741910323), (1, .long 1085102592571150095), (42, u "TYPE"), (0, u "Ljava/lang/Class;"), (0, .class_ 364), (0, u "java/lang/Comparable"), (0, .class_ 366), (0, u "java/lang/constant/Constable"), (0, .class_ 368), (0, u "java/lang/constant/ConstantDesc"), (0, u "MIN_VALUE"), (1, u "MAX_VALUE"), (4, u "SIZE"), (0, u "I"), (1, u "BYTES"), (1, u "serialVersionUID"), (94, u "bitCount")] 47

def k11c0 : Code := { maxStack := 6, maxLocals := 2, code := jdk_35_method_50_code, exceptionTable := #[], attributes := #[] }
def k11m0 : Method := { name := "bitCount", desc := "(J)I", sig := { parameters := [.long], returnType := some .int }, accessFlags := 9, code := some k11c0 }
/-- java/lang/Long -/
def k11 : Class := { plain "java/lang/Long" (some 10) with
  accessFlags := 49
  interfaces := #[3, 5, 6]
  cf := some (fileOf pool11 1 #[.nestMembers #[235]] #[{ accessFlags := 9, nameIndex := 476, descriptorIndex := 101, attributes := #[] }] 49 271 #[363, 365, 367] #[{ accessFlags := 25, nameIndex := 369, descriptorIndex := 276, attributes := #[] }, { accessFlags := 25, nameIndex := 371, descriptorIndex := 276, attributes := #[] }, { accessFlags := 25, nameIndex := 361, descriptorIndex := 362, attributes := #[] }, { accessFlags := 18, nameIndex := 275, descriptorIndex := 276, attributes := #[] }, { accessFlags := 25, nameIndex := 376, descriptorIndex := 377, attributes := #[] }, { accessFlags := 25, nameIndex := 379, descriptorIndex := 377, attributes := #[] }, { accessFlags := 26, nameIndex := 381, descriptorIndex := 276, attributes := #[] }])
  fields := #[{ name := "MIN_VALUE", type := .long, accessFlags := 25, slot := 0, constantValue := 0 }, { name := "MAX_VALUE", type := .long, accessFlags := 25, slot := 1, constantValue := 0 }, { name := "TYPE", type := (.object "java/lang/Class"), accessFlags := 25, slot := 2, constantValue := 0 }, { name := "value", type := .long, accessFlags := 18, slot := 0, constantValue := 0 }, { name := "SIZE", type := .int, accessFlags := 25, slot := 3, constantValue := 0 }, { name := "BYTES", type := .int, accessFlags := 25, slot := 4, constantValue := 0 }, { name := "serialVersionUID", type := .long, accessFlags := 26, slot := 5, constantValue := 0 }]
  methods := #[k11m0]
  instanceTypes := #[.long]
  staticTypes := #[.long, .long, (.object "java/lang/Class"), .int, .int, .long]
  resolved := Array.replicate 524 none
  statics := none }

def pool12 : Array CpInfo := pool [(1, .class_ 2), (0, u "java/lang/String"), (1, .class_ 6), (1, u "java/lang/Object"), (0, u "<init>"), (0, u "()V"), (0, .methodref 1 10), (0, .nameAndType 11 12), (0, u "checkIndex"), (0, u "(II)V"), (1, .class_ 16), (1, u "java/lang/StringLatin1"), (36, u "([BI)C"), (67, u "$assertionsDisabled"), (0, u "Z"), (98, .class_ 223), (1, u "java/lang/StringLatin1$LinesSpliterator"), (28, u "charAt"), (137, .class_ 391), (0, u "java/lang/StringLatin1$CharsSpliterator")] 3

def k12m0 : Method := { name := "<init>", desc := "()V", sig := { parameters := [], returnType := none }, accessFlags := 0, code := none }
def k12c1 : Code := { maxStack := 2, maxLocals := 2, code := jdk_43_method_2_code, exceptionTable := #[], attributes := #[] }
def k12m1 : Method := { name := "charAt", desc := "([BI)C", sig := { parameters := [(.array .byte), .int], returnType := some .char }, accessFlags := 9, code := some k12c1 }
/-- java/lang/StringLatin1 -/
def k12 : Class := { plain "java/lang/StringLatin1" (some 0) with
  accessFlags := 48
  interfaces := #[]
  cf := some (fileOf pool12 14 #[.nestMembers #[390, 221]] #[{ accessFlags := 0, nameIndex := 7, descriptorIndex := 8, attributes := #[] }, { accessFlags := 9, nameIndex := 252, descriptorIndex := 53, attributes := #[] }] 48 4 #[] #[{ accessFlags := 4120, nameIndex := 121, descriptorIndex := 122, attributes := #[] }])
  fields := #[{ name := "$assertionsDisabled", type := .boolean, accessFlags := 4120, slot := 0, constantValue := 0 }]
  methods := #[k12m0, k12m1]
  instanceTypes := #[]
  staticTypes := #[.boolean]
  resolved := Array.replicate 395 none
  statics := none }

def pool13 : Array CpInfo := pool [(2, .class_ 4), (1, u "java/lang/Object"), (0, u "<init>"), (0, u "()V"), (17, .class_ 26), (1, u "jdk/internal/util/Preconditions"), (6, u "checkIndex"), (21, .class_ 56), (0, u "jdk/internal/util/Preconditions$4"), (57, .class_ 115), (0, u "jdk/internal/util/Preconditions$1"), (7, u "SIOOBE_FORMATTER"), (0, u "Ljava/util/function/BiFunction;"), (0, .class_ 126), (0, u "jdk/internal/util/Preconditions$2"), (3, u "AIOOBE_FORMATTER"), (0, .class_ 132), (0, u "jdk/internal/util/Preconditions$3"), (3, u "IOOBE_FORMATTER"), (41, u "(IILjava/util/function/BiFunction;)I")] 15

def k13m0 : Method := { name := "<init>", desc := "()V", sig := { parameters := [], returnType := none }, accessFlags := 1, code := none }
def k13c1 : Code := { maxStack := 3, maxLocals := 3, code := jdk_41_method_11_code, exceptionTable := #[], attributes := #[] }
def k13m1 : Method := { name := "checkIndex", desc := "(IILjava/util/function/BiFunction;)I", sig := { parameters := [.int, .int, (.object "java/util/function/BiFunction")], returnType := some .int }, accessFlags := 9, code := some k13c1 }
/-- jdk/internal/util/Preconditions -/
def k13 : Class := { plain "jdk/internal/util/Preconditions" (some 0) with
  accessFlags := 33
  interfaces := #[]
  cf := some (fileOf pool13 24 #[.nestMembers #[55, 131, 125, 114]] #[{ accessFlags := 1, nameIndex := 5, descriptorIndex := 6, attributes := #[] }, { accessFlags := 9, nameIndex := 33, descriptorIndex := 178, attributes := #[] }] 33 2 #[] #[{ accessFlags := 25, nameIndex := 123, descriptorIndex := 124, attributes := #[] }, { accessFlags := 25, nameIndex := 130, descriptorIndex := 124, attributes := #[] }, { accessFlags := 25, nameIndex := 136, descriptorIndex := 124, attributes := #[] }])
  fields := #[{ name := "SIOOBE_FORMATTER", type := (.object "java/util/function/BiFunction"), accessFlags := 25, slot := 0, constantValue := 0 }, { name := "AIOOBE_FORMATTER", type := (.object "java/util/function/BiFunction"), accessFlags := 25, slot := 1, constantValue := 0 }, { name := "IOOBE_FORMATTER", type := (.object "java/util/function/BiFunction"), accessFlags := 25, slot := 2, constantValue := 0 }]
  methods := #[k13m0, k13m1]
  instanceTypes := #[]
  staticTypes := #[(.object "java/util/function/BiFunction"), (.object "java/util/function/BiFunction"), (.object "java/util/function/BiFunction")]
  resolved := Array.replicate 194 none
  statics := some 2 }

def pool14 : Array CpInfo := pool [(9, u "<init>"), (6, .class_ 18), (1, u "java/lang/Object"), (0, u "()V"), (1, .class_ 23), (1, u "jdk/internal/util/ArraysSupport"), (0, u "LOG2_ARRAY_LONG_INDEX_SCALE"), (0, u "I"), (2, u "U"), (0, u "Ljdk/internal/misc/Unsafe;"), (8, u "BIG_ENDIAN"), (0, u "Z"), (8, u "LOG2_BYTE_BIT_SIZE"), (4, u "LOG2_ARRAY_INT_INDEX_SCALE"), (54, u "JLA"), (0, u "Ljdk/internal/access/JavaLangAccess;"), (11, u "LOG2_ARRAY_BOOLEAN_INDEX_SCALE"), (9, u "LOG2_ARRAY_BYTE_INDEX_SCALE"), (5, u "LOG2_ARRAY_CHAR_INDEX_SCALE"), (5, u "LOG2_ARRAY_SHORT_INDEX_SCALE"), (18, u "LOG2_ARRAY_FLOAT_INDEX_SCALE"), (24, u "LOG2_ARRAY_DOUBLE_INDEX_SCALE"), (89, u "T_BOOLEAN"), (2, u "T_CHAR"), (1, u "T_FLOAT"), (1, u "T_DOUBLE"), (1, u "T_BYTE"), (1, u "T_SHORT"), (1, u "T_INT"), (1, u "T_LONG"), (1, u "SOFT_MAX_ARRAY_LENGTH")] 83

def k14m0 : Method := { name := "<init>", desc := "()V", sig := { parameters := [], returnType := none }, accessFlags := 2, code := none }
/-- jdk/internal/util/ArraysSupport -/
def k14 : Class := { plain "jdk/internal/util/ArraysSupport" (some 0) with
  accessFlags := 33
  interfaces := #[]
  cf := some (fileOf pool14 21 #[] #[{ accessFlags := 2, nameIndex := 9, descriptorIndex := 19, attributes := #[] }] 33 16 #[] #[{ accessFlags := 24, nameIndex := 28, descriptorIndex := 29, attributes := #[] }, { accessFlags := 26, nameIndex := 38, descriptorIndex := 39, attributes := #[] }, { accessFlags := 25, nameIndex := 121, descriptorIndex := 25, attributes := #[] }, { accessFlags := 25, nameIndex := 131, descriptorIndex := 25, attributes := #[] }, { accessFlags := 25, nameIndex := 137, descriptorIndex := 25, attributes := #[] }, { accessFlags := 25, nameIndex := 143, descriptorIndex := 25, attributes := #[] }, { accessFlags := 25, nameIndex := 53, descriptorIndex := 25, attributes := #[] }, { accessFlags := 25, nameIndex := 24, descriptorIndex := 25, attributes := #[] }, { accessFlags := 25, nameIndex := 162, descriptorIndex := 25, attributes := #[] }, { accessFlags := 25, nameIndex := 187, descriptorIndex := 25, attributes := #[] }, { accessFlags := 26, nameIndex := 48, descriptorIndex := 25, attributes := #[] }, { accessFlags := 25, nameIndex := 277, descriptorIndex := 25, attributes := #[] }, { accessFlags := 25, nameIndex := 280, descriptorIndex := 25, attributes := #[] }, { accessFlags := 25, nameIndex := 282, descriptorIndex := 25, attributes := #[] }, { accessFlags := 25, nameIndex := 284, descriptorIndex := 25, attributes := #[] }, { accessFlags := 25, nameIndex := 286, descriptorIndex := 25, attributes := #[] }, { accessFlags := 25, nameIndex := 288, descriptorIndex := 25, attributes := #[] }, { accessFlags := 25, nameIndex := 290, descriptorIndex := 25, attributes := #[] }, { accessFlags := 25, nameIndex := 292, descriptorIndex := 25, attributes := #[] }, { accessFlags := 26, nameIndex := 108, descriptorIndex := 109, attributes := #[] }, { accessFlags := 25, nameIndex := 294, descriptorIndex := 25, attributes := #[] }])
  fields := #[{ name := "U", type := (.object "jdk/internal/misc/Unsafe"), accessFlags := 24, slot := 0, constantValue := 0 }, { name := "BIG_ENDIAN", type := .boolean, accessFlags := 26, slot := 1, constantValue := 0 }, { name := "LOG2_ARRAY_BOOLEAN_INDEX_SCALE", type := .int, accessFlags := 25, slot := 2, constantValue := 0 }, { name := "LOG2_ARRAY_BYTE_INDEX_SCALE", type := .int, accessFlags := 25, slot := 3, constantValue := 0 }, { name := "LOG2_ARRAY_CHAR_INDEX_SCALE", type := .int, accessFlags := 25, slot := 4, constantValue := 0 }, { name := "LOG2_ARRAY_SHORT_INDEX_SCALE", type := .int, accessFlags := 25, slot := 5, constantValue := 0 }, { name := "LOG2_ARRAY_INT_INDEX_SCALE", type := .int, accessFlags := 25, slot := 6, constantValue := 0 }, { name := "LOG2_ARRAY_LONG_INDEX_SCALE", type := .int, accessFlags := 25, slot := 7, constantValue := 0 }, { name := "LOG2_ARRAY_FLOAT_INDEX_SCALE", type := .int, accessFlags := 25, slot := 8, constantValue := 0 }, { name := "LOG2_ARRAY_DOUBLE_INDEX_SCALE", type := .int, accessFlags := 25, slot := 9, constantValue := 0 }, { name := "LOG2_BYTE_BIT_SIZE", type := .int, accessFlags := 26, slot := 10, constantValue := 0 }, { name := "T_BOOLEAN", type := .int, accessFlags := 25, slot := 11, constantValue := 0 }, { name := "T_CHAR", type := .int, accessFlags := 25, slot := 12, constantValue := 0 }, { name := "T_FLOAT", type := .int, accessFlags := 25, slot := 13, constantValue := 0 }, { name := "T_DOUBLE", type := .int, accessFlags := 25, slot := 14, constantValue := 0 }, { name := "T_BYTE", type := .int, accessFlags := 25, slot := 15, constantValue := 0 }, { name := "T_SHORT", type := .int, accessFlags := 25, slot := 16, constantValue := 0 }, { name := "T_INT", type := .int, accessFlags := 25, slot := 17, constantValue := 0 }, { name := "T_LONG", type := .int, accessFlags := 25, slot := 18, constantValue := 0 }, { name := "JLA", type := (.object "jdk/internal/access/JavaLangAccess"), accessFlags := 26, slot := 19, constantValue := 0 }, { name := "SOFT_MAX_ARRAY_LENGTH", type := .int, accessFlags := 25, slot := 20, constantValue := 0 }]
  methods := #[k14m0]
  instanceTypes := #[]
  staticTypes := #[(.object "jdk/internal/misc/Unsafe"), .boolean, .int, .int, .int, .int, .int, .int, .int, .int, .int, .int, .int, .int, .int, .int, .int, .int, .int, (.object "jdk/internal/access/JavaLangAccess"), .int]
  resolved := Array.replicate 378 none
  statics := none }

def pool15 : Array CpInfo := pool [(1, u "java/lang/Cloneable"), (0, .class_ 1), (0, u "java/lang/Object"), (0, .class_ 3)] 3

/-- java/lang/Cloneable -/
def k15 : Class := { plain "java/lang/Cloneable" (some 0) with
  accessFlags := 1537
  interfaces := #[]
  cf := some (fileOf pool15 2 #[] #[] 1537 4 #[] #[])
  fields := #[]
  methods := #[]
  instanceTypes := #[]
  staticTypes := #[]
  resolved := Array.replicate 8 none
  statics := none }

/-- the primitive byte -/
def k16 : Class := { plain "byte" none with kind := .primitive 'B', accessFlags := 0x411 }
/-- [B -/
def k17 : Class := { plain "[B" (some 0) with kind := .array 16 .byte, interfaces := #[15, 2], accessFlags := 1041 }

/-- the primitive char -/
def k18 : Class := { plain "char" none with kind := .primitive 'C', accessFlags := 0x411 }
/-- [C -/
def k19 : Class := { plain "[C" (some 0) with kind := .array 18 .char, interfaces := #[15, 2], accessFlags := 1041 }

/-- the primitive int -/
def k20 : Class := { plain "int" none with kind := .primitive 'I', accessFlags := 0x411 }
/-- [I -/
def k21 : Class := { plain "[I" (some 0) with kind := .array 20 .int, interfaces := #[15, 2], accessFlags := 1041 }

/-- the primitive long -/
def k22 : Class := { plain "long" none with kind := .primitive 'J', accessFlags := 0x411 }
/-- [J -/
def k23 : Class := { plain "[J" (some 0) with kind := .array 22 .long, interfaces := #[15, 2], accessFlags := 1041 }

def heap : Heap := #[{ cls := 7, slots := #[.long 0, .int 1, .null, .int 0, .null, .int 0, .int 0], vm := .statics 7 },
  { cls := 8, slots := #[.int 0, .int 8, .int 0, .int 1], vm := .statics 8 },
  { cls := 13, slots := #[.null, .null, .null], vm := .statics 13 }]
def classes : Array Class := #[k0, k1, k2, k3, k4, k5, k6, k7, k8, k9, k10, k11, k12, k13, k14, k15, k16, k17, k18, k19, k20, k21, k22, k23]
def interned : List (Array UInt16 × Addr) := []
def slotsUsed : Nat := 14
def theMethod : MethodId := ⟨1, 2⟩
def args0 : Array Value := #[.int 3, .int 4, .int 5, .int 9, .int 2, .int 6]
def aboutOver (below : List Frame) : State where
  vm := { classes := classes, interned := interned.toArray }
  heap := heap
  slotsUsed := slotsUsed
  threads := #[{ frames := .invoking theMethod args0 :: below }]
def below0 : List Frame := [.native { method := ⟨0, 0⟩, args := #[] }]
def about1 : State := aboutOver below0
def p0 : Program := .bare "" "" ""
def e0 : Env := launch0.env 0 0 0
theorem w_frames : about1.frames = Frame.invoking theMethod args0 :: below0 := rfl
set_option maxRecDepth 65536 in
theorem w_args : argsFit about1.vm theMethod args0 = true := by decide +kernel
set_option maxRecDepth 65536 in
theorem w_heap : heapFits about1 = true := by decide +kernel
set_option maxRecDepth 65536 in
theorem w_runnable : about1.curStatus? = some .runnable := by decide +kernel
set_option maxRecDepth 65536 in
theorem w_alone : about1.alone = true := by decide +kernel
set_option maxRecDepth 65536 in
theorem w_named : about1.methodNamed? x = some theMethod := by decide +kernel
set_option maxRecDepth 65536 in
theorem w_hears : about1.hears theMethod below0 = true := by decide +kernel
set_option maxRecDepth 65536 in
theorem w_ripe : about1.ripe theMethod args0 below0 = true := by decide +kernel
theorem w_running : about1.status = .running := rfl
set_option maxRecDepth 65536 in
theorem w_room : about1.hasRoom e0.platform room_1 = true :=
  launch0.hasRoom_least _ room_1 (by decide +kernel) (by decide +kernel) (by decide +kernel) (by decide +kernel) (by decide +kernel) (by decide +kernel)
theorem allAtoms_all (ts : List Jvm.Cond) (a : Array Jvm.Value) (st : Jvm.State) : (allAtoms ts).before a st = ts.all (fun c => c.before a st) := by
  induction ts with
  | nil => rfl
  | cons c t ih =>
    show (Jvm.Cond.and c (allAtoms t)).before a st = _
    rw [Jvm.Cond.before_and, ih, List.all_cons]
def words1 : List Jvm.Cond := Jvm.Cond.code x code maxLocals ret :: tables_1
/-- a 'code' word, met by the world's own term for the bytes: nothing is compared byte by byte -/
theorem code_word {y : MethodName} {bytes : ByteArray} {mx : Nat} {rt : Option FieldType} {a : Array Value} {s : State} {m : MethodId} {meth : Method} {c : Code} (h1 : s.methodNamed? y = some m) (h2 : s.vm.method? m = some meth) (h3 : meth.code = some c) (h4 : c.code = bytes)
    (h5 : (c.maxLocals == mx && c.exceptionTable.isEmpty && decide (c.maxStack ≤ mostOperands) && decide (meth.sig.returnType = rt) && !meth.locks && decide (parseMethodDescriptor y.desc = some meth.sig)) = true) : (Jvm.Cond.code y bytes mx rt).before a s = true := by
  simp only [Bool.and_eq_true, beq_iff_eq, Bool.not_eq_true', decide_eq_true_eq] at h5
  obtain ⟨⟨⟨⟨⟨g1, g2⟩, g3⟩, g4⟩, g5⟩, g6⟩ := h5
  simp [Cond.before, Cond.holds, Cond.value, h1, h2, h3, h4, g1, g2, g3, g4, g5, g6]
def isCode : Jvm.Cond → Bool
  | .code _ _ _ _ => true
  | _ => false
theorem all_split {L : List Jvm.Cond} {P : Jvm.Cond → Bool} (h1 : L.all (fun c => isCode c || P c) = true) (h2 : ∀ c ∈ L.filter isCode, P c = true) : L.all P = true := by
  refine List.all_eq_true.mpr fun c hc => ?_
  have h := List.all_eq_true.mp h1 c hc
  rcases Bool.eq_false_or_eq_true (isCode c) with hi | hi
  · exact h2 c (List.mem_filter.mpr ⟨hc, hi⟩)
  · simpa [hi] using h
set_option maxRecDepth 65536 in
theorem w_c0 : (Jvm.Cond.code x code maxLocals ret).before args0 about1 = true := code_word (m := ⟨1, 2⟩) (meth := k1m2) (c := k1c2) (by decide +kernel) rfl rfl rfl (by decide +kernel)
set_option maxRecDepth 65536 in
theorem w_c1 : (Jvm.Cond.code ({ cls := "com/example/vestline/vestline/cli/BloomFilterAddPinLaw", name := "text", desc := "(III)Ljava/lang/String;" } : Jvm.MethodName) method_2_code (6 : Nat) (Option.some (Jvm.ClassFile.FieldType.object "java/lang/String"))).before args0 about1 = true := code_word (m := ⟨1, 1⟩) (meth := k1m1) (c := k1c1) (by decide +kernel) rfl rfl rfl (by decide +kernel)
set_option maxRecDepth 65536 in
theorem w_c2 : (Jvm.Cond.code ({ cls := "java/lang/String", name := "<init>", desc := "([C)V" } : Jvm.MethodName) jdk_42_method_3_code (2 : Nat) (Option.none : Option Jvm.ClassFile.FieldType)).before args0 about1 = true := code_word (m := ⟨7, 1⟩) (meth := k7m1) (c := k7c1) (by decide +kernel) rfl rfl rfl (by decide +kernel)
set_option maxRecDepth 65536 in
theorem w_c3 : (Jvm.Cond.code ({ cls := "java/lang/String", name := "<init>", desc := "([CIILjava/lang/Void;)V" } : Jvm.MethodName) jdk_42_method_149_code (6 : Nat) (Option.none : Option Jvm.ClassFile.FieldType)).before args0 about1 = true := code_word (m := ⟨7, 4⟩) (meth := k7m4) (c := k7c4) (by decide +kernel) rfl rfl rfl (by decide +kernel)
set_option maxRecDepth 65536 in
theorem w_c4 : (Jvm.Cond.code ({ cls := "java/lang/Object", name := "<init>", desc := "()V" } : Jvm.MethodName) object_method_1_code (1 : Nat) (Option.none : Option Jvm.ClassFile.FieldType)).before args0 about1 = true := code_word (m := ⟨0, 0⟩) (meth := k0m0) (c := k0c0) (by decide +kernel) rfl rfl rfl (by decide +kernel)
set_option maxRecDepth 65536 in
theorem w_c5 : (Jvm.Cond.code ({ cls := "java/lang/StringUTF16", name := "compress", desc := "([CII)[B" } : Jvm.MethodName) jdk_52_method_16_code (6 : Nat) (Option.some (Jvm.ClassFile.FieldType.array Jvm.ClassFile.FieldType.byte))).before args0 about1 = true := code_word (m := ⟨8, 8⟩) (meth := k8m8) (c := k8c8) (by decide +kernel) rfl rfl rfl (by decide +kernel)
set_option maxRecDepth 65536 in
theorem w_c6 : (Jvm.Cond.code ({ cls := "java/lang/StringUTF16", name := "compress", desc := "([CI[BII)I" } : Jvm.MethodName) jdk_52_method_21_code (7 : Nat) (Option.some Jvm.ClassFile.FieldType.int)).before args0 about1 = true := code_word (m := ⟨8, 9⟩) (meth := k8m9) (c := k8c9) (by decide +kernel) rfl rfl rfl (by decide +kernel)
set_option maxRecDepth 65536 in
theorem w_c7 : (Jvm.Cond.code ({ cls := "java/lang/StringUTF16", name := "coderFromArrayLen", desc := "([BI)B" } : Jvm.MethodName) jdk_52_method_15_code (2 : Nat) (Option.some Jvm.ClassFile.FieldType.byte)).before args0 about1 = true := code_word (m := ⟨8, 7⟩) (meth := k8m7) (c := k8c7) (by decide +kernel) rfl rfl rfl (by decide +kernel)
set_option maxRecDepth 65536 in
theorem w_c8 : (Jvm.Cond.code ({ cls := "com/example/vestline/vestline/cli/BloomFilter", name := "<init>", desc := "(J)V" } : Jvm.MethodName) prog_1_method_1_code (3 : Nat) (Option.none : Option Jvm.ClassFile.FieldType)).before args0 about1 = true := code_word (m := ⟨9, 0⟩) (meth := k9m0) (c := k9c0) (by decide +kernel) rfl rfl rfl (by decide +kernel)
set_option maxRecDepth 65536 in
theorem w_c9 : (Jvm.Cond.code ({ cls := "java/lang/Long", name := "bitCount", desc := "(J)I" } : Jvm.MethodName) jdk_35_method_50_code (2 : Nat) (Option.some Jvm.ClassFile.FieldType.int)).before args0 about1 = true := code_word (m := ⟨11, 0⟩) (meth := k11m0) (c := k11c0) (by decide +kernel) rfl rfl rfl (by decide +kernel)
set_option maxRecDepth 65536 in
theorem w_c10 : (Jvm.Cond.code ({ cls := "com/example/vestline/vestline/cli/BloomFilter", name := "add", desc := "(Ljava/lang/String;)Z" } : Jvm.MethodName) prog_1_method_2_code (13 : Nat) (Option.some Jvm.ClassFile.FieldType.boolean)).before args0 about1 = true := code_word (m := ⟨9, 1⟩) (meth := k9m1) (c := k9c1) (by decide +kernel) rfl rfl rfl (by decide +kernel)
set_option maxRecDepth 65536 in
theorem w_c11 : (Jvm.Cond.code ({ cls := "com/example/vestline/vestline/cli/BloomFilter", name := "hash", desc := "(Ljava/lang/String;)J" } : Jvm.MethodName) prog_1_method_3_code (4 : Nat) (Option.some Jvm.ClassFile.FieldType.long)).before args0 about1 = true := code_word (m := ⟨9, 2⟩) (meth := k9m2) (c := k9c2) (by decide +kernel) rfl rfl rfl (by decide +kernel)
set_option maxRecDepth 65536 in
theorem w_c12 : (Jvm.Cond.code ({ cls := "java/lang/String", name := "length", desc := "()I" } : Jvm.MethodName) jdk_42_method_54_code (1 : Nat) (Option.some Jvm.ClassFile.FieldType.int)).before args0 about1 = true := code_word (m := ⟨7, 2⟩) (meth := k7m2) (c := k7c2) (by decide +kernel) rfl rfl rfl (by decide +kernel)
set_option maxRecDepth 65536 in
theorem w_c13 : (Jvm.Cond.code ({ cls := "java/lang/String", name := "coder", desc := "()B" } : Jvm.MethodName) jdk_42_method_152_code (1 : Nat) (Option.some Jvm.ClassFile.FieldType.byte)).before args0 about1 = true := code_word (m := ⟨7, 5⟩) (meth := k7m5) (c := k7c5) (by decide +kernel) rfl rfl rfl (by decide +kernel)
set_option maxRecDepth 65536 in
theorem w_c14 : (Jvm.Cond.code ({ cls := "java/lang/String", name := "charAt", desc := "(I)C" } : Jvm.MethodName) jdk_42_method_56_code (2 : Nat) (Option.some Jvm.ClassFile.FieldType.char)).before args0 about1 = true := code_word (m := ⟨7, 3⟩) (meth := k7m3) (c := k7c3) (by decide +kernel) rfl rfl rfl (by decide +kernel)
set_option maxRecDepth 65536 in
theorem w_c15 : (Jvm.Cond.code ({ cls := "java/lang/String", name := "isLatin1", desc := "()Z" } : Jvm.MethodName) jdk_42_method_154_code (1 : Nat) (Option.some Jvm.ClassFile.FieldType.boolean)).before args0 about1 = true := code_word (m := ⟨7, 6⟩) (meth := k7m6) (c := k7c6) (by decide +kernel) rfl rfl rfl (by decide +kernel)
set_option maxRecDepth 65536 in
theorem w_c16 : (Jvm.Cond.code ({ cls := "java/lang/StringLatin1", name := "charAt", desc := "([BI)C" } : Jvm.MethodName) jdk_43_method_2_code (2 : Nat) (Option.some Jvm.ClassFile.FieldType.char)).before args0 about1 = true := code_word (m := ⟨12, 1⟩) (meth := k12m1) (c := k12c1) (by decide +kernel) rfl rfl rfl (by decide +kernel)
set_option maxRecDepth 65536 in
theorem w_c17 : (Jvm.Cond.code ({ cls := "java/lang/String", name := "checkIndex", desc := "(II)V" } : Jvm.MethodName) jdk_42_method_155_code (2 : Nat) (Option.none : Option Jvm.ClassFile.FieldType)).before args0 about1 = true := code_word (m := ⟨7, 7⟩) (meth := k7m7) (c := k7c7) (by decide +kernel) rfl rfl rfl (by decide +kernel)
set_option maxRecDepth 65536 in
theorem w_c18 : (Jvm.Cond.code ({ cls := "jdk/internal/util/Preconditions", name := "checkIndex", desc := "(IILjava/util/function/BiFunction;)I" } : Jvm.MethodName) jdk_41_method_11_code (3 : Nat) (Option.some Jvm.ClassFile.FieldType.int)).before args0 about1 = true := code_word (m := ⟨13, 1⟩) (meth := k13m1) (c := k13c1) (by decide +kernel) rfl rfl rfl (by decide +kernel)
set_option maxRecDepth 65536 in
theorem w_c19 : (Jvm.Cond.code ({ cls := "java/lang/StringUTF16", name := "toBytes", desc := "([CII)[B" } : Jvm.MethodName) jdk_52_method_14_code (5 : Nat) (Option.some (Jvm.ClassFile.FieldType.array Jvm.ClassFile.FieldType.byte))).before args0 about1 = true := code_word (m := ⟨8, 6⟩) (meth := k8m6) (c := k8c6) (by decide +kernel) rfl rfl rfl (by decide +kernel)
set_option maxRecDepth 65536 in
theorem w_c20 : (Jvm.Cond.code ({ cls := "java/lang/StringUTF16", name := "newBytesFor", desc := "(I)[B" } : Jvm.MethodName) jdk_52_method_2_code (1 : Nat) (Option.some (Jvm.ClassFile.FieldType.array Jvm.ClassFile.FieldType.byte))).before args0 about1 = true := code_word (m := ⟨8, 1⟩) (meth := k8m1) (c := k8c1) (by decide +kernel) rfl rfl rfl (by decide +kernel)
set_option maxRecDepth 65536 in
theorem w_c21 : (Jvm.Cond.code ({ cls := "java/lang/StringUTF16", name := "newBytesLength", desc := "(I)I" } : Jvm.MethodName) jdk_52_method_3_code (1 : Nat) (Option.some Jvm.ClassFile.FieldType.int)).before args0 about1 = true := code_word (m := ⟨8, 2⟩) (meth := k8m2) (c := k8c2) (by decide +kernel) rfl rfl rfl (by decide +kernel)
set_option maxRecDepth 65536 in
theorem w_c22 : (Jvm.Cond.code ({ cls := "java/lang/StringUTF16", name := "putChar", desc := "([BII)V" } : Jvm.MethodName) jdk_52_method_4_code (3 : Nat) (Option.none : Option Jvm.ClassFile.FieldType)).before args0 about1 = true := code_word (m := ⟨8, 3⟩) (meth := k8m3) (c := k8c3) (by decide +kernel) rfl rfl rfl (by decide +kernel)
set_option maxRecDepth 65536 in
theorem w_c23 : (Jvm.Cond.code ({ cls := "java/lang/StringUTF16", name := "getChar", desc := "([BI)C" } : Jvm.MethodName) jdk_52_method_5_code (2 : Nat) (Option.some Jvm.ClassFile.FieldType.char)).before args0 about1 = true := code_word (m := ⟨8, 4⟩) (meth := k8m4) (c := k8c4) (by decide +kernel) rfl rfl rfl (by decide +kernel)
set_option maxRecDepth 65536 in
theorem w_c24 : (Jvm.Cond.code ({ cls := "java/lang/StringUTF16", name := "charAt", desc := "([BI)C" } : Jvm.MethodName) jdk_52_method_83_code (2 : Nat) (Option.some Jvm.ClassFile.FieldType.char)).before args0 about1 = true := code_word (m := ⟨8, 10⟩) (meth := k8m10) (c := k8c10) (by decide +kernel) rfl rfl rfl (by decide +kernel)
set_option maxRecDepth 65536 in
theorem w_c25 : (Jvm.Cond.code ({ cls := "java/lang/StringUTF16", name := "checkIndex", desc := "(I[B)V" } : Jvm.MethodName) jdk_52_method_91_code (2 : Nat) (Option.none : Option Jvm.ClassFile.FieldType)).before args0 about1 = true := code_word (m := ⟨8, 11⟩) (meth := k8m11) (c := k8c11) (by decide +kernel) rfl rfl rfl (by decide +kernel)
set_option maxRecDepth 65536 in
theorem w_c26 : (Jvm.Cond.code ({ cls := "java/lang/StringUTF16", name := "length", desc := "([B)I" } : Jvm.MethodName) jdk_52_method_6_code (1 : Nat) (Option.some Jvm.ClassFile.FieldType.int)).before args0 about1 = true := code_word (m := ⟨8, 5⟩) (meth := k8m5) (c := k8c5) (by decide +kernel) rfl rfl rfl (by decide +kernel)
def codes1 : List Jvm.Cond := [Jvm.Cond.code x code maxLocals ret, Jvm.Cond.code ({ cls := "com/example/vestline/vestline/cli/BloomFilterAddPinLaw", name := "text", desc := "(III)Ljava/lang/String;" } : Jvm.MethodName) method_2_code (6 : Nat) (Option.some (Jvm.ClassFile.FieldType.object "java/lang/String")), Jvm.Cond.code ({ cls := "java/lang/String", name := "<init>", desc := "([C)V" } : Jvm.MethodName) jdk_42_method_3_code (2 : Nat) (Option.none : Option Jvm.ClassFile.FieldType), Jvm.Cond.code ({ cls := "java/lang/String", name := "<init>", desc := "([CIILjava/lang/Void;)V" } : Jvm.MethodName) jdk_42_method_149_code (6 : Nat) (Option.none : Option Jvm.ClassFile.FieldType), Jvm.Cond.code ({ cls := "java/lang/Object", name := "<init>", desc := "()V" } : Jvm.MethodName) object_method_1_code (1 : Nat) (Option.none : Option Jvm.ClassFile.FieldType), Jvm.Cond.code ({ cls := "java/lang/StringUTF16", name := "compress", desc := "([CII)[B" } : Jvm.MethodName) jdk_52_method_16_code (6 : Nat) (Option.some (Jvm.ClassFile.FieldType.array Jvm.ClassFile.FieldType.byte)), Jvm.Cond.code ({ cls := "java/lang/StringUTF16", name := "compress", desc := "([CI[BII)I" } : Jvm.MethodName) jdk_52_method_21_code (7 : Nat) (Option.some Jvm.ClassFile.FieldType.int), Jvm.Cond.code ({ cls := "java/lang/StringUTF16", name := "coderFromArrayLen", desc := "([BI)B" } : Jvm.MethodName) jdk_52_method_15_code (2 : Nat) (Option.some Jvm.ClassFile.FieldType.byte), Jvm.Cond.code ({ cls := "com/example/vestline/vestline/cli/BloomFilter", name := "<init>", desc := "(J)V" } : Jvm.MethodName) prog_1_method_1_code (3 : Nat) (Option.none : Option Jvm.ClassFile.FieldType), Jvm.Cond.code ({ cls := "java/lang/Long", name := "bitCount", desc := "(J)I" } : Jvm.MethodName) jdk_35_method_50_code (2 : Nat) (Option.some Jvm.ClassFile.FieldType.int), Jvm.Cond.code ({ cls := "com/example/vestline/vestline/cli/BloomFilter", name := "add", desc := "(Ljava/lang/String;)Z" } : Jvm.MethodName) prog_1_method_2_code (13 : Nat) (Option.some Jvm.ClassFile.FieldType.boolean), Jvm.Cond.code ({ cls := "com/example/vestline/vestline/cli/BloomFilter", name := "hash", desc := "(Ljava/lang/String;)J" } : Jvm.MethodName) prog_1_method_3_code (4 : Nat) (Option.some Jvm.ClassFile.FieldType.long), Jvm.Cond.code ({ cls := "java/lang/String", name := "length", desc := "()I" } : Jvm.MethodName) jdk_42_method_54_code (1 : Nat) (Option.some Jvm.ClassFile.FieldType.int), Jvm.Cond.code ({ cls := "java/lang/String", name := "coder", desc := "()B" } : Jvm.MethodName) jdk_42_method_152_code (1 : Nat) (Option.some Jvm.ClassFile.FieldType.byte), Jvm.Cond.code ({ cls := "java/lang/String", name := "charAt", desc := "(I)C" } : Jvm.MethodName) jdk_42_method_56_code (2 : Nat) (Option.some Jvm.ClassFile.FieldType.char), Jvm.Cond.code ({ cls := "java/lang/String", name := "isLatin1", desc := "()Z" } : Jvm.MethodName) jdk_42_method_154_code (1 : Nat) (Option.some Jvm.ClassFile.FieldType.boolean), Jvm.Cond.code ({ cls := "java/lang/StringLatin1", name := "charAt", desc := "([BI)C" } : Jvm.MethodName) jdk_43_method_2_code (2 : Nat) (Option.some Jvm.ClassFile.FieldType.char), Jvm.Cond.code ({ cls := "java/lang/String", name := "checkIndex", desc := "(II)V" } : Jvm.MethodName) jdk_42_method_155_code (2 : Nat) (Option.none : Option Jvm.ClassFile.FieldType), Jvm.Cond.code ({ cls := "jdk/internal/util/Preconditions", name := "checkIndex", desc := "(IILjava/util/function/BiFunction;)I" } : Jvm.MethodName) jdk_41_method_11_code (3 : Nat) (Option.some Jvm.ClassFile.FieldType.int), Jvm.Cond.code ({ cls := "java/lang/StringUTF16", name := "toBytes", desc := "([CII)[B" } : Jvm.MethodName) jdk_52_method_14_code (5 : Nat) (Option.some (Jvm.ClassFile.FieldType.array Jvm.ClassFile.FieldType.byte)), Jvm.Cond.code ({ cls := "java/lang/StringUTF16", name := "newBytesFor", desc := "(I)[B" } : Jvm.MethodName) jdk_52_method_2_code (1 : Nat) (Option.some (Jvm.ClassFile.FieldType.array Jvm.ClassFile.FieldType.byte)), Jvm.Cond.code ({ cls := "java/lang/StringUTF16", name := "newBytesLength", desc := "(I)I" } : Jvm.MethodName) jdk_52_method_3_code (1 : Nat) (Option.some Jvm.ClassFile.FieldType.int), Jvm.Cond.code ({ cls := "java/lang/StringUTF16", name := "putChar", desc := "([BII)V" } : Jvm.MethodName) jdk_52_method_4_code (3 : Nat) (Option.none : Option Jvm.ClassFile.FieldType), Jvm.Cond.code ({ cls := "java/lang/StringUTF16", name := "getChar", desc := "([BI)C" } : Jvm.MethodName) jdk_52_method_5_code (2 : Nat) (Option.some Jvm.ClassFile.FieldType.char), Jvm.Cond.code ({ cls := "java/lang/StringUTF16", name := "charAt", desc := "([BI)C" } : Jvm.MethodName) jdk_52_method_83_code (2 : Nat) (Option.some Jvm.ClassFile.FieldType.char), Jvm.Cond.code ({ cls := "java/lang/StringUTF16", name := "checkIndex", desc := "(I[B)V" } : Jvm.MethodName) jdk_52_method_91_code (2 : Nat) (Option.none : Option Jvm.ClassFile.FieldType), Jvm.Cond.code ({ cls := "java/lang/StringUTF16", name := "length", desc := "([B)I" } : Jvm.MethodName) jdk_52_method_6_code (1 : Nat) (Option.some Jvm.ClassFile.FieldType.int)]
set_option maxRecDepth 65536 in
theorem codes_eq : words1.filter isCode = codes1 := rfl
theorem w_codes : ∀ c ∈ words1.filter isCode, c.before args0 about1 = true := by
  rw [codes_eq]
  intro c hc
  simp only [codes1, List.mem_cons, List.not_mem_nil, or_false] at hc
  rcases hc with rfl | rfl | rfl | rfl | rfl | rfl | rfl | rfl | rfl | rfl | rfl | rfl | rfl | rfl | rfl | rfl | rfl | rfl | rfl | rfl | rfl | rfl | rfl | rfl | rfl | rfl | rfl
  · exact w_c0
  · exact w_c1
  · exact w_c2
  · exact w_c3
  · exact w_c4
  · exact w_c5
  · exact w_c6
  · exact w_c7
  · exact w_c8
  · exact w_c9
  · exact w_c10
  · exact w_c11
  · exact w_c12
  · exact w_c13
  · exact w_c14
  · exact w_c15
  · exact w_c16
  · exact w_c17
  · exact w_c18
  · exact w_c19
  · exact w_c20
  · exact w_c21
  · exact w_c22
  · exact w_c23
  · exact w_c24
  · exact w_c25
  · exact w_c26
set_option maxRecDepth 65536 in
theorem w_t1 : (words1.take 24).all (fun c => isCode c || c.before args0 about1) = true := by decide +kernel
set_option maxRecDepth 65536 in
theorem w_t2 : ((words1.drop 24).take 24).all (fun c => isCode c || c.before args0 about1) = true := by decide +kernel
set_option maxRecDepth 65536 in
theorem w_t3 : (((words1.drop 24).drop 24).take 24).all (fun c => isCode c || c.before args0 about1) = true := by decide +kernel
set_option maxRecDepth 65536 in
theorem w_t4 : ((((words1.drop 24).drop 24).drop 24).take 24).all (fun c => isCode c || c.before args0 about1) = true := by decide +kernel
set_option maxRecDepth 65536 in
theorem w_t5 : (((((words1.drop 24).drop 24).drop 24).drop 24).take 24).all (fun c => isCode c || c.before args0 about1) = true := by decide +kernel
set_option maxRecDepth 65536 in
theorem w_t6 : (((((words1.drop 24).drop 24).drop 24).drop 24).drop 24).all (fun c => isCode c || c.before args0 about1) = true := by decide +kernel
theorem w_tables : (allAtoms (Jvm.Cond.code x code maxLocals ret :: tables_1)).before args0 about1 = true := by
  rw [allAtoms_all]
  show words1.all (fun c => c.before args0 about1) = true
  refine all_split ?_ w_codes
  rw [← List.take_append_drop 24 words1, List.all_append, w_t1, ← List.take_append_drop 24 (words1.drop 24), List.all_append, w_t2, ← List.take_append_drop 24 ((words1.drop 24).drop 24), List.all_append, w_t3, ← List.take_append_drop 24 (((words1.drop 24).drop 24).drop 24), List.all_append, w_t4, ← List.take_append_drop 24 ((((words1.drop 24).drop 24).drop 24).drop 24), List.all_append, w_t5, w_t6]
  rfl
set_option maxRecDepth 65536 in
theorem w_rest : rest_1_c.before args0 about1 = true := by decide +kernel
set_option maxRecDepth 65536 in
theorem w_case : (Jvm.Cond.and given_1 narrow_1).before args0 about1 = true := by decide +kernel
set_option maxRecDepth 65536 in
theorem w_consts : constsHeld consts_1 about1 := Jvm.Lit.constsHeldB_iff.mp (by decide +kernel)
theorem w_applies : (headSpec (Jvm.Cond.code x code maxLocals ret :: tables_1) room_1).applies x e0.platform about1 = true :=
  (Spec.applies_iff w_frames).mpr ⟨w_running, w_runnable, w_alone, w_named, w_hears, w_ripe, w_room, w_tables⟩
theorem atStart : AtStart classFile x code maxLocals ret World_1 tables_1 room_1 Calls_1 rest_1 Pre_1 launch0 p0 e0 about1 theMethod args0 below0 :=
  ⟨lists_1, trivial, launch0.admits_env _ _ _, launch0.least_env, fairChoices_fair.cas, fairChoices_fair.clock, w_frames, w_args, w_heap, w_applies, ⟨w_consts, trivial⟩, w_rest, w_case⟩
end start1
theorem witness_1 : WitnessClaimed_1 := ⟨start1.p0, start1.e0, start1.about1, start1.theMethod, start1.args0, start1.below0, start1.atStart⟩
end Jvm.Pilot.@@N@@
