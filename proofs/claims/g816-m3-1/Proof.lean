import JvmDerived
import JvmDerived.Pilot.@@N@@Statement
import JvmDerived.Pilot.@@N@@Code
set_option linter.unusedVariables false
set_option linter.unusedSimpArgs false
namespace Jvm.Pilot.@@N@@
open Jvm Jvm.ClassFile Sem Op Lib Jvm.Free Jvm.Stand Jvm.LawKit Jvm.RoadKit Bundle Jvm.Pilot.@@N@@.Jvm.D
section OwnKit
variable {p : Program} {l : Launch} {e : Env} {R : Room} {s : State} {m : MethodId} {args : Array Value} {below : List Frame} {meth : Method} {c : Code} {T : State} {locs : List Loc} {cells slots : Nat} {Z : State} {a0 : Array Value} {h : Heap}
/-- from S on the run comes to the method's end, and there K holds -/
def own_Fin (p : Program) (e : Env) (below : List Frame) (K : State → Outcome → Prop) (S : State) : Prop :=
  ∃ s₂ o, Steps p.tables e below S s₂ ∧ s₂.status = .running ∧ Ended s₂ below o ∧ K s₂ o
theorem own_step {K : State → Outcome → Prop} {S S' : State} (k : ∀ t, Steps p.tables e below S' t → Steps p.tables e below S t) (hF : own_Fin p e below K S') : own_Fin p e below K S := by
  obtain ⟨s₂, o, h1, r⟩ := hF
  exact ⟨s₂, o, k _ h1, r⟩
/-- the three ends: nothing interned; perhaps a literal loaded, the invariant kept; the law's own -/
abbrev own_K (s : State) (Q : Option Value → Heap → List Loc → Prop) (rc rs : Nat) : State → Outcome → Prop := fun s₂ o => ∃ v L, o = .returned v ∧ Q v s₂.heap L ∧ FrameEnd s o s₂ L rc rs
abbrev own_KW (Z : State) (EL : List (String × Nat)) (s : State) (Q : Option Value → Heap → List Loc → Prop) (rc rs : Nat) : State → Outcome → Prop := fun s₂ o => ∃ v L, o = .returned v ∧ Q v s₂.heap L ∧ CHr Z EL s.vm s.heap s₂.vm s₂.heap ∧ ReturnedEndW s o s₂ L rc rs
abbrev own_KL (s : State) (Q : Option Value → Heap → List Loc → Prop) (rc rs : Nat) : State → Outcome → Prop := fun s₂ o => ∃ v L, o = .returned v ∧ Q v s₂.heap L ∧ ReturnedEndW s o s₂ L rc rs
abbrev own_Met (l : Launch) (y : MethodName) (bytes : ByteArray) (maxL : Nat) (ret : Option FieldType) (ws : List Jvm.Cond) (rm : Room) (Z : State) (as' : Array Value) (h0 : Heap) (Q : Option Value → Heap → List Loc → Prop) : Prop :=
  MetFree l y (head1 (Jvm.Cond.code y bytes maxL ret :: ws) rm) (fun a U => a = as' ∧ Z.Warmed39 U.vm ∧ U.heap = h0) (fun _ _ _ _ _ => True) (fun _ U o U' => ∃ v L, o = .returned v ∧ Q v U'.heap L ∧ FrameEnd U o U' L rm.cells rm.slots)
abbrev own_MetW (l : Launch) (y : MethodName) (bytes : ByteArray) (maxL : Nat) (ret : Option FieldType) (ws : List Jvm.Cond) (rm : Room) (Z : State) (EL : List (String × Nat)) (as' : Array Value) (h0 : Heap) (Q : Option Value → Heap → List Loc → Prop) : Prop :=
  MetFree l y (head1 (Jvm.Cond.code y bytes maxL ret :: ws) rm) (fun a U => a = as' ∧ Z.Warmed39 U.vm ∧ U.heap = h0 ∧ CHv Z EL U.vm h0) (fun _ _ _ _ _ => True) (fun _ U o U' => ∃ v L, o = .returned v ∧ Q v U'.heap L ∧ CHr Z EL U.vm U.heap U'.vm U'.heap ∧ ReturnedEndW U o U' L rm.cells rm.slots)
abbrev own_MetL (l : Launch) (y : MethodName) (bytes : ByteArray) (maxL : Nat) (ret : Option FieldType) (ws : List Jvm.Cond) (rm : Room) (Z : State) (EL : List (String × Nat)) (as' : Array Value) (h0 : Heap) (Q : Option Value → Heap → List Loc → Prop) : Prop :=
  MetFree l y (head1 (Jvm.Cond.code y bytes maxL ret :: ws) rm) (fun a U => a = as' ∧ Z.Warmed39 U.vm ∧ U.heap = h0 ∧ CHv Z EL U.vm h0) (fun _ _ _ _ _ => True) (fun _ U o U' => ∃ v L, o = .returned v ∧ Q v U'.heap L ∧ ReturnedEndW U o U' L rm.cells rm.slots)
section Bodies
variable {y : MethodName} {bytes : ByteArray} {maxL : Nat} {ret : Option FieldType} {ws : List Jvm.Cond} {rm : Room} {as' : Array Value} {h0 : Heap} {Q : Option Value → Heap → List Loc → Prop} {EL : List (String × Nat)}
theorem own_body (hy : plainFor y = true)
    (hB : ∀ (p : Program) (e : Env) (s : State) (m : MethodId) (below : List Frame) (meth : Method) (c : Code) (s₁ : State), Stand p l e rm s m as' below meth c s₁ [] 0 0 → p.tables.exec = Jvm.exec → c.code = bytes → c.maxLocals = maxL → s.vm.findClass y.cls = some m.cls → meth.name = y.name → meth.sig.returnType = ret → meth.locks = false → Z.Warmed39 s.vm → s₁.heap = h0 →
      own_Fin p e below (own_K s Q rm.cells rm.slots) (s₁.setTop (entryFrame m as' maxL))) : own_Met l y bytes maxL ret ws rm Z as' h0 Q := by
  refine MetFree.of_bodySF hy hisR ?_
  intro p e s m args below meth c s₁ Bd hml0 hP hK
  obtain ⟨rfl, hZ, hh⟩ := hP
  exact hB p e s m below meth c s₁ (Stand.of_body Bd) Bd.exec Bd.bytes hml0 (findClass_of_methodNamed Bd.named) (name_of_methodNamed Bd.named Bd.method).1 Bd.returns Bd.notSynchronized hZ (by rw [← hh, Bd.state]; rfl)
theorem own_bodyW (hy : plainFor y = true)
    (hB : ∀ (p : Program) (e : Env) (s : State) (m : MethodId) (below : List Frame) (meth : Method) (c : Code) (s₁ : State), Stand p l e rm (s.setVm s.vm) m as' below meth c s₁ [] 0 0 → p.tables.exec = Jvm.exec → c.code = bytes → c.maxLocals = maxL → (s.setVm s.vm).vm.findClass y.cls = some m.cls → meth.name = y.name → meth.sig.returnType = ret → meth.locks = false → Z.Warmed39 (s.setVm s.vm).vm → s₁.heap = h0 → s.heap = h0 → CHv Z EL s.vm h0 → s.Since s.vm h0.size →
      own_Fin p e below (own_KW Z EL s Q rm.cells rm.slots) (s₁.setTop (entryFrame m as' maxL))) : own_MetW l y bytes maxL ret ws rm Z EL as' h0 Q := by
  refine MetFree.of_bodySF hy hisR ?_
  intro p e s m args below meth c s₁ Bd hml0 hP hK
  obtain ⟨rfl, hZ, hh, hC⟩ := hP
  exact hB p e s m below meth c s₁ (Stand.of_body Bd) Bd.exec Bd.bytes hml0 (findClass_of_methodNamed Bd.named) (name_of_methodNamed Bd.named Bd.method).1 Bd.returns Bd.notSynchronized hZ (by rw [← hh, Bd.state]; rfl) hh hC ((State.WarmedH.refl s).since _)
theorem own_bodyL (hy : plainFor y = true)
    (hB : ∀ (p : Program) (e : Env) (s : State) (m : MethodId) (below : List Frame) (meth : Method) (c : Code) (s₁ : State), Stand p l e rm (s.setVm s.vm) m as' below meth c s₁ [] 0 0 → p.tables.exec = Jvm.exec → c.code = bytes → c.maxLocals = maxL → (s.setVm s.vm).vm.findClass y.cls = some m.cls → meth.name = y.name → meth.sig.returnType = ret → meth.locks = false → Z.Warmed39 (s.setVm s.vm).vm → s₁.heap = h0 → s.heap = h0 → CHv Z EL s.vm h0 → s.Since s.vm h0.size →
      own_Fin p e below (own_KL s Q rm.cells rm.slots) (s₁.setTop (entryFrame m as' maxL))) : own_MetL l y bytes maxL ret ws rm Z EL as' h0 Q := by
  refine MetFree.of_bodySF hy hisR ?_
  intro p e s m args below meth c s₁ Bd hml0 hP hK
  obtain ⟨rfl, hZ, hh, hC⟩ := hP
  exact hB p e s m below meth c s₁ (Stand.of_body Bd) Bd.exec Bd.bytes hml0 (findClass_of_methodNamed Bd.named) (name_of_methodNamed Bd.named Bd.method).1 Bd.returns Bd.notSynchronized hZ (by rw [← hh, Bd.state]; rfl) hh hC ((State.WarmedH.refl s).since _)
end Bodies
section Ends
variable {K : State → Outcome → Prop} {Q : Option Value → Heap → List Loc → Prop} {rc rs : Nat} {v : Option Value} {EL : List (String × Nat)} {vm0 : Vm} {k0 : Nat}
/-- what an end must show -/
abbrev own_E (s : State) (T : State) (locs : List Loc) (cells slots : Nat) (v : Option Value) (K : State → Outcome → Prop) : Prop := ∀ fs, s.WarmedH (T.setFrames fs).vm → s.sameButNew ({ T.setFrames fs with vm := s.vm } : State) locs cells slots → K (T.setFrames fs) (.returned v)
theorem own_kN (hc : cells ≤ rc) (hs : slots ≤ rs) (hQ : Q v T.heap locs) : own_E s T locs cells slots v (own_K s Q rc rs) := fun fs hW hsm => ⟨_, _, rfl, hQ, ⟨_, rfl⟩, hW, hsm.mono hc hs⟩
theorem own_kL (hS : s.Since vm0 k0) (hk : k0 ≤ T.heap.size) (hc : cells ≤ rc) (hs : slots ≤ rs) (hQ : Q v T.heap locs) : own_E (s.setVm vm0) T locs cells slots v (own_KL s Q rc rs) := fun fs hW hsm => by
  obtain ⟨a, b, c'⟩ := hS.ended (U := T.setFrames fs) hW hk hsm
  exact ⟨_, _, rfl, hQ, ⟨_, rfl⟩, a, b, c'.mono hc hs⟩
theorem own_kW (X : Stand p l e R (s.setVm vm0) m args below meth c T locs cells slots) (hZ : Z.Warmed39 vm0) (hEL : EW Z a0 EL) (hC : CHr Z EL s.vm s.heap vm0 T.heap) (hS : s.Since vm0 k0) (hk : k0 ≤ T.heap.size) (hc : cells ≤ rc) (hs : slots ≤ rs) (hQ : Q v T.heap locs) : own_E (s.setVm vm0) T locs cells slots v (own_KW Z EL s Q rc rs) := fun fs hW hsm => by
  obtain ⟨a, b, c'⟩ := hS.ended (U := T.setFrames fs) hW hk hsm
  exact ⟨_, _, rfl, hQ, hC.trans (show CHr Z EL vm0 T.heap T.vm T.heap from CHv.at X hZ hEL hC.1), ⟨_, rfl⟩, a, b, c'.mono hc hs⟩
theorem own_ret {S : State} (X : Stand p l e R s m args below meth c T locs cells slots) (hlk : meth.locks = false) (hv : meth.sig.returnType = none → v = none)
    (hst : ∀ fs, (∀ (f : JFrame) (acts : List Action), f.method = m → f.locked = none → f.entered = [] → (doReturn e (T.setTop f) acts v).1 = T.setFrames fs) → Steps p.tables e below S (T.setFrames fs))
    (hK : own_E s T locs cells slots v K) : own_Fin p e below K S := by
  obtain ⟨fs, hr, hrun, hended, hW, hsame⟩ := X.leave (v := v) hv hlk
  exact ⟨_, _, hst fs hr, hrun, hended, hK fs hW hsame⟩
variable {pc : Nat} {Ls : Array Slot}
theorem own_retV (X : Stand p l e R s m args below meth c T locs cells slots) (hx : p.tables.exec = Jvm.exec) (hlk : meth.locks = false) (hret : meth.sig.returnType = none) (hd : decode c.code pc = .ok (.return_, 1)) (hK : own_E s T locs cells slots none K) : own_Fin p e below K (T.setTop (mkF m pc Ls [])) :=
  own_ret X hlk (fun _ => rfl) (fun fs hr => X.returnOut hx hret hd hr) hK
theorem own_retI {z : Int32} (X : Stand p l e R s m args below meth c T locs cells slots) (hx : p.tables.exec = Jvm.exec) (hlk : meth.locks = false) (hret : meth.sig.returnType = some .int) (hd : decode c.code pc = .ok (.ireturn, 1)) (hK : own_E s T locs cells slots (some (.int z)) K) : own_Fin p e below K (T.setTop (mkF m pc Ls [.int z])) :=
  own_ret X hlk (fun q => by rw [hret] at q; cases q) (fun fs hr => retOut X hx hret rfl (Or.inl ⟨rfl, Or.inl rfl, z, rfl⟩) hd hr) hK
theorem own_retA {w : Value} {t : FieldType} (X : Stand p l e R s m args below meth c T locs cells slots) (hx : p.tables.exec = Jvm.exec) (hlk : meth.locks = false) (hret : meth.sig.returnType = some t) (ht : t.isReference = true) (hn : narrow t w = w) (hw : w.isRef = true) (hd : decode c.code pc = .ok (.areturn, 1)) (hK : own_E s T locs cells slots (some w) K) : own_Fin p e below K (T.setTop (mkF m pc Ls [w])) :=
  own_ret X hlk (fun q => by rw [hret] at q; cases q) (fun fs hr => retOut X hx hret hn (Or.inr (Or.inr (Or.inr (Or.inr ⟨rfl, ht, hw⟩)))) hd hr) hK
/-- a boolean, byte, char or short that already fits -/
theorem own_retN {z : Int32} {t : FieldType} (X : Stand p l e R s m args below meth c T locs cells slots) (hx : p.tables.exec = Jvm.exec) (hlk : meth.locks = false) (hret : meth.sig.returnType = some t) (ht : t = .boolean ∨ t = .byte ∨ t = .char ∨ t = .short) (hn : nar t z = z) (hd : decode c.code pc = .ok (.ireturn, 1)) (hK : own_E s T locs cells slots (some (.int z)) K) : own_Fin p e below K (T.setTop (mkF m pc Ls [.int z])) :=
  own_ret X hlk (fun q => by rw [hret] at q; cases q) (fun fs hr => retN X hx hret ht hd (by rw [hn]; exact hr)) hK
end Ends
section Calls
variable {y z : MethodName} {bytes : ByteArray} {maxL W : Nat} {ret : Option FieldType} {rm : Room} {Q : Option Value → Heap → List Loc → Prop} {own C : String} {index : Nat} {b : Addr} {argsL rest : List Value} {g : JFrame}
theorem own_virt (X : Stand p l e R s m args below meth c T locs cells slots) (hx : p.tables.exec = Jvm.exec) (hZ : Z.Warmed39 s.vm) (hown : s.vm.findClass own = some m.cls) (w1 : (Jvm.Cond.methodLink own index y).before a0 Z = true) (w2 : (Jvm.Cond.declares y).before a0 Z = true) (nf : NotFace s y) (w3 : (Jvm.Cond.selects C y z).before a0 Z = true) (w4 : (Jvm.Cond.instanceMethod z).before a0 Z = true) (hy : y.cls ≠ "java/lang/invoke/MethodHandle" ∧ y.cls ≠ "java/lang/invoke/VarHandle")
    (wc : (Jvm.Cond.code z bytes maxL ret).before a0 Z = true) (wz : (Jvm.Cond.initialized z.cls).before a0 Z = true) (eT : T.heap = h) (E : Exa Z h b C) (hM : own_Met l z bytes maxL ret [] rm Z (.ref b :: argsL).toArray h Q) (hg : g.method = m) (hsize : g.locals.size = c.maxLocals) (hlen : ∀ sig, parseMethodDescriptor y.desc = some sig → argsL.length = sig.parameters.length)
    (hstack : g.stack = argsL.reverse ++ .ref b :: rest) (hW : 2 * g.monitorRoom + (rest.map fun v => v.category).sum ≤ W) (hd : decode c.code g.pc = .ok (.invokevirtual index, 3)) (hf : rm.frames + 1 ≤ R.frames) (hl : W + (maxL + 11) + rm.locals ≤ R.locals) (hc : cells + rm.cells ≤ R.cells) (hs : slots + rm.slots ≤ R.slots) :
    ∃ (v : Option Value) (T' : State) (L : List Loc), Stand p l e R s m args below meth c T' (locs ++ L) (cells + rm.cells) (slots + rm.slots) ∧ Q v T'.heap L ∧ ∀ t, Steps p.tables e below (T'.setTop { g with pc := g.pc + 3, stack := v.toList ++ rest }) t → Steps p.tables e below (T.setTop g) t := by
  obtain ⟨cq, kq, qa, qb, qc⟩ := isOf hZ eT E
  obtain ⟨v, vm1, ⟨T', L', k', n'⟩, -, X', ⟨L, hQ, hl', hk', hn'⟩, st⟩ := X.virtualBack hx (y := y) (z := z) hown (mvT hZ w1) (mvT hZ w2) nf (mvT hZ w3) (mvT hZ w4) hy (backOf (W := W) hM hZ wc wz hf hl) qa qc hg hsize (Steps.refl _) hlen hstack hW hd (fun _ _ => ⟨rfl, eT, hc, hs⟩)
  dsimp only [Pt.U, Pt.locs, Pt.cells, Pt.slots] at X' hl' hk' hn' st hQ
  subst hl' hk' hn'
  exact ⟨v, T', L, X', hQ, fun t k => st.trans k⟩
theorem own_stat (X : Stand p l e R s m args below meth c T locs cells slots) (hx : p.tables.exec = Jvm.exec) (hZ : Z.Warmed39 s.vm) (hown : s.vm.findClass own = some m.cls) (w1 : (Jvm.Cond.methodLink own index y).before a0 Z = true) (w2 : (Jvm.Cond.static y).before a0 Z = true) (hy : y.cls ≠ "java/lang/invoke/MethodHandle" ∧ y.cls ≠ "java/lang/invoke/VarHandle")
    (wc : (Jvm.Cond.code y bytes maxL ret).before a0 Z = true) (wz : (Jvm.Cond.initialized y.cls).before a0 Z = true) (eT : T.heap = h) (hM : own_Met l y bytes maxL ret [] rm Z argsL.toArray h Q) (hg : g.method = m) (hsize : g.locals.size = c.maxLocals) (hlen : ∀ sig, parseMethodDescriptor y.desc = some sig → argsL.length = sig.parameters.length)
    (hstack : g.stack = argsL.reverse ++ rest) (hW : 2 * g.monitorRoom + (rest.map fun v => v.category).sum ≤ W) (hd : decode c.code g.pc = .ok (.invokestatic index, 3)) (hf : rm.frames + 1 ≤ R.frames) (hl : W + (maxL + 11) + rm.locals ≤ R.locals) (hc : cells + rm.cells ≤ R.cells) (hs : slots + rm.slots ≤ R.slots) :
    ∃ (v : Option Value) (T' : State) (L : List Loc), Stand p l e R s m args below meth c T' (locs ++ L) (cells + rm.cells) (slots + rm.slots) ∧ Q v T'.heap L ∧ ∀ t, Steps p.tables e below (T'.setTop { g with pc := g.pc + 3, stack := v.toList ++ rest }) t → Steps p.tables e below (T.setTop g) t := by
  obtain ⟨v, vm1, ⟨T', L', k', n'⟩, -, X', ⟨L, hQ, hl', hk', hn'⟩, st⟩ := Jvm.LawKit.callS X hx (y := y) hown (mvT hZ w1) (mvT hZ w2) (mvT hZ wz) (mvT hZ wc) hy (backOf (W := W) hM hZ wc wz hf hl) hg hsize hlen hstack hW hd (fun _ _ => ⟨rfl, eT, hc, hs⟩)
  dsimp only [Pt.U, Pt.locs, Pt.cells, Pt.slots] at X' hl' hk' hn' st hQ
  subst hl' hk' hn'
  exact ⟨v, T', L, X', hQ, st⟩
theorem own_spec {bytes : ByteArray} {maxL : Nat} (X : Stand p l e R s m args below meth c T locs cells slots) (hx : p.tables.exec = Jvm.exec) (hZ : Z.Warmed39 s.vm) (hy1 : y.name = "<init>") (hown : s.vm.findClass own = some m.cls) (w1 : (Jvm.Cond.methodLink own index y).before a0 Z = true) (w2 : (Jvm.Cond.instanceMethod y).before a0 Z = true) (hy : y.cls ≠ "java/lang/invoke/MethodHandle" ∧ y.cls ≠ "java/lang/invoke/VarHandle")
    (wc : (Jvm.Cond.code y bytes maxL none).before a0 Z = true) (wz : (Jvm.Cond.initialized y.cls).before a0 Z = true) (eT : T.heap = h) (hM : own_Met l y bytes maxL none [] rm Z (.ref b :: argsL).toArray h Q) (hg : g.method = m) (hsize : g.locals.size = c.maxLocals) (hlen : ∀ sig, parseMethodDescriptor y.desc = some sig → argsL.length = sig.parameters.length)
    (hstack : g.stack = argsL.reverse ++ .ref b :: rest) (hW : 2 * g.monitorRoom + (rest.map fun v => v.category).sum ≤ W) (hd : decode c.code g.pc = .ok (.invokespecial index, 3)) (hf : rm.frames + 1 ≤ R.frames) (hl : W + (maxL + 11) + rm.locals ≤ R.locals) (hc : cells + rm.cells ≤ R.cells) (hs : slots + rm.slots ≤ R.slots) :
    ∃ (v : Option Value) (T' : State) (L : List Loc), Stand p l e R s m args below meth c T' (locs ++ L) (cells + rm.cells) (slots + rm.slots) ∧ Q v T'.heap L ∧ ∀ t, Steps p.tables e below (T'.setTop { g with pc := g.pc + 3, stack := v.toList ++ rest }) t → Steps p.tables e below (T.setTop g) t := by
  obtain ⟨v, vm1, ⟨T', L', k', n'⟩, -, X', ⟨L, hQ, hl', hk', hn'⟩, st⟩ := X.specialBack hx (y := y) hy1 hown (mvT hZ w1) (mvT hZ w2) (mvT hZ wc) hy (backOf (W := W) hM hZ wc wz hf hl) hg hsize (Steps.refl _) hlen hstack hW hd (fun _ _ => ⟨rfl, eT, hc, hs⟩)
  dsimp only [Pt.U, Pt.locs, Pt.cells, Pt.slots] at X' hl' hk' hn' st hQ
  subst hl' hk' hn'
  exact ⟨v, T', L, X', hQ, fun t k => st.trans k⟩
end Calls
section Words
variable {first : State} {o : Option Outcome} {idx : List Nat} {a b t : Term} {v : Value} {C n d : String}
/-- an array of a known length -/
def own_Aln (Z : State) (h : Heap) (a : Addr) (ty : FieldType) (n : Int32) : Prop := ∃ c : Cell, Arr Z h a c ty ∧ c.slots.size = n.toNatClampNeg ∧ ¬ n < 0
end Words
theorem own_exaStat {a : Addr} {C : String} (F : Exa Z h a C) : ∀ cell : Cell, h[a]? = some cell → cell.vm.isStatics = false := fun cell hc => by
  obtain ⟨c', _, h1, -, -, h4, -⟩ := F
  cases h1.symm.trans hc
  exact h4
theorem own_staKeep {h' : Heap} {C n d : String} {v : Value} {ws : List Addr} (F : Sta Z h C n d v) (K : Keep h h' ws) (q : ∀ x ∈ ws, ∀ cell : Cell, h[x]? = some cell → cell.vm.isStatics = false) : Sta Z h' C n d v := by
  obtain ⟨cf, i, k, f, st, cell, h1, h2, h3, h4, h5, h6, h7⟩ := F
  exact ⟨cf, i, k, f, st, cell, h1, h2, h3, h4, K.2.1 st cell h5 (fun hm => by rw [q st hm cell h5] at h6; cases h6), h6, h7⟩
theorem own_irr (x : Int64) : ¬ x < x := by simp
end OwnKit
section OwnSteps
variable {p : Program} {l : Launch} {e : Env} {R : Room} {s : State} {m : MethodId} {args : Array Value} {below : List Frame} {meth : Method} {c : Code} {T : State} {locs : List Loc} {cells slots : Nat} {Z : State} {a0 : Array Value} {h : Heap}
variable {K : State → Outcome → Prop} {pc : Nat} {Ls l' : Array Slot} {S : List Value}
abbrev own_At (p : Program) (e : Env) (below : List Frame) (K : State → Outcome → Prop) (T : State) (m : MethodId) (pc : Nat) (Ls : Array Slot) (S : List Value) : Prop := own_Fin p e below K (T.setTop (mkF m pc Ls S))
theorem own_iload (X : Stand p l e R s m args below meth c T locs cells slots) (hx : p.tables.exec = Jvm.exec) {k : Nat} {v : Int32} (hd : decode c.code pc = .ok (.iload k, 2)) (hl : Ls[k]? = some (.val (.int v))) (hF : own_At p e below K T m (pc + 2) Ls ((.int v) :: S)) : own_At p e below K T m pc Ls S := own_step (fun _ k => XS.iload X.here hx rfl hd hl k) hF
theorem own_iloadN (X : Stand p l e R s m args below meth c T locs cells slots) (hx : p.tables.exec = Jvm.exec) {k : Fin 4} {v : Int32} (hd : decode c.code pc = .ok (.iload_n k, 1)) (hl : Ls[k.val]? = some (.val (.int v))) (hF : own_At p e below K T m (pc + 1) Ls ((.int v) :: S)) : own_At p e below K T m pc Ls S := own_step (fun _ k => XS.iloadN X.here hx rfl hd hl k) hF
theorem own_lloadN (X : Stand p l e R s m args below meth c T locs cells slots) (hx : p.tables.exec = Jvm.exec) {k : Fin 4} {v : Int64} (hd : decode c.code pc = .ok (.lload_n k, 1)) (hl : Ls[k.val]? = some (.val (.long v))) (hF : own_At p e below K T m (pc + 1) Ls ((.long v) :: S)) : own_At p e below K T m pc Ls S := own_step (fun _ k => XS.lloadN X.here hx rfl hd hl k) hF
theorem own_aload (X : Stand p l e R s m args below meth c T locs cells slots) (hx : p.tables.exec = Jvm.exec) {k : Nat} {v : Value} (hd : decode c.code pc = .ok (.aload k, 2)) (hl : Ls[k]? = some (.val v)) (hv : v.isRef = true) (hF : own_At p e below K T m (pc + 2) Ls (v :: S)) : own_At p e below K T m pc Ls S := own_step (fun _ k => XS.aload X.here hx rfl hd hl hv k) hF
theorem own_aloadN (X : Stand p l e R s m args below meth c T locs cells slots) (hx : p.tables.exec = Jvm.exec) {k : Fin 4} {v : Value} (hd : decode c.code pc = .ok (.aload_n k, 1)) (hl : Ls[k.val]? = some (.val v)) (hv : v.isRef = true) (hF : own_At p e below K T m (pc + 1) Ls (v :: S)) : own_At p e below K T m pc Ls S := own_step (fun _ k => XS.aloadN X.here hx rfl hd hl hv k) hF
theorem own_istore (X : Stand p l e R s m args below meth c T locs cells slots) (hx : p.tables.exec = Jvm.exec) {k : Nat} {v : Int32} (hd : decode c.code pc = .ok (.istore k, 2)) (hl : storeLocals Ls k (.int v) = some l') (hF : own_At p e below K T m (pc + 2) l' S) : own_At p e below K T m pc Ls ((.int v) :: S) := own_step (fun _ k => XS.istore X.here hx rfl hd rfl hl k) hF
theorem own_istoreN (X : Stand p l e R s m args below meth c T locs cells slots) (hx : p.tables.exec = Jvm.exec) {k : Fin 4} {v : Int32} (hd : decode c.code pc = .ok (.istore_n k, 1)) (hl : storeLocals Ls k.val (.int v) = some l') (hF : own_At p e below K T m (pc + 1) l' S) : own_At p e below K T m pc Ls ((.int v) :: S) := own_step (fun _ k => XS.istoreN X.here hx rfl hd rfl hl k) hF
theorem own_astore (X : Stand p l e R s m args below meth c T locs cells slots) (hx : p.tables.exec = Jvm.exec) {k : Nat} {v : Value} (hd : decode c.code pc = .ok (.astore k, 2)) (hv : v.isRef = true) (hl : storeLocals Ls k v = some l') (hF : own_At p e below K T m (pc + 2) l' S) : own_At p e below K T m pc Ls (v :: S) := own_step (fun _ k => XS.astore X.here hx rfl hd rfl hv hl k) hF
theorem own_astoreN (X : Stand p l e R s m args below meth c T locs cells slots) (hx : p.tables.exec = Jvm.exec) {k : Fin 4} {v : Value} (hd : decode c.code pc = .ok (.astore_n k, 1)) (hv : v.isRef = true) (hl : storeLocals Ls k.val v = some l') (hF : own_At p e below K T m (pc + 1) l' S) : own_At p e below K T m pc Ls (v :: S) := own_step (fun _ k => XS.astoreN X.here hx rfl hd rfl hv hl k) hF
theorem own_iconst (X : Stand p l e R s m args below meth c T locs cells slots) (hx : p.tables.exec = Jvm.exec) {i : Int} (z : Int32) (hd : decode c.code pc = .ok (.iconst i, 1)) (hz : Int32.ofInt i = z) (hF : own_At p e below K T m (pc + 1) Ls (.int z :: S)) : own_At p e below K T m pc Ls S := own_step (fun _ k => XS.iconst X.here hx rfl hd (by rw [hz]; exact k)) hF
theorem own_bipush (X : Stand p l e R s m args below meth c T locs cells slots) (hx : p.tables.exec = Jvm.exec) {i : Int} (z : Int32) (hd : decode c.code pc = .ok (.bipush i, 2)) (hz : (Int8.ofInt i).toInt32 = z) (hF : own_At p e below K T m (pc + 2) Ls (.int z :: S)) : own_At p e below K T m pc Ls S := own_step (fun _ k => XS.bipush X.here hx rfl hd (by rw [hz]; exact k)) hF
theorem own_sipush (X : Stand p l e R s m args below meth c T locs cells slots) (hx : p.tables.exec = Jvm.exec) {i : Int} (z : Int32) (hd : decode c.code pc = .ok (.sipush i, 3)) (hz : (Int16.ofInt i).toInt32 = z) (hF : own_At p e below K T m (pc + 3) Ls (.int z :: S)) : own_At p e below K T m pc Ls S := own_step (fun _ k => XS.sipush X.here hx rfl hd (by rw [hz]; exact k)) hF
theorem own_lconst0 (X : Stand p l e R s m args below meth c T locs cells slots) (hx : p.tables.exec = Jvm.exec) (hd : decode c.code pc = .ok (.lconst 0, 1)) (hF : own_At p e below K T m (pc + 1) Ls (.long (0 : Int64) :: S)) : own_At p e below K T m pc Ls S := own_step (fun _ k => XS.lconst X.here hx rfl hd k) hF
theorem own_lconst1 (X : Stand p l e R s m args below meth c T locs cells slots) (hx : p.tables.exec = Jvm.exec) (hd : decode c.code pc = .ok (.lconst 1, 1)) (hF : own_At p e below K T m (pc + 1) Ls (.long (1 : Int64) :: S)) : own_At p e below K T m pc Ls S := own_step (fun _ k => XS.lconst X.here hx rfl hd k) hF
theorem own_aconstNull (X : Stand p l e R s m args below meth c T locs cells slots) (hx : p.tables.exec = Jvm.exec) (hd : decode c.code pc = .ok (.aconst_null, 1)) (hF : own_At p e below K T m (pc + 1) Ls (.null :: S)) : own_At p e below K T m pc Ls S := own_step (fun _ k => XS.aconstNull X.here hx rfl hd k) hF
theorem own_iadd (X : Stand p l e R s m args below meth c T locs cells slots) (hx : p.tables.exec = Jvm.exec) {x y : Int32} (hd : decode c.code pc = .ok (.iadd, 1)) (hF : own_At p e below K T m (pc + 1) Ls (.int (x + y) :: S)) : own_At p e below K T m pc Ls (.int y :: .int x :: S) := own_step (fun _ k => XS.iadd X.here hx rfl hd rfl k) hF
theorem own_isub (X : Stand p l e R s m args below meth c T locs cells slots) (hx : p.tables.exec = Jvm.exec) {x y : Int32} (hd : decode c.code pc = .ok (.isub, 1)) (hF : own_At p e below K T m (pc + 1) Ls (.int (x - y) :: S)) : own_At p e below K T m pc Ls (.int y :: .int x :: S) := own_step (fun _ k => XS.isub X.here hx rfl hd rfl k) hF
theorem own_imul (X : Stand p l e R s m args below meth c T locs cells slots) (hx : p.tables.exec = Jvm.exec) {x y : Int32} (hd : decode c.code pc = .ok (.imul, 1)) (hF : own_At p e below K T m (pc + 1) Ls (.int (x * y) :: S)) : own_At p e below K T m pc Ls (.int y :: .int x :: S) := own_step (fun _ k => XS.imul X.here hx rfl hd rfl k) hF
theorem own_iand (X : Stand p l e R s m args below meth c T locs cells slots) (hx : p.tables.exec = Jvm.exec) {x y : Int32} (hd : decode c.code pc = .ok (.iand, 1)) (hF : own_At p e below K T m (pc + 1) Ls (.int (x &&& y) :: S)) : own_At p e below K T m pc Ls (.int y :: .int x :: S) := own_step (fun _ k => XS.iand X.here hx rfl hd rfl k) hF
theorem own_land (X : Stand p l e R s m args below meth c T locs cells slots) (hx : p.tables.exec = Jvm.exec) {x y : Int64} (hd : decode c.code pc = .ok (.land, 1)) (hF : own_At p e below K T m (pc + 1) Ls (.long (x &&& y) :: S)) : own_At p e below K T m pc Ls (.long y :: .long x :: S) := own_step (fun _ k => XS.land X.here hx rfl hd rfl k) hF
theorem own_ishr (X : Stand p l e R s m args below meth c T locs cells slots) (hx : p.tables.exec = Jvm.exec) {x : Int32} {y : Int32} (hd : decode c.code pc = .ok (.ishr, 1)) (hF : own_At p e below K T m (pc + 1) Ls (.int (x >>> (y &&& 31)) :: S)) : own_At p e below K T m pc Ls (.int y :: .int x :: S) := own_step (fun _ k => XS.ishr X.here hx rfl hd rfl k) hF
theorem own_iushr (X : Stand p l e R s m args below meth c T locs cells slots) (hx : p.tables.exec = Jvm.exec) {x : Int32} {y : Int32} (hd : decode c.code pc = .ok (.iushr, 1)) (hF : own_At p e below K T m (pc + 1) Ls (.int ((x.toUInt32 >>> (y &&& 31).toUInt32).toInt32) :: S)) : own_At p e below K T m pc Ls (.int y :: .int x :: S) := own_step (fun _ k => XS.iushr X.here hx rfl hd rfl k) hF
theorem own_lushr (X : Stand p l e R s m args below meth c T locs cells slots) (hx : p.tables.exec = Jvm.exec) {x : Int64} {y : Int32} (hd : decode c.code pc = .ok (.lushr, 1)) (hF : own_At p e below K T m (pc + 1) Ls (.long ((x.toUInt64 >>> (y &&& 0x3f).toInt64.toUInt64).toInt64) :: S)) : own_At p e below K T m pc Ls (.int y :: .long x :: S) := own_step (fun _ k => XS.lushr X.here hx rfl hd rfl k) hF
theorem own_l2i (X : Stand p l e R s m args below meth c T locs cells slots) (hx : p.tables.exec = Jvm.exec) {x : Int64} (hd : decode c.code pc = .ok (.l2i, 1)) (hF : own_At p e below K T m (pc + 1) Ls (.int (x.toInt32) :: S)) : own_At p e below K T m pc Ls (.long x :: S) := own_step (fun _ k => XS.l2i X.here hx rfl hd rfl k) hF
theorem own_i2b (X : Stand p l e R s m args below meth c T locs cells slots) (hx : p.tables.exec = Jvm.exec) {x : Int32} (hd : decode c.code pc = .ok (.i2b, 1)) (hF : own_At p e below K T m (pc + 1) Ls (.int (x.toInt8.toInt32) :: S)) : own_At p e below K T m pc Ls (.int x :: S) := own_step (fun _ k => XS.i2b X.here hx rfl hd rfl k) hF
theorem own_i2c (X : Stand p l e R s m args below meth c T locs cells slots) (hx : p.tables.exec = Jvm.exec) {x : Int32} (hd : decode c.code pc = .ok (.i2c, 1)) (hF : own_At p e below K T m (pc + 1) Ls (.int (x.toUInt32.toUInt16.toUInt32.toInt32) :: S)) : own_At p e below K T m pc Ls (.int x :: S) := own_step (fun _ k => XS.i2c X.here hx rfl hd rfl k) hF
theorem own_lcmp (X : Stand p l e R s m args below meth c T locs cells slots) (hx : p.tables.exec = Jvm.exec) {x y : Int64} (hd : decode c.code pc = .ok (.lcmp, 1)) (hF : own_At p e below K T m (pc + 1) Ls (.int (lcmpW x y) :: S)) : own_At p e below K T m pc Ls (.long y :: .long x :: S) := own_step (fun _ k => XS.lcmp X.here hx rfl hd rfl k) hF
theorem own_irem (X : Stand p l e R s m args below meth c T locs cells slots) (hx : p.tables.exec = Jvm.exec) {x y : Int32} (hd : decode c.code pc = .ok (.irem, 1)) (hy : y ≠ 0) (hF : own_At p e below K T m (pc + 1) Ls (.int (x % y) :: S)) : own_At p e below K T m pc Ls (.int y :: .int x :: S) := own_step (fun _ k => iremM X hx rfl hd rfl hy k) hF
theorem own_idiv (X : Stand p l e R s m args below meth c T locs cells slots) (hx : p.tables.exec = Jvm.exec) {x y : Int32} (hd : decode c.code pc = .ok (.idiv, 1)) (hy : y ≠ 0) (hF : own_At p e below K T m (pc + 1) Ls (.int (x / y) :: S)) : own_At p e below K T m pc Ls (.int y :: .int x :: S) := own_step (fun _ k => XS.idiv X.here hx rfl hd rfl hy k) hF
theorem own_iinc (X : Stand p l e R s m args below meth c T locs cells slots) (hx : p.tables.exec = Jvm.exec) {k : Nat} {cst : Int} {x : Int32} (hd : decode c.code pc = .ok (.iinc k cst, 3)) (hl : Ls[k]? = some (.val (.int x))) (hl' : storeLocals Ls k (.int (x + Int32.ofInt cst)) = some l') (hF : own_At p e below K T m (pc + 3) l' S) : own_At p e below K T m pc Ls S := own_step (fun _ k => XS.iinc X.here hx rfl hd hl hl' k) hF
theorem own_dup (X : Stand p l e R s m args below meth c T locs cells slots) (hx : p.tables.exec = Jvm.exec) {x : Value} (hd : decode c.code pc = .ok (.dup, 1)) (hc : x.category = 1) (hF : own_At p e below K T m (pc + 1) Ls (x :: x :: S)) : own_At p e below K T m pc Ls (x :: S) := own_step (fun _ k => XS.dup X.here hx rfl hd rfl hc k) hF
theorem own_pop (X : Stand p l e R s m args below meth c T locs cells slots) (hx : p.tables.exec = Jvm.exec) {x : Value} (hd : decode c.code pc = .ok (.pop, 1)) (hc : x.category = 1) (hF : own_At p e below K T m (pc + 1) Ls S) : own_At p e below K T m pc Ls (x :: S) := own_step (fun _ k => XS.pop X.here hx rfl hd rfl hc k) hF
theorem own_goto (X : Stand p l e R s m args below meth c T locs cells slots) (hx : p.tables.exec = Jvm.exec) {o : Int} (pc' : Nat) (hd : decode c.code pc = .ok (.goto o, 3)) (ho : 0 ≤ (pc : Int) + o) (hp : ((pc : Int) + o).toNat = pc') (hF : own_At p e below K T m pc' Ls S) : own_At p e below K T m pc Ls S := own_step (fun _ k => XS.goto X.here hx rfl rfl hd ho hp k) hF
theorem own_ifYes (X : Stand p l e R s m args below meth c T locs cells slots) (hx : p.tables.exec = Jvm.exec) {cd : ClassFile.Cond} {x : Int32} {o : Int} (pc' : Nat) (hd : decode c.code pc = .ok (.ifCond cd o, 3)) (hc : if_icmp.holds cd x 0 = true) (ho : 0 ≤ (pc : Int) + o) (hp : ((pc : Int) + o).toNat = pc') (hF : own_At p e below K T m pc' Ls S) : own_At p e below K T m pc Ls (.int x :: S) := own_step (fun _ k => XS.ifYes X.here hx rfl rfl hd rfl ((if0 _ _).trans hc) ho hp k) hF
theorem own_ifNo (X : Stand p l e R s m args below meth c T locs cells slots) (hx : p.tables.exec = Jvm.exec) {cd : ClassFile.Cond} {x : Int32} {o : Int} (hd : decode c.code pc = .ok (.ifCond cd o, 3)) (hc : if_icmp.holds cd x 0 = false) (hF : own_At p e below K T m (pc + 3) Ls S) : own_At p e below K T m pc Ls (.int x :: S) := own_step (fun _ k => XS.ifNo X.here hx rfl hd rfl ((if0 _ _).trans hc) k) hF
theorem own_icmpYes (X : Stand p l e R s m args below meth c T locs cells slots) (hx : p.tables.exec = Jvm.exec) {cd : ClassFile.Cond} {x y : Int32} {o : Int} (pc' : Nat) (hd : decode c.code pc = .ok (.if_icmp cd o, 3)) (hc : if_icmp.holds cd x y = true) (ho : 0 ≤ (pc : Int) + o) (hp : ((pc : Int) + o).toNat = pc') (hF : own_At p e below K T m pc' Ls S) : own_At p e below K T m pc Ls (.int y :: .int x :: S) := own_step (fun _ k => XS.icmpYes X.here hx rfl rfl hd rfl hc ho hp k) hF
theorem own_icmpNo (X : Stand p l e R s m args below meth c T locs cells slots) (hx : p.tables.exec = Jvm.exec) {cd : ClassFile.Cond} {x y : Int32} {o : Int} (hd : decode c.code pc = .ok (.if_icmp cd o, 3)) (hc : if_icmp.holds cd x y = false) (hF : own_At p e below K T m (pc + 3) Ls S) : own_At p e below K T m pc Ls (.int y :: .int x :: S) := own_step (fun _ k => XS.icmpNo X.here hx rfl hd rfl hc k) hF
theorem own_getS (X : Stand p l e R s m args below meth c T locs cells slots) (hx : p.tables.exec = Jvm.exec) (hZ : Z.Warmed39 s.vm) {own R0 O n d host : String} {index : Nat} (hown : s.vm.findClass own = some m.cls) (w : (Jvm.Cond.fieldLink own index R0 n d).before a0 Z = true ∨ (Jvm.Cond.fieldLinkNest own index R0 n d host).before a0 Z = true) (via : Via Z R0 O n d) (eT : T.heap = h) {v : Value} (F : Sta Z h O n d v) (hd : decode c.code pc = .ok (.getstatic index, 3)) (hF : ∀ (T' : State), Stand p l e R s m args below meth c T' locs cells slots → T'.heap = h → own_At p e below K T' m (pc + 3) Ls (v :: S)) : own_At p e below K T m pc Ls S := by
  obtain ⟨T', X', e', st⟩ := getS2 X hx hZ hown w via eT F (g := mkF m pc Ls S) rfl hd
  exact own_step (fun t k => st _ k) (hF T' X' e')
theorem own_getF (X : Stand p l e R s m args below meth c T locs cells slots) (hx : p.tables.exec = Jvm.exec) (hZ : Z.Warmed39 s.vm) {own R0 O n d host : String} {index : Nat} (hown : s.vm.findClass own = some m.cls) (w : (Jvm.Cond.fieldLink own index R0 n d).before a0 Z = true ∨ (Jvm.Cond.fieldLinkNest own index R0 n d host).before a0 Z = true) (via : Via Z R0 O n d) (eT : T.heap = h) {a : Addr} {v : Value} (F : Fld Z h a O n d v) (hd : decode c.code pc = .ok (.getfield index, 3)) (hF : ∀ (T' : State), Stand p l e R s m args below meth c T' locs cells slots → T'.heap = h → own_At p e below K T' m (pc + 3) Ls (v :: S)) : own_At p e below K T m pc Ls (.ref a :: S) := by
  obtain ⟨T', X', e', st⟩ := getF X hx hZ hown w via eT F (g := mkF m pc Ls (.ref a :: S)) rfl rfl hd
  exact own_step (fun t k => st _ k) (hF T' X' e')
theorem own_putF (X : Stand p l e R s m args below meth c T locs cells slots) (hx : p.tables.exec = Jvm.exec) (hZ : Z.Warmed39 s.vm) {C : String} {kk : Nat} {ty : FieldType} {own R0 O n d host : String} {index : Nat} (hown : s.vm.findClass own = some m.cls) (w : (Jvm.Cond.fieldLink own index R0 n d).before a0 Z = true ∨ (Jvm.Cond.fieldLinkNest own index R0 n d host).before a0 Z = true) (via : Via Z R0 O n d) (eT : T.heap = h) {a : Addr} {v old : Value} (F : Fld Z h a O n d old) (E : Exa Z h a C) (L : (Jvm.Cond.lays C O n d).before a0 Z = true ∨ ((Jvm.Cond.laysFinal C O n d).before a0 Z = true ∧ own = O ∧ meth.name = "<init>")) (wi : (Jvm.Cond.instantiable C kk).before a0 Z = true) (hty : parseFieldDescriptor d = some ty) (hn : narrow ty v = v) (hf : fits ty v = true) (hd : decode c.code pc = .ok (.putfield index, 3)) (hF : ∀ (T' : State) (h' : Heap), Stand p l e R s m args below meth c T' (locs ++ [⟨a, Jvm.RoadKit.slotOf Z O n d⟩]) cells slots → T'.heap = h' → Wr h h' a (Jvm.RoadKit.slotOf Z O n d) v → own_At p e below K T' m (pc + 3) Ls S) : own_At p e below K T m pc Ls (v :: .ref a :: S) := by
  obtain ⟨T', h', X', e', W', st⟩ := putF X hx hZ hown w via eT F E L wi hty hn hf (g := mkF m pc Ls (v :: .ref a :: S)) rfl rfl hd
  exact own_step (fun t k => st _ k) (hF T' h' X' e' W')
theorem own_initO (X : Stand p l e R s m args below meth c T locs cells slots) (hx : p.tables.exec = Jvm.exec) (hZ : Z.Warmed39 s.vm) {own : String} {idx W : Nat} (hown : s.vm.findClass own = some m.cls) (w1 : (Jvm.Cond.methodLink own idx Lib.objectInit).before a0 Z = true) (w2 : (Jvm.Cond.instanceMethod Lib.objectInit).before a0 Z = true) (w3 : (Jvm.Cond.code Lib.objectInit ⟨#[0xb1]⟩ 1 none).before a0 Z = true) (eT : T.heap = h) {a : Addr} (hsize : Ls.size = c.maxLocals) (hd : decode c.code pc = .ok (.invokespecial idx, 3)) (hf : 1 ≤ R.frames) (hW : (S.map fun v => v.category).sum ≤ W) (hl : W + 12 ≤ R.locals) (hF : ∀ (T' : State), Stand p l e R s m args below meth c T' locs cells slots → T'.heap = h → own_At p e below K T' m (pc + 3) Ls S) : own_At p e below K T m pc Ls (.ref a :: S) := by
  obtain ⟨T', X', e', st⟩ := initO X hx hZ hown w1 w2 w3 eT (g := mkF m pc Ls (.ref a :: S)) rfl hsize rfl hd hf (W := W) (by show 2 * 0 + _ ≤ _; omega) hl
  exact own_step (fun t k => st _ k) (hF T' X' e')
theorem own_newO (X : Stand p l e R s m args below meth c T locs cells slots) (hx : p.tables.exec = Jvm.exec) (hZ : Z.Warmed39 s.vm) {own C : String} {index n : Nat} (hown : s.vm.findClass own = some m.cls) (w : (Jvm.Cond.classLink own index C).before a0 Z = true) (wi : (Jvm.Cond.instantiable C n).before a0 Z = true) (wz : (Jvm.Cond.initialized C).before a0 Z = true) (eT : T.heap = h) (hd : decode c.code pc = .ok (.new index, 3)) (hc : cells + 1 ≤ R.cells) (hl : slots + n ≤ R.slots) (hF : ∀ (T' : State) (h' : Heap) (b : Addr), b = h.size → Stand p l e R s m args below meth c T' locs (cells + 1) (slots + n) → T'.heap = h' → Ext h h' → Exa Z h' b C → (∀ {O nm d : String} {ty : FieldType}, Laid Z a0 C O nm d → parseFieldDescriptor d = some ty → Fld Z h' b O nm d (defaultValue ty)) → own_At p e below K T' m (pc + 3) Ls (.ref b :: S)) : own_At p e below K T m pc Ls S := by
  obtain ⟨T', h', X', e', E', A', D', -, st⟩ := newO X hx hZ hown w wi wz eT (g := mkF m pc Ls S) rfl hd hc hl
  exact own_step (fun t k => st _ k) (hF T' h' _ rfl X' e' E' A' D')
theorem own_newP (X : Stand p l e R s m args below meth c T locs cells slots) (hx : p.tables.exec = Jvm.exec) (hZ : Z.Warmed39 s.vm) {aty : ArrayType} {n : Int32} {cap : Nat} {ad : String} (w : (Jvm.Cond.arrayClass (newarray.typeOf aty)).before a0 Z = true) (eT : T.heap = h) (hd : decode c.code pc = .ok (.newarray aty, 2)) (hn : ¬ n < 0) (hcap : n.toNatClampNeg ≤ cap) (hb : cap * 8 ≤ 536870912) (hc : cells + 1 ≤ R.cells) (hl : slots + cap ≤ R.slots) (had : "[" ++ (newarray.typeOf aty).toString = ad) (hF : ∀ (T' : State) (h' : Heap) (cA : ClassId) (b : Addr), b = h.size → Stand p l e R s m args below meth c T' locs (cells + 1) (slots + cap) → T'.heap = h' → Ext h h' → Arr Z h' b (newA cA (newarray.typeOf aty) n) (newarray.typeOf aty) → Exa Z h' b ad → own_At p e below K T' m (pc + 2) Ls (.ref b :: S)) : own_At p e below K T m pc Ls (.int n :: S) := by
  obtain ⟨T', h', cA, X', e', E', A', Ex', st⟩ := newPE X hx hZ w eT (g := mkF m pc Ls (.int n :: S)) rfl hd rfl hn hcap hb hc hl had
  exact own_step (fun t k => st _ k) (hF T' h' cA _ rfl X' e' E' A' Ex')
theorem own_stI (X : Stand p l e R s m args below meth c T locs cells slots) (hx : p.tables.exec = Jvm.exec) (hZ : Z.Warmed39 s.vm) {a : Addr} {k : ClassId} {z : Int32} {vs vs' : List Value} {dv w : Value} {j : Int32} {x : Int32} (eT : T.heap = h) (F : Arv Z h a k .int z vs dv) (hj : ¬ j < 0 ∧ j < z) (i : Nat) (hi : j.toNatClampNeg = i) (hl : i < vs.length) (hw : (.int x) = w) (hvs : vs.set i w = vs') (hd : decode c.code pc = .ok (.iastore, 1)) (hF : ∀ (T' : State) (h' : Heap), Stand p l e R s m args below meth c T' (locs ++ [⟨a, j.toNatClampNeg⟩]) cells slots → T'.heap = h' → Wr h h' a j.toNatClampNeg w → Arv Z h' a k .int z vs' dv → own_At p e below K T' m (pc + 1) Ls S) : own_At p e below K T m pc Ls ((.int x) :: .int j :: .ref a :: S) := by
  subst hw hvs
  obtain ⟨cl, Ar, q, Sz, Ng, H, G⟩ := F
  obtain ⟨T', h', X', e', W', st⟩ := stI X hx hZ eT Ar (j := j) (inb_of Sz hj) (g := mkF m pc Ls ((.int x) :: .int j :: .ref a :: S)) rfl rfl hd
  exact own_step (fun t k => st _ k) (hF T' h' X' e' W' (Arv.set Ar q Sz Ng H G rfl W' i hi hl))
theorem own_stC (X : Stand p l e R s m args below meth c T locs cells slots) (hx : p.tables.exec = Jvm.exec) (hZ : Z.Warmed39 s.vm) {a : Addr} {k : ClassId} {z : Int32} {vs vs' : List Value} {dv w : Value} {j : Int32} {x : Int32} (eT : T.heap = h) (F : Arv Z h a k .char z vs dv) (hj : ¬ j < 0 ∧ j < z) (i : Nat) (hi : j.toNatClampNeg = i) (hl : i < vs.length) (hw : (.int (nar .char x)) = w) (hvs : vs.set i w = vs') (hd : decode c.code pc = .ok (.castore, 1)) (hF : ∀ (T' : State) (h' : Heap), Stand p l e R s m args below meth c T' (locs ++ [⟨a, j.toNatClampNeg⟩]) cells slots → T'.heap = h' → Wr h h' a j.toNatClampNeg w → Arv Z h' a k .char z vs' dv → own_At p e below K T' m (pc + 1) Ls S) : own_At p e below K T m pc Ls ((.int x) :: .int j :: .ref a :: S) := by
  subst hw hvs
  obtain ⟨cl, Ar, q, Sz, Ng, H, G⟩ := F
  obtain ⟨T', h', X', e', W', st⟩ := stC X hx hZ eT Ar (j := j) (inb_of Sz hj) (g := mkF m pc Ls ((.int x) :: .int j :: .ref a :: S)) rfl rfl hd
  exact own_step (fun t k => st _ k) (hF T' h' X' e' W' (Arv.set Ar q Sz Ng H G (fits_nar_char _) W' i hi hl))
theorem own_stB (X : Stand p l e R s m args below meth c T locs cells slots) (hx : p.tables.exec = Jvm.exec) (hZ : Z.Warmed39 s.vm) {a : Addr} {k : ClassId} {z : Int32} {vs vs' : List Value} {dv w : Value} {j : Int32} {x : Int32} (eT : T.heap = h) (F : Arv Z h a k .byte z vs dv) (hj : ¬ j < 0 ∧ j < z) (i : Nat) (hi : j.toNatClampNeg = i) (hl : i < vs.length) (hw : (.int x.toInt8.toInt32) = w) (hvs : vs.set i w = vs') (hd : decode c.code pc = .ok (.bastore, 1)) (hF : ∀ (T' : State) (h' : Heap), Stand p l e R s m args below meth c T' (locs ++ [⟨a, j.toNatClampNeg⟩]) cells slots → T'.heap = h' → Wr h h' a j.toNatClampNeg w → Arv Z h' a k .byte z vs' dv → own_At p e below K T' m (pc + 1) Ls S) : own_At p e below K T m pc Ls ((.int x) :: .int j :: .ref a :: S) := by
  subst hw hvs
  obtain ⟨cl, Ar, q, Sz, Ng, H, G⟩ := F
  obtain ⟨T', h', X', e', W', st⟩ := stB X hx hZ eT Ar (j := j) (inb_of Sz hj) (g := mkF m pc Ls ((.int x) :: .int j :: .ref a :: S)) rfl rfl hd
  exact own_step (fun t k => st _ k) (hF T' h' X' e' W' (Arv.set Ar q Sz Ng H G (fits_nar_byte _) W' i hi hl))
theorem own_iaload (X : Stand p l e R s m args below meth c T locs cells slots) (hx : p.tables.exec = Jvm.exec) (hZ : Z.Warmed39 s.vm) {a : Addr} {k : ClassId} {z : Int32} {vs : List Value} {dv : Value} {j : Int32} (v : Value) (eT : T.heap = h) (F : Arv Z h a k .int z vs dv) (hj : ¬ j < 0 ∧ j < z) (hv : vs.getD j.toNatClampNeg dv = v) (hd : decode c.code pc = .ok (.iaload, 1)) (hF : own_At p e below K T m (pc + 1) Ls (v :: S)) : own_At p e below K T m pc Ls (.int j :: .ref a :: S) := by
  obtain ⟨cl, Ar, q, Sz, Ng, H, G⟩ := F
  exact own_step (fun _ k => X.iaload hx (j := j) (v := v) (by rw [eT]; exact Ar.1) (State.isArrayOf_alike hZ.alike Ar.2.1) Ar.2.2 (inb_of Sz hj) (Has.at H (inb_of Sz hj) hv) (g := mkF m pc Ls (.int j :: .ref a :: S)) rfl rfl hd _ k) hF
theorem own_caload (X : Stand p l e R s m args below meth c T locs cells slots) (hx : p.tables.exec = Jvm.exec) (hZ : Z.Warmed39 s.vm) {a : Addr} {k : ClassId} {z : Int32} {vs : List Value} {dv : Value} {j : Int32} (v : Value) (eT : T.heap = h) (F : Arv Z h a k .char z vs dv) (hj : ¬ j < 0 ∧ j < z) (hv : vs.getD j.toNatClampNeg dv = v) (hd : decode c.code pc = .ok (.caload, 1)) (hF : own_At p e below K T m (pc + 1) Ls (v :: S)) : own_At p e below K T m pc Ls (.int j :: .ref a :: S) := by
  obtain ⟨cl, Ar, q, Sz, Ng, H, G⟩ := F
  exact own_step (fun _ k => X.caload hx (j := j) (v := v) (by rw [eT]; exact Ar.1) (State.isArrayOf_alike hZ.alike Ar.2.1) Ar.2.2 (inb_of Sz hj) (Has.at H (inb_of Sz hj) hv) (g := mkF m pc Ls (.int j :: .ref a :: S)) rfl rfl hd _ k) hF
theorem own_baload (X : Stand p l e R s m args below meth c T locs cells slots) (hx : p.tables.exec = Jvm.exec) (hZ : Z.Warmed39 s.vm) {a : Addr} {k : ClassId} {z : Int32} {vs : List Value} {dv : Value} {j : Int32} (v : Value) (eT : T.heap = h) (F : Arv Z h a k .byte z vs dv) (hj : ¬ j < 0 ∧ j < z) (hv : vs.getD j.toNatClampNeg dv = v) (hd : decode c.code pc = .ok (.baload, 1)) (hF : own_At p e below K T m (pc + 1) Ls (v :: S)) : own_At p e below K T m pc Ls (.int j :: .ref a :: S) := by
  obtain ⟨cl, Ar, q, Sz, Ng, H, G⟩ := F
  exact own_step (fun _ k => X.baloadBytes hx (j := j) (v := v) (by rw [eT]; exact Ar.1) (State.isArrayOf_alike hZ.alike Ar.2.1) Ar.2.2 (inb_of Sz hj) (Has.at H (inb_of Sz hj) hv) (g := mkF m pc Ls (.int j :: .ref a :: S)) rfl rfl hd _ k) hF
theorem own_arraylength (X : Stand p l e R s m args below meth c T locs cells slots) (hx : p.tables.exec = Jvm.exec) (hZ : Z.Warmed39 s.vm) {a : Addr} {ty : FieldType} {z : Int32} (eT : T.heap = h) (F : own_Aln Z h a ty z) (hd : decode c.code pc = .ok (.arraylength, 1)) (hF : own_At p e below K T m (pc + 1) Ls (.int z :: S)) : own_At p e below K T m pc Ls (.ref a :: S) := by
  obtain ⟨cl, Ar, Sz, Ng⟩ := F
  exact own_step (fun _ k => X.arraylength hx (by rw [eT]; exact Ar.1) (State.isArrayOf_alike hZ.alike Ar.2.1) (g := mkF m pc Ls (.ref a :: S)) rfl rfl hd _ (by rw [len_of Sz Ng]; exact k)) hF
theorem own_alnV {a : Addr} {k : ClassId} {ty : FieldType} {z : Int32} {vs : List Value} {dv : Value} (F : Arv Z h a k ty z vs dv) : own_Aln Z h a ty z := by
  obtain ⟨cl, Ar, q, Sz, Ng, H, G⟩ := F
  exact ⟨cl, Ar, Sz, Ng⟩
theorem own_ldcI (X : Stand p l e R s m args below meth c T locs cells slots) (hx : p.tables.exec = Jvm.exec) {own : String} {index : Nat} {v : Int32} (hZ : Z.Warmed39 s.vm) (hown : s.vm.findClass own = some m.cls) (w : (Jvm.Cond.constant own index v).before a0 Z = true) (hd : decode c.code pc = .ok (.ldc index, 2)) (hF : own_At p e below K T m (pc + 2) Ls (.int v :: S)) : own_At p e below K T m pc Ls S := own_step (fun _ k => X.ldcInt hx hown (mvT hZ w) (g := mkF m pc Ls S) rfl hd _ k) hF
theorem own_ldcL (X : Stand p l e R s m args below meth c T locs cells slots) (hx : p.tables.exec = Jvm.exec) {own : String} {index : Nat} {v : Int64} (hZ : Z.Warmed39 s.vm) (hown : s.vm.findClass own = some m.cls) (w : (Jvm.Cond.constantLong own index v).before a0 Z = true) (hd : decode c.code pc = .ok (.ldc2_w index, 3)) (hF : own_At p e below K T m (pc + 3) Ls (.long v :: S)) : own_At p e below K T m pc Ls S := own_step (fun _ k => X.ldc2Long hx hown (mvT hZ w) (g := mkF m pc Ls S) rfl hd _ k) hF
theorem own_cVirt (X : Stand p l e R s m args below meth c T locs cells slots) (hx : p.tables.exec = Jvm.exec) (hZ : Z.Warmed39 s.vm) {y z : MethodName} {bytes : ByteArray} {maxL W : Nat} {ret : Option FieldType} {rm : Room} {Q' : Option Value → Heap → List Loc → Prop} {own C : String} {index : Nat} {b : Addr} {rest : List Value} (argsL : List Value) (hown : s.vm.findClass own = some m.cls) (w1 : (Jvm.Cond.methodLink own index y).before a0 Z = true) (w2 : (Jvm.Cond.declares y).before a0 Z = true) (nf : NotFace s y) (w3 : (Jvm.Cond.selects C y z).before a0 Z = true) (w4 : (Jvm.Cond.instanceMethod z).before a0 Z = true) (hy : y.cls ≠ "java/lang/invoke/MethodHandle" ∧ y.cls ≠ "java/lang/invoke/VarHandle") (wc : (Jvm.Cond.code z bytes maxL ret).before a0 Z = true) (wz : (Jvm.Cond.initialized z.cls).before a0 Z = true) (eT : T.heap = h) (E : Exa Z h b C) (hM : own_Met l z bytes maxL ret [] rm Z (.ref b :: argsL).toArray h Q') (hsize : Ls.size = c.maxLocals) (hlen : ∀ sig, parseMethodDescriptor y.desc = some sig → argsL.length = sig.parameters.length) (hstack : S = argsL.reverse ++ .ref b :: rest) (hW : (rest.map fun v => v.category).sum ≤ W) (hd : decode c.code pc = .ok (.invokevirtual index, 3)) (hf : rm.frames + 1 ≤ R.frames) (hl : W + (maxL + 11) + rm.locals ≤ R.locals) (hc : cells + rm.cells ≤ R.cells) (hs : slots + rm.slots ≤ R.slots) (hF : ∀ (v : Option Value) (T' : State) (L : List Loc), Stand p l e R s m args below meth c T' (locs ++ L) (cells + rm.cells) (slots + rm.slots) → Q' v T'.heap L → own_At p e below K T' m (pc + 3) Ls (v.toList ++ rest)) : own_At p e below K T m pc Ls S := by
  subst hstack
  obtain ⟨v, T', L, X', hQ, st⟩ := own_virt X hx hZ hown w1 w2 nf w3 w4 hy wc wz eT E hM (g := mkF m pc Ls (argsL.reverse ++ .ref b :: rest)) rfl hsize hlen rfl (W := W) (by show 2 * 0 + _ ≤ _; omega) hd hf hl hc hs
  exact own_step (fun t k => st _ k) (hF v T' L X' hQ)
theorem own_cStat (X : Stand p l e R s m args below meth c T locs cells slots) (hx : p.tables.exec = Jvm.exec) (hZ : Z.Warmed39 s.vm) {y : MethodName} {bytes : ByteArray} {maxL W : Nat} {ret : Option FieldType} {rm : Room} {Q' : Option Value → Heap → List Loc → Prop} {own : String} {index : Nat} {rest : List Value} (argsL : List Value) (hown : s.vm.findClass own = some m.cls) (w1 : (Jvm.Cond.methodLink own index y).before a0 Z = true) (w2 : (Jvm.Cond.static y).before a0 Z = true) (hy : y.cls ≠ "java/lang/invoke/MethodHandle" ∧ y.cls ≠ "java/lang/invoke/VarHandle") (wc : (Jvm.Cond.code y bytes maxL ret).before a0 Z = true) (wz : (Jvm.Cond.initialized y.cls).before a0 Z = true) (eT : T.heap = h) (hM : own_Met l y bytes maxL ret [] rm Z argsL.toArray h Q') (hsize : Ls.size = c.maxLocals) (hlen : ∀ sig, parseMethodDescriptor y.desc = some sig → argsL.length = sig.parameters.length) (hstack : S = argsL.reverse ++ rest) (hW : (rest.map fun v => v.category).sum ≤ W) (hd : decode c.code pc = .ok (.invokestatic index, 3)) (hf : rm.frames + 1 ≤ R.frames) (hl : W + (maxL + 11) + rm.locals ≤ R.locals) (hc : cells + rm.cells ≤ R.cells) (hs : slots + rm.slots ≤ R.slots) (hF : ∀ (v : Option Value) (T' : State) (L : List Loc), Stand p l e R s m args below meth c T' (locs ++ L) (cells + rm.cells) (slots + rm.slots) → Q' v T'.heap L → own_At p e below K T' m (pc + 3) Ls (v.toList ++ rest)) : own_At p e below K T m pc Ls S := by
  subst hstack
  obtain ⟨v, T', L, X', hQ, st⟩ := own_stat X hx hZ hown w1 w2 hy wc wz eT hM (g := mkF m pc Ls (argsL.reverse ++ rest)) rfl hsize hlen rfl (W := W) (by show 2 * 0 + _ ≤ _; omega) hd hf hl hc hs
  exact own_step (fun t k => st _ k) (hF v T' L X' hQ)
section Spec
variable {ret' : Unit}
theorem own_cSpec (X : Stand p l e R s m args below meth c T locs cells slots) (hx : p.tables.exec = Jvm.exec) (hZ : Z.Warmed39 s.vm) {y : MethodName} {bytes : ByteArray} {maxL W : Nat} {rm : Room} {Q' : Option Value → Heap → List Loc → Prop} {own : String} {index : Nat} {b : Addr} {rest : List Value} (argsL : List Value) (hy1 : y.name = "<init>") (hown : s.vm.findClass own = some m.cls) (w1 : (Jvm.Cond.methodLink own index y).before a0 Z = true) (w2 : (Jvm.Cond.instanceMethod y).before a0 Z = true) (hy : y.cls ≠ "java/lang/invoke/MethodHandle" ∧ y.cls ≠ "java/lang/invoke/VarHandle") (wc : (Jvm.Cond.code y bytes maxL none).before a0 Z = true) (wz : (Jvm.Cond.initialized y.cls).before a0 Z = true) (eT : T.heap = h) (hM : own_Met l y bytes maxL none [] rm Z (.ref b :: argsL).toArray h Q') (hsize : Ls.size = c.maxLocals) (hlen : ∀ sig, parseMethodDescriptor y.desc = some sig → argsL.length = sig.parameters.length) (hstack : S = argsL.reverse ++ .ref b :: rest) (hW : (rest.map fun v => v.category).sum ≤ W) (hd : decode c.code pc = .ok (.invokespecial index, 3)) (hf : rm.frames + 1 ≤ R.frames) (hl : W + (maxL + 11) + rm.locals ≤ R.locals) (hc : cells + rm.cells ≤ R.cells) (hs : slots + rm.slots ≤ R.slots) (hF : ∀ (v : Option Value) (T' : State) (L : List Loc), Stand p l e R s m args below meth c T' (locs ++ L) (cells + rm.cells) (slots + rm.slots) → Q' v T'.heap L → own_At p e below K T' m (pc + 3) Ls (v.toList ++ rest)) : own_At p e below K T m pc Ls S := by
  subst hstack
  obtain ⟨v, T', L, X', hQ, st⟩ := own_spec X hx hZ hy1 hown w1 w2 hy wc wz eT hM (g := mkF m pc Ls (argsL.reverse ++ .ref b :: rest)) rfl hsize hlen rfl (W := W) (by show 2 * 0 + _ ≤ _; omega) hd hf hl hc hs
  exact own_step (fun t k => st _ k) (hF v T' L X' hQ)
end Spec
end OwnSteps
section OwnWide
variable {p : Program} {l : Launch} {e : Env} {R : Room} {s : State} {m : MethodId} {args : Array Value} {below : List Frame} {meth : Method} {c : Code} {T : State} {locs : List Loc} {cells slots : Nat} {Z : State} {a0 : Array Value} {h : Heap} {K : State → Outcome → Prop} {pc : Nat} {Ls l' : Array Slot} {S : List Value} {EL : List (String × Nat)} {vm0 : Vm} {k0 : Nat}
variable {y : MethodName} {bytes : ByteArray} {maxL W : Nat} {ret : Option FieldType} {rm : Room} {Q' : Option Value → Heap → List Loc → Prop} {own : String} {index : Nat} {b : Addr} {rest : List Value}
/-- a constructor that may load a literal -/
theorem own_cSpecW (X : Stand p l e R (s.setVm vm0) m args below meth c T locs cells slots) (hx : p.tables.exec = Jvm.exec) (hZ : Z.Warmed39 (s.setVm vm0).vm) (argsL : List Value) (hy1 : y.name = "<init>") (hown : (s.setVm vm0).vm.findClass own = some m.cls) (w1 : (Jvm.Cond.methodLink own index y).before a0 Z = true) (w2 : (Jvm.Cond.instanceMethod y).before a0 Z = true) (hy : y.cls ≠ "java/lang/invoke/MethodHandle" ∧ y.cls ≠ "java/lang/invoke/VarHandle")
    (wc : (Jvm.Cond.code y bytes maxL none).before a0 Z = true) (wz : (Jvm.Cond.initialized y.cls).before a0 Z = true) (eT : T.heap = h) (hM : own_MetW l y bytes maxL none [] rm Z EL (.ref b :: argsL).toArray h Q') (hEL : EW Z a0 EL) (hC : CHv Z EL vm0 h) (hS : s.Since vm0 k0) (hk : k0 ≤ h.size)
    (hsize : Ls.size = c.maxLocals) (hlen : ∀ sig, parseMethodDescriptor y.desc = some sig → argsL.length = sig.parameters.length) (hstack : S = argsL.reverse ++ .ref b :: rest) (hW : (rest.map fun v => v.category).sum ≤ W) (hd : decode c.code pc = .ok (.invokespecial index, 3)) (hf : rm.frames + 1 ≤ R.frames) (hl : W + (maxL + 11) + rm.locals ≤ R.locals) (hc : cells + rm.cells ≤ R.cells) (hs : slots + rm.slots ≤ R.slots)
    (hF : ∀ (v : Option Value) (T' : State) (L : List Loc), Stand p l e R (s.setVm T'.vm) m args below meth c T' (locs ++ L) (cells + rm.cells) (slots + rm.slots) → s.Since T'.vm T'.heap.size → Z.Warmed39 (s.setVm T'.vm).vm → (s.setVm T'.vm).vm.findClass own = some m.cls → CHr Z EL vm0 h T'.vm T'.heap → Q' v T'.heap L → own_At p e below K T' m (pc + 3) Ls (v.toList ++ rest)) : own_At p e below K T m pc Ls S := by
  subst hstack
  obtain ⟨v, vm1, ⟨T', L', k', n'⟩, -, X', hS', hg', ⟨L, hQ, hl', hk', hn', hR⟩, st⟩ := X.specialBackS hx (y := y) hy1 hown (mvT hZ w1) (mvT hZ w2) (mvT hZ wc) hy (backOfSH (W := W) hM hZ wc wz hf hl hEL hC) (g := mkF m pc Ls (argsL.reverse ++ .ref b :: rest)) rfl hsize (Steps.refl _) hlen rfl (by show 2 * 0 + _ ≤ _; omega) hd (fun _ _ => ⟨rfl, eT, hc, hs⟩)
  dsimp only [Pt.U, Pt.locs, Pt.cells, Pt.slots] at X' hS' hg' hl' hk' hn' hR st hQ
  subst hl' hk' hn'
  obtain ⟨X2, hS2, hZ2, ho2⟩ := rebS hS (by rw [eT]; exact hk) X' hS' hg' hZ hown
  exact own_step (fun t k => st.trans k) (hF v T' L X2 hS2 hZ2 ho2 hR hQ)
/-- the empty literal -/
theorem own_ldcE (X : Stand p l e R (s.setVm vm0) m args below meth c T locs cells slots) (hx : p.tables.exec = Jvm.exec) (hZ : Z.Warmed39 (s.setVm vm0).vm) (hown : (s.setVm vm0).vm.findClass own = some m.cls) (w : (Jvm.Cond.stringLink own index "").before a0 Z = true) (wS : ∀ a ∈ Bundle.stringAtoms, a.before a0 Z = true) (eT : T.heap = h) (hEL : EW Z a0 EL) (hmem : (own, index) ∈ EL) (hC : CHv Z EL vm0 h) (hS : s.Since vm0 k0) (hk : k0 ≤ h.size) (hd : decode c.code pc = .ok (.ldc index, 2)) (hc : cells + 2 ≤ R.cells) (hl : slots + 4 ≤ R.slots)
    (hF : ∀ (a b : Addr) (T' : State) (h' : Heap) (k1 : Nat) (k : ClassId), Stand p l e R (s.setVm T'.vm) m args below meth c T' locs (cells + 2) (slots + 4) → T'.heap = h' → Ext h h' → s.Since T'.vm k1 → k1 ≤ h'.size → Z.Warmed39 (s.setVm T'.vm).vm → (s.setVm T'.vm).vm.findClass own = some m.cls → Exa Z h' a "java/lang/String" → Fld Z h' a "java/lang/String" "coder" "B" (.int (0 : Int32)) → Fld Z h' a "java/lang/String" "value" "[B" (.ref b) → Arv Z h' b k .byte (0 : Int32) [] (.int (0 : Int32)) → CHr Z EL vm0 h T'.vm h' → (∀ x, Safe Z EL T'.vm h' x → x ≠ a ∧ x ≠ b) → own_At p e below K T' m (pc + 2) Ls (.ref a :: S)) : own_At p e below K T m pc Ls S := by
  obtain ⟨a, T', h', k1, b, k, X', e', E', hS', hk', hZ', ho', Ea, Fc, Fv, Vb, -, -, hR, -, hs', st⟩ := ldcCH X hx hZ hown w wS eT hS hk hEL hmem hC (vs := []) (z := 0) ⟨by simp, rfl⟩ (by decide) rfl (g := mkF m pc Ls S) rfl hd (n := 0) (by decide) (by decide) hc hl
  exact own_step (fun t k => st _ k) (hF a b T' h' k1 k X' e' E' hS' hk' hZ' ho' Ea Fc Fv Vb hR hs')
/-- a fresh String is no booked one -/
theorem own_safeFresh {vm : Vm} {x : Addr} (hal : Z.vm.Alike vm) (E : Exa Z h x "java/lang/String") (F : Fld Z h x "java/lang/String" "value" "[B" .null) : Safe Z EL vm h x := fun B => by
  obtain ⟨cell, k, e1, e2, e3, -, -⟩ := E
  obtain ⟨cell', cf, kf, i, f, g1, g2, -, -, -, -, g7⟩ := F
  cases e1.symm.trans g1
  obtain ⟨p, -, u, a, -, q, -, Fq, rfl | rfl⟩ := B
  · cases (show h[q.sa]? = some q.sC from Fq.ha).symm.trans e1
    obtain ⟨cS, ⟨⟨s1, s2, s3, ⟨cv, kv, iv, s4, s4'⟩, s5, s6, s7, s8, -⟩, -⟩, -⟩ := Fq
    obtain ⟨k', z4⟩ := ff_back (U := Wst Z vm h) hal s4
    cases z4.symm.trans g2
    cases s8.symm.trans g7
  · cases (show h[q.sd]? = some q.SA from Fq.hd).symm.trans e1
    obtain ⟨cS, -, -, f2, -⟩ := Fq
    have f3 : Z.vm.findClass "[B" = some q.SA.cls := by rw [← hal.findClass]; exact f2
    obtain ⟨k1, q1, q2⟩ := Vm.findClass_spec f3
    obtain ⟨k2, q3, q4⟩ := Vm.findClass_spec e2
    cases q1.symm.trans q3
    exact absurd (q2.symm.trans q4) (by decide)
end OwnWide
abbrev own_Wd (a0 : Array Value) (Z : State) : Prop := ∀ d ∈ tables_1, d.before a0 Z = true
theorem own_ef {p : Program} {e : Env} {below : List Frame} {K : State → Outcome → Prop} {s₁ : State} {m : MethodId} {A : Array Value} {ML : Nat} {L0 : Array Slot} (ef : entryFrame m A ML = mkF m 0 L0 []) (hF : own_At p e below K s₁ m 0 L0 []) : own_Fin p e below K (s₁.setTop (entryFrame m A ML)) := by rw [ef]; exact hF
theorem own_join {p : Program} {e : Env} {below : List Frame} {K : State → Outcome → Prop} {T : State} {m : MethodId} {pc : Nat} {Ls : Array Slot} {S : List Value} (pc' : Nat) (Ls' : Array Slot) (S' : List Value) (hJ : own_At p e below K T m pc' Ls' S') (hF : own_At p e below K T m pc' Ls' S' → own_At p e below K T m pc Ls S) : own_At p e below K T m pc Ls S := hF hJ
theorem own_m {Z : State} {a0 : Array Value} (hw : ∀ d ∈ tables_1, d.before a0 Z = true) (i : Nat) {d : Jvm.Cond} (h : tables_1[i]? = some d) : d.before a0 Z = true := hw _ (List.mem_of_getElem? h)
abbrev own_EL : List (String × Nat) := [("java/lang/String", 7)]
theorem own_ELw {Z : State} {a0 : Array Value} (hw : ∀ d ∈ tables_1, d.before a0 Z = true) : EW Z a0 own_EL := EW.cons (own_m hw 151 rfl) (by simp) EW.nil
theorem own_wS {Z : State} {a0 : Array Value} (hw : ∀ d ∈ tables_1, d.before a0 Z = true) : ∀ a ∈ Bundle.stringAtoms, a.before a0 Z = true := fun a ha => by
  simp only [Bundle.stringAtoms, Bundle.sN, List.mem_cons, List.not_mem_nil, or_false] at ha
  rcases ha with rfl | rfl | rfl | rfl | rfl | rfl | rfl
  · exact (own_m hw 9 rfl)
  · exact (own_m hw 8 rfl)
  · exact (own_m hw 25 rfl)
  · exact (own_m hw 35 rfl)
  · exact (own_m hw 33 rfl)
  · exact (own_m hw 152 rfl)
  · exact (own_m hw 153 rfl)
theorem own_b8 (x : Int32) : (x.toInt8.toInt32).toInt8.toInt32 = x.toInt8.toInt32 := by simp
theorem own_cI2c (y : Int32) : (y &&& (255 : Int32)).toUInt32.toUInt16.toUInt32.toInt32 = (y &&& (255 : Int32)) := i2c_mask y
theorem own_narc {x : Int32} (h0 : ¬ x < (0 : Int32)) (h1 : ¬ (255 : Int32) < x) : nar .char x = x := by
  have e := c_i2c x
  have k0 : (0 : Int32).toInt = 0 := by decide
  have k1 : (255 : Int32).toInt = 255 := by decide
  simp only [Int32.lt_iff_toInt_lt, k0, k1] at h0 h1
  show x.toUInt32.toUInt16.toUInt32.toInt32 = x
  rw [← Int32.toInt_inj]
  omega
theorem own_l255 (x : Int64) : ¬ ((x &&& (255 : Int64)).toInt32.toUInt32.toUInt16.toUInt32.toInt32) < (0 : Int32) ∧ ¬ (255 : Int32) < ((x &&& (255 : Int64)).toInt32.toUInt32.toUInt16.toUInt32.toInt32) := by
  have e1 := c_maskL x 255 8 (by decide) (by decide)
  have e2 := c_l2i (x &&& (255 : Int64))
  have e3 := c_i2c (x &&& (255 : Int64)).toInt32
  have r := rng32 (x &&& (255 : Int64)).toInt32
  have k0 : (0 : Int32).toInt = 0 := by decide
  have k1 : (255 : Int32).toInt = 255 := by decide
  simp only [Int32.lt_iff_toInt_lt, k0, k1]
  omega
theorem own_nlb {x : Int32} (h0 : ¬ x < (0 : Int32)) (h1 : ¬ (255 : Int32) < x) (q : ¬ x = (10 : Int32)) : ¬ (x.toInt8.toInt32) = (10 : Int32) := fun u => by
  have e := c_i2b x
  have k0 : (0 : Int32).toInt = 0 := by decide
  have k1 : (255 : Int32).toInt = 255 := by decide
  have k2 : (10 : Int32).toInt = 10 := by decide
  simp only [Int32.lt_iff_toInt_lt, k0, k1] at h0 h1
  simp only [← Int32.toInt_inj, k2] at q u
  omega
theorem own_nlc {x : Int32} (h0 : ¬ x < (0 : Int32)) (h1 : ¬ (255 : Int32) < x) : ((x.toInt8.toInt32) &&& (255 : Int32)).toUInt32.toUInt16.toUInt32.toInt32 = x := by
  rw [own_cI2c]
  have e := c_i2b x
  have e2 := c_mask (x.toInt8.toInt32) 255 8 (by decide) (by decide)
  have k0 : (0 : Int32).toInt = 0 := by decide
  have k1 : (255 : Int32).toInt = 255 := by decide
  simp only [Int32.lt_iff_toInt_lt, k0, k1] at h0 h1
  rw [← Int32.toInt_inj]
  omega
theorem own_irr3 (x : Int32) : ¬ x < x := by simp
theorem own_nlt {x : Int32} (q : x = (10 : Int32)) : (x.toInt8.toInt32) = (10 : Int32) := by rw [q]; decide
def own_st (S : List Int32) (d j : Int32) : Int32 := S.getD j.toNatClampNeg d
theorem own_getI (S : List Int32) (d j : Int32) : (S.map Value.int).getD j.toNatClampNeg (.int d) = .int (own_st S d j) := by
  simp [own_st, List.getD_eq_getElem?_getD, List.getElem?_map]
theorem own_upto (k : Nat) (hk : k < 100) {j : Int32} (h0 : ¬ j < (0 : Int32)) (h1 : ¬ (Int32.ofNat k) < j) (P : Int32 → Prop) (hP : ∀ i, i ≤ k → P (Int32.ofNat i)) : P j := by
  have k0 : (0 : Int32).toInt = 0 := by decide
  have e : (Int32.ofNat k).toInt = k := Int32.toInt_ofNat_of_lt (by omega)
  simp only [Int32.lt_iff_toInt_lt, k0, e] at h0 h1
  have : j = Int32.ofNat j.toInt.toNat := by
    rw [← Int32.toInt_inj, Int32.toInt_ofNat_of_lt (by omega)]
    omega
  rw [this]
  exact hP _ (by omega)
theorem own_cp (vs : List Value) (hl : vs.length ≤ 65) (i : Nat) : vs.getD i (.int 0) = (([] ++ List.replicate 65 (Value.int (0 : Int32))).take 0 ++ (List.range 65).map (fun i => vs.getD (0 + i) (.int 0)) ++ ([] ++ List.replicate 65 (Value.int (0 : Int32))).drop (0 + 65)).getD i (.int 0) := by
  by_cases h : i < 65
  · simp [List.getD_eq_getElem?_getD, List.getElem?_map, h]
  · have h1 : vs[i]? = none := List.getElem?_eq_none (by omega)
    simp [List.getD_eq_getElem?_getD, h1, List.getElem?_map, h]
theorem d1_0 : decode method_3_code 0 = .ok (.lload_n 0, 1) := by decide +kernel
theorem d1_1 : decode method_3_code 1 = .ok (.lconst 1, 1) := by decide +kernel
theorem d1_2 : decode method_3_code 2 = .ok (.land, 1) := by decide +kernel
theorem d1_3 : decode method_3_code 3 = .ok (.lconst 0, 1) := by decide +kernel
theorem d1_4 : decode method_3_code 4 = .ok (.lcmp, 1) := by decide +kernel
theorem d1_5 : decode method_3_code 5 = .ok (.ifCond .eq 8, 3) := by decide +kernel
theorem d1_8 : decode method_3_code 8 = .ok (.bipush 10, 2) := by decide +kernel
theorem d1_10 : decode method_3_code 10 = .ok (.goto 12, 3) := by decide +kernel
theorem d1_13 : decode method_3_code 13 = .ok (.lload_n 0, 1) := by decide +kernel
theorem d1_14 : decode method_3_code 14 = .ok (.iconst 1, 1) := by decide +kernel
theorem d1_15 : decode method_3_code 15 = .ok (.lushr, 1) := by decide +kernel
theorem d1_16 : decode method_3_code 16 = .ok (.ldc2_w 39, 3) := by decide +kernel
theorem d1_19 : decode method_3_code 19 = .ok (.land, 1) := by decide +kernel
theorem d1_20 : decode method_3_code 20 = .ok (.l2i, 1) := by decide +kernel
theorem d1_21 : decode method_3_code 21 = .ok (.i2c, 1) := by decide +kernel
theorem d1_22 : decode method_3_code 22 = .ok (.ireturn, 1) := by decide +kernel
theorem pn_0 : plainName "com/example/amendtrail/amendtrail/write/LinesLengthPinLaw" = true := by first | (simp [plainName, overriddenIn]; done) | decide +kernel
set_option maxRecDepth 65536 in
set_option maxHeartbeats 40000000 in
theorem rmPick (l : Launch) (Z : State) (a0 : Array Value) (hw : own_Wd a0 Z) (ws : List Jvm.Cond)  (x : Int64) (h0 : Heap) (n0 : Nat) (Z0 : n0 ≤ h0.size) :
    own_Met l (⟨"com/example/amendtrail/amendtrail/write/LinesLengthPinLaw", "pick", "(J)C"⟩ : MethodName) method_3_code 2 (some .char) ws ({ frames := 0, cells := 0, slots := 0, locals := 0 } : Room) Z #[(.long x)] h0 (fun v h L => ∃ c : Int32, v = some (.int c) ∧ Fr n0 L ∧ h = h0 ∧ ¬ c < (0 : Int32) ∧ ¬ (255 : Int32) < c) := by
  refine own_body (plainFor_of_name pn_0) ?_
  intro p e s m below meth c s₁ X0 hx hby hml hown hnm hret hlk hZ e0
  replace hown : s.vm.findClass "com/example/amendtrail/amendtrail/write/LinesLengthPinLaw" = some m.cls := hown
  replace hml : c.maxLocals = 2 := hml
  replace hret : meth.sig.returnType = (some .char) := hret
  have N0 := Fr.nil n0
  refine own_ef (L0 := #[.val (.long x), .second]) (by first | (simp [entryFrame, mkF, argsToLocals, Value.category]; done) | rfl) ?_
  refine own_lloadN X0 hx (hb hby d1_0) rfl ?_
  refine own_lconst1 X0 hx (hb hby d1_1) ?_
  refine own_land X0 hx (hb hby d1_2) ?_
  refine own_lconst0 X0 hx (hb hby d1_3) ?_
  refine own_lcmp X0 hx (hb hby d1_4) ?_
  by_cases hc1 : (x &&& (1 : Int64)) = (0 : Int64)
  · refine own_ifYes X0 hx 13 (hb hby d1_5) (teq ((lw_eq (x &&& (1 : Int64)) (0 : Int64)).mpr hc1)).1 (by decide) (by decide) ?_
    refine own_lloadN X0 hx (hb hby d1_13) rfl ?_
    refine own_iconst X0 hx 1 (hb hby d1_14) rfl ?_
    refine own_lushr X0 hx (hb hby d1_15) ?_
    refine own_ldcL X0 hx hZ hown (own_m hw 6 rfl) (hb hby d1_16) ?_
    refine own_land X0 hx (hb hby d1_19) ?_
    refine own_l2i X0 hx (hb hby d1_20) ?_
    refine own_i2c X0 hx (hb hby d1_21) ?_
    refine own_retN X0 hx hlk hret (by simp) (own_narc (own_l255 _).1 (own_l255 _).2) (hb hby d1_22) (own_kN (by decide) (by decide) ?_)
    try rw [e0]
    exact ⟨_, rfl, N0, rfl, (own_l255 _).1, (own_l255 _).2⟩
  · refine own_ifNo X0 hx (hb hby d1_5) (feq (fun q => hc1 ((lw_eq (x &&& (1 : Int64)) (0 : Int64)).mp q))).1 ?_
    refine own_bipush X0 hx 10 (hb hby d1_8) rfl ?_
    refine own_goto X0 hx 22 (hb hby d1_10) (by decide) (by decide) ?_
    refine own_retN X0 hx hlk hret (by simp) (by decide) (hb hby d1_22) (own_kN (by decide) (by decide) ?_)
    try rw [e0]
    exact ⟨_, rfl, N0, rfl, by decide, by decide⟩
theorem d6_0 : decode jdk_52_method_21_code 0 = .ok (.iconst 0, 1) := by decide +kernel
theorem d6_1 : decode jdk_52_method_21_code 1 = .ok (.istore 5, 2) := by decide +kernel
theorem d6_3 : decode jdk_52_method_21_code 3 = .ok (.iload 5, 2) := by decide +kernel
theorem d6_5 : decode jdk_52_method_21_code 5 = .ok (.iload 4, 2) := by decide +kernel
theorem d6_7 : decode jdk_52_method_21_code 7 = .ok (.if_icmp .ge 37, 3) := by decide +kernel
theorem d6_10 : decode jdk_52_method_21_code 10 = .ok (.aload_n 0, 1) := by decide +kernel
theorem d6_11 : decode jdk_52_method_21_code 11 = .ok (.iload_n 1, 1) := by decide +kernel
theorem d6_12 : decode jdk_52_method_21_code 12 = .ok (.caload, 1) := by decide +kernel
theorem d6_13 : decode jdk_52_method_21_code 13 = .ok (.istore 6, 2) := by decide +kernel
theorem d6_15 : decode jdk_52_method_21_code 15 = .ok (.iload 6, 2) := by decide +kernel
theorem d6_17 : decode jdk_52_method_21_code 17 = .ok (.sipush 255, 3) := by decide +kernel
theorem d6_20 : decode jdk_52_method_21_code 20 = .ok (.if_icmp .le 6, 3) := by decide +kernel
theorem d6_26 : decode jdk_52_method_21_code 26 = .ok (.aload_n 2, 1) := by decide +kernel
theorem d6_27 : decode jdk_52_method_21_code 27 = .ok (.iload_n 3, 1) := by decide +kernel
theorem d6_28 : decode jdk_52_method_21_code 28 = .ok (.iload 6, 2) := by decide +kernel
theorem d6_30 : decode jdk_52_method_21_code 30 = .ok (.i2b, 1) := by decide +kernel
theorem d6_31 : decode jdk_52_method_21_code 31 = .ok (.bastore, 1) := by decide +kernel
theorem d6_32 : decode jdk_52_method_21_code 32 = .ok (.iinc 1 1, 3) := by decide +kernel
theorem d6_35 : decode jdk_52_method_21_code 35 = .ok (.iinc 3 1, 3) := by decide +kernel
theorem d6_38 : decode jdk_52_method_21_code 38 = .ok (.iinc 5 1, 3) := by decide +kernel
theorem d6_41 : decode jdk_52_method_21_code 41 = .ok (.goto (-38), 3) := by decide +kernel
theorem d6_44 : decode jdk_52_method_21_code 44 = .ok (.iload 4, 2) := by decide +kernel
theorem d6_46 : decode jdk_52_method_21_code 46 = .ok (.ireturn, 1) := by decide +kernel
theorem pn_1 : plainName "java/lang/StringUTF16" = true := by first | (simp [plainName, overriddenIn]; done) | decide +kernel
set_option maxRecDepth 65536 in
set_option maxHeartbeats 40000000 in
theorem rmC2_1 (l : Launch) (Z : State) (a0 : Array Value) (hw : own_Wd a0 Z) (ws : List Jvm.Cond) (ca ba : Addr) (kc kb : ClassId) (c0 : Int32)  (h0 : Heap) (n0 : Nat) (Z0 : n0 ≤ h0.size) (Vc : Arv Z h0 ca kc .char (1 : Int32) [(.int c0)] (.int 0)) (Vb : Arv Z h0 ba kb .byte (1 : Int32) [(.int 0)] (.int 0)) (g_ba : n0 ≤ ba) (hne : ca ≠ ba) (hx0 : ¬ ((255 : Int32) < c0)) :
    own_Met l (⟨"java/lang/StringUTF16", "compress", "([CI[BII)I"⟩ : MethodName) jdk_52_method_21_code 7 (some .int) ws ({ frames := 0, cells := 0, slots := 0, locals := 0 } : Room) Z #[(.ref ca), (.int 0), (.ref ba), (.int 0), (.int 1)] h0 (fun v h L => v = some (.int 1) ∧ Fr n0 L ∧ Keep h0 h [ba] ∧ Arv Z h ba kb .byte (1 : Int32) [(.int (c0.toInt8.toInt32))] (.int 0)) := by
  refine own_body (plainFor_of_name pn_1) ?_
  intro p e s m below meth c s₁ X0 hx hby hml hown hnm hret hlk hZ e0
  replace hown : s.vm.findClass "java/lang/StringUTF16" = some m.cls := hown
  replace hml : c.maxLocals = 7 := hml
  replace hret : meth.sig.returnType = (some .int) := hret
  have N0 := Fr.nil n0
  refine own_ef (L0 := #[.val (.ref ca), .val (.int 0), .val (.ref ba), .val (.int 0), .val (.int 1), .unset, .unset]) (by first | (simp [entryFrame, mkF, argsToLocals, Value.category]; done) | rfl) ?_
  refine own_iconst X0 hx 0 (hb hby d6_0) rfl ?_
  refine own_istore (l' := #[.val (.ref ca), .val (.int 0), .val (.ref ba), .val (.int 0), .val (.int 1), .val (.int 0), .unset]) X0 hx (hb hby d6_1) rfl ?_
  refine own_iload X0 hx (hb hby d6_3) rfl ?_
  refine own_iload X0 hx (hb hby d6_5) rfl ?_
  refine own_icmpNo X0 hx (hb hby d6_7) (tlt (by decide : (0 : Int32) < (1 : Int32))).2.1 ?_
  refine own_aloadN X0 hx (hb hby d6_10) rfl rfl ?_
  refine own_iloadN X0 hx (hb hby d6_11) rfl ?_
  refine own_caload X0 hx hZ (.int c0) e0 Vc ⟨by decide, by decide⟩ rfl (hb hby d6_12) ?_
  refine own_istore (l' := #[.val (.ref ca), .val (.int 0), .val (.ref ba), .val (.int 0), .val (.int 1), .val (.int 0), .val (.int c0)]) X0 hx (hb hby d6_13) rfl ?_
  refine own_iload X0 hx (hb hby d6_15) rfl ?_
  refine own_sipush X0 hx 255 (hb hby d6_17) rfl ?_
  refine own_icmpYes X0 hx 26 (hb hby d6_20) (flt hx0).2.2.2 (by decide) (by decide) ?_
  refine own_aloadN X0 hx (hb hby d6_26) rfl rfl ?_
  refine own_iloadN X0 hx (hb hby d6_27) rfl ?_
  refine own_iload X0 hx (hb hby d6_28) rfl ?_
  refine own_i2b X0 hx (hb hby d6_30) ?_
  refine own_stB (vs' := [(.int (c0.toInt8.toInt32))]) (w := (.int (c0.toInt8.toInt32))) X0 hx hZ e0 Vb ⟨by decide, by decide⟩ 0 rfl (Nat.le_of_ble_eq_true rfl) (congrArg Value.int (own_b8 _)) rfl (hb hby d6_31) fun T2 h2 X2 e2 W2 V2 => ?_
  have N2 := Fr.snoc X2 N0 g_ba
  refine own_iinc (l' := #[.val (.ref ca), .val (.int ((0 : Int32) + (1 : Int32))), .val (.ref ba), .val (.int 0), .val (.int 1), .val (.int 0), .val (.int c0)]) X2 hx (hb hby d6_32) rfl rfl ?_
  rw [show ((0 : Int32) + (1 : Int32)) = (1 : Int32) from by decide]
  refine own_iinc (l' := #[.val (.ref ca), .val (.int 1), .val (.ref ba), .val (.int ((0 : Int32) + (1 : Int32))), .val (.int 1), .val (.int 0), .val (.int c0)]) X2 hx (hb hby d6_35) rfl rfl ?_
  rw [show ((0 : Int32) + (1 : Int32)) = (1 : Int32) from by decide]
  refine own_iinc (l' := #[.val (.ref ca), .val (.int 1), .val (.ref ba), .val (.int 1), .val (.int 1), .val (.int ((0 : Int32) + (1 : Int32))), .val (.int c0)]) X2 hx (hb hby d6_38) rfl rfl ?_
  rw [show ((0 : Int32) + (1 : Int32)) = (1 : Int32) from by decide]
  refine own_goto X2 hx 3 (hb hby d6_41) (by decide) (by decide) ?_
  refine own_iload X2 hx (hb hby d6_3) rfl ?_
  refine own_iload X2 hx (hb hby d6_5) rfl ?_
  refine own_icmpYes X2 hx 44 (hb hby d6_7) (flt (by decide : ¬ ((1 : Int32) < (1 : Int32)))).2.1 (by decide) (by decide) ?_
  refine own_iload X2 hx (hb hby d6_44) rfl ?_
  refine own_retI X2 hx hlk hret (hb hby d6_46) (own_kN (by decide) (by decide) ?_)
  try rw [e2]
  exact ⟨rfl, N2, (Keep.wr (Keep.refl h0 [ba]) W2 (Or.inl (List.mem_of_getElem? (i := 0) rfl))), V2⟩
theorem d5_0 : decode jdk_52_method_16_code 0 = .ok (.iload_n 2, 1) := by decide +kernel
theorem d5_1 : decode jdk_52_method_16_code 1 = .ok (.newarray .byte, 2) := by decide +kernel
theorem d5_3 : decode jdk_52_method_16_code 3 = .ok (.astore_n 3, 1) := by decide +kernel
theorem d5_4 : decode jdk_52_method_16_code 4 = .ok (.aload_n 0, 1) := by decide +kernel
theorem d5_5 : decode jdk_52_method_16_code 5 = .ok (.iload_n 1, 1) := by decide +kernel
theorem d5_6 : decode jdk_52_method_16_code 6 = .ok (.aload_n 3, 1) := by decide +kernel
theorem d5_7 : decode jdk_52_method_16_code 7 = .ok (.iconst 0, 1) := by decide +kernel
theorem d5_8 : decode jdk_52_method_16_code 8 = .ok (.iload_n 2, 1) := by decide +kernel
theorem d5_9 : decode jdk_52_method_16_code 9 = .ok (.invokestatic 115, 3) := by decide +kernel
theorem d5_12 : decode jdk_52_method_16_code 12 = .ok (.istore 4, 2) := by decide +kernel
theorem d5_14 : decode jdk_52_method_16_code 14 = .ok (.iload 4, 2) := by decide +kernel
theorem d5_16 : decode jdk_52_method_16_code 16 = .ok (.iload_n 2, 1) := by decide +kernel
theorem d5_17 : decode jdk_52_method_16_code 17 = .ok (.if_icmp .eq 40, 3) := by decide +kernel
theorem d5_57 : decode jdk_52_method_16_code 57 = .ok (.aload_n 3, 1) := by decide +kernel
theorem d5_58 : decode jdk_52_method_16_code 58 = .ok (.areturn, 1) := by decide +kernel
theorem pd_0 : parseMethodDescriptor "([CI[BII)I" = some ⟨[(.array .char), .int, (.array .byte), .int, .int], some .int⟩ := by decide +kernel
set_option maxRecDepth 65536 in
set_option maxHeartbeats 40000000 in
theorem rmC1_1 (l : Launch) (Z : State) (a0 : Array Value) (hw : own_Wd a0 Z) (ws : List Jvm.Cond) (ca : Addr) (kc : ClassId) (c0 : Int32)  (h0 : Heap) (n0 : Nat) (Z0 : n0 ≤ h0.size) (Vc : Arv Z h0 ca kc .char (1 : Int32) [(.int c0)] (.int 0)) (hx0 : ¬ ((255 : Int32) < c0)) :
    own_Met l (⟨"java/lang/StringUTF16", "compress", "([CII)[B"⟩ : MethodName) jdk_52_method_16_code 6 (some (.array .byte)) ws ({ frames := 1, cells := 1, slots := 1, locals := 18 } : Room) Z #[(.ref ca), (.int 0), (.int 1)] h0 (fun v h L => ∃ b k, v = some (.ref b) ∧ Fr n0 L ∧ Keep h0 h [] ∧ h0.size ≤ b ∧ n0 ≤ b ∧ Exa Z h b "[B" ∧ Arv Z h b k .byte (1 : Int32) [(.int (c0.toInt8.toInt32))] (.int 0)) := by
  refine own_body (plainFor_of_name pn_1) ?_
  intro p e s m below meth c s₁ X0 hx hby hml hown hnm hret hlk hZ e0
  replace hown : s.vm.findClass "java/lang/StringUTF16" = some m.cls := hown
  replace hml : c.maxLocals = 6 := hml
  replace hret : meth.sig.returnType = (some (.array .byte)) := hret
  have N0 := Fr.nil n0
  refine own_ef (L0 := #[.val (.ref ca), .val (.int 0), .val (.int 1), .unset, .unset, .unset]) (by first | (simp [entryFrame, mkF, argsToLocals, Value.category]; done) | rfl) ?_
  refine own_iloadN X0 hx (hb hby d5_0) rfl ?_
  refine own_newP (n := (1 : Int32)) (cap := 1) (ad := "[B") X0 hx hZ (own_m hw 25 rfl) e0 (hb hby d5_1) (by decide) (by decide) (by decide) (by decide) (by decide) (by decide) fun T3 h3 k3 b3 g3 X3 e3 E3 A3 Ex3 => ?_
  have g_b3 : n0 ≤ b3 := Nat.le_trans Z0 (Nat.le_of_eq g3.symm)
  have szo_b3 : h0.size ≤ b3 := Nat.le_trans (Nat.le_refl h0.size) (Nat.le_of_eq g3.symm)
  have V3 : Arv Z h3 b3 k3 .byte (1 : Int32) [(.int 0)] (.int 0) := (Arv.new A3 (by decide)).pad (pad_rep [] (.int 0) 1)
  refine own_astoreN (l' := #[.val (.ref ca), .val (.int 0), .val (.int 1), .val (.ref b3), .unset, .unset]) X3 hx (hb hby d5_3) rfl rfl ?_
  refine own_aloadN X3 hx (hb hby d5_4) rfl rfl ?_
  refine own_iloadN X3 hx (hb hby d5_5) rfl ?_
  refine own_aloadN X3 hx (hb hby d5_6) rfl rfl ?_
  refine own_iconst X3 hx 0 (hb hby d5_7) rfl ?_
  refine own_iloadN X3 hx (hb hby d5_8) rfl ?_
  refine own_cStat (W := 0) (rest := []) X3 hx hZ [(.ref ca), (.int 0), (.ref b3), (.int 0), (.int 1)] hown (own_m hw 26 rfl) (own_m hw 27 rfl) (by decide) (own_m hw 28 rfl) (own_m hw 23 rfl) e3 (rmC2_1 l Z a0 hw [] ca b3 kc k3 c0 h3 n0 (Nat.le_trans Z0 E3.1) (Vc.ext E3) V3 g_b3 (Nat.ne_of_lt (Nat.lt_of_lt_of_le Vc.lt (Nat.le_of_eq g3.symm))) hx0) (by rw [hml]; rfl) (lenOf pd_0 rfl) rfl (Nat.le_of_eq rfl) (hb hby d5_9) (by decide) (by decide) (by decide) (by decide) fun v4 T4 L4 X4 hQ4 => ?_
  obtain ⟨rfl, N4q, K4, Vb4⟩ := hQ4
  have N4 := Fr.app N0 N4q
  show own_At p e below _ T4 m 12 _ [(.int 1)]
  refine own_istore (l' := #[.val (.ref ca), .val (.int 0), .val (.int 1), .val (.ref b3), .val (.int 1), .unset]) X4 hx (hb hby d5_12) rfl ?_
  refine own_iload X4 hx (hb hby d5_14) rfl ?_
  refine own_iloadN X4 hx (hb hby d5_16) rfl ?_
  refine own_icmpYes X4 hx 57 (hb hby d5_17) (teq (by decide : (1 : Int32) = (1 : Int32))).1 (by decide) (by decide) ?_
  refine own_aloadN X4 hx (hb hby d5_57) rfl rfl ?_
  refine own_retA X4 hx hlk hret rfl rfl rfl (hb hby d5_58) (own_kN (by decide) (by decide) ?_)
  exact ⟨b3, k3, rfl, N4, (Keep.trans (Keep.ext (Keep.refl h0 []) E3) K4 (allS (Or.inr szo_b3) all0)), szo_b3, g_b3, (Exa.keep Ex3 K4), Vb4⟩
theorem d7_0 : decode jdk_52_method_15_code 0 = .ok (.iload_n 1, 1) := by decide +kernel
theorem d7_1 : decode jdk_52_method_15_code 1 = .ok (.aload_n 0, 1) := by decide +kernel
theorem d7_2 : decode jdk_52_method_15_code 2 = .ok (.arraylength, 1) := by decide +kernel
theorem d7_3 : decode jdk_52_method_15_code 3 = .ok (.isub, 1) := by decide +kernel
theorem d7_4 : decode jdk_52_method_15_code 4 = .ok (.bipush 31, 2) := by decide +kernel
theorem d7_6 : decode jdk_52_method_15_code 6 = .ok (.iushr, 1) := by decide +kernel
theorem d7_7 : decode jdk_52_method_15_code 7 = .ok (.i2b, 1) := by decide +kernel
theorem d7_8 : decode jdk_52_method_15_code 8 = .ok (.ireturn, 1) := by decide +kernel
set_option maxRecDepth 65536 in
set_option maxHeartbeats 40000000 in
theorem rmCF_1 (l : Launch) (Z : State) (a0 : Array Value) (hw : own_Wd a0 Z) (ws : List Jvm.Cond) (ba : Addr)  (h0 : Heap) (n0 : Nat) (Z0 : n0 ≤ h0.size) (A : own_Aln Z h0 ba .byte (1 : Int32)) :
    own_Met l (⟨"java/lang/StringUTF16", "coderFromArrayLen", "([BI)B"⟩ : MethodName) jdk_52_method_15_code 2 (some .byte) ws ({ frames := 0, cells := 0, slots := 0, locals := 0 } : Room) Z #[(.ref ba), (.int 1)] h0 (fun v h L => v = some (.int 0) ∧ Fr n0 L ∧ h = h0) := by
  refine own_body (plainFor_of_name pn_1) ?_
  intro p e s m below meth c s₁ X0 hx hby hml hown hnm hret hlk hZ e0
  replace hown : s.vm.findClass "java/lang/StringUTF16" = some m.cls := hown
  replace hml : c.maxLocals = 2 := hml
  replace hret : meth.sig.returnType = (some .byte) := hret
  have N0 := Fr.nil n0
  refine own_ef (L0 := #[.val (.ref ba), .val (.int 1)]) (by first | (simp [entryFrame, mkF, argsToLocals, Value.category]; done) | rfl) ?_
  refine own_iloadN X0 hx (hb hby d7_0) rfl ?_
  refine own_aloadN X0 hx (hb hby d7_1) rfl rfl ?_
  refine own_arraylength X0 hx hZ e0 A (hb hby d7_2) ?_
  refine own_isub X0 hx (hb hby d7_3) ?_
  rw [show ((1 : Int32) - (1 : Int32)) = (0 : Int32) from by decide]
  refine own_bipush X0 hx 31 (hb hby d7_4) rfl ?_
  refine own_iushr X0 hx (hb hby d7_6) ?_
  rw [show (((0 : Int32).toUInt32 >>> ((31 : Int32) &&& 31).toUInt32).toInt32) = (0 : Int32) from by decide]
  refine own_i2b X0 hx (hb hby d7_7) ?_
  rw [show ((0 : Int32).toInt8.toInt32) = (0 : Int32) from by decide]
  refine own_retN X0 hx hlk hret (by simp) (by decide) (hb hby d7_8) (own_kN (by decide) (by decide) ?_)
  try rw [e0]
  exact ⟨rfl, N0, rfl⟩
theorem d3_0 : decode jdk_42_method_149_code 0 = .ok (.aload_n 0, 1) := by decide +kernel
theorem d3_1 : decode jdk_42_method_149_code 1 = .ok (.invokespecial 1, 3) := by decide +kernel
theorem d3_4 : decode jdk_42_method_149_code 4 = .ok (.iload_n 3, 1) := by decide +kernel
theorem d3_5 : decode jdk_42_method_149_code 5 = .ok (.ifCond .ne 22, 3) := by decide +kernel
theorem d3_8 : decode jdk_42_method_149_code 8 = .ok (.aload_n 0, 1) := by decide +kernel
theorem d3_9 : decode jdk_42_method_149_code 9 = .ok (.ldc 7, 2) := by decide +kernel
theorem d3_11 : decode jdk_42_method_149_code 11 = .ok (.getfield 9, 3) := by decide +kernel
theorem d3_14 : decode jdk_42_method_149_code 14 = .ok (.putfield 9, 3) := by decide +kernel
theorem d3_17 : decode jdk_42_method_149_code 17 = .ok (.aload_n 0, 1) := by decide +kernel
theorem d3_18 : decode jdk_42_method_149_code 18 = .ok (.ldc 7, 2) := by decide +kernel
theorem d3_20 : decode jdk_42_method_149_code 20 = .ok (.getfield 15, 3) := by decide +kernel
theorem d3_23 : decode jdk_42_method_149_code 23 = .ok (.putfield 15, 3) := by decide +kernel
theorem d3_26 : decode jdk_42_method_149_code 26 = .ok (.return_, 1) := by decide +kernel
theorem d3_27 : decode jdk_42_method_149_code 27 = .ok (.getstatic 38, 3) := by decide +kernel
theorem d3_30 : decode jdk_42_method_149_code 30 = .ok (.ifCond .eq 28, 3) := by decide +kernel
theorem d3_33 : decode jdk_42_method_149_code 33 = .ok (.aload_n 1, 1) := by decide +kernel
theorem d3_34 : decode jdk_42_method_149_code 34 = .ok (.iload_n 2, 1) := by decide +kernel
theorem d3_35 : decode jdk_42_method_149_code 35 = .ok (.iload_n 3, 1) := by decide +kernel
theorem d3_36 : decode jdk_42_method_149_code 36 = .ok (.invokestatic 177, 3) := by decide +kernel
theorem d3_39 : decode jdk_42_method_149_code 39 = .ok (.astore 5, 2) := by decide +kernel
theorem d3_41 : decode jdk_42_method_149_code 41 = .ok (.aload_n 0, 1) := by decide +kernel
theorem d3_42 : decode jdk_42_method_149_code 42 = .ok (.aload 5, 2) := by decide +kernel
theorem d3_44 : decode jdk_42_method_149_code 44 = .ok (.iload_n 3, 1) := by decide +kernel
theorem d3_45 : decode jdk_42_method_149_code 45 = .ok (.invokestatic 47, 3) := by decide +kernel
theorem d3_48 : decode jdk_42_method_149_code 48 = .ok (.putfield 15, 3) := by decide +kernel
theorem d3_51 : decode jdk_42_method_149_code 51 = .ok (.aload_n 0, 1) := by decide +kernel
theorem d3_52 : decode jdk_42_method_149_code 52 = .ok (.aload 5, 2) := by decide +kernel
theorem d3_54 : decode jdk_42_method_149_code 54 = .ok (.putfield 9, 3) := by decide +kernel
theorem d3_57 : decode jdk_42_method_149_code 57 = .ok (.return_, 1) := by decide +kernel
theorem pn_2 : plainName "java/lang/String" = true := by first | (simp [plainName, overriddenIn]; done) | decide +kernel
theorem pd_1 : parseMethodDescriptor "([CII)[B" = some ⟨[(.array .char), .int, .int], some (.array .byte)⟩ := by decide +kernel
theorem pd_2 : parseMethodDescriptor "([BI)B" = some ⟨[(.array .byte), .int], some .byte⟩ := by decide +kernel
set_option maxRecDepth 65536 in
set_option maxHeartbeats 40000000 in
theorem rmI2_1 (l : Launch) (Z : State) (a0 : Array Value) (hw : own_Wd a0 Z) (ws : List Jvm.Cond) (a ca : Addr) (kc : ClassId) (cs c0 : Int32)  (h0 : Heap) (n0 : Nat) (Z0 : n0 ≤ h0.size) (Ea : Exa Z h0 a "java/lang/String") (Fv : Fld Z h0 a "java/lang/String" "value" "[B" .null) (Fc : Fld Z h0 a "java/lang/String" "coder" "B" (.int 0)) (g_a : n0 ≤ a) (Sc : Sta Z h0 "java/lang/String" "COMPACT_STRINGS" "Z" (.int cs)) (hcs : ¬ (cs = (0 : Int32))) (Vc : Arv Z h0 ca kc .char (1 : Int32) [(.int c0)] (.int 0)) (Ecs : Exa Z h0 ca "[C") (hx0 : ¬ ((255 : Int32) < c0)) :
    own_Met l (⟨"java/lang/String", "<init>", "([CIILjava/lang/Void;)V"⟩ : MethodName) jdk_42_method_149_code 6 none ws ({ frames := 2, cells := 1, slots := 1, locals := 35 } : Room) Z #[(.ref a), (.ref ca), (.int 0), (.int 1), .null] h0 (fun v h L => v = none ∧ Fr n0 L ∧ Keep h0 h [a] ∧ ∃ b k, h0.size ≤ b ∧ Exa Z h b "[B" ∧ Exa Z h a "java/lang/String" ∧ Fld Z h a "java/lang/String" "value" "[B" (.ref b) ∧ Fld Z h a "java/lang/String" "coder" "B" (.int 0) ∧ Arv Z h b k .byte (1 : Int32) [(.int (c0.toInt8.toInt32))] (.int 0)) := by
  refine own_body (plainFor_of_name pn_2) ?_
  intro p e s m below meth c s₁ X0 hx hby hml hown hnm hret hlk hZ e0
  replace hown : s.vm.findClass "java/lang/String" = some m.cls := hown
  replace hml : c.maxLocals = 6 := hml
  replace hret : meth.sig.returnType = none := hret
  have N0 := Fr.nil n0
  refine own_ef (L0 := #[.val (.ref a), .val (.ref ca), .val (.int 0), .val (.int 1), .val .null, .unset]) (by first | (simp [entryFrame, mkF, argsToLocals, Value.category]; done) | rfl) ?_
  refine own_aloadN X0 hx (hb hby d3_0) rfl rfl ?_
  refine own_initO (W := 0) X0 hx hZ hown (own_m hw 17 rfl) (own_m hw 18 rfl) (own_m hw 19 rfl) e0 (by rw [hml]; rfl) (hb hby d3_1) (by decide) (Nat.le_of_eq rfl) (by decide) fun T5 X5 e5 => ?_
  refine own_iloadN X5 hx (hb hby d3_4) rfl ?_
  refine own_ifYes X5 hx 27 (hb hby d3_5) (feq (by decide : ¬ ((1 : Int32) = (0 : Int32)))).2 (by decide) (by decide) ?_
  refine own_getS X5 hx hZ hown (host := "") (Or.inl (own_m hw 20 rfl)) Via.refl e5 Sc (hb hby d3_27) fun T6 X6 e6 => ?_
  refine own_ifNo X6 hx (hb hby d3_30) (feq hcs).1 ?_
  refine own_aloadN X6 hx (hb hby d3_33) rfl rfl ?_
  refine own_iloadN X6 hx (hb hby d3_34) rfl ?_
  refine own_iloadN X6 hx (hb hby d3_35) rfl ?_
  refine own_cStat (W := 0) (rest := []) X6 hx hZ [(.ref ca), (.int 0), (.int 1)] hown (own_m hw 21 rfl) (own_m hw 22 rfl) (by decide) (own_m hw 24 rfl) (own_m hw 23 rfl) e6 (rmC1_1 l Z a0 hw [] ca kc c0 h0 n0 Z0 Vc hx0) (by rw [hml]; rfl) (lenOf pd_1 rfl) rfl (Nat.le_of_eq rfl) (hb hby d3_36) (by decide) (by decide) (by decide) (by decide) fun v7 T7 L7 X7 hQ7 => ?_
  obtain ⟨b7, kb7, rfl, N7q, K7, szb7, gb7, Eb7, Vb7⟩ := hQ7
  have N7 := Fr.app N0 N7q
  have szo_b7 : h0.size ≤ b7 := Nat.le_trans (Nat.le_refl h0.size) szb7
  show own_At p e below _ T7 m 39 _ [(.ref b7)]
  refine own_astore (l' := #[.val (.ref a), .val (.ref ca), .val (.int 0), .val (.int 1), .val .null, .val (.ref b7)]) X7 hx (hb hby d3_39) rfl rfl ?_
  refine own_aloadN X7 hx (hb hby d3_41) rfl rfl ?_
  refine own_aload X7 hx (hb hby d3_42) rfl rfl ?_
  refine own_iloadN X7 hx (hb hby d3_44) rfl ?_
  refine own_cStat (W := 1) (rest := [(.ref a)]) X7 hx hZ [(.ref b7), (.int 1)] hown (own_m hw 29 rfl) (own_m hw 30 rfl) (by decide) (own_m hw 31 rfl) (own_m hw 23 rfl) rfl (rmCF_1 l Z a0 hw [] b7 T7.heap n0 (Nat.le_trans Z0 K7.1) (own_alnV Vb7)) (by rw [hml]; rfl) (lenOf pd_2 rfl) rfl (Nat.le_of_eq rfl) (hb hby d3_45) (by decide) (by decide) (by decide) (by decide) fun v8 T8 L8 X8 hQ8 => ?_
  obtain ⟨rfl, N8q, e8⟩ := hQ8
  have N8 := Fr.app N7 N8q
  show own_At p e below _ T8 m 48 _ [(.int 0), (.ref a)]
  obtain ⟨T9, h9, X9, e9, W9, st9⟩ := putFN X8 hx hZ hown (own_m hw 32 rfl) Via.refl e8 (Fld.keep Fc K7 nin0) (Exa.keep Ea K7) (Or.inr ⟨(own_m hw 33 rfl), rfl, hnm⟩) (own_m hw 8 rfl) (ty := .byte) (v' := (.int 0)) (by decide) rfl rfl (g := (mkF m 48 #[.val (.ref a), .val (.ref ca), .val (.int 0), .val (.int 1), .val .null, .val (.ref b7)] [(.int 0), (.ref a)])) rfl rfl (hb hby d3_48)
  refine own_step (S' := (T9.setTop (mkF m 51 #[.val (.ref a), .val (.ref ca), .val (.int 0), .val (.int 1), .val .null, .val (.ref b7)] []))) (fun _ k => st9 _ k) ?_
  have Fw9 := Fld.same W9 (Fld.keep Fc K7 nin0)
  have N9 := Fr.snoc X9 N8 g_a
  refine own_aloadN X9 hx (hb hby d3_51) rfl rfl ?_
  refine own_aload X9 hx (hb hby d3_52) rfl rfl ?_
  refine own_putF X9 hx hZ hown (host := "") (Or.inl (own_m hw 34 rfl)) Via.refl e9 (Fld.other W9 (Fld.keep Fv K7 nin0) (Or.inr (slot_ne (Or.inr (own_m hw 35 rfl)) (Or.inr (own_m hw 33 rfl)) (by decide) (t := (.array .byte)) (t' := .byte) (by decide) (by decide)))) (Exa.wr W9 (Exa.keep Ea K7)) (Or.inr ⟨(own_m hw 35 rfl), rfl, hnm⟩) (own_m hw 8 rfl) (ty := (.array .byte)) (by decide) rfl rfl (hb hby d3_54) fun T10 h10 X10 e10 W10 => ?_
  have Fw10 := Fld.same W10 (Fld.other W9 (Fld.keep Fv K7 nin0) (Or.inr (slot_ne (Or.inr (own_m hw 35 rfl)) (Or.inr (own_m hw 33 rfl)) (by decide) (t := (.array .byte)) (t' := .byte) (by decide) (by decide))))
  have N10 := Fr.snoc X10 N9 g_a
  refine own_retV X10 hx hlk hret (hb hby d3_57) (own_kN (by decide) (by decide) ?_)
  try rw [e10]
  exact ⟨rfl, N10, (Keep.wr (Keep.wr (Keep.trans (Keep.refl h0 [a]) K7 all0) W9 (Or.inl (List.mem_of_getElem? (i := 0) rfl))) W10 (Or.inl (List.mem_of_getElem? (i := 0) rfl))), b7, kb7, szo_b7, (Exa.wr W10 (Exa.wr W9 Eb7)), (Exa.wr W10 (Exa.wr W9 (Exa.keep Ea K7))), Fw10, (Fld.other W10 Fw9 (Or.inr (slot_ne (Or.inr (own_m hw 33 rfl)) (Or.inr (own_m hw 35 rfl)) (by decide) (t := .byte) (t' := (.array .byte)) (by decide) (by decide)))), (Arv.other (Arv.other Vb7 W9 (Ne.symm (Nat.ne_of_lt (Nat.lt_of_lt_of_le Ea.lt szb7)))) W10 (Ne.symm (Nat.ne_of_lt (Nat.lt_of_lt_of_le Ea.lt szb7))))⟩
theorem d2_0 : decode jdk_42_method_3_code 0 = .ok (.aload_n 0, 1) := by decide +kernel
theorem d2_1 : decode jdk_42_method_3_code 1 = .ok (.aload_n 1, 1) := by decide +kernel
theorem d2_2 : decode jdk_42_method_3_code 2 = .ok (.iconst 0, 1) := by decide +kernel
theorem d2_3 : decode jdk_42_method_3_code 3 = .ok (.aload_n 1, 1) := by decide +kernel
theorem d2_4 : decode jdk_42_method_3_code 4 = .ok (.arraylength, 1) := by decide +kernel
theorem d2_5 : decode jdk_42_method_3_code 5 = .ok (.aconst_null, 1) := by decide +kernel
theorem d2_6 : decode jdk_42_method_3_code 6 = .ok (.invokespecial 27, 3) := by decide +kernel
theorem d2_9 : decode jdk_42_method_3_code 9 = .ok (.return_, 1) := by decide +kernel
theorem pd_3 : parseMethodDescriptor "([CIILjava/lang/Void;)V" = some ⟨[(.array .char), .int, .int, (.object "java/lang/Void")], none⟩ := by decide +kernel
set_option maxRecDepth 65536 in
set_option maxHeartbeats 40000000 in
theorem rmI1_1 (l : Launch) (Z : State) (a0 : Array Value) (hw : own_Wd a0 Z) (ws : List Jvm.Cond) (a ca : Addr) (kc : ClassId) (cs c0 : Int32)  (h0 : Heap) (n0 : Nat) (Z0 : n0 ≤ h0.size) (Ea : Exa Z h0 a "java/lang/String") (Fv : Fld Z h0 a "java/lang/String" "value" "[B" .null) (Fc : Fld Z h0 a "java/lang/String" "coder" "B" (.int 0)) (g_a : n0 ≤ a) (Sc : Sta Z h0 "java/lang/String" "COMPACT_STRINGS" "Z" (.int cs)) (hcs : ¬ (cs = (0 : Int32))) (Vc : Arv Z h0 ca kc .char (1 : Int32) [(.int c0)] (.int 0)) (Ecs : Exa Z h0 ca "[C") (hx0 : ¬ ((255 : Int32) < c0)) :
    own_Met l (⟨"java/lang/String", "<init>", "([C)V"⟩ : MethodName) jdk_42_method_3_code 2 none ws ({ frames := 3, cells := 1, slots := 1, locals := 52 } : Room) Z #[(.ref a), (.ref ca)] h0 (fun v h L => v = none ∧ Fr n0 L ∧ Keep h0 h [a] ∧ ∃ b k, h0.size ≤ b ∧ Exa Z h b "[B" ∧ Exa Z h a "java/lang/String" ∧ Fld Z h a "java/lang/String" "value" "[B" (.ref b) ∧ Fld Z h a "java/lang/String" "coder" "B" (.int 0) ∧ Arv Z h b k .byte (1 : Int32) [(.int (c0.toInt8.toInt32))] (.int 0)) := by
  refine own_body (plainFor_of_name pn_2) ?_
  intro p e s m below meth c s₁ X0 hx hby hml hown hnm hret hlk hZ e0
  replace hown : s.vm.findClass "java/lang/String" = some m.cls := hown
  replace hml : c.maxLocals = 2 := hml
  replace hret : meth.sig.returnType = none := hret
  have N0 := Fr.nil n0
  refine own_ef (L0 := #[.val (.ref a), .val (.ref ca)]) (by first | (simp [entryFrame, mkF, argsToLocals, Value.category]; done) | rfl) ?_
  refine own_aloadN X0 hx (hb hby d2_0) rfl rfl ?_
  refine own_aloadN X0 hx (hb hby d2_1) rfl rfl ?_
  refine own_iconst X0 hx 0 (hb hby d2_2) rfl ?_
  refine own_aloadN X0 hx (hb hby d2_3) rfl rfl ?_
  refine own_arraylength X0 hx hZ e0 (own_alnV Vc) (hb hby d2_4) ?_
  refine own_aconstNull X0 hx (hb hby d2_5) ?_
  refine own_cSpec (b := a) (W := 0) (rest := []) X0 hx hZ [(.ref ca), (.int 0), (.int 1), .null] rfl hown (own_m hw 13 rfl) (own_m hw 14 rfl) (by decide) (own_m hw 16 rfl) (own_m hw 9 rfl) e0 (rmI2_1 l Z a0 hw [] a ca kc cs c0 h0 n0 Z0 Ea Fv Fc g_a Sc hcs Vc Ecs hx0) (by rw [hml]; rfl) (lenOf pd_3 rfl) rfl (Nat.le_of_eq rfl) (hb hby d2_6) (by decide) (by decide) (by decide) (by decide) fun v11 T11 L11 X11 hQ11 => ?_
  obtain ⟨rfl, N11q, K11, R11⟩ := hQ11
  have N11 := Fr.app N0 N11q
  show own_At p e below _ T11 m 9 _ []
  refine own_retV X11 hx hlk hret (hb hby d2_9) (own_kN (by decide) (by decide) ?_)
  exact ⟨rfl, N11, K11, R11⟩
set_option maxRecDepth 65536 in
set_option maxHeartbeats 40000000 in
theorem rmC2_2 (l : Launch) (Z : State) (a0 : Array Value) (hw : own_Wd a0 Z) (ws : List Jvm.Cond) (ca ba : Addr) (kc kb : ClassId) (c0 c1 : Int32)  (h0 : Heap) (n0 : Nat) (Z0 : n0 ≤ h0.size) (Vc : Arv Z h0 ca kc .char (2 : Int32) [(.int c0), (.int c1)] (.int 0)) (Vb : Arv Z h0 ba kb .byte (2 : Int32) [(.int 0), (.int 0)] (.int 0)) (g_ba : n0 ≤ ba) (hne : ca ≠ ba) (hx0 : ¬ ((255 : Int32) < c0)) (hx1 : ¬ ((255 : Int32) < c1)) :
    own_Met l (⟨"java/lang/StringUTF16", "compress", "([CI[BII)I"⟩ : MethodName) jdk_52_method_21_code 7 (some .int) ws ({ frames := 0, cells := 0, slots := 0, locals := 0 } : Room) Z #[(.ref ca), (.int 0), (.ref ba), (.int 0), (.int 2)] h0 (fun v h L => v = some (.int 2) ∧ Fr n0 L ∧ Keep h0 h [ba] ∧ Arv Z h ba kb .byte (2 : Int32) [(.int (c0.toInt8.toInt32)), (.int (c1.toInt8.toInt32))] (.int 0)) := by
  refine own_body (plainFor_of_name pn_1) ?_
  intro p e s m below meth c s₁ X0 hx hby hml hown hnm hret hlk hZ e0
  replace hown : s.vm.findClass "java/lang/StringUTF16" = some m.cls := hown
  replace hml : c.maxLocals = 7 := hml
  replace hret : meth.sig.returnType = (some .int) := hret
  have N0 := Fr.nil n0
  refine own_ef (L0 := #[.val (.ref ca), .val (.int 0), .val (.ref ba), .val (.int 0), .val (.int 2), .unset, .unset]) (by first | (simp [entryFrame, mkF, argsToLocals, Value.category]; done) | rfl) ?_
  refine own_iconst X0 hx 0 (hb hby d6_0) rfl ?_
  refine own_istore (l' := #[.val (.ref ca), .val (.int 0), .val (.ref ba), .val (.int 0), .val (.int 2), .val (.int 0), .unset]) X0 hx (hb hby d6_1) rfl ?_
  refine own_iload X0 hx (hb hby d6_3) rfl ?_
  refine own_iload X0 hx (hb hby d6_5) rfl ?_
  refine own_icmpNo X0 hx (hb hby d6_7) (tlt (by decide : (0 : Int32) < (2 : Int32))).2.1 ?_
  refine own_aloadN X0 hx (hb hby d6_10) rfl rfl ?_
  refine own_iloadN X0 hx (hb hby d6_11) rfl ?_
  refine own_caload X0 hx hZ (.int c0) e0 Vc ⟨by decide, by decide⟩ rfl (hb hby d6_12) ?_
  refine own_istore (l' := #[.val (.ref ca), .val (.int 0), .val (.ref ba), .val (.int 0), .val (.int 2), .val (.int 0), .val (.int c0)]) X0 hx (hb hby d6_13) rfl ?_
  refine own_iload X0 hx (hb hby d6_15) rfl ?_
  refine own_sipush X0 hx 255 (hb hby d6_17) rfl ?_
  refine own_icmpYes X0 hx 26 (hb hby d6_20) (flt hx0).2.2.2 (by decide) (by decide) ?_
  refine own_aloadN X0 hx (hb hby d6_26) rfl rfl ?_
  refine own_iloadN X0 hx (hb hby d6_27) rfl ?_
  refine own_iload X0 hx (hb hby d6_28) rfl ?_
  refine own_i2b X0 hx (hb hby d6_30) ?_
  refine own_stB (vs' := [(.int (c0.toInt8.toInt32)), (.int 0)]) (w := (.int (c0.toInt8.toInt32))) X0 hx hZ e0 Vb ⟨by decide, by decide⟩ 0 rfl (Nat.le_of_ble_eq_true rfl) (congrArg Value.int (own_b8 _)) rfl (hb hby d6_31) fun T12 h12 X12 e12 W12 V12 => ?_
  have N12 := Fr.snoc X12 N0 g_ba
  refine own_iinc (l' := #[.val (.ref ca), .val (.int ((0 : Int32) + (1 : Int32))), .val (.ref ba), .val (.int 0), .val (.int 2), .val (.int 0), .val (.int c0)]) X12 hx (hb hby d6_32) rfl rfl ?_
  rw [show ((0 : Int32) + (1 : Int32)) = (1 : Int32) from by decide]
  refine own_iinc (l' := #[.val (.ref ca), .val (.int 1), .val (.ref ba), .val (.int ((0 : Int32) + (1 : Int32))), .val (.int 2), .val (.int 0), .val (.int c0)]) X12 hx (hb hby d6_35) rfl rfl ?_
  rw [show ((0 : Int32) + (1 : Int32)) = (1 : Int32) from by decide]
  refine own_iinc (l' := #[.val (.ref ca), .val (.int 1), .val (.ref ba), .val (.int 1), .val (.int 2), .val (.int ((0 : Int32) + (1 : Int32))), .val (.int c0)]) X12 hx (hb hby d6_38) rfl rfl ?_
  rw [show ((0 : Int32) + (1 : Int32)) = (1 : Int32) from by decide]
  refine own_goto X12 hx 3 (hb hby d6_41) (by decide) (by decide) ?_
  refine own_iload X12 hx (hb hby d6_3) rfl ?_
  refine own_iload X12 hx (hb hby d6_5) rfl ?_
  refine own_icmpNo X12 hx (hb hby d6_7) (tlt (by decide : (1 : Int32) < (2 : Int32))).2.1 ?_
  refine own_aloadN X12 hx (hb hby d6_10) rfl rfl ?_
  refine own_iloadN X12 hx (hb hby d6_11) rfl ?_
  refine own_caload X12 hx hZ (.int c1) e12 (Arv.other Vc W12 hne) ⟨by decide, by decide⟩ rfl (hb hby d6_12) ?_
  refine own_istore (l' := #[.val (.ref ca), .val (.int 1), .val (.ref ba), .val (.int 1), .val (.int 2), .val (.int 1), .val (.int c1)]) X12 hx (hb hby d6_13) rfl ?_
  refine own_iload X12 hx (hb hby d6_15) rfl ?_
  refine own_sipush X12 hx 255 (hb hby d6_17) rfl ?_
  refine own_icmpYes X12 hx 26 (hb hby d6_20) (flt hx1).2.2.2 (by decide) (by decide) ?_
  refine own_aloadN X12 hx (hb hby d6_26) rfl rfl ?_
  refine own_iloadN X12 hx (hb hby d6_27) rfl ?_
  refine own_iload X12 hx (hb hby d6_28) rfl ?_
  refine own_i2b X12 hx (hb hby d6_30) ?_
  refine own_stB (vs' := [(.int (c0.toInt8.toInt32)), (.int (c1.toInt8.toInt32))]) (w := (.int (c1.toInt8.toInt32))) X12 hx hZ e12 V12 ⟨by decide, by decide⟩ 1 rfl (Nat.le_of_ble_eq_true rfl) (congrArg Value.int (own_b8 _)) rfl (hb hby d6_31) fun T13 h13 X13 e13 W13 V13 => ?_
  have N13 := Fr.snoc X13 N12 g_ba
  refine own_iinc (l' := #[.val (.ref ca), .val (.int ((1 : Int32) + (1 : Int32))), .val (.ref ba), .val (.int 1), .val (.int 2), .val (.int 1), .val (.int c1)]) X13 hx (hb hby d6_32) rfl rfl ?_
  rw [show ((1 : Int32) + (1 : Int32)) = (2 : Int32) from by decide]
  refine own_iinc (l' := #[.val (.ref ca), .val (.int 2), .val (.ref ba), .val (.int ((1 : Int32) + (1 : Int32))), .val (.int 2), .val (.int 1), .val (.int c1)]) X13 hx (hb hby d6_35) rfl rfl ?_
  rw [show ((1 : Int32) + (1 : Int32)) = (2 : Int32) from by decide]
  refine own_iinc (l' := #[.val (.ref ca), .val (.int 2), .val (.ref ba), .val (.int 2), .val (.int 2), .val (.int ((1 : Int32) + (1 : Int32))), .val (.int c1)]) X13 hx (hb hby d6_38) rfl rfl ?_
  rw [show ((1 : Int32) + (1 : Int32)) = (2 : Int32) from by decide]
  refine own_goto X13 hx 3 (hb hby d6_41) (by decide) (by decide) ?_
  refine own_iload X13 hx (hb hby d6_3) rfl ?_
  refine own_iload X13 hx (hb hby d6_5) rfl ?_
  refine own_icmpYes X13 hx 44 (hb hby d6_7) (flt (by decide : ¬ ((2 : Int32) < (2 : Int32)))).2.1 (by decide) (by decide) ?_
  refine own_iload X13 hx (hb hby d6_44) rfl ?_
  refine own_retI X13 hx hlk hret (hb hby d6_46) (own_kN (by decide) (by decide) ?_)
  try rw [e13]
  exact ⟨rfl, N13, (Keep.wr (Keep.wr (Keep.refl h0 [ba]) W12 (Or.inl (List.mem_of_getElem? (i := 0) rfl))) W13 (Or.inl (List.mem_of_getElem? (i := 0) rfl))), V13⟩
set_option maxRecDepth 65536 in
set_option maxHeartbeats 40000000 in
theorem rmC1_2 (l : Launch) (Z : State) (a0 : Array Value) (hw : own_Wd a0 Z) (ws : List Jvm.Cond) (ca : Addr) (kc : ClassId) (c0 c1 : Int32)  (h0 : Heap) (n0 : Nat) (Z0 : n0 ≤ h0.size) (Vc : Arv Z h0 ca kc .char (2 : Int32) [(.int c0), (.int c1)] (.int 0)) (hx0 : ¬ ((255 : Int32) < c0)) (hx1 : ¬ ((255 : Int32) < c1)) :
    own_Met l (⟨"java/lang/StringUTF16", "compress", "([CII)[B"⟩ : MethodName) jdk_52_method_16_code 6 (some (.array .byte)) ws ({ frames := 1, cells := 1, slots := 2, locals := 18 } : Room) Z #[(.ref ca), (.int 0), (.int 2)] h0 (fun v h L => ∃ b k, v = some (.ref b) ∧ Fr n0 L ∧ Keep h0 h [] ∧ h0.size ≤ b ∧ n0 ≤ b ∧ Exa Z h b "[B" ∧ Arv Z h b k .byte (2 : Int32) [(.int (c0.toInt8.toInt32)), (.int (c1.toInt8.toInt32))] (.int 0)) := by
  refine own_body (plainFor_of_name pn_1) ?_
  intro p e s m below meth c s₁ X0 hx hby hml hown hnm hret hlk hZ e0
  replace hown : s.vm.findClass "java/lang/StringUTF16" = some m.cls := hown
  replace hml : c.maxLocals = 6 := hml
  replace hret : meth.sig.returnType = (some (.array .byte)) := hret
  have N0 := Fr.nil n0
  refine own_ef (L0 := #[.val (.ref ca), .val (.int 0), .val (.int 2), .unset, .unset, .unset]) (by first | (simp [entryFrame, mkF, argsToLocals, Value.category]; done) | rfl) ?_
  refine own_iloadN X0 hx (hb hby d5_0) rfl ?_
  refine own_newP (n := (2 : Int32)) (cap := 2) (ad := "[B") X0 hx hZ (own_m hw 25 rfl) e0 (hb hby d5_1) (by decide) (by decide) (by decide) (by decide) (by decide) (by decide) fun T14 h14 k14 b14 g14 X14 e14 E14 A14 Ex14 => ?_
  have g_b14 : n0 ≤ b14 := Nat.le_trans Z0 (Nat.le_of_eq g14.symm)
  have szo_b14 : h0.size ≤ b14 := Nat.le_trans (Nat.le_refl h0.size) (Nat.le_of_eq g14.symm)
  have V14 : Arv Z h14 b14 k14 .byte (2 : Int32) [(.int 0), (.int 0)] (.int 0) := (Arv.new A14 (by decide)).pad (pad_rep [] (.int 0) 2)
  refine own_astoreN (l' := #[.val (.ref ca), .val (.int 0), .val (.int 2), .val (.ref b14), .unset, .unset]) X14 hx (hb hby d5_3) rfl rfl ?_
  refine own_aloadN X14 hx (hb hby d5_4) rfl rfl ?_
  refine own_iloadN X14 hx (hb hby d5_5) rfl ?_
  refine own_aloadN X14 hx (hb hby d5_6) rfl rfl ?_
  refine own_iconst X14 hx 0 (hb hby d5_7) rfl ?_
  refine own_iloadN X14 hx (hb hby d5_8) rfl ?_
  refine own_cStat (W := 0) (rest := []) X14 hx hZ [(.ref ca), (.int 0), (.ref b14), (.int 0), (.int 2)] hown (own_m hw 26 rfl) (own_m hw 27 rfl) (by decide) (own_m hw 28 rfl) (own_m hw 23 rfl) e14 (rmC2_2 l Z a0 hw [] ca b14 kc k14 c0 c1 h14 n0 (Nat.le_trans Z0 E14.1) (Vc.ext E14) V14 g_b14 (Nat.ne_of_lt (Nat.lt_of_lt_of_le Vc.lt (Nat.le_of_eq g14.symm))) hx0 hx1) (by rw [hml]; rfl) (lenOf pd_0 rfl) rfl (Nat.le_of_eq rfl) (hb hby d5_9) (by decide) (by decide) (by decide) (by decide) fun v15 T15 L15 X15 hQ15 => ?_
  obtain ⟨rfl, N15q, K15, Vb15⟩ := hQ15
  have N15 := Fr.app N0 N15q
  show own_At p e below _ T15 m 12 _ [(.int 2)]
  refine own_istore (l' := #[.val (.ref ca), .val (.int 0), .val (.int 2), .val (.ref b14), .val (.int 2), .unset]) X15 hx (hb hby d5_12) rfl ?_
  refine own_iload X15 hx (hb hby d5_14) rfl ?_
  refine own_iloadN X15 hx (hb hby d5_16) rfl ?_
  refine own_icmpYes X15 hx 57 (hb hby d5_17) (teq (by decide : (2 : Int32) = (2 : Int32))).1 (by decide) (by decide) ?_
  refine own_aloadN X15 hx (hb hby d5_57) rfl rfl ?_
  refine own_retA X15 hx hlk hret rfl rfl rfl (hb hby d5_58) (own_kN (by decide) (by decide) ?_)
  exact ⟨b14, k14, rfl, N15, (Keep.trans (Keep.ext (Keep.refl h0 []) E14) K15 (allS (Or.inr szo_b14) all0)), szo_b14, g_b14, (Exa.keep Ex14 K15), Vb15⟩
set_option maxRecDepth 65536 in
set_option maxHeartbeats 40000000 in
theorem rmCF_2 (l : Launch) (Z : State) (a0 : Array Value) (hw : own_Wd a0 Z) (ws : List Jvm.Cond) (ba : Addr)  (h0 : Heap) (n0 : Nat) (Z0 : n0 ≤ h0.size) (A : own_Aln Z h0 ba .byte (2 : Int32)) :
    own_Met l (⟨"java/lang/StringUTF16", "coderFromArrayLen", "([BI)B"⟩ : MethodName) jdk_52_method_15_code 2 (some .byte) ws ({ frames := 0, cells := 0, slots := 0, locals := 0 } : Room) Z #[(.ref ba), (.int 2)] h0 (fun v h L => v = some (.int 0) ∧ Fr n0 L ∧ h = h0) := by
  refine own_body (plainFor_of_name pn_1) ?_
  intro p e s m below meth c s₁ X0 hx hby hml hown hnm hret hlk hZ e0
  replace hown : s.vm.findClass "java/lang/StringUTF16" = some m.cls := hown
  replace hml : c.maxLocals = 2 := hml
  replace hret : meth.sig.returnType = (some .byte) := hret
  have N0 := Fr.nil n0
  refine own_ef (L0 := #[.val (.ref ba), .val (.int 2)]) (by first | (simp [entryFrame, mkF, argsToLocals, Value.category]; done) | rfl) ?_
  refine own_iloadN X0 hx (hb hby d7_0) rfl ?_
  refine own_aloadN X0 hx (hb hby d7_1) rfl rfl ?_
  refine own_arraylength X0 hx hZ e0 A (hb hby d7_2) ?_
  refine own_isub X0 hx (hb hby d7_3) ?_
  rw [show ((2 : Int32) - (2 : Int32)) = (0 : Int32) from by decide]
  refine own_bipush X0 hx 31 (hb hby d7_4) rfl ?_
  refine own_iushr X0 hx (hb hby d7_6) ?_
  rw [show (((0 : Int32).toUInt32 >>> ((31 : Int32) &&& 31).toUInt32).toInt32) = (0 : Int32) from by decide]
  refine own_i2b X0 hx (hb hby d7_7) ?_
  rw [show ((0 : Int32).toInt8.toInt32) = (0 : Int32) from by decide]
  refine own_retN X0 hx hlk hret (by simp) (by decide) (hb hby d7_8) (own_kN (by decide) (by decide) ?_)
  try rw [e0]
  exact ⟨rfl, N0, rfl⟩
set_option maxRecDepth 65536 in
set_option maxHeartbeats 40000000 in
theorem rmI2_2 (l : Launch) (Z : State) (a0 : Array Value) (hw : own_Wd a0 Z) (ws : List Jvm.Cond) (a ca : Addr) (kc : ClassId) (cs c0 c1 : Int32)  (h0 : Heap) (n0 : Nat) (Z0 : n0 ≤ h0.size) (Ea : Exa Z h0 a "java/lang/String") (Fv : Fld Z h0 a "java/lang/String" "value" "[B" .null) (Fc : Fld Z h0 a "java/lang/String" "coder" "B" (.int 0)) (g_a : n0 ≤ a) (Sc : Sta Z h0 "java/lang/String" "COMPACT_STRINGS" "Z" (.int cs)) (hcs : ¬ (cs = (0 : Int32))) (Vc : Arv Z h0 ca kc .char (2 : Int32) [(.int c0), (.int c1)] (.int 0)) (Ecs : Exa Z h0 ca "[C") (hx0 : ¬ ((255 : Int32) < c0)) (hx1 : ¬ ((255 : Int32) < c1)) :
    own_Met l (⟨"java/lang/String", "<init>", "([CIILjava/lang/Void;)V"⟩ : MethodName) jdk_42_method_149_code 6 none ws ({ frames := 2, cells := 1, slots := 2, locals := 35 } : Room) Z #[(.ref a), (.ref ca), (.int 0), (.int 2), .null] h0 (fun v h L => v = none ∧ Fr n0 L ∧ Keep h0 h [a] ∧ ∃ b k, h0.size ≤ b ∧ Exa Z h b "[B" ∧ Exa Z h a "java/lang/String" ∧ Fld Z h a "java/lang/String" "value" "[B" (.ref b) ∧ Fld Z h a "java/lang/String" "coder" "B" (.int 0) ∧ Arv Z h b k .byte (2 : Int32) [(.int (c0.toInt8.toInt32)), (.int (c1.toInt8.toInt32))] (.int 0)) := by
  refine own_body (plainFor_of_name pn_2) ?_
  intro p e s m below meth c s₁ X0 hx hby hml hown hnm hret hlk hZ e0
  replace hown : s.vm.findClass "java/lang/String" = some m.cls := hown
  replace hml : c.maxLocals = 6 := hml
  replace hret : meth.sig.returnType = none := hret
  have N0 := Fr.nil n0
  refine own_ef (L0 := #[.val (.ref a), .val (.ref ca), .val (.int 0), .val (.int 2), .val .null, .unset]) (by first | (simp [entryFrame, mkF, argsToLocals, Value.category]; done) | rfl) ?_
  refine own_aloadN X0 hx (hb hby d3_0) rfl rfl ?_
  refine own_initO (W := 0) X0 hx hZ hown (own_m hw 17 rfl) (own_m hw 18 rfl) (own_m hw 19 rfl) e0 (by rw [hml]; rfl) (hb hby d3_1) (by decide) (Nat.le_of_eq rfl) (by decide) fun T16 X16 e16 => ?_
  refine own_iloadN X16 hx (hb hby d3_4) rfl ?_
  refine own_ifYes X16 hx 27 (hb hby d3_5) (feq (by decide : ¬ ((2 : Int32) = (0 : Int32)))).2 (by decide) (by decide) ?_
  refine own_getS X16 hx hZ hown (host := "") (Or.inl (own_m hw 20 rfl)) Via.refl e16 Sc (hb hby d3_27) fun T17 X17 e17 => ?_
  refine own_ifNo X17 hx (hb hby d3_30) (feq hcs).1 ?_
  refine own_aloadN X17 hx (hb hby d3_33) rfl rfl ?_
  refine own_iloadN X17 hx (hb hby d3_34) rfl ?_
  refine own_iloadN X17 hx (hb hby d3_35) rfl ?_
  refine own_cStat (W := 0) (rest := []) X17 hx hZ [(.ref ca), (.int 0), (.int 2)] hown (own_m hw 21 rfl) (own_m hw 22 rfl) (by decide) (own_m hw 24 rfl) (own_m hw 23 rfl) e17 (rmC1_2 l Z a0 hw [] ca kc c0 c1 h0 n0 Z0 Vc hx0 hx1) (by rw [hml]; rfl) (lenOf pd_1 rfl) rfl (Nat.le_of_eq rfl) (hb hby d3_36) (by decide) (by decide) (by decide) (by decide) fun v18 T18 L18 X18 hQ18 => ?_
  obtain ⟨b18, kb18, rfl, N18q, K18, szb18, gb18, Eb18, Vb18⟩ := hQ18
  have N18 := Fr.app N0 N18q
  have szo_b18 : h0.size ≤ b18 := Nat.le_trans (Nat.le_refl h0.size) szb18
  show own_At p e below _ T18 m 39 _ [(.ref b18)]
  refine own_astore (l' := #[.val (.ref a), .val (.ref ca), .val (.int 0), .val (.int 2), .val .null, .val (.ref b18)]) X18 hx (hb hby d3_39) rfl rfl ?_
  refine own_aloadN X18 hx (hb hby d3_41) rfl rfl ?_
  refine own_aload X18 hx (hb hby d3_42) rfl rfl ?_
  refine own_iloadN X18 hx (hb hby d3_44) rfl ?_
  refine own_cStat (W := 1) (rest := [(.ref a)]) X18 hx hZ [(.ref b18), (.int 2)] hown (own_m hw 29 rfl) (own_m hw 30 rfl) (by decide) (own_m hw 31 rfl) (own_m hw 23 rfl) rfl (rmCF_2 l Z a0 hw [] b18 T18.heap n0 (Nat.le_trans Z0 K18.1) (own_alnV Vb18)) (by rw [hml]; rfl) (lenOf pd_2 rfl) rfl (Nat.le_of_eq rfl) (hb hby d3_45) (by decide) (by decide) (by decide) (by decide) fun v19 T19 L19 X19 hQ19 => ?_
  obtain ⟨rfl, N19q, e19⟩ := hQ19
  have N19 := Fr.app N18 N19q
  show own_At p e below _ T19 m 48 _ [(.int 0), (.ref a)]
  obtain ⟨T20, h20, X20, e20, W20, st20⟩ := putFN X19 hx hZ hown (own_m hw 32 rfl) Via.refl e19 (Fld.keep Fc K18 nin0) (Exa.keep Ea K18) (Or.inr ⟨(own_m hw 33 rfl), rfl, hnm⟩) (own_m hw 8 rfl) (ty := .byte) (v' := (.int 0)) (by decide) rfl rfl (g := (mkF m 48 #[.val (.ref a), .val (.ref ca), .val (.int 0), .val (.int 2), .val .null, .val (.ref b18)] [(.int 0), (.ref a)])) rfl rfl (hb hby d3_48)
  refine own_step (S' := (T20.setTop (mkF m 51 #[.val (.ref a), .val (.ref ca), .val (.int 0), .val (.int 2), .val .null, .val (.ref b18)] []))) (fun _ k => st20 _ k) ?_
  have Fw20 := Fld.same W20 (Fld.keep Fc K18 nin0)
  have N20 := Fr.snoc X20 N19 g_a
  refine own_aloadN X20 hx (hb hby d3_51) rfl rfl ?_
  refine own_aload X20 hx (hb hby d3_52) rfl rfl ?_
  refine own_putF X20 hx hZ hown (host := "") (Or.inl (own_m hw 34 rfl)) Via.refl e20 (Fld.other W20 (Fld.keep Fv K18 nin0) (Or.inr (slot_ne (Or.inr (own_m hw 35 rfl)) (Or.inr (own_m hw 33 rfl)) (by decide) (t := (.array .byte)) (t' := .byte) (by decide) (by decide)))) (Exa.wr W20 (Exa.keep Ea K18)) (Or.inr ⟨(own_m hw 35 rfl), rfl, hnm⟩) (own_m hw 8 rfl) (ty := (.array .byte)) (by decide) rfl rfl (hb hby d3_54) fun T21 h21 X21 e21 W21 => ?_
  have Fw21 := Fld.same W21 (Fld.other W20 (Fld.keep Fv K18 nin0) (Or.inr (slot_ne (Or.inr (own_m hw 35 rfl)) (Or.inr (own_m hw 33 rfl)) (by decide) (t := (.array .byte)) (t' := .byte) (by decide) (by decide))))
  have N21 := Fr.snoc X21 N20 g_a
  refine own_retV X21 hx hlk hret (hb hby d3_57) (own_kN (by decide) (by decide) ?_)
  try rw [e21]
  exact ⟨rfl, N21, (Keep.wr (Keep.wr (Keep.trans (Keep.refl h0 [a]) K18 all0) W20 (Or.inl (List.mem_of_getElem? (i := 0) rfl))) W21 (Or.inl (List.mem_of_getElem? (i := 0) rfl))), b18, kb18, szo_b18, (Exa.wr W21 (Exa.wr W20 Eb18)), (Exa.wr W21 (Exa.wr W20 (Exa.keep Ea K18))), Fw21, (Fld.other W21 Fw20 (Or.inr (slot_ne (Or.inr (own_m hw 33 rfl)) (Or.inr (own_m hw 35 rfl)) (by decide) (t := .byte) (t' := (.array .byte)) (by decide) (by decide)))), (Arv.other (Arv.other Vb18 W20 (Ne.symm (Nat.ne_of_lt (Nat.lt_of_lt_of_le Ea.lt szb18)))) W21 (Ne.symm (Nat.ne_of_lt (Nat.lt_of_lt_of_le Ea.lt szb18))))⟩
set_option maxRecDepth 65536 in
set_option maxHeartbeats 40000000 in
theorem rmI1_2 (l : Launch) (Z : State) (a0 : Array Value) (hw : own_Wd a0 Z) (ws : List Jvm.Cond) (a ca : Addr) (kc : ClassId) (cs c0 c1 : Int32)  (h0 : Heap) (n0 : Nat) (Z0 : n0 ≤ h0.size) (Ea : Exa Z h0 a "java/lang/String") (Fv : Fld Z h0 a "java/lang/String" "value" "[B" .null) (Fc : Fld Z h0 a "java/lang/String" "coder" "B" (.int 0)) (g_a : n0 ≤ a) (Sc : Sta Z h0 "java/lang/String" "COMPACT_STRINGS" "Z" (.int cs)) (hcs : ¬ (cs = (0 : Int32))) (Vc : Arv Z h0 ca kc .char (2 : Int32) [(.int c0), (.int c1)] (.int 0)) (Ecs : Exa Z h0 ca "[C") (hx0 : ¬ ((255 : Int32) < c0)) (hx1 : ¬ ((255 : Int32) < c1)) :
    own_Met l (⟨"java/lang/String", "<init>", "([C)V"⟩ : MethodName) jdk_42_method_3_code 2 none ws ({ frames := 3, cells := 1, slots := 2, locals := 52 } : Room) Z #[(.ref a), (.ref ca)] h0 (fun v h L => v = none ∧ Fr n0 L ∧ Keep h0 h [a] ∧ ∃ b k, h0.size ≤ b ∧ Exa Z h b "[B" ∧ Exa Z h a "java/lang/String" ∧ Fld Z h a "java/lang/String" "value" "[B" (.ref b) ∧ Fld Z h a "java/lang/String" "coder" "B" (.int 0) ∧ Arv Z h b k .byte (2 : Int32) [(.int (c0.toInt8.toInt32)), (.int (c1.toInt8.toInt32))] (.int 0)) := by
  refine own_body (plainFor_of_name pn_2) ?_
  intro p e s m below meth c s₁ X0 hx hby hml hown hnm hret hlk hZ e0
  replace hown : s.vm.findClass "java/lang/String" = some m.cls := hown
  replace hml : c.maxLocals = 2 := hml
  replace hret : meth.sig.returnType = none := hret
  have N0 := Fr.nil n0
  refine own_ef (L0 := #[.val (.ref a), .val (.ref ca)]) (by first | (simp [entryFrame, mkF, argsToLocals, Value.category]; done) | rfl) ?_
  refine own_aloadN X0 hx (hb hby d2_0) rfl rfl ?_
  refine own_aloadN X0 hx (hb hby d2_1) rfl rfl ?_
  refine own_iconst X0 hx 0 (hb hby d2_2) rfl ?_
  refine own_aloadN X0 hx (hb hby d2_3) rfl rfl ?_
  refine own_arraylength X0 hx hZ e0 (own_alnV Vc) (hb hby d2_4) ?_
  refine own_aconstNull X0 hx (hb hby d2_5) ?_
  refine own_cSpec (b := a) (W := 0) (rest := []) X0 hx hZ [(.ref ca), (.int 0), (.int 2), .null] rfl hown (own_m hw 13 rfl) (own_m hw 14 rfl) (by decide) (own_m hw 16 rfl) (own_m hw 9 rfl) e0 (rmI2_2 l Z a0 hw [] a ca kc cs c0 c1 h0 n0 Z0 Ea Fv Fc g_a Sc hcs Vc Ecs hx0 hx1) (by rw [hml]; rfl) (lenOf pd_3 rfl) rfl (Nat.le_of_eq rfl) (hb hby d2_6) (by decide) (by decide) (by decide) (by decide) fun v22 T22 L22 X22 hQ22 => ?_
  obtain ⟨rfl, N22q, K22, R22⟩ := hQ22
  have N22 := Fr.app N0 N22q
  show own_At p e below _ T22 m 9 _ []
  refine own_retV X22 hx hlk hret (hb hby d2_9) (own_kN (by decide) (by decide) ?_)
  exact ⟨rfl, N22, K22, R22⟩
set_option maxRecDepth 65536 in
set_option maxHeartbeats 40000000 in
theorem rmC2_3 (l : Launch) (Z : State) (a0 : Array Value) (hw : own_Wd a0 Z) (ws : List Jvm.Cond) (ca ba : Addr) (kc kb : ClassId) (c0 c1 c2 : Int32)  (h0 : Heap) (n0 : Nat) (Z0 : n0 ≤ h0.size) (Vc : Arv Z h0 ca kc .char (3 : Int32) [(.int c0), (.int c1), (.int c2)] (.int 0)) (Vb : Arv Z h0 ba kb .byte (3 : Int32) [(.int 0), (.int 0), (.int 0)] (.int 0)) (g_ba : n0 ≤ ba) (hne : ca ≠ ba) (hx0 : ¬ ((255 : Int32) < c0)) (hx1 : ¬ ((255 : Int32) < c1)) (hx2 : ¬ ((255 : Int32) < c2)) :
    own_Met l (⟨"java/lang/StringUTF16", "compress", "([CI[BII)I"⟩ : MethodName) jdk_52_method_21_code 7 (some .int) ws ({ frames := 0, cells := 0, slots := 0, locals := 0 } : Room) Z #[(.ref ca), (.int 0), (.ref ba), (.int 0), (.int 3)] h0 (fun v h L => v = some (.int 3) ∧ Fr n0 L ∧ Keep h0 h [ba] ∧ Arv Z h ba kb .byte (3 : Int32) [(.int (c0.toInt8.toInt32)), (.int (c1.toInt8.toInt32)), (.int (c2.toInt8.toInt32))] (.int 0)) := by
  refine own_body (plainFor_of_name pn_1) ?_
  intro p e s m below meth c s₁ X0 hx hby hml hown hnm hret hlk hZ e0
  replace hown : s.vm.findClass "java/lang/StringUTF16" = some m.cls := hown
  replace hml : c.maxLocals = 7 := hml
  replace hret : meth.sig.returnType = (some .int) := hret
  have N0 := Fr.nil n0
  refine own_ef (L0 := #[.val (.ref ca), .val (.int 0), .val (.ref ba), .val (.int 0), .val (.int 3), .unset, .unset]) (by first | (simp [entryFrame, mkF, argsToLocals, Value.category]; done) | rfl) ?_
  refine own_iconst X0 hx 0 (hb hby d6_0) rfl ?_
  refine own_istore (l' := #[.val (.ref ca), .val (.int 0), .val (.ref ba), .val (.int 0), .val (.int 3), .val (.int 0), .unset]) X0 hx (hb hby d6_1) rfl ?_
  refine own_iload X0 hx (hb hby d6_3) rfl ?_
  refine own_iload X0 hx (hb hby d6_5) rfl ?_
  refine own_icmpNo X0 hx (hb hby d6_7) (tlt (by decide : (0 : Int32) < (3 : Int32))).2.1 ?_
  refine own_aloadN X0 hx (hb hby d6_10) rfl rfl ?_
  refine own_iloadN X0 hx (hb hby d6_11) rfl ?_
  refine own_caload X0 hx hZ (.int c0) e0 Vc ⟨by decide, by decide⟩ rfl (hb hby d6_12) ?_
  refine own_istore (l' := #[.val (.ref ca), .val (.int 0), .val (.ref ba), .val (.int 0), .val (.int 3), .val (.int 0), .val (.int c0)]) X0 hx (hb hby d6_13) rfl ?_
  refine own_iload X0 hx (hb hby d6_15) rfl ?_
  refine own_sipush X0 hx 255 (hb hby d6_17) rfl ?_
  refine own_icmpYes X0 hx 26 (hb hby d6_20) (flt hx0).2.2.2 (by decide) (by decide) ?_
  refine own_aloadN X0 hx (hb hby d6_26) rfl rfl ?_
  refine own_iloadN X0 hx (hb hby d6_27) rfl ?_
  refine own_iload X0 hx (hb hby d6_28) rfl ?_
  refine own_i2b X0 hx (hb hby d6_30) ?_
  refine own_stB (vs' := [(.int (c0.toInt8.toInt32)), (.int 0), (.int 0)]) (w := (.int (c0.toInt8.toInt32))) X0 hx hZ e0 Vb ⟨by decide, by decide⟩ 0 rfl (Nat.le_of_ble_eq_true rfl) (congrArg Value.int (own_b8 _)) rfl (hb hby d6_31) fun T23 h23 X23 e23 W23 V23 => ?_
  have N23 := Fr.snoc X23 N0 g_ba
  refine own_iinc (l' := #[.val (.ref ca), .val (.int ((0 : Int32) + (1 : Int32))), .val (.ref ba), .val (.int 0), .val (.int 3), .val (.int 0), .val (.int c0)]) X23 hx (hb hby d6_32) rfl rfl ?_
  rw [show ((0 : Int32) + (1 : Int32)) = (1 : Int32) from by decide]
  refine own_iinc (l' := #[.val (.ref ca), .val (.int 1), .val (.ref ba), .val (.int ((0 : Int32) + (1 : Int32))), .val (.int 3), .val (.int 0), .val (.int c0)]) X23 hx (hb hby d6_35) rfl rfl ?_
  rw [show ((0 : Int32) + (1 : Int32)) = (1 : Int32) from by decide]
  refine own_iinc (l' := #[.val (.ref ca), .val (.int 1), .val (.ref ba), .val (.int 1), .val (.int 3), .val (.int ((0 : Int32) + (1 : Int32))), .val (.int c0)]) X23 hx (hb hby d6_38) rfl rfl ?_
  rw [show ((0 : Int32) + (1 : Int32)) = (1 : Int32) from by decide]
  refine own_goto X23 hx 3 (hb hby d6_41) (by decide) (by decide) ?_
  refine own_iload X23 hx (hb hby d6_3) rfl ?_
  refine own_iload X23 hx (hb hby d6_5) rfl ?_
  refine own_icmpNo X23 hx (hb hby d6_7) (tlt (by decide : (1 : Int32) < (3 : Int32))).2.1 ?_
  refine own_aloadN X23 hx (hb hby d6_10) rfl rfl ?_
  refine own_iloadN X23 hx (hb hby d6_11) rfl ?_
  refine own_caload X23 hx hZ (.int c1) e23 (Arv.other Vc W23 hne) ⟨by decide, by decide⟩ rfl (hb hby d6_12) ?_
  refine own_istore (l' := #[.val (.ref ca), .val (.int 1), .val (.ref ba), .val (.int 1), .val (.int 3), .val (.int 1), .val (.int c1)]) X23 hx (hb hby d6_13) rfl ?_
  refine own_iload X23 hx (hb hby d6_15) rfl ?_
  refine own_sipush X23 hx 255 (hb hby d6_17) rfl ?_
  refine own_icmpYes X23 hx 26 (hb hby d6_20) (flt hx1).2.2.2 (by decide) (by decide) ?_
  refine own_aloadN X23 hx (hb hby d6_26) rfl rfl ?_
  refine own_iloadN X23 hx (hb hby d6_27) rfl ?_
  refine own_iload X23 hx (hb hby d6_28) rfl ?_
  refine own_i2b X23 hx (hb hby d6_30) ?_
  refine own_stB (vs' := [(.int (c0.toInt8.toInt32)), (.int (c1.toInt8.toInt32)), (.int 0)]) (w := (.int (c1.toInt8.toInt32))) X23 hx hZ e23 V23 ⟨by decide, by decide⟩ 1 rfl (Nat.le_of_ble_eq_true rfl) (congrArg Value.int (own_b8 _)) rfl (hb hby d6_31) fun T24 h24 X24 e24 W24 V24 => ?_
  have N24 := Fr.snoc X24 N23 g_ba
  refine own_iinc (l' := #[.val (.ref ca), .val (.int ((1 : Int32) + (1 : Int32))), .val (.ref ba), .val (.int 1), .val (.int 3), .val (.int 1), .val (.int c1)]) X24 hx (hb hby d6_32) rfl rfl ?_
  rw [show ((1 : Int32) + (1 : Int32)) = (2 : Int32) from by decide]
  refine own_iinc (l' := #[.val (.ref ca), .val (.int 2), .val (.ref ba), .val (.int ((1 : Int32) + (1 : Int32))), .val (.int 3), .val (.int 1), .val (.int c1)]) X24 hx (hb hby d6_35) rfl rfl ?_
  rw [show ((1 : Int32) + (1 : Int32)) = (2 : Int32) from by decide]
  refine own_iinc (l' := #[.val (.ref ca), .val (.int 2), .val (.ref ba), .val (.int 2), .val (.int 3), .val (.int ((1 : Int32) + (1 : Int32))), .val (.int c1)]) X24 hx (hb hby d6_38) rfl rfl ?_
  rw [show ((1 : Int32) + (1 : Int32)) = (2 : Int32) from by decide]
  refine own_goto X24 hx 3 (hb hby d6_41) (by decide) (by decide) ?_
  refine own_iload X24 hx (hb hby d6_3) rfl ?_
  refine own_iload X24 hx (hb hby d6_5) rfl ?_
  refine own_icmpNo X24 hx (hb hby d6_7) (tlt (by decide : (2 : Int32) < (3 : Int32))).2.1 ?_
  refine own_aloadN X24 hx (hb hby d6_10) rfl rfl ?_
  refine own_iloadN X24 hx (hb hby d6_11) rfl ?_
  refine own_caload X24 hx hZ (.int c2) e24 (Arv.other (Arv.other Vc W23 hne) W24 hne) ⟨by decide, by decide⟩ rfl (hb hby d6_12) ?_
  refine own_istore (l' := #[.val (.ref ca), .val (.int 2), .val (.ref ba), .val (.int 2), .val (.int 3), .val (.int 2), .val (.int c2)]) X24 hx (hb hby d6_13) rfl ?_
  refine own_iload X24 hx (hb hby d6_15) rfl ?_
  refine own_sipush X24 hx 255 (hb hby d6_17) rfl ?_
  refine own_icmpYes X24 hx 26 (hb hby d6_20) (flt hx2).2.2.2 (by decide) (by decide) ?_
  refine own_aloadN X24 hx (hb hby d6_26) rfl rfl ?_
  refine own_iloadN X24 hx (hb hby d6_27) rfl ?_
  refine own_iload X24 hx (hb hby d6_28) rfl ?_
  refine own_i2b X24 hx (hb hby d6_30) ?_
  refine own_stB (vs' := [(.int (c0.toInt8.toInt32)), (.int (c1.toInt8.toInt32)), (.int (c2.toInt8.toInt32))]) (w := (.int (c2.toInt8.toInt32))) X24 hx hZ e24 V24 ⟨by decide, by decide⟩ 2 rfl (Nat.le_of_ble_eq_true rfl) (congrArg Value.int (own_b8 _)) rfl (hb hby d6_31) fun T25 h25 X25 e25 W25 V25 => ?_
  have N25 := Fr.snoc X25 N24 g_ba
  refine own_iinc (l' := #[.val (.ref ca), .val (.int ((2 : Int32) + (1 : Int32))), .val (.ref ba), .val (.int 2), .val (.int 3), .val (.int 2), .val (.int c2)]) X25 hx (hb hby d6_32) rfl rfl ?_
  rw [show ((2 : Int32) + (1 : Int32)) = (3 : Int32) from by decide]
  refine own_iinc (l' := #[.val (.ref ca), .val (.int 3), .val (.ref ba), .val (.int ((2 : Int32) + (1 : Int32))), .val (.int 3), .val (.int 2), .val (.int c2)]) X25 hx (hb hby d6_35) rfl rfl ?_
  rw [show ((2 : Int32) + (1 : Int32)) = (3 : Int32) from by decide]
  refine own_iinc (l' := #[.val (.ref ca), .val (.int 3), .val (.ref ba), .val (.int 3), .val (.int 3), .val (.int ((2 : Int32) + (1 : Int32))), .val (.int c2)]) X25 hx (hb hby d6_38) rfl rfl ?_
  rw [show ((2 : Int32) + (1 : Int32)) = (3 : Int32) from by decide]
  refine own_goto X25 hx 3 (hb hby d6_41) (by decide) (by decide) ?_
  refine own_iload X25 hx (hb hby d6_3) rfl ?_
  refine own_iload X25 hx (hb hby d6_5) rfl ?_
  refine own_icmpYes X25 hx 44 (hb hby d6_7) (flt (by decide : ¬ ((3 : Int32) < (3 : Int32)))).2.1 (by decide) (by decide) ?_
  refine own_iload X25 hx (hb hby d6_44) rfl ?_
  refine own_retI X25 hx hlk hret (hb hby d6_46) (own_kN (by decide) (by decide) ?_)
  try rw [e25]
  exact ⟨rfl, N25, (Keep.wr (Keep.wr (Keep.wr (Keep.refl h0 [ba]) W23 (Or.inl (List.mem_of_getElem? (i := 0) rfl))) W24 (Or.inl (List.mem_of_getElem? (i := 0) rfl))) W25 (Or.inl (List.mem_of_getElem? (i := 0) rfl))), V25⟩
set_option maxRecDepth 65536 in
set_option maxHeartbeats 40000000 in
theorem rmC1_3 (l : Launch) (Z : State) (a0 : Array Value) (hw : own_Wd a0 Z) (ws : List Jvm.Cond) (ca : Addr) (kc : ClassId) (c0 c1 c2 : Int32)  (h0 : Heap) (n0 : Nat) (Z0 : n0 ≤ h0.size) (Vc : Arv Z h0 ca kc .char (3 : Int32) [(.int c0), (.int c1), (.int c2)] (.int 0)) (hx0 : ¬ ((255 : Int32) < c0)) (hx1 : ¬ ((255 : Int32) < c1)) (hx2 : ¬ ((255 : Int32) < c2)) :
    own_Met l (⟨"java/lang/StringUTF16", "compress", "([CII)[B"⟩ : MethodName) jdk_52_method_16_code 6 (some (.array .byte)) ws ({ frames := 1, cells := 1, slots := 3, locals := 18 } : Room) Z #[(.ref ca), (.int 0), (.int 3)] h0 (fun v h L => ∃ b k, v = some (.ref b) ∧ Fr n0 L ∧ Keep h0 h [] ∧ h0.size ≤ b ∧ n0 ≤ b ∧ Exa Z h b "[B" ∧ Arv Z h b k .byte (3 : Int32) [(.int (c0.toInt8.toInt32)), (.int (c1.toInt8.toInt32)), (.int (c2.toInt8.toInt32))] (.int 0)) := by
  refine own_body (plainFor_of_name pn_1) ?_
  intro p e s m below meth c s₁ X0 hx hby hml hown hnm hret hlk hZ e0
  replace hown : s.vm.findClass "java/lang/StringUTF16" = some m.cls := hown
  replace hml : c.maxLocals = 6 := hml
  replace hret : meth.sig.returnType = (some (.array .byte)) := hret
  have N0 := Fr.nil n0
  refine own_ef (L0 := #[.val (.ref ca), .val (.int 0), .val (.int 3), .unset, .unset, .unset]) (by first | (simp [entryFrame, mkF, argsToLocals, Value.category]; done) | rfl) ?_
  refine own_iloadN X0 hx (hb hby d5_0) rfl ?_
  refine own_newP (n := (3 : Int32)) (cap := 3) (ad := "[B") X0 hx hZ (own_m hw 25 rfl) e0 (hb hby d5_1) (by decide) (by decide) (by decide) (by decide) (by decide) (by decide) fun T26 h26 k26 b26 g26 X26 e26 E26 A26 Ex26 => ?_
  have g_b26 : n0 ≤ b26 := Nat.le_trans Z0 (Nat.le_of_eq g26.symm)
  have szo_b26 : h0.size ≤ b26 := Nat.le_trans (Nat.le_refl h0.size) (Nat.le_of_eq g26.symm)
  have V26 : Arv Z h26 b26 k26 .byte (3 : Int32) [(.int 0), (.int 0), (.int 0)] (.int 0) := (Arv.new A26 (by decide)).pad (pad_rep [] (.int 0) 3)
  refine own_astoreN (l' := #[.val (.ref ca), .val (.int 0), .val (.int 3), .val (.ref b26), .unset, .unset]) X26 hx (hb hby d5_3) rfl rfl ?_
  refine own_aloadN X26 hx (hb hby d5_4) rfl rfl ?_
  refine own_iloadN X26 hx (hb hby d5_5) rfl ?_
  refine own_aloadN X26 hx (hb hby d5_6) rfl rfl ?_
  refine own_iconst X26 hx 0 (hb hby d5_7) rfl ?_
  refine own_iloadN X26 hx (hb hby d5_8) rfl ?_
  refine own_cStat (W := 0) (rest := []) X26 hx hZ [(.ref ca), (.int 0), (.ref b26), (.int 0), (.int 3)] hown (own_m hw 26 rfl) (own_m hw 27 rfl) (by decide) (own_m hw 28 rfl) (own_m hw 23 rfl) e26 (rmC2_3 l Z a0 hw [] ca b26 kc k26 c0 c1 c2 h26 n0 (Nat.le_trans Z0 E26.1) (Vc.ext E26) V26 g_b26 (Nat.ne_of_lt (Nat.lt_of_lt_of_le Vc.lt (Nat.le_of_eq g26.symm))) hx0 hx1 hx2) (by rw [hml]; rfl) (lenOf pd_0 rfl) rfl (Nat.le_of_eq rfl) (hb hby d5_9) (by decide) (by decide) (by decide) (by decide) fun v27 T27 L27 X27 hQ27 => ?_
  obtain ⟨rfl, N27q, K27, Vb27⟩ := hQ27
  have N27 := Fr.app N0 N27q
  show own_At p e below _ T27 m 12 _ [(.int 3)]
  refine own_istore (l' := #[.val (.ref ca), .val (.int 0), .val (.int 3), .val (.ref b26), .val (.int 3), .unset]) X27 hx (hb hby d5_12) rfl ?_
  refine own_iload X27 hx (hb hby d5_14) rfl ?_
  refine own_iloadN X27 hx (hb hby d5_16) rfl ?_
  refine own_icmpYes X27 hx 57 (hb hby d5_17) (teq (by decide : (3 : Int32) = (3 : Int32))).1 (by decide) (by decide) ?_
  refine own_aloadN X27 hx (hb hby d5_57) rfl rfl ?_
  refine own_retA X27 hx hlk hret rfl rfl rfl (hb hby d5_58) (own_kN (by decide) (by decide) ?_)
  exact ⟨b26, k26, rfl, N27, (Keep.trans (Keep.ext (Keep.refl h0 []) E26) K27 (allS (Or.inr szo_b26) all0)), szo_b26, g_b26, (Exa.keep Ex26 K27), Vb27⟩
set_option maxRecDepth 65536 in
set_option maxHeartbeats 40000000 in
theorem rmCF_3 (l : Launch) (Z : State) (a0 : Array Value) (hw : own_Wd a0 Z) (ws : List Jvm.Cond) (ba : Addr)  (h0 : Heap) (n0 : Nat) (Z0 : n0 ≤ h0.size) (A : own_Aln Z h0 ba .byte (3 : Int32)) :
    own_Met l (⟨"java/lang/StringUTF16", "coderFromArrayLen", "([BI)B"⟩ : MethodName) jdk_52_method_15_code 2 (some .byte) ws ({ frames := 0, cells := 0, slots := 0, locals := 0 } : Room) Z #[(.ref ba), (.int 3)] h0 (fun v h L => v = some (.int 0) ∧ Fr n0 L ∧ h = h0) := by
  refine own_body (plainFor_of_name pn_1) ?_
  intro p e s m below meth c s₁ X0 hx hby hml hown hnm hret hlk hZ e0
  replace hown : s.vm.findClass "java/lang/StringUTF16" = some m.cls := hown
  replace hml : c.maxLocals = 2 := hml
  replace hret : meth.sig.returnType = (some .byte) := hret
  have N0 := Fr.nil n0
  refine own_ef (L0 := #[.val (.ref ba), .val (.int 3)]) (by first | (simp [entryFrame, mkF, argsToLocals, Value.category]; done) | rfl) ?_
  refine own_iloadN X0 hx (hb hby d7_0) rfl ?_
  refine own_aloadN X0 hx (hb hby d7_1) rfl rfl ?_
  refine own_arraylength X0 hx hZ e0 A (hb hby d7_2) ?_
  refine own_isub X0 hx (hb hby d7_3) ?_
  rw [show ((3 : Int32) - (3 : Int32)) = (0 : Int32) from by decide]
  refine own_bipush X0 hx 31 (hb hby d7_4) rfl ?_
  refine own_iushr X0 hx (hb hby d7_6) ?_
  rw [show (((0 : Int32).toUInt32 >>> ((31 : Int32) &&& 31).toUInt32).toInt32) = (0 : Int32) from by decide]
  refine own_i2b X0 hx (hb hby d7_7) ?_
  rw [show ((0 : Int32).toInt8.toInt32) = (0 : Int32) from by decide]
  refine own_retN X0 hx hlk hret (by simp) (by decide) (hb hby d7_8) (own_kN (by decide) (by decide) ?_)
  try rw [e0]
  exact ⟨rfl, N0, rfl⟩
set_option maxRecDepth 65536 in
set_option maxHeartbeats 40000000 in
theorem rmI2_3 (l : Launch) (Z : State) (a0 : Array Value) (hw : own_Wd a0 Z) (ws : List Jvm.Cond) (a ca : Addr) (kc : ClassId) (cs c0 c1 c2 : Int32)  (h0 : Heap) (n0 : Nat) (Z0 : n0 ≤ h0.size) (Ea : Exa Z h0 a "java/lang/String") (Fv : Fld Z h0 a "java/lang/String" "value" "[B" .null) (Fc : Fld Z h0 a "java/lang/String" "coder" "B" (.int 0)) (g_a : n0 ≤ a) (Sc : Sta Z h0 "java/lang/String" "COMPACT_STRINGS" "Z" (.int cs)) (hcs : ¬ (cs = (0 : Int32))) (Vc : Arv Z h0 ca kc .char (3 : Int32) [(.int c0), (.int c1), (.int c2)] (.int 0)) (Ecs : Exa Z h0 ca "[C") (hx0 : ¬ ((255 : Int32) < c0)) (hx1 : ¬ ((255 : Int32) < c1)) (hx2 : ¬ ((255 : Int32) < c2)) :
    own_Met l (⟨"java/lang/String", "<init>", "([CIILjava/lang/Void;)V"⟩ : MethodName) jdk_42_method_149_code 6 none ws ({ frames := 2, cells := 1, slots := 3, locals := 35 } : Room) Z #[(.ref a), (.ref ca), (.int 0), (.int 3), .null] h0 (fun v h L => v = none ∧ Fr n0 L ∧ Keep h0 h [a] ∧ ∃ b k, h0.size ≤ b ∧ Exa Z h b "[B" ∧ Exa Z h a "java/lang/String" ∧ Fld Z h a "java/lang/String" "value" "[B" (.ref b) ∧ Fld Z h a "java/lang/String" "coder" "B" (.int 0) ∧ Arv Z h b k .byte (3 : Int32) [(.int (c0.toInt8.toInt32)), (.int (c1.toInt8.toInt32)), (.int (c2.toInt8.toInt32))] (.int 0)) := by
  refine own_body (plainFor_of_name pn_2) ?_
  intro p e s m below meth c s₁ X0 hx hby hml hown hnm hret hlk hZ e0
  replace hown : s.vm.findClass "java/lang/String" = some m.cls := hown
  replace hml : c.maxLocals = 6 := hml
  replace hret : meth.sig.returnType = none := hret
  have N0 := Fr.nil n0
  refine own_ef (L0 := #[.val (.ref a), .val (.ref ca), .val (.int 0), .val (.int 3), .val .null, .unset]) (by first | (simp [entryFrame, mkF, argsToLocals, Value.category]; done) | rfl) ?_
  refine own_aloadN X0 hx (hb hby d3_0) rfl rfl ?_
  refine own_initO (W := 0) X0 hx hZ hown (own_m hw 17 rfl) (own_m hw 18 rfl) (own_m hw 19 rfl) e0 (by rw [hml]; rfl) (hb hby d3_1) (by decide) (Nat.le_of_eq rfl) (by decide) fun T28 X28 e28 => ?_
  refine own_iloadN X28 hx (hb hby d3_4) rfl ?_
  refine own_ifYes X28 hx 27 (hb hby d3_5) (feq (by decide : ¬ ((3 : Int32) = (0 : Int32)))).2 (by decide) (by decide) ?_
  refine own_getS X28 hx hZ hown (host := "") (Or.inl (own_m hw 20 rfl)) Via.refl e28 Sc (hb hby d3_27) fun T29 X29 e29 => ?_
  refine own_ifNo X29 hx (hb hby d3_30) (feq hcs).1 ?_
  refine own_aloadN X29 hx (hb hby d3_33) rfl rfl ?_
  refine own_iloadN X29 hx (hb hby d3_34) rfl ?_
  refine own_iloadN X29 hx (hb hby d3_35) rfl ?_
  refine own_cStat (W := 0) (rest := []) X29 hx hZ [(.ref ca), (.int 0), (.int 3)] hown (own_m hw 21 rfl) (own_m hw 22 rfl) (by decide) (own_m hw 24 rfl) (own_m hw 23 rfl) e29 (rmC1_3 l Z a0 hw [] ca kc c0 c1 c2 h0 n0 Z0 Vc hx0 hx1 hx2) (by rw [hml]; rfl) (lenOf pd_1 rfl) rfl (Nat.le_of_eq rfl) (hb hby d3_36) (by decide) (by decide) (by decide) (by decide) fun v30 T30 L30 X30 hQ30 => ?_
  obtain ⟨b30, kb30, rfl, N30q, K30, szb30, gb30, Eb30, Vb30⟩ := hQ30
  have N30 := Fr.app N0 N30q
  have szo_b30 : h0.size ≤ b30 := Nat.le_trans (Nat.le_refl h0.size) szb30
  show own_At p e below _ T30 m 39 _ [(.ref b30)]
  refine own_astore (l' := #[.val (.ref a), .val (.ref ca), .val (.int 0), .val (.int 3), .val .null, .val (.ref b30)]) X30 hx (hb hby d3_39) rfl rfl ?_
  refine own_aloadN X30 hx (hb hby d3_41) rfl rfl ?_
  refine own_aload X30 hx (hb hby d3_42) rfl rfl ?_
  refine own_iloadN X30 hx (hb hby d3_44) rfl ?_
  refine own_cStat (W := 1) (rest := [(.ref a)]) X30 hx hZ [(.ref b30), (.int 3)] hown (own_m hw 29 rfl) (own_m hw 30 rfl) (by decide) (own_m hw 31 rfl) (own_m hw 23 rfl) rfl (rmCF_3 l Z a0 hw [] b30 T30.heap n0 (Nat.le_trans Z0 K30.1) (own_alnV Vb30)) (by rw [hml]; rfl) (lenOf pd_2 rfl) rfl (Nat.le_of_eq rfl) (hb hby d3_45) (by decide) (by decide) (by decide) (by decide) fun v31 T31 L31 X31 hQ31 => ?_
  obtain ⟨rfl, N31q, e31⟩ := hQ31
  have N31 := Fr.app N30 N31q
  show own_At p e below _ T31 m 48 _ [(.int 0), (.ref a)]
  obtain ⟨T32, h32, X32, e32, W32, st32⟩ := putFN X31 hx hZ hown (own_m hw 32 rfl) Via.refl e31 (Fld.keep Fc K30 nin0) (Exa.keep Ea K30) (Or.inr ⟨(own_m hw 33 rfl), rfl, hnm⟩) (own_m hw 8 rfl) (ty := .byte) (v' := (.int 0)) (by decide) rfl rfl (g := (mkF m 48 #[.val (.ref a), .val (.ref ca), .val (.int 0), .val (.int 3), .val .null, .val (.ref b30)] [(.int 0), (.ref a)])) rfl rfl (hb hby d3_48)
  refine own_step (S' := (T32.setTop (mkF m 51 #[.val (.ref a), .val (.ref ca), .val (.int 0), .val (.int 3), .val .null, .val (.ref b30)] []))) (fun _ k => st32 _ k) ?_
  have Fw32 := Fld.same W32 (Fld.keep Fc K30 nin0)
  have N32 := Fr.snoc X32 N31 g_a
  refine own_aloadN X32 hx (hb hby d3_51) rfl rfl ?_
  refine own_aload X32 hx (hb hby d3_52) rfl rfl ?_
  refine own_putF X32 hx hZ hown (host := "") (Or.inl (own_m hw 34 rfl)) Via.refl e32 (Fld.other W32 (Fld.keep Fv K30 nin0) (Or.inr (slot_ne (Or.inr (own_m hw 35 rfl)) (Or.inr (own_m hw 33 rfl)) (by decide) (t := (.array .byte)) (t' := .byte) (by decide) (by decide)))) (Exa.wr W32 (Exa.keep Ea K30)) (Or.inr ⟨(own_m hw 35 rfl), rfl, hnm⟩) (own_m hw 8 rfl) (ty := (.array .byte)) (by decide) rfl rfl (hb hby d3_54) fun T33 h33 X33 e33 W33 => ?_
  have Fw33 := Fld.same W33 (Fld.other W32 (Fld.keep Fv K30 nin0) (Or.inr (slot_ne (Or.inr (own_m hw 35 rfl)) (Or.inr (own_m hw 33 rfl)) (by decide) (t := (.array .byte)) (t' := .byte) (by decide) (by decide))))
  have N33 := Fr.snoc X33 N32 g_a
  refine own_retV X33 hx hlk hret (hb hby d3_57) (own_kN (by decide) (by decide) ?_)
  try rw [e33]
  exact ⟨rfl, N33, (Keep.wr (Keep.wr (Keep.trans (Keep.refl h0 [a]) K30 all0) W32 (Or.inl (List.mem_of_getElem? (i := 0) rfl))) W33 (Or.inl (List.mem_of_getElem? (i := 0) rfl))), b30, kb30, szo_b30, (Exa.wr W33 (Exa.wr W32 Eb30)), (Exa.wr W33 (Exa.wr W32 (Exa.keep Ea K30))), Fw33, (Fld.other W33 Fw32 (Or.inr (slot_ne (Or.inr (own_m hw 33 rfl)) (Or.inr (own_m hw 35 rfl)) (by decide) (t := .byte) (t' := (.array .byte)) (by decide) (by decide)))), (Arv.other (Arv.other Vb30 W32 (Ne.symm (Nat.ne_of_lt (Nat.lt_of_lt_of_le Ea.lt szb30)))) W33 (Ne.symm (Nat.ne_of_lt (Nat.lt_of_lt_of_le Ea.lt szb30))))⟩
set_option maxRecDepth 65536 in
set_option maxHeartbeats 40000000 in
theorem rmI1_3 (l : Launch) (Z : State) (a0 : Array Value) (hw : own_Wd a0 Z) (ws : List Jvm.Cond) (a ca : Addr) (kc : ClassId) (cs c0 c1 c2 : Int32)  (h0 : Heap) (n0 : Nat) (Z0 : n0 ≤ h0.size) (Ea : Exa Z h0 a "java/lang/String") (Fv : Fld Z h0 a "java/lang/String" "value" "[B" .null) (Fc : Fld Z h0 a "java/lang/String" "coder" "B" (.int 0)) (g_a : n0 ≤ a) (Sc : Sta Z h0 "java/lang/String" "COMPACT_STRINGS" "Z" (.int cs)) (hcs : ¬ (cs = (0 : Int32))) (Vc : Arv Z h0 ca kc .char (3 : Int32) [(.int c0), (.int c1), (.int c2)] (.int 0)) (Ecs : Exa Z h0 ca "[C") (hx0 : ¬ ((255 : Int32) < c0)) (hx1 : ¬ ((255 : Int32) < c1)) (hx2 : ¬ ((255 : Int32) < c2)) :
    own_Met l (⟨"java/lang/String", "<init>", "([C)V"⟩ : MethodName) jdk_42_method_3_code 2 none ws ({ frames := 3, cells := 1, slots := 3, locals := 52 } : Room) Z #[(.ref a), (.ref ca)] h0 (fun v h L => v = none ∧ Fr n0 L ∧ Keep h0 h [a] ∧ ∃ b k, h0.size ≤ b ∧ Exa Z h b "[B" ∧ Exa Z h a "java/lang/String" ∧ Fld Z h a "java/lang/String" "value" "[B" (.ref b) ∧ Fld Z h a "java/lang/String" "coder" "B" (.int 0) ∧ Arv Z h b k .byte (3 : Int32) [(.int (c0.toInt8.toInt32)), (.int (c1.toInt8.toInt32)), (.int (c2.toInt8.toInt32))] (.int 0)) := by
  refine own_body (plainFor_of_name pn_2) ?_
  intro p e s m below meth c s₁ X0 hx hby hml hown hnm hret hlk hZ e0
  replace hown : s.vm.findClass "java/lang/String" = some m.cls := hown
  replace hml : c.maxLocals = 2 := hml
  replace hret : meth.sig.returnType = none := hret
  have N0 := Fr.nil n0
  refine own_ef (L0 := #[.val (.ref a), .val (.ref ca)]) (by first | (simp [entryFrame, mkF, argsToLocals, Value.category]; done) | rfl) ?_
  refine own_aloadN X0 hx (hb hby d2_0) rfl rfl ?_
  refine own_aloadN X0 hx (hb hby d2_1) rfl rfl ?_
  refine own_iconst X0 hx 0 (hb hby d2_2) rfl ?_
  refine own_aloadN X0 hx (hb hby d2_3) rfl rfl ?_
  refine own_arraylength X0 hx hZ e0 (own_alnV Vc) (hb hby d2_4) ?_
  refine own_aconstNull X0 hx (hb hby d2_5) ?_
  refine own_cSpec (b := a) (W := 0) (rest := []) X0 hx hZ [(.ref ca), (.int 0), (.int 3), .null] rfl hown (own_m hw 13 rfl) (own_m hw 14 rfl) (by decide) (own_m hw 16 rfl) (own_m hw 9 rfl) e0 (rmI2_3 l Z a0 hw [] a ca kc cs c0 c1 c2 h0 n0 Z0 Ea Fv Fc g_a Sc hcs Vc Ecs hx0 hx1 hx2) (by rw [hml]; rfl) (lenOf pd_3 rfl) rfl (Nat.le_of_eq rfl) (hb hby d2_6) (by decide) (by decide) (by decide) (by decide) fun v34 T34 L34 X34 hQ34 => ?_
  obtain ⟨rfl, N34q, K34, R34⟩ := hQ34
  have N34 := Fr.app N0 N34q
  show own_At p e below _ T34 m 9 _ []
  refine own_retV X34 hx hlk hret (hb hby d2_9) (own_kN (by decide) (by decide) ?_)
  exact ⟨rfl, N34, K34, R34⟩
set_option maxRecDepth 65536 in
set_option maxHeartbeats 40000000 in
theorem rmC2_4 (l : Launch) (Z : State) (a0 : Array Value) (hw : own_Wd a0 Z) (ws : List Jvm.Cond) (ca ba : Addr) (kc kb : ClassId) (c0 c1 c2 c3 : Int32)  (h0 : Heap) (n0 : Nat) (Z0 : n0 ≤ h0.size) (Vc : Arv Z h0 ca kc .char (4 : Int32) [(.int c0), (.int c1), (.int c2), (.int c3)] (.int 0)) (Vb : Arv Z h0 ba kb .byte (4 : Int32) [(.int 0), (.int 0), (.int 0), (.int 0)] (.int 0)) (g_ba : n0 ≤ ba) (hne : ca ≠ ba) (hx0 : ¬ ((255 : Int32) < c0)) (hx1 : ¬ ((255 : Int32) < c1)) (hx2 : ¬ ((255 : Int32) < c2)) (hx3 : ¬ ((255 : Int32) < c3)) :
    own_Met l (⟨"java/lang/StringUTF16", "compress", "([CI[BII)I"⟩ : MethodName) jdk_52_method_21_code 7 (some .int) ws ({ frames := 0, cells := 0, slots := 0, locals := 0 } : Room) Z #[(.ref ca), (.int 0), (.ref ba), (.int 0), (.int 4)] h0 (fun v h L => v = some (.int 4) ∧ Fr n0 L ∧ Keep h0 h [ba] ∧ Arv Z h ba kb .byte (4 : Int32) [(.int (c0.toInt8.toInt32)), (.int (c1.toInt8.toInt32)), (.int (c2.toInt8.toInt32)), (.int (c3.toInt8.toInt32))] (.int 0)) := by
  refine own_body (plainFor_of_name pn_1) ?_
  intro p e s m below meth c s₁ X0 hx hby hml hown hnm hret hlk hZ e0
  replace hown : s.vm.findClass "java/lang/StringUTF16" = some m.cls := hown
  replace hml : c.maxLocals = 7 := hml
  replace hret : meth.sig.returnType = (some .int) := hret
  have N0 := Fr.nil n0
  refine own_ef (L0 := #[.val (.ref ca), .val (.int 0), .val (.ref ba), .val (.int 0), .val (.int 4), .unset, .unset]) (by first | (simp [entryFrame, mkF, argsToLocals, Value.category]; done) | rfl) ?_
  refine own_iconst X0 hx 0 (hb hby d6_0) rfl ?_
  refine own_istore (l' := #[.val (.ref ca), .val (.int 0), .val (.ref ba), .val (.int 0), .val (.int 4), .val (.int 0), .unset]) X0 hx (hb hby d6_1) rfl ?_
  refine own_iload X0 hx (hb hby d6_3) rfl ?_
  refine own_iload X0 hx (hb hby d6_5) rfl ?_
  refine own_icmpNo X0 hx (hb hby d6_7) (tlt (by decide : (0 : Int32) < (4 : Int32))).2.1 ?_
  refine own_aloadN X0 hx (hb hby d6_10) rfl rfl ?_
  refine own_iloadN X0 hx (hb hby d6_11) rfl ?_
  refine own_caload X0 hx hZ (.int c0) e0 Vc ⟨by decide, by decide⟩ rfl (hb hby d6_12) ?_
  refine own_istore (l' := #[.val (.ref ca), .val (.int 0), .val (.ref ba), .val (.int 0), .val (.int 4), .val (.int 0), .val (.int c0)]) X0 hx (hb hby d6_13) rfl ?_
  refine own_iload X0 hx (hb hby d6_15) rfl ?_
  refine own_sipush X0 hx 255 (hb hby d6_17) rfl ?_
  refine own_icmpYes X0 hx 26 (hb hby d6_20) (flt hx0).2.2.2 (by decide) (by decide) ?_
  refine own_aloadN X0 hx (hb hby d6_26) rfl rfl ?_
  refine own_iloadN X0 hx (hb hby d6_27) rfl ?_
  refine own_iload X0 hx (hb hby d6_28) rfl ?_
  refine own_i2b X0 hx (hb hby d6_30) ?_
  refine own_stB (vs' := [(.int (c0.toInt8.toInt32)), (.int 0), (.int 0), (.int 0)]) (w := (.int (c0.toInt8.toInt32))) X0 hx hZ e0 Vb ⟨by decide, by decide⟩ 0 rfl (Nat.le_of_ble_eq_true rfl) (congrArg Value.int (own_b8 _)) rfl (hb hby d6_31) fun T35 h35 X35 e35 W35 V35 => ?_
  have N35 := Fr.snoc X35 N0 g_ba
  refine own_iinc (l' := #[.val (.ref ca), .val (.int ((0 : Int32) + (1 : Int32))), .val (.ref ba), .val (.int 0), .val (.int 4), .val (.int 0), .val (.int c0)]) X35 hx (hb hby d6_32) rfl rfl ?_
  rw [show ((0 : Int32) + (1 : Int32)) = (1 : Int32) from by decide]
  refine own_iinc (l' := #[.val (.ref ca), .val (.int 1), .val (.ref ba), .val (.int ((0 : Int32) + (1 : Int32))), .val (.int 4), .val (.int 0), .val (.int c0)]) X35 hx (hb hby d6_35) rfl rfl ?_
  rw [show ((0 : Int32) + (1 : Int32)) = (1 : Int32) from by decide]
  refine own_iinc (l' := #[.val (.ref ca), .val (.int 1), .val (.ref ba), .val (.int 1), .val (.int 4), .val (.int ((0 : Int32) + (1 : Int32))), .val (.int c0)]) X35 hx (hb hby d6_38) rfl rfl ?_
  rw [show ((0 : Int32) + (1 : Int32)) = (1 : Int32) from by decide]
  refine own_goto X35 hx 3 (hb hby d6_41) (by decide) (by decide) ?_
  refine own_iload X35 hx (hb hby d6_3) rfl ?_
  refine own_iload X35 hx (hb hby d6_5) rfl ?_
  refine own_icmpNo X35 hx (hb hby d6_7) (tlt (by decide : (1 : Int32) < (4 : Int32))).2.1 ?_
  refine own_aloadN X35 hx (hb hby d6_10) rfl rfl ?_
  refine own_iloadN X35 hx (hb hby d6_11) rfl ?_
  refine own_caload X35 hx hZ (.int c1) e35 (Arv.other Vc W35 hne) ⟨by decide, by decide⟩ rfl (hb hby d6_12) ?_
  refine own_istore (l' := #[.val (.ref ca), .val (.int 1), .val (.ref ba), .val (.int 1), .val (.int 4), .val (.int 1), .val (.int c1)]) X35 hx (hb hby d6_13) rfl ?_
  refine own_iload X35 hx (hb hby d6_15) rfl ?_
  refine own_sipush X35 hx 255 (hb hby d6_17) rfl ?_
  refine own_icmpYes X35 hx 26 (hb hby d6_20) (flt hx1).2.2.2 (by decide) (by decide) ?_
  refine own_aloadN X35 hx (hb hby d6_26) rfl rfl ?_
  refine own_iloadN X35 hx (hb hby d6_27) rfl ?_
  refine own_iload X35 hx (hb hby d6_28) rfl ?_
  refine own_i2b X35 hx (hb hby d6_30) ?_
  refine own_stB (vs' := [(.int (c0.toInt8.toInt32)), (.int (c1.toInt8.toInt32)), (.int 0), (.int 0)]) (w := (.int (c1.toInt8.toInt32))) X35 hx hZ e35 V35 ⟨by decide, by decide⟩ 1 rfl (Nat.le_of_ble_eq_true rfl) (congrArg Value.int (own_b8 _)) rfl (hb hby d6_31) fun T36 h36 X36 e36 W36 V36 => ?_
  have N36 := Fr.snoc X36 N35 g_ba
  refine own_iinc (l' := #[.val (.ref ca), .val (.int ((1 : Int32) + (1 : Int32))), .val (.ref ba), .val (.int 1), .val (.int 4), .val (.int 1), .val (.int c1)]) X36 hx (hb hby d6_32) rfl rfl ?_
  rw [show ((1 : Int32) + (1 : Int32)) = (2 : Int32) from by decide]
  refine own_iinc (l' := #[.val (.ref ca), .val (.int 2), .val (.ref ba), .val (.int ((1 : Int32) + (1 : Int32))), .val (.int 4), .val (.int 1), .val (.int c1)]) X36 hx (hb hby d6_35) rfl rfl ?_
  rw [show ((1 : Int32) + (1 : Int32)) = (2 : Int32) from by decide]
  refine own_iinc (l' := #[.val (.ref ca), .val (.int 2), .val (.ref ba), .val (.int 2), .val (.int 4), .val (.int ((1 : Int32) + (1 : Int32))), .val (.int c1)]) X36 hx (hb hby d6_38) rfl rfl ?_
  rw [show ((1 : Int32) + (1 : Int32)) = (2 : Int32) from by decide]
  refine own_goto X36 hx 3 (hb hby d6_41) (by decide) (by decide) ?_
  refine own_iload X36 hx (hb hby d6_3) rfl ?_
  refine own_iload X36 hx (hb hby d6_5) rfl ?_
  refine own_icmpNo X36 hx (hb hby d6_7) (tlt (by decide : (2 : Int32) < (4 : Int32))).2.1 ?_
  refine own_aloadN X36 hx (hb hby d6_10) rfl rfl ?_
  refine own_iloadN X36 hx (hb hby d6_11) rfl ?_
  refine own_caload X36 hx hZ (.int c2) e36 (Arv.other (Arv.other Vc W35 hne) W36 hne) ⟨by decide, by decide⟩ rfl (hb hby d6_12) ?_
  refine own_istore (l' := #[.val (.ref ca), .val (.int 2), .val (.ref ba), .val (.int 2), .val (.int 4), .val (.int 2), .val (.int c2)]) X36 hx (hb hby d6_13) rfl ?_
  refine own_iload X36 hx (hb hby d6_15) rfl ?_
  refine own_sipush X36 hx 255 (hb hby d6_17) rfl ?_
  refine own_icmpYes X36 hx 26 (hb hby d6_20) (flt hx2).2.2.2 (by decide) (by decide) ?_
  refine own_aloadN X36 hx (hb hby d6_26) rfl rfl ?_
  refine own_iloadN X36 hx (hb hby d6_27) rfl ?_
  refine own_iload X36 hx (hb hby d6_28) rfl ?_
  refine own_i2b X36 hx (hb hby d6_30) ?_
  refine own_stB (vs' := [(.int (c0.toInt8.toInt32)), (.int (c1.toInt8.toInt32)), (.int (c2.toInt8.toInt32)), (.int 0)]) (w := (.int (c2.toInt8.toInt32))) X36 hx hZ e36 V36 ⟨by decide, by decide⟩ 2 rfl (Nat.le_of_ble_eq_true rfl) (congrArg Value.int (own_b8 _)) rfl (hb hby d6_31) fun T37 h37 X37 e37 W37 V37 => ?_
  have N37 := Fr.snoc X37 N36 g_ba
  refine own_iinc (l' := #[.val (.ref ca), .val (.int ((2 : Int32) + (1 : Int32))), .val (.ref ba), .val (.int 2), .val (.int 4), .val (.int 2), .val (.int c2)]) X37 hx (hb hby d6_32) rfl rfl ?_
  rw [show ((2 : Int32) + (1 : Int32)) = (3 : Int32) from by decide]
  refine own_iinc (l' := #[.val (.ref ca), .val (.int 3), .val (.ref ba), .val (.int ((2 : Int32) + (1 : Int32))), .val (.int 4), .val (.int 2), .val (.int c2)]) X37 hx (hb hby d6_35) rfl rfl ?_
  rw [show ((2 : Int32) + (1 : Int32)) = (3 : Int32) from by decide]
  refine own_iinc (l' := #[.val (.ref ca), .val (.int 3), .val (.ref ba), .val (.int 3), .val (.int 4), .val (.int ((2 : Int32) + (1 : Int32))), .val (.int c2)]) X37 hx (hb hby d6_38) rfl rfl ?_
  rw [show ((2 : Int32) + (1 : Int32)) = (3 : Int32) from by decide]
  refine own_goto X37 hx 3 (hb hby d6_41) (by decide) (by decide) ?_
  refine own_iload X37 hx (hb hby d6_3) rfl ?_
  refine own_iload X37 hx (hb hby d6_5) rfl ?_
  refine own_icmpNo X37 hx (hb hby d6_7) (tlt (by decide : (3 : Int32) < (4 : Int32))).2.1 ?_
  refine own_aloadN X37 hx (hb hby d6_10) rfl rfl ?_
  refine own_iloadN X37 hx (hb hby d6_11) rfl ?_
  refine own_caload X37 hx hZ (.int c3) e37 (Arv.other (Arv.other (Arv.other Vc W35 hne) W36 hne) W37 hne) ⟨by decide, by decide⟩ rfl (hb hby d6_12) ?_
  refine own_istore (l' := #[.val (.ref ca), .val (.int 3), .val (.ref ba), .val (.int 3), .val (.int 4), .val (.int 3), .val (.int c3)]) X37 hx (hb hby d6_13) rfl ?_
  refine own_iload X37 hx (hb hby d6_15) rfl ?_
  refine own_sipush X37 hx 255 (hb hby d6_17) rfl ?_
  refine own_icmpYes X37 hx 26 (hb hby d6_20) (flt hx3).2.2.2 (by decide) (by decide) ?_
  refine own_aloadN X37 hx (hb hby d6_26) rfl rfl ?_
  refine own_iloadN X37 hx (hb hby d6_27) rfl ?_
  refine own_iload X37 hx (hb hby d6_28) rfl ?_
  refine own_i2b X37 hx (hb hby d6_30) ?_
  refine own_stB (vs' := [(.int (c0.toInt8.toInt32)), (.int (c1.toInt8.toInt32)), (.int (c2.toInt8.toInt32)), (.int (c3.toInt8.toInt32))]) (w := (.int (c3.toInt8.toInt32))) X37 hx hZ e37 V37 ⟨by decide, by decide⟩ 3 rfl (Nat.le_of_ble_eq_true rfl) (congrArg Value.int (own_b8 _)) rfl (hb hby d6_31) fun T38 h38 X38 e38 W38 V38 => ?_
  have N38 := Fr.snoc X38 N37 g_ba
  refine own_iinc (l' := #[.val (.ref ca), .val (.int ((3 : Int32) + (1 : Int32))), .val (.ref ba), .val (.int 3), .val (.int 4), .val (.int 3), .val (.int c3)]) X38 hx (hb hby d6_32) rfl rfl ?_
  rw [show ((3 : Int32) + (1 : Int32)) = (4 : Int32) from by decide]
  refine own_iinc (l' := #[.val (.ref ca), .val (.int 4), .val (.ref ba), .val (.int ((3 : Int32) + (1 : Int32))), .val (.int 4), .val (.int 3), .val (.int c3)]) X38 hx (hb hby d6_35) rfl rfl ?_
  rw [show ((3 : Int32) + (1 : Int32)) = (4 : Int32) from by decide]
  refine own_iinc (l' := #[.val (.ref ca), .val (.int 4), .val (.ref ba), .val (.int 4), .val (.int 4), .val (.int ((3 : Int32) + (1 : Int32))), .val (.int c3)]) X38 hx (hb hby d6_38) rfl rfl ?_
  rw [show ((3 : Int32) + (1 : Int32)) = (4 : Int32) from by decide]
  refine own_goto X38 hx 3 (hb hby d6_41) (by decide) (by decide) ?_
  refine own_iload X38 hx (hb hby d6_3) rfl ?_
  refine own_iload X38 hx (hb hby d6_5) rfl ?_
  refine own_icmpYes X38 hx 44 (hb hby d6_7) (flt (by decide : ¬ ((4 : Int32) < (4 : Int32)))).2.1 (by decide) (by decide) ?_
  refine own_iload X38 hx (hb hby d6_44) rfl ?_
  refine own_retI X38 hx hlk hret (hb hby d6_46) (own_kN (by decide) (by decide) ?_)
  try rw [e38]
  exact ⟨rfl, N38, (Keep.wr (Keep.wr (Keep.wr (Keep.wr (Keep.refl h0 [ba]) W35 (Or.inl (List.mem_of_getElem? (i := 0) rfl))) W36 (Or.inl (List.mem_of_getElem? (i := 0) rfl))) W37 (Or.inl (List.mem_of_getElem? (i := 0) rfl))) W38 (Or.inl (List.mem_of_getElem? (i := 0) rfl))), V38⟩
set_option maxRecDepth 65536 in
set_option maxHeartbeats 40000000 in
theorem rmC1_4 (l : Launch) (Z : State) (a0 : Array Value) (hw : own_Wd a0 Z) (ws : List Jvm.Cond) (ca : Addr) (kc : ClassId) (c0 c1 c2 c3 : Int32)  (h0 : Heap) (n0 : Nat) (Z0 : n0 ≤ h0.size) (Vc : Arv Z h0 ca kc .char (4 : Int32) [(.int c0), (.int c1), (.int c2), (.int c3)] (.int 0)) (hx0 : ¬ ((255 : Int32) < c0)) (hx1 : ¬ ((255 : Int32) < c1)) (hx2 : ¬ ((255 : Int32) < c2)) (hx3 : ¬ ((255 : Int32) < c3)) :
    own_Met l (⟨"java/lang/StringUTF16", "compress", "([CII)[B"⟩ : MethodName) jdk_52_method_16_code 6 (some (.array .byte)) ws ({ frames := 1, cells := 1, slots := 4, locals := 18 } : Room) Z #[(.ref ca), (.int 0), (.int 4)] h0 (fun v h L => ∃ b k, v = some (.ref b) ∧ Fr n0 L ∧ Keep h0 h [] ∧ h0.size ≤ b ∧ n0 ≤ b ∧ Exa Z h b "[B" ∧ Arv Z h b k .byte (4 : Int32) [(.int (c0.toInt8.toInt32)), (.int (c1.toInt8.toInt32)), (.int (c2.toInt8.toInt32)), (.int (c3.toInt8.toInt32))] (.int 0)) := by
  refine own_body (plainFor_of_name pn_1) ?_
  intro p e s m below meth c s₁ X0 hx hby hml hown hnm hret hlk hZ e0
  replace hown : s.vm.findClass "java/lang/StringUTF16" = some m.cls := hown
  replace hml : c.maxLocals = 6 := hml
  replace hret : meth.sig.returnType = (some (.array .byte)) := hret
  have N0 := Fr.nil n0
  refine own_ef (L0 := #[.val (.ref ca), .val (.int 0), .val (.int 4), .unset, .unset, .unset]) (by first | (simp [entryFrame, mkF, argsToLocals, Value.category]; done) | rfl) ?_
  refine own_iloadN X0 hx (hb hby d5_0) rfl ?_
  refine own_newP (n := (4 : Int32)) (cap := 4) (ad := "[B") X0 hx hZ (own_m hw 25 rfl) e0 (hb hby d5_1) (by decide) (by decide) (by decide) (by decide) (by decide) (by decide) fun T39 h39 k39 b39 g39 X39 e39 E39 A39 Ex39 => ?_
  have g_b39 : n0 ≤ b39 := Nat.le_trans Z0 (Nat.le_of_eq g39.symm)
  have szo_b39 : h0.size ≤ b39 := Nat.le_trans (Nat.le_refl h0.size) (Nat.le_of_eq g39.symm)
  have V39 : Arv Z h39 b39 k39 .byte (4 : Int32) [(.int 0), (.int 0), (.int 0), (.int 0)] (.int 0) := (Arv.new A39 (by decide)).pad (pad_rep [] (.int 0) 4)
  refine own_astoreN (l' := #[.val (.ref ca), .val (.int 0), .val (.int 4), .val (.ref b39), .unset, .unset]) X39 hx (hb hby d5_3) rfl rfl ?_
  refine own_aloadN X39 hx (hb hby d5_4) rfl rfl ?_
  refine own_iloadN X39 hx (hb hby d5_5) rfl ?_
  refine own_aloadN X39 hx (hb hby d5_6) rfl rfl ?_
  refine own_iconst X39 hx 0 (hb hby d5_7) rfl ?_
  refine own_iloadN X39 hx (hb hby d5_8) rfl ?_
  refine own_cStat (W := 0) (rest := []) X39 hx hZ [(.ref ca), (.int 0), (.ref b39), (.int 0), (.int 4)] hown (own_m hw 26 rfl) (own_m hw 27 rfl) (by decide) (own_m hw 28 rfl) (own_m hw 23 rfl) e39 (rmC2_4 l Z a0 hw [] ca b39 kc k39 c0 c1 c2 c3 h39 n0 (Nat.le_trans Z0 E39.1) (Vc.ext E39) V39 g_b39 (Nat.ne_of_lt (Nat.lt_of_lt_of_le Vc.lt (Nat.le_of_eq g39.symm))) hx0 hx1 hx2 hx3) (by rw [hml]; rfl) (lenOf pd_0 rfl) rfl (Nat.le_of_eq rfl) (hb hby d5_9) (by decide) (by decide) (by decide) (by decide) fun v40 T40 L40 X40 hQ40 => ?_
  obtain ⟨rfl, N40q, K40, Vb40⟩ := hQ40
  have N40 := Fr.app N0 N40q
  show own_At p e below _ T40 m 12 _ [(.int 4)]
  refine own_istore (l' := #[.val (.ref ca), .val (.int 0), .val (.int 4), .val (.ref b39), .val (.int 4), .unset]) X40 hx (hb hby d5_12) rfl ?_
  refine own_iload X40 hx (hb hby d5_14) rfl ?_
  refine own_iloadN X40 hx (hb hby d5_16) rfl ?_
  refine own_icmpYes X40 hx 57 (hb hby d5_17) (teq (by decide : (4 : Int32) = (4 : Int32))).1 (by decide) (by decide) ?_
  refine own_aloadN X40 hx (hb hby d5_57) rfl rfl ?_
  refine own_retA X40 hx hlk hret rfl rfl rfl (hb hby d5_58) (own_kN (by decide) (by decide) ?_)
  exact ⟨b39, k39, rfl, N40, (Keep.trans (Keep.ext (Keep.refl h0 []) E39) K40 (allS (Or.inr szo_b39) all0)), szo_b39, g_b39, (Exa.keep Ex39 K40), Vb40⟩
set_option maxRecDepth 65536 in
set_option maxHeartbeats 40000000 in
theorem rmCF_4 (l : Launch) (Z : State) (a0 : Array Value) (hw : own_Wd a0 Z) (ws : List Jvm.Cond) (ba : Addr)  (h0 : Heap) (n0 : Nat) (Z0 : n0 ≤ h0.size) (A : own_Aln Z h0 ba .byte (4 : Int32)) :
    own_Met l (⟨"java/lang/StringUTF16", "coderFromArrayLen", "([BI)B"⟩ : MethodName) jdk_52_method_15_code 2 (some .byte) ws ({ frames := 0, cells := 0, slots := 0, locals := 0 } : Room) Z #[(.ref ba), (.int 4)] h0 (fun v h L => v = some (.int 0) ∧ Fr n0 L ∧ h = h0) := by
  refine own_body (plainFor_of_name pn_1) ?_
  intro p e s m below meth c s₁ X0 hx hby hml hown hnm hret hlk hZ e0
  replace hown : s.vm.findClass "java/lang/StringUTF16" = some m.cls := hown
  replace hml : c.maxLocals = 2 := hml
  replace hret : meth.sig.returnType = (some .byte) := hret
  have N0 := Fr.nil n0
  refine own_ef (L0 := #[.val (.ref ba), .val (.int 4)]) (by first | (simp [entryFrame, mkF, argsToLocals, Value.category]; done) | rfl) ?_
  refine own_iloadN X0 hx (hb hby d7_0) rfl ?_
  refine own_aloadN X0 hx (hb hby d7_1) rfl rfl ?_
  refine own_arraylength X0 hx hZ e0 A (hb hby d7_2) ?_
  refine own_isub X0 hx (hb hby d7_3) ?_
  rw [show ((4 : Int32) - (4 : Int32)) = (0 : Int32) from by decide]
  refine own_bipush X0 hx 31 (hb hby d7_4) rfl ?_
  refine own_iushr X0 hx (hb hby d7_6) ?_
  rw [show (((0 : Int32).toUInt32 >>> ((31 : Int32) &&& 31).toUInt32).toInt32) = (0 : Int32) from by decide]
  refine own_i2b X0 hx (hb hby d7_7) ?_
  rw [show ((0 : Int32).toInt8.toInt32) = (0 : Int32) from by decide]
  refine own_retN X0 hx hlk hret (by simp) (by decide) (hb hby d7_8) (own_kN (by decide) (by decide) ?_)
  try rw [e0]
  exact ⟨rfl, N0, rfl⟩
set_option maxRecDepth 65536 in
set_option maxHeartbeats 40000000 in
theorem rmI2_4 (l : Launch) (Z : State) (a0 : Array Value) (hw : own_Wd a0 Z) (ws : List Jvm.Cond) (a ca : Addr) (kc : ClassId) (cs c0 c1 c2 c3 : Int32)  (h0 : Heap) (n0 : Nat) (Z0 : n0 ≤ h0.size) (Ea : Exa Z h0 a "java/lang/String") (Fv : Fld Z h0 a "java/lang/String" "value" "[B" .null) (Fc : Fld Z h0 a "java/lang/String" "coder" "B" (.int 0)) (g_a : n0 ≤ a) (Sc : Sta Z h0 "java/lang/String" "COMPACT_STRINGS" "Z" (.int cs)) (hcs : ¬ (cs = (0 : Int32))) (Vc : Arv Z h0 ca kc .char (4 : Int32) [(.int c0), (.int c1), (.int c2), (.int c3)] (.int 0)) (Ecs : Exa Z h0 ca "[C") (hx0 : ¬ ((255 : Int32) < c0)) (hx1 : ¬ ((255 : Int32) < c1)) (hx2 : ¬ ((255 : Int32) < c2)) (hx3 : ¬ ((255 : Int32) < c3)) :
    own_Met l (⟨"java/lang/String", "<init>", "([CIILjava/lang/Void;)V"⟩ : MethodName) jdk_42_method_149_code 6 none ws ({ frames := 2, cells := 1, slots := 4, locals := 35 } : Room) Z #[(.ref a), (.ref ca), (.int 0), (.int 4), .null] h0 (fun v h L => v = none ∧ Fr n0 L ∧ Keep h0 h [a] ∧ ∃ b k, h0.size ≤ b ∧ Exa Z h b "[B" ∧ Exa Z h a "java/lang/String" ∧ Fld Z h a "java/lang/String" "value" "[B" (.ref b) ∧ Fld Z h a "java/lang/String" "coder" "B" (.int 0) ∧ Arv Z h b k .byte (4 : Int32) [(.int (c0.toInt8.toInt32)), (.int (c1.toInt8.toInt32)), (.int (c2.toInt8.toInt32)), (.int (c3.toInt8.toInt32))] (.int 0)) := by
  refine own_body (plainFor_of_name pn_2) ?_
  intro p e s m below meth c s₁ X0 hx hby hml hown hnm hret hlk hZ e0
  replace hown : s.vm.findClass "java/lang/String" = some m.cls := hown
  replace hml : c.maxLocals = 6 := hml
  replace hret : meth.sig.returnType = none := hret
  have N0 := Fr.nil n0
  refine own_ef (L0 := #[.val (.ref a), .val (.ref ca), .val (.int 0), .val (.int 4), .val .null, .unset]) (by first | (simp [entryFrame, mkF, argsToLocals, Value.category]; done) | rfl) ?_
  refine own_aloadN X0 hx (hb hby d3_0) rfl rfl ?_
  refine own_initO (W := 0) X0 hx hZ hown (own_m hw 17 rfl) (own_m hw 18 rfl) (own_m hw 19 rfl) e0 (by rw [hml]; rfl) (hb hby d3_1) (by decide) (Nat.le_of_eq rfl) (by decide) fun T41 X41 e41 => ?_
  refine own_iloadN X41 hx (hb hby d3_4) rfl ?_
  refine own_ifYes X41 hx 27 (hb hby d3_5) (feq (by decide : ¬ ((4 : Int32) = (0 : Int32)))).2 (by decide) (by decide) ?_
  refine own_getS X41 hx hZ hown (host := "") (Or.inl (own_m hw 20 rfl)) Via.refl e41 Sc (hb hby d3_27) fun T42 X42 e42 => ?_
  refine own_ifNo X42 hx (hb hby d3_30) (feq hcs).1 ?_
  refine own_aloadN X42 hx (hb hby d3_33) rfl rfl ?_
  refine own_iloadN X42 hx (hb hby d3_34) rfl ?_
  refine own_iloadN X42 hx (hb hby d3_35) rfl ?_
  refine own_cStat (W := 0) (rest := []) X42 hx hZ [(.ref ca), (.int 0), (.int 4)] hown (own_m hw 21 rfl) (own_m hw 22 rfl) (by decide) (own_m hw 24 rfl) (own_m hw 23 rfl) e42 (rmC1_4 l Z a0 hw [] ca kc c0 c1 c2 c3 h0 n0 Z0 Vc hx0 hx1 hx2 hx3) (by rw [hml]; rfl) (lenOf pd_1 rfl) rfl (Nat.le_of_eq rfl) (hb hby d3_36) (by decide) (by decide) (by decide) (by decide) fun v43 T43 L43 X43 hQ43 => ?_
  obtain ⟨b43, kb43, rfl, N43q, K43, szb43, gb43, Eb43, Vb43⟩ := hQ43
  have N43 := Fr.app N0 N43q
  have szo_b43 : h0.size ≤ b43 := Nat.le_trans (Nat.le_refl h0.size) szb43
  show own_At p e below _ T43 m 39 _ [(.ref b43)]
  refine own_astore (l' := #[.val (.ref a), .val (.ref ca), .val (.int 0), .val (.int 4), .val .null, .val (.ref b43)]) X43 hx (hb hby d3_39) rfl rfl ?_
  refine own_aloadN X43 hx (hb hby d3_41) rfl rfl ?_
  refine own_aload X43 hx (hb hby d3_42) rfl rfl ?_
  refine own_iloadN X43 hx (hb hby d3_44) rfl ?_
  refine own_cStat (W := 1) (rest := [(.ref a)]) X43 hx hZ [(.ref b43), (.int 4)] hown (own_m hw 29 rfl) (own_m hw 30 rfl) (by decide) (own_m hw 31 rfl) (own_m hw 23 rfl) rfl (rmCF_4 l Z a0 hw [] b43 T43.heap n0 (Nat.le_trans Z0 K43.1) (own_alnV Vb43)) (by rw [hml]; rfl) (lenOf pd_2 rfl) rfl (Nat.le_of_eq rfl) (hb hby d3_45) (by decide) (by decide) (by decide) (by decide) fun v44 T44 L44 X44 hQ44 => ?_
  obtain ⟨rfl, N44q, e44⟩ := hQ44
  have N44 := Fr.app N43 N44q
  show own_At p e below _ T44 m 48 _ [(.int 0), (.ref a)]
  obtain ⟨T45, h45, X45, e45, W45, st45⟩ := putFN X44 hx hZ hown (own_m hw 32 rfl) Via.refl e44 (Fld.keep Fc K43 nin0) (Exa.keep Ea K43) (Or.inr ⟨(own_m hw 33 rfl), rfl, hnm⟩) (own_m hw 8 rfl) (ty := .byte) (v' := (.int 0)) (by decide) rfl rfl (g := (mkF m 48 #[.val (.ref a), .val (.ref ca), .val (.int 0), .val (.int 4), .val .null, .val (.ref b43)] [(.int 0), (.ref a)])) rfl rfl (hb hby d3_48)
  refine own_step (S' := (T45.setTop (mkF m 51 #[.val (.ref a), .val (.ref ca), .val (.int 0), .val (.int 4), .val .null, .val (.ref b43)] []))) (fun _ k => st45 _ k) ?_
  have Fw45 := Fld.same W45 (Fld.keep Fc K43 nin0)
  have N45 := Fr.snoc X45 N44 g_a
  refine own_aloadN X45 hx (hb hby d3_51) rfl rfl ?_
  refine own_aload X45 hx (hb hby d3_52) rfl rfl ?_
  refine own_putF X45 hx hZ hown (host := "") (Or.inl (own_m hw 34 rfl)) Via.refl e45 (Fld.other W45 (Fld.keep Fv K43 nin0) (Or.inr (slot_ne (Or.inr (own_m hw 35 rfl)) (Or.inr (own_m hw 33 rfl)) (by decide) (t := (.array .byte)) (t' := .byte) (by decide) (by decide)))) (Exa.wr W45 (Exa.keep Ea K43)) (Or.inr ⟨(own_m hw 35 rfl), rfl, hnm⟩) (own_m hw 8 rfl) (ty := (.array .byte)) (by decide) rfl rfl (hb hby d3_54) fun T46 h46 X46 e46 W46 => ?_
  have Fw46 := Fld.same W46 (Fld.other W45 (Fld.keep Fv K43 nin0) (Or.inr (slot_ne (Or.inr (own_m hw 35 rfl)) (Or.inr (own_m hw 33 rfl)) (by decide) (t := (.array .byte)) (t' := .byte) (by decide) (by decide))))
  have N46 := Fr.snoc X46 N45 g_a
  refine own_retV X46 hx hlk hret (hb hby d3_57) (own_kN (by decide) (by decide) ?_)
  try rw [e46]
  exact ⟨rfl, N46, (Keep.wr (Keep.wr (Keep.trans (Keep.refl h0 [a]) K43 all0) W45 (Or.inl (List.mem_of_getElem? (i := 0) rfl))) W46 (Or.inl (List.mem_of_getElem? (i := 0) rfl))), b43, kb43, szo_b43, (Exa.wr W46 (Exa.wr W45 Eb43)), (Exa.wr W46 (Exa.wr W45 (Exa.keep Ea K43))), Fw46, (Fld.other W46 Fw45 (Or.inr (slot_ne (Or.inr (own_m hw 33 rfl)) (Or.inr (own_m hw 35 rfl)) (by decide) (t := .byte) (t' := (.array .byte)) (by decide) (by decide)))), (Arv.other (Arv.other Vb43 W45 (Ne.symm (Nat.ne_of_lt (Nat.lt_of_lt_of_le Ea.lt szb43)))) W46 (Ne.symm (Nat.ne_of_lt (Nat.lt_of_lt_of_le Ea.lt szb43))))⟩
set_option maxRecDepth 65536 in
set_option maxHeartbeats 40000000 in
theorem rmI1_4 (l : Launch) (Z : State) (a0 : Array Value) (hw : own_Wd a0 Z) (ws : List Jvm.Cond) (a ca : Addr) (kc : ClassId) (cs c0 c1 c2 c3 : Int32)  (h0 : Heap) (n0 : Nat) (Z0 : n0 ≤ h0.size) (Ea : Exa Z h0 a "java/lang/String") (Fv : Fld Z h0 a "java/lang/String" "value" "[B" .null) (Fc : Fld Z h0 a "java/lang/String" "coder" "B" (.int 0)) (g_a : n0 ≤ a) (Sc : Sta Z h0 "java/lang/String" "COMPACT_STRINGS" "Z" (.int cs)) (hcs : ¬ (cs = (0 : Int32))) (Vc : Arv Z h0 ca kc .char (4 : Int32) [(.int c0), (.int c1), (.int c2), (.int c3)] (.int 0)) (Ecs : Exa Z h0 ca "[C") (hx0 : ¬ ((255 : Int32) < c0)) (hx1 : ¬ ((255 : Int32) < c1)) (hx2 : ¬ ((255 : Int32) < c2)) (hx3 : ¬ ((255 : Int32) < c3)) :
    own_Met l (⟨"java/lang/String", "<init>", "([C)V"⟩ : MethodName) jdk_42_method_3_code 2 none ws ({ frames := 3, cells := 1, slots := 4, locals := 52 } : Room) Z #[(.ref a), (.ref ca)] h0 (fun v h L => v = none ∧ Fr n0 L ∧ Keep h0 h [a] ∧ ∃ b k, h0.size ≤ b ∧ Exa Z h b "[B" ∧ Exa Z h a "java/lang/String" ∧ Fld Z h a "java/lang/String" "value" "[B" (.ref b) ∧ Fld Z h a "java/lang/String" "coder" "B" (.int 0) ∧ Arv Z h b k .byte (4 : Int32) [(.int (c0.toInt8.toInt32)), (.int (c1.toInt8.toInt32)), (.int (c2.toInt8.toInt32)), (.int (c3.toInt8.toInt32))] (.int 0)) := by
  refine own_body (plainFor_of_name pn_2) ?_
  intro p e s m below meth c s₁ X0 hx hby hml hown hnm hret hlk hZ e0
  replace hown : s.vm.findClass "java/lang/String" = some m.cls := hown
  replace hml : c.maxLocals = 2 := hml
  replace hret : meth.sig.returnType = none := hret
  have N0 := Fr.nil n0
  refine own_ef (L0 := #[.val (.ref a), .val (.ref ca)]) (by first | (simp [entryFrame, mkF, argsToLocals, Value.category]; done) | rfl) ?_
  refine own_aloadN X0 hx (hb hby d2_0) rfl rfl ?_
  refine own_aloadN X0 hx (hb hby d2_1) rfl rfl ?_
  refine own_iconst X0 hx 0 (hb hby d2_2) rfl ?_
  refine own_aloadN X0 hx (hb hby d2_3) rfl rfl ?_
  refine own_arraylength X0 hx hZ e0 (own_alnV Vc) (hb hby d2_4) ?_
  refine own_aconstNull X0 hx (hb hby d2_5) ?_
  refine own_cSpec (b := a) (W := 0) (rest := []) X0 hx hZ [(.ref ca), (.int 0), (.int 4), .null] rfl hown (own_m hw 13 rfl) (own_m hw 14 rfl) (by decide) (own_m hw 16 rfl) (own_m hw 9 rfl) e0 (rmI2_4 l Z a0 hw [] a ca kc cs c0 c1 c2 c3 h0 n0 Z0 Ea Fv Fc g_a Sc hcs Vc Ecs hx0 hx1 hx2 hx3) (by rw [hml]; rfl) (lenOf pd_3 rfl) rfl (Nat.le_of_eq rfl) (hb hby d2_6) (by decide) (by decide) (by decide) (by decide) fun v47 T47 L47 X47 hQ47 => ?_
  obtain ⟨rfl, N47q, K47, R47⟩ := hQ47
  have N47 := Fr.app N0 N47q
  show own_At p e below _ T47 m 9 _ []
  refine own_retV X47 hx hlk hret (hb hby d2_9) (own_kN (by decide) (by decide) ?_)
  exact ⟨rfl, N47, K47, R47⟩
set_option maxRecDepth 65536 in
set_option maxHeartbeats 40000000 in
theorem rmI2_0 (l : Launch) (Z : State) (a0 : Array Value) (hw : own_Wd a0 Z) (ws : List Jvm.Cond) (a ca : Addr) (kc : ClassId)  (h0 : Heap) (n0 : Nat) (Z0 : n0 ≤ h0.size) (Ea : Exa Z h0 a "java/lang/String") (Fv : Fld Z h0 a "java/lang/String" "value" "[B" .null) (Fc : Fld Z h0 a "java/lang/String" "coder" "B" (.int 0)) (g_a : n0 ≤ a) (Vc : Arv Z h0 ca kc .char (0 : Int32) [] (.int 0)) :
    own_MetW l (⟨"java/lang/String", "<init>", "([CIILjava/lang/Void;)V"⟩ : MethodName) jdk_42_method_149_code 6 none ws ({ frames := 1, cells := 4, slots := 8, locals := 12 } : Room) Z own_EL #[(.ref a), (.ref ca), (.int 0), (.int 0), .null] h0 (fun v h L => v = none ∧ Fr n0 L ∧ Keep h0 h [a] ∧ ∃ b k, Exa Z h a "java/lang/String" ∧ Fld Z h a "java/lang/String" "value" "[B" (.ref b) ∧ Fld Z h a "java/lang/String" "coder" "B" (.int 0) ∧ Arv Z h b k .byte (0 : Int32) [] (.int 0)) := by
  refine own_bodyW (plainFor_of_name pn_2) ?_
  intro p e s m below meth c s₁ X0 hx hby hml hown hnm hret hlk hZ e0 hs0 CH0 hS0
  replace hown : (s.setVm s.vm).vm.findClass "java/lang/String" = some m.cls := hown
  replace hml : c.maxLocals = 6 := hml
  replace hret : meth.sig.returnType = none := hret
  have N0 := Fr.nil n0
  have hEL : EW Z a0 own_EL := own_ELw hw
  have CR0 : CHr Z own_EL s.vm s.heap s.vm h0 := by rw [hs0]; exact CHr.refl CH0
  refine own_ef (L0 := #[.val (.ref a), .val (.ref ca), .val (.int 0), .val (.int 0), .val .null, .unset]) (by first | (simp [entryFrame, mkF, argsToLocals, Value.category]; done) | rfl) ?_
  refine own_aloadN X0 hx (hb hby d3_0) rfl rfl ?_
  refine own_initO (W := 0) X0 hx hZ hown (own_m hw 17 rfl) (own_m hw 18 rfl) (own_m hw 19 rfl) e0 (by rw [hml]; rfl) (hb hby d3_1) (by decide) (Nat.le_of_eq rfl) (by decide) fun T48 X48 e48 => ?_
  refine own_iloadN X48 hx (hb hby d3_4) rfl ?_
  refine own_ifNo X48 hx (hb hby d3_5) (teq (by decide : (0 : Int32) = (0 : Int32))).2 ?_
  refine own_aloadN X48 hx (hb hby d3_8) rfl rfl ?_
  have Sf := own_safeFresh (EL := own_EL) hZ.alike Ea Fv
  refine own_ldcE X48 hx hZ hown (own_m hw 151 rfl) (own_wS hw) e48 hEL (List.mem_cons_self ..) CH0 hS0 (Nat.le_refl _) (hb hby d3_9) (by decide) (by decide) fun s49 t49 T49 h49 k149 kk49 X49 e49 E49 hS49 hk49 hZ49 ho49 Es49 Fsc49 Fsv49 Vs49 CR49 hs49 => ?_
  have lt49 : a < h0.size := Ea.lt
  have Sf49 := CHr.safe CR49 lt49 Sf
  refine own_getF X49 hx hZ49 ho49 (host := "") (Or.inl (own_m hw 34 rfl)) Via.refl e49 Fsv49 (hb hby d3_11) fun T50 X50 e50 => ?_
  refine own_putF X50 hx hZ49 ho49 (host := "") (Or.inl (own_m hw 34 rfl)) Via.refl e50 (Fld.ext E49 Fv) (Exa.ext E49 Ea) (Or.inr ⟨(own_m hw 35 rfl), rfl, hnm⟩) (own_m hw 8 rfl) (ty := (.array .byte)) (by decide) rfl rfl (hb hby d3_14) fun T51 h51 X51 e51 W51 => ?_
  have Fw51 := Fld.same W51 (Fld.ext E49 Fv)
  have N51 := Fr.snoc X51 N0 g_a
  refine own_aloadN X51 hx (hb hby d3_17) rfl rfl ?_
  refine own_ldcE X51 hx hZ49 ho49 (own_m hw 151 rfl) (own_wS hw) e51 hEL (List.mem_cons_self ..) (CHv.wr W51 Sf49 CR49.1) hS49 (Nat.le_trans hk49 (Keep.of_wr W51).1) (hb hby d3_18) (by decide) (by decide) fun s52 t52 T52 h52 k152 kk52 X52 e52 E52 hS52 hk52 hZ52 ho52 Es52 Fsc52 Fsv52 Vs52 CR52 hs52 => ?_
  have lt52 : a < h51.size := (Exa.wr W51 (Exa.ext E49 Ea)).lt
  have Sf52 := CHr.safe CR52 lt52 (Safe.wr W51 Sf49 CR49.1 Sf49)
  refine own_getF X52 hx hZ52 ho52 (host := "") (Or.inl (own_m hw 32 rfl)) Via.refl e52 Fsc52 (hb hby d3_20) fun T53 X53 e53 => ?_
  obtain ⟨T54, h54, X54, e54, W54, st54⟩ := putFN X53 hx hZ52 ho52 (own_m hw 32 rfl) Via.refl e53 (Fld.ext E52 (Fld.other W51 (Fld.ext E49 Fc) (Or.inr (slot_ne (Or.inr (own_m hw 33 rfl)) (Or.inr (own_m hw 35 rfl)) (by decide) (t := .byte) (t' := (.array .byte)) (by decide) (by decide))))) (Exa.ext E52 (Exa.wr W51 (Exa.ext E49 Ea))) (Or.inr ⟨(own_m hw 33 rfl), rfl, hnm⟩) (own_m hw 8 rfl) (ty := .byte) (v' := (.int 0)) (by decide) rfl rfl (g := (mkF m 23 #[.val (.ref a), .val (.ref ca), .val (.int 0), .val (.int 0), .val .null, .unset] [(.int 0), (.ref a)])) rfl rfl (hb hby d3_23)
  refine own_step (S' := (T54.setTop (mkF m 26 #[.val (.ref a), .val (.ref ca), .val (.int 0), .val (.int 0), .val .null, .unset] []))) (fun _ k => st54 _ k) ?_
  have Fw54 := Fld.same W54 (Fld.ext E52 (Fld.other W51 (Fld.ext E49 Fc) (Or.inr (slot_ne (Or.inr (own_m hw 33 rfl)) (Or.inr (own_m hw 35 rfl)) (by decide) (t := .byte) (t' := (.array .byte)) (by decide) (by decide)))))
  have N54 := Fr.snoc X54 N51 g_a
  refine own_retV X54 hx hlk hret (hb hby d3_26) (own_kW X54 hZ52 hEL (by rw [e54]; exact (CHr.trans (CHr.trans (CHr.trans (CHr.trans CR0 CR49) (CHr.wr W51 Sf49 CR49.1)) CR52) (CHr.wr W54 Sf52 CR52.1))) hS52 (by rw [e54]; exact (Nat.le_trans hk52 (Keep.of_wr W54).1)) (by decide) (by decide) ?_)
  try rw [e54]
  exact ⟨rfl, N54, (Keep.wr (Keep.ext (Keep.wr (Keep.ext (Keep.refl h0 [a]) E49) W51 (Or.inl (List.mem_of_getElem? (i := 0) rfl))) E52) W54 (Or.inl (List.mem_of_getElem? (i := 0) rfl))), t49, kk49, (Exa.wr W54 (Exa.ext E52 (Exa.wr W51 (Exa.ext E49 Ea)))), (Fld.other W54 (Fld.ext E52 Fw51) (Or.inr (slot_ne (Or.inr (own_m hw 35 rfl)) (Or.inr (own_m hw 33 rfl)) (by decide) (t := (.array .byte)) (t' := .byte) (by decide) (by decide)))), Fw54, (Arv.other ((Arv.other Vs49 W51 (Ne.symm (hs49 _ Sf49).2)).ext E52) W54 (Ne.symm (hs49 _ Sf49).2))⟩
set_option maxRecDepth 65536 in
set_option maxHeartbeats 40000000 in
theorem rmI1_0 (l : Launch) (Z : State) (a0 : Array Value) (hw : own_Wd a0 Z) (ws : List Jvm.Cond) (a ca : Addr) (kc : ClassId)  (h0 : Heap) (n0 : Nat) (Z0 : n0 ≤ h0.size) (Ea : Exa Z h0 a "java/lang/String") (Fv : Fld Z h0 a "java/lang/String" "value" "[B" .null) (Fc : Fld Z h0 a "java/lang/String" "coder" "B" (.int 0)) (g_a : n0 ≤ a) (Vc : Arv Z h0 ca kc .char (0 : Int32) [] (.int 0)) :
    own_MetW l (⟨"java/lang/String", "<init>", "([C)V"⟩ : MethodName) jdk_42_method_3_code 2 none ws ({ frames := 2, cells := 4, slots := 8, locals := 29 } : Room) Z own_EL #[(.ref a), (.ref ca)] h0 (fun v h L => v = none ∧ Fr n0 L ∧ Keep h0 h [a] ∧ ∃ b k, Exa Z h a "java/lang/String" ∧ Fld Z h a "java/lang/String" "value" "[B" (.ref b) ∧ Fld Z h a "java/lang/String" "coder" "B" (.int 0) ∧ Arv Z h b k .byte (0 : Int32) [] (.int 0)) := by
  refine own_bodyW (plainFor_of_name pn_2) ?_
  intro p e s m below meth c s₁ X0 hx hby hml hown hnm hret hlk hZ e0 hs0 CH0 hS0
  replace hown : (s.setVm s.vm).vm.findClass "java/lang/String" = some m.cls := hown
  replace hml : c.maxLocals = 2 := hml
  replace hret : meth.sig.returnType = none := hret
  have N0 := Fr.nil n0
  have hEL : EW Z a0 own_EL := own_ELw hw
  have CR0 : CHr Z own_EL s.vm s.heap s.vm h0 := by rw [hs0]; exact CHr.refl CH0
  refine own_ef (L0 := #[.val (.ref a), .val (.ref ca)]) (by first | (simp [entryFrame, mkF, argsToLocals, Value.category]; done) | rfl) ?_
  refine own_aloadN X0 hx (hb hby d2_0) rfl rfl ?_
  refine own_aloadN X0 hx (hb hby d2_1) rfl rfl ?_
  refine own_iconst X0 hx 0 (hb hby d2_2) rfl ?_
  refine own_aloadN X0 hx (hb hby d2_3) rfl rfl ?_
  refine own_arraylength X0 hx hZ e0 (own_alnV Vc) (hb hby d2_4) ?_
  refine own_aconstNull X0 hx (hb hby d2_5) ?_
  refine own_cSpecW (b := a) (W := 0) (rest := []) X0 hx hZ [(.ref ca), (.int 0), (.int 0), .null] rfl hown (own_m hw 13 rfl) (own_m hw 14 rfl) (by decide) (own_m hw 16 rfl) (own_m hw 9 rfl) e0 (rmI2_0 l Z a0 hw [] a ca kc h0 n0 Z0 Ea Fv Fc g_a Vc) hEL CH0 hS0 (Nat.le_refl _) (by rw [hml]; rfl) (lenOf pd_3 rfl) rfl (Nat.le_of_eq rfl) (hb hby d2_6) (by decide) (by decide) (by decide) (by decide) fun v55 T55 L55 X55 hS55 hZ55 ho55 CR55 hQ55 => ?_
  obtain ⟨rfl, N55q, K55, R55⟩ := hQ55
  have N55 := Fr.app N0 N55q
  show own_At p e below _ T55 m 9 _ []
  refine own_retV X55 hx hlk hret (hb hby d2_9) (own_kW X55 hZ55 hEL (CHr.trans CR0 CR55) hS55 (Nat.le_refl _) (by decide) (by decide) ?_)
  exact ⟨rfl, N55, K55, R55⟩
theorem d17_0 : decode jdk_42_method_154_code 0 = .ok (.getstatic 38, 3) := by decide +kernel
theorem d17_3 : decode jdk_42_method_154_code 3 = .ok (.ifCond .eq 14, 3) := by decide +kernel
theorem d17_6 : decode jdk_42_method_154_code 6 = .ok (.aload_n 0, 1) := by decide +kernel
theorem d17_7 : decode jdk_42_method_154_code 7 = .ok (.getfield 15, 3) := by decide +kernel
theorem d17_10 : decode jdk_42_method_154_code 10 = .ok (.ifCond .ne 7, 3) := by decide +kernel
theorem d17_13 : decode jdk_42_method_154_code 13 = .ok (.iconst 1, 1) := by decide +kernel
theorem d17_14 : decode jdk_42_method_154_code 14 = .ok (.goto 4, 3) := by decide +kernel
theorem d17_18 : decode jdk_42_method_154_code 18 = .ok (.ireturn, 1) := by decide +kernel
set_option maxRecDepth 65536 in
set_option maxHeartbeats 40000000 in
theorem rmL (l : Launch) (Z : State) (a0 : Array Value) (hw : own_Wd a0 Z) (ws : List Jvm.Cond) (a : Addr) (cs : Int32)  (h0 : Heap) (n0 : Nat) (Z0 : n0 ≤ h0.size) (Sc : Sta Z h0 "java/lang/String" "COMPACT_STRINGS" "Z" (.int cs)) (hcs : ¬ (cs = (0 : Int32))) (Fc : Fld Z h0 a "java/lang/String" "coder" "B" (.int 0)) :
    own_Met l (⟨"java/lang/String", "isLatin1", "()Z"⟩ : MethodName) jdk_42_method_154_code 1 (some .boolean) ws ({ frames := 0, cells := 0, slots := 0, locals := 0 } : Room) Z #[(.ref a)] h0 (fun v h L => v = some (.int 1) ∧ Fr n0 L ∧ h = h0) := by
  refine own_body (plainFor_of_name pn_2) ?_
  intro p e s m below meth c s₁ X0 hx hby hml hown hnm hret hlk hZ e0
  replace hown : s.vm.findClass "java/lang/String" = some m.cls := hown
  replace hml : c.maxLocals = 1 := hml
  replace hret : meth.sig.returnType = (some .boolean) := hret
  have N0 := Fr.nil n0
  refine own_ef (L0 := #[.val (.ref a)]) (by first | (simp [entryFrame, mkF, argsToLocals, Value.category]; done) | rfl) ?_
  refine own_getS X0 hx hZ hown (host := "") (Or.inl (own_m hw 20 rfl)) Via.refl e0 Sc (hb hby d17_0) fun T56 X56 e56 => ?_
  refine own_ifNo X56 hx (hb hby d17_3) (feq hcs).1 ?_
  refine own_aloadN X56 hx (hb hby d17_6) rfl rfl ?_
  refine own_getF X56 hx hZ hown (host := "") (Or.inl (own_m hw 32 rfl)) Via.refl e56 Fc (hb hby d17_7) fun T57 X57 e57 => ?_
  refine own_ifNo X57 hx (hb hby d17_10) (teq (by decide : (0 : Int32) = (0 : Int32))).2 ?_
  refine own_iconst X57 hx 1 (hb hby d17_13) rfl ?_
  refine own_goto X57 hx 18 (hb hby d17_14) (by decide) (by decide) ?_
  refine own_retN X57 hx hlk hret (by simp) (by decide) (hb hby d17_18) (own_kN (by decide) (by decide) ?_)
  try rw [e57]
  exact ⟨rfl, N0, rfl⟩
theorem d13_0 : decode jdk_42_method_152_code 0 = .ok (.getstatic 38, 3) := by decide +kernel
theorem d13_3 : decode jdk_42_method_152_code 3 = .ok (.ifCond .eq 10, 3) := by decide +kernel
theorem d13_6 : decode jdk_42_method_152_code 6 = .ok (.aload_n 0, 1) := by decide +kernel
theorem d13_7 : decode jdk_42_method_152_code 7 = .ok (.getfield 15, 3) := by decide +kernel
theorem d13_10 : decode jdk_42_method_152_code 10 = .ok (.goto 4, 3) := by decide +kernel
theorem d13_14 : decode jdk_42_method_152_code 14 = .ok (.ireturn, 1) := by decide +kernel
set_option maxRecDepth 65536 in
set_option maxHeartbeats 40000000 in
theorem rmCd (l : Launch) (Z : State) (a0 : Array Value) (hw : own_Wd a0 Z) (ws : List Jvm.Cond) (a : Addr) (cs : Int32)  (h0 : Heap) (n0 : Nat) (Z0 : n0 ≤ h0.size) (Sc : Sta Z h0 "java/lang/String" "COMPACT_STRINGS" "Z" (.int cs)) (hcs : ¬ (cs = (0 : Int32))) (Fc : Fld Z h0 a "java/lang/String" "coder" "B" (.int 0)) :
    own_Met l (⟨"java/lang/String", "coder", "()B"⟩ : MethodName) jdk_42_method_152_code 1 (some .byte) ws ({ frames := 0, cells := 0, slots := 0, locals := 0 } : Room) Z #[(.ref a)] h0 (fun v h L => v = some (.int 0) ∧ Fr n0 L ∧ h = h0) := by
  refine own_body (plainFor_of_name pn_2) ?_
  intro p e s m below meth c s₁ X0 hx hby hml hown hnm hret hlk hZ e0
  replace hown : s.vm.findClass "java/lang/String" = some m.cls := hown
  replace hml : c.maxLocals = 1 := hml
  replace hret : meth.sig.returnType = (some .byte) := hret
  have N0 := Fr.nil n0
  refine own_ef (L0 := #[.val (.ref a)]) (by first | (simp [entryFrame, mkF, argsToLocals, Value.category]; done) | rfl) ?_
  refine own_getS X0 hx hZ hown (host := "") (Or.inl (own_m hw 20 rfl)) Via.refl e0 Sc (hb hby d13_0) fun T58 X58 e58 => ?_
  refine own_ifNo X58 hx (hb hby d13_3) (feq hcs).1 ?_
  refine own_aloadN X58 hx (hb hby d13_6) rfl rfl ?_
  refine own_getF X58 hx hZ hown (host := "") (Or.inl (own_m hw 32 rfl)) Via.refl e58 Fc (hb hby d13_7) fun T59 X59 e59 => ?_
  refine own_goto X59 hx 14 (hb hby d13_10) (by decide) (by decide) ?_
  refine own_retN X59 hx hlk hret (by simp) (by decide) (hb hby d13_14) (own_kN (by decide) (by decide) ?_)
  try rw [e59]
  exact ⟨rfl, N0, rfl⟩
theorem own_shr0 (n : Int32) : (n >>> ((0 : Int32) &&& 31)) = n := by
  rw [show ((0 : Int32) &&& 31) = 0 from by decide]
  simp
theorem d12_0 : decode jdk_42_method_54_code 0 = .ok (.aload_n 0, 1) := by decide +kernel
theorem d12_1 : decode jdk_42_method_54_code 1 = .ok (.getfield 9, 3) := by decide +kernel
theorem d12_4 : decode jdk_42_method_54_code 4 = .ok (.arraylength, 1) := by decide +kernel
theorem d12_5 : decode jdk_42_method_54_code 5 = .ok (.aload_n 0, 1) := by decide +kernel
theorem d12_6 : decode jdk_42_method_54_code 6 = .ok (.invokevirtual 335, 3) := by decide +kernel
theorem d12_9 : decode jdk_42_method_54_code 9 = .ok (.ishr, 1) := by decide +kernel
theorem d12_10 : decode jdk_42_method_54_code 10 = .ok (.ireturn, 1) := by decide +kernel
theorem pd_4 : parseMethodDescriptor "()B" = some ⟨[], some .byte⟩ := by decide +kernel
set_option maxRecDepth 65536 in
set_option maxHeartbeats 40000000 in
theorem rmLen (l : Launch) (Z : State) (a0 : Array Value) (hw : own_Wd a0 Z) (ws : List Jvm.Cond) (a b : Addr) (cs n : Int32)  (h0 : Heap) (n0 : Nat) (Z0 : n0 ≤ h0.size) (Sc : Sta Z h0 "java/lang/String" "COMPACT_STRINGS" "Z" (.int cs)) (hcs : ¬ (cs = (0 : Int32))) (Ea : Exa Z h0 a "java/lang/String") (Fv : Fld Z h0 a "java/lang/String" "value" "[B" (.ref b)) (Fc : Fld Z h0 a "java/lang/String" "coder" "B" (.int 0)) (A : own_Aln Z h0 b .byte n) :
    own_Met l (⟨"java/lang/String", "length", "()I"⟩ : MethodName) jdk_42_method_54_code 1 (some .int) ws ({ frames := 1, cells := 0, slots := 0, locals := 13 } : Room) Z #[(.ref a)] h0 (fun v h L => v = some (.int n) ∧ Fr n0 L ∧ h = h0) := by
  refine own_body (plainFor_of_name pn_2) ?_
  intro p e s m below meth c s₁ X0 hx hby hml hown hnm hret hlk hZ e0
  replace hown : s.vm.findClass "java/lang/String" = some m.cls := hown
  replace hml : c.maxLocals = 1 := hml
  replace hret : meth.sig.returnType = (some .int) := hret
  have N0 := Fr.nil n0
  refine own_ef (L0 := #[.val (.ref a)]) (by first | (simp [entryFrame, mkF, argsToLocals, Value.category]; done) | rfl) ?_
  refine own_aloadN X0 hx (hb hby d12_0) rfl rfl ?_
  refine own_getF X0 hx hZ hown (host := "") (Or.inl (own_m hw 34 rfl)) Via.refl e0 Fv (hb hby d12_1) fun T60 X60 e60 => ?_
  refine own_arraylength X60 hx hZ e60 A (hb hby d12_4) ?_
  refine own_aloadN X60 hx (hb hby d12_5) rfl rfl ?_
  refine own_cVirt (W := 1) (rest := [(.int n)]) X60 hx hZ [] hown (own_m hw 66 rfl) (own_m hw 67 rfl) (notFace_of_selects (args := #[]) (mvT hZ (own_m hw 69 rfl))) (own_m hw 69 rfl) (own_m hw 68 rfl) (by decide) (own_m hw 70 rfl) (own_m hw 9 rfl) e60 Ea (rmCd l Z a0 hw [] a cs h0 n0 Z0 Sc hcs Fc) (by rw [hml]; rfl) (lenOf pd_4 rfl) rfl (Nat.le_of_eq rfl) (hb hby d12_6) (by decide) (by decide) (by decide) (by decide) fun v61 T61 L61 X61 hQ61 => ?_
  obtain ⟨rfl, N61q, e61⟩ := hQ61
  have N61 := Fr.app N0 N61q
  show own_At p e below _ T61 m 9 _ [(.int 0), (.int n)]
  refine own_ishr X61 hx (hb hby d12_9) ?_
  rw [own_shr0]
  refine own_retI X61 hx hlk hret (hb hby d12_10) (own_kN (by decide) (by decide) ?_)
  try rw [e61]
  exact ⟨rfl, N61, rfl⟩
theorem d14_0 : decode jdk_29_method_65_code 0 = .ok (.iload_n 0, 1) := by decide +kernel
theorem d14_1 : decode jdk_29_method_65_code 1 = .ok (.iload_n 1, 1) := by decide +kernel
theorem d14_2 : decode jdk_29_method_65_code 2 = .ok (.if_icmp .lt 7, 3) := by decide +kernel
theorem d14_5 : decode jdk_29_method_65_code 5 = .ok (.iload_n 0, 1) := by decide +kernel
theorem d14_6 : decode jdk_29_method_65_code 6 = .ok (.goto 4, 3) := by decide +kernel
theorem d14_10 : decode jdk_29_method_65_code 10 = .ok (.ireturn, 1) := by decide +kernel
set_option maxRecDepth 65536 in
set_option maxHeartbeats 40000000 in
theorem rmMax (l : Launch) (Z : State) (a0 : Array Value) (hw : own_Wd a0 Z) (ws : List Jvm.Cond)  (x : Int32) (y : Int32) (h0 : Heap) (n0 : Nat) (Z0 : n0 ≤ h0.size) (hxy : ¬ (x < y)) :
    own_Met l (⟨"java/lang/Math", "max", "(II)I"⟩ : MethodName) jdk_29_method_65_code 2 (some .int) ws ({ frames := 0, cells := 0, slots := 0, locals := 0 } : Room) Z #[(.int x), (.int y)] h0 (fun v h L => v = some (.int x) ∧ Fr n0 L ∧ h = h0) := by
  refine own_body (Jvm.Free.JP.mathPlain rfl (by decide +kernel)) ?_
  intro p e s m below meth c s₁ X0 hx hby hml hown hnm hret hlk hZ e0
  replace hown : s.vm.findClass "java/lang/Math" = some m.cls := hown
  replace hml : c.maxLocals = 2 := hml
  replace hret : meth.sig.returnType = (some .int) := hret
  have N0 := Fr.nil n0
  refine own_ef (L0 := #[.val (.int x), .val (.int y)]) (by first | (simp [entryFrame, mkF, argsToLocals, Value.category]; done) | rfl) ?_
  refine own_iloadN X0 hx (hb hby d14_0) rfl ?_
  refine own_iloadN X0 hx (hb hby d14_1) rfl ?_
  refine own_icmpNo X0 hx (hb hby d14_2) (flt hxy).1 ?_
  refine own_iloadN X0 hx (hb hby d14_5) rfl ?_
  refine own_goto X0 hx 10 (hb hby d14_6) (by decide) (by decide) ?_
  refine own_retI X0 hx hlk hret (hb hby d14_10) (own_kN (by decide) (by decide) ?_)
  try rw [e0]
  exact ⟨rfl, N0, rfl⟩
theorem d20_0 : decode jdk_29_method_69_code 0 = .ok (.iload_n 0, 1) := by decide +kernel
theorem d20_1 : decode jdk_29_method_69_code 1 = .ok (.iload_n 1, 1) := by decide +kernel
theorem d20_2 : decode jdk_29_method_69_code 2 = .ok (.if_icmp .gt 7, 3) := by decide +kernel
theorem d20_5 : decode jdk_29_method_69_code 5 = .ok (.iload_n 0, 1) := by decide +kernel
theorem d20_6 : decode jdk_29_method_69_code 6 = .ok (.goto 4, 3) := by decide +kernel
theorem d20_10 : decode jdk_29_method_69_code 10 = .ok (.ireturn, 1) := by decide +kernel
set_option maxRecDepth 65536 in
set_option maxHeartbeats 40000000 in
theorem rmMin (l : Launch) (Z : State) (a0 : Array Value) (hw : own_Wd a0 Z) (ws : List Jvm.Cond)  (x : Int32) (y : Int32) (h0 : Heap) (n0 : Nat) (Z0 : n0 ≤ h0.size) (hxy : ¬ (y < x)) :
    own_Met l (⟨"java/lang/Math", "min", "(II)I"⟩ : MethodName) jdk_29_method_69_code 2 (some .int) ws ({ frames := 0, cells := 0, slots := 0, locals := 0 } : Room) Z #[(.int x), (.int y)] h0 (fun v h L => v = some (.int x) ∧ Fr n0 L ∧ h = h0) := by
  refine own_body (Jvm.Free.JP.mathPlain rfl (by decide +kernel)) ?_
  intro p e s m below meth c s₁ X0 hx hby hml hown hnm hret hlk hZ e0
  replace hown : s.vm.findClass "java/lang/Math" = some m.cls := hown
  replace hml : c.maxLocals = 2 := hml
  replace hret : meth.sig.returnType = (some .int) := hret
  have N0 := Fr.nil n0
  refine own_ef (L0 := #[.val (.int x), .val (.int y)]) (by first | (simp [entryFrame, mkF, argsToLocals, Value.category]; done) | rfl) ?_
  refine own_iloadN X0 hx (hb hby d20_0) rfl ?_
  refine own_iloadN X0 hx (hb hby d20_1) rfl ?_
  refine own_icmpNo X0 hx (hb hby d20_2) (flt hxy).2.2.1 ?_
  refine own_iloadN X0 hx (hb hby d20_5) rfl ?_
  refine own_goto X0 hx 10 (hb hby d20_6) (by decide) (by decide) ?_
  refine own_retI X0 hx hlk hret (hb hby d20_10) (own_kN (by decide) (by decide) ?_)
  try rw [e0]
  exact ⟨rfl, N0, rfl⟩
theorem d19_0 : decode jdk_43_method_4_code 0 = .ok (.iload_n 0, 1) := by decide +kernel
theorem d19_1 : decode jdk_43_method_4_code 1 = .ok (.ifCond .lt 14, 3) := by decide +kernel
theorem d19_4 : decode jdk_43_method_4_code 4 = .ok (.iload_n 0, 1) := by decide +kernel
theorem d19_5 : decode jdk_43_method_4_code 5 = .ok (.sipush 255, 3) := by decide +kernel
theorem d19_8 : decode jdk_43_method_4_code 8 = .ok (.if_icmp .gt 7, 3) := by decide +kernel
theorem d19_11 : decode jdk_43_method_4_code 11 = .ok (.iconst 1, 1) := by decide +kernel
theorem d19_12 : decode jdk_43_method_4_code 12 = .ok (.goto 4, 3) := by decide +kernel
theorem d19_16 : decode jdk_43_method_4_code 16 = .ok (.ireturn, 1) := by decide +kernel
theorem pn_3 : plainName "java/lang/StringLatin1" = true := by first | (simp [plainName, overriddenIn]; done) | decide +kernel
set_option maxRecDepth 65536 in
set_option maxHeartbeats 40000000 in
theorem rmCE (l : Launch) (Z : State) (a0 : Array Value) (hw : own_Wd a0 Z) (ws : List Jvm.Cond)   (h0 : Heap) (n0 : Nat) (Z0 : n0 ≤ h0.size) :
    own_Met l (⟨"java/lang/StringLatin1", "canEncode", "(I)Z"⟩ : MethodName) jdk_43_method_4_code 1 (some .boolean) ws ({ frames := 0, cells := 0, slots := 0, locals := 0 } : Room) Z #[(.int 10)] h0 (fun v h L => v = some (.int 1) ∧ Fr n0 L ∧ h = h0) := by
  refine own_body (plainFor_of_name pn_3) ?_
  intro p e s m below meth c s₁ X0 hx hby hml hown hnm hret hlk hZ e0
  replace hown : s.vm.findClass "java/lang/StringLatin1" = some m.cls := hown
  replace hml : c.maxLocals = 1 := hml
  replace hret : meth.sig.returnType = (some .boolean) := hret
  have N0 := Fr.nil n0
  refine own_ef (L0 := #[.val (.int 10)]) (by first | (simp [entryFrame, mkF, argsToLocals, Value.category]; done) | rfl) ?_
  refine own_iloadN X0 hx (hb hby d19_0) rfl ?_
  refine own_ifNo X0 hx (hb hby d19_1) (flt (by decide : ¬ ((10 : Int32) < (0 : Int32)))).1 ?_
  refine own_iloadN X0 hx (hb hby d19_4) rfl ?_
  refine own_sipush X0 hx 255 (hb hby d19_5) rfl ?_
  refine own_icmpNo X0 hx (hb hby d19_8) (flt (by decide : ¬ ((255 : Int32) < (10 : Int32)))).2.2.1 ?_
  refine own_iconst X0 hx 1 (hb hby d19_11) rfl ?_
  refine own_goto X0 hx 16 (hb hby d19_12) (by decide) (by decide) ?_
  refine own_retN X0 hx hlk hret (by simp) (by decide) (hb hby d19_16) (own_kN (by decide) (by decide) ?_)
  try rw [e0]
  exact ⟨rfl, N0, rfl⟩
theorem d21_0 : decode jdk_43_method_23_code 0 = .ok (.iload_n 1, 1) := by decide +kernel
theorem d21_1 : decode jdk_43_method_23_code 1 = .ok (.i2b, 1) := by decide +kernel
theorem d21_2 : decode jdk_43_method_23_code 2 = .ok (.istore 4, 2) := by decide +kernel
theorem d21_4 : decode jdk_43_method_23_code 4 = .ok (.iload_n 2, 1) := by decide +kernel
theorem d21_5 : decode jdk_43_method_23_code 5 = .ok (.istore 5, 2) := by decide +kernel
theorem d21_7 : decode jdk_43_method_23_code 7 = .ok (.iload 5, 2) := by decide +kernel
theorem d21_9 : decode jdk_43_method_23_code 9 = .ok (.iload_n 3, 1) := by decide +kernel
theorem d21_10 : decode jdk_43_method_23_code 10 = .ok (.if_icmp .ge 21, 3) := by decide +kernel
theorem d21_13 : decode jdk_43_method_23_code 13 = .ok (.aload_n 0, 1) := by decide +kernel
theorem d21_14 : decode jdk_43_method_23_code 14 = .ok (.iload 5, 2) := by decide +kernel
theorem d21_16 : decode jdk_43_method_23_code 16 = .ok (.baload, 1) := by decide +kernel
theorem d21_17 : decode jdk_43_method_23_code 17 = .ok (.iload 4, 2) := by decide +kernel
theorem d21_19 : decode jdk_43_method_23_code 19 = .ok (.if_icmp .ne 6, 3) := by decide +kernel
theorem d21_22 : decode jdk_43_method_23_code 22 = .ok (.iload 5, 2) := by decide +kernel
theorem d21_24 : decode jdk_43_method_23_code 24 = .ok (.ireturn, 1) := by decide +kernel
theorem d21_25 : decode jdk_43_method_23_code 25 = .ok (.iinc 5 1, 3) := by decide +kernel
theorem d21_28 : decode jdk_43_method_23_code 28 = .ok (.goto (-21), 3) := by decide +kernel
theorem d21_31 : decode jdk_43_method_23_code 31 = .ok (.iconst (-1), 1) := by decide +kernel
theorem d21_32 : decode jdk_43_method_23_code 32 = .ok (.ireturn, 1) := by decide +kernel
set_option maxRecDepth 65536 in
set_option maxHeartbeats 40000000 in
theorem rmIC_1_0 (l : Launch) (Z : State) (a0 : Array Value) (hw : own_Wd a0 Z) (ws : List Jvm.Cond) (b : Addr) (kb : ClassId) (d0 : Int32)  (h0 : Heap) (n0 : Nat) (Z0 : n0 ≤ h0.size) (Vb : Arv Z h0 b kb .byte (1 : Int32) [(.int d0)] (.int 0)) :
    own_Met l (⟨"java/lang/StringLatin1", "indexOfChar", "([BIII)I"⟩ : MethodName) jdk_43_method_23_code 6 (some .int) ws ({ frames := 0, cells := 0, slots := 0, locals := 0 } : Room) Z #[(.ref b), (.int 10), (.int 0), (.int 1)] h0 (fun v h L => v = some (.int (if d0 = (10 : Int32) then (0 : Int32) else (-1 : Int32))) ∧ Fr n0 L ∧ h = h0) := by
  refine own_body (plainFor_of_name pn_3) ?_
  intro p e s m below meth c s₁ X0 hx hby hml hown hnm hret hlk hZ e0
  replace hown : s.vm.findClass "java/lang/StringLatin1" = some m.cls := hown
  replace hml : c.maxLocals = 6 := hml
  replace hret : meth.sig.returnType = (some .int) := hret
  have N0 := Fr.nil n0
  refine own_ef (L0 := #[.val (.ref b), .val (.int 10), .val (.int 0), .val (.int 1), .unset, .unset]) (by first | (simp [entryFrame, mkF, argsToLocals, Value.category]; done) | rfl) ?_
  refine own_iloadN X0 hx (hb hby d21_0) rfl ?_
  refine own_i2b X0 hx (hb hby d21_1) ?_
  rw [show ((10 : Int32).toInt8.toInt32) = (10 : Int32) from by decide]
  refine own_istore (l' := #[.val (.ref b), .val (.int 10), .val (.int 0), .val (.int 1), .val (.int 10), .unset]) X0 hx (hb hby d21_2) rfl ?_
  refine own_iloadN X0 hx (hb hby d21_4) rfl ?_
  refine own_istore (l' := #[.val (.ref b), .val (.int 10), .val (.int 0), .val (.int 1), .val (.int 10), .val (.int 0)]) X0 hx (hb hby d21_5) rfl ?_
  refine own_iload X0 hx (hb hby d21_7) rfl ?_
  refine own_iloadN X0 hx (hb hby d21_9) rfl ?_
  refine own_icmpNo X0 hx (hb hby d21_10) (tlt (by decide : (0 : Int32) < (1 : Int32))).2.1 ?_
  refine own_aloadN X0 hx (hb hby d21_13) rfl rfl ?_
  refine own_iload X0 hx (hb hby d21_14) rfl ?_
  refine own_baload X0 hx hZ (.int d0) e0 Vb ⟨by decide, by decide⟩ rfl (hb hby d21_16) ?_
  refine own_iload X0 hx (hb hby d21_17) rfl ?_
  by_cases hc62 : d0 = (10 : Int32)
  · refine own_icmpNo X0 hx (hb hby d21_19) (teq hc62).2 ?_
    refine own_iload X0 hx (hb hby d21_22) rfl ?_
    refine own_retI X0 hx hlk hret (hb hby d21_24) (own_kN (by decide) (by decide) ?_)
    try rw [e0]
    exact ⟨by rw [if_pos hc62], N0, rfl⟩
  · refine own_icmpYes X0 hx 25 (hb hby d21_19) (feq hc62).2 (by decide) (by decide) ?_
    refine own_iinc (l' := #[.val (.ref b), .val (.int 10), .val (.int 0), .val (.int 1), .val (.int 10), .val (.int ((0 : Int32) + (1 : Int32)))]) X0 hx (hb hby d21_25) rfl rfl ?_
    rw [show ((0 : Int32) + (1 : Int32)) = (1 : Int32) from by decide]
    refine own_goto X0 hx 7 (hb hby d21_28) (by decide) (by decide) ?_
    refine own_iload X0 hx (hb hby d21_7) rfl ?_
    refine own_iloadN X0 hx (hb hby d21_9) rfl ?_
    refine own_icmpYes X0 hx 31 (hb hby d21_10) (flt (by decide : ¬ ((1 : Int32) < (1 : Int32)))).2.1 (by decide) (by decide) ?_
    refine own_iconst X0 hx (-1 : Int32) (hb hby d21_31) rfl ?_
    refine own_retI X0 hx hlk hret (hb hby d21_32) (own_kN (by decide) (by decide) ?_)
    try rw [e0]
    exact ⟨by rw [if_neg hc62], N0, rfl⟩
set_option maxRecDepth 65536 in
set_option maxHeartbeats 40000000 in
theorem rmIC_2_0 (l : Launch) (Z : State) (a0 : Array Value) (hw : own_Wd a0 Z) (ws : List Jvm.Cond) (b : Addr) (kb : ClassId) (d0 d1 : Int32)  (h0 : Heap) (n0 : Nat) (Z0 : n0 ≤ h0.size) (Vb : Arv Z h0 b kb .byte (2 : Int32) [(.int d0), (.int d1)] (.int 0)) :
    own_Met l (⟨"java/lang/StringLatin1", "indexOfChar", "([BIII)I"⟩ : MethodName) jdk_43_method_23_code 6 (some .int) ws ({ frames := 0, cells := 0, slots := 0, locals := 0 } : Room) Z #[(.ref b), (.int 10), (.int 0), (.int 2)] h0 (fun v h L => v = some (.int (if d0 = (10 : Int32) then (0 : Int32) else (if d1 = (10 : Int32) then (1 : Int32) else (-1 : Int32)))) ∧ Fr n0 L ∧ h = h0) := by
  refine own_body (plainFor_of_name pn_3) ?_
  intro p e s m below meth c s₁ X0 hx hby hml hown hnm hret hlk hZ e0
  replace hown : s.vm.findClass "java/lang/StringLatin1" = some m.cls := hown
  replace hml : c.maxLocals = 6 := hml
  replace hret : meth.sig.returnType = (some .int) := hret
  have N0 := Fr.nil n0
  refine own_ef (L0 := #[.val (.ref b), .val (.int 10), .val (.int 0), .val (.int 2), .unset, .unset]) (by first | (simp [entryFrame, mkF, argsToLocals, Value.category]; done) | rfl) ?_
  refine own_iloadN X0 hx (hb hby d21_0) rfl ?_
  refine own_i2b X0 hx (hb hby d21_1) ?_
  rw [show ((10 : Int32).toInt8.toInt32) = (10 : Int32) from by decide]
  refine own_istore (l' := #[.val (.ref b), .val (.int 10), .val (.int 0), .val (.int 2), .val (.int 10), .unset]) X0 hx (hb hby d21_2) rfl ?_
  refine own_iloadN X0 hx (hb hby d21_4) rfl ?_
  refine own_istore (l' := #[.val (.ref b), .val (.int 10), .val (.int 0), .val (.int 2), .val (.int 10), .val (.int 0)]) X0 hx (hb hby d21_5) rfl ?_
  refine own_iload X0 hx (hb hby d21_7) rfl ?_
  refine own_iloadN X0 hx (hb hby d21_9) rfl ?_
  refine own_icmpNo X0 hx (hb hby d21_10) (tlt (by decide : (0 : Int32) < (2 : Int32))).2.1 ?_
  refine own_aloadN X0 hx (hb hby d21_13) rfl rfl ?_
  refine own_iload X0 hx (hb hby d21_14) rfl ?_
  refine own_baload X0 hx hZ (.int d0) e0 Vb ⟨by decide, by decide⟩ rfl (hb hby d21_16) ?_
  refine own_iload X0 hx (hb hby d21_17) rfl ?_
  by_cases hc63 : d0 = (10 : Int32)
  · refine own_icmpNo X0 hx (hb hby d21_19) (teq hc63).2 ?_
    refine own_iload X0 hx (hb hby d21_22) rfl ?_
    refine own_retI X0 hx hlk hret (hb hby d21_24) (own_kN (by decide) (by decide) ?_)
    try rw [e0]
    exact ⟨by rw [if_pos hc63], N0, rfl⟩
  · refine own_icmpYes X0 hx 25 (hb hby d21_19) (feq hc63).2 (by decide) (by decide) ?_
    refine own_iinc (l' := #[.val (.ref b), .val (.int 10), .val (.int 0), .val (.int 2), .val (.int 10), .val (.int ((0 : Int32) + (1 : Int32)))]) X0 hx (hb hby d21_25) rfl rfl ?_
    rw [show ((0 : Int32) + (1 : Int32)) = (1 : Int32) from by decide]
    refine own_goto X0 hx 7 (hb hby d21_28) (by decide) (by decide) ?_
    refine own_iload X0 hx (hb hby d21_7) rfl ?_
    refine own_iloadN X0 hx (hb hby d21_9) rfl ?_
    refine own_icmpNo X0 hx (hb hby d21_10) (tlt (by decide : (1 : Int32) < (2 : Int32))).2.1 ?_
    refine own_aloadN X0 hx (hb hby d21_13) rfl rfl ?_
    refine own_iload X0 hx (hb hby d21_14) rfl ?_
    refine own_baload X0 hx hZ (.int d1) e0 Vb ⟨by decide, by decide⟩ rfl (hb hby d21_16) ?_
    refine own_iload X0 hx (hb hby d21_17) rfl ?_
    by_cases hc64 : d1 = (10 : Int32)
    · refine own_icmpNo X0 hx (hb hby d21_19) (teq hc64).2 ?_
      refine own_iload X0 hx (hb hby d21_22) rfl ?_
      refine own_retI X0 hx hlk hret (hb hby d21_24) (own_kN (by decide) (by decide) ?_)
      try rw [e0]
      exact ⟨by rw [if_neg hc63, if_pos hc64], N0, rfl⟩
    · refine own_icmpYes X0 hx 25 (hb hby d21_19) (feq hc64).2 (by decide) (by decide) ?_
      refine own_iinc (l' := #[.val (.ref b), .val (.int 10), .val (.int 0), .val (.int 2), .val (.int 10), .val (.int ((1 : Int32) + (1 : Int32)))]) X0 hx (hb hby d21_25) rfl rfl ?_
      rw [show ((1 : Int32) + (1 : Int32)) = (2 : Int32) from by decide]
      refine own_goto X0 hx 7 (hb hby d21_28) (by decide) (by decide) ?_
      refine own_iload X0 hx (hb hby d21_7) rfl ?_
      refine own_iloadN X0 hx (hb hby d21_9) rfl ?_
      refine own_icmpYes X0 hx 31 (hb hby d21_10) (flt (by decide : ¬ ((2 : Int32) < (2 : Int32)))).2.1 (by decide) (by decide) ?_
      refine own_iconst X0 hx (-1 : Int32) (hb hby d21_31) rfl ?_
      refine own_retI X0 hx hlk hret (hb hby d21_32) (own_kN (by decide) (by decide) ?_)
      try rw [e0]
      exact ⟨by rw [if_neg hc63, if_neg hc64], N0, rfl⟩
set_option maxRecDepth 65536 in
set_option maxHeartbeats 40000000 in
theorem rmIC_2_1 (l : Launch) (Z : State) (a0 : Array Value) (hw : own_Wd a0 Z) (ws : List Jvm.Cond) (b : Addr) (kb : ClassId) (d0 d1 : Int32)  (h0 : Heap) (n0 : Nat) (Z0 : n0 ≤ h0.size) (Vb : Arv Z h0 b kb .byte (2 : Int32) [(.int d0), (.int d1)] (.int 0)) :
    own_Met l (⟨"java/lang/StringLatin1", "indexOfChar", "([BIII)I"⟩ : MethodName) jdk_43_method_23_code 6 (some .int) ws ({ frames := 0, cells := 0, slots := 0, locals := 0 } : Room) Z #[(.ref b), (.int 10), (.int 1), (.int 2)] h0 (fun v h L => v = some (.int (if d1 = (10 : Int32) then (1 : Int32) else (-1 : Int32))) ∧ Fr n0 L ∧ h = h0) := by
  refine own_body (plainFor_of_name pn_3) ?_
  intro p e s m below meth c s₁ X0 hx hby hml hown hnm hret hlk hZ e0
  replace hown : s.vm.findClass "java/lang/StringLatin1" = some m.cls := hown
  replace hml : c.maxLocals = 6 := hml
  replace hret : meth.sig.returnType = (some .int) := hret
  have N0 := Fr.nil n0
  refine own_ef (L0 := #[.val (.ref b), .val (.int 10), .val (.int 1), .val (.int 2), .unset, .unset]) (by first | (simp [entryFrame, mkF, argsToLocals, Value.category]; done) | rfl) ?_
  refine own_iloadN X0 hx (hb hby d21_0) rfl ?_
  refine own_i2b X0 hx (hb hby d21_1) ?_
  rw [show ((10 : Int32).toInt8.toInt32) = (10 : Int32) from by decide]
  refine own_istore (l' := #[.val (.ref b), .val (.int 10), .val (.int 1), .val (.int 2), .val (.int 10), .unset]) X0 hx (hb hby d21_2) rfl ?_
  refine own_iloadN X0 hx (hb hby d21_4) rfl ?_
  refine own_istore (l' := #[.val (.ref b), .val (.int 10), .val (.int 1), .val (.int 2), .val (.int 10), .val (.int 1)]) X0 hx (hb hby d21_5) rfl ?_
  refine own_iload X0 hx (hb hby d21_7) rfl ?_
  refine own_iloadN X0 hx (hb hby d21_9) rfl ?_
  refine own_icmpNo X0 hx (hb hby d21_10) (tlt (by decide : (1 : Int32) < (2 : Int32))).2.1 ?_
  refine own_aloadN X0 hx (hb hby d21_13) rfl rfl ?_
  refine own_iload X0 hx (hb hby d21_14) rfl ?_
  refine own_baload X0 hx hZ (.int d1) e0 Vb ⟨by decide, by decide⟩ rfl (hb hby d21_16) ?_
  refine own_iload X0 hx (hb hby d21_17) rfl ?_
  by_cases hc65 : d1 = (10 : Int32)
  · refine own_icmpNo X0 hx (hb hby d21_19) (teq hc65).2 ?_
    refine own_iload X0 hx (hb hby d21_22) rfl ?_
    refine own_retI X0 hx hlk hret (hb hby d21_24) (own_kN (by decide) (by decide) ?_)
    try rw [e0]
    exact ⟨by rw [if_pos hc65], N0, rfl⟩
  · refine own_icmpYes X0 hx 25 (hb hby d21_19) (feq hc65).2 (by decide) (by decide) ?_
    refine own_iinc (l' := #[.val (.ref b), .val (.int 10), .val (.int 1), .val (.int 2), .val (.int 10), .val (.int ((1 : Int32) + (1 : Int32)))]) X0 hx (hb hby d21_25) rfl rfl ?_
    rw [show ((1 : Int32) + (1 : Int32)) = (2 : Int32) from by decide]
    refine own_goto X0 hx 7 (hb hby d21_28) (by decide) (by decide) ?_
    refine own_iload X0 hx (hb hby d21_7) rfl ?_
    refine own_iloadN X0 hx (hb hby d21_9) rfl ?_
    refine own_icmpYes X0 hx 31 (hb hby d21_10) (flt (by decide : ¬ ((2 : Int32) < (2 : Int32)))).2.1 (by decide) (by decide) ?_
    refine own_iconst X0 hx (-1 : Int32) (hb hby d21_31) rfl ?_
    refine own_retI X0 hx hlk hret (hb hby d21_32) (own_kN (by decide) (by decide) ?_)
    try rw [e0]
    exact ⟨by rw [if_neg hc65], N0, rfl⟩
set_option maxRecDepth 65536 in
set_option maxHeartbeats 40000000 in
theorem rmIC_3_0 (l : Launch) (Z : State) (a0 : Array Value) (hw : own_Wd a0 Z) (ws : List Jvm.Cond) (b : Addr) (kb : ClassId) (d0 d1 d2 : Int32)  (h0 : Heap) (n0 : Nat) (Z0 : n0 ≤ h0.size) (Vb : Arv Z h0 b kb .byte (3 : Int32) [(.int d0), (.int d1), (.int d2)] (.int 0)) :
    own_Met l (⟨"java/lang/StringLatin1", "indexOfChar", "([BIII)I"⟩ : MethodName) jdk_43_method_23_code 6 (some .int) ws ({ frames := 0, cells := 0, slots := 0, locals := 0 } : Room) Z #[(.ref b), (.int 10), (.int 0), (.int 3)] h0 (fun v h L => v = some (.int (if d0 = (10 : Int32) then (0 : Int32) else (if d1 = (10 : Int32) then (1 : Int32) else (if d2 = (10 : Int32) then (2 : Int32) else (-1 : Int32))))) ∧ Fr n0 L ∧ h = h0) := by
  refine own_body (plainFor_of_name pn_3) ?_
  intro p e s m below meth c s₁ X0 hx hby hml hown hnm hret hlk hZ e0
  replace hown : s.vm.findClass "java/lang/StringLatin1" = some m.cls := hown
  replace hml : c.maxLocals = 6 := hml
  replace hret : meth.sig.returnType = (some .int) := hret
  have N0 := Fr.nil n0
  refine own_ef (L0 := #[.val (.ref b), .val (.int 10), .val (.int 0), .val (.int 3), .unset, .unset]) (by first | (simp [entryFrame, mkF, argsToLocals, Value.category]; done) | rfl) ?_
  refine own_iloadN X0 hx (hb hby d21_0) rfl ?_
  refine own_i2b X0 hx (hb hby d21_1) ?_
  rw [show ((10 : Int32).toInt8.toInt32) = (10 : Int32) from by decide]
  refine own_istore (l' := #[.val (.ref b), .val (.int 10), .val (.int 0), .val (.int 3), .val (.int 10), .unset]) X0 hx (hb hby d21_2) rfl ?_
  refine own_iloadN X0 hx (hb hby d21_4) rfl ?_
  refine own_istore (l' := #[.val (.ref b), .val (.int 10), .val (.int 0), .val (.int 3), .val (.int 10), .val (.int 0)]) X0 hx (hb hby d21_5) rfl ?_
  refine own_iload X0 hx (hb hby d21_7) rfl ?_
  refine own_iloadN X0 hx (hb hby d21_9) rfl ?_
  refine own_icmpNo X0 hx (hb hby d21_10) (tlt (by decide : (0 : Int32) < (3 : Int32))).2.1 ?_
  refine own_aloadN X0 hx (hb hby d21_13) rfl rfl ?_
  refine own_iload X0 hx (hb hby d21_14) rfl ?_
  refine own_baload X0 hx hZ (.int d0) e0 Vb ⟨by decide, by decide⟩ rfl (hb hby d21_16) ?_
  refine own_iload X0 hx (hb hby d21_17) rfl ?_
  by_cases hc66 : d0 = (10 : Int32)
  · refine own_icmpNo X0 hx (hb hby d21_19) (teq hc66).2 ?_
    refine own_iload X0 hx (hb hby d21_22) rfl ?_
    refine own_retI X0 hx hlk hret (hb hby d21_24) (own_kN (by decide) (by decide) ?_)
    try rw [e0]
    exact ⟨by rw [if_pos hc66], N0, rfl⟩
  · refine own_icmpYes X0 hx 25 (hb hby d21_19) (feq hc66).2 (by decide) (by decide) ?_
    refine own_iinc (l' := #[.val (.ref b), .val (.int 10), .val (.int 0), .val (.int 3), .val (.int 10), .val (.int ((0 : Int32) + (1 : Int32)))]) X0 hx (hb hby d21_25) rfl rfl ?_
    rw [show ((0 : Int32) + (1 : Int32)) = (1 : Int32) from by decide]
    refine own_goto X0 hx 7 (hb hby d21_28) (by decide) (by decide) ?_
    refine own_iload X0 hx (hb hby d21_7) rfl ?_
    refine own_iloadN X0 hx (hb hby d21_9) rfl ?_
    refine own_icmpNo X0 hx (hb hby d21_10) (tlt (by decide : (1 : Int32) < (3 : Int32))).2.1 ?_
    refine own_aloadN X0 hx (hb hby d21_13) rfl rfl ?_
    refine own_iload X0 hx (hb hby d21_14) rfl ?_
    refine own_baload X0 hx hZ (.int d1) e0 Vb ⟨by decide, by decide⟩ rfl (hb hby d21_16) ?_
    refine own_iload X0 hx (hb hby d21_17) rfl ?_
    by_cases hc67 : d1 = (10 : Int32)
    · refine own_icmpNo X0 hx (hb hby d21_19) (teq hc67).2 ?_
      refine own_iload X0 hx (hb hby d21_22) rfl ?_
      refine own_retI X0 hx hlk hret (hb hby d21_24) (own_kN (by decide) (by decide) ?_)
      try rw [e0]
      exact ⟨by rw [if_neg hc66, if_pos hc67], N0, rfl⟩
    · refine own_icmpYes X0 hx 25 (hb hby d21_19) (feq hc67).2 (by decide) (by decide) ?_
      refine own_iinc (l' := #[.val (.ref b), .val (.int 10), .val (.int 0), .val (.int 3), .val (.int 10), .val (.int ((1 : Int32) + (1 : Int32)))]) X0 hx (hb hby d21_25) rfl rfl ?_
      rw [show ((1 : Int32) + (1 : Int32)) = (2 : Int32) from by decide]
      refine own_goto X0 hx 7 (hb hby d21_28) (by decide) (by decide) ?_
      refine own_iload X0 hx (hb hby d21_7) rfl ?_
      refine own_iloadN X0 hx (hb hby d21_9) rfl ?_
      refine own_icmpNo X0 hx (hb hby d21_10) (tlt (by decide : (2 : Int32) < (3 : Int32))).2.1 ?_
      refine own_aloadN X0 hx (hb hby d21_13) rfl rfl ?_
      refine own_iload X0 hx (hb hby d21_14) rfl ?_
      refine own_baload X0 hx hZ (.int d2) e0 Vb ⟨by decide, by decide⟩ rfl (hb hby d21_16) ?_
      refine own_iload X0 hx (hb hby d21_17) rfl ?_
      by_cases hc68 : d2 = (10 : Int32)
      · refine own_icmpNo X0 hx (hb hby d21_19) (teq hc68).2 ?_
        refine own_iload X0 hx (hb hby d21_22) rfl ?_
        refine own_retI X0 hx hlk hret (hb hby d21_24) (own_kN (by decide) (by decide) ?_)
        try rw [e0]
        exact ⟨by rw [if_neg hc66, if_neg hc67, if_pos hc68], N0, rfl⟩
      · refine own_icmpYes X0 hx 25 (hb hby d21_19) (feq hc68).2 (by decide) (by decide) ?_
        refine own_iinc (l' := #[.val (.ref b), .val (.int 10), .val (.int 0), .val (.int 3), .val (.int 10), .val (.int ((2 : Int32) + (1 : Int32)))]) X0 hx (hb hby d21_25) rfl rfl ?_
        rw [show ((2 : Int32) + (1 : Int32)) = (3 : Int32) from by decide]
        refine own_goto X0 hx 7 (hb hby d21_28) (by decide) (by decide) ?_
        refine own_iload X0 hx (hb hby d21_7) rfl ?_
        refine own_iloadN X0 hx (hb hby d21_9) rfl ?_
        refine own_icmpYes X0 hx 31 (hb hby d21_10) (flt (by decide : ¬ ((3 : Int32) < (3 : Int32)))).2.1 (by decide) (by decide) ?_
        refine own_iconst X0 hx (-1 : Int32) (hb hby d21_31) rfl ?_
        refine own_retI X0 hx hlk hret (hb hby d21_32) (own_kN (by decide) (by decide) ?_)
        try rw [e0]
        exact ⟨by rw [if_neg hc66, if_neg hc67, if_neg hc68], N0, rfl⟩
set_option maxRecDepth 65536 in
set_option maxHeartbeats 40000000 in
theorem rmIC_3_1 (l : Launch) (Z : State) (a0 : Array Value) (hw : own_Wd a0 Z) (ws : List Jvm.Cond) (b : Addr) (kb : ClassId) (d0 d1 d2 : Int32)  (h0 : Heap) (n0 : Nat) (Z0 : n0 ≤ h0.size) (Vb : Arv Z h0 b kb .byte (3 : Int32) [(.int d0), (.int d1), (.int d2)] (.int 0)) :
    own_Met l (⟨"java/lang/StringLatin1", "indexOfChar", "([BIII)I"⟩ : MethodName) jdk_43_method_23_code 6 (some .int) ws ({ frames := 0, cells := 0, slots := 0, locals := 0 } : Room) Z #[(.ref b), (.int 10), (.int 1), (.int 3)] h0 (fun v h L => v = some (.int (if d1 = (10 : Int32) then (1 : Int32) else (if d2 = (10 : Int32) then (2 : Int32) else (-1 : Int32)))) ∧ Fr n0 L ∧ h = h0) := by
  refine own_body (plainFor_of_name pn_3) ?_
  intro p e s m below meth c s₁ X0 hx hby hml hown hnm hret hlk hZ e0
  replace hown : s.vm.findClass "java/lang/StringLatin1" = some m.cls := hown
  replace hml : c.maxLocals = 6 := hml
  replace hret : meth.sig.returnType = (some .int) := hret
  have N0 := Fr.nil n0
  refine own_ef (L0 := #[.val (.ref b), .val (.int 10), .val (.int 1), .val (.int 3), .unset, .unset]) (by first | (simp [entryFrame, mkF, argsToLocals, Value.category]; done) | rfl) ?_
  refine own_iloadN X0 hx (hb hby d21_0) rfl ?_
  refine own_i2b X0 hx (hb hby d21_1) ?_
  rw [show ((10 : Int32).toInt8.toInt32) = (10 : Int32) from by decide]
  refine own_istore (l' := #[.val (.ref b), .val (.int 10), .val (.int 1), .val (.int 3), .val (.int 10), .unset]) X0 hx (hb hby d21_2) rfl ?_
  refine own_iloadN X0 hx (hb hby d21_4) rfl ?_
  refine own_istore (l' := #[.val (.ref b), .val (.int 10), .val (.int 1), .val (.int 3), .val (.int 10), .val (.int 1)]) X0 hx (hb hby d21_5) rfl ?_
  refine own_iload X0 hx (hb hby d21_7) rfl ?_
  refine own_iloadN X0 hx (hb hby d21_9) rfl ?_
  refine own_icmpNo X0 hx (hb hby d21_10) (tlt (by decide : (1 : Int32) < (3 : Int32))).2.1 ?_
  refine own_aloadN X0 hx (hb hby d21_13) rfl rfl ?_
  refine own_iload X0 hx (hb hby d21_14) rfl ?_
  refine own_baload X0 hx hZ (.int d1) e0 Vb ⟨by decide, by decide⟩ rfl (hb hby d21_16) ?_
  refine own_iload X0 hx (hb hby d21_17) rfl ?_
  by_cases hc69 : d1 = (10 : Int32)
  · refine own_icmpNo X0 hx (hb hby d21_19) (teq hc69).2 ?_
    refine own_iload X0 hx (hb hby d21_22) rfl ?_
    refine own_retI X0 hx hlk hret (hb hby d21_24) (own_kN (by decide) (by decide) ?_)
    try rw [e0]
    exact ⟨by rw [if_pos hc69], N0, rfl⟩
  · refine own_icmpYes X0 hx 25 (hb hby d21_19) (feq hc69).2 (by decide) (by decide) ?_
    refine own_iinc (l' := #[.val (.ref b), .val (.int 10), .val (.int 1), .val (.int 3), .val (.int 10), .val (.int ((1 : Int32) + (1 : Int32)))]) X0 hx (hb hby d21_25) rfl rfl ?_
    rw [show ((1 : Int32) + (1 : Int32)) = (2 : Int32) from by decide]
    refine own_goto X0 hx 7 (hb hby d21_28) (by decide) (by decide) ?_
    refine own_iload X0 hx (hb hby d21_7) rfl ?_
    refine own_iloadN X0 hx (hb hby d21_9) rfl ?_
    refine own_icmpNo X0 hx (hb hby d21_10) (tlt (by decide : (2 : Int32) < (3 : Int32))).2.1 ?_
    refine own_aloadN X0 hx (hb hby d21_13) rfl rfl ?_
    refine own_iload X0 hx (hb hby d21_14) rfl ?_
    refine own_baload X0 hx hZ (.int d2) e0 Vb ⟨by decide, by decide⟩ rfl (hb hby d21_16) ?_
    refine own_iload X0 hx (hb hby d21_17) rfl ?_
    by_cases hc70 : d2 = (10 : Int32)
    · refine own_icmpNo X0 hx (hb hby d21_19) (teq hc70).2 ?_
      refine own_iload X0 hx (hb hby d21_22) rfl ?_
      refine own_retI X0 hx hlk hret (hb hby d21_24) (own_kN (by decide) (by decide) ?_)
      try rw [e0]
      exact ⟨by rw [if_neg hc69, if_pos hc70], N0, rfl⟩
    · refine own_icmpYes X0 hx 25 (hb hby d21_19) (feq hc70).2 (by decide) (by decide) ?_
      refine own_iinc (l' := #[.val (.ref b), .val (.int 10), .val (.int 1), .val (.int 3), .val (.int 10), .val (.int ((2 : Int32) + (1 : Int32)))]) X0 hx (hb hby d21_25) rfl rfl ?_
      rw [show ((2 : Int32) + (1 : Int32)) = (3 : Int32) from by decide]
      refine own_goto X0 hx 7 (hb hby d21_28) (by decide) (by decide) ?_
      refine own_iload X0 hx (hb hby d21_7) rfl ?_
      refine own_iloadN X0 hx (hb hby d21_9) rfl ?_
      refine own_icmpYes X0 hx 31 (hb hby d21_10) (flt (by decide : ¬ ((3 : Int32) < (3 : Int32)))).2.1 (by decide) (by decide) ?_
      refine own_iconst X0 hx (-1 : Int32) (hb hby d21_31) rfl ?_
      refine own_retI X0 hx hlk hret (hb hby d21_32) (own_kN (by decide) (by decide) ?_)
      try rw [e0]
      exact ⟨by rw [if_neg hc69, if_neg hc70], N0, rfl⟩
set_option maxRecDepth 65536 in
set_option maxHeartbeats 40000000 in
theorem rmIC_3_2 (l : Launch) (Z : State) (a0 : Array Value) (hw : own_Wd a0 Z) (ws : List Jvm.Cond) (b : Addr) (kb : ClassId) (d0 d1 d2 : Int32)  (h0 : Heap) (n0 : Nat) (Z0 : n0 ≤ h0.size) (Vb : Arv Z h0 b kb .byte (3 : Int32) [(.int d0), (.int d1), (.int d2)] (.int 0)) :
    own_Met l (⟨"java/lang/StringLatin1", "indexOfChar", "([BIII)I"⟩ : MethodName) jdk_43_method_23_code 6 (some .int) ws ({ frames := 0, cells := 0, slots := 0, locals := 0 } : Room) Z #[(.ref b), (.int 10), (.int 2), (.int 3)] h0 (fun v h L => v = some (.int (if d2 = (10 : Int32) then (2 : Int32) else (-1 : Int32))) ∧ Fr n0 L ∧ h = h0) := by
  refine own_body (plainFor_of_name pn_3) ?_
  intro p e s m below meth c s₁ X0 hx hby hml hown hnm hret hlk hZ e0
  replace hown : s.vm.findClass "java/lang/StringLatin1" = some m.cls := hown
  replace hml : c.maxLocals = 6 := hml
  replace hret : meth.sig.returnType = (some .int) := hret
  have N0 := Fr.nil n0
  refine own_ef (L0 := #[.val (.ref b), .val (.int 10), .val (.int 2), .val (.int 3), .unset, .unset]) (by first | (simp [entryFrame, mkF, argsToLocals, Value.category]; done) | rfl) ?_
  refine own_iloadN X0 hx (hb hby d21_0) rfl ?_
  refine own_i2b X0 hx (hb hby d21_1) ?_
  rw [show ((10 : Int32).toInt8.toInt32) = (10 : Int32) from by decide]
  refine own_istore (l' := #[.val (.ref b), .val (.int 10), .val (.int 2), .val (.int 3), .val (.int 10), .unset]) X0 hx (hb hby d21_2) rfl ?_
  refine own_iloadN X0 hx (hb hby d21_4) rfl ?_
  refine own_istore (l' := #[.val (.ref b), .val (.int 10), .val (.int 2), .val (.int 3), .val (.int 10), .val (.int 2)]) X0 hx (hb hby d21_5) rfl ?_
  refine own_iload X0 hx (hb hby d21_7) rfl ?_
  refine own_iloadN X0 hx (hb hby d21_9) rfl ?_
  refine own_icmpNo X0 hx (hb hby d21_10) (tlt (by decide : (2 : Int32) < (3 : Int32))).2.1 ?_
  refine own_aloadN X0 hx (hb hby d21_13) rfl rfl ?_
  refine own_iload X0 hx (hb hby d21_14) rfl ?_
  refine own_baload X0 hx hZ (.int d2) e0 Vb ⟨by decide, by decide⟩ rfl (hb hby d21_16) ?_
  refine own_iload X0 hx (hb hby d21_17) rfl ?_
  by_cases hc71 : d2 = (10 : Int32)
  · refine own_icmpNo X0 hx (hb hby d21_19) (teq hc71).2 ?_
    refine own_iload X0 hx (hb hby d21_22) rfl ?_
    refine own_retI X0 hx hlk hret (hb hby d21_24) (own_kN (by decide) (by decide) ?_)
    try rw [e0]
    exact ⟨by rw [if_pos hc71], N0, rfl⟩
  · refine own_icmpYes X0 hx 25 (hb hby d21_19) (feq hc71).2 (by decide) (by decide) ?_
    refine own_iinc (l' := #[.val (.ref b), .val (.int 10), .val (.int 2), .val (.int 3), .val (.int 10), .val (.int ((2 : Int32) + (1 : Int32)))]) X0 hx (hb hby d21_25) rfl rfl ?_
    rw [show ((2 : Int32) + (1 : Int32)) = (3 : Int32) from by decide]
    refine own_goto X0 hx 7 (hb hby d21_28) (by decide) (by decide) ?_
    refine own_iload X0 hx (hb hby d21_7) rfl ?_
    refine own_iloadN X0 hx (hb hby d21_9) rfl ?_
    refine own_icmpYes X0 hx 31 (hb hby d21_10) (flt (by decide : ¬ ((3 : Int32) < (3 : Int32)))).2.1 (by decide) (by decide) ?_
    refine own_iconst X0 hx (-1 : Int32) (hb hby d21_31) rfl ?_
    refine own_retI X0 hx hlk hret (hb hby d21_32) (own_kN (by decide) (by decide) ?_)
    try rw [e0]
    exact ⟨by rw [if_neg hc71], N0, rfl⟩
set_option maxRecDepth 65536 in
set_option maxHeartbeats 40000000 in
theorem rmIC_4_0 (l : Launch) (Z : State) (a0 : Array Value) (hw : own_Wd a0 Z) (ws : List Jvm.Cond) (b : Addr) (kb : ClassId) (d0 d1 d2 d3 : Int32)  (h0 : Heap) (n0 : Nat) (Z0 : n0 ≤ h0.size) (Vb : Arv Z h0 b kb .byte (4 : Int32) [(.int d0), (.int d1), (.int d2), (.int d3)] (.int 0)) :
    own_Met l (⟨"java/lang/StringLatin1", "indexOfChar", "([BIII)I"⟩ : MethodName) jdk_43_method_23_code 6 (some .int) ws ({ frames := 0, cells := 0, slots := 0, locals := 0 } : Room) Z #[(.ref b), (.int 10), (.int 0), (.int 4)] h0 (fun v h L => v = some (.int (if d0 = (10 : Int32) then (0 : Int32) else (if d1 = (10 : Int32) then (1 : Int32) else (if d2 = (10 : Int32) then (2 : Int32) else (if d3 = (10 : Int32) then (3 : Int32) else (-1 : Int32)))))) ∧ Fr n0 L ∧ h = h0) := by
  refine own_body (plainFor_of_name pn_3) ?_
  intro p e s m below meth c s₁ X0 hx hby hml hown hnm hret hlk hZ e0
  replace hown : s.vm.findClass "java/lang/StringLatin1" = some m.cls := hown
  replace hml : c.maxLocals = 6 := hml
  replace hret : meth.sig.returnType = (some .int) := hret
  have N0 := Fr.nil n0
  refine own_ef (L0 := #[.val (.ref b), .val (.int 10), .val (.int 0), .val (.int 4), .unset, .unset]) (by first | (simp [entryFrame, mkF, argsToLocals, Value.category]; done) | rfl) ?_
  refine own_iloadN X0 hx (hb hby d21_0) rfl ?_
  refine own_i2b X0 hx (hb hby d21_1) ?_
  rw [show ((10 : Int32).toInt8.toInt32) = (10 : Int32) from by decide]
  refine own_istore (l' := #[.val (.ref b), .val (.int 10), .val (.int 0), .val (.int 4), .val (.int 10), .unset]) X0 hx (hb hby d21_2) rfl ?_
  refine own_iloadN X0 hx (hb hby d21_4) rfl ?_
  refine own_istore (l' := #[.val (.ref b), .val (.int 10), .val (.int 0), .val (.int 4), .val (.int 10), .val (.int 0)]) X0 hx (hb hby d21_5) rfl ?_
  refine own_iload X0 hx (hb hby d21_7) rfl ?_
  refine own_iloadN X0 hx (hb hby d21_9) rfl ?_
  refine own_icmpNo X0 hx (hb hby d21_10) (tlt (by decide : (0 : Int32) < (4 : Int32))).2.1 ?_
  refine own_aloadN X0 hx (hb hby d21_13) rfl rfl ?_
  refine own_iload X0 hx (hb hby d21_14) rfl ?_
  refine own_baload X0 hx hZ (.int d0) e0 Vb ⟨by decide, by decide⟩ rfl (hb hby d21_16) ?_
  refine own_iload X0 hx (hb hby d21_17) rfl ?_
  by_cases hc72 : d0 = (10 : Int32)
  · refine own_icmpNo X0 hx (hb hby d21_19) (teq hc72).2 ?_
    refine own_iload X0 hx (hb hby d21_22) rfl ?_
    refine own_retI X0 hx hlk hret (hb hby d21_24) (own_kN (by decide) (by decide) ?_)
    try rw [e0]
    exact ⟨by rw [if_pos hc72], N0, rfl⟩
  · refine own_icmpYes X0 hx 25 (hb hby d21_19) (feq hc72).2 (by decide) (by decide) ?_
    refine own_iinc (l' := #[.val (.ref b), .val (.int 10), .val (.int 0), .val (.int 4), .val (.int 10), .val (.int ((0 : Int32) + (1 : Int32)))]) X0 hx (hb hby d21_25) rfl rfl ?_
    rw [show ((0 : Int32) + (1 : Int32)) = (1 : Int32) from by decide]
    refine own_goto X0 hx 7 (hb hby d21_28) (by decide) (by decide) ?_
    refine own_iload X0 hx (hb hby d21_7) rfl ?_
    refine own_iloadN X0 hx (hb hby d21_9) rfl ?_
    refine own_icmpNo X0 hx (hb hby d21_10) (tlt (by decide : (1 : Int32) < (4 : Int32))).2.1 ?_
    refine own_aloadN X0 hx (hb hby d21_13) rfl rfl ?_
    refine own_iload X0 hx (hb hby d21_14) rfl ?_
    refine own_baload X0 hx hZ (.int d1) e0 Vb ⟨by decide, by decide⟩ rfl (hb hby d21_16) ?_
    refine own_iload X0 hx (hb hby d21_17) rfl ?_
    by_cases hc73 : d1 = (10 : Int32)
    · refine own_icmpNo X0 hx (hb hby d21_19) (teq hc73).2 ?_
      refine own_iload X0 hx (hb hby d21_22) rfl ?_
      refine own_retI X0 hx hlk hret (hb hby d21_24) (own_kN (by decide) (by decide) ?_)
      try rw [e0]
      exact ⟨by rw [if_neg hc72, if_pos hc73], N0, rfl⟩
    · refine own_icmpYes X0 hx 25 (hb hby d21_19) (feq hc73).2 (by decide) (by decide) ?_
      refine own_iinc (l' := #[.val (.ref b), .val (.int 10), .val (.int 0), .val (.int 4), .val (.int 10), .val (.int ((1 : Int32) + (1 : Int32)))]) X0 hx (hb hby d21_25) rfl rfl ?_
      rw [show ((1 : Int32) + (1 : Int32)) = (2 : Int32) from by decide]
      refine own_goto X0 hx 7 (hb hby d21_28) (by decide) (by decide) ?_
      refine own_iload X0 hx (hb hby d21_7) rfl ?_
      refine own_iloadN X0 hx (hb hby d21_9) rfl ?_
      refine own_icmpNo X0 hx (hb hby d21_10) (tlt (by decide : (2 : Int32) < (4 : Int32))).2.1 ?_
      refine own_aloadN X0 hx (hb hby d21_13) rfl rfl ?_
      refine own_iload X0 hx (hb hby d21_14) rfl ?_
      refine own_baload X0 hx hZ (.int d2) e0 Vb ⟨by decide, by decide⟩ rfl (hb hby d21_16) ?_
      refine own_iload X0 hx (hb hby d21_17) rfl ?_
      by_cases hc74 : d2 = (10 : Int32)
      · refine own_icmpNo X0 hx (hb hby d21_19) (teq hc74).2 ?_
        refine own_iload X0 hx (hb hby d21_22) rfl ?_
        refine own_retI X0 hx hlk hret (hb hby d21_24) (own_kN (by decide) (by decide) ?_)
        try rw [e0]
        exact ⟨by rw [if_neg hc72, if_neg hc73, if_pos hc74], N0, rfl⟩
      · refine own_icmpYes X0 hx 25 (hb hby d21_19) (feq hc74).2 (by decide) (by decide) ?_
        refine own_iinc (l' := #[.val (.ref b), .val (.int 10), .val (.int 0), .val (.int 4), .val (.int 10), .val (.int ((2 : Int32) + (1 : Int32)))]) X0 hx (hb hby d21_25) rfl rfl ?_
        rw [show ((2 : Int32) + (1 : Int32)) = (3 : Int32) from by decide]
        refine own_goto X0 hx 7 (hb hby d21_28) (by decide) (by decide) ?_
        refine own_iload X0 hx (hb hby d21_7) rfl ?_
        refine own_iloadN X0 hx (hb hby d21_9) rfl ?_
        refine own_icmpNo X0 hx (hb hby d21_10) (tlt (by decide : (3 : Int32) < (4 : Int32))).2.1 ?_
        refine own_aloadN X0 hx (hb hby d21_13) rfl rfl ?_
        refine own_iload X0 hx (hb hby d21_14) rfl ?_
        refine own_baload X0 hx hZ (.int d3) e0 Vb ⟨by decide, by decide⟩ rfl (hb hby d21_16) ?_
        refine own_iload X0 hx (hb hby d21_17) rfl ?_
        by_cases hc75 : d3 = (10 : Int32)
        · refine own_icmpNo X0 hx (hb hby d21_19) (teq hc75).2 ?_
          refine own_iload X0 hx (hb hby d21_22) rfl ?_
          refine own_retI X0 hx hlk hret (hb hby d21_24) (own_kN (by decide) (by decide) ?_)
          try rw [e0]
          exact ⟨by rw [if_neg hc72, if_neg hc73, if_neg hc74, if_pos hc75], N0, rfl⟩
        · refine own_icmpYes X0 hx 25 (hb hby d21_19) (feq hc75).2 (by decide) (by decide) ?_
          refine own_iinc (l' := #[.val (.ref b), .val (.int 10), .val (.int 0), .val (.int 4), .val (.int 10), .val (.int ((3 : Int32) + (1 : Int32)))]) X0 hx (hb hby d21_25) rfl rfl ?_
          rw [show ((3 : Int32) + (1 : Int32)) = (4 : Int32) from by decide]
          refine own_goto X0 hx 7 (hb hby d21_28) (by decide) (by decide) ?_
          refine own_iload X0 hx (hb hby d21_7) rfl ?_
          refine own_iloadN X0 hx (hb hby d21_9) rfl ?_
          refine own_icmpYes X0 hx 31 (hb hby d21_10) (flt (by decide : ¬ ((4 : Int32) < (4 : Int32)))).2.1 (by decide) (by decide) ?_
          refine own_iconst X0 hx (-1 : Int32) (hb hby d21_31) rfl ?_
          refine own_retI X0 hx hlk hret (hb hby d21_32) (own_kN (by decide) (by decide) ?_)
          try rw [e0]
          exact ⟨by rw [if_neg hc72, if_neg hc73, if_neg hc74, if_neg hc75], N0, rfl⟩
set_option maxRecDepth 65536 in
set_option maxHeartbeats 40000000 in
theorem rmIC_4_1 (l : Launch) (Z : State) (a0 : Array Value) (hw : own_Wd a0 Z) (ws : List Jvm.Cond) (b : Addr) (kb : ClassId) (d0 d1 d2 d3 : Int32)  (h0 : Heap) (n0 : Nat) (Z0 : n0 ≤ h0.size) (Vb : Arv Z h0 b kb .byte (4 : Int32) [(.int d0), (.int d1), (.int d2), (.int d3)] (.int 0)) :
    own_Met l (⟨"java/lang/StringLatin1", "indexOfChar", "([BIII)I"⟩ : MethodName) jdk_43_method_23_code 6 (some .int) ws ({ frames := 0, cells := 0, slots := 0, locals := 0 } : Room) Z #[(.ref b), (.int 10), (.int 1), (.int 4)] h0 (fun v h L => v = some (.int (if d1 = (10 : Int32) then (1 : Int32) else (if d2 = (10 : Int32) then (2 : Int32) else (if d3 = (10 : Int32) then (3 : Int32) else (-1 : Int32))))) ∧ Fr n0 L ∧ h = h0) := by
  refine own_body (plainFor_of_name pn_3) ?_
  intro p e s m below meth c s₁ X0 hx hby hml hown hnm hret hlk hZ e0
  replace hown : s.vm.findClass "java/lang/StringLatin1" = some m.cls := hown
  replace hml : c.maxLocals = 6 := hml
  replace hret : meth.sig.returnType = (some .int) := hret
  have N0 := Fr.nil n0
  refine own_ef (L0 := #[.val (.ref b), .val (.int 10), .val (.int 1), .val (.int 4), .unset, .unset]) (by first | (simp [entryFrame, mkF, argsToLocals, Value.category]; done) | rfl) ?_
  refine own_iloadN X0 hx (hb hby d21_0) rfl ?_
  refine own_i2b X0 hx (hb hby d21_1) ?_
  rw [show ((10 : Int32).toInt8.toInt32) = (10 : Int32) from by decide]
  refine own_istore (l' := #[.val (.ref b), .val (.int 10), .val (.int 1), .val (.int 4), .val (.int 10), .unset]) X0 hx (hb hby d21_2) rfl ?_
  refine own_iloadN X0 hx (hb hby d21_4) rfl ?_
  refine own_istore (l' := #[.val (.ref b), .val (.int 10), .val (.int 1), .val (.int 4), .val (.int 10), .val (.int 1)]) X0 hx (hb hby d21_5) rfl ?_
  refine own_iload X0 hx (hb hby d21_7) rfl ?_
  refine own_iloadN X0 hx (hb hby d21_9) rfl ?_
  refine own_icmpNo X0 hx (hb hby d21_10) (tlt (by decide : (1 : Int32) < (4 : Int32))).2.1 ?_
  refine own_aloadN X0 hx (hb hby d21_13) rfl rfl ?_
  refine own_iload X0 hx (hb hby d21_14) rfl ?_
  refine own_baload X0 hx hZ (.int d1) e0 Vb ⟨by decide, by decide⟩ rfl (hb hby d21_16) ?_
  refine own_iload X0 hx (hb hby d21_17) rfl ?_
  by_cases hc76 : d1 = (10 : Int32)
  · refine own_icmpNo X0 hx (hb hby d21_19) (teq hc76).2 ?_
    refine own_iload X0 hx (hb hby d21_22) rfl ?_
    refine own_retI X0 hx hlk hret (hb hby d21_24) (own_kN (by decide) (by decide) ?_)
    try rw [e0]
    exact ⟨by rw [if_pos hc76], N0, rfl⟩
  · refine own_icmpYes X0 hx 25 (hb hby d21_19) (feq hc76).2 (by decide) (by decide) ?_
    refine own_iinc (l' := #[.val (.ref b), .val (.int 10), .val (.int 1), .val (.int 4), .val (.int 10), .val (.int ((1 : Int32) + (1 : Int32)))]) X0 hx (hb hby d21_25) rfl rfl ?_
    rw [show ((1 : Int32) + (1 : Int32)) = (2 : Int32) from by decide]
    refine own_goto X0 hx 7 (hb hby d21_28) (by decide) (by decide) ?_
    refine own_iload X0 hx (hb hby d21_7) rfl ?_
    refine own_iloadN X0 hx (hb hby d21_9) rfl ?_
    refine own_icmpNo X0 hx (hb hby d21_10) (tlt (by decide : (2 : Int32) < (4 : Int32))).2.1 ?_
    refine own_aloadN X0 hx (hb hby d21_13) rfl rfl ?_
    refine own_iload X0 hx (hb hby d21_14) rfl ?_
    refine own_baload X0 hx hZ (.int d2) e0 Vb ⟨by decide, by decide⟩ rfl (hb hby d21_16) ?_
    refine own_iload X0 hx (hb hby d21_17) rfl ?_
    by_cases hc77 : d2 = (10 : Int32)
    · refine own_icmpNo X0 hx (hb hby d21_19) (teq hc77).2 ?_
      refine own_iload X0 hx (hb hby d21_22) rfl ?_
      refine own_retI X0 hx hlk hret (hb hby d21_24) (own_kN (by decide) (by decide) ?_)
      try rw [e0]
      exact ⟨by rw [if_neg hc76, if_pos hc77], N0, rfl⟩
    · refine own_icmpYes X0 hx 25 (hb hby d21_19) (feq hc77).2 (by decide) (by decide) ?_
      refine own_iinc (l' := #[.val (.ref b), .val (.int 10), .val (.int 1), .val (.int 4), .val (.int 10), .val (.int ((2 : Int32) + (1 : Int32)))]) X0 hx (hb hby d21_25) rfl rfl ?_
      rw [show ((2 : Int32) + (1 : Int32)) = (3 : Int32) from by decide]
      refine own_goto X0 hx 7 (hb hby d21_28) (by decide) (by decide) ?_
      refine own_iload X0 hx (hb hby d21_7) rfl ?_
      refine own_iloadN X0 hx (hb hby d21_9) rfl ?_
      refine own_icmpNo X0 hx (hb hby d21_10) (tlt (by decide : (3 : Int32) < (4 : Int32))).2.1 ?_
      refine own_aloadN X0 hx (hb hby d21_13) rfl rfl ?_
      refine own_iload X0 hx (hb hby d21_14) rfl ?_
      refine own_baload X0 hx hZ (.int d3) e0 Vb ⟨by decide, by decide⟩ rfl (hb hby d21_16) ?_
      refine own_iload X0 hx (hb hby d21_17) rfl ?_
      by_cases hc78 : d3 = (10 : Int32)
      · refine own_icmpNo X0 hx (hb hby d21_19) (teq hc78).2 ?_
        refine own_iload X0 hx (hb hby d21_22) rfl ?_
        refine own_retI X0 hx hlk hret (hb hby d21_24) (own_kN (by decide) (by decide) ?_)
        try rw [e0]
        exact ⟨by rw [if_neg hc76, if_neg hc77, if_pos hc78], N0, rfl⟩
      · refine own_icmpYes X0 hx 25 (hb hby d21_19) (feq hc78).2 (by decide) (by decide) ?_
        refine own_iinc (l' := #[.val (.ref b), .val (.int 10), .val (.int 1), .val (.int 4), .val (.int 10), .val (.int ((3 : Int32) + (1 : Int32)))]) X0 hx (hb hby d21_25) rfl rfl ?_
        rw [show ((3 : Int32) + (1 : Int32)) = (4 : Int32) from by decide]
        refine own_goto X0 hx 7 (hb hby d21_28) (by decide) (by decide) ?_
        refine own_iload X0 hx (hb hby d21_7) rfl ?_
        refine own_iloadN X0 hx (hb hby d21_9) rfl ?_
        refine own_icmpYes X0 hx 31 (hb hby d21_10) (flt (by decide : ¬ ((4 : Int32) < (4 : Int32)))).2.1 (by decide) (by decide) ?_
        refine own_iconst X0 hx (-1 : Int32) (hb hby d21_31) rfl ?_
        refine own_retI X0 hx hlk hret (hb hby d21_32) (own_kN (by decide) (by decide) ?_)
        try rw [e0]
        exact ⟨by rw [if_neg hc76, if_neg hc77, if_neg hc78], N0, rfl⟩
set_option maxRecDepth 65536 in
set_option maxHeartbeats 40000000 in
theorem rmIC_4_2 (l : Launch) (Z : State) (a0 : Array Value) (hw : own_Wd a0 Z) (ws : List Jvm.Cond) (b : Addr) (kb : ClassId) (d0 d1 d2 d3 : Int32)  (h0 : Heap) (n0 : Nat) (Z0 : n0 ≤ h0.size) (Vb : Arv Z h0 b kb .byte (4 : Int32) [(.int d0), (.int d1), (.int d2), (.int d3)] (.int 0)) :
    own_Met l (⟨"java/lang/StringLatin1", "indexOfChar", "([BIII)I"⟩ : MethodName) jdk_43_method_23_code 6 (some .int) ws ({ frames := 0, cells := 0, slots := 0, locals := 0 } : Room) Z #[(.ref b), (.int 10), (.int 2), (.int 4)] h0 (fun v h L => v = some (.int (if d2 = (10 : Int32) then (2 : Int32) else (if d3 = (10 : Int32) then (3 : Int32) else (-1 : Int32)))) ∧ Fr n0 L ∧ h = h0) := by
  refine own_body (plainFor_of_name pn_3) ?_
  intro p e s m below meth c s₁ X0 hx hby hml hown hnm hret hlk hZ e0
  replace hown : s.vm.findClass "java/lang/StringLatin1" = some m.cls := hown
  replace hml : c.maxLocals = 6 := hml
  replace hret : meth.sig.returnType = (some .int) := hret
  have N0 := Fr.nil n0
  refine own_ef (L0 := #[.val (.ref b), .val (.int 10), .val (.int 2), .val (.int 4), .unset, .unset]) (by first | (simp [entryFrame, mkF, argsToLocals, Value.category]; done) | rfl) ?_
  refine own_iloadN X0 hx (hb hby d21_0) rfl ?_
  refine own_i2b X0 hx (hb hby d21_1) ?_
  rw [show ((10 : Int32).toInt8.toInt32) = (10 : Int32) from by decide]
  refine own_istore (l' := #[.val (.ref b), .val (.int 10), .val (.int 2), .val (.int 4), .val (.int 10), .unset]) X0 hx (hb hby d21_2) rfl ?_
  refine own_iloadN X0 hx (hb hby d21_4) rfl ?_
  refine own_istore (l' := #[.val (.ref b), .val (.int 10), .val (.int 2), .val (.int 4), .val (.int 10), .val (.int 2)]) X0 hx (hb hby d21_5) rfl ?_
  refine own_iload X0 hx (hb hby d21_7) rfl ?_
  refine own_iloadN X0 hx (hb hby d21_9) rfl ?_
  refine own_icmpNo X0 hx (hb hby d21_10) (tlt (by decide : (2 : Int32) < (4 : Int32))).2.1 ?_
  refine own_aloadN X0 hx (hb hby d21_13) rfl rfl ?_
  refine own_iload X0 hx (hb hby d21_14) rfl ?_
  refine own_baload X0 hx hZ (.int d2) e0 Vb ⟨by decide, by decide⟩ rfl (hb hby d21_16) ?_
  refine own_iload X0 hx (hb hby d21_17) rfl ?_
  by_cases hc79 : d2 = (10 : Int32)
  · refine own_icmpNo X0 hx (hb hby d21_19) (teq hc79).2 ?_
    refine own_iload X0 hx (hb hby d21_22) rfl ?_
    refine own_retI X0 hx hlk hret (hb hby d21_24) (own_kN (by decide) (by decide) ?_)
    try rw [e0]
    exact ⟨by rw [if_pos hc79], N0, rfl⟩
  · refine own_icmpYes X0 hx 25 (hb hby d21_19) (feq hc79).2 (by decide) (by decide) ?_
    refine own_iinc (l' := #[.val (.ref b), .val (.int 10), .val (.int 2), .val (.int 4), .val (.int 10), .val (.int ((2 : Int32) + (1 : Int32)))]) X0 hx (hb hby d21_25) rfl rfl ?_
    rw [show ((2 : Int32) + (1 : Int32)) = (3 : Int32) from by decide]
    refine own_goto X0 hx 7 (hb hby d21_28) (by decide) (by decide) ?_
    refine own_iload X0 hx (hb hby d21_7) rfl ?_
    refine own_iloadN X0 hx (hb hby d21_9) rfl ?_
    refine own_icmpNo X0 hx (hb hby d21_10) (tlt (by decide : (3 : Int32) < (4 : Int32))).2.1 ?_
    refine own_aloadN X0 hx (hb hby d21_13) rfl rfl ?_
    refine own_iload X0 hx (hb hby d21_14) rfl ?_
    refine own_baload X0 hx hZ (.int d3) e0 Vb ⟨by decide, by decide⟩ rfl (hb hby d21_16) ?_
    refine own_iload X0 hx (hb hby d21_17) rfl ?_
    by_cases hc80 : d3 = (10 : Int32)
    · refine own_icmpNo X0 hx (hb hby d21_19) (teq hc80).2 ?_
      refine own_iload X0 hx (hb hby d21_22) rfl ?_
      refine own_retI X0 hx hlk hret (hb hby d21_24) (own_kN (by decide) (by decide) ?_)
      try rw [e0]
      exact ⟨by rw [if_neg hc79, if_pos hc80], N0, rfl⟩
    · refine own_icmpYes X0 hx 25 (hb hby d21_19) (feq hc80).2 (by decide) (by decide) ?_
      refine own_iinc (l' := #[.val (.ref b), .val (.int 10), .val (.int 2), .val (.int 4), .val (.int 10), .val (.int ((3 : Int32) + (1 : Int32)))]) X0 hx (hb hby d21_25) rfl rfl ?_
      rw [show ((3 : Int32) + (1 : Int32)) = (4 : Int32) from by decide]
      refine own_goto X0 hx 7 (hb hby d21_28) (by decide) (by decide) ?_
      refine own_iload X0 hx (hb hby d21_7) rfl ?_
      refine own_iloadN X0 hx (hb hby d21_9) rfl ?_
      refine own_icmpYes X0 hx 31 (hb hby d21_10) (flt (by decide : ¬ ((4 : Int32) < (4 : Int32)))).2.1 (by decide) (by decide) ?_
      refine own_iconst X0 hx (-1 : Int32) (hb hby d21_31) rfl ?_
      refine own_retI X0 hx hlk hret (hb hby d21_32) (own_kN (by decide) (by decide) ?_)
      try rw [e0]
      exact ⟨by rw [if_neg hc79, if_neg hc80], N0, rfl⟩
set_option maxRecDepth 65536 in
set_option maxHeartbeats 40000000 in
theorem rmIC_4_3 (l : Launch) (Z : State) (a0 : Array Value) (hw : own_Wd a0 Z) (ws : List Jvm.Cond) (b : Addr) (kb : ClassId) (d0 d1 d2 d3 : Int32)  (h0 : Heap) (n0 : Nat) (Z0 : n0 ≤ h0.size) (Vb : Arv Z h0 b kb .byte (4 : Int32) [(.int d0), (.int d1), (.int d2), (.int d3)] (.int 0)) :
    own_Met l (⟨"java/lang/StringLatin1", "indexOfChar", "([BIII)I"⟩ : MethodName) jdk_43_method_23_code 6 (some .int) ws ({ frames := 0, cells := 0, slots := 0, locals := 0 } : Room) Z #[(.ref b), (.int 10), (.int 3), (.int 4)] h0 (fun v h L => v = some (.int (if d3 = (10 : Int32) then (3 : Int32) else (-1 : Int32))) ∧ Fr n0 L ∧ h = h0) := by
  refine own_body (plainFor_of_name pn_3) ?_
  intro p e s m below meth c s₁ X0 hx hby hml hown hnm hret hlk hZ e0
  replace hown : s.vm.findClass "java/lang/StringLatin1" = some m.cls := hown
  replace hml : c.maxLocals = 6 := hml
  replace hret : meth.sig.returnType = (some .int) := hret
  have N0 := Fr.nil n0
  refine own_ef (L0 := #[.val (.ref b), .val (.int 10), .val (.int 3), .val (.int 4), .unset, .unset]) (by first | (simp [entryFrame, mkF, argsToLocals, Value.category]; done) | rfl) ?_
  refine own_iloadN X0 hx (hb hby d21_0) rfl ?_
  refine own_i2b X0 hx (hb hby d21_1) ?_
  rw [show ((10 : Int32).toInt8.toInt32) = (10 : Int32) from by decide]
  refine own_istore (l' := #[.val (.ref b), .val (.int 10), .val (.int 3), .val (.int 4), .val (.int 10), .unset]) X0 hx (hb hby d21_2) rfl ?_
  refine own_iloadN X0 hx (hb hby d21_4) rfl ?_
  refine own_istore (l' := #[.val (.ref b), .val (.int 10), .val (.int 3), .val (.int 4), .val (.int 10), .val (.int 3)]) X0 hx (hb hby d21_5) rfl ?_
  refine own_iload X0 hx (hb hby d21_7) rfl ?_
  refine own_iloadN X0 hx (hb hby d21_9) rfl ?_
  refine own_icmpNo X0 hx (hb hby d21_10) (tlt (by decide : (3 : Int32) < (4 : Int32))).2.1 ?_
  refine own_aloadN X0 hx (hb hby d21_13) rfl rfl ?_
  refine own_iload X0 hx (hb hby d21_14) rfl ?_
  refine own_baload X0 hx hZ (.int d3) e0 Vb ⟨by decide, by decide⟩ rfl (hb hby d21_16) ?_
  refine own_iload X0 hx (hb hby d21_17) rfl ?_
  by_cases hc81 : d3 = (10 : Int32)
  · refine own_icmpNo X0 hx (hb hby d21_19) (teq hc81).2 ?_
    refine own_iload X0 hx (hb hby d21_22) rfl ?_
    refine own_retI X0 hx hlk hret (hb hby d21_24) (own_kN (by decide) (by decide) ?_)
    try rw [e0]
    exact ⟨by rw [if_pos hc81], N0, rfl⟩
  · refine own_icmpYes X0 hx 25 (hb hby d21_19) (feq hc81).2 (by decide) (by decide) ?_
    refine own_iinc (l' := #[.val (.ref b), .val (.int 10), .val (.int 3), .val (.int 4), .val (.int 10), .val (.int ((3 : Int32) + (1 : Int32)))]) X0 hx (hb hby d21_25) rfl rfl ?_
    rw [show ((3 : Int32) + (1 : Int32)) = (4 : Int32) from by decide]
    refine own_goto X0 hx 7 (hb hby d21_28) (by decide) (by decide) ?_
    refine own_iload X0 hx (hb hby d21_7) rfl ?_
    refine own_iloadN X0 hx (hb hby d21_9) rfl ?_
    refine own_icmpYes X0 hx 31 (hb hby d21_10) (flt (by decide : ¬ ((4 : Int32) < (4 : Int32)))).2.1 (by decide) (by decide) ?_
    refine own_iconst X0 hx (-1 : Int32) (hb hby d21_31) rfl ?_
    refine own_retI X0 hx hlk hret (hb hby d21_32) (own_kN (by decide) (by decide) ?_)
    try rw [e0]
    exact ⟨by rw [if_neg hc81], N0, rfl⟩
theorem d18_0 : decode jdk_43_method_22_code 0 = .ok (.iload_n 1, 1) := by decide +kernel
theorem d18_1 : decode jdk_43_method_22_code 1 = .ok (.invokestatic 88, 3) := by decide +kernel
theorem d18_4 : decode jdk_43_method_22_code 4 = .ok (.ifCond .ne 5, 3) := by decide +kernel
theorem d18_9 : decode jdk_43_method_22_code 9 = .ok (.iload_n 2, 1) := by decide +kernel
theorem d18_10 : decode jdk_43_method_22_code 10 = .ok (.iconst 0, 1) := by decide +kernel
theorem d18_11 : decode jdk_43_method_22_code 11 = .ok (.invokestatic 92, 3) := by decide +kernel
theorem d18_14 : decode jdk_43_method_22_code 14 = .ok (.istore_n 2, 1) := by decide +kernel
theorem d18_15 : decode jdk_43_method_22_code 15 = .ok (.iload_n 3, 1) := by decide +kernel
theorem d18_16 : decode jdk_43_method_22_code 16 = .ok (.aload_n 0, 1) := by decide +kernel
theorem d18_17 : decode jdk_43_method_22_code 17 = .ok (.arraylength, 1) := by decide +kernel
theorem d18_18 : decode jdk_43_method_22_code 18 = .ok (.invokestatic 38, 3) := by decide +kernel
theorem d18_21 : decode jdk_43_method_22_code 21 = .ok (.istore_n 3, 1) := by decide +kernel
theorem d18_22 : decode jdk_43_method_22_code 22 = .ok (.iload_n 2, 1) := by decide +kernel
theorem d18_23 : decode jdk_43_method_22_code 23 = .ok (.iload_n 3, 1) := by decide +kernel
theorem d18_24 : decode jdk_43_method_22_code 24 = .ok (.if_icmp .lt 5, 3) := by decide +kernel
theorem d18_27 : decode jdk_43_method_22_code 27 = .ok (.iconst (-1), 1) := by decide +kernel
theorem d18_28 : decode jdk_43_method_22_code 28 = .ok (.ireturn, 1) := by decide +kernel
theorem d18_29 : decode jdk_43_method_22_code 29 = .ok (.aload_n 0, 1) := by decide +kernel
theorem d18_30 : decode jdk_43_method_22_code 30 = .ok (.iload_n 1, 1) := by decide +kernel
theorem d18_31 : decode jdk_43_method_22_code 31 = .ok (.iload_n 2, 1) := by decide +kernel
theorem d18_32 : decode jdk_43_method_22_code 32 = .ok (.iload_n 3, 1) := by decide +kernel
theorem d18_33 : decode jdk_43_method_22_code 33 = .ok (.invokestatic 95, 3) := by decide +kernel
theorem d18_36 : decode jdk_43_method_22_code 36 = .ok (.ireturn, 1) := by decide +kernel
theorem pd_5 : parseMethodDescriptor "(I)Z" = some ⟨[.int], some .boolean⟩ := by decide +kernel
theorem pd_6 : parseMethodDescriptor "(II)I" = some ⟨[.int, .int], some .int⟩ := by decide +kernel
theorem pd_7 : parseMethodDescriptor "([BIII)I" = some ⟨[(.array .byte), .int, .int, .int], some .int⟩ := by decide +kernel
set_option maxRecDepth 65536 in
set_option maxHeartbeats 40000000 in
theorem rmL1 (l : Launch) (Z : State) (a0 : Array Value) (hw : own_Wd a0 Z) (ws : List Jvm.Cond) (b : Addr) (n : Int32) (f r : Int32)  (h0 : Heap) (n0 : Nat) (Z0 : n0 ≤ h0.size) (A : own_Aln Z h0 b .byte n) (hf0 : ¬ (f < (0 : Int32))) (hfn : f < n) (hIC : own_Met l (⟨"java/lang/StringLatin1", "indexOfChar", "([BIII)I"⟩ : MethodName) jdk_43_method_23_code 6 (some .int) [] ({ frames := 0, cells := 0, slots := 0, locals := 0 } : Room) Z #[(.ref b), (.int 10), (.int f), (.int n)] h0 (fun v h L => v = some (.int r) ∧ Fr n0 L ∧ h = h0)) :
    own_Met l (⟨"java/lang/StringLatin1", "indexOf", "([BIII)I"⟩ : MethodName) jdk_43_method_22_code 4 (some .int) ws ({ frames := 1, cells := 0, slots := 0, locals := 17 } : Room) Z #[(.ref b), (.int 10), (.int f), (.int n)] h0 (fun v h L => v = some (.int r) ∧ Fr n0 L ∧ h = h0) := by
  refine own_body (plainFor_of_name pn_3) ?_
  intro p e s m below meth c s₁ X0 hx hby hml hown hnm hret hlk hZ e0
  replace hown : s.vm.findClass "java/lang/StringLatin1" = some m.cls := hown
  replace hml : c.maxLocals = 4 := hml
  replace hret : meth.sig.returnType = (some .int) := hret
  have N0 := Fr.nil n0
  refine own_ef (L0 := #[.val (.ref b), .val (.int 10), .val (.int f), .val (.int n)]) (by first | (simp [entryFrame, mkF, argsToLocals, Value.category]; done) | rfl) ?_
  refine own_iloadN X0 hx (hb hby d18_0) rfl ?_
  refine own_cStat (W := 0) (rest := []) X0 hx hZ [(.int 10)] hown (own_m hw 94 rfl) (own_m hw 95 rfl) (by decide) (own_m hw 96 rfl) (own_m hw 92 rfl) e0 (rmCE l Z a0 hw [] h0 n0 Z0) (by rw [hml]; rfl) (lenOf pd_5 rfl) rfl (Nat.le_of_eq rfl) (hb hby d18_1) (by decide) (by decide) (by decide) (by decide) fun v82 T82 L82 X82 hQ82 => ?_
  obtain ⟨rfl, N82q, e82⟩ := hQ82
  have N82 := Fr.app N0 N82q
  show own_At p e below _ T82 m 4 _ [(.int 1)]
  refine own_ifYes X82 hx 9 (hb hby d18_4) (feq (by decide : ¬ ((1 : Int32) = (0 : Int32)))).2 (by decide) (by decide) ?_
  refine own_iloadN X82 hx (hb hby d18_9) rfl ?_
  refine own_iconst X82 hx 0 (hb hby d18_10) rfl ?_
  refine own_cStat (W := 0) (rest := []) X82 hx hZ [(.int f), (.int 0)] hown (own_m hw 97 rfl) (own_m hw 72 rfl) (by decide) (own_m hw 74 rfl) (own_m hw 73 rfl) e82 (rmMax l Z a0 hw [] f (0 : Int32) h0 n0 Z0 hf0) (by rw [hml]; rfl) (lenOf pd_6 rfl) rfl (Nat.le_of_eq rfl) (hb hby d18_11) (by decide) (by decide) (by decide) (by decide) fun v83 T83 L83 X83 hQ83 => ?_
  obtain ⟨rfl, N83q, e83⟩ := hQ83
  have N83 := Fr.app N82 N83q
  show own_At p e below _ T83 m 14 _ [(.int f)]
  refine own_istoreN (l' := #[.val (.ref b), .val (.int 10), .val (.int f), .val (.int n)]) X83 hx (hb hby d18_14) rfl ?_
  refine own_iloadN X83 hx (hb hby d18_15) rfl ?_
  refine own_aloadN X83 hx (hb hby d18_16) rfl rfl ?_
  refine own_arraylength X83 hx hZ e83 A (hb hby d18_17) ?_
  refine own_cStat (W := 0) (rest := []) X83 hx hZ [(.int n), (.int n)] hown (own_m hw 98 rfl) (own_m hw 99 rfl) (by decide) (own_m hw 100 rfl) (own_m hw 73 rfl) e83 (rmMin l Z a0 hw [] n n h0 n0 Z0 (own_irr3 _)) (by rw [hml]; rfl) (lenOf pd_6 rfl) rfl (Nat.le_of_eq rfl) (hb hby d18_18) (by decide) (by decide) (by decide) (by decide) fun v84 T84 L84 X84 hQ84 => ?_
  obtain ⟨rfl, N84q, e84⟩ := hQ84
  have N84 := Fr.app N83 N84q
  show own_At p e below _ T84 m 21 _ [(.int n)]
  refine own_istoreN (l' := #[.val (.ref b), .val (.int 10), .val (.int f), .val (.int n)]) X84 hx (hb hby d18_21) rfl ?_
  refine own_iloadN X84 hx (hb hby d18_22) rfl ?_
  refine own_iloadN X84 hx (hb hby d18_23) rfl ?_
  refine own_icmpYes X84 hx 29 (hb hby d18_24) (tlt hfn).1 (by decide) (by decide) ?_
  refine own_aloadN X84 hx (hb hby d18_29) rfl rfl ?_
  refine own_iloadN X84 hx (hb hby d18_30) rfl ?_
  refine own_iloadN X84 hx (hb hby d18_31) rfl ?_
  refine own_iloadN X84 hx (hb hby d18_32) rfl ?_
  refine own_cStat (W := 0) (rest := []) X84 hx hZ [(.ref b), (.int 10), (.int f), (.int n)] hown (own_m hw 101 rfl) (own_m hw 102 rfl) (by decide) (own_m hw 103 rfl) (own_m hw 92 rfl) e84 (hIC) (by rw [hml]; rfl) (lenOf pd_7 rfl) rfl (Nat.le_of_eq rfl) (hb hby d18_33) (by decide) (by decide) (by decide) (by decide) fun v85 T85 L85 X85 hQ85 => ?_
  obtain ⟨rfl, N85q, e85⟩ := hQ85
  have N85 := Fr.app N84 N85q
  show own_At p e below _ T85 m 36 _ [(.int r)]
  refine own_retI X85 hx hlk hret (hb hby d18_36) (own_kN (by decide) (by decide) ?_)
  try rw [e85]
  exact ⟨rfl, N85, rfl⟩
theorem d16_0 : decode jdk_42_method_80_code 0 = .ok (.aload_n 0, 1) := by decide +kernel
theorem d16_1 : decode jdk_42_method_80_code 1 = .ok (.invokevirtual 492, 3) := by decide +kernel
theorem d16_4 : decode jdk_42_method_80_code 4 = .ok (.ifCond .eq 19, 3) := by decide +kernel
theorem d16_7 : decode jdk_42_method_80_code 7 = .ok (.aload_n 0, 1) := by decide +kernel
theorem d16_8 : decode jdk_42_method_80_code 8 = .ok (.getfield 9, 3) := by decide +kernel
theorem d16_11 : decode jdk_42_method_80_code 11 = .ok (.iload_n 1, 1) := by decide +kernel
theorem d16_12 : decode jdk_42_method_80_code 12 = .ok (.iload_n 2, 1) := by decide +kernel
theorem d16_13 : decode jdk_42_method_80_code 13 = .ok (.aload_n 0, 1) := by decide +kernel
theorem d16_14 : decode jdk_42_method_80_code 14 = .ok (.invokevirtual 505, 3) := by decide +kernel
theorem d16_17 : decode jdk_42_method_80_code 17 = .ok (.invokestatic 637, 3) := by decide +kernel
theorem d16_20 : decode jdk_42_method_80_code 20 = .ok (.goto 16, 3) := by decide +kernel
theorem d16_36 : decode jdk_42_method_80_code 36 = .ok (.ireturn, 1) := by decide +kernel
theorem pd_8 : parseMethodDescriptor "()Z" = some ⟨[], some .boolean⟩ := by decide +kernel
theorem pd_9 : parseMethodDescriptor "()I" = some ⟨[], some .int⟩ := by decide +kernel
set_option maxRecDepth 65536 in
set_option maxHeartbeats 40000000 in
theorem rmX2 (l : Launch) (Z : State) (a0 : Array Value) (hw : own_Wd a0 Z) (ws : List Jvm.Cond) (a b : Addr) (cs n : Int32) (f r : Int32)  (h0 : Heap) (n0 : Nat) (Z0 : n0 ≤ h0.size) (Sc : Sta Z h0 "java/lang/String" "COMPACT_STRINGS" "Z" (.int cs)) (hcs : ¬ (cs = (0 : Int32))) (Ea : Exa Z h0 a "java/lang/String") (Fv : Fld Z h0 a "java/lang/String" "value" "[B" (.ref b)) (Fc : Fld Z h0 a "java/lang/String" "coder" "B" (.int 0)) (A : own_Aln Z h0 b .byte n) (hf0 : ¬ (f < (0 : Int32))) (hfn : f < n) (hIC : own_Met l (⟨"java/lang/StringLatin1", "indexOfChar", "([BIII)I"⟩ : MethodName) jdk_43_method_23_code 6 (some .int) [] ({ frames := 0, cells := 0, slots := 0, locals := 0 } : Room) Z #[(.ref b), (.int 10), (.int f), (.int n)] h0 (fun v h L => v = some (.int r) ∧ Fr n0 L ∧ h = h0)) :
    own_Met l (⟨"java/lang/String", "indexOf", "(II)I"⟩ : MethodName) jdk_42_method_80_code 3 (some .int) ws ({ frames := 2, cells := 0, slots := 0, locals := 32 } : Room) Z #[(.ref a), (.int 10), (.int f)] h0 (fun v h L => v = some (.int r) ∧ Fr n0 L ∧ h = h0) := by
  refine own_body (plainFor_of_name pn_2) ?_
  intro p e s m below meth c s₁ X0 hx hby hml hown hnm hret hlk hZ e0
  replace hown : s.vm.findClass "java/lang/String" = some m.cls := hown
  replace hml : c.maxLocals = 3 := hml
  replace hret : meth.sig.returnType = (some .int) := hret
  have N0 := Fr.nil n0
  refine own_ef (L0 := #[.val (.ref a), .val (.int 10), .val (.int f)]) (by first | (simp [entryFrame, mkF, argsToLocals, Value.category]; done) | rfl) ?_
  refine own_aloadN X0 hx (hb hby d16_0) rfl rfl ?_
  refine own_cVirt (W := 0) (rest := []) X0 hx hZ [] hown (own_m hw 84 rfl) (own_m hw 85 rfl) (notFace_of_selects (args := #[]) (mvT hZ (own_m hw 87 rfl))) (own_m hw 87 rfl) (own_m hw 86 rfl) (by decide) (own_m hw 88 rfl) (own_m hw 9 rfl) e0 Ea (rmL l Z a0 hw [] a cs h0 n0 Z0 Sc hcs Fc) (by rw [hml]; rfl) (lenOf pd_8 rfl) rfl (Nat.le_of_eq rfl) (hb hby d16_1) (by decide) (by decide) (by decide) (by decide) fun v86 T86 L86 X86 hQ86 => ?_
  obtain ⟨rfl, N86q, e86⟩ := hQ86
  have N86 := Fr.app N0 N86q
  show own_At p e below _ T86 m 4 _ [(.int 1)]
  refine own_ifNo X86 hx (hb hby d16_4) (feq (by decide : ¬ ((1 : Int32) = (0 : Int32)))).1 ?_
  refine own_aloadN X86 hx (hb hby d16_7) rfl rfl ?_
  refine own_getF X86 hx hZ hown (host := "") (Or.inl (own_m hw 34 rfl)) Via.refl e86 Fv (hb hby d16_8) fun T87 X87 e87 => ?_
  refine own_iloadN X87 hx (hb hby d16_11) rfl ?_
  refine own_iloadN X87 hx (hb hby d16_12) rfl ?_
  refine own_aloadN X87 hx (hb hby d16_13) rfl rfl ?_
  refine own_cVirt (W := 3) (rest := [(.int f), (.int 10), (.ref b)]) X87 hx hZ [] hown (own_m hw 89 rfl) (own_m hw 62 rfl) (notFace_of_selects (args := #[]) (mvT hZ (own_m hw 64 rfl))) (own_m hw 64 rfl) (own_m hw 63 rfl) (by decide) (own_m hw 65 rfl) (own_m hw 9 rfl) e87 Ea (rmLen l Z a0 hw [] a b cs n h0 n0 Z0 Sc hcs Ea Fv Fc A) (by rw [hml]; rfl) (lenOf pd_9 rfl) rfl (Nat.le_of_eq rfl) (hb hby d16_14) (by decide) (by decide) (by decide) (by decide) fun v88 T88 L88 X88 hQ88 => ?_
  obtain ⟨rfl, N88q, e88⟩ := hQ88
  have N88 := Fr.app N86 N88q
  show own_At p e below _ T88 m 17 _ [(.int n), (.int f), (.int 10), (.ref b)]
  refine own_cStat (W := 0) (rest := []) X88 hx hZ [(.ref b), (.int 10), (.int f), (.int n)] hown (own_m hw 90 rfl) (own_m hw 91 rfl) (by decide) (own_m hw 93 rfl) (own_m hw 92 rfl) e88 (rmL1 l Z a0 hw [] b n f r h0 n0 Z0 A hf0 hfn hIC) (by rw [hml]; rfl) (lenOf pd_7 rfl) rfl (Nat.le_of_eq rfl) (hb hby d16_17) (by decide) (by decide) (by decide) (by decide) fun v89 T89 L89 X89 hQ89 => ?_
  obtain ⟨rfl, N89q, e89⟩ := hQ89
  have N89 := Fr.app N88 N89q
  show own_At p e below _ T89 m 20 _ [(.int r)]
  refine own_goto X89 hx 36 (hb hby d16_20) (by decide) (by decide) ?_
  refine own_retI X89 hx hlk hret (hb hby d16_36) (own_kN (by decide) (by decide) ?_)
  try rw [e89]
  exact ⟨rfl, N89, rfl⟩
set_option maxRecDepth 65536 in
set_option maxHeartbeats 40000000 in
theorem rmL1e (l : Launch) (Z : State) (a0 : Array Value) (hw : own_Wd a0 Z) (ws : List Jvm.Cond) (b : Addr) (n : Int32)  (h0 : Heap) (n0 : Nat) (Z0 : n0 ≤ h0.size) (A : own_Aln Z h0 b .byte n) (hn0 : ¬ (n < (0 : Int32))) :
    own_Met l (⟨"java/lang/StringLatin1", "indexOf", "([BIII)I"⟩ : MethodName) jdk_43_method_22_code 4 (some .int) ws ({ frames := 1, cells := 0, slots := 0, locals := 17 } : Room) Z #[(.ref b), (.int 10), (.int n), (.int n)] h0 (fun v h L => v = some (.int (-1 : Int32)) ∧ Fr n0 L ∧ h = h0) := by
  refine own_body (plainFor_of_name pn_3) ?_
  intro p e s m below meth c s₁ X0 hx hby hml hown hnm hret hlk hZ e0
  replace hown : s.vm.findClass "java/lang/StringLatin1" = some m.cls := hown
  replace hml : c.maxLocals = 4 := hml
  replace hret : meth.sig.returnType = (some .int) := hret
  have N0 := Fr.nil n0
  refine own_ef (L0 := #[.val (.ref b), .val (.int 10), .val (.int n), .val (.int n)]) (by first | (simp [entryFrame, mkF, argsToLocals, Value.category]; done) | rfl) ?_
  refine own_iloadN X0 hx (hb hby d18_0) rfl ?_
  refine own_cStat (W := 0) (rest := []) X0 hx hZ [(.int 10)] hown (own_m hw 94 rfl) (own_m hw 95 rfl) (by decide) (own_m hw 96 rfl) (own_m hw 92 rfl) e0 (rmCE l Z a0 hw [] h0 n0 Z0) (by rw [hml]; rfl) (lenOf pd_5 rfl) rfl (Nat.le_of_eq rfl) (hb hby d18_1) (by decide) (by decide) (by decide) (by decide) fun v90 T90 L90 X90 hQ90 => ?_
  obtain ⟨rfl, N90q, e90⟩ := hQ90
  have N90 := Fr.app N0 N90q
  show own_At p e below _ T90 m 4 _ [(.int 1)]
  refine own_ifYes X90 hx 9 (hb hby d18_4) (feq (by decide : ¬ ((1 : Int32) = (0 : Int32)))).2 (by decide) (by decide) ?_
  refine own_iloadN X90 hx (hb hby d18_9) rfl ?_
  refine own_iconst X90 hx 0 (hb hby d18_10) rfl ?_
  refine own_cStat (W := 0) (rest := []) X90 hx hZ [(.int n), (.int 0)] hown (own_m hw 97 rfl) (own_m hw 72 rfl) (by decide) (own_m hw 74 rfl) (own_m hw 73 rfl) e90 (rmMax l Z a0 hw [] n (0 : Int32) h0 n0 Z0 hn0) (by rw [hml]; rfl) (lenOf pd_6 rfl) rfl (Nat.le_of_eq rfl) (hb hby d18_11) (by decide) (by decide) (by decide) (by decide) fun v91 T91 L91 X91 hQ91 => ?_
  obtain ⟨rfl, N91q, e91⟩ := hQ91
  have N91 := Fr.app N90 N91q
  show own_At p e below _ T91 m 14 _ [(.int n)]
  refine own_istoreN (l' := #[.val (.ref b), .val (.int 10), .val (.int n), .val (.int n)]) X91 hx (hb hby d18_14) rfl ?_
  refine own_iloadN X91 hx (hb hby d18_15) rfl ?_
  refine own_aloadN X91 hx (hb hby d18_16) rfl rfl ?_
  refine own_arraylength X91 hx hZ e91 A (hb hby d18_17) ?_
  refine own_cStat (W := 0) (rest := []) X91 hx hZ [(.int n), (.int n)] hown (own_m hw 98 rfl) (own_m hw 99 rfl) (by decide) (own_m hw 100 rfl) (own_m hw 73 rfl) e91 (rmMin l Z a0 hw [] n n h0 n0 Z0 (own_irr3 _)) (by rw [hml]; rfl) (lenOf pd_6 rfl) rfl (Nat.le_of_eq rfl) (hb hby d18_18) (by decide) (by decide) (by decide) (by decide) fun v92 T92 L92 X92 hQ92 => ?_
  obtain ⟨rfl, N92q, e92⟩ := hQ92
  have N92 := Fr.app N91 N92q
  show own_At p e below _ T92 m 21 _ [(.int n)]
  refine own_istoreN (l' := #[.val (.ref b), .val (.int 10), .val (.int n), .val (.int n)]) X92 hx (hb hby d18_21) rfl ?_
  refine own_iloadN X92 hx (hb hby d18_22) rfl ?_
  refine own_iloadN X92 hx (hb hby d18_23) rfl ?_
  refine own_icmpNo X92 hx (hb hby d18_24) (flt (own_irr3 _)).1 ?_
  refine own_iconst X92 hx (-1 : Int32) (hb hby d18_27) rfl ?_
  refine own_retI X92 hx hlk hret (hb hby d18_28) (own_kN (by decide) (by decide) ?_)
  try rw [e92]
  exact ⟨rfl, N92, rfl⟩
set_option maxRecDepth 65536 in
set_option maxHeartbeats 40000000 in
theorem rmX2e (l : Launch) (Z : State) (a0 : Array Value) (hw : own_Wd a0 Z) (ws : List Jvm.Cond) (a b : Addr) (cs n : Int32)  (h0 : Heap) (n0 : Nat) (Z0 : n0 ≤ h0.size) (Sc : Sta Z h0 "java/lang/String" "COMPACT_STRINGS" "Z" (.int cs)) (hcs : ¬ (cs = (0 : Int32))) (Ea : Exa Z h0 a "java/lang/String") (Fv : Fld Z h0 a "java/lang/String" "value" "[B" (.ref b)) (Fc : Fld Z h0 a "java/lang/String" "coder" "B" (.int 0)) (A : own_Aln Z h0 b .byte n) (hn0 : ¬ (n < (0 : Int32))) :
    own_Met l (⟨"java/lang/String", "indexOf", "(II)I"⟩ : MethodName) jdk_42_method_80_code 3 (some .int) ws ({ frames := 2, cells := 0, slots := 0, locals := 32 } : Room) Z #[(.ref a), (.int 10), (.int n)] h0 (fun v h L => v = some (.int (-1 : Int32)) ∧ Fr n0 L ∧ h = h0) := by
  refine own_body (plainFor_of_name pn_2) ?_
  intro p e s m below meth c s₁ X0 hx hby hml hown hnm hret hlk hZ e0
  replace hown : s.vm.findClass "java/lang/String" = some m.cls := hown
  replace hml : c.maxLocals = 3 := hml
  replace hret : meth.sig.returnType = (some .int) := hret
  have N0 := Fr.nil n0
  refine own_ef (L0 := #[.val (.ref a), .val (.int 10), .val (.int n)]) (by first | (simp [entryFrame, mkF, argsToLocals, Value.category]; done) | rfl) ?_
  refine own_aloadN X0 hx (hb hby d16_0) rfl rfl ?_
  refine own_cVirt (W := 0) (rest := []) X0 hx hZ [] hown (own_m hw 84 rfl) (own_m hw 85 rfl) (notFace_of_selects (args := #[]) (mvT hZ (own_m hw 87 rfl))) (own_m hw 87 rfl) (own_m hw 86 rfl) (by decide) (own_m hw 88 rfl) (own_m hw 9 rfl) e0 Ea (rmL l Z a0 hw [] a cs h0 n0 Z0 Sc hcs Fc) (by rw [hml]; rfl) (lenOf pd_8 rfl) rfl (Nat.le_of_eq rfl) (hb hby d16_1) (by decide) (by decide) (by decide) (by decide) fun v93 T93 L93 X93 hQ93 => ?_
  obtain ⟨rfl, N93q, e93⟩ := hQ93
  have N93 := Fr.app N0 N93q
  show own_At p e below _ T93 m 4 _ [(.int 1)]
  refine own_ifNo X93 hx (hb hby d16_4) (feq (by decide : ¬ ((1 : Int32) = (0 : Int32)))).1 ?_
  refine own_aloadN X93 hx (hb hby d16_7) rfl rfl ?_
  refine own_getF X93 hx hZ hown (host := "") (Or.inl (own_m hw 34 rfl)) Via.refl e93 Fv (hb hby d16_8) fun T94 X94 e94 => ?_
  refine own_iloadN X94 hx (hb hby d16_11) rfl ?_
  refine own_iloadN X94 hx (hb hby d16_12) rfl ?_
  refine own_aloadN X94 hx (hb hby d16_13) rfl rfl ?_
  refine own_cVirt (W := 3) (rest := [(.int n), (.int 10), (.ref b)]) X94 hx hZ [] hown (own_m hw 89 rfl) (own_m hw 62 rfl) (notFace_of_selects (args := #[]) (mvT hZ (own_m hw 64 rfl))) (own_m hw 64 rfl) (own_m hw 63 rfl) (by decide) (own_m hw 65 rfl) (own_m hw 9 rfl) e94 Ea (rmLen l Z a0 hw [] a b cs n h0 n0 Z0 Sc hcs Ea Fv Fc A) (by rw [hml]; rfl) (lenOf pd_9 rfl) rfl (Nat.le_of_eq rfl) (hb hby d16_14) (by decide) (by decide) (by decide) (by decide) fun v95 T95 L95 X95 hQ95 => ?_
  obtain ⟨rfl, N95q, e95⟩ := hQ95
  have N95 := Fr.app N93 N95q
  show own_At p e below _ T95 m 17 _ [(.int n), (.int n), (.int 10), (.ref b)]
  refine own_cStat (W := 0) (rest := []) X95 hx hZ [(.ref b), (.int 10), (.int n), (.int n)] hown (own_m hw 90 rfl) (own_m hw 91 rfl) (by decide) (own_m hw 93 rfl) (own_m hw 92 rfl) e95 (rmL1e l Z a0 hw [] b n  h0 n0 Z0 A hn0) (by rw [hml]; rfl) (lenOf pd_7 rfl) rfl (Nat.le_of_eq rfl) (hb hby d16_17) (by decide) (by decide) (by decide) (by decide) fun v96 T96 L96 X96 hQ96 => ?_
  obtain ⟨rfl, N96q, e96⟩ := hQ96
  have N96 := Fr.app N95 N96q
  show own_At p e below _ T96 m 20 _ [(.int (-1 : Int32))]
  refine own_goto X96 hx 36 (hb hby d16_20) (by decide) (by decide) ?_
  refine own_retI X96 hx hlk hret (hb hby d16_36) (own_kN (by decide) (by decide) ?_)
  try rw [e96]
  exact ⟨rfl, N96, rfl⟩
theorem d23_0 : decode jdk_42_method_55_code 0 = .ok (.aload_n 0, 1) := by decide +kernel
theorem d23_1 : decode jdk_42_method_55_code 1 = .ok (.getfield 9, 3) := by decide +kernel
theorem d23_4 : decode jdk_42_method_55_code 4 = .ok (.arraylength, 1) := by decide +kernel
theorem d23_5 : decode jdk_42_method_55_code 5 = .ok (.ifCond .ne 7, 3) := by decide +kernel
theorem d23_8 : decode jdk_42_method_55_code 8 = .ok (.iconst 1, 1) := by decide +kernel
theorem d23_9 : decode jdk_42_method_55_code 9 = .ok (.goto 4, 3) := by decide +kernel
theorem d23_12 : decode jdk_42_method_55_code 12 = .ok (.iconst 0, 1) := by decide +kernel
theorem d23_13 : decode jdk_42_method_55_code 13 = .ok (.ireturn, 1) := by decide +kernel
set_option maxRecDepth 65536 in
set_option maxHeartbeats 40000000 in
theorem rmEm0 (l : Launch) (Z : State) (a0 : Array Value) (hw : own_Wd a0 Z) (ws : List Jvm.Cond) (a b : Addr)  (h0 : Heap) (n0 : Nat) (Z0 : n0 ≤ h0.size) (Fv : Fld Z h0 a "java/lang/String" "value" "[B" (.ref b)) (A : own_Aln Z h0 b .byte (0 : Int32)) :
    own_Met l (⟨"java/lang/String", "isEmpty", "()Z"⟩ : MethodName) jdk_42_method_55_code 1 (some .boolean) ws ({ frames := 0, cells := 0, slots := 0, locals := 0 } : Room) Z #[(.ref a)] h0 (fun v h L => v = some (.int 1) ∧ Fr n0 L ∧ h = h0) := by
  refine own_body (plainFor_of_name pn_2) ?_
  intro p e s m below meth c s₁ X0 hx hby hml hown hnm hret hlk hZ e0
  replace hown : s.vm.findClass "java/lang/String" = some m.cls := hown
  replace hml : c.maxLocals = 1 := hml
  replace hret : meth.sig.returnType = (some .boolean) := hret
  have N0 := Fr.nil n0
  refine own_ef (L0 := #[.val (.ref a)]) (by first | (simp [entryFrame, mkF, argsToLocals, Value.category]; done) | rfl) ?_
  refine own_aloadN X0 hx (hb hby d23_0) rfl rfl ?_
  refine own_getF X0 hx hZ hown (host := "") (Or.inl (own_m hw 34 rfl)) Via.refl e0 Fv (hb hby d23_1) fun T97 X97 e97 => ?_
  refine own_arraylength X97 hx hZ e97 A (hb hby d23_4) ?_
  refine own_ifNo X97 hx (hb hby d23_5) (teq (by decide : (0 : Int32) = (0 : Int32))).2 ?_
  refine own_iconst X97 hx 1 (hb hby d23_8) rfl ?_
  refine own_goto X97 hx 13 (hb hby d23_9) (by decide) (by decide) ?_
  refine own_retN X97 hx hlk hret (by simp) (by decide) (hb hby d23_13) (own_kN (by decide) (by decide) ?_)
  try rw [e97]
  exact ⟨rfl, N0, rfl⟩
set_option maxRecDepth 65536 in
set_option maxHeartbeats 40000000 in
theorem rmEm (l : Launch) (Z : State) (a0 : Array Value) (hw : own_Wd a0 Z) (ws : List Jvm.Cond) (a b : Addr) (n : Int32)  (h0 : Heap) (n0 : Nat) (Z0 : n0 ≤ h0.size) (Fv : Fld Z h0 a "java/lang/String" "value" "[B" (.ref b)) (A : own_Aln Z h0 b .byte n) (hnz : ¬ (n = (0 : Int32))) :
    own_Met l (⟨"java/lang/String", "isEmpty", "()Z"⟩ : MethodName) jdk_42_method_55_code 1 (some .boolean) ws ({ frames := 0, cells := 0, slots := 0, locals := 0 } : Room) Z #[(.ref a)] h0 (fun v h L => v = some (.int 0) ∧ Fr n0 L ∧ h = h0) := by
  refine own_body (plainFor_of_name pn_2) ?_
  intro p e s m below meth c s₁ X0 hx hby hml hown hnm hret hlk hZ e0
  replace hown : s.vm.findClass "java/lang/String" = some m.cls := hown
  replace hml : c.maxLocals = 1 := hml
  replace hret : meth.sig.returnType = (some .boolean) := hret
  have N0 := Fr.nil n0
  refine own_ef (L0 := #[.val (.ref a)]) (by first | (simp [entryFrame, mkF, argsToLocals, Value.category]; done) | rfl) ?_
  refine own_aloadN X0 hx (hb hby d23_0) rfl rfl ?_
  refine own_getF X0 hx hZ hown (host := "") (Or.inl (own_m hw 34 rfl)) Via.refl e0 Fv (hb hby d23_1) fun T98 X98 e98 => ?_
  refine own_arraylength X98 hx hZ e98 A (hb hby d23_4) ?_
  refine own_ifYes X98 hx 12 (hb hby d23_5) (feq hnz).2 (by decide) (by decide) ?_
  refine own_iconst X98 hx 0 (hb hby d23_12) rfl ?_
  refine own_retN X98 hx hlk hret (by simp) (by decide) (hb hby d23_13) (own_kN (by decide) (by decide) ?_)
  try rw [e98]
  exact ⟨rfl, N0, rfl⟩
theorem d27_0 : decode jdk_41_method_11_code 0 = .ok (.iload_n 0, 1) := by decide +kernel
theorem d27_1 : decode jdk_41_method_11_code 1 = .ok (.ifCond .lt 8, 3) := by decide +kernel
theorem d27_4 : decode jdk_41_method_11_code 4 = .ok (.iload_n 0, 1) := by decide +kernel
theorem d27_5 : decode jdk_41_method_11_code 5 = .ok (.iload_n 1, 1) := by decide +kernel
theorem d27_6 : decode jdk_41_method_11_code 6 = .ok (.if_icmp .lt 10, 3) := by decide +kernel
theorem d27_16 : decode jdk_41_method_11_code 16 = .ok (.iload_n 0, 1) := by decide +kernel
theorem d27_17 : decode jdk_41_method_11_code 17 = .ok (.ireturn, 1) := by decide +kernel
theorem pn_4 : plainName "jdk/internal/util/Preconditions" = true := by first | (simp [plainName, overriddenIn]; done) | decide +kernel
set_option maxRecDepth 65536 in
set_option maxHeartbeats 40000000 in
theorem rmPCn (l : Launch) (Z : State) (a0 : Array Value) (hw : own_Wd a0 Z) (ws : List Jvm.Cond)  (i : Int32) (n : Int32) (h0 : Heap) (n0 : Nat) (Z0 : n0 ≤ h0.size) (hi0 : ¬ (i < (0 : Int32))) (hin : i < n) :
    own_Met l (⟨"jdk/internal/util/Preconditions", "checkIndex", "(IILjava/util/function/BiFunction;)I"⟩ : MethodName) jdk_41_method_11_code 3 (some .int) ws ({ frames := 0, cells := 0, slots := 0, locals := 0 } : Room) Z #[(.int i), (.int n), .null] h0 (fun v h L => v = some (.int i) ∧ Fr n0 L ∧ h = h0) := by
  refine own_body (plainFor_of_name pn_4) ?_
  intro p e s m below meth c s₁ X0 hx hby hml hown hnm hret hlk hZ e0
  replace hown : s.vm.findClass "jdk/internal/util/Preconditions" = some m.cls := hown
  replace hml : c.maxLocals = 3 := hml
  replace hret : meth.sig.returnType = (some .int) := hret
  have N0 := Fr.nil n0
  refine own_ef (L0 := #[.val (.int i), .val (.int n), .val .null]) (by first | (simp [entryFrame, mkF, argsToLocals, Value.category]; done) | rfl) ?_
  refine own_iloadN X0 hx (hb hby d27_0) rfl ?_
  refine own_ifNo X0 hx (hb hby d27_1) (flt hi0).1 ?_
  refine own_iloadN X0 hx (hb hby d27_4) rfl ?_
  refine own_iloadN X0 hx (hb hby d27_5) rfl ?_
  refine own_icmpYes X0 hx 16 (hb hby d27_6) (tlt hin).1 (by decide) (by decide) ?_
  refine own_iloadN X0 hx (hb hby d27_16) rfl ?_
  refine own_retI X0 hx hlk hret (hb hby d27_17) (own_kN (by decide) (by decide) ?_)
  try rw [e0]
  exact ⟨rfl, N0, rfl⟩
set_option maxRecDepth 65536 in
set_option maxHeartbeats 40000000 in
theorem rmPCr (l : Launch) (Z : State) (a0 : Array Value) (hw : own_Wd a0 Z) (ws : List Jvm.Cond)  (i : Int32) (n : Int32) (fa : Addr) (h0 : Heap) (n0 : Nat) (Z0 : n0 ≤ h0.size) (hi0 : ¬ (i < (0 : Int32))) (hin : i < n) :
    own_Met l (⟨"jdk/internal/util/Preconditions", "checkIndex", "(IILjava/util/function/BiFunction;)I"⟩ : MethodName) jdk_41_method_11_code 3 (some .int) ws ({ frames := 0, cells := 0, slots := 0, locals := 0 } : Room) Z #[(.int i), (.int n), (.ref fa)] h0 (fun v h L => v = some (.int i) ∧ Fr n0 L ∧ h = h0) := by
  refine own_body (plainFor_of_name pn_4) ?_
  intro p e s m below meth c s₁ X0 hx hby hml hown hnm hret hlk hZ e0
  replace hown : s.vm.findClass "jdk/internal/util/Preconditions" = some m.cls := hown
  replace hml : c.maxLocals = 3 := hml
  replace hret : meth.sig.returnType = (some .int) := hret
  have N0 := Fr.nil n0
  refine own_ef (L0 := #[.val (.int i), .val (.int n), .val (.ref fa)]) (by first | (simp [entryFrame, mkF, argsToLocals, Value.category]; done) | rfl) ?_
  refine own_iloadN X0 hx (hb hby d27_0) rfl ?_
  refine own_ifNo X0 hx (hb hby d27_1) (flt hi0).1 ?_
  refine own_iloadN X0 hx (hb hby d27_4) rfl ?_
  refine own_iloadN X0 hx (hb hby d27_5) rfl ?_
  refine own_icmpYes X0 hx 16 (hb hby d27_6) (tlt hin).1 (by decide) (by decide) ?_
  refine own_iloadN X0 hx (hb hby d27_16) rfl ?_
  refine own_retI X0 hx hlk hret (hb hby d27_17) (own_kN (by decide) (by decide) ?_)
  try rw [e0]
  exact ⟨rfl, N0, rfl⟩
theorem d26_0 : decode jdk_42_method_155_code 0 = .ok (.iload_n 0, 1) := by decide +kernel
theorem d26_1 : decode jdk_42_method_155_code 1 = .ok (.iload_n 1, 1) := by decide +kernel
theorem d26_2 : decode jdk_42_method_155_code 2 = .ok (.getstatic 1053, 3) := by decide +kernel
theorem d26_5 : decode jdk_42_method_155_code 5 = .ok (.invokestatic 1059, 3) := by decide +kernel
theorem d26_8 : decode jdk_42_method_155_code 8 = .ok (.pop, 1) := by decide +kernel
theorem d26_9 : decode jdk_42_method_155_code 9 = .ok (.return_, 1) := by decide +kernel
theorem pd_10 : parseMethodDescriptor "(IILjava/util/function/BiFunction;)I" = some ⟨[.int, .int, (.object "java/util/function/BiFunction")], some .int⟩ := by decide +kernel
set_option maxRecDepth 65536 in
set_option maxHeartbeats 40000000 in
theorem rmSCI (l : Launch) (Z : State) (a0 : Array Value) (hw : own_Wd a0 Z) (ws : List Jvm.Cond) (fm : Value) (i : Int32) (n : Int32) (h0 : Heap) (n0 : Nat) (Z0 : n0 ≤ h0.size) (Sf : Sta Z h0 "jdk/internal/util/Preconditions" "SIOOBE_FORMATTER" "Ljava/util/function/BiFunction;" fm) (hfm : fm.isRef = true) (hi0 : ¬ (i < (0 : Int32))) (hin : i < n) :
    own_Met l (⟨"java/lang/String", "checkIndex", "(II)V"⟩ : MethodName) jdk_42_method_155_code 2 none ws ({ frames := 1, cells := 0, slots := 0, locals := 14 } : Room) Z #[(.int i), (.int n)] h0 (fun v h L => v = none ∧ Fr n0 L ∧ h = h0) := by
  refine own_body (plainFor_of_name pn_2) ?_
  intro p e s m below meth c s₁ X0 hx hby hml hown hnm hret hlk hZ e0
  replace hown : s.vm.findClass "java/lang/String" = some m.cls := hown
  replace hml : c.maxLocals = 2 := hml
  replace hret : meth.sig.returnType = none := hret
  have N0 := Fr.nil n0
  refine own_ef (L0 := #[.val (.int i), .val (.int n)]) (by first | (simp [entryFrame, mkF, argsToLocals, Value.category]; done) | rfl) ?_
  rcases ref_cases hfm with rfl | ⟨fa, rfl⟩
  · skip
    refine own_iloadN X0 hx (hb hby d26_0) rfl ?_
    refine own_iloadN X0 hx (hb hby d26_1) rfl ?_
    refine own_getS X0 hx hZ hown (host := "") (Or.inl (own_m hw 129 rfl)) Via.refl e0 Sf (hb hby d26_2) fun T99 X99 e99 => ?_
    refine own_cStat (W := 0) (rest := []) X99 hx hZ [(.int i), (.int n), .null] hown (own_m hw 131 rfl) (own_m hw 132 rfl) (by decide) (own_m hw 133 rfl) (own_m hw 130 rfl) e99 (rmPCn l Z a0 hw [] i n  h0 n0 Z0 hi0 hin) (by rw [hml]; rfl) (lenOf pd_10 rfl) rfl (Nat.le_of_eq rfl) (hb hby d26_5) (by decide) (by decide) (by decide) (by decide) fun v100 T100 L100 X100 hQ100 => ?_
    obtain ⟨rfl, N100q, e100⟩ := hQ100
    have N100 := Fr.app N0 N100q
    show own_At p e below _ T100 m 8 _ [(.int i)]
    refine own_pop X100 hx (hb hby d26_8) rfl ?_
    refine own_retV X100 hx hlk hret (hb hby d26_9) (own_kN (by decide) (by decide) ?_)
    try rw [e100]
    exact ⟨rfl, N100, rfl⟩
  · skip
    refine own_iloadN X0 hx (hb hby d26_0) rfl ?_
    refine own_iloadN X0 hx (hb hby d26_1) rfl ?_
    refine own_getS X0 hx hZ hown (host := "") (Or.inl (own_m hw 129 rfl)) Via.refl e0 Sf (hb hby d26_2) fun T101 X101 e101 => ?_
    refine own_cStat (W := 0) (rest := []) X101 hx hZ [(.int i), (.int n), (.ref fa)] hown (own_m hw 131 rfl) (own_m hw 132 rfl) (by decide) (own_m hw 133 rfl) (own_m hw 130 rfl) e101 (rmPCr l Z a0 hw [] i n fa h0 n0 Z0 hi0 hin) (by rw [hml]; rfl) (lenOf pd_10 rfl) rfl (Nat.le_of_eq rfl) (hb hby d26_5) (by decide) (by decide) (by decide) (by decide) fun v102 T102 L102 X102 hQ102 => ?_
    obtain ⟨rfl, N102q, e102⟩ := hQ102
    have N102 := Fr.app N0 N102q
    show own_At p e below _ T102 m 8 _ [(.int i)]
    refine own_pop X102 hx (hb hby d26_8) rfl ?_
    refine own_retV X102 hx hlk hret (hb hby d26_9) (own_kN (by decide) (by decide) ?_)
    try rw [e102]
    exact ⟨rfl, N102, rfl⟩
theorem d25_0 : decode jdk_43_method_2_code 0 = .ok (.iload_n 1, 1) := by decide +kernel
theorem d25_1 : decode jdk_43_method_2_code 1 = .ok (.aload_n 0, 1) := by decide +kernel
theorem d25_2 : decode jdk_43_method_2_code 2 = .ok (.arraylength, 1) := by decide +kernel
theorem d25_3 : decode jdk_43_method_2_code 3 = .ok (.invokestatic 9, 3) := by decide +kernel
theorem d25_6 : decode jdk_43_method_2_code 6 = .ok (.aload_n 0, 1) := by decide +kernel
theorem d25_7 : decode jdk_43_method_2_code 7 = .ok (.iload_n 1, 1) := by decide +kernel
theorem d25_8 : decode jdk_43_method_2_code 8 = .ok (.baload, 1) := by decide +kernel
theorem d25_9 : decode jdk_43_method_2_code 9 = .ok (.sipush 255, 3) := by decide +kernel
theorem d25_12 : decode jdk_43_method_2_code 12 = .ok (.iand, 1) := by decide +kernel
theorem d25_13 : decode jdk_43_method_2_code 13 = .ok (.i2c, 1) := by decide +kernel
theorem d25_14 : decode jdk_43_method_2_code 14 = .ok (.ireturn, 1) := by decide +kernel
theorem pd_11 : parseMethodDescriptor "(II)V" = some ⟨[.int, .int], none⟩ := by decide +kernel
set_option maxRecDepth 65536 in
set_option maxHeartbeats 40000000 in
theorem rmLC_1 (l : Launch) (Z : State) (a0 : Array Value) (hw : own_Wd a0 Z) (ws : List Jvm.Cond) (b : Addr) (kb : ClassId)  (x : Int32) (fm : Value)  (h0 : Heap) (n0 : Nat) (Z0 : n0 ≤ h0.size) (Sf : Sta Z h0 "jdk/internal/util/Preconditions" "SIOOBE_FORMATTER" "Ljava/util/function/BiFunction;" fm) (hfm : fm.isRef = true) (Vb : Arv Z h0 b kb .byte (1 : Int32) [(.int (x.toInt8.toInt32))] (.int 0)) (lo : ¬ x < (0 : Int32)) (hi : ¬ (255 : Int32) < x) :
    own_Met l (⟨"java/lang/StringLatin1", "charAt", "([BI)C"⟩ : MethodName) jdk_43_method_2_code 2 (some .char) ws ({ frames := 2, cells := 0, slots := 0, locals := 27 } : Room) Z #[(.ref b), (.int 0)] h0 (fun v h L => v = some (.int x) ∧ Fr n0 L ∧ h = h0) := by
  refine own_body (plainFor_of_name pn_3) ?_
  intro p e s m below meth c s₁ X0 hx hby hml hown hnm hret hlk hZ e0
  replace hown : s.vm.findClass "java/lang/StringLatin1" = some m.cls := hown
  replace hml : c.maxLocals = 2 := hml
  replace hret : meth.sig.returnType = (some .char) := hret
  have N0 := Fr.nil n0
  refine own_ef (L0 := #[.val (.ref b), .val (.int 0)]) (by first | (simp [entryFrame, mkF, argsToLocals, Value.category]; done) | rfl) ?_
  refine own_iloadN X0 hx (hb hby d25_0) rfl ?_
  refine own_aloadN X0 hx (hb hby d25_1) rfl rfl ?_
  refine own_arraylength X0 hx hZ e0 (own_alnV Vb) (hb hby d25_2) ?_
  refine own_cStat (W := 0) (rest := []) X0 hx hZ [(.int 0), (.int 1)] hown (own_m hw 126 rfl) (own_m hw 127 rfl) (by decide) (own_m hw 128 rfl) (own_m hw 9 rfl) e0 (rmSCI l Z a0 hw [] fm (0 : Int32) (1 : Int32) h0 n0 Z0 Sf hfm (by decide) (by decide)) (by rw [hml]; rfl) (lenOf pd_11 rfl) rfl (Nat.le_of_eq rfl) (hb hby d25_3) (by decide) (by decide) (by decide) (by decide) fun v103 T103 L103 X103 hQ103 => ?_
  obtain ⟨rfl, N103q, e103⟩ := hQ103
  have N103 := Fr.app N0 N103q
  show own_At p e below _ T103 m 6 _ []
  refine own_aloadN X103 hx (hb hby d25_6) rfl rfl ?_
  refine own_iloadN X103 hx (hb hby d25_7) rfl ?_
  refine own_baload X103 hx hZ (.int (x.toInt8.toInt32)) e103 Vb ⟨by decide, by decide⟩ rfl (hb hby d25_8) ?_
  refine own_sipush X103 hx 255 (hb hby d25_9) rfl ?_
  refine own_iand X103 hx (hb hby d25_12) ?_
  refine own_i2c X103 hx (hb hby d25_13) ?_
  rw [own_nlc lo hi]
  refine own_retN X103 hx hlk hret (by simp) (own_narc lo hi) (hb hby d25_14) (own_kN (by decide) (by decide) ?_)
  try rw [e103]
  exact ⟨rfl, N103, rfl⟩
theorem d24_0 : decode jdk_42_method_56_code 0 = .ok (.aload_n 0, 1) := by decide +kernel
theorem d24_1 : decode jdk_42_method_56_code 1 = .ok (.invokevirtual 492, 3) := by decide +kernel
theorem d24_4 : decode jdk_42_method_56_code 4 = .ok (.ifCond .eq 12, 3) := by decide +kernel
theorem d24_7 : decode jdk_42_method_56_code 7 = .ok (.aload_n 0, 1) := by decide +kernel
theorem d24_8 : decode jdk_42_method_56_code 8 = .ok (.getfield 9, 3) := by decide +kernel
theorem d24_11 : decode jdk_42_method_56_code 11 = .ok (.iload_n 1, 1) := by decide +kernel
theorem d24_12 : decode jdk_42_method_56_code 12 = .ok (.invokestatic 495, 3) := by decide +kernel
theorem d24_15 : decode jdk_42_method_56_code 15 = .ok (.ireturn, 1) := by decide +kernel
theorem pd_12 : parseMethodDescriptor "([BI)C" = some ⟨[(.array .byte), .int], some .char⟩ := by decide +kernel
set_option maxRecDepth 65536 in
set_option maxHeartbeats 40000000 in
theorem rmCA_1 (l : Launch) (Z : State) (a0 : Array Value) (hw : own_Wd a0 Z) (ws : List Jvm.Cond) (a b : Addr) (kb : ClassId)  (x cs : Int32) (fm : Value)  (h0 : Heap) (n0 : Nat) (Z0 : n0 ≤ h0.size) (Sc : Sta Z h0 "java/lang/String" "COMPACT_STRINGS" "Z" (.int cs)) (hcs : ¬ (cs = (0 : Int32))) (Ea : Exa Z h0 a "java/lang/String") (Fv : Fld Z h0 a "java/lang/String" "value" "[B" (.ref b)) (Fc : Fld Z h0 a "java/lang/String" "coder" "B" (.int 0)) (Vb : Arv Z h0 b kb .byte (1 : Int32) [(.int (x.toInt8.toInt32))] (.int 0)) (Sf : Sta Z h0 "jdk/internal/util/Preconditions" "SIOOBE_FORMATTER" "Ljava/util/function/BiFunction;" fm) (hfm : fm.isRef = true) (lo : ¬ x < (0 : Int32)) (hi : ¬ (255 : Int32) < x) :
    own_Met l (⟨"java/lang/String", "charAt", "(I)C"⟩ : MethodName) jdk_42_method_56_code 2 (some .char) ws ({ frames := 3, cells := 0, slots := 0, locals := 40 } : Room) Z #[(.ref a), (.int 0)] h0 (fun v h L => v = some (.int x) ∧ Fr n0 L ∧ h = h0) := by
  refine own_body (plainFor_of_name pn_2) ?_
  intro p e s m below meth c s₁ X0 hx hby hml hown hnm hret hlk hZ e0
  replace hown : s.vm.findClass "java/lang/String" = some m.cls := hown
  replace hml : c.maxLocals = 2 := hml
  replace hret : meth.sig.returnType = (some .char) := hret
  have N0 := Fr.nil n0
  refine own_ef (L0 := #[.val (.ref a), .val (.int 0)]) (by first | (simp [entryFrame, mkF, argsToLocals, Value.category]; done) | rfl) ?_
  refine own_aloadN X0 hx (hb hby d24_0) rfl rfl ?_
  refine own_cVirt (W := 0) (rest := []) X0 hx hZ [] hown (own_m hw 84 rfl) (own_m hw 85 rfl) (notFace_of_selects (args := #[]) (mvT hZ (own_m hw 87 rfl))) (own_m hw 87 rfl) (own_m hw 86 rfl) (by decide) (own_m hw 88 rfl) (own_m hw 9 rfl) e0 Ea (rmL l Z a0 hw [] a cs h0 n0 Z0 Sc hcs Fc) (by rw [hml]; rfl) (lenOf pd_8 rfl) rfl (Nat.le_of_eq rfl) (hb hby d24_1) (by decide) (by decide) (by decide) (by decide) fun v104 T104 L104 X104 hQ104 => ?_
  obtain ⟨rfl, N104q, e104⟩ := hQ104
  have N104 := Fr.app N0 N104q
  show own_At p e below _ T104 m 4 _ [(.int 1)]
  refine own_ifNo X104 hx (hb hby d24_4) (feq (by decide : ¬ ((1 : Int32) = (0 : Int32)))).1 ?_
  refine own_aloadN X104 hx (hb hby d24_7) rfl rfl ?_
  refine own_getF X104 hx hZ hown (host := "") (Or.inl (own_m hw 34 rfl)) Via.refl e104 Fv (hb hby d24_8) fun T105 X105 e105 => ?_
  refine own_iloadN X105 hx (hb hby d24_11) rfl ?_
  refine own_cStat (W := 0) (rest := []) X105 hx hZ [(.ref b), (.int 0)] hown (own_m hw 123 rfl) (own_m hw 124 rfl) (by decide) (own_m hw 125 rfl) (own_m hw 92 rfl) e105 (rmLC_1 l Z a0 hw [] b kb  x fm h0 n0 Z0 Sf hfm Vb lo hi) (by rw [hml]; rfl) (lenOf pd_12 rfl) rfl (Nat.le_of_eq rfl) (hb hby d24_12) (by decide) (by decide) (by decide) (by decide) fun v106 T106 L106 X106 hQ106 => ?_
  obtain ⟨rfl, N106q, e106⟩ := hQ106
  have N106 := Fr.app N104 N106q
  show own_At p e below _ T106 m 15 _ [(.int x)]
  refine own_retN X106 hx hlk hret (by simp) (own_narc lo hi) (hb hby d24_15) (own_kN (by decide) (by decide) ?_)
  try rw [e106]
  exact ⟨rfl, N106, rfl⟩
set_option maxRecDepth 65536 in
set_option maxHeartbeats 40000000 in
theorem rmLC_2 (l : Launch) (Z : State) (a0 : Array Value) (hw : own_Wd a0 Z) (ws : List Jvm.Cond) (b : Addr) (kb : ClassId) (d0 : Int32) (x : Int32) (fm : Value)  (h0 : Heap) (n0 : Nat) (Z0 : n0 ≤ h0.size) (Sf : Sta Z h0 "jdk/internal/util/Preconditions" "SIOOBE_FORMATTER" "Ljava/util/function/BiFunction;" fm) (hfm : fm.isRef = true) (Vb : Arv Z h0 b kb .byte (2 : Int32) [(.int d0), (.int (x.toInt8.toInt32))] (.int 0)) (lo : ¬ x < (0 : Int32)) (hi : ¬ (255 : Int32) < x) :
    own_Met l (⟨"java/lang/StringLatin1", "charAt", "([BI)C"⟩ : MethodName) jdk_43_method_2_code 2 (some .char) ws ({ frames := 2, cells := 0, slots := 0, locals := 27 } : Room) Z #[(.ref b), (.int 1)] h0 (fun v h L => v = some (.int x) ∧ Fr n0 L ∧ h = h0) := by
  refine own_body (plainFor_of_name pn_3) ?_
  intro p e s m below meth c s₁ X0 hx hby hml hown hnm hret hlk hZ e0
  replace hown : s.vm.findClass "java/lang/StringLatin1" = some m.cls := hown
  replace hml : c.maxLocals = 2 := hml
  replace hret : meth.sig.returnType = (some .char) := hret
  have N0 := Fr.nil n0
  refine own_ef (L0 := #[.val (.ref b), .val (.int 1)]) (by first | (simp [entryFrame, mkF, argsToLocals, Value.category]; done) | rfl) ?_
  refine own_iloadN X0 hx (hb hby d25_0) rfl ?_
  refine own_aloadN X0 hx (hb hby d25_1) rfl rfl ?_
  refine own_arraylength X0 hx hZ e0 (own_alnV Vb) (hb hby d25_2) ?_
  refine own_cStat (W := 0) (rest := []) X0 hx hZ [(.int 1), (.int 2)] hown (own_m hw 126 rfl) (own_m hw 127 rfl) (by decide) (own_m hw 128 rfl) (own_m hw 9 rfl) e0 (rmSCI l Z a0 hw [] fm (1 : Int32) (2 : Int32) h0 n0 Z0 Sf hfm (by decide) (by decide)) (by rw [hml]; rfl) (lenOf pd_11 rfl) rfl (Nat.le_of_eq rfl) (hb hby d25_3) (by decide) (by decide) (by decide) (by decide) fun v107 T107 L107 X107 hQ107 => ?_
  obtain ⟨rfl, N107q, e107⟩ := hQ107
  have N107 := Fr.app N0 N107q
  show own_At p e below _ T107 m 6 _ []
  refine own_aloadN X107 hx (hb hby d25_6) rfl rfl ?_
  refine own_iloadN X107 hx (hb hby d25_7) rfl ?_
  refine own_baload X107 hx hZ (.int (x.toInt8.toInt32)) e107 Vb ⟨by decide, by decide⟩ rfl (hb hby d25_8) ?_
  refine own_sipush X107 hx 255 (hb hby d25_9) rfl ?_
  refine own_iand X107 hx (hb hby d25_12) ?_
  refine own_i2c X107 hx (hb hby d25_13) ?_
  rw [own_nlc lo hi]
  refine own_retN X107 hx hlk hret (by simp) (own_narc lo hi) (hb hby d25_14) (own_kN (by decide) (by decide) ?_)
  try rw [e107]
  exact ⟨rfl, N107, rfl⟩
set_option maxRecDepth 65536 in
set_option maxHeartbeats 40000000 in
theorem rmCA_2 (l : Launch) (Z : State) (a0 : Array Value) (hw : own_Wd a0 Z) (ws : List Jvm.Cond) (a b : Addr) (kb : ClassId) (d0 : Int32) (x cs : Int32) (fm : Value)  (h0 : Heap) (n0 : Nat) (Z0 : n0 ≤ h0.size) (Sc : Sta Z h0 "java/lang/String" "COMPACT_STRINGS" "Z" (.int cs)) (hcs : ¬ (cs = (0 : Int32))) (Ea : Exa Z h0 a "java/lang/String") (Fv : Fld Z h0 a "java/lang/String" "value" "[B" (.ref b)) (Fc : Fld Z h0 a "java/lang/String" "coder" "B" (.int 0)) (Vb : Arv Z h0 b kb .byte (2 : Int32) [(.int d0), (.int (x.toInt8.toInt32))] (.int 0)) (Sf : Sta Z h0 "jdk/internal/util/Preconditions" "SIOOBE_FORMATTER" "Ljava/util/function/BiFunction;" fm) (hfm : fm.isRef = true) (lo : ¬ x < (0 : Int32)) (hi : ¬ (255 : Int32) < x) :
    own_Met l (⟨"java/lang/String", "charAt", "(I)C"⟩ : MethodName) jdk_42_method_56_code 2 (some .char) ws ({ frames := 3, cells := 0, slots := 0, locals := 40 } : Room) Z #[(.ref a), (.int 1)] h0 (fun v h L => v = some (.int x) ∧ Fr n0 L ∧ h = h0) := by
  refine own_body (plainFor_of_name pn_2) ?_
  intro p e s m below meth c s₁ X0 hx hby hml hown hnm hret hlk hZ e0
  replace hown : s.vm.findClass "java/lang/String" = some m.cls := hown
  replace hml : c.maxLocals = 2 := hml
  replace hret : meth.sig.returnType = (some .char) := hret
  have N0 := Fr.nil n0
  refine own_ef (L0 := #[.val (.ref a), .val (.int 1)]) (by first | (simp [entryFrame, mkF, argsToLocals, Value.category]; done) | rfl) ?_
  refine own_aloadN X0 hx (hb hby d24_0) rfl rfl ?_
  refine own_cVirt (W := 0) (rest := []) X0 hx hZ [] hown (own_m hw 84 rfl) (own_m hw 85 rfl) (notFace_of_selects (args := #[]) (mvT hZ (own_m hw 87 rfl))) (own_m hw 87 rfl) (own_m hw 86 rfl) (by decide) (own_m hw 88 rfl) (own_m hw 9 rfl) e0 Ea (rmL l Z a0 hw [] a cs h0 n0 Z0 Sc hcs Fc) (by rw [hml]; rfl) (lenOf pd_8 rfl) rfl (Nat.le_of_eq rfl) (hb hby d24_1) (by decide) (by decide) (by decide) (by decide) fun v108 T108 L108 X108 hQ108 => ?_
  obtain ⟨rfl, N108q, e108⟩ := hQ108
  have N108 := Fr.app N0 N108q
  show own_At p e below _ T108 m 4 _ [(.int 1)]
  refine own_ifNo X108 hx (hb hby d24_4) (feq (by decide : ¬ ((1 : Int32) = (0 : Int32)))).1 ?_
  refine own_aloadN X108 hx (hb hby d24_7) rfl rfl ?_
  refine own_getF X108 hx hZ hown (host := "") (Or.inl (own_m hw 34 rfl)) Via.refl e108 Fv (hb hby d24_8) fun T109 X109 e109 => ?_
  refine own_iloadN X109 hx (hb hby d24_11) rfl ?_
  refine own_cStat (W := 0) (rest := []) X109 hx hZ [(.ref b), (.int 1)] hown (own_m hw 123 rfl) (own_m hw 124 rfl) (by decide) (own_m hw 125 rfl) (own_m hw 92 rfl) e109 (rmLC_2 l Z a0 hw [] b kb d0 x fm h0 n0 Z0 Sf hfm Vb lo hi) (by rw [hml]; rfl) (lenOf pd_12 rfl) rfl (Nat.le_of_eq rfl) (hb hby d24_12) (by decide) (by decide) (by decide) (by decide) fun v110 T110 L110 X110 hQ110 => ?_
  obtain ⟨rfl, N110q, e110⟩ := hQ110
  have N110 := Fr.app N108 N110q
  show own_At p e below _ T110 m 15 _ [(.int x)]
  refine own_retN X110 hx hlk hret (by simp) (own_narc lo hi) (hb hby d24_15) (own_kN (by decide) (by decide) ?_)
  try rw [e110]
  exact ⟨rfl, N110, rfl⟩
set_option maxRecDepth 65536 in
set_option maxHeartbeats 40000000 in
theorem rmLC_3 (l : Launch) (Z : State) (a0 : Array Value) (hw : own_Wd a0 Z) (ws : List Jvm.Cond) (b : Addr) (kb : ClassId) (d0 d1 : Int32) (x : Int32) (fm : Value)  (h0 : Heap) (n0 : Nat) (Z0 : n0 ≤ h0.size) (Sf : Sta Z h0 "jdk/internal/util/Preconditions" "SIOOBE_FORMATTER" "Ljava/util/function/BiFunction;" fm) (hfm : fm.isRef = true) (Vb : Arv Z h0 b kb .byte (3 : Int32) [(.int d0), (.int d1), (.int (x.toInt8.toInt32))] (.int 0)) (lo : ¬ x < (0 : Int32)) (hi : ¬ (255 : Int32) < x) :
    own_Met l (⟨"java/lang/StringLatin1", "charAt", "([BI)C"⟩ : MethodName) jdk_43_method_2_code 2 (some .char) ws ({ frames := 2, cells := 0, slots := 0, locals := 27 } : Room) Z #[(.ref b), (.int 2)] h0 (fun v h L => v = some (.int x) ∧ Fr n0 L ∧ h = h0) := by
  refine own_body (plainFor_of_name pn_3) ?_
  intro p e s m below meth c s₁ X0 hx hby hml hown hnm hret hlk hZ e0
  replace hown : s.vm.findClass "java/lang/StringLatin1" = some m.cls := hown
  replace hml : c.maxLocals = 2 := hml
  replace hret : meth.sig.returnType = (some .char) := hret
  have N0 := Fr.nil n0
  refine own_ef (L0 := #[.val (.ref b), .val (.int 2)]) (by first | (simp [entryFrame, mkF, argsToLocals, Value.category]; done) | rfl) ?_
  refine own_iloadN X0 hx (hb hby d25_0) rfl ?_
  refine own_aloadN X0 hx (hb hby d25_1) rfl rfl ?_
  refine own_arraylength X0 hx hZ e0 (own_alnV Vb) (hb hby d25_2) ?_
  refine own_cStat (W := 0) (rest := []) X0 hx hZ [(.int 2), (.int 3)] hown (own_m hw 126 rfl) (own_m hw 127 rfl) (by decide) (own_m hw 128 rfl) (own_m hw 9 rfl) e0 (rmSCI l Z a0 hw [] fm (2 : Int32) (3 : Int32) h0 n0 Z0 Sf hfm (by decide) (by decide)) (by rw [hml]; rfl) (lenOf pd_11 rfl) rfl (Nat.le_of_eq rfl) (hb hby d25_3) (by decide) (by decide) (by decide) (by decide) fun v111 T111 L111 X111 hQ111 => ?_
  obtain ⟨rfl, N111q, e111⟩ := hQ111
  have N111 := Fr.app N0 N111q
  show own_At p e below _ T111 m 6 _ []
  refine own_aloadN X111 hx (hb hby d25_6) rfl rfl ?_
  refine own_iloadN X111 hx (hb hby d25_7) rfl ?_
  refine own_baload X111 hx hZ (.int (x.toInt8.toInt32)) e111 Vb ⟨by decide, by decide⟩ rfl (hb hby d25_8) ?_
  refine own_sipush X111 hx 255 (hb hby d25_9) rfl ?_
  refine own_iand X111 hx (hb hby d25_12) ?_
  refine own_i2c X111 hx (hb hby d25_13) ?_
  rw [own_nlc lo hi]
  refine own_retN X111 hx hlk hret (by simp) (own_narc lo hi) (hb hby d25_14) (own_kN (by decide) (by decide) ?_)
  try rw [e111]
  exact ⟨rfl, N111, rfl⟩
set_option maxRecDepth 65536 in
set_option maxHeartbeats 40000000 in
theorem rmCA_3 (l : Launch) (Z : State) (a0 : Array Value) (hw : own_Wd a0 Z) (ws : List Jvm.Cond) (a b : Addr) (kb : ClassId) (d0 d1 : Int32) (x cs : Int32) (fm : Value)  (h0 : Heap) (n0 : Nat) (Z0 : n0 ≤ h0.size) (Sc : Sta Z h0 "java/lang/String" "COMPACT_STRINGS" "Z" (.int cs)) (hcs : ¬ (cs = (0 : Int32))) (Ea : Exa Z h0 a "java/lang/String") (Fv : Fld Z h0 a "java/lang/String" "value" "[B" (.ref b)) (Fc : Fld Z h0 a "java/lang/String" "coder" "B" (.int 0)) (Vb : Arv Z h0 b kb .byte (3 : Int32) [(.int d0), (.int d1), (.int (x.toInt8.toInt32))] (.int 0)) (Sf : Sta Z h0 "jdk/internal/util/Preconditions" "SIOOBE_FORMATTER" "Ljava/util/function/BiFunction;" fm) (hfm : fm.isRef = true) (lo : ¬ x < (0 : Int32)) (hi : ¬ (255 : Int32) < x) :
    own_Met l (⟨"java/lang/String", "charAt", "(I)C"⟩ : MethodName) jdk_42_method_56_code 2 (some .char) ws ({ frames := 3, cells := 0, slots := 0, locals := 40 } : Room) Z #[(.ref a), (.int 2)] h0 (fun v h L => v = some (.int x) ∧ Fr n0 L ∧ h = h0) := by
  refine own_body (plainFor_of_name pn_2) ?_
  intro p e s m below meth c s₁ X0 hx hby hml hown hnm hret hlk hZ e0
  replace hown : s.vm.findClass "java/lang/String" = some m.cls := hown
  replace hml : c.maxLocals = 2 := hml
  replace hret : meth.sig.returnType = (some .char) := hret
  have N0 := Fr.nil n0
  refine own_ef (L0 := #[.val (.ref a), .val (.int 2)]) (by first | (simp [entryFrame, mkF, argsToLocals, Value.category]; done) | rfl) ?_
  refine own_aloadN X0 hx (hb hby d24_0) rfl rfl ?_
  refine own_cVirt (W := 0) (rest := []) X0 hx hZ [] hown (own_m hw 84 rfl) (own_m hw 85 rfl) (notFace_of_selects (args := #[]) (mvT hZ (own_m hw 87 rfl))) (own_m hw 87 rfl) (own_m hw 86 rfl) (by decide) (own_m hw 88 rfl) (own_m hw 9 rfl) e0 Ea (rmL l Z a0 hw [] a cs h0 n0 Z0 Sc hcs Fc) (by rw [hml]; rfl) (lenOf pd_8 rfl) rfl (Nat.le_of_eq rfl) (hb hby d24_1) (by decide) (by decide) (by decide) (by decide) fun v112 T112 L112 X112 hQ112 => ?_
  obtain ⟨rfl, N112q, e112⟩ := hQ112
  have N112 := Fr.app N0 N112q
  show own_At p e below _ T112 m 4 _ [(.int 1)]
  refine own_ifNo X112 hx (hb hby d24_4) (feq (by decide : ¬ ((1 : Int32) = (0 : Int32)))).1 ?_
  refine own_aloadN X112 hx (hb hby d24_7) rfl rfl ?_
  refine own_getF X112 hx hZ hown (host := "") (Or.inl (own_m hw 34 rfl)) Via.refl e112 Fv (hb hby d24_8) fun T113 X113 e113 => ?_
  refine own_iloadN X113 hx (hb hby d24_11) rfl ?_
  refine own_cStat (W := 0) (rest := []) X113 hx hZ [(.ref b), (.int 2)] hown (own_m hw 123 rfl) (own_m hw 124 rfl) (by decide) (own_m hw 125 rfl) (own_m hw 92 rfl) e113 (rmLC_3 l Z a0 hw [] b kb d0 d1 x fm h0 n0 Z0 Sf hfm Vb lo hi) (by rw [hml]; rfl) (lenOf pd_12 rfl) rfl (Nat.le_of_eq rfl) (hb hby d24_12) (by decide) (by decide) (by decide) (by decide) fun v114 T114 L114 X114 hQ114 => ?_
  obtain ⟨rfl, N114q, e114⟩ := hQ114
  have N114 := Fr.app N112 N114q
  show own_At p e below _ T114 m 15 _ [(.int x)]
  refine own_retN X114 hx hlk hret (by simp) (own_narc lo hi) (hb hby d24_15) (own_kN (by decide) (by decide) ?_)
  try rw [e114]
  exact ⟨rfl, N114, rfl⟩
set_option maxRecDepth 65536 in
set_option maxHeartbeats 40000000 in
theorem rmLC_4 (l : Launch) (Z : State) (a0 : Array Value) (hw : own_Wd a0 Z) (ws : List Jvm.Cond) (b : Addr) (kb : ClassId) (d0 d1 d2 : Int32) (x : Int32) (fm : Value)  (h0 : Heap) (n0 : Nat) (Z0 : n0 ≤ h0.size) (Sf : Sta Z h0 "jdk/internal/util/Preconditions" "SIOOBE_FORMATTER" "Ljava/util/function/BiFunction;" fm) (hfm : fm.isRef = true) (Vb : Arv Z h0 b kb .byte (4 : Int32) [(.int d0), (.int d1), (.int d2), (.int (x.toInt8.toInt32))] (.int 0)) (lo : ¬ x < (0 : Int32)) (hi : ¬ (255 : Int32) < x) :
    own_Met l (⟨"java/lang/StringLatin1", "charAt", "([BI)C"⟩ : MethodName) jdk_43_method_2_code 2 (some .char) ws ({ frames := 2, cells := 0, slots := 0, locals := 27 } : Room) Z #[(.ref b), (.int 3)] h0 (fun v h L => v = some (.int x) ∧ Fr n0 L ∧ h = h0) := by
  refine own_body (plainFor_of_name pn_3) ?_
  intro p e s m below meth c s₁ X0 hx hby hml hown hnm hret hlk hZ e0
  replace hown : s.vm.findClass "java/lang/StringLatin1" = some m.cls := hown
  replace hml : c.maxLocals = 2 := hml
  replace hret : meth.sig.returnType = (some .char) := hret
  have N0 := Fr.nil n0
  refine own_ef (L0 := #[.val (.ref b), .val (.int 3)]) (by first | (simp [entryFrame, mkF, argsToLocals, Value.category]; done) | rfl) ?_
  refine own_iloadN X0 hx (hb hby d25_0) rfl ?_
  refine own_aloadN X0 hx (hb hby d25_1) rfl rfl ?_
  refine own_arraylength X0 hx hZ e0 (own_alnV Vb) (hb hby d25_2) ?_
  refine own_cStat (W := 0) (rest := []) X0 hx hZ [(.int 3), (.int 4)] hown (own_m hw 126 rfl) (own_m hw 127 rfl) (by decide) (own_m hw 128 rfl) (own_m hw 9 rfl) e0 (rmSCI l Z a0 hw [] fm (3 : Int32) (4 : Int32) h0 n0 Z0 Sf hfm (by decide) (by decide)) (by rw [hml]; rfl) (lenOf pd_11 rfl) rfl (Nat.le_of_eq rfl) (hb hby d25_3) (by decide) (by decide) (by decide) (by decide) fun v115 T115 L115 X115 hQ115 => ?_
  obtain ⟨rfl, N115q, e115⟩ := hQ115
  have N115 := Fr.app N0 N115q
  show own_At p e below _ T115 m 6 _ []
  refine own_aloadN X115 hx (hb hby d25_6) rfl rfl ?_
  refine own_iloadN X115 hx (hb hby d25_7) rfl ?_
  refine own_baload X115 hx hZ (.int (x.toInt8.toInt32)) e115 Vb ⟨by decide, by decide⟩ rfl (hb hby d25_8) ?_
  refine own_sipush X115 hx 255 (hb hby d25_9) rfl ?_
  refine own_iand X115 hx (hb hby d25_12) ?_
  refine own_i2c X115 hx (hb hby d25_13) ?_
  rw [own_nlc lo hi]
  refine own_retN X115 hx hlk hret (by simp) (own_narc lo hi) (hb hby d25_14) (own_kN (by decide) (by decide) ?_)
  try rw [e115]
  exact ⟨rfl, N115, rfl⟩
set_option maxRecDepth 65536 in
set_option maxHeartbeats 40000000 in
theorem rmCA_4 (l : Launch) (Z : State) (a0 : Array Value) (hw : own_Wd a0 Z) (ws : List Jvm.Cond) (a b : Addr) (kb : ClassId) (d0 d1 d2 : Int32) (x cs : Int32) (fm : Value)  (h0 : Heap) (n0 : Nat) (Z0 : n0 ≤ h0.size) (Sc : Sta Z h0 "java/lang/String" "COMPACT_STRINGS" "Z" (.int cs)) (hcs : ¬ (cs = (0 : Int32))) (Ea : Exa Z h0 a "java/lang/String") (Fv : Fld Z h0 a "java/lang/String" "value" "[B" (.ref b)) (Fc : Fld Z h0 a "java/lang/String" "coder" "B" (.int 0)) (Vb : Arv Z h0 b kb .byte (4 : Int32) [(.int d0), (.int d1), (.int d2), (.int (x.toInt8.toInt32))] (.int 0)) (Sf : Sta Z h0 "jdk/internal/util/Preconditions" "SIOOBE_FORMATTER" "Ljava/util/function/BiFunction;" fm) (hfm : fm.isRef = true) (lo : ¬ x < (0 : Int32)) (hi : ¬ (255 : Int32) < x) :
    own_Met l (⟨"java/lang/String", "charAt", "(I)C"⟩ : MethodName) jdk_42_method_56_code 2 (some .char) ws ({ frames := 3, cells := 0, slots := 0, locals := 40 } : Room) Z #[(.ref a), (.int 3)] h0 (fun v h L => v = some (.int x) ∧ Fr n0 L ∧ h = h0) := by
  refine own_body (plainFor_of_name pn_2) ?_
  intro p e s m below meth c s₁ X0 hx hby hml hown hnm hret hlk hZ e0
  replace hown : s.vm.findClass "java/lang/String" = some m.cls := hown
  replace hml : c.maxLocals = 2 := hml
  replace hret : meth.sig.returnType = (some .char) := hret
  have N0 := Fr.nil n0
  refine own_ef (L0 := #[.val (.ref a), .val (.int 3)]) (by first | (simp [entryFrame, mkF, argsToLocals, Value.category]; done) | rfl) ?_
  refine own_aloadN X0 hx (hb hby d24_0) rfl rfl ?_
  refine own_cVirt (W := 0) (rest := []) X0 hx hZ [] hown (own_m hw 84 rfl) (own_m hw 85 rfl) (notFace_of_selects (args := #[]) (mvT hZ (own_m hw 87 rfl))) (own_m hw 87 rfl) (own_m hw 86 rfl) (by decide) (own_m hw 88 rfl) (own_m hw 9 rfl) e0 Ea (rmL l Z a0 hw [] a cs h0 n0 Z0 Sc hcs Fc) (by rw [hml]; rfl) (lenOf pd_8 rfl) rfl (Nat.le_of_eq rfl) (hb hby d24_1) (by decide) (by decide) (by decide) (by decide) fun v116 T116 L116 X116 hQ116 => ?_
  obtain ⟨rfl, N116q, e116⟩ := hQ116
  have N116 := Fr.app N0 N116q
  show own_At p e below _ T116 m 4 _ [(.int 1)]
  refine own_ifNo X116 hx (hb hby d24_4) (feq (by decide : ¬ ((1 : Int32) = (0 : Int32)))).1 ?_
  refine own_aloadN X116 hx (hb hby d24_7) rfl rfl ?_
  refine own_getF X116 hx hZ hown (host := "") (Or.inl (own_m hw 34 rfl)) Via.refl e116 Fv (hb hby d24_8) fun T117 X117 e117 => ?_
  refine own_iloadN X117 hx (hb hby d24_11) rfl ?_
  refine own_cStat (W := 0) (rest := []) X117 hx hZ [(.ref b), (.int 3)] hown (own_m hw 123 rfl) (own_m hw 124 rfl) (by decide) (own_m hw 125 rfl) (own_m hw 92 rfl) e117 (rmLC_4 l Z a0 hw [] b kb d0 d1 d2 x fm h0 n0 Z0 Sf hfm Vb lo hi) (by rw [hml]; rfl) (lenOf pd_12 rfl) rfl (Nat.le_of_eq rfl) (hb hby d24_12) (by decide) (by decide) (by decide) (by decide) fun v118 T118 L118 X118 hQ118 => ?_
  obtain ⟨rfl, N118q, e118⟩ := hQ118
  have N118 := Fr.app N116 N118q
  show own_At p e below _ T118 m 15 _ [(.int x)]
  refine own_retN X118 hx hlk hret (by simp) (own_narc lo hi) (hb hby d24_15) (own_kN (by decide) (by decide) ?_)
  try rw [e118]
  exact ⟨rfl, N118, rfl⟩
theorem d11_0 : decode jdk_22_method_1_code 0 = .ok (.aload_n 0, 1) := by decide +kernel
theorem d11_1 : decode jdk_22_method_1_code 1 = .ok (.invokespecial 1, 3) := by decide +kernel
theorem d11_4 : decode jdk_22_method_1_code 4 = .ok (.return_, 1) := by decide +kernel
theorem pn_5 : plainName "java/util/AbstractCollection" = true := by first | (simp [plainName, overriddenIn]; done) | decide +kernel
set_option maxRecDepth 65536 in
set_option maxHeartbeats 40000000 in
theorem rmAC (l : Launch) (Z : State) (a0 : Array Value) (hw : own_Wd a0 Z) (ws : List Jvm.Cond)  (o : Addr) (h0 : Heap) (n0 : Nat) (Z0 : n0 ≤ h0.size) :
    own_Met l (⟨"java/util/AbstractCollection", "<init>", "()V"⟩ : MethodName) jdk_22_method_1_code 1 none ws ({ frames := 1, cells := 0, slots := 0, locals := 12 } : Room) Z #[(.ref o)] h0 (fun v h L => v = none ∧ Fr n0 L ∧ h = h0) := by
  refine own_body (plainFor_of_name pn_5) ?_
  intro p e s m below meth c s₁ X0 hx hby hml hown hnm hret hlk hZ e0
  replace hown : s.vm.findClass "java/util/AbstractCollection" = some m.cls := hown
  replace hml : c.maxLocals = 1 := hml
  replace hret : meth.sig.returnType = none := hret
  have N0 := Fr.nil n0
  refine own_ef (L0 := #[.val (.ref o)]) (by first | (simp [entryFrame, mkF, argsToLocals, Value.category]; done) | rfl) ?_
  refine own_aloadN X0 hx (hb hby d11_0) rfl rfl ?_
  refine own_initO (W := 0) X0 hx hZ hown (own_m hw 56 rfl) (own_m hw 18 rfl) (own_m hw 19 rfl) e0 (by rw [hml]; rfl) (hb hby d11_1) (by decide) (Nat.le_of_eq rfl) (by decide) fun T119 X119 e119 => ?_
  refine own_retV X119 hx hlk hret (hb hby d11_4) (own_kN (by decide) (by decide) ?_)
  try rw [e119]
  exact ⟨rfl, N0, rfl⟩
theorem d10_0 : decode jdk_39_method_1_code 0 = .ok (.aload_n 0, 1) := by decide +kernel
theorem d10_1 : decode jdk_39_method_1_code 1 = .ok (.invokespecial 1, 3) := by decide +kernel
theorem d10_4 : decode jdk_39_method_1_code 4 = .ok (.aload_n 0, 1) := by decide +kernel
theorem d10_5 : decode jdk_39_method_1_code 5 = .ok (.iconst 0, 1) := by decide +kernel
theorem d10_6 : decode jdk_39_method_1_code 6 = .ok (.putfield 7, 3) := by decide +kernel
theorem d10_9 : decode jdk_39_method_1_code 9 = .ok (.return_, 1) := by decide +kernel
theorem pn_6 : plainName "java/util/AbstractList" = true := by first | (simp [plainName, overriddenIn]; done) | decide +kernel
theorem pd_13 : parseMethodDescriptor "()V" = some ⟨[], none⟩ := by decide +kernel
set_option maxRecDepth 65536 in
set_option maxHeartbeats 40000000 in
theorem rmAL (l : Launch) (Z : State) (a0 : Array Value) (hw : own_Wd a0 Z) (ws : List Jvm.Cond) (o : Addr)  (h0 : Heap) (n0 : Nat) (Z0 : n0 ≤ h0.size) (Eo : Exa Z h0 o "com/example/amendtrail/amendtrail/write/Lines") (F_m : Fld Z h0 o "java/util/AbstractList" "modCount" "I" (.int 0)) (g_o : n0 ≤ o) (F_text : Fld Z h0 o "com/example/amendtrail/amendtrail/write/Lines" "text" "Ljava/lang/String;" .null) (F_size : Fld Z h0 o "com/example/amendtrail/amendtrail/write/Lines" "size" "I" (.int 0)) (F_starts : Fld Z h0 o "com/example/amendtrail/amendtrail/write/Lines" "starts" "[I" .null) :
    own_Met l (⟨"java/util/AbstractList", "<init>", "()V"⟩ : MethodName) jdk_39_method_1_code 1 none ws ({ frames := 2, cells := 0, slots := 0, locals := 24 } : Room) Z #[(.ref o)] h0 (fun v h L => v = none ∧ Fr n0 L ∧ Keep h0 h [o] ∧ Exa Z h o "com/example/amendtrail/amendtrail/write/Lines" ∧ Fld Z h o "com/example/amendtrail/amendtrail/write/Lines" "text" "Ljava/lang/String;" .null ∧ Fld Z h o "com/example/amendtrail/amendtrail/write/Lines" "size" "I" (.int 0) ∧ Fld Z h o "com/example/amendtrail/amendtrail/write/Lines" "starts" "[I" .null) := by
  refine own_body (plainFor_of_name pn_6) ?_
  intro p e s m below meth c s₁ X0 hx hby hml hown hnm hret hlk hZ e0
  replace hown : s.vm.findClass "java/util/AbstractList" = some m.cls := hown
  replace hml : c.maxLocals = 1 := hml
  replace hret : meth.sig.returnType = none := hret
  have N0 := Fr.nil n0
  refine own_ef (L0 := #[.val (.ref o)]) (by first | (simp [entryFrame, mkF, argsToLocals, Value.category]; done) | rfl) ?_
  refine own_aloadN X0 hx (hb hby d10_0) rfl rfl ?_
  refine own_cSpec (b := o) (W := 0) (rest := []) X0 hx hZ [] rfl hown (own_m hw 50 rfl) (own_m hw 51 rfl) (by decide) (own_m hw 55 rfl) (own_m hw 54 rfl) e0 (rmAC l Z a0 hw [] o h0 n0 Z0) (by rw [hml]; rfl) (lenOf pd_13 rfl) rfl (Nat.le_of_eq rfl) (hb hby d10_1) (by decide) (by decide) (by decide) (by decide) fun v120 T120 L120 X120 hQ120 => ?_
  obtain ⟨rfl, N120q, e120⟩ := hQ120
  have N120 := Fr.app N0 N120q
  show own_At p e below _ T120 m 4 _ []
  refine own_aloadN X120 hx (hb hby d10_4) rfl rfl ?_
  refine own_iconst X120 hx 0 (hb hby d10_5) rfl ?_
  refine own_putF X120 hx hZ hown (host := "") (Or.inl (own_m hw 57 rfl)) Via.refl e120 F_m Eo (Or.inl (own_m hw 58 rfl)) (own_m hw 40 rfl) (ty := .int) (by decide) rfl rfl (hb hby d10_6) fun T121 h121 X121 e121 W121 => ?_
  have Fw121 := Fld.same W121 F_m
  have N121 := Fr.snoc X121 N120 g_o
  refine own_retV X121 hx hlk hret (hb hby d10_9) (own_kN (by decide) (by decide) ?_)
  try rw [e121]
  exact ⟨rfl, N121, (Keep.wr (Keep.refl h0 [o]) W121 (Or.inl (List.mem_of_getElem? (i := 0) rfl))), (Exa.wr W121 Eo), (Fld.other W121 F_text (Or.inr (slot_ne (Or.inr (own_m hw 60 rfl)) (Or.inl (own_m hw 58 rfl)) (by decide) (t := (.object "java/lang/String")) (t' := .int) (by decide) (by decide)))), (Fld.other W121 F_size (Or.inr (slot_ne (Or.inr (own_m hw 135 rfl)) (Or.inl (own_m hw 58 rfl)) (by decide) (t := .int) (t' := .int) (by decide) (by decide)))), (Fld.other W121 F_starts (Or.inr (slot_ne (Or.inr (own_m hw 137 rfl)) (Or.inl (own_m hw 58 rfl)) (by decide) (t := (.array .int)) (t' := .int) (by decide) (by decide))))⟩
theorem d22_0 : decode jdk_65_method_123_code 0 = .ok (.iload_n 1, 1) := by decide +kernel
theorem d22_1 : decode jdk_65_method_123_code 1 = .ok (.aload_n 0, 1) := by decide +kernel
theorem d22_2 : decode jdk_65_method_123_code 2 = .ok (.arraylength, 1) := by decide +kernel
theorem d22_3 : decode jdk_65_method_123_code 3 = .ok (.if_icmp .ne 11, 3) := by decide +kernel
theorem d22_14 : decode jdk_65_method_123_code 14 = .ok (.iload_n 1, 1) := by decide +kernel
theorem d22_15 : decode jdk_65_method_123_code 15 = .ok (.newarray .int, 2) := by decide +kernel
theorem d22_17 : decode jdk_65_method_123_code 17 = .ok (.astore_n 2, 1) := by decide +kernel
theorem d22_18 : decode jdk_65_method_123_code 18 = .ok (.aload_n 0, 1) := by decide +kernel
theorem d22_19 : decode jdk_65_method_123_code 19 = .ok (.iconst 0, 1) := by decide +kernel
theorem d22_20 : decode jdk_65_method_123_code 20 = .ok (.aload_n 2, 1) := by decide +kernel
theorem d22_21 : decode jdk_65_method_123_code 21 = .ok (.iconst 0, 1) := by decide +kernel
theorem d22_22 : decode jdk_65_method_123_code 22 = .ok (.aload_n 0, 1) := by decide +kernel
theorem d22_23 : decode jdk_65_method_123_code 23 = .ok (.arraylength, 1) := by decide +kernel
theorem d22_24 : decode jdk_65_method_123_code 24 = .ok (.iload_n 1, 1) := by decide +kernel
theorem d22_25 : decode jdk_65_method_123_code 25 = .ok (.invokestatic 304, 3) := by decide +kernel
theorem d22_28 : decode jdk_65_method_123_code 28 = .ok (.invokestatic 150, 3) := by decide +kernel
theorem d22_31 : decode jdk_65_method_123_code 31 = .ok (.aload_n 2, 1) := by decide +kernel
theorem d22_32 : decode jdk_65_method_123_code 32 = .ok (.areturn, 1) := by decide +kernel
theorem pn_7 : plainName "java/util/Arrays" = true := by first | (simp [plainName, overriddenIn]; done) | decide +kernel
set_option maxRecDepth 65536 in
set_option maxHeartbeats 40000000 in
theorem rmCopy (l : Launch) (Z : State) (a0 : Array Value) (hw : own_Wd a0 Z) (ws : List Jvm.Cond) (sa : Addr) (ks : ClassId) (x0 x1 x2 x3 x4 x5 x6 x7 : Int32)  (h0 : Heap) (n0 : Nat) (Z0 : n0 ≤ h0.size) (Vs : Arv Z h0 sa ks .int (65 : Int32) [(.int x0), (.int x1), (.int x2), (.int x3), (.int x4), (.int x5), (.int x6), (.int x7)] (.int 0)) :
    own_Met l (⟨"java/util/Arrays", "copyOf", "([II)[I"⟩ : MethodName) jdk_65_method_123_code 3 (some (.array .int)) ws ({ frames := 1, cells := 1, slots := 130, locals := 18 } : Room) Z #[(.ref sa), (.int 130)] h0 (fun v h L => ∃ b k, v = some (.ref b) ∧ Fr n0 L ∧ Keep h0 h [] ∧ h0.size ≤ b ∧ n0 ≤ b ∧ Exa Z h b "[I" ∧ Arv Z h b k .int (130 : Int32) [(.int x0), (.int x1), (.int x2), (.int x3), (.int x4), (.int x5), (.int x6), (.int x7)] (.int 0)) := by
  refine own_body (plainFor_of_name pn_7) ?_
  intro p e s m below meth c s₁ X0 hx hby hml hown hnm hret hlk hZ e0
  replace hown : s.vm.findClass "java/util/Arrays" = some m.cls := hown
  replace hml : c.maxLocals = 3 := hml
  replace hret : meth.sig.returnType = (some (.array .int)) := hret
  have N0 := Fr.nil n0
  refine own_ef (L0 := #[.val (.ref sa), .val (.int 130), .unset]) (by first | (simp [entryFrame, mkF, argsToLocals, Value.category]; done) | rfl) ?_
  refine own_iloadN X0 hx (hb hby d22_0) rfl ?_
  refine own_aloadN X0 hx (hb hby d22_1) rfl rfl ?_
  refine own_arraylength X0 hx hZ e0 (own_alnV Vs) (hb hby d22_2) ?_
  refine own_icmpYes X0 hx 14 (hb hby d22_3) (feq (by decide : ¬ ((130 : Int32) = (65 : Int32)))).2 (by decide) (by decide) ?_
  refine own_iloadN X0 hx (hb hby d22_14) rfl ?_
  refine own_newP (n := (130 : Int32)) (cap := 130) (ad := "[I") X0 hx hZ (own_m hw 75 rfl) e0 (hb hby d22_15) (by decide) (by decide) (by decide) (by decide) (by decide) (by decide) fun T122 h122 k122 b122 g122 X122 e122 E122 A122 Ex122 => ?_
  have g_b122 : n0 ≤ b122 := Nat.le_trans Z0 (Nat.le_of_eq g122.symm)
  have szo_b122 : h0.size ≤ b122 := Nat.le_trans (Nat.le_refl h0.size) (Nat.le_of_eq g122.symm)
  have V122 : Arv Z h122 b122 k122 .int (130 : Int32) [(.int 0)] (.int 0) := (Arv.new A122 (by decide)).pad (pad_rep [] (.int 0) 1)
  refine own_astoreN (l' := #[.val (.ref sa), .val (.int 130), .val (.ref b122)]) X122 hx (hb hby d22_17) rfl rfl ?_
  refine own_aloadN X122 hx (hb hby d22_18) rfl rfl ?_
  refine own_iconst X122 hx 0 (hb hby d22_19) rfl ?_
  refine own_aloadN X122 hx (hb hby d22_20) rfl rfl ?_
  refine own_iconst X122 hx 0 (hb hby d22_21) rfl ?_
  refine own_aloadN X122 hx (hb hby d22_22) rfl rfl ?_
  refine own_arraylength X122 hx hZ e122 (own_alnV (Vs.ext E122)) (hb hby d22_23) ?_
  refine own_iloadN X122 hx (hb hby d22_24) rfl ?_
  refine own_cStat (W := 4) (rest := [(.int 0), (.ref b122), (.int 0), (.ref sa)]) X122 hx hZ [(.int 65), (.int 130)] hown (own_m hw 108 rfl) (own_m hw 99 rfl) (by decide) (own_m hw 100 rfl) (own_m hw 73 rfl) e122 (rmMin l Z a0 hw [] (65 : Int32) (130 : Int32) h122 n0 (Nat.le_trans Z0 E122.1) (by decide)) (by rw [hml]; rfl) (lenOf pd_6 rfl) rfl (Nat.le_of_eq rfl) (hb hby d22_25) (by decide) (by decide) (by decide) (by decide) fun v123 T123 L123 X123 hQ123 => ?_
  obtain ⟨rfl, N123q, e123⟩ := hQ123
  have N123 := Fr.app N0 N123q
  show own_At p e below _ T123 m 28 _ [(.int 65), (.int 0), (.ref b122), (.int 0), (.ref sa)]
  have Vd : Arv Z h122 b122 k122 .int (130 : Int32) ([] ++ List.replicate 65 (Value.int (0 : Int32))) (.int 0) := (Arv.new A122 (by decide)).pad (pad_rep [] _ 65)
  obtain ⟨T124, h124, L124, X124, e124, N124, K124, V124', st124⟩ := cpA (us := (List.range 65).map (fun i => [(.int x0), (.int x1), (.int x2), (.int x3), (.int x4), (.int x5), (.int x6), (.int x7)].getD (0 + i) (.int 0))) X123 hx hZ hown (own_m hw 109 rfl) (own_m hw 112 rfl) (own_m hw 110 rfl) (own_m hw 111 rfl) e123 (Vs.ext E122) Vd (Or.inl ⟨rfl, rfl⟩) (by decide) (by decide) (by decide) (by decide) (by decide) rfl (Nat.le_of_ble_eq_true rfl) N123 g_b122 (g := (mkF m 28 #[.val (.ref sa), .val (.int 130), .val (.ref b122)] [(.int 65), (.int 0), (.ref b122), (.int 0), (.ref sa)])) rfl (by rw [hml]; rfl) rfl (hb hby d22_28) (by decide) (W := 0) (by show 2 * 0 + _ ≤ _; exact Nat.le_of_eq rfl) (by decide)
  have V124 : Arv Z h124 b122 k122 .int (130 : Int32) [(.int x0), (.int x1), (.int x2), (.int x3), (.int x4), (.int x5), (.int x6), (.int x7)] (.int 0) := Arv.pad V124' (own_cp [(.int x0), (.int x1), (.int x2), (.int x3), (.int x4), (.int x5), (.int x6), (.int x7)] (by simp))
  refine own_step (S' := (T124.setTop (mkF m 31 #[.val (.ref sa), .val (.int 130), .val (.ref b122)] []))) (fun _ k => st124 _ k) ?_
  refine own_aloadN X124 hx (hb hby d22_31) rfl rfl ?_
  refine own_retA X124 hx hlk hret rfl rfl rfl (hb hby d22_32) (own_kN (by decide) (by decide) ?_)
  try rw [e124]
  exact ⟨b122, k122, rfl, N124, (Keep.trans (Keep.ext (Keep.refl h0 []) E122) K124 (allS (Or.inr szo_b122) all0)), szo_b122, g_b122, (Exa.keep Ex122 K124), V124⟩
abbrev own_CX (l : Launch) (Z : State) (a b : Addr) (kb : ClassId) (cs n : Int32) (bs : List Value) (f r : Int32) : Prop := ∀ (h0 : Heap) (n0 : Nat), n0 ≤ h0.size → Sta Z h0 "java/lang/String" "COMPACT_STRINGS" "Z" (.int cs) → ¬ (cs = (0 : Int32)) → Exa Z h0 a "java/lang/String" → Fld Z h0 a "java/lang/String" "value" "[B" (.ref b) → Fld Z h0 a "java/lang/String" "coder" "B" (.int 0) → Arv Z h0 b kb .byte n bs (.int 0) → own_Met l (⟨"java/lang/String", "indexOf", "(II)I"⟩ : MethodName) jdk_42_method_80_code 3 (some .int) [] ({ frames := 2, cells := 0, slots := 0, locals := 32 } : Room) Z #[(.ref a), (.int 10), (.int f)] h0 (fun v h L => v = some (.int r) ∧ Fr n0 L ∧ h = h0)
abbrev own_C1 (l : Launch) (Z : State) (a b : Addr) (kb : ClassId) (cs n : Int32) (bs : List Value) (m : Int32) (xs : List Value) : Prop := ∀ (sa : Addr) (ks : ClassId) (h0 : Heap) (n0 : Nat), n0 ≤ h0.size → Sta Z h0 "java/lang/String" "COMPACT_STRINGS" "Z" (.int cs) → ¬ (cs = (0 : Int32)) → Exa Z h0 a "java/lang/String" → Fld Z h0 a "java/lang/String" "value" "[B" (.ref b) → Fld Z h0 a "java/lang/String" "coder" "B" (.int 0) → Arv Z h0 b kb .byte n bs (.int 0) → Arv Z h0 sa ks .int (65 : Int32) [(.int 0), (.int 0), (.int 0), (.int 0), (.int 0), (.int 0), (.int 0), (.int 0)] (.int 0) → n0 ≤ sa → Exa Z h0 sa "[I" → b ≠ sa → own_Met l (⟨"com/example/amendtrail/amendtrail/write/Lines", "lineStarts", "(Ljava/lang/String;[II)I"⟩ : MethodName) prog_111_method_2_code 5 (some .int) [] ({ frames := 3, cells := 0, slots := 0, locals := 46 } : Room) Z #[(.ref a), (.ref sa), (.int 1)] h0 (fun v h L => v = some (.int m) ∧ Fr n0 L ∧ Keep h0 h [sa] ∧ Arv Z h sa ks .int (65 : Int32) xs (.int 0))
abbrev own_C2 (l : Launch) (Z : State) (a b : Addr) (kb : ClassId) (cs n : Int32) (bs : List Value) (m : Int32) (xs : List Value) : Prop := ∀ (sa : Addr) (ks : ClassId) (h0 : Heap) (n0 : Nat), n0 ≤ h0.size → Sta Z h0 "java/lang/String" "COMPACT_STRINGS" "Z" (.int cs) → ¬ (cs = (0 : Int32)) → Exa Z h0 a "java/lang/String" → Fld Z h0 a "java/lang/String" "value" "[B" (.ref b) → Fld Z h0 a "java/lang/String" "coder" "B" (.int 0) → Arv Z h0 b kb .byte n bs (.int 0) → Arv Z h0 sa ks .int (130 : Int32) xs (.int 0) → own_Met l (⟨"com/example/amendtrail/amendtrail/write/Lines", "lineStarts", "(Ljava/lang/String;[II)I"⟩ : MethodName) prog_111_method_2_code 5 (some .int) [] ({ frames := 3, cells := 0, slots := 0, locals := 46 } : Room) Z #[(.ref a), (.ref sa), (.int m)] h0 (fun v h L => v = some (.int m) ∧ Fr n0 L ∧ h = h0)
abbrev own_CA (l : Launch) (Z : State) (a b : Addr) (kb : ClassId) (cs n : Int32) (bs : List Value) (fm : Value) (i x : Int32) : Prop := ∀ (h0 : Heap) (n0 : Nat), n0 ≤ h0.size → Sta Z h0 "java/lang/String" "COMPACT_STRINGS" "Z" (.int cs) → ¬ (cs = (0 : Int32)) → Exa Z h0 a "java/lang/String" → Fld Z h0 a "java/lang/String" "value" "[B" (.ref b) → Fld Z h0 a "java/lang/String" "coder" "B" (.int 0) → Arv Z h0 b kb .byte n bs (.int 0) → Sta Z h0 "jdk/internal/util/Preconditions" "SIOOBE_FORMATTER" "Ljava/util/function/BiFunction;" fm → fm.isRef = true → own_Met l (⟨"java/lang/String", "charAt", "(I)C"⟩ : MethodName) jdk_42_method_56_code 2 (some .char) [] ({ frames := 3, cells := 0, slots := 0, locals := 40 } : Room) Z #[(.ref a), (.int i)] h0 (fun v h L => v = some (.int x) ∧ Fr n0 L ∧ h = h0)
theorem d15_0 : decode prog_111_method_2_code 0 = .ok (.iload_n 2, 1) := by decide +kernel
theorem d15_1 : decode prog_111_method_2_code 1 = .ok (.istore_n 3, 1) := by decide +kernel
theorem d15_2 : decode prog_111_method_2_code 2 = .ok (.aload_n 0, 1) := by decide +kernel
theorem d15_3 : decode prog_111_method_2_code 3 = .ok (.bipush 10, 2) := by decide +kernel
theorem d15_5 : decode prog_111_method_2_code 5 = .ok (.aload_n 1, 1) := by decide +kernel
theorem d15_6 : decode prog_111_method_2_code 6 = .ok (.iload_n 3, 1) := by decide +kernel
theorem d15_7 : decode prog_111_method_2_code 7 = .ok (.iconst 1, 1) := by decide +kernel
theorem d15_8 : decode prog_111_method_2_code 8 = .ok (.isub, 1) := by decide +kernel
theorem d15_9 : decode prog_111_method_2_code 9 = .ok (.iaload, 1) := by decide +kernel
theorem d15_10 : decode prog_111_method_2_code 10 = .ok (.invokevirtual 51, 3) := by decide +kernel
theorem d15_13 : decode prog_111_method_2_code 13 = .ok (.istore 4, 2) := by decide +kernel
theorem d15_15 : decode prog_111_method_2_code 15 = .ok (.iload 4, 2) := by decide +kernel
theorem d15_17 : decode prog_111_method_2_code 17 = .ok (.ifCond .lt 39, 3) := by decide +kernel
theorem d15_20 : decode prog_111_method_2_code 20 = .ok (.aload_n 1, 1) := by decide +kernel
theorem d15_21 : decode prog_111_method_2_code 21 = .ok (.iload_n 3, 1) := by decide +kernel
theorem d15_22 : decode prog_111_method_2_code 22 = .ok (.iinc 3 1, 3) := by decide +kernel
theorem d15_25 : decode prog_111_method_2_code 25 = .ok (.iload 4, 2) := by decide +kernel
theorem d15_27 : decode prog_111_method_2_code 27 = .ok (.iconst 1, 1) := by decide +kernel
theorem d15_28 : decode prog_111_method_2_code 28 = .ok (.iadd, 1) := by decide +kernel
theorem d15_29 : decode prog_111_method_2_code 29 = .ok (.iastore, 1) := by decide +kernel
theorem d15_30 : decode prog_111_method_2_code 30 = .ok (.iload_n 3, 1) := by decide +kernel
theorem d15_31 : decode prog_111_method_2_code 31 = .ok (.iload_n 2, 1) := by decide +kernel
theorem d15_32 : decode prog_111_method_2_code 32 = .ok (.bipush 64, 2) := by decide +kernel
theorem d15_34 : decode prog_111_method_2_code 34 = .ok (.iadd, 1) := by decide +kernel
theorem d15_35 : decode prog_111_method_2_code 35 = .ok (.if_icmp .ne 6, 3) := by decide +kernel
theorem d15_41 : decode prog_111_method_2_code 41 = .ok (.aload_n 0, 1) := by decide +kernel
theorem d15_42 : decode prog_111_method_2_code 42 = .ok (.bipush 10, 2) := by decide +kernel
theorem d15_44 : decode prog_111_method_2_code 44 = .ok (.iload 4, 2) := by decide +kernel
theorem d15_46 : decode prog_111_method_2_code 46 = .ok (.iconst 1, 1) := by decide +kernel
theorem d15_47 : decode prog_111_method_2_code 47 = .ok (.iadd, 1) := by decide +kernel
theorem d15_48 : decode prog_111_method_2_code 48 = .ok (.invokevirtual 51, 3) := by decide +kernel
theorem d15_51 : decode prog_111_method_2_code 51 = .ok (.istore 4, 2) := by decide +kernel
theorem d15_53 : decode prog_111_method_2_code 53 = .ok (.goto (-38), 3) := by decide +kernel
theorem d15_56 : decode prog_111_method_2_code 56 = .ok (.iload_n 3, 1) := by decide +kernel
theorem d15_57 : decode prog_111_method_2_code 57 = .ok (.ireturn, 1) := by decide +kernel
theorem pn_8 : plainName "com/example/amendtrail/amendtrail/write/Lines" = true := by first | (simp [plainName, overriddenIn]; done) | decide +kernel
set_option maxRecDepth 65536 in
set_option maxHeartbeats 40000000 in
theorem rmLS1_1 (l : Launch) (Z : State) (a0 : Array Value) (hw : own_Wd a0 Z) (ws : List Jvm.Cond) (a b sa : Addr) (kb ks : ClassId) (cs n : Int32) (bs : List Value)  (h0 : Heap) (n0 : Nat) (Z0 : n0 ≤ h0.size) (Sc : Sta Z h0 "java/lang/String" "COMPACT_STRINGS" "Z" (.int cs)) (hcs : ¬ (cs = (0 : Int32))) (Ea : Exa Z h0 a "java/lang/String") (Fv : Fld Z h0 a "java/lang/String" "value" "[B" (.ref b)) (Fc : Fld Z h0 a "java/lang/String" "coder" "B" (.int 0)) (Vb : Arv Z h0 b kb .byte n bs (.int 0)) (hX0 : own_CX l Z a b kb cs n bs (0 : Int32) (-1 : Int32)) (Vs : Arv Z h0 sa ks .int (65 : Int32) [(.int 0), (.int 0), (.int 0), (.int 0), (.int 0), (.int 0), (.int 0), (.int 0)] (.int 0)) (g_sa : n0 ≤ sa) (Es : Exa Z h0 sa "[I") (hbs : b ≠ sa) :
    own_Met l (⟨"com/example/amendtrail/amendtrail/write/Lines", "lineStarts", "(Ljava/lang/String;[II)I"⟩ : MethodName) prog_111_method_2_code 5 (some .int) ws ({ frames := 3, cells := 0, slots := 0, locals := 46 } : Room) Z #[(.ref a), (.ref sa), (.int 1)] h0 (fun v h L => v = some (.int 1) ∧ Fr n0 L ∧ Keep h0 h [sa] ∧ Arv Z h sa ks .int (65 : Int32) [(.int 0), (.int 0), (.int 0), (.int 0), (.int 0), (.int 0), (.int 0), (.int 0)] (.int 0)) := by
  refine own_body (plainFor_of_name pn_8) ?_
  intro p e s m below meth c s₁ X0 hx hby hml hown hnm hret hlk hZ e0
  replace hown : s.vm.findClass "com/example/amendtrail/amendtrail/write/Lines" = some m.cls := hown
  replace hml : c.maxLocals = 5 := hml
  replace hret : meth.sig.returnType = (some .int) := hret
  have N0 := Fr.nil n0
  refine own_ef (L0 := #[.val (.ref a), .val (.ref sa), .val (.int 1), .unset, .unset]) (by first | (simp [entryFrame, mkF, argsToLocals, Value.category]; done) | rfl) ?_
  refine own_iloadN X0 hx (hb hby d15_0) rfl ?_
  refine own_istoreN (l' := #[.val (.ref a), .val (.ref sa), .val (.int 1), .val (.int 1), .unset]) X0 hx (hb hby d15_1) rfl ?_
  refine own_aloadN X0 hx (hb hby d15_2) rfl rfl ?_
  refine own_bipush X0 hx 10 (hb hby d15_3) rfl ?_
  refine own_aloadN X0 hx (hb hby d15_5) rfl rfl ?_
  refine own_iloadN X0 hx (hb hby d15_6) rfl ?_
  refine own_iconst X0 hx 1 (hb hby d15_7) rfl ?_
  refine own_isub X0 hx (hb hby d15_8) ?_
  rw [show ((1 : Int32) - (1 : Int32)) = (0 : Int32) from by decide]
  refine own_iaload X0 hx hZ (.int 0) e0 Vs ⟨by decide, by decide⟩ rfl (hb hby d15_9) ?_
  refine own_cVirt (W := 0) (rest := []) X0 hx hZ [(.int 10), (.int 0)] hown (own_m hw 79 rfl) (own_m hw 80 rfl) (notFace_of_selects (args := #[]) (mvT hZ (own_m hw 82 rfl))) (own_m hw 82 rfl) (own_m hw 81 rfl) (by decide) (own_m hw 83 rfl) (own_m hw 9 rfl) e0 Ea (hX0 h0 n0 Z0 Sc hcs Ea Fv Fc Vb) (by rw [hml]; rfl) (lenOf pd_6 rfl) rfl (Nat.le_of_eq rfl) (hb hby d15_10) (by decide) (by decide) (by decide) (by decide) fun v125 T125 L125 X125 hQ125 => ?_
  obtain ⟨rfl, N125q, e125⟩ := hQ125
  have N125 := Fr.app N0 N125q
  show own_At p e below _ T125 m 13 _ [(.int (-1 : Int32))]
  refine own_istore (l' := #[.val (.ref a), .val (.ref sa), .val (.int 1), .val (.int 1), .val (.int (-1 : Int32))]) X125 hx (hb hby d15_13) rfl ?_
  refine own_iload X125 hx (hb hby d15_15) rfl ?_
  refine own_ifYes X125 hx 56 (hb hby d15_17) (tlt (by decide : (-1 : Int32) < (0 : Int32))).1 (by decide) (by decide) ?_
  refine own_iloadN X125 hx (hb hby d15_56) rfl ?_
  refine own_retI X125 hx hlk hret (hb hby d15_57) (own_kN (by decide) (by decide) ?_)
  try rw [e125]
  exact ⟨rfl, N125, (Keep.refl h0 [sa]), Vs⟩
set_option maxRecDepth 65536 in
set_option maxHeartbeats 40000000 in
theorem rmLS1_2 (l : Launch) (Z : State) (a0 : Array Value) (hw : own_Wd a0 Z) (ws : List Jvm.Cond) (a b sa : Addr) (kb ks : ClassId) (cs n : Int32) (bs : List Value) (r1 s1 : Int32)  (h0 : Heap) (n0 : Nat) (Z0 : n0 ≤ h0.size) (Sc : Sta Z h0 "java/lang/String" "COMPACT_STRINGS" "Z" (.int cs)) (hcs : ¬ (cs = (0 : Int32))) (Ea : Exa Z h0 a "java/lang/String") (Fv : Fld Z h0 a "java/lang/String" "value" "[B" (.ref b)) (Fc : Fld Z h0 a "java/lang/String" "coder" "B" (.int 0)) (Vb : Arv Z h0 b kb .byte n bs (.int 0)) (hX0 : own_CX l Z a b kb cs n bs (0 : Int32) r1) (hX1 : own_CX l Z a b kb cs n bs s1 (-1 : Int32)) (hr1 : ¬ (r1 < (0 : Int32))) (hs1 : (r1 + (1 : Int32)) = s1) (Vs : Arv Z h0 sa ks .int (65 : Int32) [(.int 0), (.int 0), (.int 0), (.int 0), (.int 0), (.int 0), (.int 0), (.int 0)] (.int 0)) (g_sa : n0 ≤ sa) (Es : Exa Z h0 sa "[I") (hbs : b ≠ sa) :
    own_Met l (⟨"com/example/amendtrail/amendtrail/write/Lines", "lineStarts", "(Ljava/lang/String;[II)I"⟩ : MethodName) prog_111_method_2_code 5 (some .int) ws ({ frames := 3, cells := 0, slots := 0, locals := 46 } : Room) Z #[(.ref a), (.ref sa), (.int 1)] h0 (fun v h L => v = some (.int 2) ∧ Fr n0 L ∧ Keep h0 h [sa] ∧ Arv Z h sa ks .int (65 : Int32) [(.int 0), (.int s1), (.int 0), (.int 0), (.int 0), (.int 0), (.int 0), (.int 0)] (.int 0)) := by
  refine own_body (plainFor_of_name pn_8) ?_
  intro p e s m below meth c s₁ X0 hx hby hml hown hnm hret hlk hZ e0
  replace hown : s.vm.findClass "com/example/amendtrail/amendtrail/write/Lines" = some m.cls := hown
  replace hml : c.maxLocals = 5 := hml
  replace hret : meth.sig.returnType = (some .int) := hret
  have N0 := Fr.nil n0
  refine own_ef (L0 := #[.val (.ref a), .val (.ref sa), .val (.int 1), .unset, .unset]) (by first | (simp [entryFrame, mkF, argsToLocals, Value.category]; done) | rfl) ?_
  refine own_iloadN X0 hx (hb hby d15_0) rfl ?_
  refine own_istoreN (l' := #[.val (.ref a), .val (.ref sa), .val (.int 1), .val (.int 1), .unset]) X0 hx (hb hby d15_1) rfl ?_
  refine own_aloadN X0 hx (hb hby d15_2) rfl rfl ?_
  refine own_bipush X0 hx 10 (hb hby d15_3) rfl ?_
  refine own_aloadN X0 hx (hb hby d15_5) rfl rfl ?_
  refine own_iloadN X0 hx (hb hby d15_6) rfl ?_
  refine own_iconst X0 hx 1 (hb hby d15_7) rfl ?_
  refine own_isub X0 hx (hb hby d15_8) ?_
  rw [show ((1 : Int32) - (1 : Int32)) = (0 : Int32) from by decide]
  refine own_iaload X0 hx hZ (.int 0) e0 Vs ⟨by decide, by decide⟩ rfl (hb hby d15_9) ?_
  refine own_cVirt (W := 0) (rest := []) X0 hx hZ [(.int 10), (.int 0)] hown (own_m hw 79 rfl) (own_m hw 80 rfl) (notFace_of_selects (args := #[]) (mvT hZ (own_m hw 82 rfl))) (own_m hw 82 rfl) (own_m hw 81 rfl) (by decide) (own_m hw 83 rfl) (own_m hw 9 rfl) e0 Ea (hX0 h0 n0 Z0 Sc hcs Ea Fv Fc Vb) (by rw [hml]; rfl) (lenOf pd_6 rfl) rfl (Nat.le_of_eq rfl) (hb hby d15_10) (by decide) (by decide) (by decide) (by decide) fun v126 T126 L126 X126 hQ126 => ?_
  obtain ⟨rfl, N126q, e126⟩ := hQ126
  have N126 := Fr.app N0 N126q
  show own_At p e below _ T126 m 13 _ [(.int r1)]
  refine own_istore (l' := #[.val (.ref a), .val (.ref sa), .val (.int 1), .val (.int 1), .val (.int r1)]) X126 hx (hb hby d15_13) rfl ?_
  refine own_iload X126 hx (hb hby d15_15) rfl ?_
  refine own_ifNo X126 hx (hb hby d15_17) (flt hr1).1 ?_
  refine own_aloadN X126 hx (hb hby d15_20) rfl rfl ?_
  refine own_iloadN X126 hx (hb hby d15_21) rfl ?_
  refine own_iinc (l' := #[.val (.ref a), .val (.ref sa), .val (.int 1), .val (.int ((1 : Int32) + (1 : Int32))), .val (.int r1)]) X126 hx (hb hby d15_22) rfl rfl ?_
  rw [show ((1 : Int32) + (1 : Int32)) = (2 : Int32) from by decide]
  refine own_iload X126 hx (hb hby d15_25) rfl ?_
  refine own_iconst X126 hx 1 (hb hby d15_27) rfl ?_
  refine own_iadd X126 hx (hb hby d15_28) ?_
  rw [hs1]
  refine own_stI (vs' := [(.int 0), (.int s1), (.int 0), (.int 0), (.int 0), (.int 0), (.int 0), (.int 0)]) (w := (.int s1)) X126 hx hZ e126 Vs ⟨by decide, by decide⟩ 1 rfl (Nat.le_of_ble_eq_true rfl) rfl rfl (hb hby d15_29) fun T127 h127 X127 e127 W127 V127 => ?_
  have N127 := Fr.snoc X127 N126 g_sa
  refine own_iloadN X127 hx (hb hby d15_30) rfl ?_
  refine own_iloadN X127 hx (hb hby d15_31) rfl ?_
  refine own_bipush X127 hx 64 (hb hby d15_32) rfl ?_
  refine own_iadd X127 hx (hb hby d15_34) ?_
  rw [show ((1 : Int32) + (64 : Int32)) = (65 : Int32) from by decide]
  refine own_icmpYes X127 hx 41 (hb hby d15_35) (feq (by decide : ¬ ((2 : Int32) = (65 : Int32)))).2 (by decide) (by decide) ?_
  refine own_aloadN X127 hx (hb hby d15_41) rfl rfl ?_
  refine own_bipush X127 hx 10 (hb hby d15_42) rfl ?_
  refine own_iload X127 hx (hb hby d15_44) rfl ?_
  refine own_iconst X127 hx 1 (hb hby d15_46) rfl ?_
  refine own_iadd X127 hx (hb hby d15_47) ?_
  rw [hs1]
  refine own_cVirt (W := 0) (rest := []) X127 hx hZ [(.int 10), (.int s1)] hown (own_m hw 79 rfl) (own_m hw 80 rfl) (notFace_of_selects (args := #[]) (mvT hZ (own_m hw 82 rfl))) (own_m hw 82 rfl) (own_m hw 81 rfl) (by decide) (own_m hw 83 rfl) (own_m hw 9 rfl) e127 (Exa.wr W127 Ea) (hX1 h127 n0 (Nat.le_trans Z0 (Keep.of_wr W127).1) (Sta.wr W127 Sc) hcs (Exa.wr W127 Ea) (Fld.other W127 Fv (Or.inl (ne_exa Ea Es (by decide)))) (Fld.other W127 Fc (Or.inl (ne_exa Ea Es (by decide)))) (Arv.other Vb W127 hbs)) (by rw [hml]; rfl) (lenOf pd_6 rfl) rfl (Nat.le_of_eq rfl) (hb hby d15_48) (by decide) (by decide) (by decide) (by decide) fun v128 T128 L128 X128 hQ128 => ?_
  obtain ⟨rfl, N128q, e128⟩ := hQ128
  have N128 := Fr.app N127 N128q
  show own_At p e below _ T128 m 51 _ [(.int (-1 : Int32))]
  refine own_istore (l' := #[.val (.ref a), .val (.ref sa), .val (.int 1), .val (.int 2), .val (.int (-1 : Int32))]) X128 hx (hb hby d15_51) rfl ?_
  refine own_goto X128 hx 15 (hb hby d15_53) (by decide) (by decide) ?_
  refine own_iload X128 hx (hb hby d15_15) rfl ?_
  refine own_ifYes X128 hx 56 (hb hby d15_17) (tlt (by decide : (-1 : Int32) < (0 : Int32))).1 (by decide) (by decide) ?_
  refine own_iloadN X128 hx (hb hby d15_56) rfl ?_
  refine own_retI X128 hx hlk hret (hb hby d15_57) (own_kN (by decide) (by decide) ?_)
  try rw [e128]
  exact ⟨rfl, N128, (Keep.wr (Keep.refl h0 [sa]) W127 (Or.inl (List.mem_of_getElem? (i := 0) rfl))), V127⟩
set_option maxRecDepth 65536 in
set_option maxHeartbeats 40000000 in
theorem rmLS2_2 (l : Launch) (Z : State) (a0 : Array Value) (hw : own_Wd a0 Z) (ws : List Jvm.Cond) (a b sa : Addr) (kb ks : ClassId) (cs n : Int32) (bs : List Value) (s1 : Int32)  (h0 : Heap) (n0 : Nat) (Z0 : n0 ≤ h0.size) (Sc : Sta Z h0 "java/lang/String" "COMPACT_STRINGS" "Z" (.int cs)) (hcs : ¬ (cs = (0 : Int32))) (Ea : Exa Z h0 a "java/lang/String") (Fv : Fld Z h0 a "java/lang/String" "value" "[B" (.ref b)) (Fc : Fld Z h0 a "java/lang/String" "coder" "B" (.int 0)) (Vb : Arv Z h0 b kb .byte n bs (.int 0)) (hX1 : own_CX l Z a b kb cs n bs s1 (-1 : Int32)) (Vs : Arv Z h0 sa ks .int (130 : Int32) [(.int 0), (.int s1), (.int 0), (.int 0), (.int 0), (.int 0), (.int 0), (.int 0)] (.int 0)) :
    own_Met l (⟨"com/example/amendtrail/amendtrail/write/Lines", "lineStarts", "(Ljava/lang/String;[II)I"⟩ : MethodName) prog_111_method_2_code 5 (some .int) ws ({ frames := 3, cells := 0, slots := 0, locals := 46 } : Room) Z #[(.ref a), (.ref sa), (.int 2)] h0 (fun v h L => v = some (.int 2) ∧ Fr n0 L ∧ h = h0) := by
  refine own_body (plainFor_of_name pn_8) ?_
  intro p e s m below meth c s₁ X0 hx hby hml hown hnm hret hlk hZ e0
  replace hown : s.vm.findClass "com/example/amendtrail/amendtrail/write/Lines" = some m.cls := hown
  replace hml : c.maxLocals = 5 := hml
  replace hret : meth.sig.returnType = (some .int) := hret
  have N0 := Fr.nil n0
  refine own_ef (L0 := #[.val (.ref a), .val (.ref sa), .val (.int 2), .unset, .unset]) (by first | (simp [entryFrame, mkF, argsToLocals, Value.category]; done) | rfl) ?_
  refine own_iloadN X0 hx (hb hby d15_0) rfl ?_
  refine own_istoreN (l' := #[.val (.ref a), .val (.ref sa), .val (.int 2), .val (.int 2), .unset]) X0 hx (hb hby d15_1) rfl ?_
  refine own_aloadN X0 hx (hb hby d15_2) rfl rfl ?_
  refine own_bipush X0 hx 10 (hb hby d15_3) rfl ?_
  refine own_aloadN X0 hx (hb hby d15_5) rfl rfl ?_
  refine own_iloadN X0 hx (hb hby d15_6) rfl ?_
  refine own_iconst X0 hx 1 (hb hby d15_7) rfl ?_
  refine own_isub X0 hx (hb hby d15_8) ?_
  rw [show ((2 : Int32) - (1 : Int32)) = (1 : Int32) from by decide]
  refine own_iaload X0 hx hZ (.int s1) e0 Vs ⟨by decide, by decide⟩ rfl (hb hby d15_9) ?_
  refine own_cVirt (W := 0) (rest := []) X0 hx hZ [(.int 10), (.int s1)] hown (own_m hw 79 rfl) (own_m hw 80 rfl) (notFace_of_selects (args := #[]) (mvT hZ (own_m hw 82 rfl))) (own_m hw 82 rfl) (own_m hw 81 rfl) (by decide) (own_m hw 83 rfl) (own_m hw 9 rfl) e0 Ea (hX1 h0 n0 Z0 Sc hcs Ea Fv Fc Vb) (by rw [hml]; rfl) (lenOf pd_6 rfl) rfl (Nat.le_of_eq rfl) (hb hby d15_10) (by decide) (by decide) (by decide) (by decide) fun v129 T129 L129 X129 hQ129 => ?_
  obtain ⟨rfl, N129q, e129⟩ := hQ129
  have N129 := Fr.app N0 N129q
  show own_At p e below _ T129 m 13 _ [(.int (-1 : Int32))]
  refine own_istore (l' := #[.val (.ref a), .val (.ref sa), .val (.int 2), .val (.int 2), .val (.int (-1 : Int32))]) X129 hx (hb hby d15_13) rfl ?_
  refine own_iload X129 hx (hb hby d15_15) rfl ?_
  refine own_ifYes X129 hx 56 (hb hby d15_17) (tlt (by decide : (-1 : Int32) < (0 : Int32))).1 (by decide) (by decide) ?_
  refine own_iloadN X129 hx (hb hby d15_56) rfl ?_
  refine own_retI X129 hx hlk hret (hb hby d15_57) (own_kN (by decide) (by decide) ?_)
  try rw [e129]
  exact ⟨rfl, N129, rfl⟩
set_option maxRecDepth 65536 in
set_option maxHeartbeats 40000000 in
theorem rmLS1_3 (l : Launch) (Z : State) (a0 : Array Value) (hw : own_Wd a0 Z) (ws : List Jvm.Cond) (a b sa : Addr) (kb ks : ClassId) (cs n : Int32) (bs : List Value) (r1 s1 r2 s2 : Int32)  (h0 : Heap) (n0 : Nat) (Z0 : n0 ≤ h0.size) (Sc : Sta Z h0 "java/lang/String" "COMPACT_STRINGS" "Z" (.int cs)) (hcs : ¬ (cs = (0 : Int32))) (Ea : Exa Z h0 a "java/lang/String") (Fv : Fld Z h0 a "java/lang/String" "value" "[B" (.ref b)) (Fc : Fld Z h0 a "java/lang/String" "coder" "B" (.int 0)) (Vb : Arv Z h0 b kb .byte n bs (.int 0)) (hX0 : own_CX l Z a b kb cs n bs (0 : Int32) r1) (hX1 : own_CX l Z a b kb cs n bs s1 r2) (hX2 : own_CX l Z a b kb cs n bs s2 (-1 : Int32)) (hr1 : ¬ (r1 < (0 : Int32))) (hr2 : ¬ (r2 < (0 : Int32))) (hs1 : (r1 + (1 : Int32)) = s1) (hs2 : (r2 + (1 : Int32)) = s2) (Vs : Arv Z h0 sa ks .int (65 : Int32) [(.int 0), (.int 0), (.int 0), (.int 0), (.int 0), (.int 0), (.int 0), (.int 0)] (.int 0)) (g_sa : n0 ≤ sa) (Es : Exa Z h0 sa "[I") (hbs : b ≠ sa) :
    own_Met l (⟨"com/example/amendtrail/amendtrail/write/Lines", "lineStarts", "(Ljava/lang/String;[II)I"⟩ : MethodName) prog_111_method_2_code 5 (some .int) ws ({ frames := 3, cells := 0, slots := 0, locals := 46 } : Room) Z #[(.ref a), (.ref sa), (.int 1)] h0 (fun v h L => v = some (.int 3) ∧ Fr n0 L ∧ Keep h0 h [sa] ∧ Arv Z h sa ks .int (65 : Int32) [(.int 0), (.int s1), (.int s2), (.int 0), (.int 0), (.int 0), (.int 0), (.int 0)] (.int 0)) := by
  refine own_body (plainFor_of_name pn_8) ?_
  intro p e s m below meth c s₁ X0 hx hby hml hown hnm hret hlk hZ e0
  replace hown : s.vm.findClass "com/example/amendtrail/amendtrail/write/Lines" = some m.cls := hown
  replace hml : c.maxLocals = 5 := hml
  replace hret : meth.sig.returnType = (some .int) := hret
  have N0 := Fr.nil n0
  refine own_ef (L0 := #[.val (.ref a), .val (.ref sa), .val (.int 1), .unset, .unset]) (by first | (simp [entryFrame, mkF, argsToLocals, Value.category]; done) | rfl) ?_
  refine own_iloadN X0 hx (hb hby d15_0) rfl ?_
  refine own_istoreN (l' := #[.val (.ref a), .val (.ref sa), .val (.int 1), .val (.int 1), .unset]) X0 hx (hb hby d15_1) rfl ?_
  refine own_aloadN X0 hx (hb hby d15_2) rfl rfl ?_
  refine own_bipush X0 hx 10 (hb hby d15_3) rfl ?_
  refine own_aloadN X0 hx (hb hby d15_5) rfl rfl ?_
  refine own_iloadN X0 hx (hb hby d15_6) rfl ?_
  refine own_iconst X0 hx 1 (hb hby d15_7) rfl ?_
  refine own_isub X0 hx (hb hby d15_8) ?_
  rw [show ((1 : Int32) - (1 : Int32)) = (0 : Int32) from by decide]
  refine own_iaload X0 hx hZ (.int 0) e0 Vs ⟨by decide, by decide⟩ rfl (hb hby d15_9) ?_
  refine own_cVirt (W := 0) (rest := []) X0 hx hZ [(.int 10), (.int 0)] hown (own_m hw 79 rfl) (own_m hw 80 rfl) (notFace_of_selects (args := #[]) (mvT hZ (own_m hw 82 rfl))) (own_m hw 82 rfl) (own_m hw 81 rfl) (by decide) (own_m hw 83 rfl) (own_m hw 9 rfl) e0 Ea (hX0 h0 n0 Z0 Sc hcs Ea Fv Fc Vb) (by rw [hml]; rfl) (lenOf pd_6 rfl) rfl (Nat.le_of_eq rfl) (hb hby d15_10) (by decide) (by decide) (by decide) (by decide) fun v130 T130 L130 X130 hQ130 => ?_
  obtain ⟨rfl, N130q, e130⟩ := hQ130
  have N130 := Fr.app N0 N130q
  show own_At p e below _ T130 m 13 _ [(.int r1)]
  refine own_istore (l' := #[.val (.ref a), .val (.ref sa), .val (.int 1), .val (.int 1), .val (.int r1)]) X130 hx (hb hby d15_13) rfl ?_
  refine own_iload X130 hx (hb hby d15_15) rfl ?_
  refine own_ifNo X130 hx (hb hby d15_17) (flt hr1).1 ?_
  refine own_aloadN X130 hx (hb hby d15_20) rfl rfl ?_
  refine own_iloadN X130 hx (hb hby d15_21) rfl ?_
  refine own_iinc (l' := #[.val (.ref a), .val (.ref sa), .val (.int 1), .val (.int ((1 : Int32) + (1 : Int32))), .val (.int r1)]) X130 hx (hb hby d15_22) rfl rfl ?_
  rw [show ((1 : Int32) + (1 : Int32)) = (2 : Int32) from by decide]
  refine own_iload X130 hx (hb hby d15_25) rfl ?_
  refine own_iconst X130 hx 1 (hb hby d15_27) rfl ?_
  refine own_iadd X130 hx (hb hby d15_28) ?_
  rw [hs1]
  refine own_stI (vs' := [(.int 0), (.int s1), (.int 0), (.int 0), (.int 0), (.int 0), (.int 0), (.int 0)]) (w := (.int s1)) X130 hx hZ e130 Vs ⟨by decide, by decide⟩ 1 rfl (Nat.le_of_ble_eq_true rfl) rfl rfl (hb hby d15_29) fun T131 h131 X131 e131 W131 V131 => ?_
  have N131 := Fr.snoc X131 N130 g_sa
  refine own_iloadN X131 hx (hb hby d15_30) rfl ?_
  refine own_iloadN X131 hx (hb hby d15_31) rfl ?_
  refine own_bipush X131 hx 64 (hb hby d15_32) rfl ?_
  refine own_iadd X131 hx (hb hby d15_34) ?_
  rw [show ((1 : Int32) + (64 : Int32)) = (65 : Int32) from by decide]
  refine own_icmpYes X131 hx 41 (hb hby d15_35) (feq (by decide : ¬ ((2 : Int32) = (65 : Int32)))).2 (by decide) (by decide) ?_
  refine own_aloadN X131 hx (hb hby d15_41) rfl rfl ?_
  refine own_bipush X131 hx 10 (hb hby d15_42) rfl ?_
  refine own_iload X131 hx (hb hby d15_44) rfl ?_
  refine own_iconst X131 hx 1 (hb hby d15_46) rfl ?_
  refine own_iadd X131 hx (hb hby d15_47) ?_
  rw [hs1]
  refine own_cVirt (W := 0) (rest := []) X131 hx hZ [(.int 10), (.int s1)] hown (own_m hw 79 rfl) (own_m hw 80 rfl) (notFace_of_selects (args := #[]) (mvT hZ (own_m hw 82 rfl))) (own_m hw 82 rfl) (own_m hw 81 rfl) (by decide) (own_m hw 83 rfl) (own_m hw 9 rfl) e131 (Exa.wr W131 Ea) (hX1 h131 n0 (Nat.le_trans Z0 (Keep.of_wr W131).1) (Sta.wr W131 Sc) hcs (Exa.wr W131 Ea) (Fld.other W131 Fv (Or.inl (ne_exa Ea Es (by decide)))) (Fld.other W131 Fc (Or.inl (ne_exa Ea Es (by decide)))) (Arv.other Vb W131 hbs)) (by rw [hml]; rfl) (lenOf pd_6 rfl) rfl (Nat.le_of_eq rfl) (hb hby d15_48) (by decide) (by decide) (by decide) (by decide) fun v132 T132 L132 X132 hQ132 => ?_
  obtain ⟨rfl, N132q, e132⟩ := hQ132
  have N132 := Fr.app N131 N132q
  show own_At p e below _ T132 m 51 _ [(.int r2)]
  refine own_istore (l' := #[.val (.ref a), .val (.ref sa), .val (.int 1), .val (.int 2), .val (.int r2)]) X132 hx (hb hby d15_51) rfl ?_
  refine own_goto X132 hx 15 (hb hby d15_53) (by decide) (by decide) ?_
  refine own_iload X132 hx (hb hby d15_15) rfl ?_
  refine own_ifNo X132 hx (hb hby d15_17) (flt hr2).1 ?_
  refine own_aloadN X132 hx (hb hby d15_20) rfl rfl ?_
  refine own_iloadN X132 hx (hb hby d15_21) rfl ?_
  refine own_iinc (l' := #[.val (.ref a), .val (.ref sa), .val (.int 1), .val (.int ((2 : Int32) + (1 : Int32))), .val (.int r2)]) X132 hx (hb hby d15_22) rfl rfl ?_
  rw [show ((2 : Int32) + (1 : Int32)) = (3 : Int32) from by decide]
  refine own_iload X132 hx (hb hby d15_25) rfl ?_
  refine own_iconst X132 hx 1 (hb hby d15_27) rfl ?_
  refine own_iadd X132 hx (hb hby d15_28) ?_
  rw [hs2]
  refine own_stI (vs' := [(.int 0), (.int s1), (.int s2), (.int 0), (.int 0), (.int 0), (.int 0), (.int 0)]) (w := (.int s2)) X132 hx hZ e132 V131 ⟨by decide, by decide⟩ 2 rfl (Nat.le_of_ble_eq_true rfl) rfl rfl (hb hby d15_29) fun T133 h133 X133 e133 W133 V133 => ?_
  have N133 := Fr.snoc X133 N132 g_sa
  refine own_iloadN X133 hx (hb hby d15_30) rfl ?_
  refine own_iloadN X133 hx (hb hby d15_31) rfl ?_
  refine own_bipush X133 hx 64 (hb hby d15_32) rfl ?_
  refine own_iadd X133 hx (hb hby d15_34) ?_
  rw [show ((1 : Int32) + (64 : Int32)) = (65 : Int32) from by decide]
  refine own_icmpYes X133 hx 41 (hb hby d15_35) (feq (by decide : ¬ ((3 : Int32) = (65 : Int32)))).2 (by decide) (by decide) ?_
  refine own_aloadN X133 hx (hb hby d15_41) rfl rfl ?_
  refine own_bipush X133 hx 10 (hb hby d15_42) rfl ?_
  refine own_iload X133 hx (hb hby d15_44) rfl ?_
  refine own_iconst X133 hx 1 (hb hby d15_46) rfl ?_
  refine own_iadd X133 hx (hb hby d15_47) ?_
  rw [hs2]
  refine own_cVirt (W := 0) (rest := []) X133 hx hZ [(.int 10), (.int s2)] hown (own_m hw 79 rfl) (own_m hw 80 rfl) (notFace_of_selects (args := #[]) (mvT hZ (own_m hw 82 rfl))) (own_m hw 82 rfl) (own_m hw 81 rfl) (by decide) (own_m hw 83 rfl) (own_m hw 9 rfl) e133 (Exa.wr W133 (Exa.wr W131 Ea)) (hX2 h133 n0 (Nat.le_trans (Nat.le_trans Z0 (Keep.of_wr W131).1) (Keep.of_wr W133).1) (Sta.wr W133 (Sta.wr W131 Sc)) hcs (Exa.wr W133 (Exa.wr W131 Ea)) (Fld.other W133 (Fld.other W131 Fv (Or.inl (ne_exa Ea Es (by decide)))) (Or.inl (ne_exa Ea Es (by decide)))) (Fld.other W133 (Fld.other W131 Fc (Or.inl (ne_exa Ea Es (by decide)))) (Or.inl (ne_exa Ea Es (by decide)))) (Arv.other (Arv.other Vb W131 hbs) W133 hbs)) (by rw [hml]; rfl) (lenOf pd_6 rfl) rfl (Nat.le_of_eq rfl) (hb hby d15_48) (by decide) (by decide) (by decide) (by decide) fun v134 T134 L134 X134 hQ134 => ?_
  obtain ⟨rfl, N134q, e134⟩ := hQ134
  have N134 := Fr.app N133 N134q
  show own_At p e below _ T134 m 51 _ [(.int (-1 : Int32))]
  refine own_istore (l' := #[.val (.ref a), .val (.ref sa), .val (.int 1), .val (.int 3), .val (.int (-1 : Int32))]) X134 hx (hb hby d15_51) rfl ?_
  refine own_goto X134 hx 15 (hb hby d15_53) (by decide) (by decide) ?_
  refine own_iload X134 hx (hb hby d15_15) rfl ?_
  refine own_ifYes X134 hx 56 (hb hby d15_17) (tlt (by decide : (-1 : Int32) < (0 : Int32))).1 (by decide) (by decide) ?_
  refine own_iloadN X134 hx (hb hby d15_56) rfl ?_
  refine own_retI X134 hx hlk hret (hb hby d15_57) (own_kN (by decide) (by decide) ?_)
  try rw [e134]
  exact ⟨rfl, N134, (Keep.wr (Keep.wr (Keep.refl h0 [sa]) W131 (Or.inl (List.mem_of_getElem? (i := 0) rfl))) W133 (Or.inl (List.mem_of_getElem? (i := 0) rfl))), V133⟩
set_option maxRecDepth 65536 in
set_option maxHeartbeats 40000000 in
theorem rmLS2_3 (l : Launch) (Z : State) (a0 : Array Value) (hw : own_Wd a0 Z) (ws : List Jvm.Cond) (a b sa : Addr) (kb ks : ClassId) (cs n : Int32) (bs : List Value) (s1 s2 : Int32)  (h0 : Heap) (n0 : Nat) (Z0 : n0 ≤ h0.size) (Sc : Sta Z h0 "java/lang/String" "COMPACT_STRINGS" "Z" (.int cs)) (hcs : ¬ (cs = (0 : Int32))) (Ea : Exa Z h0 a "java/lang/String") (Fv : Fld Z h0 a "java/lang/String" "value" "[B" (.ref b)) (Fc : Fld Z h0 a "java/lang/String" "coder" "B" (.int 0)) (Vb : Arv Z h0 b kb .byte n bs (.int 0)) (hX2 : own_CX l Z a b kb cs n bs s2 (-1 : Int32)) (Vs : Arv Z h0 sa ks .int (130 : Int32) [(.int 0), (.int s1), (.int s2), (.int 0), (.int 0), (.int 0), (.int 0), (.int 0)] (.int 0)) :
    own_Met l (⟨"com/example/amendtrail/amendtrail/write/Lines", "lineStarts", "(Ljava/lang/String;[II)I"⟩ : MethodName) prog_111_method_2_code 5 (some .int) ws ({ frames := 3, cells := 0, slots := 0, locals := 46 } : Room) Z #[(.ref a), (.ref sa), (.int 3)] h0 (fun v h L => v = some (.int 3) ∧ Fr n0 L ∧ h = h0) := by
  refine own_body (plainFor_of_name pn_8) ?_
  intro p e s m below meth c s₁ X0 hx hby hml hown hnm hret hlk hZ e0
  replace hown : s.vm.findClass "com/example/amendtrail/amendtrail/write/Lines" = some m.cls := hown
  replace hml : c.maxLocals = 5 := hml
  replace hret : meth.sig.returnType = (some .int) := hret
  have N0 := Fr.nil n0
  refine own_ef (L0 := #[.val (.ref a), .val (.ref sa), .val (.int 3), .unset, .unset]) (by first | (simp [entryFrame, mkF, argsToLocals, Value.category]; done) | rfl) ?_
  refine own_iloadN X0 hx (hb hby d15_0) rfl ?_
  refine own_istoreN (l' := #[.val (.ref a), .val (.ref sa), .val (.int 3), .val (.int 3), .unset]) X0 hx (hb hby d15_1) rfl ?_
  refine own_aloadN X0 hx (hb hby d15_2) rfl rfl ?_
  refine own_bipush X0 hx 10 (hb hby d15_3) rfl ?_
  refine own_aloadN X0 hx (hb hby d15_5) rfl rfl ?_
  refine own_iloadN X0 hx (hb hby d15_6) rfl ?_
  refine own_iconst X0 hx 1 (hb hby d15_7) rfl ?_
  refine own_isub X0 hx (hb hby d15_8) ?_
  rw [show ((3 : Int32) - (1 : Int32)) = (2 : Int32) from by decide]
  refine own_iaload X0 hx hZ (.int s2) e0 Vs ⟨by decide, by decide⟩ rfl (hb hby d15_9) ?_
  refine own_cVirt (W := 0) (rest := []) X0 hx hZ [(.int 10), (.int s2)] hown (own_m hw 79 rfl) (own_m hw 80 rfl) (notFace_of_selects (args := #[]) (mvT hZ (own_m hw 82 rfl))) (own_m hw 82 rfl) (own_m hw 81 rfl) (by decide) (own_m hw 83 rfl) (own_m hw 9 rfl) e0 Ea (hX2 h0 n0 Z0 Sc hcs Ea Fv Fc Vb) (by rw [hml]; rfl) (lenOf pd_6 rfl) rfl (Nat.le_of_eq rfl) (hb hby d15_10) (by decide) (by decide) (by decide) (by decide) fun v135 T135 L135 X135 hQ135 => ?_
  obtain ⟨rfl, N135q, e135⟩ := hQ135
  have N135 := Fr.app N0 N135q
  show own_At p e below _ T135 m 13 _ [(.int (-1 : Int32))]
  refine own_istore (l' := #[.val (.ref a), .val (.ref sa), .val (.int 3), .val (.int 3), .val (.int (-1 : Int32))]) X135 hx (hb hby d15_13) rfl ?_
  refine own_iload X135 hx (hb hby d15_15) rfl ?_
  refine own_ifYes X135 hx 56 (hb hby d15_17) (tlt (by decide : (-1 : Int32) < (0 : Int32))).1 (by decide) (by decide) ?_
  refine own_iloadN X135 hx (hb hby d15_56) rfl ?_
  refine own_retI X135 hx hlk hret (hb hby d15_57) (own_kN (by decide) (by decide) ?_)
  try rw [e135]
  exact ⟨rfl, N135, rfl⟩
set_option maxRecDepth 65536 in
set_option maxHeartbeats 40000000 in
theorem rmLS1_4 (l : Launch) (Z : State) (a0 : Array Value) (hw : own_Wd a0 Z) (ws : List Jvm.Cond) (a b sa : Addr) (kb ks : ClassId) (cs n : Int32) (bs : List Value) (r1 s1 r2 s2 r3 s3 : Int32)  (h0 : Heap) (n0 : Nat) (Z0 : n0 ≤ h0.size) (Sc : Sta Z h0 "java/lang/String" "COMPACT_STRINGS" "Z" (.int cs)) (hcs : ¬ (cs = (0 : Int32))) (Ea : Exa Z h0 a "java/lang/String") (Fv : Fld Z h0 a "java/lang/String" "value" "[B" (.ref b)) (Fc : Fld Z h0 a "java/lang/String" "coder" "B" (.int 0)) (Vb : Arv Z h0 b kb .byte n bs (.int 0)) (hX0 : own_CX l Z a b kb cs n bs (0 : Int32) r1) (hX1 : own_CX l Z a b kb cs n bs s1 r2) (hX2 : own_CX l Z a b kb cs n bs s2 r3) (hX3 : own_CX l Z a b kb cs n bs s3 (-1 : Int32)) (hr1 : ¬ (r1 < (0 : Int32))) (hr2 : ¬ (r2 < (0 : Int32))) (hr3 : ¬ (r3 < (0 : Int32))) (hs1 : (r1 + (1 : Int32)) = s1) (hs2 : (r2 + (1 : Int32)) = s2) (hs3 : (r3 + (1 : Int32)) = s3) (Vs : Arv Z h0 sa ks .int (65 : Int32) [(.int 0), (.int 0), (.int 0), (.int 0), (.int 0), (.int 0), (.int 0), (.int 0)] (.int 0)) (g_sa : n0 ≤ sa) (Es : Exa Z h0 sa "[I") (hbs : b ≠ sa) :
    own_Met l (⟨"com/example/amendtrail/amendtrail/write/Lines", "lineStarts", "(Ljava/lang/String;[II)I"⟩ : MethodName) prog_111_method_2_code 5 (some .int) ws ({ frames := 3, cells := 0, slots := 0, locals := 46 } : Room) Z #[(.ref a), (.ref sa), (.int 1)] h0 (fun v h L => v = some (.int 4) ∧ Fr n0 L ∧ Keep h0 h [sa] ∧ Arv Z h sa ks .int (65 : Int32) [(.int 0), (.int s1), (.int s2), (.int s3), (.int 0), (.int 0), (.int 0), (.int 0)] (.int 0)) := by
  refine own_body (plainFor_of_name pn_8) ?_
  intro p e s m below meth c s₁ X0 hx hby hml hown hnm hret hlk hZ e0
  replace hown : s.vm.findClass "com/example/amendtrail/amendtrail/write/Lines" = some m.cls := hown
  replace hml : c.maxLocals = 5 := hml
  replace hret : meth.sig.returnType = (some .int) := hret
  have N0 := Fr.nil n0
  refine own_ef (L0 := #[.val (.ref a), .val (.ref sa), .val (.int 1), .unset, .unset]) (by first | (simp [entryFrame, mkF, argsToLocals, Value.category]; done) | rfl) ?_
  refine own_iloadN X0 hx (hb hby d15_0) rfl ?_
  refine own_istoreN (l' := #[.val (.ref a), .val (.ref sa), .val (.int 1), .val (.int 1), .unset]) X0 hx (hb hby d15_1) rfl ?_
  refine own_aloadN X0 hx (hb hby d15_2) rfl rfl ?_
  refine own_bipush X0 hx 10 (hb hby d15_3) rfl ?_
  refine own_aloadN X0 hx (hb hby d15_5) rfl rfl ?_
  refine own_iloadN X0 hx (hb hby d15_6) rfl ?_
  refine own_iconst X0 hx 1 (hb hby d15_7) rfl ?_
  refine own_isub X0 hx (hb hby d15_8) ?_
  rw [show ((1 : Int32) - (1 : Int32)) = (0 : Int32) from by decide]
  refine own_iaload X0 hx hZ (.int 0) e0 Vs ⟨by decide, by decide⟩ rfl (hb hby d15_9) ?_
  refine own_cVirt (W := 0) (rest := []) X0 hx hZ [(.int 10), (.int 0)] hown (own_m hw 79 rfl) (own_m hw 80 rfl) (notFace_of_selects (args := #[]) (mvT hZ (own_m hw 82 rfl))) (own_m hw 82 rfl) (own_m hw 81 rfl) (by decide) (own_m hw 83 rfl) (own_m hw 9 rfl) e0 Ea (hX0 h0 n0 Z0 Sc hcs Ea Fv Fc Vb) (by rw [hml]; rfl) (lenOf pd_6 rfl) rfl (Nat.le_of_eq rfl) (hb hby d15_10) (by decide) (by decide) (by decide) (by decide) fun v136 T136 L136 X136 hQ136 => ?_
  obtain ⟨rfl, N136q, e136⟩ := hQ136
  have N136 := Fr.app N0 N136q
  show own_At p e below _ T136 m 13 _ [(.int r1)]
  refine own_istore (l' := #[.val (.ref a), .val (.ref sa), .val (.int 1), .val (.int 1), .val (.int r1)]) X136 hx (hb hby d15_13) rfl ?_
  refine own_iload X136 hx (hb hby d15_15) rfl ?_
  refine own_ifNo X136 hx (hb hby d15_17) (flt hr1).1 ?_
  refine own_aloadN X136 hx (hb hby d15_20) rfl rfl ?_
  refine own_iloadN X136 hx (hb hby d15_21) rfl ?_
  refine own_iinc (l' := #[.val (.ref a), .val (.ref sa), .val (.int 1), .val (.int ((1 : Int32) + (1 : Int32))), .val (.int r1)]) X136 hx (hb hby d15_22) rfl rfl ?_
  rw [show ((1 : Int32) + (1 : Int32)) = (2 : Int32) from by decide]
  refine own_iload X136 hx (hb hby d15_25) rfl ?_
  refine own_iconst X136 hx 1 (hb hby d15_27) rfl ?_
  refine own_iadd X136 hx (hb hby d15_28) ?_
  rw [hs1]
  refine own_stI (vs' := [(.int 0), (.int s1), (.int 0), (.int 0), (.int 0), (.int 0), (.int 0), (.int 0)]) (w := (.int s1)) X136 hx hZ e136 Vs ⟨by decide, by decide⟩ 1 rfl (Nat.le_of_ble_eq_true rfl) rfl rfl (hb hby d15_29) fun T137 h137 X137 e137 W137 V137 => ?_
  have N137 := Fr.snoc X137 N136 g_sa
  refine own_iloadN X137 hx (hb hby d15_30) rfl ?_
  refine own_iloadN X137 hx (hb hby d15_31) rfl ?_
  refine own_bipush X137 hx 64 (hb hby d15_32) rfl ?_
  refine own_iadd X137 hx (hb hby d15_34) ?_
  rw [show ((1 : Int32) + (64 : Int32)) = (65 : Int32) from by decide]
  refine own_icmpYes X137 hx 41 (hb hby d15_35) (feq (by decide : ¬ ((2 : Int32) = (65 : Int32)))).2 (by decide) (by decide) ?_
  refine own_aloadN X137 hx (hb hby d15_41) rfl rfl ?_
  refine own_bipush X137 hx 10 (hb hby d15_42) rfl ?_
  refine own_iload X137 hx (hb hby d15_44) rfl ?_
  refine own_iconst X137 hx 1 (hb hby d15_46) rfl ?_
  refine own_iadd X137 hx (hb hby d15_47) ?_
  rw [hs1]
  refine own_cVirt (W := 0) (rest := []) X137 hx hZ [(.int 10), (.int s1)] hown (own_m hw 79 rfl) (own_m hw 80 rfl) (notFace_of_selects (args := #[]) (mvT hZ (own_m hw 82 rfl))) (own_m hw 82 rfl) (own_m hw 81 rfl) (by decide) (own_m hw 83 rfl) (own_m hw 9 rfl) e137 (Exa.wr W137 Ea) (hX1 h137 n0 (Nat.le_trans Z0 (Keep.of_wr W137).1) (Sta.wr W137 Sc) hcs (Exa.wr W137 Ea) (Fld.other W137 Fv (Or.inl (ne_exa Ea Es (by decide)))) (Fld.other W137 Fc (Or.inl (ne_exa Ea Es (by decide)))) (Arv.other Vb W137 hbs)) (by rw [hml]; rfl) (lenOf pd_6 rfl) rfl (Nat.le_of_eq rfl) (hb hby d15_48) (by decide) (by decide) (by decide) (by decide) fun v138 T138 L138 X138 hQ138 => ?_
  obtain ⟨rfl, N138q, e138⟩ := hQ138
  have N138 := Fr.app N137 N138q
  show own_At p e below _ T138 m 51 _ [(.int r2)]
  refine own_istore (l' := #[.val (.ref a), .val (.ref sa), .val (.int 1), .val (.int 2), .val (.int r2)]) X138 hx (hb hby d15_51) rfl ?_
  refine own_goto X138 hx 15 (hb hby d15_53) (by decide) (by decide) ?_
  refine own_iload X138 hx (hb hby d15_15) rfl ?_
  refine own_ifNo X138 hx (hb hby d15_17) (flt hr2).1 ?_
  refine own_aloadN X138 hx (hb hby d15_20) rfl rfl ?_
  refine own_iloadN X138 hx (hb hby d15_21) rfl ?_
  refine own_iinc (l' := #[.val (.ref a), .val (.ref sa), .val (.int 1), .val (.int ((2 : Int32) + (1 : Int32))), .val (.int r2)]) X138 hx (hb hby d15_22) rfl rfl ?_
  rw [show ((2 : Int32) + (1 : Int32)) = (3 : Int32) from by decide]
  refine own_iload X138 hx (hb hby d15_25) rfl ?_
  refine own_iconst X138 hx 1 (hb hby d15_27) rfl ?_
  refine own_iadd X138 hx (hb hby d15_28) ?_
  rw [hs2]
  refine own_stI (vs' := [(.int 0), (.int s1), (.int s2), (.int 0), (.int 0), (.int 0), (.int 0), (.int 0)]) (w := (.int s2)) X138 hx hZ e138 V137 ⟨by decide, by decide⟩ 2 rfl (Nat.le_of_ble_eq_true rfl) rfl rfl (hb hby d15_29) fun T139 h139 X139 e139 W139 V139 => ?_
  have N139 := Fr.snoc X139 N138 g_sa
  refine own_iloadN X139 hx (hb hby d15_30) rfl ?_
  refine own_iloadN X139 hx (hb hby d15_31) rfl ?_
  refine own_bipush X139 hx 64 (hb hby d15_32) rfl ?_
  refine own_iadd X139 hx (hb hby d15_34) ?_
  rw [show ((1 : Int32) + (64 : Int32)) = (65 : Int32) from by decide]
  refine own_icmpYes X139 hx 41 (hb hby d15_35) (feq (by decide : ¬ ((3 : Int32) = (65 : Int32)))).2 (by decide) (by decide) ?_
  refine own_aloadN X139 hx (hb hby d15_41) rfl rfl ?_
  refine own_bipush X139 hx 10 (hb hby d15_42) rfl ?_
  refine own_iload X139 hx (hb hby d15_44) rfl ?_
  refine own_iconst X139 hx 1 (hb hby d15_46) rfl ?_
  refine own_iadd X139 hx (hb hby d15_47) ?_
  rw [hs2]
  refine own_cVirt (W := 0) (rest := []) X139 hx hZ [(.int 10), (.int s2)] hown (own_m hw 79 rfl) (own_m hw 80 rfl) (notFace_of_selects (args := #[]) (mvT hZ (own_m hw 82 rfl))) (own_m hw 82 rfl) (own_m hw 81 rfl) (by decide) (own_m hw 83 rfl) (own_m hw 9 rfl) e139 (Exa.wr W139 (Exa.wr W137 Ea)) (hX2 h139 n0 (Nat.le_trans (Nat.le_trans Z0 (Keep.of_wr W137).1) (Keep.of_wr W139).1) (Sta.wr W139 (Sta.wr W137 Sc)) hcs (Exa.wr W139 (Exa.wr W137 Ea)) (Fld.other W139 (Fld.other W137 Fv (Or.inl (ne_exa Ea Es (by decide)))) (Or.inl (ne_exa Ea Es (by decide)))) (Fld.other W139 (Fld.other W137 Fc (Or.inl (ne_exa Ea Es (by decide)))) (Or.inl (ne_exa Ea Es (by decide)))) (Arv.other (Arv.other Vb W137 hbs) W139 hbs)) (by rw [hml]; rfl) (lenOf pd_6 rfl) rfl (Nat.le_of_eq rfl) (hb hby d15_48) (by decide) (by decide) (by decide) (by decide) fun v140 T140 L140 X140 hQ140 => ?_
  obtain ⟨rfl, N140q, e140⟩ := hQ140
  have N140 := Fr.app N139 N140q
  show own_At p e below _ T140 m 51 _ [(.int r3)]
  refine own_istore (l' := #[.val (.ref a), .val (.ref sa), .val (.int 1), .val (.int 3), .val (.int r3)]) X140 hx (hb hby d15_51) rfl ?_
  refine own_goto X140 hx 15 (hb hby d15_53) (by decide) (by decide) ?_
  refine own_iload X140 hx (hb hby d15_15) rfl ?_
  refine own_ifNo X140 hx (hb hby d15_17) (flt hr3).1 ?_
  refine own_aloadN X140 hx (hb hby d15_20) rfl rfl ?_
  refine own_iloadN X140 hx (hb hby d15_21) rfl ?_
  refine own_iinc (l' := #[.val (.ref a), .val (.ref sa), .val (.int 1), .val (.int ((3 : Int32) + (1 : Int32))), .val (.int r3)]) X140 hx (hb hby d15_22) rfl rfl ?_
  rw [show ((3 : Int32) + (1 : Int32)) = (4 : Int32) from by decide]
  refine own_iload X140 hx (hb hby d15_25) rfl ?_
  refine own_iconst X140 hx 1 (hb hby d15_27) rfl ?_
  refine own_iadd X140 hx (hb hby d15_28) ?_
  rw [hs3]
  refine own_stI (vs' := [(.int 0), (.int s1), (.int s2), (.int s3), (.int 0), (.int 0), (.int 0), (.int 0)]) (w := (.int s3)) X140 hx hZ e140 V139 ⟨by decide, by decide⟩ 3 rfl (Nat.le_of_ble_eq_true rfl) rfl rfl (hb hby d15_29) fun T141 h141 X141 e141 W141 V141 => ?_
  have N141 := Fr.snoc X141 N140 g_sa
  refine own_iloadN X141 hx (hb hby d15_30) rfl ?_
  refine own_iloadN X141 hx (hb hby d15_31) rfl ?_
  refine own_bipush X141 hx 64 (hb hby d15_32) rfl ?_
  refine own_iadd X141 hx (hb hby d15_34) ?_
  rw [show ((1 : Int32) + (64 : Int32)) = (65 : Int32) from by decide]
  refine own_icmpYes X141 hx 41 (hb hby d15_35) (feq (by decide : ¬ ((4 : Int32) = (65 : Int32)))).2 (by decide) (by decide) ?_
  refine own_aloadN X141 hx (hb hby d15_41) rfl rfl ?_
  refine own_bipush X141 hx 10 (hb hby d15_42) rfl ?_
  refine own_iload X141 hx (hb hby d15_44) rfl ?_
  refine own_iconst X141 hx 1 (hb hby d15_46) rfl ?_
  refine own_iadd X141 hx (hb hby d15_47) ?_
  rw [hs3]
  refine own_cVirt (W := 0) (rest := []) X141 hx hZ [(.int 10), (.int s3)] hown (own_m hw 79 rfl) (own_m hw 80 rfl) (notFace_of_selects (args := #[]) (mvT hZ (own_m hw 82 rfl))) (own_m hw 82 rfl) (own_m hw 81 rfl) (by decide) (own_m hw 83 rfl) (own_m hw 9 rfl) e141 (Exa.wr W141 (Exa.wr W139 (Exa.wr W137 Ea))) (hX3 h141 n0 (Nat.le_trans (Nat.le_trans (Nat.le_trans Z0 (Keep.of_wr W137).1) (Keep.of_wr W139).1) (Keep.of_wr W141).1) (Sta.wr W141 (Sta.wr W139 (Sta.wr W137 Sc))) hcs (Exa.wr W141 (Exa.wr W139 (Exa.wr W137 Ea))) (Fld.other W141 (Fld.other W139 (Fld.other W137 Fv (Or.inl (ne_exa Ea Es (by decide)))) (Or.inl (ne_exa Ea Es (by decide)))) (Or.inl (ne_exa Ea Es (by decide)))) (Fld.other W141 (Fld.other W139 (Fld.other W137 Fc (Or.inl (ne_exa Ea Es (by decide)))) (Or.inl (ne_exa Ea Es (by decide)))) (Or.inl (ne_exa Ea Es (by decide)))) (Arv.other (Arv.other (Arv.other Vb W137 hbs) W139 hbs) W141 hbs)) (by rw [hml]; rfl) (lenOf pd_6 rfl) rfl (Nat.le_of_eq rfl) (hb hby d15_48) (by decide) (by decide) (by decide) (by decide) fun v142 T142 L142 X142 hQ142 => ?_
  obtain ⟨rfl, N142q, e142⟩ := hQ142
  have N142 := Fr.app N141 N142q
  show own_At p e below _ T142 m 51 _ [(.int (-1 : Int32))]
  refine own_istore (l' := #[.val (.ref a), .val (.ref sa), .val (.int 1), .val (.int 4), .val (.int (-1 : Int32))]) X142 hx (hb hby d15_51) rfl ?_
  refine own_goto X142 hx 15 (hb hby d15_53) (by decide) (by decide) ?_
  refine own_iload X142 hx (hb hby d15_15) rfl ?_
  refine own_ifYes X142 hx 56 (hb hby d15_17) (tlt (by decide : (-1 : Int32) < (0 : Int32))).1 (by decide) (by decide) ?_
  refine own_iloadN X142 hx (hb hby d15_56) rfl ?_
  refine own_retI X142 hx hlk hret (hb hby d15_57) (own_kN (by decide) (by decide) ?_)
  try rw [e142]
  exact ⟨rfl, N142, (Keep.wr (Keep.wr (Keep.wr (Keep.refl h0 [sa]) W137 (Or.inl (List.mem_of_getElem? (i := 0) rfl))) W139 (Or.inl (List.mem_of_getElem? (i := 0) rfl))) W141 (Or.inl (List.mem_of_getElem? (i := 0) rfl))), V141⟩
set_option maxRecDepth 65536 in
set_option maxHeartbeats 40000000 in
theorem rmLS2_4 (l : Launch) (Z : State) (a0 : Array Value) (hw : own_Wd a0 Z) (ws : List Jvm.Cond) (a b sa : Addr) (kb ks : ClassId) (cs n : Int32) (bs : List Value) (s1 s2 s3 : Int32)  (h0 : Heap) (n0 : Nat) (Z0 : n0 ≤ h0.size) (Sc : Sta Z h0 "java/lang/String" "COMPACT_STRINGS" "Z" (.int cs)) (hcs : ¬ (cs = (0 : Int32))) (Ea : Exa Z h0 a "java/lang/String") (Fv : Fld Z h0 a "java/lang/String" "value" "[B" (.ref b)) (Fc : Fld Z h0 a "java/lang/String" "coder" "B" (.int 0)) (Vb : Arv Z h0 b kb .byte n bs (.int 0)) (hX3 : own_CX l Z a b kb cs n bs s3 (-1 : Int32)) (Vs : Arv Z h0 sa ks .int (130 : Int32) [(.int 0), (.int s1), (.int s2), (.int s3), (.int 0), (.int 0), (.int 0), (.int 0)] (.int 0)) :
    own_Met l (⟨"com/example/amendtrail/amendtrail/write/Lines", "lineStarts", "(Ljava/lang/String;[II)I"⟩ : MethodName) prog_111_method_2_code 5 (some .int) ws ({ frames := 3, cells := 0, slots := 0, locals := 46 } : Room) Z #[(.ref a), (.ref sa), (.int 4)] h0 (fun v h L => v = some (.int 4) ∧ Fr n0 L ∧ h = h0) := by
  refine own_body (plainFor_of_name pn_8) ?_
  intro p e s m below meth c s₁ X0 hx hby hml hown hnm hret hlk hZ e0
  replace hown : s.vm.findClass "com/example/amendtrail/amendtrail/write/Lines" = some m.cls := hown
  replace hml : c.maxLocals = 5 := hml
  replace hret : meth.sig.returnType = (some .int) := hret
  have N0 := Fr.nil n0
  refine own_ef (L0 := #[.val (.ref a), .val (.ref sa), .val (.int 4), .unset, .unset]) (by first | (simp [entryFrame, mkF, argsToLocals, Value.category]; done) | rfl) ?_
  refine own_iloadN X0 hx (hb hby d15_0) rfl ?_
  refine own_istoreN (l' := #[.val (.ref a), .val (.ref sa), .val (.int 4), .val (.int 4), .unset]) X0 hx (hb hby d15_1) rfl ?_
  refine own_aloadN X0 hx (hb hby d15_2) rfl rfl ?_
  refine own_bipush X0 hx 10 (hb hby d15_3) rfl ?_
  refine own_aloadN X0 hx (hb hby d15_5) rfl rfl ?_
  refine own_iloadN X0 hx (hb hby d15_6) rfl ?_
  refine own_iconst X0 hx 1 (hb hby d15_7) rfl ?_
  refine own_isub X0 hx (hb hby d15_8) ?_
  rw [show ((4 : Int32) - (1 : Int32)) = (3 : Int32) from by decide]
  refine own_iaload X0 hx hZ (.int s3) e0 Vs ⟨by decide, by decide⟩ rfl (hb hby d15_9) ?_
  refine own_cVirt (W := 0) (rest := []) X0 hx hZ [(.int 10), (.int s3)] hown (own_m hw 79 rfl) (own_m hw 80 rfl) (notFace_of_selects (args := #[]) (mvT hZ (own_m hw 82 rfl))) (own_m hw 82 rfl) (own_m hw 81 rfl) (by decide) (own_m hw 83 rfl) (own_m hw 9 rfl) e0 Ea (hX3 h0 n0 Z0 Sc hcs Ea Fv Fc Vb) (by rw [hml]; rfl) (lenOf pd_6 rfl) rfl (Nat.le_of_eq rfl) (hb hby d15_10) (by decide) (by decide) (by decide) (by decide) fun v143 T143 L143 X143 hQ143 => ?_
  obtain ⟨rfl, N143q, e143⟩ := hQ143
  have N143 := Fr.app N0 N143q
  show own_At p e below _ T143 m 13 _ [(.int (-1 : Int32))]
  refine own_istore (l' := #[.val (.ref a), .val (.ref sa), .val (.int 4), .val (.int 4), .val (.int (-1 : Int32))]) X143 hx (hb hby d15_13) rfl ?_
  refine own_iload X143 hx (hb hby d15_15) rfl ?_
  refine own_ifYes X143 hx 56 (hb hby d15_17) (tlt (by decide : (-1 : Int32) < (0 : Int32))).1 (by decide) (by decide) ?_
  refine own_iloadN X143 hx (hb hby d15_56) rfl ?_
  refine own_retI X143 hx hlk hret (hb hby d15_57) (own_kN (by decide) (by decide) ?_)
  try rw [e143]
  exact ⟨rfl, N143, rfl⟩
set_option maxRecDepth 65536 in
set_option maxHeartbeats 40000000 in
theorem rmLS1_5 (l : Launch) (Z : State) (a0 : Array Value) (hw : own_Wd a0 Z) (ws : List Jvm.Cond) (a b sa : Addr) (kb ks : ClassId) (cs n : Int32) (bs : List Value) (r1 s1 r2 s2 r3 s3 r4 s4 : Int32)  (h0 : Heap) (n0 : Nat) (Z0 : n0 ≤ h0.size) (Sc : Sta Z h0 "java/lang/String" "COMPACT_STRINGS" "Z" (.int cs)) (hcs : ¬ (cs = (0 : Int32))) (Ea : Exa Z h0 a "java/lang/String") (Fv : Fld Z h0 a "java/lang/String" "value" "[B" (.ref b)) (Fc : Fld Z h0 a "java/lang/String" "coder" "B" (.int 0)) (Vb : Arv Z h0 b kb .byte n bs (.int 0)) (hX0 : own_CX l Z a b kb cs n bs (0 : Int32) r1) (hX1 : own_CX l Z a b kb cs n bs s1 r2) (hX2 : own_CX l Z a b kb cs n bs s2 r3) (hX3 : own_CX l Z a b kb cs n bs s3 r4) (hX4 : own_CX l Z a b kb cs n bs s4 (-1 : Int32)) (hr1 : ¬ (r1 < (0 : Int32))) (hr2 : ¬ (r2 < (0 : Int32))) (hr3 : ¬ (r3 < (0 : Int32))) (hr4 : ¬ (r4 < (0 : Int32))) (hs1 : (r1 + (1 : Int32)) = s1) (hs2 : (r2 + (1 : Int32)) = s2) (hs3 : (r3 + (1 : Int32)) = s3) (hs4 : (r4 + (1 : Int32)) = s4) (Vs : Arv Z h0 sa ks .int (65 : Int32) [(.int 0), (.int 0), (.int 0), (.int 0), (.int 0), (.int 0), (.int 0), (.int 0)] (.int 0)) (g_sa : n0 ≤ sa) (Es : Exa Z h0 sa "[I") (hbs : b ≠ sa) :
    own_Met l (⟨"com/example/amendtrail/amendtrail/write/Lines", "lineStarts", "(Ljava/lang/String;[II)I"⟩ : MethodName) prog_111_method_2_code 5 (some .int) ws ({ frames := 3, cells := 0, slots := 0, locals := 46 } : Room) Z #[(.ref a), (.ref sa), (.int 1)] h0 (fun v h L => v = some (.int 5) ∧ Fr n0 L ∧ Keep h0 h [sa] ∧ Arv Z h sa ks .int (65 : Int32) [(.int 0), (.int s1), (.int s2), (.int s3), (.int s4), (.int 0), (.int 0), (.int 0)] (.int 0)) := by
  refine own_body (plainFor_of_name pn_8) ?_
  intro p e s m below meth c s₁ X0 hx hby hml hown hnm hret hlk hZ e0
  replace hown : s.vm.findClass "com/example/amendtrail/amendtrail/write/Lines" = some m.cls := hown
  replace hml : c.maxLocals = 5 := hml
  replace hret : meth.sig.returnType = (some .int) := hret
  have N0 := Fr.nil n0
  refine own_ef (L0 := #[.val (.ref a), .val (.ref sa), .val (.int 1), .unset, .unset]) (by first | (simp [entryFrame, mkF, argsToLocals, Value.category]; done) | rfl) ?_
  refine own_iloadN X0 hx (hb hby d15_0) rfl ?_
  refine own_istoreN (l' := #[.val (.ref a), .val (.ref sa), .val (.int 1), .val (.int 1), .unset]) X0 hx (hb hby d15_1) rfl ?_
  refine own_aloadN X0 hx (hb hby d15_2) rfl rfl ?_
  refine own_bipush X0 hx 10 (hb hby d15_3) rfl ?_
  refine own_aloadN X0 hx (hb hby d15_5) rfl rfl ?_
  refine own_iloadN X0 hx (hb hby d15_6) rfl ?_
  refine own_iconst X0 hx 1 (hb hby d15_7) rfl ?_
  refine own_isub X0 hx (hb hby d15_8) ?_
  rw [show ((1 : Int32) - (1 : Int32)) = (0 : Int32) from by decide]
  refine own_iaload X0 hx hZ (.int 0) e0 Vs ⟨by decide, by decide⟩ rfl (hb hby d15_9) ?_
  refine own_cVirt (W := 0) (rest := []) X0 hx hZ [(.int 10), (.int 0)] hown (own_m hw 79 rfl) (own_m hw 80 rfl) (notFace_of_selects (args := #[]) (mvT hZ (own_m hw 82 rfl))) (own_m hw 82 rfl) (own_m hw 81 rfl) (by decide) (own_m hw 83 rfl) (own_m hw 9 rfl) e0 Ea (hX0 h0 n0 Z0 Sc hcs Ea Fv Fc Vb) (by rw [hml]; rfl) (lenOf pd_6 rfl) rfl (Nat.le_of_eq rfl) (hb hby d15_10) (by decide) (by decide) (by decide) (by decide) fun v144 T144 L144 X144 hQ144 => ?_
  obtain ⟨rfl, N144q, e144⟩ := hQ144
  have N144 := Fr.app N0 N144q
  show own_At p e below _ T144 m 13 _ [(.int r1)]
  refine own_istore (l' := #[.val (.ref a), .val (.ref sa), .val (.int 1), .val (.int 1), .val (.int r1)]) X144 hx (hb hby d15_13) rfl ?_
  refine own_iload X144 hx (hb hby d15_15) rfl ?_
  refine own_ifNo X144 hx (hb hby d15_17) (flt hr1).1 ?_
  refine own_aloadN X144 hx (hb hby d15_20) rfl rfl ?_
  refine own_iloadN X144 hx (hb hby d15_21) rfl ?_
  refine own_iinc (l' := #[.val (.ref a), .val (.ref sa), .val (.int 1), .val (.int ((1 : Int32) + (1 : Int32))), .val (.int r1)]) X144 hx (hb hby d15_22) rfl rfl ?_
  rw [show ((1 : Int32) + (1 : Int32)) = (2 : Int32) from by decide]
  refine own_iload X144 hx (hb hby d15_25) rfl ?_
  refine own_iconst X144 hx 1 (hb hby d15_27) rfl ?_
  refine own_iadd X144 hx (hb hby d15_28) ?_
  rw [hs1]
  refine own_stI (vs' := [(.int 0), (.int s1), (.int 0), (.int 0), (.int 0), (.int 0), (.int 0), (.int 0)]) (w := (.int s1)) X144 hx hZ e144 Vs ⟨by decide, by decide⟩ 1 rfl (Nat.le_of_ble_eq_true rfl) rfl rfl (hb hby d15_29) fun T145 h145 X145 e145 W145 V145 => ?_
  have N145 := Fr.snoc X145 N144 g_sa
  refine own_iloadN X145 hx (hb hby d15_30) rfl ?_
  refine own_iloadN X145 hx (hb hby d15_31) rfl ?_
  refine own_bipush X145 hx 64 (hb hby d15_32) rfl ?_
  refine own_iadd X145 hx (hb hby d15_34) ?_
  rw [show ((1 : Int32) + (64 : Int32)) = (65 : Int32) from by decide]
  refine own_icmpYes X145 hx 41 (hb hby d15_35) (feq (by decide : ¬ ((2 : Int32) = (65 : Int32)))).2 (by decide) (by decide) ?_
  refine own_aloadN X145 hx (hb hby d15_41) rfl rfl ?_
  refine own_bipush X145 hx 10 (hb hby d15_42) rfl ?_
  refine own_iload X145 hx (hb hby d15_44) rfl ?_
  refine own_iconst X145 hx 1 (hb hby d15_46) rfl ?_
  refine own_iadd X145 hx (hb hby d15_47) ?_
  rw [hs1]
  refine own_cVirt (W := 0) (rest := []) X145 hx hZ [(.int 10), (.int s1)] hown (own_m hw 79 rfl) (own_m hw 80 rfl) (notFace_of_selects (args := #[]) (mvT hZ (own_m hw 82 rfl))) (own_m hw 82 rfl) (own_m hw 81 rfl) (by decide) (own_m hw 83 rfl) (own_m hw 9 rfl) e145 (Exa.wr W145 Ea) (hX1 h145 n0 (Nat.le_trans Z0 (Keep.of_wr W145).1) (Sta.wr W145 Sc) hcs (Exa.wr W145 Ea) (Fld.other W145 Fv (Or.inl (ne_exa Ea Es (by decide)))) (Fld.other W145 Fc (Or.inl (ne_exa Ea Es (by decide)))) (Arv.other Vb W145 hbs)) (by rw [hml]; rfl) (lenOf pd_6 rfl) rfl (Nat.le_of_eq rfl) (hb hby d15_48) (by decide) (by decide) (by decide) (by decide) fun v146 T146 L146 X146 hQ146 => ?_
  obtain ⟨rfl, N146q, e146⟩ := hQ146
  have N146 := Fr.app N145 N146q
  show own_At p e below _ T146 m 51 _ [(.int r2)]
  refine own_istore (l' := #[.val (.ref a), .val (.ref sa), .val (.int 1), .val (.int 2), .val (.int r2)]) X146 hx (hb hby d15_51) rfl ?_
  refine own_goto X146 hx 15 (hb hby d15_53) (by decide) (by decide) ?_
  refine own_iload X146 hx (hb hby d15_15) rfl ?_
  refine own_ifNo X146 hx (hb hby d15_17) (flt hr2).1 ?_
  refine own_aloadN X146 hx (hb hby d15_20) rfl rfl ?_
  refine own_iloadN X146 hx (hb hby d15_21) rfl ?_
  refine own_iinc (l' := #[.val (.ref a), .val (.ref sa), .val (.int 1), .val (.int ((2 : Int32) + (1 : Int32))), .val (.int r2)]) X146 hx (hb hby d15_22) rfl rfl ?_
  rw [show ((2 : Int32) + (1 : Int32)) = (3 : Int32) from by decide]
  refine own_iload X146 hx (hb hby d15_25) rfl ?_
  refine own_iconst X146 hx 1 (hb hby d15_27) rfl ?_
  refine own_iadd X146 hx (hb hby d15_28) ?_
  rw [hs2]
  refine own_stI (vs' := [(.int 0), (.int s1), (.int s2), (.int 0), (.int 0), (.int 0), (.int 0), (.int 0)]) (w := (.int s2)) X146 hx hZ e146 V145 ⟨by decide, by decide⟩ 2 rfl (Nat.le_of_ble_eq_true rfl) rfl rfl (hb hby d15_29) fun T147 h147 X147 e147 W147 V147 => ?_
  have N147 := Fr.snoc X147 N146 g_sa
  refine own_iloadN X147 hx (hb hby d15_30) rfl ?_
  refine own_iloadN X147 hx (hb hby d15_31) rfl ?_
  refine own_bipush X147 hx 64 (hb hby d15_32) rfl ?_
  refine own_iadd X147 hx (hb hby d15_34) ?_
  rw [show ((1 : Int32) + (64 : Int32)) = (65 : Int32) from by decide]
  refine own_icmpYes X147 hx 41 (hb hby d15_35) (feq (by decide : ¬ ((3 : Int32) = (65 : Int32)))).2 (by decide) (by decide) ?_
  refine own_aloadN X147 hx (hb hby d15_41) rfl rfl ?_
  refine own_bipush X147 hx 10 (hb hby d15_42) rfl ?_
  refine own_iload X147 hx (hb hby d15_44) rfl ?_
  refine own_iconst X147 hx 1 (hb hby d15_46) rfl ?_
  refine own_iadd X147 hx (hb hby d15_47) ?_
  rw [hs2]
  refine own_cVirt (W := 0) (rest := []) X147 hx hZ [(.int 10), (.int s2)] hown (own_m hw 79 rfl) (own_m hw 80 rfl) (notFace_of_selects (args := #[]) (mvT hZ (own_m hw 82 rfl))) (own_m hw 82 rfl) (own_m hw 81 rfl) (by decide) (own_m hw 83 rfl) (own_m hw 9 rfl) e147 (Exa.wr W147 (Exa.wr W145 Ea)) (hX2 h147 n0 (Nat.le_trans (Nat.le_trans Z0 (Keep.of_wr W145).1) (Keep.of_wr W147).1) (Sta.wr W147 (Sta.wr W145 Sc)) hcs (Exa.wr W147 (Exa.wr W145 Ea)) (Fld.other W147 (Fld.other W145 Fv (Or.inl (ne_exa Ea Es (by decide)))) (Or.inl (ne_exa Ea Es (by decide)))) (Fld.other W147 (Fld.other W145 Fc (Or.inl (ne_exa Ea Es (by decide)))) (Or.inl (ne_exa Ea Es (by decide)))) (Arv.other (Arv.other Vb W145 hbs) W147 hbs)) (by rw [hml]; rfl) (lenOf pd_6 rfl) rfl (Nat.le_of_eq rfl) (hb hby d15_48) (by decide) (by decide) (by decide) (by decide) fun v148 T148 L148 X148 hQ148 => ?_
  obtain ⟨rfl, N148q, e148⟩ := hQ148
  have N148 := Fr.app N147 N148q
  show own_At p e below _ T148 m 51 _ [(.int r3)]
  refine own_istore (l' := #[.val (.ref a), .val (.ref sa), .val (.int 1), .val (.int 3), .val (.int r3)]) X148 hx (hb hby d15_51) rfl ?_
  refine own_goto X148 hx 15 (hb hby d15_53) (by decide) (by decide) ?_
  refine own_iload X148 hx (hb hby d15_15) rfl ?_
  refine own_ifNo X148 hx (hb hby d15_17) (flt hr3).1 ?_
  refine own_aloadN X148 hx (hb hby d15_20) rfl rfl ?_
  refine own_iloadN X148 hx (hb hby d15_21) rfl ?_
  refine own_iinc (l' := #[.val (.ref a), .val (.ref sa), .val (.int 1), .val (.int ((3 : Int32) + (1 : Int32))), .val (.int r3)]) X148 hx (hb hby d15_22) rfl rfl ?_
  rw [show ((3 : Int32) + (1 : Int32)) = (4 : Int32) from by decide]
  refine own_iload X148 hx (hb hby d15_25) rfl ?_
  refine own_iconst X148 hx 1 (hb hby d15_27) rfl ?_
  refine own_iadd X148 hx (hb hby d15_28) ?_
  rw [hs3]
  refine own_stI (vs' := [(.int 0), (.int s1), (.int s2), (.int s3), (.int 0), (.int 0), (.int 0), (.int 0)]) (w := (.int s3)) X148 hx hZ e148 V147 ⟨by decide, by decide⟩ 3 rfl (Nat.le_of_ble_eq_true rfl) rfl rfl (hb hby d15_29) fun T149 h149 X149 e149 W149 V149 => ?_
  have N149 := Fr.snoc X149 N148 g_sa
  refine own_iloadN X149 hx (hb hby d15_30) rfl ?_
  refine own_iloadN X149 hx (hb hby d15_31) rfl ?_
  refine own_bipush X149 hx 64 (hb hby d15_32) rfl ?_
  refine own_iadd X149 hx (hb hby d15_34) ?_
  rw [show ((1 : Int32) + (64 : Int32)) = (65 : Int32) from by decide]
  refine own_icmpYes X149 hx 41 (hb hby d15_35) (feq (by decide : ¬ ((4 : Int32) = (65 : Int32)))).2 (by decide) (by decide) ?_
  refine own_aloadN X149 hx (hb hby d15_41) rfl rfl ?_
  refine own_bipush X149 hx 10 (hb hby d15_42) rfl ?_
  refine own_iload X149 hx (hb hby d15_44) rfl ?_
  refine own_iconst X149 hx 1 (hb hby d15_46) rfl ?_
  refine own_iadd X149 hx (hb hby d15_47) ?_
  rw [hs3]
  refine own_cVirt (W := 0) (rest := []) X149 hx hZ [(.int 10), (.int s3)] hown (own_m hw 79 rfl) (own_m hw 80 rfl) (notFace_of_selects (args := #[]) (mvT hZ (own_m hw 82 rfl))) (own_m hw 82 rfl) (own_m hw 81 rfl) (by decide) (own_m hw 83 rfl) (own_m hw 9 rfl) e149 (Exa.wr W149 (Exa.wr W147 (Exa.wr W145 Ea))) (hX3 h149 n0 (Nat.le_trans (Nat.le_trans (Nat.le_trans Z0 (Keep.of_wr W145).1) (Keep.of_wr W147).1) (Keep.of_wr W149).1) (Sta.wr W149 (Sta.wr W147 (Sta.wr W145 Sc))) hcs (Exa.wr W149 (Exa.wr W147 (Exa.wr W145 Ea))) (Fld.other W149 (Fld.other W147 (Fld.other W145 Fv (Or.inl (ne_exa Ea Es (by decide)))) (Or.inl (ne_exa Ea Es (by decide)))) (Or.inl (ne_exa Ea Es (by decide)))) (Fld.other W149 (Fld.other W147 (Fld.other W145 Fc (Or.inl (ne_exa Ea Es (by decide)))) (Or.inl (ne_exa Ea Es (by decide)))) (Or.inl (ne_exa Ea Es (by decide)))) (Arv.other (Arv.other (Arv.other Vb W145 hbs) W147 hbs) W149 hbs)) (by rw [hml]; rfl) (lenOf pd_6 rfl) rfl (Nat.le_of_eq rfl) (hb hby d15_48) (by decide) (by decide) (by decide) (by decide) fun v150 T150 L150 X150 hQ150 => ?_
  obtain ⟨rfl, N150q, e150⟩ := hQ150
  have N150 := Fr.app N149 N150q
  show own_At p e below _ T150 m 51 _ [(.int r4)]
  refine own_istore (l' := #[.val (.ref a), .val (.ref sa), .val (.int 1), .val (.int 4), .val (.int r4)]) X150 hx (hb hby d15_51) rfl ?_
  refine own_goto X150 hx 15 (hb hby d15_53) (by decide) (by decide) ?_
  refine own_iload X150 hx (hb hby d15_15) rfl ?_
  refine own_ifNo X150 hx (hb hby d15_17) (flt hr4).1 ?_
  refine own_aloadN X150 hx (hb hby d15_20) rfl rfl ?_
  refine own_iloadN X150 hx (hb hby d15_21) rfl ?_
  refine own_iinc (l' := #[.val (.ref a), .val (.ref sa), .val (.int 1), .val (.int ((4 : Int32) + (1 : Int32))), .val (.int r4)]) X150 hx (hb hby d15_22) rfl rfl ?_
  rw [show ((4 : Int32) + (1 : Int32)) = (5 : Int32) from by decide]
  refine own_iload X150 hx (hb hby d15_25) rfl ?_
  refine own_iconst X150 hx 1 (hb hby d15_27) rfl ?_
  refine own_iadd X150 hx (hb hby d15_28) ?_
  rw [hs4]
  refine own_stI (vs' := [(.int 0), (.int s1), (.int s2), (.int s3), (.int s4), (.int 0), (.int 0), (.int 0)]) (w := (.int s4)) X150 hx hZ e150 V149 ⟨by decide, by decide⟩ 4 rfl (Nat.le_of_ble_eq_true rfl) rfl rfl (hb hby d15_29) fun T151 h151 X151 e151 W151 V151 => ?_
  have N151 := Fr.snoc X151 N150 g_sa
  refine own_iloadN X151 hx (hb hby d15_30) rfl ?_
  refine own_iloadN X151 hx (hb hby d15_31) rfl ?_
  refine own_bipush X151 hx 64 (hb hby d15_32) rfl ?_
  refine own_iadd X151 hx (hb hby d15_34) ?_
  rw [show ((1 : Int32) + (64 : Int32)) = (65 : Int32) from by decide]
  refine own_icmpYes X151 hx 41 (hb hby d15_35) (feq (by decide : ¬ ((5 : Int32) = (65 : Int32)))).2 (by decide) (by decide) ?_
  refine own_aloadN X151 hx (hb hby d15_41) rfl rfl ?_
  refine own_bipush X151 hx 10 (hb hby d15_42) rfl ?_
  refine own_iload X151 hx (hb hby d15_44) rfl ?_
  refine own_iconst X151 hx 1 (hb hby d15_46) rfl ?_
  refine own_iadd X151 hx (hb hby d15_47) ?_
  rw [hs4]
  refine own_cVirt (W := 0) (rest := []) X151 hx hZ [(.int 10), (.int s4)] hown (own_m hw 79 rfl) (own_m hw 80 rfl) (notFace_of_selects (args := #[]) (mvT hZ (own_m hw 82 rfl))) (own_m hw 82 rfl) (own_m hw 81 rfl) (by decide) (own_m hw 83 rfl) (own_m hw 9 rfl) e151 (Exa.wr W151 (Exa.wr W149 (Exa.wr W147 (Exa.wr W145 Ea)))) (hX4 h151 n0 (Nat.le_trans (Nat.le_trans (Nat.le_trans (Nat.le_trans Z0 (Keep.of_wr W145).1) (Keep.of_wr W147).1) (Keep.of_wr W149).1) (Keep.of_wr W151).1) (Sta.wr W151 (Sta.wr W149 (Sta.wr W147 (Sta.wr W145 Sc)))) hcs (Exa.wr W151 (Exa.wr W149 (Exa.wr W147 (Exa.wr W145 Ea)))) (Fld.other W151 (Fld.other W149 (Fld.other W147 (Fld.other W145 Fv (Or.inl (ne_exa Ea Es (by decide)))) (Or.inl (ne_exa Ea Es (by decide)))) (Or.inl (ne_exa Ea Es (by decide)))) (Or.inl (ne_exa Ea Es (by decide)))) (Fld.other W151 (Fld.other W149 (Fld.other W147 (Fld.other W145 Fc (Or.inl (ne_exa Ea Es (by decide)))) (Or.inl (ne_exa Ea Es (by decide)))) (Or.inl (ne_exa Ea Es (by decide)))) (Or.inl (ne_exa Ea Es (by decide)))) (Arv.other (Arv.other (Arv.other (Arv.other Vb W145 hbs) W147 hbs) W149 hbs) W151 hbs)) (by rw [hml]; rfl) (lenOf pd_6 rfl) rfl (Nat.le_of_eq rfl) (hb hby d15_48) (by decide) (by decide) (by decide) (by decide) fun v152 T152 L152 X152 hQ152 => ?_
  obtain ⟨rfl, N152q, e152⟩ := hQ152
  have N152 := Fr.app N151 N152q
  show own_At p e below _ T152 m 51 _ [(.int (-1 : Int32))]
  refine own_istore (l' := #[.val (.ref a), .val (.ref sa), .val (.int 1), .val (.int 5), .val (.int (-1 : Int32))]) X152 hx (hb hby d15_51) rfl ?_
  refine own_goto X152 hx 15 (hb hby d15_53) (by decide) (by decide) ?_
  refine own_iload X152 hx (hb hby d15_15) rfl ?_
  refine own_ifYes X152 hx 56 (hb hby d15_17) (tlt (by decide : (-1 : Int32) < (0 : Int32))).1 (by decide) (by decide) ?_
  refine own_iloadN X152 hx (hb hby d15_56) rfl ?_
  refine own_retI X152 hx hlk hret (hb hby d15_57) (own_kN (by decide) (by decide) ?_)
  try rw [e152]
  exact ⟨rfl, N152, (Keep.wr (Keep.wr (Keep.wr (Keep.wr (Keep.refl h0 [sa]) W145 (Or.inl (List.mem_of_getElem? (i := 0) rfl))) W147 (Or.inl (List.mem_of_getElem? (i := 0) rfl))) W149 (Or.inl (List.mem_of_getElem? (i := 0) rfl))) W151 (Or.inl (List.mem_of_getElem? (i := 0) rfl))), V151⟩
set_option maxRecDepth 65536 in
set_option maxHeartbeats 40000000 in
theorem rmLS2_5 (l : Launch) (Z : State) (a0 : Array Value) (hw : own_Wd a0 Z) (ws : List Jvm.Cond) (a b sa : Addr) (kb ks : ClassId) (cs n : Int32) (bs : List Value) (s1 s2 s3 s4 : Int32)  (h0 : Heap) (n0 : Nat) (Z0 : n0 ≤ h0.size) (Sc : Sta Z h0 "java/lang/String" "COMPACT_STRINGS" "Z" (.int cs)) (hcs : ¬ (cs = (0 : Int32))) (Ea : Exa Z h0 a "java/lang/String") (Fv : Fld Z h0 a "java/lang/String" "value" "[B" (.ref b)) (Fc : Fld Z h0 a "java/lang/String" "coder" "B" (.int 0)) (Vb : Arv Z h0 b kb .byte n bs (.int 0)) (hX4 : own_CX l Z a b kb cs n bs s4 (-1 : Int32)) (Vs : Arv Z h0 sa ks .int (130 : Int32) [(.int 0), (.int s1), (.int s2), (.int s3), (.int s4), (.int 0), (.int 0), (.int 0)] (.int 0)) :
    own_Met l (⟨"com/example/amendtrail/amendtrail/write/Lines", "lineStarts", "(Ljava/lang/String;[II)I"⟩ : MethodName) prog_111_method_2_code 5 (some .int) ws ({ frames := 3, cells := 0, slots := 0, locals := 46 } : Room) Z #[(.ref a), (.ref sa), (.int 5)] h0 (fun v h L => v = some (.int 5) ∧ Fr n0 L ∧ h = h0) := by
  refine own_body (plainFor_of_name pn_8) ?_
  intro p e s m below meth c s₁ X0 hx hby hml hown hnm hret hlk hZ e0
  replace hown : s.vm.findClass "com/example/amendtrail/amendtrail/write/Lines" = some m.cls := hown
  replace hml : c.maxLocals = 5 := hml
  replace hret : meth.sig.returnType = (some .int) := hret
  have N0 := Fr.nil n0
  refine own_ef (L0 := #[.val (.ref a), .val (.ref sa), .val (.int 5), .unset, .unset]) (by first | (simp [entryFrame, mkF, argsToLocals, Value.category]; done) | rfl) ?_
  refine own_iloadN X0 hx (hb hby d15_0) rfl ?_
  refine own_istoreN (l' := #[.val (.ref a), .val (.ref sa), .val (.int 5), .val (.int 5), .unset]) X0 hx (hb hby d15_1) rfl ?_
  refine own_aloadN X0 hx (hb hby d15_2) rfl rfl ?_
  refine own_bipush X0 hx 10 (hb hby d15_3) rfl ?_
  refine own_aloadN X0 hx (hb hby d15_5) rfl rfl ?_
  refine own_iloadN X0 hx (hb hby d15_6) rfl ?_
  refine own_iconst X0 hx 1 (hb hby d15_7) rfl ?_
  refine own_isub X0 hx (hb hby d15_8) ?_
  rw [show ((5 : Int32) - (1 : Int32)) = (4 : Int32) from by decide]
  refine own_iaload X0 hx hZ (.int s4) e0 Vs ⟨by decide, by decide⟩ rfl (hb hby d15_9) ?_
  refine own_cVirt (W := 0) (rest := []) X0 hx hZ [(.int 10), (.int s4)] hown (own_m hw 79 rfl) (own_m hw 80 rfl) (notFace_of_selects (args := #[]) (mvT hZ (own_m hw 82 rfl))) (own_m hw 82 rfl) (own_m hw 81 rfl) (by decide) (own_m hw 83 rfl) (own_m hw 9 rfl) e0 Ea (hX4 h0 n0 Z0 Sc hcs Ea Fv Fc Vb) (by rw [hml]; rfl) (lenOf pd_6 rfl) rfl (Nat.le_of_eq rfl) (hb hby d15_10) (by decide) (by decide) (by decide) (by decide) fun v153 T153 L153 X153 hQ153 => ?_
  obtain ⟨rfl, N153q, e153⟩ := hQ153
  have N153 := Fr.app N0 N153q
  show own_At p e below _ T153 m 13 _ [(.int (-1 : Int32))]
  refine own_istore (l' := #[.val (.ref a), .val (.ref sa), .val (.int 5), .val (.int 5), .val (.int (-1 : Int32))]) X153 hx (hb hby d15_13) rfl ?_
  refine own_iload X153 hx (hb hby d15_15) rfl ?_
  refine own_ifYes X153 hx 56 (hb hby d15_17) (tlt (by decide : (-1 : Int32) < (0 : Int32))).1 (by decide) (by decide) ?_
  refine own_iloadN X153 hx (hb hby d15_56) rfl ?_
  refine own_retI X153 hx hlk hret (hb hby d15_57) (own_kN (by decide) (by decide) ?_)
  try rw [e153]
  exact ⟨rfl, N153, rfl⟩
theorem d9_0 : decode prog_111_method_1_code 0 = .ok (.aload_n 0, 1) := by decide +kernel
theorem d9_1 : decode prog_111_method_1_code 1 = .ok (.invokespecial 1, 3) := by decide +kernel
theorem d9_4 : decode prog_111_method_1_code 4 = .ok (.aload_n 0, 1) := by decide +kernel
theorem d9_5 : decode prog_111_method_1_code 5 = .ok (.aload_n 1, 1) := by decide +kernel
theorem d9_6 : decode prog_111_method_1_code 6 = .ok (.putfield 7, 3) := by decide +kernel
theorem d9_9 : decode prog_111_method_1_code 9 = .ok (.bipush 65, 2) := by decide +kernel
theorem d9_11 : decode prog_111_method_1_code 11 = .ok (.aload_n 1, 1) := by decide +kernel
theorem d9_12 : decode prog_111_method_1_code 12 = .ok (.invokevirtual 13, 3) := by decide +kernel
theorem d9_15 : decode prog_111_method_1_code 15 = .ok (.bipush 32, 2) := by decide +kernel
theorem d9_17 : decode prog_111_method_1_code 17 = .ok (.idiv, 1) := by decide +kernel
theorem d9_18 : decode prog_111_method_1_code 18 = .ok (.invokestatic 19, 3) := by decide +kernel
theorem d9_21 : decode prog_111_method_1_code 21 = .ok (.newarray .int, 2) := by decide +kernel
theorem d9_23 : decode prog_111_method_1_code 23 = .ok (.astore_n 2, 1) := by decide +kernel
theorem d9_24 : decode prog_111_method_1_code 24 = .ok (.iconst 1, 1) := by decide +kernel
theorem d9_25 : decode prog_111_method_1_code 25 = .ok (.istore_n 3, 1) := by decide +kernel
theorem d9_26 : decode prog_111_method_1_code 26 = .ok (.iconst 0, 1) := by decide +kernel
theorem d9_27 : decode prog_111_method_1_code 27 = .ok (.istore 4, 2) := by decide +kernel
theorem d9_29 : decode prog_111_method_1_code 29 = .ok (.iload_n 3, 1) := by decide +kernel
theorem d9_30 : decode prog_111_method_1_code 30 = .ok (.iload 4, 2) := by decide +kernel
theorem d9_32 : decode prog_111_method_1_code 32 = .ok (.if_icmp .le 34, 3) := by decide +kernel
theorem d9_35 : decode prog_111_method_1_code 35 = .ok (.iload_n 3, 1) := by decide +kernel
theorem d9_36 : decode prog_111_method_1_code 36 = .ok (.bipush 64, 2) := by decide +kernel
theorem d9_38 : decode prog_111_method_1_code 38 = .ok (.iadd, 1) := by decide +kernel
theorem d9_39 : decode prog_111_method_1_code 39 = .ok (.aload_n 2, 1) := by decide +kernel
theorem d9_40 : decode prog_111_method_1_code 40 = .ok (.arraylength, 1) := by decide +kernel
theorem d9_41 : decode prog_111_method_1_code 41 = .ok (.if_icmp .le 12, 3) := by decide +kernel
theorem d9_44 : decode prog_111_method_1_code 44 = .ok (.aload_n 2, 1) := by decide +kernel
theorem d9_45 : decode prog_111_method_1_code 45 = .ok (.aload_n 2, 1) := by decide +kernel
theorem d9_46 : decode prog_111_method_1_code 46 = .ok (.arraylength, 1) := by decide +kernel
theorem d9_47 : decode prog_111_method_1_code 47 = .ok (.iconst 2, 1) := by decide +kernel
theorem d9_48 : decode prog_111_method_1_code 48 = .ok (.imul, 1) := by decide +kernel
theorem d9_49 : decode prog_111_method_1_code 49 = .ok (.invokestatic 25, 3) := by decide +kernel
theorem d9_52 : decode prog_111_method_1_code 52 = .ok (.astore_n 2, 1) := by decide +kernel
theorem d9_53 : decode prog_111_method_1_code 53 = .ok (.iload_n 3, 1) := by decide +kernel
theorem d9_54 : decode prog_111_method_1_code 54 = .ok (.istore 4, 2) := by decide +kernel
theorem d9_56 : decode prog_111_method_1_code 56 = .ok (.aload_n 1, 1) := by decide +kernel
theorem d9_57 : decode prog_111_method_1_code 57 = .ok (.aload_n 2, 1) := by decide +kernel
theorem d9_58 : decode prog_111_method_1_code 58 = .ok (.iload_n 3, 1) := by decide +kernel
theorem d9_59 : decode prog_111_method_1_code 59 = .ok (.invokestatic 31, 3) := by decide +kernel
theorem d9_62 : decode prog_111_method_1_code 62 = .ok (.istore_n 3, 1) := by decide +kernel
theorem d9_63 : decode prog_111_method_1_code 63 = .ok (.goto (-34), 3) := by decide +kernel
theorem d9_66 : decode prog_111_method_1_code 66 = .ok (.aload_n 1, 1) := by decide +kernel
theorem d9_67 : decode prog_111_method_1_code 67 = .ok (.invokevirtual 35, 3) := by decide +kernel
theorem d9_70 : decode prog_111_method_1_code 70 = .ok (.ifCond .ne 22, 3) := by decide +kernel
theorem d9_73 : decode prog_111_method_1_code 73 = .ok (.aload_n 1, 1) := by decide +kernel
theorem d9_74 : decode prog_111_method_1_code 74 = .ok (.aload_n 1, 1) := by decide +kernel
theorem d9_75 : decode prog_111_method_1_code 75 = .ok (.invokevirtual 13, 3) := by decide +kernel
theorem d9_78 : decode prog_111_method_1_code 78 = .ok (.iconst 1, 1) := by decide +kernel
theorem d9_79 : decode prog_111_method_1_code 79 = .ok (.isub, 1) := by decide +kernel
theorem d9_80 : decode prog_111_method_1_code 80 = .ok (.invokevirtual 39, 3) := by decide +kernel
theorem d9_83 : decode prog_111_method_1_code 83 = .ok (.bipush 10, 2) := by decide +kernel
theorem d9_85 : decode prog_111_method_1_code 85 = .ok (.if_icmp .eq 7, 3) := by decide +kernel
theorem d9_88 : decode prog_111_method_1_code 88 = .ok (.iconst 1, 1) := by decide +kernel
theorem d9_89 : decode prog_111_method_1_code 89 = .ok (.goto 4, 3) := by decide +kernel
theorem d9_92 : decode prog_111_method_1_code 92 = .ok (.iconst 0, 1) := by decide +kernel
theorem d9_93 : decode prog_111_method_1_code 93 = .ok (.istore 4, 2) := by decide +kernel
theorem d9_95 : decode prog_111_method_1_code 95 = .ok (.aload_n 0, 1) := by decide +kernel
theorem d9_96 : decode prog_111_method_1_code 96 = .ok (.iload 4, 2) := by decide +kernel
theorem d9_98 : decode prog_111_method_1_code 98 = .ok (.ifCond .eq 7, 3) := by decide +kernel
theorem d9_101 : decode prog_111_method_1_code 101 = .ok (.iload_n 3, 1) := by decide +kernel
theorem d9_102 : decode prog_111_method_1_code 102 = .ok (.goto 6, 3) := by decide +kernel
theorem d9_105 : decode prog_111_method_1_code 105 = .ok (.iload_n 3, 1) := by decide +kernel
theorem d9_106 : decode prog_111_method_1_code 106 = .ok (.iconst 1, 1) := by decide +kernel
theorem d9_107 : decode prog_111_method_1_code 107 = .ok (.isub, 1) := by decide +kernel
theorem d9_108 : decode prog_111_method_1_code 108 = .ok (.putfield 43, 3) := by decide +kernel
theorem d9_111 : decode prog_111_method_1_code 111 = .ok (.aload_n 0, 1) := by decide +kernel
theorem d9_112 : decode prog_111_method_1_code 112 = .ok (.aload_n 2, 1) := by decide +kernel
theorem d9_113 : decode prog_111_method_1_code 113 = .ok (.putfield 47, 3) := by decide +kernel
theorem d9_116 : decode prog_111_method_1_code 116 = .ok (.aload_n 0, 1) := by decide +kernel
theorem d9_117 : decode prog_111_method_1_code 117 = .ok (.getfield 47, 3) := by decide +kernel
theorem d9_120 : decode prog_111_method_1_code 120 = .ok (.aload_n 0, 1) := by decide +kernel
theorem d9_121 : decode prog_111_method_1_code 121 = .ok (.getfield 43, 3) := by decide +kernel
theorem d9_124 : decode prog_111_method_1_code 124 = .ok (.aload_n 1, 1) := by decide +kernel
theorem d9_125 : decode prog_111_method_1_code 125 = .ok (.invokevirtual 13, 3) := by decide +kernel
theorem d9_128 : decode prog_111_method_1_code 128 = .ok (.iastore, 1) := by decide +kernel
theorem d9_129 : decode prog_111_method_1_code 129 = .ok (.return_, 1) := by decide +kernel
theorem pd_14 : parseMethodDescriptor "(Ljava/lang/String;[II)I" = some ⟨[(.object "java/lang/String"), (.array .int), .int], some .int⟩ := by decide +kernel
set_option maxRecDepth 65536 in
set_option maxHeartbeats 40000000 in
theorem rmLI_1_e (l : Launch) (Z : State) (a0 : Array Value) (hw : own_Wd a0 Z) (ws : List Jvm.Cond) (o a b : Addr) (kb : ClassId) (cs : Int32) (bs : List Value) (fm : Value)  (h0 : Heap) (n0 : Nat) (Z0 : n0 ≤ h0.size) (Sc : Sta Z h0 "java/lang/String" "COMPACT_STRINGS" "Z" (.int cs)) (hcs : ¬ (cs = (0 : Int32))) (Ea : Exa Z h0 a "java/lang/String") (Fv : Fld Z h0 a "java/lang/String" "value" "[B" (.ref b)) (Fc : Fld Z h0 a "java/lang/String" "coder" "B" (.int 0)) (Vb : Arv Z h0 b kb .byte (0 : Int32) bs (.int 0)) (Sf : Sta Z h0 "jdk/internal/util/Preconditions" "SIOOBE_FORMATTER" "Ljava/util/function/BiFunction;" fm) (hfm : fm.isRef = true) (Eo : Exa Z h0 o "com/example/amendtrail/amendtrail/write/Lines") (F_m : Fld Z h0 o "java/util/AbstractList" "modCount" "I" (.int 0)) (g_o : n0 ≤ o) (hbo : b ≠ o) (F_text : Fld Z h0 o "com/example/amendtrail/amendtrail/write/Lines" "text" "Ljava/lang/String;" .null) (F_size : Fld Z h0 o "com/example/amendtrail/amendtrail/write/Lines" "size" "I" (.int 0)) (F_starts : Fld Z h0 o "com/example/amendtrail/amendtrail/write/Lines" "starts" "[I" .null) (hC1 : own_C1 l Z a b kb cs (0 : Int32) bs (1 : Int32) [(.int 0), (.int 0), (.int 0), (.int 0), (.int 0), (.int 0), (.int 0), (.int 0)]) :
    own_Met l (⟨"com/example/amendtrail/amendtrail/write/Lines", "<init>", "(Ljava/lang/String;)V"⟩ : MethodName) prog_111_method_1_code 5 none ws ({ frames := 4, cells := 2, slots := 195, locals := 62 } : Room) Z #[(.ref o), (.ref a)] h0 (fun v h L => v = none ∧ Fr n0 L ∧ Keep h0 h [o] ∧ ∃ sa ks, Exa Z h o "com/example/amendtrail/amendtrail/write/Lines" ∧ Fld Z h o "com/example/amendtrail/amendtrail/write/Lines" "size" "I" (.int 0) ∧ Fld Z h o "com/example/amendtrail/amendtrail/write/Lines" "starts" "[I" (.ref sa) ∧ Arv Z h sa ks .int (65 : Int32) (List.map Value.int [(0 : Int32), (0 : Int32), (0 : Int32), (0 : Int32), (0 : Int32), (0 : Int32), (0 : Int32), (0 : Int32)]) (.int 0)) := by
  refine own_body (plainFor_of_name pn_8) ?_
  intro p e s m below meth c s₁ X0 hx hby hml hown hnm hret hlk hZ e0
  replace hown : s.vm.findClass "com/example/amendtrail/amendtrail/write/Lines" = some m.cls := hown
  replace hml : c.maxLocals = 5 := hml
  replace hret : meth.sig.returnType = none := hret
  have N0 := Fr.nil n0
  refine own_ef (L0 := #[.val (.ref o), .val (.ref a), .unset, .unset, .unset]) (by first | (simp [entryFrame, mkF, argsToLocals, Value.category]; done) | rfl) ?_
  refine own_aloadN X0 hx (hb hby d9_0) rfl rfl ?_
  refine own_cSpec (b := o) (W := 0) (rest := []) X0 hx hZ [] rfl hown (own_m hw 45 rfl) (own_m hw 46 rfl) (by decide) (own_m hw 49 rfl) (own_m hw 48 rfl) e0 (rmAL l Z a0 hw [] o h0 n0 Z0 Eo F_m g_o F_text F_size F_starts) (by rw [hml]; rfl) (lenOf pd_13 rfl) rfl (Nat.le_of_eq rfl) (hb hby d9_1) (by decide) (by decide) (by decide) (by decide) fun v154 T154 L154 X154 hQ154 => ?_
  obtain ⟨rfl, N154q, K154, Eo154, Ftext154, Fsize154, Fstarts154⟩ := hQ154
  have N154 := Fr.app N0 N154q
  have f155 := (own_staKeep Sc K154 (allS (own_exaStat Eo) all0))
  have f156 := (Exa.keep Ea K154)
  have f157 := (Fld.keep Fv K154 (ninS (ne_exa f156 Eo154 (by decide)) nin0))
  have f158 := (Fld.keep Fc K154 (ninS (ne_exa f156 Eo154 (by decide)) nin0))
  have f159 := (Arv.keep Vb K154 (ninS hbo nin0))
  have f160 := (own_staKeep Sf K154 (allS (own_exaStat Eo) all0))
  have Zs161 : n0 ≤ T154.heap.size := (Nat.le_trans Z0 K154.1)
  show own_At p e below _ T154 m 4 _ []
  refine own_aloadN X154 hx (hb hby d9_4) rfl rfl ?_
  refine own_aloadN X154 hx (hb hby d9_5) rfl rfl ?_
  refine own_putF X154 hx hZ hown (host := "") (Or.inl (own_m hw 59 rfl)) Via.refl rfl Ftext154 Eo154 (Or.inr ⟨(own_m hw 60 rfl), rfl, hnm⟩) (own_m hw 40 rfl) (ty := (.object "java/lang/String")) (by decide) rfl rfl (hb hby d9_6) fun T162 h162 X162 e162 W162 => ?_
  have Fw162 := Fld.same W162 Ftext154
  have N162 := Fr.snoc X162 N154 g_o
  refine own_bipush X162 hx 65 (hb hby d9_9) rfl ?_
  refine own_aloadN X162 hx (hb hby d9_11) rfl rfl ?_
  refine own_cVirt (W := 1) (rest := [(.int 65)]) X162 hx hZ [] hown (own_m hw 61 rfl) (own_m hw 62 rfl) (notFace_of_selects (args := #[]) (mvT hZ (own_m hw 64 rfl))) (own_m hw 64 rfl) (own_m hw 63 rfl) (by decide) (own_m hw 65 rfl) (own_m hw 9 rfl) e162 (Exa.wr W162 f156) (rmLen l Z a0 hw [] a b cs (0 : Int32) h162 n0 (Nat.le_trans Zs161 (Keep.of_wr W162).1) (Sta.wr W162 f155) hcs (Exa.wr W162 f156) (Fld.other W162 f157 (Or.inl (ne_exa f156 Eo154 (by decide)))) (Fld.other W162 f158 (Or.inl (ne_exa f156 Eo154 (by decide)))) (own_alnV (Arv.other f159 W162 hbo))) (by rw [hml]; rfl) (lenOf pd_9 rfl) rfl (Nat.le_of_eq rfl) (hb hby d9_12) (by decide) (by decide) (by decide) (by decide) fun v163 T163 L163 X163 hQ163 => ?_
  obtain ⟨rfl, N163q, e163⟩ := hQ163
  have N163 := Fr.app N162 N163q
  show own_At p e below _ T163 m 15 _ [(.int 0), (.int 65)]
  refine own_bipush X163 hx 32 (hb hby d9_15) rfl ?_
  refine own_idiv X163 hx (hb hby d9_17) (by decide) ?_
  rw [show ((0 : Int32) / (32 : Int32)) = (0 : Int32) from by decide]
  refine own_cStat (W := 0) (rest := []) X163 hx hZ [(.int 65), (.int 0)] hown (own_m hw 71 rfl) (own_m hw 72 rfl) (by decide) (own_m hw 74 rfl) (own_m hw 73 rfl) e163 (rmMax l Z a0 hw [] (65 : Int32) (0 : Int32) h162 n0 (Nat.le_trans Zs161 (Keep.of_wr W162).1) (by decide)) (by rw [hml]; rfl) (lenOf pd_6 rfl) rfl (Nat.le_of_eq rfl) (hb hby d9_18) (by decide) (by decide) (by decide) (by decide) fun v164 T164 L164 X164 hQ164 => ?_
  obtain ⟨rfl, N164q, e164⟩ := hQ164
  have N164 := Fr.app N163 N164q
  show own_At p e below _ T164 m 21 _ [(.int 65)]
  refine own_newP (n := (65 : Int32)) (cap := 65) (ad := "[I") X164 hx hZ (own_m hw 75 rfl) e164 (hb hby d9_21) (by decide) (by decide) (by decide) (by decide) (by decide) (by decide) fun T165 h165 k165 b165 g165 X165 e165 E165 A165 Ex165 => ?_
  have g_b165 : n0 ≤ b165 := Nat.le_trans (Nat.le_trans Zs161 (Keep.of_wr W162).1) (Nat.le_of_eq g165.symm)
  have szo_b165 : h0.size ≤ b165 := Nat.le_trans (Nat.le_trans (Nat.le_trans (Nat.le_refl h0.size) K154.1) (Keep.of_wr W162).1) (Nat.le_of_eq g165.symm)
  have V165 : Arv Z h165 b165 k165 .int (65 : Int32) [(.int 0), (.int 0), (.int 0), (.int 0), (.int 0), (.int 0), (.int 0), (.int 0)] (.int 0) := (Arv.new A165 (by decide)).pad (pad_rep [] (.int 0) 8)
  refine own_astoreN (l' := #[.val (.ref o), .val (.ref a), .val (.ref b165), .unset, .unset]) X165 hx (hb hby d9_23) rfl rfl ?_
  refine own_iconst X165 hx 1 (hb hby d9_24) rfl ?_
  refine own_istoreN (l' := #[.val (.ref o), .val (.ref a), .val (.ref b165), .val (.int 1), .unset]) X165 hx (hb hby d9_25) rfl ?_
  refine own_iconst X165 hx 0 (hb hby d9_26) rfl ?_
  refine own_istore (l' := #[.val (.ref o), .val (.ref a), .val (.ref b165), .val (.int 1), .val (.int 0)]) X165 hx (hb hby d9_27) rfl ?_
  refine own_iloadN X165 hx (hb hby d9_29) rfl ?_
  refine own_iload X165 hx (hb hby d9_30) rfl ?_
  refine own_icmpNo X165 hx (hb hby d9_32) (tlt (by decide : (0 : Int32) < (1 : Int32))).2.2.2 ?_
  refine own_iloadN X165 hx (hb hby d9_35) rfl ?_
  refine own_bipush X165 hx 64 (hb hby d9_36) rfl ?_
  refine own_iadd X165 hx (hb hby d9_38) ?_
  rw [show ((1 : Int32) + (64 : Int32)) = (65 : Int32) from by decide]
  refine own_aloadN X165 hx (hb hby d9_39) rfl rfl ?_
  refine own_arraylength X165 hx hZ e165 (own_alnV V165) (hb hby d9_40) ?_
  refine own_icmpYes X165 hx 53 (hb hby d9_41) (flt (by decide : ¬ ((65 : Int32) < (65 : Int32)))).2.2.2 (by decide) (by decide) ?_
  refine own_iloadN X165 hx (hb hby d9_53) rfl ?_
  refine own_istore (l' := #[.val (.ref o), .val (.ref a), .val (.ref b165), .val (.int 1), .val (.int 1)]) X165 hx (hb hby d9_54) rfl ?_
  refine own_aloadN X165 hx (hb hby d9_56) rfl rfl ?_
  refine own_aloadN X165 hx (hb hby d9_57) rfl rfl ?_
  refine own_iloadN X165 hx (hb hby d9_58) rfl ?_
  refine own_cStat (W := 0) (rest := []) X165 hx hZ [(.ref a), (.ref b165), (.int 1)] hown (own_m hw 76 rfl) (own_m hw 77 rfl) (by decide) (own_m hw 78 rfl) (own_m hw 41 rfl) e165 (hC1 b165 k165 h165 n0 (Nat.le_trans (Nat.le_trans Zs161 (Keep.of_wr W162).1) E165.1) (Sta.ext E165 (Sta.wr W162 f155)) hcs (Exa.ext E165 (Exa.wr W162 f156)) (Fld.ext E165 (Fld.other W162 f157 (Or.inl (ne_exa f156 Eo154 (by decide))))) (Fld.ext E165 (Fld.other W162 f158 (Or.inl (ne_exa f156 Eo154 (by decide))))) ((Arv.other f159 W162 hbo).ext E165) V165 g_b165 Ex165 (Nat.ne_of_lt (Nat.lt_of_lt_of_le (Arv.other f159 W162 hbo).lt (Nat.le_of_eq g165.symm)))) (by rw [hml]; rfl) (lenOf pd_14 rfl) rfl (Nat.le_of_eq rfl) (hb hby d9_59) (by decide) (by decide) (by decide) (by decide) fun v166 T166 L166 X166 hQ166 => ?_
  obtain ⟨rfl, N166q, K166, Vs166⟩ := hQ166
  have N166 := Fr.app N164 N166q
  have f167 := (own_staKeep (Sta.ext E165 (Sta.wr W162 f155)) K166 (allS (own_exaStat Ex165) all0))
  have f168 := (Exa.keep (Exa.ext E165 (Exa.wr W162 f156)) K166)
  have f169 := (Fld.keep (Fld.ext E165 (Fld.other W162 f157 (Or.inl (ne_exa f168 (Exa.keep (Exa.ext E165 (Exa.wr W162 Eo154)) K166) (by decide))))) K166 (ninS (Nat.ne_of_lt (Nat.lt_of_lt_of_le (Exa.wr W162 f156).lt (Nat.le_of_eq g165.symm))) nin0))
  have f170 := (Fld.keep (Fld.ext E165 (Fld.other W162 f158 (Or.inl (ne_exa f168 (Exa.keep (Exa.ext E165 (Exa.wr W162 Eo154)) K166) (by decide))))) K166 (ninS (Nat.ne_of_lt (Nat.lt_of_lt_of_le (Exa.wr W162 f156).lt (Nat.le_of_eq g165.symm))) nin0))
  have f171 := (Arv.keep ((Arv.other f159 W162 hbo).ext E165) K166 (ninS (Nat.ne_of_lt (Nat.lt_of_lt_of_le (Arv.other f159 W162 hbo).lt (Nat.le_of_eq g165.symm))) nin0))
  have f172 := (own_staKeep (Sta.ext E165 (Sta.wr W162 f160)) K166 (allS (own_exaStat Ex165) all0))
  have f173 := (Exa.keep (Exa.ext E165 (Exa.wr W162 Eo154)) K166)
  have f174 := (Fld.keep (Fld.ext E165 Fw162) K166 (ninS (Nat.ne_of_lt (Nat.lt_of_lt_of_le Fw162.lt (Nat.le_of_eq g165.symm))) nin0))
  have f175 := (Fld.keep (Fld.ext E165 (Fld.other W162 Fsize154 (Or.inr (slot_ne (Or.inr (own_m hw 135 rfl)) (Or.inr (own_m hw 60 rfl)) (by decide) (t := .int) (t' := (.object "java/lang/String")) (by decide) (by decide))))) K166 (ninS (Nat.ne_of_lt (Nat.lt_of_lt_of_le Fw162.lt (Nat.le_of_eq g165.symm))) nin0))
  have f176 := (Fld.keep (Fld.ext E165 (Fld.other W162 Fstarts154 (Or.inr (slot_ne (Or.inr (own_m hw 137 rfl)) (Or.inr (own_m hw 60 rfl)) (by decide) (t := (.array .int)) (t' := (.object "java/lang/String")) (by decide) (by decide))))) K166 (ninS (Nat.ne_of_lt (Nat.lt_of_lt_of_le Fw162.lt (Nat.le_of_eq g165.symm))) nin0))
  have Zs177 : n0 ≤ T166.heap.size := (Nat.le_trans (Nat.le_trans (Nat.le_trans Zs161 (Keep.of_wr W162).1) E165.1) K166.1)
  show own_At p e below _ T166 m 62 _ [(.int 1)]
  refine own_istoreN (l' := #[.val (.ref o), .val (.ref a), .val (.ref b165), .val (.int 1), .val (.int 1)]) X166 hx (hb hby d9_62) rfl ?_
  refine own_goto X166 hx 29 (hb hby d9_63) (by decide) (by decide) ?_
  refine own_iloadN X166 hx (hb hby d9_29) rfl ?_
  refine own_iload X166 hx (hb hby d9_30) rfl ?_
  refine own_icmpYes X166 hx 66 (hb hby d9_32) (flt (by decide : ¬ ((1 : Int32) < (1 : Int32)))).2.2.2 (by decide) (by decide) ?_
  refine own_aloadN X166 hx (hb hby d9_66) rfl rfl ?_
  refine own_cVirt (W := 0) (rest := []) X166 hx hZ [] hown (own_m hw 113 rfl) (own_m hw 114 rfl) (notFace_of_selects (args := #[]) (mvT hZ (own_m hw 116 rfl))) (own_m hw 116 rfl) (own_m hw 115 rfl) (by decide) (own_m hw 117 rfl) (own_m hw 9 rfl) rfl f168 (rmEm0 l Z a0 hw [] a b T166.heap n0 Zs177 f169 (own_alnV f171)) (by rw [hml]; rfl) (lenOf pd_8 rfl) rfl (Nat.le_of_eq rfl) (hb hby d9_67) (by decide) (by decide) (by decide) (by decide) fun v178 T178 L178 X178 hQ178 => ?_
  obtain ⟨rfl, N178q, e178⟩ := hQ178
  have N178 := Fr.app N166 N178q
  show own_At p e below _ T178 m 70 _ [(.int 1)]
  refine own_ifYes X178 hx 92 (hb hby d9_70) (feq (by decide : ¬ ((1 : Int32) = (0 : Int32)))).2 (by decide) (by decide) ?_
  refine own_iconst X178 hx 0 (hb hby d9_92) rfl ?_
  refine own_istore (l' := #[.val (.ref o), .val (.ref a), .val (.ref b165), .val (.int 1), .val (.int 0)]) X178 hx (hb hby d9_93) rfl ?_
  refine own_aloadN X178 hx (hb hby d9_95) rfl rfl ?_
  refine own_iload X178 hx (hb hby d9_96) rfl ?_
  refine own_ifYes X178 hx 105 (hb hby d9_98) (teq (by decide : (0 : Int32) = (0 : Int32))).1 (by decide) (by decide) ?_
  refine own_iloadN X178 hx (hb hby d9_105) rfl ?_
  refine own_iconst X178 hx 1 (hb hby d9_106) rfl ?_
  refine own_isub X178 hx (hb hby d9_107) ?_
  rw [show ((1 : Int32) - (1 : Int32)) = (0 : Int32) from by decide]
  refine own_putF X178 hx hZ hown (host := "") (Or.inl (own_m hw 134 rfl)) Via.refl e178 f175 f173 (Or.inr ⟨(own_m hw 135 rfl), rfl, hnm⟩) (own_m hw 40 rfl) (ty := .int) (by decide) rfl rfl (hb hby d9_108) fun T179 h179 X179 e179 W179 => ?_
  have Fw179 := Fld.same W179 f175
  have N179 := Fr.snoc X179 N178 g_o
  refine own_aloadN X179 hx (hb hby d9_111) rfl rfl ?_
  refine own_aloadN X179 hx (hb hby d9_112) rfl rfl ?_
  refine own_putF X179 hx hZ hown (host := "") (Or.inl (own_m hw 136 rfl)) Via.refl e179 (Fld.other W179 f176 (Or.inr (slot_ne (Or.inr (own_m hw 137 rfl)) (Or.inr (own_m hw 135 rfl)) (by decide) (t := (.array .int)) (t' := .int) (by decide) (by decide)))) (Exa.wr W179 f173) (Or.inr ⟨(own_m hw 137 rfl), rfl, hnm⟩) (own_m hw 40 rfl) (ty := (.array .int)) (by decide) rfl rfl (hb hby d9_113) fun T180 h180 X180 e180 W180 => ?_
  have Fw180 := Fld.same W180 (Fld.other W179 f176 (Or.inr (slot_ne (Or.inr (own_m hw 137 rfl)) (Or.inr (own_m hw 135 rfl)) (by decide) (t := (.array .int)) (t' := .int) (by decide) (by decide))))
  have N180 := Fr.snoc X180 N179 g_o
  refine own_aloadN X180 hx (hb hby d9_116) rfl rfl ?_
  refine own_getF X180 hx hZ hown (host := "") (Or.inl (own_m hw 136 rfl)) Via.refl e180 Fw180 (hb hby d9_117) fun T181 X181 e181 => ?_
  refine own_aloadN X181 hx (hb hby d9_120) rfl rfl ?_
  refine own_getF X181 hx hZ hown (host := "") (Or.inl (own_m hw 134 rfl)) Via.refl e181 (Fld.other W180 Fw179 (Or.inr (slot_ne (Or.inr (own_m hw 135 rfl)) (Or.inr (own_m hw 137 rfl)) (by decide) (t := .int) (t' := (.array .int)) (by decide) (by decide)))) (hb hby d9_121) fun T182 X182 e182 => ?_
  refine own_aloadN X182 hx (hb hby d9_124) rfl rfl ?_
  refine own_cVirt (W := 2) (rest := [(.int 0), (.ref b165)]) X182 hx hZ [] hown (own_m hw 61 rfl) (own_m hw 62 rfl) (notFace_of_selects (args := #[]) (mvT hZ (own_m hw 64 rfl))) (own_m hw 64 rfl) (own_m hw 63 rfl) (by decide) (own_m hw 65 rfl) (own_m hw 9 rfl) e182 (Exa.wr W180 (Exa.wr W179 f168)) (rmLen l Z a0 hw [] a b cs (0 : Int32) h180 n0 (Nat.le_trans (Nat.le_trans Zs177 (Keep.of_wr W179).1) (Keep.of_wr W180).1) (Sta.wr W180 (Sta.wr W179 f167)) hcs (Exa.wr W180 (Exa.wr W179 f168)) (Fld.other W180 (Fld.other W179 f169 (Or.inl (ne_exa f168 f173 (by decide)))) (Or.inl (ne_exa f168 f173 (by decide)))) (Fld.other W180 (Fld.other W179 f170 (Or.inl (ne_exa f168 f173 (by decide)))) (Or.inl (ne_exa f168 f173 (by decide)))) (own_alnV (Arv.other (Arv.other f171 W179 hbo) W180 hbo))) (by rw [hml]; rfl) (lenOf pd_9 rfl) rfl (Nat.le_of_eq rfl) (hb hby d9_125) (by decide) (by decide) (by decide) (by decide) fun v183 T183 L183 X183 hQ183 => ?_
  obtain ⟨rfl, N183q, e183⟩ := hQ183
  have N183 := Fr.app N180 N183q
  show own_At p e below _ T183 m 128 _ [(.int 0), (.int 0), (.ref b165)]
  refine own_stI (vs' := [(.int 0), (.int 0), (.int 0), (.int 0), (.int 0), (.int 0), (.int 0), (.int 0)]) (w := (.int 0)) X183 hx hZ e183 (Arv.other (Arv.other Vs166 W179 (Ne.symm (Nat.ne_of_lt (Nat.lt_of_lt_of_le Fw162.lt (Nat.le_of_eq g165.symm))))) W180 (Ne.symm (Nat.ne_of_lt (Nat.lt_of_lt_of_le Fw162.lt (Nat.le_of_eq g165.symm))))) ⟨by decide, by decide⟩ 0 rfl (Nat.le_of_ble_eq_true rfl) rfl rfl (hb hby d9_128) fun T184 h184 X184 e184 W184 V184 => ?_
  have N184 := Fr.snoc X184 N183 g_b165
  refine own_retV X184 hx hlk hret (hb hby d9_129) (own_kN (by decide) (by decide) ?_)
  try rw [e184]
  exact ⟨rfl, N184, (Keep.wr (Keep.wr (Keep.wr (Keep.trans (Keep.ext (Keep.wr (Keep.trans (Keep.refl h0 [o]) K154 (allS (Or.inl (List.mem_of_getElem? (i := 0) rfl)) all0)) W162 (Or.inl (List.mem_of_getElem? (i := 0) rfl))) E165) K166 (allS (Or.inr szo_b165) all0)) W179 (Or.inl (List.mem_of_getElem? (i := 0) rfl))) W180 (Or.inl (List.mem_of_getElem? (i := 0) rfl))) W184 (Or.inr szo_b165)), b165, k165, (Exa.wr W184 (Exa.wr W180 (Exa.wr W179 f173))), (Fld.other W184 (Fld.other W180 Fw179 (Or.inr (slot_ne (Or.inr (own_m hw 135 rfl)) (Or.inr (own_m hw 137 rfl)) (by decide) (t := .int) (t' := (.array .int)) (by decide) (by decide)))) (Or.inl (Nat.ne_of_lt (Nat.lt_of_lt_of_le Fw162.lt (Nat.le_of_eq g165.symm))))), (Fld.other W184 Fw180 (Or.inl (Nat.ne_of_lt (Nat.lt_of_lt_of_le Fw162.lt (Nat.le_of_eq g165.symm))))), V184⟩
theorem pd_15 : parseMethodDescriptor "(I)C" = some ⟨[.int], some .char⟩ := by decide +kernel
set_option maxRecDepth 65536 in
set_option maxHeartbeats 40000000 in
theorem rmLI_1_1 (l : Launch) (Z : State) (a0 : Array Value) (hw : own_Wd a0 Z) (ws : List Jvm.Cond) (o a b : Addr) (kb : ClassId) (cs : Int32) (bs : List Value) (fm : Value) (n i x : Int32)  (h0 : Heap) (n0 : Nat) (Z0 : n0 ≤ h0.size) (Sc : Sta Z h0 "java/lang/String" "COMPACT_STRINGS" "Z" (.int cs)) (hcs : ¬ (cs = (0 : Int32))) (Ea : Exa Z h0 a "java/lang/String") (Fv : Fld Z h0 a "java/lang/String" "value" "[B" (.ref b)) (Fc : Fld Z h0 a "java/lang/String" "coder" "B" (.int 0)) (Vb : Arv Z h0 b kb .byte n bs (.int 0)) (Sf : Sta Z h0 "jdk/internal/util/Preconditions" "SIOOBE_FORMATTER" "Ljava/util/function/BiFunction;" fm) (hfm : fm.isRef = true) (Eo : Exa Z h0 o "com/example/amendtrail/amendtrail/write/Lines") (F_m : Fld Z h0 o "java/util/AbstractList" "modCount" "I" (.int 0)) (g_o : n0 ≤ o) (hbo : b ≠ o) (F_text : Fld Z h0 o "com/example/amendtrail/amendtrail/write/Lines" "text" "Ljava/lang/String;" .null) (F_size : Fld Z h0 o "com/example/amendtrail/amendtrail/write/Lines" "size" "I" (.int 0)) (F_starts : Fld Z h0 o "com/example/amendtrail/amendtrail/write/Lines" "starts" "[I" .null) (hC1 : own_C1 l Z a b kb cs n bs (1 : Int32) [(.int 0), (.int 0), (.int 0), (.int 0), (.int 0), (.int 0), (.int 0), (.int 0)]) (hCA : own_CA l Z a b kb cs n bs fm i x) (hxn : ¬ (x = (10 : Int32))) (hi : (n - (1 : Int32)) = i) (hnz : ¬ (n = (0 : Int32))) (hn32 : ¬ (65 : Int32) < (n / (32 : Int32))) :
    own_Met l (⟨"com/example/amendtrail/amendtrail/write/Lines", "<init>", "(Ljava/lang/String;)V"⟩ : MethodName) prog_111_method_1_code 5 none ws ({ frames := 4, cells := 2, slots := 195, locals := 62 } : Room) Z #[(.ref o), (.ref a)] h0 (fun v h L => v = none ∧ Fr n0 L ∧ Keep h0 h [o] ∧ ∃ sa ks, Exa Z h o "com/example/amendtrail/amendtrail/write/Lines" ∧ Fld Z h o "com/example/amendtrail/amendtrail/write/Lines" "size" "I" (.int 1) ∧ Fld Z h o "com/example/amendtrail/amendtrail/write/Lines" "starts" "[I" (.ref sa) ∧ Arv Z h sa ks .int (65 : Int32) (List.map Value.int [(0 : Int32), n, (0 : Int32), (0 : Int32), (0 : Int32), (0 : Int32), (0 : Int32), (0 : Int32)]) (.int 0)) := by
  refine own_body (plainFor_of_name pn_8) ?_
  intro p e s m below meth c s₁ X0 hx hby hml hown hnm hret hlk hZ e0
  replace hown : s.vm.findClass "com/example/amendtrail/amendtrail/write/Lines" = some m.cls := hown
  replace hml : c.maxLocals = 5 := hml
  replace hret : meth.sig.returnType = none := hret
  have N0 := Fr.nil n0
  refine own_ef (L0 := #[.val (.ref o), .val (.ref a), .unset, .unset, .unset]) (by first | (simp [entryFrame, mkF, argsToLocals, Value.category]; done) | rfl) ?_
  refine own_aloadN X0 hx (hb hby d9_0) rfl rfl ?_
  refine own_cSpec (b := o) (W := 0) (rest := []) X0 hx hZ [] rfl hown (own_m hw 45 rfl) (own_m hw 46 rfl) (by decide) (own_m hw 49 rfl) (own_m hw 48 rfl) e0 (rmAL l Z a0 hw [] o h0 n0 Z0 Eo F_m g_o F_text F_size F_starts) (by rw [hml]; rfl) (lenOf pd_13 rfl) rfl (Nat.le_of_eq rfl) (hb hby d9_1) (by decide) (by decide) (by decide) (by decide) fun v185 T185 L185 X185 hQ185 => ?_
  obtain ⟨rfl, N185q, K185, Eo185, Ftext185, Fsize185, Fstarts185⟩ := hQ185
  have N185 := Fr.app N0 N185q
  have f186 := (own_staKeep Sc K185 (allS (own_exaStat Eo) all0))
  have f187 := (Exa.keep Ea K185)
  have f188 := (Fld.keep Fv K185 (ninS (ne_exa f187 Eo185 (by decide)) nin0))
  have f189 := (Fld.keep Fc K185 (ninS (ne_exa f187 Eo185 (by decide)) nin0))
  have f190 := (Arv.keep Vb K185 (ninS hbo nin0))
  have f191 := (own_staKeep Sf K185 (allS (own_exaStat Eo) all0))
  have Zs192 : n0 ≤ T185.heap.size := (Nat.le_trans Z0 K185.1)
  show own_At p e below _ T185 m 4 _ []
  refine own_aloadN X185 hx (hb hby d9_4) rfl rfl ?_
  refine own_aloadN X185 hx (hb hby d9_5) rfl rfl ?_
  refine own_putF X185 hx hZ hown (host := "") (Or.inl (own_m hw 59 rfl)) Via.refl rfl Ftext185 Eo185 (Or.inr ⟨(own_m hw 60 rfl), rfl, hnm⟩) (own_m hw 40 rfl) (ty := (.object "java/lang/String")) (by decide) rfl rfl (hb hby d9_6) fun T193 h193 X193 e193 W193 => ?_
  have Fw193 := Fld.same W193 Ftext185
  have N193 := Fr.snoc X193 N185 g_o
  refine own_bipush X193 hx 65 (hb hby d9_9) rfl ?_
  refine own_aloadN X193 hx (hb hby d9_11) rfl rfl ?_
  refine own_cVirt (W := 1) (rest := [(.int 65)]) X193 hx hZ [] hown (own_m hw 61 rfl) (own_m hw 62 rfl) (notFace_of_selects (args := #[]) (mvT hZ (own_m hw 64 rfl))) (own_m hw 64 rfl) (own_m hw 63 rfl) (by decide) (own_m hw 65 rfl) (own_m hw 9 rfl) e193 (Exa.wr W193 f187) (rmLen l Z a0 hw [] a b cs n h193 n0 (Nat.le_trans Zs192 (Keep.of_wr W193).1) (Sta.wr W193 f186) hcs (Exa.wr W193 f187) (Fld.other W193 f188 (Or.inl (ne_exa f187 Eo185 (by decide)))) (Fld.other W193 f189 (Or.inl (ne_exa f187 Eo185 (by decide)))) (own_alnV (Arv.other f190 W193 hbo))) (by rw [hml]; rfl) (lenOf pd_9 rfl) rfl (Nat.le_of_eq rfl) (hb hby d9_12) (by decide) (by decide) (by decide) (by decide) fun v194 T194 L194 X194 hQ194 => ?_
  obtain ⟨rfl, N194q, e194⟩ := hQ194
  have N194 := Fr.app N193 N194q
  show own_At p e below _ T194 m 15 _ [(.int n), (.int 65)]
  refine own_bipush X194 hx 32 (hb hby d9_15) rfl ?_
  refine own_idiv X194 hx (hb hby d9_17) (by decide) ?_
  refine own_cStat (W := 0) (rest := []) X194 hx hZ [(.int 65), (.int (n / (32 : Int32)))] hown (own_m hw 71 rfl) (own_m hw 72 rfl) (by decide) (own_m hw 74 rfl) (own_m hw 73 rfl) e194 (rmMax l Z a0 hw [] (65 : Int32) (n / (32 : Int32)) h193 n0 (Nat.le_trans Zs192 (Keep.of_wr W193).1) hn32) (by rw [hml]; rfl) (lenOf pd_6 rfl) rfl (Nat.le_of_eq rfl) (hb hby d9_18) (by decide) (by decide) (by decide) (by decide) fun v195 T195 L195 X195 hQ195 => ?_
  obtain ⟨rfl, N195q, e195⟩ := hQ195
  have N195 := Fr.app N194 N195q
  show own_At p e below _ T195 m 21 _ [(.int 65)]
  refine own_newP (n := (65 : Int32)) (cap := 65) (ad := "[I") X195 hx hZ (own_m hw 75 rfl) e195 (hb hby d9_21) (by decide) (by decide) (by decide) (by decide) (by decide) (by decide) fun T196 h196 k196 b196 g196 X196 e196 E196 A196 Ex196 => ?_
  have g_b196 : n0 ≤ b196 := Nat.le_trans (Nat.le_trans Zs192 (Keep.of_wr W193).1) (Nat.le_of_eq g196.symm)
  have szo_b196 : h0.size ≤ b196 := Nat.le_trans (Nat.le_trans (Nat.le_trans (Nat.le_refl h0.size) K185.1) (Keep.of_wr W193).1) (Nat.le_of_eq g196.symm)
  have V196 : Arv Z h196 b196 k196 .int (65 : Int32) [(.int 0), (.int 0), (.int 0), (.int 0), (.int 0), (.int 0), (.int 0), (.int 0)] (.int 0) := (Arv.new A196 (by decide)).pad (pad_rep [] (.int 0) 8)
  refine own_astoreN (l' := #[.val (.ref o), .val (.ref a), .val (.ref b196), .unset, .unset]) X196 hx (hb hby d9_23) rfl rfl ?_
  refine own_iconst X196 hx 1 (hb hby d9_24) rfl ?_
  refine own_istoreN (l' := #[.val (.ref o), .val (.ref a), .val (.ref b196), .val (.int 1), .unset]) X196 hx (hb hby d9_25) rfl ?_
  refine own_iconst X196 hx 0 (hb hby d9_26) rfl ?_
  refine own_istore (l' := #[.val (.ref o), .val (.ref a), .val (.ref b196), .val (.int 1), .val (.int 0)]) X196 hx (hb hby d9_27) rfl ?_
  refine own_iloadN X196 hx (hb hby d9_29) rfl ?_
  refine own_iload X196 hx (hb hby d9_30) rfl ?_
  refine own_icmpNo X196 hx (hb hby d9_32) (tlt (by decide : (0 : Int32) < (1 : Int32))).2.2.2 ?_
  refine own_iloadN X196 hx (hb hby d9_35) rfl ?_
  refine own_bipush X196 hx 64 (hb hby d9_36) rfl ?_
  refine own_iadd X196 hx (hb hby d9_38) ?_
  rw [show ((1 : Int32) + (64 : Int32)) = (65 : Int32) from by decide]
  refine own_aloadN X196 hx (hb hby d9_39) rfl rfl ?_
  refine own_arraylength X196 hx hZ e196 (own_alnV V196) (hb hby d9_40) ?_
  refine own_icmpYes X196 hx 53 (hb hby d9_41) (flt (by decide : ¬ ((65 : Int32) < (65 : Int32)))).2.2.2 (by decide) (by decide) ?_
  refine own_iloadN X196 hx (hb hby d9_53) rfl ?_
  refine own_istore (l' := #[.val (.ref o), .val (.ref a), .val (.ref b196), .val (.int 1), .val (.int 1)]) X196 hx (hb hby d9_54) rfl ?_
  refine own_aloadN X196 hx (hb hby d9_56) rfl rfl ?_
  refine own_aloadN X196 hx (hb hby d9_57) rfl rfl ?_
  refine own_iloadN X196 hx (hb hby d9_58) rfl ?_
  refine own_cStat (W := 0) (rest := []) X196 hx hZ [(.ref a), (.ref b196), (.int 1)] hown (own_m hw 76 rfl) (own_m hw 77 rfl) (by decide) (own_m hw 78 rfl) (own_m hw 41 rfl) e196 (hC1 b196 k196 h196 n0 (Nat.le_trans (Nat.le_trans Zs192 (Keep.of_wr W193).1) E196.1) (Sta.ext E196 (Sta.wr W193 f186)) hcs (Exa.ext E196 (Exa.wr W193 f187)) (Fld.ext E196 (Fld.other W193 f188 (Or.inl (ne_exa f187 Eo185 (by decide))))) (Fld.ext E196 (Fld.other W193 f189 (Or.inl (ne_exa f187 Eo185 (by decide))))) ((Arv.other f190 W193 hbo).ext E196) V196 g_b196 Ex196 (Nat.ne_of_lt (Nat.lt_of_lt_of_le (Arv.other f190 W193 hbo).lt (Nat.le_of_eq g196.symm)))) (by rw [hml]; rfl) (lenOf pd_14 rfl) rfl (Nat.le_of_eq rfl) (hb hby d9_59) (by decide) (by decide) (by decide) (by decide) fun v197 T197 L197 X197 hQ197 => ?_
  obtain ⟨rfl, N197q, K197, Vs197⟩ := hQ197
  have N197 := Fr.app N195 N197q
  have f198 := (own_staKeep (Sta.ext E196 (Sta.wr W193 f186)) K197 (allS (own_exaStat Ex196) all0))
  have f199 := (Exa.keep (Exa.ext E196 (Exa.wr W193 f187)) K197)
  have f200 := (Fld.keep (Fld.ext E196 (Fld.other W193 f188 (Or.inl (ne_exa f199 (Exa.keep (Exa.ext E196 (Exa.wr W193 Eo185)) K197) (by decide))))) K197 (ninS (Nat.ne_of_lt (Nat.lt_of_lt_of_le (Exa.wr W193 f187).lt (Nat.le_of_eq g196.symm))) nin0))
  have f201 := (Fld.keep (Fld.ext E196 (Fld.other W193 f189 (Or.inl (ne_exa f199 (Exa.keep (Exa.ext E196 (Exa.wr W193 Eo185)) K197) (by decide))))) K197 (ninS (Nat.ne_of_lt (Nat.lt_of_lt_of_le (Exa.wr W193 f187).lt (Nat.le_of_eq g196.symm))) nin0))
  have f202 := (Arv.keep ((Arv.other f190 W193 hbo).ext E196) K197 (ninS (Nat.ne_of_lt (Nat.lt_of_lt_of_le (Arv.other f190 W193 hbo).lt (Nat.le_of_eq g196.symm))) nin0))
  have f203 := (own_staKeep (Sta.ext E196 (Sta.wr W193 f191)) K197 (allS (own_exaStat Ex196) all0))
  have f204 := (Exa.keep (Exa.ext E196 (Exa.wr W193 Eo185)) K197)
  have f205 := (Fld.keep (Fld.ext E196 Fw193) K197 (ninS (Nat.ne_of_lt (Nat.lt_of_lt_of_le Fw193.lt (Nat.le_of_eq g196.symm))) nin0))
  have f206 := (Fld.keep (Fld.ext E196 (Fld.other W193 Fsize185 (Or.inr (slot_ne (Or.inr (own_m hw 135 rfl)) (Or.inr (own_m hw 60 rfl)) (by decide) (t := .int) (t' := (.object "java/lang/String")) (by decide) (by decide))))) K197 (ninS (Nat.ne_of_lt (Nat.lt_of_lt_of_le Fw193.lt (Nat.le_of_eq g196.symm))) nin0))
  have f207 := (Fld.keep (Fld.ext E196 (Fld.other W193 Fstarts185 (Or.inr (slot_ne (Or.inr (own_m hw 137 rfl)) (Or.inr (own_m hw 60 rfl)) (by decide) (t := (.array .int)) (t' := (.object "java/lang/String")) (by decide) (by decide))))) K197 (ninS (Nat.ne_of_lt (Nat.lt_of_lt_of_le Fw193.lt (Nat.le_of_eq g196.symm))) nin0))
  have Zs208 : n0 ≤ T197.heap.size := (Nat.le_trans (Nat.le_trans (Nat.le_trans Zs192 (Keep.of_wr W193).1) E196.1) K197.1)
  show own_At p e below _ T197 m 62 _ [(.int 1)]
  refine own_istoreN (l' := #[.val (.ref o), .val (.ref a), .val (.ref b196), .val (.int 1), .val (.int 1)]) X197 hx (hb hby d9_62) rfl ?_
  refine own_goto X197 hx 29 (hb hby d9_63) (by decide) (by decide) ?_
  refine own_iloadN X197 hx (hb hby d9_29) rfl ?_
  refine own_iload X197 hx (hb hby d9_30) rfl ?_
  refine own_icmpYes X197 hx 66 (hb hby d9_32) (flt (by decide : ¬ ((1 : Int32) < (1 : Int32)))).2.2.2 (by decide) (by decide) ?_
  refine own_aloadN X197 hx (hb hby d9_66) rfl rfl ?_
  refine own_cVirt (W := 0) (rest := []) X197 hx hZ [] hown (own_m hw 113 rfl) (own_m hw 114 rfl) (notFace_of_selects (args := #[]) (mvT hZ (own_m hw 116 rfl))) (own_m hw 116 rfl) (own_m hw 115 rfl) (by decide) (own_m hw 117 rfl) (own_m hw 9 rfl) rfl f199 (rmEm l Z a0 hw [] a b n T197.heap n0 Zs208 f200 (own_alnV f202) hnz) (by rw [hml]; rfl) (lenOf pd_8 rfl) rfl (Nat.le_of_eq rfl) (hb hby d9_67) (by decide) (by decide) (by decide) (by decide) fun v209 T209 L209 X209 hQ209 => ?_
  obtain ⟨rfl, N209q, e209⟩ := hQ209
  have N209 := Fr.app N197 N209q
  show own_At p e below _ T209 m 70 _ [(.int 0)]
  refine own_ifNo X209 hx (hb hby d9_70) (teq (by decide : (0 : Int32) = (0 : Int32))).2 ?_
  refine own_aloadN X209 hx (hb hby d9_73) rfl rfl ?_
  refine own_aloadN X209 hx (hb hby d9_74) rfl rfl ?_
  refine own_cVirt (W := 1) (rest := [(.ref a)]) X209 hx hZ [] hown (own_m hw 61 rfl) (own_m hw 62 rfl) (notFace_of_selects (args := #[]) (mvT hZ (own_m hw 64 rfl))) (own_m hw 64 rfl) (own_m hw 63 rfl) (by decide) (own_m hw 65 rfl) (own_m hw 9 rfl) e209 f199 (rmLen l Z a0 hw [] a b cs n T197.heap n0 Zs208 f198 hcs f199 f200 f201 (own_alnV f202)) (by rw [hml]; rfl) (lenOf pd_9 rfl) rfl (Nat.le_of_eq rfl) (hb hby d9_75) (by decide) (by decide) (by decide) (by decide) fun v210 T210 L210 X210 hQ210 => ?_
  obtain ⟨rfl, N210q, e210⟩ := hQ210
  have N210 := Fr.app N209 N210q
  show own_At p e below _ T210 m 78 _ [(.int n), (.ref a)]
  refine own_iconst X210 hx 1 (hb hby d9_78) rfl ?_
  refine own_isub X210 hx (hb hby d9_79) ?_
  rw [hi]
  refine own_cVirt (W := 0) (rest := []) X210 hx hZ [(.int i)] hown (own_m hw 118 rfl) (own_m hw 119 rfl) (notFace_of_selects (args := #[]) (mvT hZ (own_m hw 121 rfl))) (own_m hw 121 rfl) (own_m hw 120 rfl) (by decide) (own_m hw 122 rfl) (own_m hw 9 rfl) e210 f199 (hCA T197.heap n0 Zs208 f198 hcs f199 f200 f201 f202 f203 hfm) (by rw [hml]; rfl) (lenOf pd_15 rfl) rfl (Nat.le_of_eq rfl) (hb hby d9_80) (by decide) (by decide) (by decide) (by decide) fun v211 T211 L211 X211 hQ211 => ?_
  obtain ⟨rfl, N211q, e211⟩ := hQ211
  have N211 := Fr.app N210 N211q
  show own_At p e below _ T211 m 83 _ [(.int x)]
  refine own_bipush X211 hx 10 (hb hby d9_83) rfl ?_
  refine own_icmpNo X211 hx (hb hby d9_85) (feq hxn).1 ?_
  refine own_iconst X211 hx 1 (hb hby d9_88) rfl ?_
  refine own_goto X211 hx 93 (hb hby d9_89) (by decide) (by decide) ?_
  refine own_istore (l' := #[.val (.ref o), .val (.ref a), .val (.ref b196), .val (.int 1), .val (.int 1)]) X211 hx (hb hby d9_93) rfl ?_
  refine own_aloadN X211 hx (hb hby d9_95) rfl rfl ?_
  refine own_iload X211 hx (hb hby d9_96) rfl ?_
  refine own_ifNo X211 hx (hb hby d9_98) (feq (by decide : ¬ ((1 : Int32) = (0 : Int32)))).1 ?_
  refine own_iloadN X211 hx (hb hby d9_101) rfl ?_
  refine own_goto X211 hx 108 (hb hby d9_102) (by decide) (by decide) ?_
  refine own_putF X211 hx hZ hown (host := "") (Or.inl (own_m hw 134 rfl)) Via.refl e211 f206 f204 (Or.inr ⟨(own_m hw 135 rfl), rfl, hnm⟩) (own_m hw 40 rfl) (ty := .int) (by decide) rfl rfl (hb hby d9_108) fun T212 h212 X212 e212 W212 => ?_
  have Fw212 := Fld.same W212 f206
  have N212 := Fr.snoc X212 N211 g_o
  refine own_aloadN X212 hx (hb hby d9_111) rfl rfl ?_
  refine own_aloadN X212 hx (hb hby d9_112) rfl rfl ?_
  refine own_putF X212 hx hZ hown (host := "") (Or.inl (own_m hw 136 rfl)) Via.refl e212 (Fld.other W212 f207 (Or.inr (slot_ne (Or.inr (own_m hw 137 rfl)) (Or.inr (own_m hw 135 rfl)) (by decide) (t := (.array .int)) (t' := .int) (by decide) (by decide)))) (Exa.wr W212 f204) (Or.inr ⟨(own_m hw 137 rfl), rfl, hnm⟩) (own_m hw 40 rfl) (ty := (.array .int)) (by decide) rfl rfl (hb hby d9_113) fun T213 h213 X213 e213 W213 => ?_
  have Fw213 := Fld.same W213 (Fld.other W212 f207 (Or.inr (slot_ne (Or.inr (own_m hw 137 rfl)) (Or.inr (own_m hw 135 rfl)) (by decide) (t := (.array .int)) (t' := .int) (by decide) (by decide))))
  have N213 := Fr.snoc X213 N212 g_o
  refine own_aloadN X213 hx (hb hby d9_116) rfl rfl ?_
  refine own_getF X213 hx hZ hown (host := "") (Or.inl (own_m hw 136 rfl)) Via.refl e213 Fw213 (hb hby d9_117) fun T214 X214 e214 => ?_
  refine own_aloadN X214 hx (hb hby d9_120) rfl rfl ?_
  refine own_getF X214 hx hZ hown (host := "") (Or.inl (own_m hw 134 rfl)) Via.refl e214 (Fld.other W213 Fw212 (Or.inr (slot_ne (Or.inr (own_m hw 135 rfl)) (Or.inr (own_m hw 137 rfl)) (by decide) (t := .int) (t' := (.array .int)) (by decide) (by decide)))) (hb hby d9_121) fun T215 X215 e215 => ?_
  refine own_aloadN X215 hx (hb hby d9_124) rfl rfl ?_
  refine own_cVirt (W := 2) (rest := [(.int 1), (.ref b196)]) X215 hx hZ [] hown (own_m hw 61 rfl) (own_m hw 62 rfl) (notFace_of_selects (args := #[]) (mvT hZ (own_m hw 64 rfl))) (own_m hw 64 rfl) (own_m hw 63 rfl) (by decide) (own_m hw 65 rfl) (own_m hw 9 rfl) e215 (Exa.wr W213 (Exa.wr W212 f199)) (rmLen l Z a0 hw [] a b cs n h213 n0 (Nat.le_trans (Nat.le_trans Zs208 (Keep.of_wr W212).1) (Keep.of_wr W213).1) (Sta.wr W213 (Sta.wr W212 f198)) hcs (Exa.wr W213 (Exa.wr W212 f199)) (Fld.other W213 (Fld.other W212 f200 (Or.inl (ne_exa f199 f204 (by decide)))) (Or.inl (ne_exa f199 f204 (by decide)))) (Fld.other W213 (Fld.other W212 f201 (Or.inl (ne_exa f199 f204 (by decide)))) (Or.inl (ne_exa f199 f204 (by decide)))) (own_alnV (Arv.other (Arv.other f202 W212 hbo) W213 hbo))) (by rw [hml]; rfl) (lenOf pd_9 rfl) rfl (Nat.le_of_eq rfl) (hb hby d9_125) (by decide) (by decide) (by decide) (by decide) fun v216 T216 L216 X216 hQ216 => ?_
  obtain ⟨rfl, N216q, e216⟩ := hQ216
  have N216 := Fr.app N213 N216q
  show own_At p e below _ T216 m 128 _ [(.int n), (.int 1), (.ref b196)]
  refine own_stI (vs' := [(.int 0), (.int n), (.int 0), (.int 0), (.int 0), (.int 0), (.int 0), (.int 0)]) (w := (.int n)) X216 hx hZ e216 (Arv.other (Arv.other Vs197 W212 (Ne.symm (Nat.ne_of_lt (Nat.lt_of_lt_of_le Fw193.lt (Nat.le_of_eq g196.symm))))) W213 (Ne.symm (Nat.ne_of_lt (Nat.lt_of_lt_of_le Fw193.lt (Nat.le_of_eq g196.symm))))) ⟨by decide, by decide⟩ 1 rfl (Nat.le_of_ble_eq_true rfl) rfl rfl (hb hby d9_128) fun T217 h217 X217 e217 W217 V217 => ?_
  have N217 := Fr.snoc X217 N216 g_b196
  refine own_retV X217 hx hlk hret (hb hby d9_129) (own_kN (by decide) (by decide) ?_)
  try rw [e217]
  exact ⟨rfl, N217, (Keep.wr (Keep.wr (Keep.wr (Keep.trans (Keep.ext (Keep.wr (Keep.trans (Keep.refl h0 [o]) K185 (allS (Or.inl (List.mem_of_getElem? (i := 0) rfl)) all0)) W193 (Or.inl (List.mem_of_getElem? (i := 0) rfl))) E196) K197 (allS (Or.inr szo_b196) all0)) W212 (Or.inl (List.mem_of_getElem? (i := 0) rfl))) W213 (Or.inl (List.mem_of_getElem? (i := 0) rfl))) W217 (Or.inr szo_b196)), b196, k196, (Exa.wr W217 (Exa.wr W213 (Exa.wr W212 f204))), (Fld.other W217 (Fld.other W213 Fw212 (Or.inr (slot_ne (Or.inr (own_m hw 135 rfl)) (Or.inr (own_m hw 137 rfl)) (by decide) (t := .int) (t' := (.array .int)) (by decide) (by decide)))) (Or.inl (Nat.ne_of_lt (Nat.lt_of_lt_of_le Fw193.lt (Nat.le_of_eq g196.symm))))), (Fld.other W217 Fw213 (Or.inl (Nat.ne_of_lt (Nat.lt_of_lt_of_le Fw193.lt (Nat.le_of_eq g196.symm))))), V217⟩
theorem pd_16 : parseMethodDescriptor "([II)[I" = some ⟨[(.array .int), .int], some (.array .int)⟩ := by decide +kernel
set_option maxRecDepth 65536 in
set_option maxHeartbeats 40000000 in
theorem rmLI_2_0 (l : Launch) (Z : State) (a0 : Array Value) (hw : own_Wd a0 Z) (ws : List Jvm.Cond) (o a b : Addr) (kb : ClassId) (cs : Int32) (bs : List Value) (fm : Value) (n i x : Int32) (s1 : Int32)  (h0 : Heap) (n0 : Nat) (Z0 : n0 ≤ h0.size) (Sc : Sta Z h0 "java/lang/String" "COMPACT_STRINGS" "Z" (.int cs)) (hcs : ¬ (cs = (0 : Int32))) (Ea : Exa Z h0 a "java/lang/String") (Fv : Fld Z h0 a "java/lang/String" "value" "[B" (.ref b)) (Fc : Fld Z h0 a "java/lang/String" "coder" "B" (.int 0)) (Vb : Arv Z h0 b kb .byte n bs (.int 0)) (Sf : Sta Z h0 "jdk/internal/util/Preconditions" "SIOOBE_FORMATTER" "Ljava/util/function/BiFunction;" fm) (hfm : fm.isRef = true) (Eo : Exa Z h0 o "com/example/amendtrail/amendtrail/write/Lines") (F_m : Fld Z h0 o "java/util/AbstractList" "modCount" "I" (.int 0)) (g_o : n0 ≤ o) (hbo : b ≠ o) (F_text : Fld Z h0 o "com/example/amendtrail/amendtrail/write/Lines" "text" "Ljava/lang/String;" .null) (F_size : Fld Z h0 o "com/example/amendtrail/amendtrail/write/Lines" "size" "I" (.int 0)) (F_starts : Fld Z h0 o "com/example/amendtrail/amendtrail/write/Lines" "starts" "[I" .null) (hC1 : own_C1 l Z a b kb cs n bs (2 : Int32) [(.int 0), (.int s1), (.int 0), (.int 0), (.int 0), (.int 0), (.int 0), (.int 0)]) (hC2 : own_C2 l Z a b kb cs n bs (2 : Int32) [(.int 0), (.int s1), (.int 0), (.int 0), (.int 0), (.int 0), (.int 0), (.int 0)]) (hCA : own_CA l Z a b kb cs n bs fm i x) (hxn : x = (10 : Int32)) (hi : (n - (1 : Int32)) = i) (hnz : ¬ (n = (0 : Int32))) (hn32 : ¬ (65 : Int32) < (n / (32 : Int32))) :
    own_Met l (⟨"com/example/amendtrail/amendtrail/write/Lines", "<init>", "(Ljava/lang/String;)V"⟩ : MethodName) prog_111_method_1_code 5 none ws ({ frames := 4, cells := 2, slots := 195, locals := 62 } : Room) Z #[(.ref o), (.ref a)] h0 (fun v h L => v = none ∧ Fr n0 L ∧ Keep h0 h [o] ∧ ∃ sa ks, Exa Z h o "com/example/amendtrail/amendtrail/write/Lines" ∧ Fld Z h o "com/example/amendtrail/amendtrail/write/Lines" "size" "I" (.int 1) ∧ Fld Z h o "com/example/amendtrail/amendtrail/write/Lines" "starts" "[I" (.ref sa) ∧ Arv Z h sa ks .int (130 : Int32) (List.map Value.int [(0 : Int32), n, (0 : Int32), (0 : Int32), (0 : Int32), (0 : Int32), (0 : Int32), (0 : Int32)]) (.int 0)) := by
  refine own_body (plainFor_of_name pn_8) ?_
  intro p e s m below meth c s₁ X0 hx hby hml hown hnm hret hlk hZ e0
  replace hown : s.vm.findClass "com/example/amendtrail/amendtrail/write/Lines" = some m.cls := hown
  replace hml : c.maxLocals = 5 := hml
  replace hret : meth.sig.returnType = none := hret
  have N0 := Fr.nil n0
  refine own_ef (L0 := #[.val (.ref o), .val (.ref a), .unset, .unset, .unset]) (by first | (simp [entryFrame, mkF, argsToLocals, Value.category]; done) | rfl) ?_
  refine own_aloadN X0 hx (hb hby d9_0) rfl rfl ?_
  refine own_cSpec (b := o) (W := 0) (rest := []) X0 hx hZ [] rfl hown (own_m hw 45 rfl) (own_m hw 46 rfl) (by decide) (own_m hw 49 rfl) (own_m hw 48 rfl) e0 (rmAL l Z a0 hw [] o h0 n0 Z0 Eo F_m g_o F_text F_size F_starts) (by rw [hml]; rfl) (lenOf pd_13 rfl) rfl (Nat.le_of_eq rfl) (hb hby d9_1) (by decide) (by decide) (by decide) (by decide) fun v218 T218 L218 X218 hQ218 => ?_
  obtain ⟨rfl, N218q, K218, Eo218, Ftext218, Fsize218, Fstarts218⟩ := hQ218
  have N218 := Fr.app N0 N218q
  have f219 := (own_staKeep Sc K218 (allS (own_exaStat Eo) all0))
  have f220 := (Exa.keep Ea K218)
  have f221 := (Fld.keep Fv K218 (ninS (ne_exa f220 Eo218 (by decide)) nin0))
  have f222 := (Fld.keep Fc K218 (ninS (ne_exa f220 Eo218 (by decide)) nin0))
  have f223 := (Arv.keep Vb K218 (ninS hbo nin0))
  have f224 := (own_staKeep Sf K218 (allS (own_exaStat Eo) all0))
  have Zs225 : n0 ≤ T218.heap.size := (Nat.le_trans Z0 K218.1)
  show own_At p e below _ T218 m 4 _ []
  refine own_aloadN X218 hx (hb hby d9_4) rfl rfl ?_
  refine own_aloadN X218 hx (hb hby d9_5) rfl rfl ?_
  refine own_putF X218 hx hZ hown (host := "") (Or.inl (own_m hw 59 rfl)) Via.refl rfl Ftext218 Eo218 (Or.inr ⟨(own_m hw 60 rfl), rfl, hnm⟩) (own_m hw 40 rfl) (ty := (.object "java/lang/String")) (by decide) rfl rfl (hb hby d9_6) fun T226 h226 X226 e226 W226 => ?_
  have Fw226 := Fld.same W226 Ftext218
  have N226 := Fr.snoc X226 N218 g_o
  refine own_bipush X226 hx 65 (hb hby d9_9) rfl ?_
  refine own_aloadN X226 hx (hb hby d9_11) rfl rfl ?_
  refine own_cVirt (W := 1) (rest := [(.int 65)]) X226 hx hZ [] hown (own_m hw 61 rfl) (own_m hw 62 rfl) (notFace_of_selects (args := #[]) (mvT hZ (own_m hw 64 rfl))) (own_m hw 64 rfl) (own_m hw 63 rfl) (by decide) (own_m hw 65 rfl) (own_m hw 9 rfl) e226 (Exa.wr W226 f220) (rmLen l Z a0 hw [] a b cs n h226 n0 (Nat.le_trans Zs225 (Keep.of_wr W226).1) (Sta.wr W226 f219) hcs (Exa.wr W226 f220) (Fld.other W226 f221 (Or.inl (ne_exa f220 Eo218 (by decide)))) (Fld.other W226 f222 (Or.inl (ne_exa f220 Eo218 (by decide)))) (own_alnV (Arv.other f223 W226 hbo))) (by rw [hml]; rfl) (lenOf pd_9 rfl) rfl (Nat.le_of_eq rfl) (hb hby d9_12) (by decide) (by decide) (by decide) (by decide) fun v227 T227 L227 X227 hQ227 => ?_
  obtain ⟨rfl, N227q, e227⟩ := hQ227
  have N227 := Fr.app N226 N227q
  show own_At p e below _ T227 m 15 _ [(.int n), (.int 65)]
  refine own_bipush X227 hx 32 (hb hby d9_15) rfl ?_
  refine own_idiv X227 hx (hb hby d9_17) (by decide) ?_
  refine own_cStat (W := 0) (rest := []) X227 hx hZ [(.int 65), (.int (n / (32 : Int32)))] hown (own_m hw 71 rfl) (own_m hw 72 rfl) (by decide) (own_m hw 74 rfl) (own_m hw 73 rfl) e227 (rmMax l Z a0 hw [] (65 : Int32) (n / (32 : Int32)) h226 n0 (Nat.le_trans Zs225 (Keep.of_wr W226).1) hn32) (by rw [hml]; rfl) (lenOf pd_6 rfl) rfl (Nat.le_of_eq rfl) (hb hby d9_18) (by decide) (by decide) (by decide) (by decide) fun v228 T228 L228 X228 hQ228 => ?_
  obtain ⟨rfl, N228q, e228⟩ := hQ228
  have N228 := Fr.app N227 N228q
  show own_At p e below _ T228 m 21 _ [(.int 65)]
  refine own_newP (n := (65 : Int32)) (cap := 65) (ad := "[I") X228 hx hZ (own_m hw 75 rfl) e228 (hb hby d9_21) (by decide) (by decide) (by decide) (by decide) (by decide) (by decide) fun T229 h229 k229 b229 g229 X229 e229 E229 A229 Ex229 => ?_
  have g_b229 : n0 ≤ b229 := Nat.le_trans (Nat.le_trans Zs225 (Keep.of_wr W226).1) (Nat.le_of_eq g229.symm)
  have szo_b229 : h0.size ≤ b229 := Nat.le_trans (Nat.le_trans (Nat.le_trans (Nat.le_refl h0.size) K218.1) (Keep.of_wr W226).1) (Nat.le_of_eq g229.symm)
  have V229 : Arv Z h229 b229 k229 .int (65 : Int32) [(.int 0), (.int 0), (.int 0), (.int 0), (.int 0), (.int 0), (.int 0), (.int 0)] (.int 0) := (Arv.new A229 (by decide)).pad (pad_rep [] (.int 0) 8)
  refine own_astoreN (l' := #[.val (.ref o), .val (.ref a), .val (.ref b229), .unset, .unset]) X229 hx (hb hby d9_23) rfl rfl ?_
  refine own_iconst X229 hx 1 (hb hby d9_24) rfl ?_
  refine own_istoreN (l' := #[.val (.ref o), .val (.ref a), .val (.ref b229), .val (.int 1), .unset]) X229 hx (hb hby d9_25) rfl ?_
  refine own_iconst X229 hx 0 (hb hby d9_26) rfl ?_
  refine own_istore (l' := #[.val (.ref o), .val (.ref a), .val (.ref b229), .val (.int 1), .val (.int 0)]) X229 hx (hb hby d9_27) rfl ?_
  refine own_iloadN X229 hx (hb hby d9_29) rfl ?_
  refine own_iload X229 hx (hb hby d9_30) rfl ?_
  refine own_icmpNo X229 hx (hb hby d9_32) (tlt (by decide : (0 : Int32) < (1 : Int32))).2.2.2 ?_
  refine own_iloadN X229 hx (hb hby d9_35) rfl ?_
  refine own_bipush X229 hx 64 (hb hby d9_36) rfl ?_
  refine own_iadd X229 hx (hb hby d9_38) ?_
  rw [show ((1 : Int32) + (64 : Int32)) = (65 : Int32) from by decide]
  refine own_aloadN X229 hx (hb hby d9_39) rfl rfl ?_
  refine own_arraylength X229 hx hZ e229 (own_alnV V229) (hb hby d9_40) ?_
  refine own_icmpYes X229 hx 53 (hb hby d9_41) (flt (by decide : ¬ ((65 : Int32) < (65 : Int32)))).2.2.2 (by decide) (by decide) ?_
  refine own_iloadN X229 hx (hb hby d9_53) rfl ?_
  refine own_istore (l' := #[.val (.ref o), .val (.ref a), .val (.ref b229), .val (.int 1), .val (.int 1)]) X229 hx (hb hby d9_54) rfl ?_
  refine own_aloadN X229 hx (hb hby d9_56) rfl rfl ?_
  refine own_aloadN X229 hx (hb hby d9_57) rfl rfl ?_
  refine own_iloadN X229 hx (hb hby d9_58) rfl ?_
  refine own_cStat (W := 0) (rest := []) X229 hx hZ [(.ref a), (.ref b229), (.int 1)] hown (own_m hw 76 rfl) (own_m hw 77 rfl) (by decide) (own_m hw 78 rfl) (own_m hw 41 rfl) e229 (hC1 b229 k229 h229 n0 (Nat.le_trans (Nat.le_trans Zs225 (Keep.of_wr W226).1) E229.1) (Sta.ext E229 (Sta.wr W226 f219)) hcs (Exa.ext E229 (Exa.wr W226 f220)) (Fld.ext E229 (Fld.other W226 f221 (Or.inl (ne_exa f220 Eo218 (by decide))))) (Fld.ext E229 (Fld.other W226 f222 (Or.inl (ne_exa f220 Eo218 (by decide))))) ((Arv.other f223 W226 hbo).ext E229) V229 g_b229 Ex229 (Nat.ne_of_lt (Nat.lt_of_lt_of_le (Arv.other f223 W226 hbo).lt (Nat.le_of_eq g229.symm)))) (by rw [hml]; rfl) (lenOf pd_14 rfl) rfl (Nat.le_of_eq rfl) (hb hby d9_59) (by decide) (by decide) (by decide) (by decide) fun v230 T230 L230 X230 hQ230 => ?_
  obtain ⟨rfl, N230q, K230, Vs230⟩ := hQ230
  have N230 := Fr.app N228 N230q
  have f231 := (own_staKeep (Sta.ext E229 (Sta.wr W226 f219)) K230 (allS (own_exaStat Ex229) all0))
  have f232 := (Exa.keep (Exa.ext E229 (Exa.wr W226 f220)) K230)
  have f233 := (Fld.keep (Fld.ext E229 (Fld.other W226 f221 (Or.inl (ne_exa f232 (Exa.keep (Exa.ext E229 (Exa.wr W226 Eo218)) K230) (by decide))))) K230 (ninS (Nat.ne_of_lt (Nat.lt_of_lt_of_le (Exa.wr W226 f220).lt (Nat.le_of_eq g229.symm))) nin0))
  have f234 := (Fld.keep (Fld.ext E229 (Fld.other W226 f222 (Or.inl (ne_exa f232 (Exa.keep (Exa.ext E229 (Exa.wr W226 Eo218)) K230) (by decide))))) K230 (ninS (Nat.ne_of_lt (Nat.lt_of_lt_of_le (Exa.wr W226 f220).lt (Nat.le_of_eq g229.symm))) nin0))
  have f235 := (Arv.keep ((Arv.other f223 W226 hbo).ext E229) K230 (ninS (Nat.ne_of_lt (Nat.lt_of_lt_of_le (Arv.other f223 W226 hbo).lt (Nat.le_of_eq g229.symm))) nin0))
  have f236 := (own_staKeep (Sta.ext E229 (Sta.wr W226 f224)) K230 (allS (own_exaStat Ex229) all0))
  have f237 := (Exa.keep (Exa.ext E229 (Exa.wr W226 Eo218)) K230)
  have f238 := (Fld.keep (Fld.ext E229 Fw226) K230 (ninS (Nat.ne_of_lt (Nat.lt_of_lt_of_le Fw226.lt (Nat.le_of_eq g229.symm))) nin0))
  have f239 := (Fld.keep (Fld.ext E229 (Fld.other W226 Fsize218 (Or.inr (slot_ne (Or.inr (own_m hw 135 rfl)) (Or.inr (own_m hw 60 rfl)) (by decide) (t := .int) (t' := (.object "java/lang/String")) (by decide) (by decide))))) K230 (ninS (Nat.ne_of_lt (Nat.lt_of_lt_of_le Fw226.lt (Nat.le_of_eq g229.symm))) nin0))
  have f240 := (Fld.keep (Fld.ext E229 (Fld.other W226 Fstarts218 (Or.inr (slot_ne (Or.inr (own_m hw 137 rfl)) (Or.inr (own_m hw 60 rfl)) (by decide) (t := (.array .int)) (t' := (.object "java/lang/String")) (by decide) (by decide))))) K230 (ninS (Nat.ne_of_lt (Nat.lt_of_lt_of_le Fw226.lt (Nat.le_of_eq g229.symm))) nin0))
  have Zs241 : n0 ≤ T230.heap.size := (Nat.le_trans (Nat.le_trans (Nat.le_trans Zs225 (Keep.of_wr W226).1) E229.1) K230.1)
  show own_At p e below _ T230 m 62 _ [(.int 2)]
  refine own_istoreN (l' := #[.val (.ref o), .val (.ref a), .val (.ref b229), .val (.int 2), .val (.int 1)]) X230 hx (hb hby d9_62) rfl ?_
  refine own_goto X230 hx 29 (hb hby d9_63) (by decide) (by decide) ?_
  refine own_iloadN X230 hx (hb hby d9_29) rfl ?_
  refine own_iload X230 hx (hb hby d9_30) rfl ?_
  refine own_icmpNo X230 hx (hb hby d9_32) (tlt (by decide : (1 : Int32) < (2 : Int32))).2.2.2 ?_
  refine own_iloadN X230 hx (hb hby d9_35) rfl ?_
  refine own_bipush X230 hx 64 (hb hby d9_36) rfl ?_
  refine own_iadd X230 hx (hb hby d9_38) ?_
  rw [show ((2 : Int32) + (64 : Int32)) = (66 : Int32) from by decide]
  refine own_aloadN X230 hx (hb hby d9_39) rfl rfl ?_
  refine own_arraylength X230 hx hZ rfl (own_alnV Vs230) (hb hby d9_40) ?_
  refine own_icmpNo X230 hx (hb hby d9_41) (tlt (by decide : (65 : Int32) < (66 : Int32))).2.2.2 ?_
  refine own_aloadN X230 hx (hb hby d9_44) rfl rfl ?_
  refine own_aloadN X230 hx (hb hby d9_45) rfl rfl ?_
  refine own_arraylength X230 hx hZ rfl (own_alnV Vs230) (hb hby d9_46) ?_
  refine own_iconst X230 hx 2 (hb hby d9_47) rfl ?_
  refine own_imul X230 hx (hb hby d9_48) ?_
  rw [show ((65 : Int32) * (2 : Int32)) = (130 : Int32) from by decide]
  refine own_cStat (W := 0) (rest := []) X230 hx hZ [(.ref b229), (.int 130)] hown (own_m hw 104 rfl) (own_m hw 105 rfl) (by decide) (own_m hw 107 rfl) (own_m hw 106 rfl) rfl (rmCopy l Z a0 hw [] b229 k229 (0 : Int32) s1 (0 : Int32) (0 : Int32) (0 : Int32) (0 : Int32) (0 : Int32) (0 : Int32) T230.heap n0 Zs241 Vs230) (by rw [hml]; rfl) (lenOf pd_16 rfl) rfl (Nat.le_of_eq rfl) (hb hby d9_49) (by decide) (by decide) (by decide) (by decide) fun v242 T242 L242 X242 hQ242 => ?_
  obtain ⟨b242, kb242, rfl, N242q, K242, szb242, gb242, Eb242, Vb242⟩ := hQ242
  have N242 := Fr.app N230 N242q
  have g_b242 := gb242
  have szo_b242 : h0.size ≤ b242 := Nat.le_trans (Nat.le_trans (Nat.le_trans (Nat.le_trans (Nat.le_trans (Nat.le_refl h0.size) K218.1) (Keep.of_wr W226).1) E229.1) K230.1) szb242
  have f243 := (own_staKeep f231 K242 all0)
  have f244 := (Exa.keep f232 K242)
  have f245 := (Fld.keep f233 K242 nin0)
  have f246 := (Fld.keep f234 K242 nin0)
  have f247 := (Arv.keep f235 K242 nin0)
  have f248 := (own_staKeep f236 K242 all0)
  have f249 := (Exa.keep f237 K242)
  have f250 := (Fld.keep f238 K242 nin0)
  have f251 := (Fld.keep f239 K242 nin0)
  have f252 := (Fld.keep f240 K242 nin0)
  have Zs253 : n0 ≤ T242.heap.size := (Nat.le_trans Zs241 K242.1)
  show own_At p e below _ T242 m 52 _ [(.ref b242)]
  refine own_astoreN (l' := #[.val (.ref o), .val (.ref a), .val (.ref b242), .val (.int 2), .val (.int 1)]) X242 hx (hb hby d9_52) rfl rfl ?_
  refine own_iloadN X242 hx (hb hby d9_53) rfl ?_
  refine own_istore (l' := #[.val (.ref o), .val (.ref a), .val (.ref b242), .val (.int 2), .val (.int 2)]) X242 hx (hb hby d9_54) rfl ?_
  refine own_aloadN X242 hx (hb hby d9_56) rfl rfl ?_
  refine own_aloadN X242 hx (hb hby d9_57) rfl rfl ?_
  refine own_iloadN X242 hx (hb hby d9_58) rfl ?_
  refine own_cStat (W := 0) (rest := []) X242 hx hZ [(.ref a), (.ref b242), (.int 2)] hown (own_m hw 76 rfl) (own_m hw 77 rfl) (by decide) (own_m hw 78 rfl) (own_m hw 41 rfl) rfl (hC2 b242 kb242 T242.heap n0 Zs253 f243 hcs f244 f245 f246 f247 Vb242) (by rw [hml]; rfl) (lenOf pd_14 rfl) rfl (Nat.le_of_eq rfl) (hb hby d9_59) (by decide) (by decide) (by decide) (by decide) fun v254 T254 L254 X254 hQ254 => ?_
  obtain ⟨rfl, N254q, e254⟩ := hQ254
  have N254 := Fr.app N242 N254q
  show own_At p e below _ T254 m 62 _ [(.int 2)]
  refine own_istoreN (l' := #[.val (.ref o), .val (.ref a), .val (.ref b242), .val (.int 2), .val (.int 2)]) X254 hx (hb hby d9_62) rfl ?_
  refine own_goto X254 hx 29 (hb hby d9_63) (by decide) (by decide) ?_
  refine own_iloadN X254 hx (hb hby d9_29) rfl ?_
  refine own_iload X254 hx (hb hby d9_30) rfl ?_
  refine own_icmpYes X254 hx 66 (hb hby d9_32) (flt (by decide : ¬ ((2 : Int32) < (2 : Int32)))).2.2.2 (by decide) (by decide) ?_
  refine own_aloadN X254 hx (hb hby d9_66) rfl rfl ?_
  refine own_cVirt (W := 0) (rest := []) X254 hx hZ [] hown (own_m hw 113 rfl) (own_m hw 114 rfl) (notFace_of_selects (args := #[]) (mvT hZ (own_m hw 116 rfl))) (own_m hw 116 rfl) (own_m hw 115 rfl) (by decide) (own_m hw 117 rfl) (own_m hw 9 rfl) e254 f244 (rmEm l Z a0 hw [] a b n T242.heap n0 Zs253 f245 (own_alnV f247) hnz) (by rw [hml]; rfl) (lenOf pd_8 rfl) rfl (Nat.le_of_eq rfl) (hb hby d9_67) (by decide) (by decide) (by decide) (by decide) fun v255 T255 L255 X255 hQ255 => ?_
  obtain ⟨rfl, N255q, e255⟩ := hQ255
  have N255 := Fr.app N254 N255q
  show own_At p e below _ T255 m 70 _ [(.int 0)]
  refine own_ifNo X255 hx (hb hby d9_70) (teq (by decide : (0 : Int32) = (0 : Int32))).2 ?_
  refine own_aloadN X255 hx (hb hby d9_73) rfl rfl ?_
  refine own_aloadN X255 hx (hb hby d9_74) rfl rfl ?_
  refine own_cVirt (W := 1) (rest := [(.ref a)]) X255 hx hZ [] hown (own_m hw 61 rfl) (own_m hw 62 rfl) (notFace_of_selects (args := #[]) (mvT hZ (own_m hw 64 rfl))) (own_m hw 64 rfl) (own_m hw 63 rfl) (by decide) (own_m hw 65 rfl) (own_m hw 9 rfl) e255 f244 (rmLen l Z a0 hw [] a b cs n T242.heap n0 Zs253 f243 hcs f244 f245 f246 (own_alnV f247)) (by rw [hml]; rfl) (lenOf pd_9 rfl) rfl (Nat.le_of_eq rfl) (hb hby d9_75) (by decide) (by decide) (by decide) (by decide) fun v256 T256 L256 X256 hQ256 => ?_
  obtain ⟨rfl, N256q, e256⟩ := hQ256
  have N256 := Fr.app N255 N256q
  show own_At p e below _ T256 m 78 _ [(.int n), (.ref a)]
  refine own_iconst X256 hx 1 (hb hby d9_78) rfl ?_
  refine own_isub X256 hx (hb hby d9_79) ?_
  rw [hi]
  refine own_cVirt (W := 0) (rest := []) X256 hx hZ [(.int i)] hown (own_m hw 118 rfl) (own_m hw 119 rfl) (notFace_of_selects (args := #[]) (mvT hZ (own_m hw 121 rfl))) (own_m hw 121 rfl) (own_m hw 120 rfl) (by decide) (own_m hw 122 rfl) (own_m hw 9 rfl) e256 f244 (hCA T242.heap n0 Zs253 f243 hcs f244 f245 f246 f247 f248 hfm) (by rw [hml]; rfl) (lenOf pd_15 rfl) rfl (Nat.le_of_eq rfl) (hb hby d9_80) (by decide) (by decide) (by decide) (by decide) fun v257 T257 L257 X257 hQ257 => ?_
  obtain ⟨rfl, N257q, e257⟩ := hQ257
  have N257 := Fr.app N256 N257q
  show own_At p e below _ T257 m 83 _ [(.int x)]
  refine own_bipush X257 hx 10 (hb hby d9_83) rfl ?_
  refine own_icmpYes X257 hx 92 (hb hby d9_85) (teq hxn).1 (by decide) (by decide) ?_
  refine own_iconst X257 hx 0 (hb hby d9_92) rfl ?_
  refine own_istore (l' := #[.val (.ref o), .val (.ref a), .val (.ref b242), .val (.int 2), .val (.int 0)]) X257 hx (hb hby d9_93) rfl ?_
  refine own_aloadN X257 hx (hb hby d9_95) rfl rfl ?_
  refine own_iload X257 hx (hb hby d9_96) rfl ?_
  refine own_ifYes X257 hx 105 (hb hby d9_98) (teq (by decide : (0 : Int32) = (0 : Int32))).1 (by decide) (by decide) ?_
  refine own_iloadN X257 hx (hb hby d9_105) rfl ?_
  refine own_iconst X257 hx 1 (hb hby d9_106) rfl ?_
  refine own_isub X257 hx (hb hby d9_107) ?_
  rw [show ((2 : Int32) - (1 : Int32)) = (1 : Int32) from by decide]
  refine own_putF X257 hx hZ hown (host := "") (Or.inl (own_m hw 134 rfl)) Via.refl e257 f251 f249 (Or.inr ⟨(own_m hw 135 rfl), rfl, hnm⟩) (own_m hw 40 rfl) (ty := .int) (by decide) rfl rfl (hb hby d9_108) fun T258 h258 X258 e258 W258 => ?_
  have Fw258 := Fld.same W258 f251
  have N258 := Fr.snoc X258 N257 g_o
  refine own_aloadN X258 hx (hb hby d9_111) rfl rfl ?_
  refine own_aloadN X258 hx (hb hby d9_112) rfl rfl ?_
  refine own_putF X258 hx hZ hown (host := "") (Or.inl (own_m hw 136 rfl)) Via.refl e258 (Fld.other W258 f252 (Or.inr (slot_ne (Or.inr (own_m hw 137 rfl)) (Or.inr (own_m hw 135 rfl)) (by decide) (t := (.array .int)) (t' := .int) (by decide) (by decide)))) (Exa.wr W258 f249) (Or.inr ⟨(own_m hw 137 rfl), rfl, hnm⟩) (own_m hw 40 rfl) (ty := (.array .int)) (by decide) rfl rfl (hb hby d9_113) fun T259 h259 X259 e259 W259 => ?_
  have Fw259 := Fld.same W259 (Fld.other W258 f252 (Or.inr (slot_ne (Or.inr (own_m hw 137 rfl)) (Or.inr (own_m hw 135 rfl)) (by decide) (t := (.array .int)) (t' := .int) (by decide) (by decide))))
  have N259 := Fr.snoc X259 N258 g_o
  refine own_aloadN X259 hx (hb hby d9_116) rfl rfl ?_
  refine own_getF X259 hx hZ hown (host := "") (Or.inl (own_m hw 136 rfl)) Via.refl e259 Fw259 (hb hby d9_117) fun T260 X260 e260 => ?_
  refine own_aloadN X260 hx (hb hby d9_120) rfl rfl ?_
  refine own_getF X260 hx hZ hown (host := "") (Or.inl (own_m hw 134 rfl)) Via.refl e260 (Fld.other W259 Fw258 (Or.inr (slot_ne (Or.inr (own_m hw 135 rfl)) (Or.inr (own_m hw 137 rfl)) (by decide) (t := .int) (t' := (.array .int)) (by decide) (by decide)))) (hb hby d9_121) fun T261 X261 e261 => ?_
  refine own_aloadN X261 hx (hb hby d9_124) rfl rfl ?_
  refine own_cVirt (W := 2) (rest := [(.int 1), (.ref b242)]) X261 hx hZ [] hown (own_m hw 61 rfl) (own_m hw 62 rfl) (notFace_of_selects (args := #[]) (mvT hZ (own_m hw 64 rfl))) (own_m hw 64 rfl) (own_m hw 63 rfl) (by decide) (own_m hw 65 rfl) (own_m hw 9 rfl) e261 (Exa.wr W259 (Exa.wr W258 f244)) (rmLen l Z a0 hw [] a b cs n h259 n0 (Nat.le_trans (Nat.le_trans Zs253 (Keep.of_wr W258).1) (Keep.of_wr W259).1) (Sta.wr W259 (Sta.wr W258 f243)) hcs (Exa.wr W259 (Exa.wr W258 f244)) (Fld.other W259 (Fld.other W258 f245 (Or.inl (ne_exa f244 f249 (by decide)))) (Or.inl (ne_exa f244 f249 (by decide)))) (Fld.other W259 (Fld.other W258 f246 (Or.inl (ne_exa f244 f249 (by decide)))) (Or.inl (ne_exa f244 f249 (by decide)))) (own_alnV (Arv.other (Arv.other f247 W258 hbo) W259 hbo))) (by rw [hml]; rfl) (lenOf pd_9 rfl) rfl (Nat.le_of_eq rfl) (hb hby d9_125) (by decide) (by decide) (by decide) (by decide) fun v262 T262 L262 X262 hQ262 => ?_
  obtain ⟨rfl, N262q, e262⟩ := hQ262
  have N262 := Fr.app N259 N262q
  show own_At p e below _ T262 m 128 _ [(.int n), (.int 1), (.ref b242)]
  refine own_stI (vs' := [(.int 0), (.int n), (.int 0), (.int 0), (.int 0), (.int 0), (.int 0), (.int 0)]) (w := (.int n)) X262 hx hZ e262 (Arv.other (Arv.other Vb242 W258 (Ne.symm (Nat.ne_of_lt (Nat.lt_of_lt_of_le f237.lt szb242)))) W259 (Ne.symm (Nat.ne_of_lt (Nat.lt_of_lt_of_le f237.lt szb242)))) ⟨by decide, by decide⟩ 1 rfl (Nat.le_of_ble_eq_true rfl) rfl rfl (hb hby d9_128) fun T263 h263 X263 e263 W263 V263 => ?_
  have N263 := Fr.snoc X263 N262 g_b242
  refine own_retV X263 hx hlk hret (hb hby d9_129) (own_kN (by decide) (by decide) ?_)
  try rw [e263]
  exact ⟨rfl, N263, (Keep.wr (Keep.wr (Keep.wr (Keep.trans (Keep.trans (Keep.ext (Keep.wr (Keep.trans (Keep.refl h0 [o]) K218 (allS (Or.inl (List.mem_of_getElem? (i := 0) rfl)) all0)) W226 (Or.inl (List.mem_of_getElem? (i := 0) rfl))) E229) K230 (allS (Or.inr szo_b229) all0)) K242 all0) W258 (Or.inl (List.mem_of_getElem? (i := 0) rfl))) W259 (Or.inl (List.mem_of_getElem? (i := 0) rfl))) W263 (Or.inr szo_b242)), b242, kb242, (Exa.wr W263 (Exa.wr W259 (Exa.wr W258 f249))), (Fld.other W263 (Fld.other W259 Fw258 (Or.inr (slot_ne (Or.inr (own_m hw 135 rfl)) (Or.inr (own_m hw 137 rfl)) (by decide) (t := .int) (t' := (.array .int)) (by decide) (by decide)))) (Or.inl (Nat.ne_of_lt (Nat.lt_of_lt_of_le f237.lt szb242)))), (Fld.other W263 Fw259 (Or.inl (Nat.ne_of_lt (Nat.lt_of_lt_of_le f237.lt szb242)))), V263⟩
set_option maxRecDepth 65536 in
set_option maxHeartbeats 40000000 in
theorem rmLI_2_1 (l : Launch) (Z : State) (a0 : Array Value) (hw : own_Wd a0 Z) (ws : List Jvm.Cond) (o a b : Addr) (kb : ClassId) (cs : Int32) (bs : List Value) (fm : Value) (n i x : Int32) (s1 : Int32)  (h0 : Heap) (n0 : Nat) (Z0 : n0 ≤ h0.size) (Sc : Sta Z h0 "java/lang/String" "COMPACT_STRINGS" "Z" (.int cs)) (hcs : ¬ (cs = (0 : Int32))) (Ea : Exa Z h0 a "java/lang/String") (Fv : Fld Z h0 a "java/lang/String" "value" "[B" (.ref b)) (Fc : Fld Z h0 a "java/lang/String" "coder" "B" (.int 0)) (Vb : Arv Z h0 b kb .byte n bs (.int 0)) (Sf : Sta Z h0 "jdk/internal/util/Preconditions" "SIOOBE_FORMATTER" "Ljava/util/function/BiFunction;" fm) (hfm : fm.isRef = true) (Eo : Exa Z h0 o "com/example/amendtrail/amendtrail/write/Lines") (F_m : Fld Z h0 o "java/util/AbstractList" "modCount" "I" (.int 0)) (g_o : n0 ≤ o) (hbo : b ≠ o) (F_text : Fld Z h0 o "com/example/amendtrail/amendtrail/write/Lines" "text" "Ljava/lang/String;" .null) (F_size : Fld Z h0 o "com/example/amendtrail/amendtrail/write/Lines" "size" "I" (.int 0)) (F_starts : Fld Z h0 o "com/example/amendtrail/amendtrail/write/Lines" "starts" "[I" .null) (hC1 : own_C1 l Z a b kb cs n bs (2 : Int32) [(.int 0), (.int s1), (.int 0), (.int 0), (.int 0), (.int 0), (.int 0), (.int 0)]) (hC2 : own_C2 l Z a b kb cs n bs (2 : Int32) [(.int 0), (.int s1), (.int 0), (.int 0), (.int 0), (.int 0), (.int 0), (.int 0)]) (hCA : own_CA l Z a b kb cs n bs fm i x) (hxn : ¬ (x = (10 : Int32))) (hi : (n - (1 : Int32)) = i) (hnz : ¬ (n = (0 : Int32))) (hn32 : ¬ (65 : Int32) < (n / (32 : Int32))) :
    own_Met l (⟨"com/example/amendtrail/amendtrail/write/Lines", "<init>", "(Ljava/lang/String;)V"⟩ : MethodName) prog_111_method_1_code 5 none ws ({ frames := 4, cells := 2, slots := 195, locals := 62 } : Room) Z #[(.ref o), (.ref a)] h0 (fun v h L => v = none ∧ Fr n0 L ∧ Keep h0 h [o] ∧ ∃ sa ks, Exa Z h o "com/example/amendtrail/amendtrail/write/Lines" ∧ Fld Z h o "com/example/amendtrail/amendtrail/write/Lines" "size" "I" (.int 2) ∧ Fld Z h o "com/example/amendtrail/amendtrail/write/Lines" "starts" "[I" (.ref sa) ∧ Arv Z h sa ks .int (130 : Int32) (List.map Value.int [(0 : Int32), s1, n, (0 : Int32), (0 : Int32), (0 : Int32), (0 : Int32), (0 : Int32)]) (.int 0)) := by
  refine own_body (plainFor_of_name pn_8) ?_
  intro p e s m below meth c s₁ X0 hx hby hml hown hnm hret hlk hZ e0
  replace hown : s.vm.findClass "com/example/amendtrail/amendtrail/write/Lines" = some m.cls := hown
  replace hml : c.maxLocals = 5 := hml
  replace hret : meth.sig.returnType = none := hret
  have N0 := Fr.nil n0
  refine own_ef (L0 := #[.val (.ref o), .val (.ref a), .unset, .unset, .unset]) (by first | (simp [entryFrame, mkF, argsToLocals, Value.category]; done) | rfl) ?_
  refine own_aloadN X0 hx (hb hby d9_0) rfl rfl ?_
  refine own_cSpec (b := o) (W := 0) (rest := []) X0 hx hZ [] rfl hown (own_m hw 45 rfl) (own_m hw 46 rfl) (by decide) (own_m hw 49 rfl) (own_m hw 48 rfl) e0 (rmAL l Z a0 hw [] o h0 n0 Z0 Eo F_m g_o F_text F_size F_starts) (by rw [hml]; rfl) (lenOf pd_13 rfl) rfl (Nat.le_of_eq rfl) (hb hby d9_1) (by decide) (by decide) (by decide) (by decide) fun v264 T264 L264 X264 hQ264 => ?_
  obtain ⟨rfl, N264q, K264, Eo264, Ftext264, Fsize264, Fstarts264⟩ := hQ264
  have N264 := Fr.app N0 N264q
  have f265 := (own_staKeep Sc K264 (allS (own_exaStat Eo) all0))
  have f266 := (Exa.keep Ea K264)
  have f267 := (Fld.keep Fv K264 (ninS (ne_exa f266 Eo264 (by decide)) nin0))
  have f268 := (Fld.keep Fc K264 (ninS (ne_exa f266 Eo264 (by decide)) nin0))
  have f269 := (Arv.keep Vb K264 (ninS hbo nin0))
  have f270 := (own_staKeep Sf K264 (allS (own_exaStat Eo) all0))
  have Zs271 : n0 ≤ T264.heap.size := (Nat.le_trans Z0 K264.1)
  show own_At p e below _ T264 m 4 _ []
  refine own_aloadN X264 hx (hb hby d9_4) rfl rfl ?_
  refine own_aloadN X264 hx (hb hby d9_5) rfl rfl ?_
  refine own_putF X264 hx hZ hown (host := "") (Or.inl (own_m hw 59 rfl)) Via.refl rfl Ftext264 Eo264 (Or.inr ⟨(own_m hw 60 rfl), rfl, hnm⟩) (own_m hw 40 rfl) (ty := (.object "java/lang/String")) (by decide) rfl rfl (hb hby d9_6) fun T272 h272 X272 e272 W272 => ?_
  have Fw272 := Fld.same W272 Ftext264
  have N272 := Fr.snoc X272 N264 g_o
  refine own_bipush X272 hx 65 (hb hby d9_9) rfl ?_
  refine own_aloadN X272 hx (hb hby d9_11) rfl rfl ?_
  refine own_cVirt (W := 1) (rest := [(.int 65)]) X272 hx hZ [] hown (own_m hw 61 rfl) (own_m hw 62 rfl) (notFace_of_selects (args := #[]) (mvT hZ (own_m hw 64 rfl))) (own_m hw 64 rfl) (own_m hw 63 rfl) (by decide) (own_m hw 65 rfl) (own_m hw 9 rfl) e272 (Exa.wr W272 f266) (rmLen l Z a0 hw [] a b cs n h272 n0 (Nat.le_trans Zs271 (Keep.of_wr W272).1) (Sta.wr W272 f265) hcs (Exa.wr W272 f266) (Fld.other W272 f267 (Or.inl (ne_exa f266 Eo264 (by decide)))) (Fld.other W272 f268 (Or.inl (ne_exa f266 Eo264 (by decide)))) (own_alnV (Arv.other f269 W272 hbo))) (by rw [hml]; rfl) (lenOf pd_9 rfl) rfl (Nat.le_of_eq rfl) (hb hby d9_12) (by decide) (by decide) (by decide) (by decide) fun v273 T273 L273 X273 hQ273 => ?_
  obtain ⟨rfl, N273q, e273⟩ := hQ273
  have N273 := Fr.app N272 N273q
  show own_At p e below _ T273 m 15 _ [(.int n), (.int 65)]
  refine own_bipush X273 hx 32 (hb hby d9_15) rfl ?_
  refine own_idiv X273 hx (hb hby d9_17) (by decide) ?_
  refine own_cStat (W := 0) (rest := []) X273 hx hZ [(.int 65), (.int (n / (32 : Int32)))] hown (own_m hw 71 rfl) (own_m hw 72 rfl) (by decide) (own_m hw 74 rfl) (own_m hw 73 rfl) e273 (rmMax l Z a0 hw [] (65 : Int32) (n / (32 : Int32)) h272 n0 (Nat.le_trans Zs271 (Keep.of_wr W272).1) hn32) (by rw [hml]; rfl) (lenOf pd_6 rfl) rfl (Nat.le_of_eq rfl) (hb hby d9_18) (by decide) (by decide) (by decide) (by decide) fun v274 T274 L274 X274 hQ274 => ?_
  obtain ⟨rfl, N274q, e274⟩ := hQ274
  have N274 := Fr.app N273 N274q
  show own_At p e below _ T274 m 21 _ [(.int 65)]
  refine own_newP (n := (65 : Int32)) (cap := 65) (ad := "[I") X274 hx hZ (own_m hw 75 rfl) e274 (hb hby d9_21) (by decide) (by decide) (by decide) (by decide) (by decide) (by decide) fun T275 h275 k275 b275 g275 X275 e275 E275 A275 Ex275 => ?_
  have g_b275 : n0 ≤ b275 := Nat.le_trans (Nat.le_trans Zs271 (Keep.of_wr W272).1) (Nat.le_of_eq g275.symm)
  have szo_b275 : h0.size ≤ b275 := Nat.le_trans (Nat.le_trans (Nat.le_trans (Nat.le_refl h0.size) K264.1) (Keep.of_wr W272).1) (Nat.le_of_eq g275.symm)
  have V275 : Arv Z h275 b275 k275 .int (65 : Int32) [(.int 0), (.int 0), (.int 0), (.int 0), (.int 0), (.int 0), (.int 0), (.int 0)] (.int 0) := (Arv.new A275 (by decide)).pad (pad_rep [] (.int 0) 8)
  refine own_astoreN (l' := #[.val (.ref o), .val (.ref a), .val (.ref b275), .unset, .unset]) X275 hx (hb hby d9_23) rfl rfl ?_
  refine own_iconst X275 hx 1 (hb hby d9_24) rfl ?_
  refine own_istoreN (l' := #[.val (.ref o), .val (.ref a), .val (.ref b275), .val (.int 1), .unset]) X275 hx (hb hby d9_25) rfl ?_
  refine own_iconst X275 hx 0 (hb hby d9_26) rfl ?_
  refine own_istore (l' := #[.val (.ref o), .val (.ref a), .val (.ref b275), .val (.int 1), .val (.int 0)]) X275 hx (hb hby d9_27) rfl ?_
  refine own_iloadN X275 hx (hb hby d9_29) rfl ?_
  refine own_iload X275 hx (hb hby d9_30) rfl ?_
  refine own_icmpNo X275 hx (hb hby d9_32) (tlt (by decide : (0 : Int32) < (1 : Int32))).2.2.2 ?_
  refine own_iloadN X275 hx (hb hby d9_35) rfl ?_
  refine own_bipush X275 hx 64 (hb hby d9_36) rfl ?_
  refine own_iadd X275 hx (hb hby d9_38) ?_
  rw [show ((1 : Int32) + (64 : Int32)) = (65 : Int32) from by decide]
  refine own_aloadN X275 hx (hb hby d9_39) rfl rfl ?_
  refine own_arraylength X275 hx hZ e275 (own_alnV V275) (hb hby d9_40) ?_
  refine own_icmpYes X275 hx 53 (hb hby d9_41) (flt (by decide : ¬ ((65 : Int32) < (65 : Int32)))).2.2.2 (by decide) (by decide) ?_
  refine own_iloadN X275 hx (hb hby d9_53) rfl ?_
  refine own_istore (l' := #[.val (.ref o), .val (.ref a), .val (.ref b275), .val (.int 1), .val (.int 1)]) X275 hx (hb hby d9_54) rfl ?_
  refine own_aloadN X275 hx (hb hby d9_56) rfl rfl ?_
  refine own_aloadN X275 hx (hb hby d9_57) rfl rfl ?_
  refine own_iloadN X275 hx (hb hby d9_58) rfl ?_
  refine own_cStat (W := 0) (rest := []) X275 hx hZ [(.ref a), (.ref b275), (.int 1)] hown (own_m hw 76 rfl) (own_m hw 77 rfl) (by decide) (own_m hw 78 rfl) (own_m hw 41 rfl) e275 (hC1 b275 k275 h275 n0 (Nat.le_trans (Nat.le_trans Zs271 (Keep.of_wr W272).1) E275.1) (Sta.ext E275 (Sta.wr W272 f265)) hcs (Exa.ext E275 (Exa.wr W272 f266)) (Fld.ext E275 (Fld.other W272 f267 (Or.inl (ne_exa f266 Eo264 (by decide))))) (Fld.ext E275 (Fld.other W272 f268 (Or.inl (ne_exa f266 Eo264 (by decide))))) ((Arv.other f269 W272 hbo).ext E275) V275 g_b275 Ex275 (Nat.ne_of_lt (Nat.lt_of_lt_of_le (Arv.other f269 W272 hbo).lt (Nat.le_of_eq g275.symm)))) (by rw [hml]; rfl) (lenOf pd_14 rfl) rfl (Nat.le_of_eq rfl) (hb hby d9_59) (by decide) (by decide) (by decide) (by decide) fun v276 T276 L276 X276 hQ276 => ?_
  obtain ⟨rfl, N276q, K276, Vs276⟩ := hQ276
  have N276 := Fr.app N274 N276q
  have f277 := (own_staKeep (Sta.ext E275 (Sta.wr W272 f265)) K276 (allS (own_exaStat Ex275) all0))
  have f278 := (Exa.keep (Exa.ext E275 (Exa.wr W272 f266)) K276)
  have f279 := (Fld.keep (Fld.ext E275 (Fld.other W272 f267 (Or.inl (ne_exa f278 (Exa.keep (Exa.ext E275 (Exa.wr W272 Eo264)) K276) (by decide))))) K276 (ninS (Nat.ne_of_lt (Nat.lt_of_lt_of_le (Exa.wr W272 f266).lt (Nat.le_of_eq g275.symm))) nin0))
  have f280 := (Fld.keep (Fld.ext E275 (Fld.other W272 f268 (Or.inl (ne_exa f278 (Exa.keep (Exa.ext E275 (Exa.wr W272 Eo264)) K276) (by decide))))) K276 (ninS (Nat.ne_of_lt (Nat.lt_of_lt_of_le (Exa.wr W272 f266).lt (Nat.le_of_eq g275.symm))) nin0))
  have f281 := (Arv.keep ((Arv.other f269 W272 hbo).ext E275) K276 (ninS (Nat.ne_of_lt (Nat.lt_of_lt_of_le (Arv.other f269 W272 hbo).lt (Nat.le_of_eq g275.symm))) nin0))
  have f282 := (own_staKeep (Sta.ext E275 (Sta.wr W272 f270)) K276 (allS (own_exaStat Ex275) all0))
  have f283 := (Exa.keep (Exa.ext E275 (Exa.wr W272 Eo264)) K276)
  have f284 := (Fld.keep (Fld.ext E275 Fw272) K276 (ninS (Nat.ne_of_lt (Nat.lt_of_lt_of_le Fw272.lt (Nat.le_of_eq g275.symm))) nin0))
  have f285 := (Fld.keep (Fld.ext E275 (Fld.other W272 Fsize264 (Or.inr (slot_ne (Or.inr (own_m hw 135 rfl)) (Or.inr (own_m hw 60 rfl)) (by decide) (t := .int) (t' := (.object "java/lang/String")) (by decide) (by decide))))) K276 (ninS (Nat.ne_of_lt (Nat.lt_of_lt_of_le Fw272.lt (Nat.le_of_eq g275.symm))) nin0))
  have f286 := (Fld.keep (Fld.ext E275 (Fld.other W272 Fstarts264 (Or.inr (slot_ne (Or.inr (own_m hw 137 rfl)) (Or.inr (own_m hw 60 rfl)) (by decide) (t := (.array .int)) (t' := (.object "java/lang/String")) (by decide) (by decide))))) K276 (ninS (Nat.ne_of_lt (Nat.lt_of_lt_of_le Fw272.lt (Nat.le_of_eq g275.symm))) nin0))
  have Zs287 : n0 ≤ T276.heap.size := (Nat.le_trans (Nat.le_trans (Nat.le_trans Zs271 (Keep.of_wr W272).1) E275.1) K276.1)
  show own_At p e below _ T276 m 62 _ [(.int 2)]
  refine own_istoreN (l' := #[.val (.ref o), .val (.ref a), .val (.ref b275), .val (.int 2), .val (.int 1)]) X276 hx (hb hby d9_62) rfl ?_
  refine own_goto X276 hx 29 (hb hby d9_63) (by decide) (by decide) ?_
  refine own_iloadN X276 hx (hb hby d9_29) rfl ?_
  refine own_iload X276 hx (hb hby d9_30) rfl ?_
  refine own_icmpNo X276 hx (hb hby d9_32) (tlt (by decide : (1 : Int32) < (2 : Int32))).2.2.2 ?_
  refine own_iloadN X276 hx (hb hby d9_35) rfl ?_
  refine own_bipush X276 hx 64 (hb hby d9_36) rfl ?_
  refine own_iadd X276 hx (hb hby d9_38) ?_
  rw [show ((2 : Int32) + (64 : Int32)) = (66 : Int32) from by decide]
  refine own_aloadN X276 hx (hb hby d9_39) rfl rfl ?_
  refine own_arraylength X276 hx hZ rfl (own_alnV Vs276) (hb hby d9_40) ?_
  refine own_icmpNo X276 hx (hb hby d9_41) (tlt (by decide : (65 : Int32) < (66 : Int32))).2.2.2 ?_
  refine own_aloadN X276 hx (hb hby d9_44) rfl rfl ?_
  refine own_aloadN X276 hx (hb hby d9_45) rfl rfl ?_
  refine own_arraylength X276 hx hZ rfl (own_alnV Vs276) (hb hby d9_46) ?_
  refine own_iconst X276 hx 2 (hb hby d9_47) rfl ?_
  refine own_imul X276 hx (hb hby d9_48) ?_
  rw [show ((65 : Int32) * (2 : Int32)) = (130 : Int32) from by decide]
  refine own_cStat (W := 0) (rest := []) X276 hx hZ [(.ref b275), (.int 130)] hown (own_m hw 104 rfl) (own_m hw 105 rfl) (by decide) (own_m hw 107 rfl) (own_m hw 106 rfl) rfl (rmCopy l Z a0 hw [] b275 k275 (0 : Int32) s1 (0 : Int32) (0 : Int32) (0 : Int32) (0 : Int32) (0 : Int32) (0 : Int32) T276.heap n0 Zs287 Vs276) (by rw [hml]; rfl) (lenOf pd_16 rfl) rfl (Nat.le_of_eq rfl) (hb hby d9_49) (by decide) (by decide) (by decide) (by decide) fun v288 T288 L288 X288 hQ288 => ?_
  obtain ⟨b288, kb288, rfl, N288q, K288, szb288, gb288, Eb288, Vb288⟩ := hQ288
  have N288 := Fr.app N276 N288q
  have g_b288 := gb288
  have szo_b288 : h0.size ≤ b288 := Nat.le_trans (Nat.le_trans (Nat.le_trans (Nat.le_trans (Nat.le_trans (Nat.le_refl h0.size) K264.1) (Keep.of_wr W272).1) E275.1) K276.1) szb288
  have f289 := (own_staKeep f277 K288 all0)
  have f290 := (Exa.keep f278 K288)
  have f291 := (Fld.keep f279 K288 nin0)
  have f292 := (Fld.keep f280 K288 nin0)
  have f293 := (Arv.keep f281 K288 nin0)
  have f294 := (own_staKeep f282 K288 all0)
  have f295 := (Exa.keep f283 K288)
  have f296 := (Fld.keep f284 K288 nin0)
  have f297 := (Fld.keep f285 K288 nin0)
  have f298 := (Fld.keep f286 K288 nin0)
  have Zs299 : n0 ≤ T288.heap.size := (Nat.le_trans Zs287 K288.1)
  show own_At p e below _ T288 m 52 _ [(.ref b288)]
  refine own_astoreN (l' := #[.val (.ref o), .val (.ref a), .val (.ref b288), .val (.int 2), .val (.int 1)]) X288 hx (hb hby d9_52) rfl rfl ?_
  refine own_iloadN X288 hx (hb hby d9_53) rfl ?_
  refine own_istore (l' := #[.val (.ref o), .val (.ref a), .val (.ref b288), .val (.int 2), .val (.int 2)]) X288 hx (hb hby d9_54) rfl ?_
  refine own_aloadN X288 hx (hb hby d9_56) rfl rfl ?_
  refine own_aloadN X288 hx (hb hby d9_57) rfl rfl ?_
  refine own_iloadN X288 hx (hb hby d9_58) rfl ?_
  refine own_cStat (W := 0) (rest := []) X288 hx hZ [(.ref a), (.ref b288), (.int 2)] hown (own_m hw 76 rfl) (own_m hw 77 rfl) (by decide) (own_m hw 78 rfl) (own_m hw 41 rfl) rfl (hC2 b288 kb288 T288.heap n0 Zs299 f289 hcs f290 f291 f292 f293 Vb288) (by rw [hml]; rfl) (lenOf pd_14 rfl) rfl (Nat.le_of_eq rfl) (hb hby d9_59) (by decide) (by decide) (by decide) (by decide) fun v300 T300 L300 X300 hQ300 => ?_
  obtain ⟨rfl, N300q, e300⟩ := hQ300
  have N300 := Fr.app N288 N300q
  show own_At p e below _ T300 m 62 _ [(.int 2)]
  refine own_istoreN (l' := #[.val (.ref o), .val (.ref a), .val (.ref b288), .val (.int 2), .val (.int 2)]) X300 hx (hb hby d9_62) rfl ?_
  refine own_goto X300 hx 29 (hb hby d9_63) (by decide) (by decide) ?_
  refine own_iloadN X300 hx (hb hby d9_29) rfl ?_
  refine own_iload X300 hx (hb hby d9_30) rfl ?_
  refine own_icmpYes X300 hx 66 (hb hby d9_32) (flt (by decide : ¬ ((2 : Int32) < (2 : Int32)))).2.2.2 (by decide) (by decide) ?_
  refine own_aloadN X300 hx (hb hby d9_66) rfl rfl ?_
  refine own_cVirt (W := 0) (rest := []) X300 hx hZ [] hown (own_m hw 113 rfl) (own_m hw 114 rfl) (notFace_of_selects (args := #[]) (mvT hZ (own_m hw 116 rfl))) (own_m hw 116 rfl) (own_m hw 115 rfl) (by decide) (own_m hw 117 rfl) (own_m hw 9 rfl) e300 f290 (rmEm l Z a0 hw [] a b n T288.heap n0 Zs299 f291 (own_alnV f293) hnz) (by rw [hml]; rfl) (lenOf pd_8 rfl) rfl (Nat.le_of_eq rfl) (hb hby d9_67) (by decide) (by decide) (by decide) (by decide) fun v301 T301 L301 X301 hQ301 => ?_
  obtain ⟨rfl, N301q, e301⟩ := hQ301
  have N301 := Fr.app N300 N301q
  show own_At p e below _ T301 m 70 _ [(.int 0)]
  refine own_ifNo X301 hx (hb hby d9_70) (teq (by decide : (0 : Int32) = (0 : Int32))).2 ?_
  refine own_aloadN X301 hx (hb hby d9_73) rfl rfl ?_
  refine own_aloadN X301 hx (hb hby d9_74) rfl rfl ?_
  refine own_cVirt (W := 1) (rest := [(.ref a)]) X301 hx hZ [] hown (own_m hw 61 rfl) (own_m hw 62 rfl) (notFace_of_selects (args := #[]) (mvT hZ (own_m hw 64 rfl))) (own_m hw 64 rfl) (own_m hw 63 rfl) (by decide) (own_m hw 65 rfl) (own_m hw 9 rfl) e301 f290 (rmLen l Z a0 hw [] a b cs n T288.heap n0 Zs299 f289 hcs f290 f291 f292 (own_alnV f293)) (by rw [hml]; rfl) (lenOf pd_9 rfl) rfl (Nat.le_of_eq rfl) (hb hby d9_75) (by decide) (by decide) (by decide) (by decide) fun v302 T302 L302 X302 hQ302 => ?_
  obtain ⟨rfl, N302q, e302⟩ := hQ302
  have N302 := Fr.app N301 N302q
  show own_At p e below _ T302 m 78 _ [(.int n), (.ref a)]
  refine own_iconst X302 hx 1 (hb hby d9_78) rfl ?_
  refine own_isub X302 hx (hb hby d9_79) ?_
  rw [hi]
  refine own_cVirt (W := 0) (rest := []) X302 hx hZ [(.int i)] hown (own_m hw 118 rfl) (own_m hw 119 rfl) (notFace_of_selects (args := #[]) (mvT hZ (own_m hw 121 rfl))) (own_m hw 121 rfl) (own_m hw 120 rfl) (by decide) (own_m hw 122 rfl) (own_m hw 9 rfl) e302 f290 (hCA T288.heap n0 Zs299 f289 hcs f290 f291 f292 f293 f294 hfm) (by rw [hml]; rfl) (lenOf pd_15 rfl) rfl (Nat.le_of_eq rfl) (hb hby d9_80) (by decide) (by decide) (by decide) (by decide) fun v303 T303 L303 X303 hQ303 => ?_
  obtain ⟨rfl, N303q, e303⟩ := hQ303
  have N303 := Fr.app N302 N303q
  show own_At p e below _ T303 m 83 _ [(.int x)]
  refine own_bipush X303 hx 10 (hb hby d9_83) rfl ?_
  refine own_icmpNo X303 hx (hb hby d9_85) (feq hxn).1 ?_
  refine own_iconst X303 hx 1 (hb hby d9_88) rfl ?_
  refine own_goto X303 hx 93 (hb hby d9_89) (by decide) (by decide) ?_
  refine own_istore (l' := #[.val (.ref o), .val (.ref a), .val (.ref b288), .val (.int 2), .val (.int 1)]) X303 hx (hb hby d9_93) rfl ?_
  refine own_aloadN X303 hx (hb hby d9_95) rfl rfl ?_
  refine own_iload X303 hx (hb hby d9_96) rfl ?_
  refine own_ifNo X303 hx (hb hby d9_98) (feq (by decide : ¬ ((1 : Int32) = (0 : Int32)))).1 ?_
  refine own_iloadN X303 hx (hb hby d9_101) rfl ?_
  refine own_goto X303 hx 108 (hb hby d9_102) (by decide) (by decide) ?_
  refine own_putF X303 hx hZ hown (host := "") (Or.inl (own_m hw 134 rfl)) Via.refl e303 f297 f295 (Or.inr ⟨(own_m hw 135 rfl), rfl, hnm⟩) (own_m hw 40 rfl) (ty := .int) (by decide) rfl rfl (hb hby d9_108) fun T304 h304 X304 e304 W304 => ?_
  have Fw304 := Fld.same W304 f297
  have N304 := Fr.snoc X304 N303 g_o
  refine own_aloadN X304 hx (hb hby d9_111) rfl rfl ?_
  refine own_aloadN X304 hx (hb hby d9_112) rfl rfl ?_
  refine own_putF X304 hx hZ hown (host := "") (Or.inl (own_m hw 136 rfl)) Via.refl e304 (Fld.other W304 f298 (Or.inr (slot_ne (Or.inr (own_m hw 137 rfl)) (Or.inr (own_m hw 135 rfl)) (by decide) (t := (.array .int)) (t' := .int) (by decide) (by decide)))) (Exa.wr W304 f295) (Or.inr ⟨(own_m hw 137 rfl), rfl, hnm⟩) (own_m hw 40 rfl) (ty := (.array .int)) (by decide) rfl rfl (hb hby d9_113) fun T305 h305 X305 e305 W305 => ?_
  have Fw305 := Fld.same W305 (Fld.other W304 f298 (Or.inr (slot_ne (Or.inr (own_m hw 137 rfl)) (Or.inr (own_m hw 135 rfl)) (by decide) (t := (.array .int)) (t' := .int) (by decide) (by decide))))
  have N305 := Fr.snoc X305 N304 g_o
  refine own_aloadN X305 hx (hb hby d9_116) rfl rfl ?_
  refine own_getF X305 hx hZ hown (host := "") (Or.inl (own_m hw 136 rfl)) Via.refl e305 Fw305 (hb hby d9_117) fun T306 X306 e306 => ?_
  refine own_aloadN X306 hx (hb hby d9_120) rfl rfl ?_
  refine own_getF X306 hx hZ hown (host := "") (Or.inl (own_m hw 134 rfl)) Via.refl e306 (Fld.other W305 Fw304 (Or.inr (slot_ne (Or.inr (own_m hw 135 rfl)) (Or.inr (own_m hw 137 rfl)) (by decide) (t := .int) (t' := (.array .int)) (by decide) (by decide)))) (hb hby d9_121) fun T307 X307 e307 => ?_
  refine own_aloadN X307 hx (hb hby d9_124) rfl rfl ?_
  refine own_cVirt (W := 2) (rest := [(.int 2), (.ref b288)]) X307 hx hZ [] hown (own_m hw 61 rfl) (own_m hw 62 rfl) (notFace_of_selects (args := #[]) (mvT hZ (own_m hw 64 rfl))) (own_m hw 64 rfl) (own_m hw 63 rfl) (by decide) (own_m hw 65 rfl) (own_m hw 9 rfl) e307 (Exa.wr W305 (Exa.wr W304 f290)) (rmLen l Z a0 hw [] a b cs n h305 n0 (Nat.le_trans (Nat.le_trans Zs299 (Keep.of_wr W304).1) (Keep.of_wr W305).1) (Sta.wr W305 (Sta.wr W304 f289)) hcs (Exa.wr W305 (Exa.wr W304 f290)) (Fld.other W305 (Fld.other W304 f291 (Or.inl (ne_exa f290 f295 (by decide)))) (Or.inl (ne_exa f290 f295 (by decide)))) (Fld.other W305 (Fld.other W304 f292 (Or.inl (ne_exa f290 f295 (by decide)))) (Or.inl (ne_exa f290 f295 (by decide)))) (own_alnV (Arv.other (Arv.other f293 W304 hbo) W305 hbo))) (by rw [hml]; rfl) (lenOf pd_9 rfl) rfl (Nat.le_of_eq rfl) (hb hby d9_125) (by decide) (by decide) (by decide) (by decide) fun v308 T308 L308 X308 hQ308 => ?_
  obtain ⟨rfl, N308q, e308⟩ := hQ308
  have N308 := Fr.app N305 N308q
  show own_At p e below _ T308 m 128 _ [(.int n), (.int 2), (.ref b288)]
  refine own_stI (vs' := [(.int 0), (.int s1), (.int n), (.int 0), (.int 0), (.int 0), (.int 0), (.int 0)]) (w := (.int n)) X308 hx hZ e308 (Arv.other (Arv.other Vb288 W304 (Ne.symm (Nat.ne_of_lt (Nat.lt_of_lt_of_le f283.lt szb288)))) W305 (Ne.symm (Nat.ne_of_lt (Nat.lt_of_lt_of_le f283.lt szb288)))) ⟨by decide, by decide⟩ 2 rfl (Nat.le_of_ble_eq_true rfl) rfl rfl (hb hby d9_128) fun T309 h309 X309 e309 W309 V309 => ?_
  have N309 := Fr.snoc X309 N308 g_b288
  refine own_retV X309 hx hlk hret (hb hby d9_129) (own_kN (by decide) (by decide) ?_)
  try rw [e309]
  exact ⟨rfl, N309, (Keep.wr (Keep.wr (Keep.wr (Keep.trans (Keep.trans (Keep.ext (Keep.wr (Keep.trans (Keep.refl h0 [o]) K264 (allS (Or.inl (List.mem_of_getElem? (i := 0) rfl)) all0)) W272 (Or.inl (List.mem_of_getElem? (i := 0) rfl))) E275) K276 (allS (Or.inr szo_b275) all0)) K288 all0) W304 (Or.inl (List.mem_of_getElem? (i := 0) rfl))) W305 (Or.inl (List.mem_of_getElem? (i := 0) rfl))) W309 (Or.inr szo_b288)), b288, kb288, (Exa.wr W309 (Exa.wr W305 (Exa.wr W304 f295))), (Fld.other W309 (Fld.other W305 Fw304 (Or.inr (slot_ne (Or.inr (own_m hw 135 rfl)) (Or.inr (own_m hw 137 rfl)) (by decide) (t := .int) (t' := (.array .int)) (by decide) (by decide)))) (Or.inl (Nat.ne_of_lt (Nat.lt_of_lt_of_le f283.lt szb288)))), (Fld.other W309 Fw305 (Or.inl (Nat.ne_of_lt (Nat.lt_of_lt_of_le f283.lt szb288)))), V309⟩
set_option maxRecDepth 65536 in
set_option maxHeartbeats 40000000 in
theorem rmLI_3_0 (l : Launch) (Z : State) (a0 : Array Value) (hw : own_Wd a0 Z) (ws : List Jvm.Cond) (o a b : Addr) (kb : ClassId) (cs : Int32) (bs : List Value) (fm : Value) (n i x : Int32) (s1 s2 : Int32)  (h0 : Heap) (n0 : Nat) (Z0 : n0 ≤ h0.size) (Sc : Sta Z h0 "java/lang/String" "COMPACT_STRINGS" "Z" (.int cs)) (hcs : ¬ (cs = (0 : Int32))) (Ea : Exa Z h0 a "java/lang/String") (Fv : Fld Z h0 a "java/lang/String" "value" "[B" (.ref b)) (Fc : Fld Z h0 a "java/lang/String" "coder" "B" (.int 0)) (Vb : Arv Z h0 b kb .byte n bs (.int 0)) (Sf : Sta Z h0 "jdk/internal/util/Preconditions" "SIOOBE_FORMATTER" "Ljava/util/function/BiFunction;" fm) (hfm : fm.isRef = true) (Eo : Exa Z h0 o "com/example/amendtrail/amendtrail/write/Lines") (F_m : Fld Z h0 o "java/util/AbstractList" "modCount" "I" (.int 0)) (g_o : n0 ≤ o) (hbo : b ≠ o) (F_text : Fld Z h0 o "com/example/amendtrail/amendtrail/write/Lines" "text" "Ljava/lang/String;" .null) (F_size : Fld Z h0 o "com/example/amendtrail/amendtrail/write/Lines" "size" "I" (.int 0)) (F_starts : Fld Z h0 o "com/example/amendtrail/amendtrail/write/Lines" "starts" "[I" .null) (hC1 : own_C1 l Z a b kb cs n bs (3 : Int32) [(.int 0), (.int s1), (.int s2), (.int 0), (.int 0), (.int 0), (.int 0), (.int 0)]) (hC2 : own_C2 l Z a b kb cs n bs (3 : Int32) [(.int 0), (.int s1), (.int s2), (.int 0), (.int 0), (.int 0), (.int 0), (.int 0)]) (hCA : own_CA l Z a b kb cs n bs fm i x) (hxn : x = (10 : Int32)) (hi : (n - (1 : Int32)) = i) (hnz : ¬ (n = (0 : Int32))) (hn32 : ¬ (65 : Int32) < (n / (32 : Int32))) :
    own_Met l (⟨"com/example/amendtrail/amendtrail/write/Lines", "<init>", "(Ljava/lang/String;)V"⟩ : MethodName) prog_111_method_1_code 5 none ws ({ frames := 4, cells := 2, slots := 195, locals := 62 } : Room) Z #[(.ref o), (.ref a)] h0 (fun v h L => v = none ∧ Fr n0 L ∧ Keep h0 h [o] ∧ ∃ sa ks, Exa Z h o "com/example/amendtrail/amendtrail/write/Lines" ∧ Fld Z h o "com/example/amendtrail/amendtrail/write/Lines" "size" "I" (.int 2) ∧ Fld Z h o "com/example/amendtrail/amendtrail/write/Lines" "starts" "[I" (.ref sa) ∧ Arv Z h sa ks .int (130 : Int32) (List.map Value.int [(0 : Int32), s1, n, (0 : Int32), (0 : Int32), (0 : Int32), (0 : Int32), (0 : Int32)]) (.int 0)) := by
  refine own_body (plainFor_of_name pn_8) ?_
  intro p e s m below meth c s₁ X0 hx hby hml hown hnm hret hlk hZ e0
  replace hown : s.vm.findClass "com/example/amendtrail/amendtrail/write/Lines" = some m.cls := hown
  replace hml : c.maxLocals = 5 := hml
  replace hret : meth.sig.returnType = none := hret
  have N0 := Fr.nil n0
  refine own_ef (L0 := #[.val (.ref o), .val (.ref a), .unset, .unset, .unset]) (by first | (simp [entryFrame, mkF, argsToLocals, Value.category]; done) | rfl) ?_
  refine own_aloadN X0 hx (hb hby d9_0) rfl rfl ?_
  refine own_cSpec (b := o) (W := 0) (rest := []) X0 hx hZ [] rfl hown (own_m hw 45 rfl) (own_m hw 46 rfl) (by decide) (own_m hw 49 rfl) (own_m hw 48 rfl) e0 (rmAL l Z a0 hw [] o h0 n0 Z0 Eo F_m g_o F_text F_size F_starts) (by rw [hml]; rfl) (lenOf pd_13 rfl) rfl (Nat.le_of_eq rfl) (hb hby d9_1) (by decide) (by decide) (by decide) (by decide) fun v310 T310 L310 X310 hQ310 => ?_
  obtain ⟨rfl, N310q, K310, Eo310, Ftext310, Fsize310, Fstarts310⟩ := hQ310
  have N310 := Fr.app N0 N310q
  have f311 := (own_staKeep Sc K310 (allS (own_exaStat Eo) all0))
  have f312 := (Exa.keep Ea K310)
  have f313 := (Fld.keep Fv K310 (ninS (ne_exa f312 Eo310 (by decide)) nin0))
  have f314 := (Fld.keep Fc K310 (ninS (ne_exa f312 Eo310 (by decide)) nin0))
  have f315 := (Arv.keep Vb K310 (ninS hbo nin0))
  have f316 := (own_staKeep Sf K310 (allS (own_exaStat Eo) all0))
  have Zs317 : n0 ≤ T310.heap.size := (Nat.le_trans Z0 K310.1)
  show own_At p e below _ T310 m 4 _ []
  refine own_aloadN X310 hx (hb hby d9_4) rfl rfl ?_
  refine own_aloadN X310 hx (hb hby d9_5) rfl rfl ?_
  refine own_putF X310 hx hZ hown (host := "") (Or.inl (own_m hw 59 rfl)) Via.refl rfl Ftext310 Eo310 (Or.inr ⟨(own_m hw 60 rfl), rfl, hnm⟩) (own_m hw 40 rfl) (ty := (.object "java/lang/String")) (by decide) rfl rfl (hb hby d9_6) fun T318 h318 X318 e318 W318 => ?_
  have Fw318 := Fld.same W318 Ftext310
  have N318 := Fr.snoc X318 N310 g_o
  refine own_bipush X318 hx 65 (hb hby d9_9) rfl ?_
  refine own_aloadN X318 hx (hb hby d9_11) rfl rfl ?_
  refine own_cVirt (W := 1) (rest := [(.int 65)]) X318 hx hZ [] hown (own_m hw 61 rfl) (own_m hw 62 rfl) (notFace_of_selects (args := #[]) (mvT hZ (own_m hw 64 rfl))) (own_m hw 64 rfl) (own_m hw 63 rfl) (by decide) (own_m hw 65 rfl) (own_m hw 9 rfl) e318 (Exa.wr W318 f312) (rmLen l Z a0 hw [] a b cs n h318 n0 (Nat.le_trans Zs317 (Keep.of_wr W318).1) (Sta.wr W318 f311) hcs (Exa.wr W318 f312) (Fld.other W318 f313 (Or.inl (ne_exa f312 Eo310 (by decide)))) (Fld.other W318 f314 (Or.inl (ne_exa f312 Eo310 (by decide)))) (own_alnV (Arv.other f315 W318 hbo))) (by rw [hml]; rfl) (lenOf pd_9 rfl) rfl (Nat.le_of_eq rfl) (hb hby d9_12) (by decide) (by decide) (by decide) (by decide) fun v319 T319 L319 X319 hQ319 => ?_
  obtain ⟨rfl, N319q, e319⟩ := hQ319
  have N319 := Fr.app N318 N319q
  show own_At p e below _ T319 m 15 _ [(.int n), (.int 65)]
  refine own_bipush X319 hx 32 (hb hby d9_15) rfl ?_
  refine own_idiv X319 hx (hb hby d9_17) (by decide) ?_
  refine own_cStat (W := 0) (rest := []) X319 hx hZ [(.int 65), (.int (n / (32 : Int32)))] hown (own_m hw 71 rfl) (own_m hw 72 rfl) (by decide) (own_m hw 74 rfl) (own_m hw 73 rfl) e319 (rmMax l Z a0 hw [] (65 : Int32) (n / (32 : Int32)) h318 n0 (Nat.le_trans Zs317 (Keep.of_wr W318).1) hn32) (by rw [hml]; rfl) (lenOf pd_6 rfl) rfl (Nat.le_of_eq rfl) (hb hby d9_18) (by decide) (by decide) (by decide) (by decide) fun v320 T320 L320 X320 hQ320 => ?_
  obtain ⟨rfl, N320q, e320⟩ := hQ320
  have N320 := Fr.app N319 N320q
  show own_At p e below _ T320 m 21 _ [(.int 65)]
  refine own_newP (n := (65 : Int32)) (cap := 65) (ad := "[I") X320 hx hZ (own_m hw 75 rfl) e320 (hb hby d9_21) (by decide) (by decide) (by decide) (by decide) (by decide) (by decide) fun T321 h321 k321 b321 g321 X321 e321 E321 A321 Ex321 => ?_
  have g_b321 : n0 ≤ b321 := Nat.le_trans (Nat.le_trans Zs317 (Keep.of_wr W318).1) (Nat.le_of_eq g321.symm)
  have szo_b321 : h0.size ≤ b321 := Nat.le_trans (Nat.le_trans (Nat.le_trans (Nat.le_refl h0.size) K310.1) (Keep.of_wr W318).1) (Nat.le_of_eq g321.symm)
  have V321 : Arv Z h321 b321 k321 .int (65 : Int32) [(.int 0), (.int 0), (.int 0), (.int 0), (.int 0), (.int 0), (.int 0), (.int 0)] (.int 0) := (Arv.new A321 (by decide)).pad (pad_rep [] (.int 0) 8)
  refine own_astoreN (l' := #[.val (.ref o), .val (.ref a), .val (.ref b321), .unset, .unset]) X321 hx (hb hby d9_23) rfl rfl ?_
  refine own_iconst X321 hx 1 (hb hby d9_24) rfl ?_
  refine own_istoreN (l' := #[.val (.ref o), .val (.ref a), .val (.ref b321), .val (.int 1), .unset]) X321 hx (hb hby d9_25) rfl ?_
  refine own_iconst X321 hx 0 (hb hby d9_26) rfl ?_
  refine own_istore (l' := #[.val (.ref o), .val (.ref a), .val (.ref b321), .val (.int 1), .val (.int 0)]) X321 hx (hb hby d9_27) rfl ?_
  refine own_iloadN X321 hx (hb hby d9_29) rfl ?_
  refine own_iload X321 hx (hb hby d9_30) rfl ?_
  refine own_icmpNo X321 hx (hb hby d9_32) (tlt (by decide : (0 : Int32) < (1 : Int32))).2.2.2 ?_
  refine own_iloadN X321 hx (hb hby d9_35) rfl ?_
  refine own_bipush X321 hx 64 (hb hby d9_36) rfl ?_
  refine own_iadd X321 hx (hb hby d9_38) ?_
  rw [show ((1 : Int32) + (64 : Int32)) = (65 : Int32) from by decide]
  refine own_aloadN X321 hx (hb hby d9_39) rfl rfl ?_
  refine own_arraylength X321 hx hZ e321 (own_alnV V321) (hb hby d9_40) ?_
  refine own_icmpYes X321 hx 53 (hb hby d9_41) (flt (by decide : ¬ ((65 : Int32) < (65 : Int32)))).2.2.2 (by decide) (by decide) ?_
  refine own_iloadN X321 hx (hb hby d9_53) rfl ?_
  refine own_istore (l' := #[.val (.ref o), .val (.ref a), .val (.ref b321), .val (.int 1), .val (.int 1)]) X321 hx (hb hby d9_54) rfl ?_
  refine own_aloadN X321 hx (hb hby d9_56) rfl rfl ?_
  refine own_aloadN X321 hx (hb hby d9_57) rfl rfl ?_
  refine own_iloadN X321 hx (hb hby d9_58) rfl ?_
  refine own_cStat (W := 0) (rest := []) X321 hx hZ [(.ref a), (.ref b321), (.int 1)] hown (own_m hw 76 rfl) (own_m hw 77 rfl) (by decide) (own_m hw 78 rfl) (own_m hw 41 rfl) e321 (hC1 b321 k321 h321 n0 (Nat.le_trans (Nat.le_trans Zs317 (Keep.of_wr W318).1) E321.1) (Sta.ext E321 (Sta.wr W318 f311)) hcs (Exa.ext E321 (Exa.wr W318 f312)) (Fld.ext E321 (Fld.other W318 f313 (Or.inl (ne_exa f312 Eo310 (by decide))))) (Fld.ext E321 (Fld.other W318 f314 (Or.inl (ne_exa f312 Eo310 (by decide))))) ((Arv.other f315 W318 hbo).ext E321) V321 g_b321 Ex321 (Nat.ne_of_lt (Nat.lt_of_lt_of_le (Arv.other f315 W318 hbo).lt (Nat.le_of_eq g321.symm)))) (by rw [hml]; rfl) (lenOf pd_14 rfl) rfl (Nat.le_of_eq rfl) (hb hby d9_59) (by decide) (by decide) (by decide) (by decide) fun v322 T322 L322 X322 hQ322 => ?_
  obtain ⟨rfl, N322q, K322, Vs322⟩ := hQ322
  have N322 := Fr.app N320 N322q
  have f323 := (own_staKeep (Sta.ext E321 (Sta.wr W318 f311)) K322 (allS (own_exaStat Ex321) all0))
  have f324 := (Exa.keep (Exa.ext E321 (Exa.wr W318 f312)) K322)
  have f325 := (Fld.keep (Fld.ext E321 (Fld.other W318 f313 (Or.inl (ne_exa f324 (Exa.keep (Exa.ext E321 (Exa.wr W318 Eo310)) K322) (by decide))))) K322 (ninS (Nat.ne_of_lt (Nat.lt_of_lt_of_le (Exa.wr W318 f312).lt (Nat.le_of_eq g321.symm))) nin0))
  have f326 := (Fld.keep (Fld.ext E321 (Fld.other W318 f314 (Or.inl (ne_exa f324 (Exa.keep (Exa.ext E321 (Exa.wr W318 Eo310)) K322) (by decide))))) K322 (ninS (Nat.ne_of_lt (Nat.lt_of_lt_of_le (Exa.wr W318 f312).lt (Nat.le_of_eq g321.symm))) nin0))
  have f327 := (Arv.keep ((Arv.other f315 W318 hbo).ext E321) K322 (ninS (Nat.ne_of_lt (Nat.lt_of_lt_of_le (Arv.other f315 W318 hbo).lt (Nat.le_of_eq g321.symm))) nin0))
  have f328 := (own_staKeep (Sta.ext E321 (Sta.wr W318 f316)) K322 (allS (own_exaStat Ex321) all0))
  have f329 := (Exa.keep (Exa.ext E321 (Exa.wr W318 Eo310)) K322)
  have f330 := (Fld.keep (Fld.ext E321 Fw318) K322 (ninS (Nat.ne_of_lt (Nat.lt_of_lt_of_le Fw318.lt (Nat.le_of_eq g321.symm))) nin0))
  have f331 := (Fld.keep (Fld.ext E321 (Fld.other W318 Fsize310 (Or.inr (slot_ne (Or.inr (own_m hw 135 rfl)) (Or.inr (own_m hw 60 rfl)) (by decide) (t := .int) (t' := (.object "java/lang/String")) (by decide) (by decide))))) K322 (ninS (Nat.ne_of_lt (Nat.lt_of_lt_of_le Fw318.lt (Nat.le_of_eq g321.symm))) nin0))
  have f332 := (Fld.keep (Fld.ext E321 (Fld.other W318 Fstarts310 (Or.inr (slot_ne (Or.inr (own_m hw 137 rfl)) (Or.inr (own_m hw 60 rfl)) (by decide) (t := (.array .int)) (t' := (.object "java/lang/String")) (by decide) (by decide))))) K322 (ninS (Nat.ne_of_lt (Nat.lt_of_lt_of_le Fw318.lt (Nat.le_of_eq g321.symm))) nin0))
  have Zs333 : n0 ≤ T322.heap.size := (Nat.le_trans (Nat.le_trans (Nat.le_trans Zs317 (Keep.of_wr W318).1) E321.1) K322.1)
  show own_At p e below _ T322 m 62 _ [(.int 3)]
  refine own_istoreN (l' := #[.val (.ref o), .val (.ref a), .val (.ref b321), .val (.int 3), .val (.int 1)]) X322 hx (hb hby d9_62) rfl ?_
  refine own_goto X322 hx 29 (hb hby d9_63) (by decide) (by decide) ?_
  refine own_iloadN X322 hx (hb hby d9_29) rfl ?_
  refine own_iload X322 hx (hb hby d9_30) rfl ?_
  refine own_icmpNo X322 hx (hb hby d9_32) (tlt (by decide : (1 : Int32) < (3 : Int32))).2.2.2 ?_
  refine own_iloadN X322 hx (hb hby d9_35) rfl ?_
  refine own_bipush X322 hx 64 (hb hby d9_36) rfl ?_
  refine own_iadd X322 hx (hb hby d9_38) ?_
  rw [show ((3 : Int32) + (64 : Int32)) = (67 : Int32) from by decide]
  refine own_aloadN X322 hx (hb hby d9_39) rfl rfl ?_
  refine own_arraylength X322 hx hZ rfl (own_alnV Vs322) (hb hby d9_40) ?_
  refine own_icmpNo X322 hx (hb hby d9_41) (tlt (by decide : (65 : Int32) < (67 : Int32))).2.2.2 ?_
  refine own_aloadN X322 hx (hb hby d9_44) rfl rfl ?_
  refine own_aloadN X322 hx (hb hby d9_45) rfl rfl ?_
  refine own_arraylength X322 hx hZ rfl (own_alnV Vs322) (hb hby d9_46) ?_
  refine own_iconst X322 hx 2 (hb hby d9_47) rfl ?_
  refine own_imul X322 hx (hb hby d9_48) ?_
  rw [show ((65 : Int32) * (2 : Int32)) = (130 : Int32) from by decide]
  refine own_cStat (W := 0) (rest := []) X322 hx hZ [(.ref b321), (.int 130)] hown (own_m hw 104 rfl) (own_m hw 105 rfl) (by decide) (own_m hw 107 rfl) (own_m hw 106 rfl) rfl (rmCopy l Z a0 hw [] b321 k321 (0 : Int32) s1 s2 (0 : Int32) (0 : Int32) (0 : Int32) (0 : Int32) (0 : Int32) T322.heap n0 Zs333 Vs322) (by rw [hml]; rfl) (lenOf pd_16 rfl) rfl (Nat.le_of_eq rfl) (hb hby d9_49) (by decide) (by decide) (by decide) (by decide) fun v334 T334 L334 X334 hQ334 => ?_
  obtain ⟨b334, kb334, rfl, N334q, K334, szb334, gb334, Eb334, Vb334⟩ := hQ334
  have N334 := Fr.app N322 N334q
  have g_b334 := gb334
  have szo_b334 : h0.size ≤ b334 := Nat.le_trans (Nat.le_trans (Nat.le_trans (Nat.le_trans (Nat.le_trans (Nat.le_refl h0.size) K310.1) (Keep.of_wr W318).1) E321.1) K322.1) szb334
  have f335 := (own_staKeep f323 K334 all0)
  have f336 := (Exa.keep f324 K334)
  have f337 := (Fld.keep f325 K334 nin0)
  have f338 := (Fld.keep f326 K334 nin0)
  have f339 := (Arv.keep f327 K334 nin0)
  have f340 := (own_staKeep f328 K334 all0)
  have f341 := (Exa.keep f329 K334)
  have f342 := (Fld.keep f330 K334 nin0)
  have f343 := (Fld.keep f331 K334 nin0)
  have f344 := (Fld.keep f332 K334 nin0)
  have Zs345 : n0 ≤ T334.heap.size := (Nat.le_trans Zs333 K334.1)
  show own_At p e below _ T334 m 52 _ [(.ref b334)]
  refine own_astoreN (l' := #[.val (.ref o), .val (.ref a), .val (.ref b334), .val (.int 3), .val (.int 1)]) X334 hx (hb hby d9_52) rfl rfl ?_
  refine own_iloadN X334 hx (hb hby d9_53) rfl ?_
  refine own_istore (l' := #[.val (.ref o), .val (.ref a), .val (.ref b334), .val (.int 3), .val (.int 3)]) X334 hx (hb hby d9_54) rfl ?_
  refine own_aloadN X334 hx (hb hby d9_56) rfl rfl ?_
  refine own_aloadN X334 hx (hb hby d9_57) rfl rfl ?_
  refine own_iloadN X334 hx (hb hby d9_58) rfl ?_
  refine own_cStat (W := 0) (rest := []) X334 hx hZ [(.ref a), (.ref b334), (.int 3)] hown (own_m hw 76 rfl) (own_m hw 77 rfl) (by decide) (own_m hw 78 rfl) (own_m hw 41 rfl) rfl (hC2 b334 kb334 T334.heap n0 Zs345 f335 hcs f336 f337 f338 f339 Vb334) (by rw [hml]; rfl) (lenOf pd_14 rfl) rfl (Nat.le_of_eq rfl) (hb hby d9_59) (by decide) (by decide) (by decide) (by decide) fun v346 T346 L346 X346 hQ346 => ?_
  obtain ⟨rfl, N346q, e346⟩ := hQ346
  have N346 := Fr.app N334 N346q
  show own_At p e below _ T346 m 62 _ [(.int 3)]
  refine own_istoreN (l' := #[.val (.ref o), .val (.ref a), .val (.ref b334), .val (.int 3), .val (.int 3)]) X346 hx (hb hby d9_62) rfl ?_
  refine own_goto X346 hx 29 (hb hby d9_63) (by decide) (by decide) ?_
  refine own_iloadN X346 hx (hb hby d9_29) rfl ?_
  refine own_iload X346 hx (hb hby d9_30) rfl ?_
  refine own_icmpYes X346 hx 66 (hb hby d9_32) (flt (by decide : ¬ ((3 : Int32) < (3 : Int32)))).2.2.2 (by decide) (by decide) ?_
  refine own_aloadN X346 hx (hb hby d9_66) rfl rfl ?_
  refine own_cVirt (W := 0) (rest := []) X346 hx hZ [] hown (own_m hw 113 rfl) (own_m hw 114 rfl) (notFace_of_selects (args := #[]) (mvT hZ (own_m hw 116 rfl))) (own_m hw 116 rfl) (own_m hw 115 rfl) (by decide) (own_m hw 117 rfl) (own_m hw 9 rfl) e346 f336 (rmEm l Z a0 hw [] a b n T334.heap n0 Zs345 f337 (own_alnV f339) hnz) (by rw [hml]; rfl) (lenOf pd_8 rfl) rfl (Nat.le_of_eq rfl) (hb hby d9_67) (by decide) (by decide) (by decide) (by decide) fun v347 T347 L347 X347 hQ347 => ?_
  obtain ⟨rfl, N347q, e347⟩ := hQ347
  have N347 := Fr.app N346 N347q
  show own_At p e below _ T347 m 70 _ [(.int 0)]
  refine own_ifNo X347 hx (hb hby d9_70) (teq (by decide : (0 : Int32) = (0 : Int32))).2 ?_
  refine own_aloadN X347 hx (hb hby d9_73) rfl rfl ?_
  refine own_aloadN X347 hx (hb hby d9_74) rfl rfl ?_
  refine own_cVirt (W := 1) (rest := [(.ref a)]) X347 hx hZ [] hown (own_m hw 61 rfl) (own_m hw 62 rfl) (notFace_of_selects (args := #[]) (mvT hZ (own_m hw 64 rfl))) (own_m hw 64 rfl) (own_m hw 63 rfl) (by decide) (own_m hw 65 rfl) (own_m hw 9 rfl) e347 f336 (rmLen l Z a0 hw [] a b cs n T334.heap n0 Zs345 f335 hcs f336 f337 f338 (own_alnV f339)) (by rw [hml]; rfl) (lenOf pd_9 rfl) rfl (Nat.le_of_eq rfl) (hb hby d9_75) (by decide) (by decide) (by decide) (by decide) fun v348 T348 L348 X348 hQ348 => ?_
  obtain ⟨rfl, N348q, e348⟩ := hQ348
  have N348 := Fr.app N347 N348q
  show own_At p e below _ T348 m 78 _ [(.int n), (.ref a)]
  refine own_iconst X348 hx 1 (hb hby d9_78) rfl ?_
  refine own_isub X348 hx (hb hby d9_79) ?_
  rw [hi]
  refine own_cVirt (W := 0) (rest := []) X348 hx hZ [(.int i)] hown (own_m hw 118 rfl) (own_m hw 119 rfl) (notFace_of_selects (args := #[]) (mvT hZ (own_m hw 121 rfl))) (own_m hw 121 rfl) (own_m hw 120 rfl) (by decide) (own_m hw 122 rfl) (own_m hw 9 rfl) e348 f336 (hCA T334.heap n0 Zs345 f335 hcs f336 f337 f338 f339 f340 hfm) (by rw [hml]; rfl) (lenOf pd_15 rfl) rfl (Nat.le_of_eq rfl) (hb hby d9_80) (by decide) (by decide) (by decide) (by decide) fun v349 T349 L349 X349 hQ349 => ?_
  obtain ⟨rfl, N349q, e349⟩ := hQ349
  have N349 := Fr.app N348 N349q
  show own_At p e below _ T349 m 83 _ [(.int x)]
  refine own_bipush X349 hx 10 (hb hby d9_83) rfl ?_
  refine own_icmpYes X349 hx 92 (hb hby d9_85) (teq hxn).1 (by decide) (by decide) ?_
  refine own_iconst X349 hx 0 (hb hby d9_92) rfl ?_
  refine own_istore (l' := #[.val (.ref o), .val (.ref a), .val (.ref b334), .val (.int 3), .val (.int 0)]) X349 hx (hb hby d9_93) rfl ?_
  refine own_aloadN X349 hx (hb hby d9_95) rfl rfl ?_
  refine own_iload X349 hx (hb hby d9_96) rfl ?_
  refine own_ifYes X349 hx 105 (hb hby d9_98) (teq (by decide : (0 : Int32) = (0 : Int32))).1 (by decide) (by decide) ?_
  refine own_iloadN X349 hx (hb hby d9_105) rfl ?_
  refine own_iconst X349 hx 1 (hb hby d9_106) rfl ?_
  refine own_isub X349 hx (hb hby d9_107) ?_
  rw [show ((3 : Int32) - (1 : Int32)) = (2 : Int32) from by decide]
  refine own_putF X349 hx hZ hown (host := "") (Or.inl (own_m hw 134 rfl)) Via.refl e349 f343 f341 (Or.inr ⟨(own_m hw 135 rfl), rfl, hnm⟩) (own_m hw 40 rfl) (ty := .int) (by decide) rfl rfl (hb hby d9_108) fun T350 h350 X350 e350 W350 => ?_
  have Fw350 := Fld.same W350 f343
  have N350 := Fr.snoc X350 N349 g_o
  refine own_aloadN X350 hx (hb hby d9_111) rfl rfl ?_
  refine own_aloadN X350 hx (hb hby d9_112) rfl rfl ?_
  refine own_putF X350 hx hZ hown (host := "") (Or.inl (own_m hw 136 rfl)) Via.refl e350 (Fld.other W350 f344 (Or.inr (slot_ne (Or.inr (own_m hw 137 rfl)) (Or.inr (own_m hw 135 rfl)) (by decide) (t := (.array .int)) (t' := .int) (by decide) (by decide)))) (Exa.wr W350 f341) (Or.inr ⟨(own_m hw 137 rfl), rfl, hnm⟩) (own_m hw 40 rfl) (ty := (.array .int)) (by decide) rfl rfl (hb hby d9_113) fun T351 h351 X351 e351 W351 => ?_
  have Fw351 := Fld.same W351 (Fld.other W350 f344 (Or.inr (slot_ne (Or.inr (own_m hw 137 rfl)) (Or.inr (own_m hw 135 rfl)) (by decide) (t := (.array .int)) (t' := .int) (by decide) (by decide))))
  have N351 := Fr.snoc X351 N350 g_o
  refine own_aloadN X351 hx (hb hby d9_116) rfl rfl ?_
  refine own_getF X351 hx hZ hown (host := "") (Or.inl (own_m hw 136 rfl)) Via.refl e351 Fw351 (hb hby d9_117) fun T352 X352 e352 => ?_
  refine own_aloadN X352 hx (hb hby d9_120) rfl rfl ?_
  refine own_getF X352 hx hZ hown (host := "") (Or.inl (own_m hw 134 rfl)) Via.refl e352 (Fld.other W351 Fw350 (Or.inr (slot_ne (Or.inr (own_m hw 135 rfl)) (Or.inr (own_m hw 137 rfl)) (by decide) (t := .int) (t' := (.array .int)) (by decide) (by decide)))) (hb hby d9_121) fun T353 X353 e353 => ?_
  refine own_aloadN X353 hx (hb hby d9_124) rfl rfl ?_
  refine own_cVirt (W := 2) (rest := [(.int 2), (.ref b334)]) X353 hx hZ [] hown (own_m hw 61 rfl) (own_m hw 62 rfl) (notFace_of_selects (args := #[]) (mvT hZ (own_m hw 64 rfl))) (own_m hw 64 rfl) (own_m hw 63 rfl) (by decide) (own_m hw 65 rfl) (own_m hw 9 rfl) e353 (Exa.wr W351 (Exa.wr W350 f336)) (rmLen l Z a0 hw [] a b cs n h351 n0 (Nat.le_trans (Nat.le_trans Zs345 (Keep.of_wr W350).1) (Keep.of_wr W351).1) (Sta.wr W351 (Sta.wr W350 f335)) hcs (Exa.wr W351 (Exa.wr W350 f336)) (Fld.other W351 (Fld.other W350 f337 (Or.inl (ne_exa f336 f341 (by decide)))) (Or.inl (ne_exa f336 f341 (by decide)))) (Fld.other W351 (Fld.other W350 f338 (Or.inl (ne_exa f336 f341 (by decide)))) (Or.inl (ne_exa f336 f341 (by decide)))) (own_alnV (Arv.other (Arv.other f339 W350 hbo) W351 hbo))) (by rw [hml]; rfl) (lenOf pd_9 rfl) rfl (Nat.le_of_eq rfl) (hb hby d9_125) (by decide) (by decide) (by decide) (by decide) fun v354 T354 L354 X354 hQ354 => ?_
  obtain ⟨rfl, N354q, e354⟩ := hQ354
  have N354 := Fr.app N351 N354q
  show own_At p e below _ T354 m 128 _ [(.int n), (.int 2), (.ref b334)]
  refine own_stI (vs' := [(.int 0), (.int s1), (.int n), (.int 0), (.int 0), (.int 0), (.int 0), (.int 0)]) (w := (.int n)) X354 hx hZ e354 (Arv.other (Arv.other Vb334 W350 (Ne.symm (Nat.ne_of_lt (Nat.lt_of_lt_of_le f329.lt szb334)))) W351 (Ne.symm (Nat.ne_of_lt (Nat.lt_of_lt_of_le f329.lt szb334)))) ⟨by decide, by decide⟩ 2 rfl (Nat.le_of_ble_eq_true rfl) rfl rfl (hb hby d9_128) fun T355 h355 X355 e355 W355 V355 => ?_
  have N355 := Fr.snoc X355 N354 g_b334
  refine own_retV X355 hx hlk hret (hb hby d9_129) (own_kN (by decide) (by decide) ?_)
  try rw [e355]
  exact ⟨rfl, N355, (Keep.wr (Keep.wr (Keep.wr (Keep.trans (Keep.trans (Keep.ext (Keep.wr (Keep.trans (Keep.refl h0 [o]) K310 (allS (Or.inl (List.mem_of_getElem? (i := 0) rfl)) all0)) W318 (Or.inl (List.mem_of_getElem? (i := 0) rfl))) E321) K322 (allS (Or.inr szo_b321) all0)) K334 all0) W350 (Or.inl (List.mem_of_getElem? (i := 0) rfl))) W351 (Or.inl (List.mem_of_getElem? (i := 0) rfl))) W355 (Or.inr szo_b334)), b334, kb334, (Exa.wr W355 (Exa.wr W351 (Exa.wr W350 f341))), (Fld.other W355 (Fld.other W351 Fw350 (Or.inr (slot_ne (Or.inr (own_m hw 135 rfl)) (Or.inr (own_m hw 137 rfl)) (by decide) (t := .int) (t' := (.array .int)) (by decide) (by decide)))) (Or.inl (Nat.ne_of_lt (Nat.lt_of_lt_of_le f329.lt szb334)))), (Fld.other W355 Fw351 (Or.inl (Nat.ne_of_lt (Nat.lt_of_lt_of_le f329.lt szb334)))), V355⟩
set_option maxRecDepth 65536 in
set_option maxHeartbeats 40000000 in
theorem rmLI_3_1 (l : Launch) (Z : State) (a0 : Array Value) (hw : own_Wd a0 Z) (ws : List Jvm.Cond) (o a b : Addr) (kb : ClassId) (cs : Int32) (bs : List Value) (fm : Value) (n i x : Int32) (s1 s2 : Int32)  (h0 : Heap) (n0 : Nat) (Z0 : n0 ≤ h0.size) (Sc : Sta Z h0 "java/lang/String" "COMPACT_STRINGS" "Z" (.int cs)) (hcs : ¬ (cs = (0 : Int32))) (Ea : Exa Z h0 a "java/lang/String") (Fv : Fld Z h0 a "java/lang/String" "value" "[B" (.ref b)) (Fc : Fld Z h0 a "java/lang/String" "coder" "B" (.int 0)) (Vb : Arv Z h0 b kb .byte n bs (.int 0)) (Sf : Sta Z h0 "jdk/internal/util/Preconditions" "SIOOBE_FORMATTER" "Ljava/util/function/BiFunction;" fm) (hfm : fm.isRef = true) (Eo : Exa Z h0 o "com/example/amendtrail/amendtrail/write/Lines") (F_m : Fld Z h0 o "java/util/AbstractList" "modCount" "I" (.int 0)) (g_o : n0 ≤ o) (hbo : b ≠ o) (F_text : Fld Z h0 o "com/example/amendtrail/amendtrail/write/Lines" "text" "Ljava/lang/String;" .null) (F_size : Fld Z h0 o "com/example/amendtrail/amendtrail/write/Lines" "size" "I" (.int 0)) (F_starts : Fld Z h0 o "com/example/amendtrail/amendtrail/write/Lines" "starts" "[I" .null) (hC1 : own_C1 l Z a b kb cs n bs (3 : Int32) [(.int 0), (.int s1), (.int s2), (.int 0), (.int 0), (.int 0), (.int 0), (.int 0)]) (hC2 : own_C2 l Z a b kb cs n bs (3 : Int32) [(.int 0), (.int s1), (.int s2), (.int 0), (.int 0), (.int 0), (.int 0), (.int 0)]) (hCA : own_CA l Z a b kb cs n bs fm i x) (hxn : ¬ (x = (10 : Int32))) (hi : (n - (1 : Int32)) = i) (hnz : ¬ (n = (0 : Int32))) (hn32 : ¬ (65 : Int32) < (n / (32 : Int32))) :
    own_Met l (⟨"com/example/amendtrail/amendtrail/write/Lines", "<init>", "(Ljava/lang/String;)V"⟩ : MethodName) prog_111_method_1_code 5 none ws ({ frames := 4, cells := 2, slots := 195, locals := 62 } : Room) Z #[(.ref o), (.ref a)] h0 (fun v h L => v = none ∧ Fr n0 L ∧ Keep h0 h [o] ∧ ∃ sa ks, Exa Z h o "com/example/amendtrail/amendtrail/write/Lines" ∧ Fld Z h o "com/example/amendtrail/amendtrail/write/Lines" "size" "I" (.int 3) ∧ Fld Z h o "com/example/amendtrail/amendtrail/write/Lines" "starts" "[I" (.ref sa) ∧ Arv Z h sa ks .int (130 : Int32) (List.map Value.int [(0 : Int32), s1, s2, n, (0 : Int32), (0 : Int32), (0 : Int32), (0 : Int32)]) (.int 0)) := by
  refine own_body (plainFor_of_name pn_8) ?_
  intro p e s m below meth c s₁ X0 hx hby hml hown hnm hret hlk hZ e0
  replace hown : s.vm.findClass "com/example/amendtrail/amendtrail/write/Lines" = some m.cls := hown
  replace hml : c.maxLocals = 5 := hml
  replace hret : meth.sig.returnType = none := hret
  have N0 := Fr.nil n0
  refine own_ef (L0 := #[.val (.ref o), .val (.ref a), .unset, .unset, .unset]) (by first | (simp [entryFrame, mkF, argsToLocals, Value.category]; done) | rfl) ?_
  refine own_aloadN X0 hx (hb hby d9_0) rfl rfl ?_
  refine own_cSpec (b := o) (W := 0) (rest := []) X0 hx hZ [] rfl hown (own_m hw 45 rfl) (own_m hw 46 rfl) (by decide) (own_m hw 49 rfl) (own_m hw 48 rfl) e0 (rmAL l Z a0 hw [] o h0 n0 Z0 Eo F_m g_o F_text F_size F_starts) (by rw [hml]; rfl) (lenOf pd_13 rfl) rfl (Nat.le_of_eq rfl) (hb hby d9_1) (by decide) (by decide) (by decide) (by decide) fun v356 T356 L356 X356 hQ356 => ?_
  obtain ⟨rfl, N356q, K356, Eo356, Ftext356, Fsize356, Fstarts356⟩ := hQ356
  have N356 := Fr.app N0 N356q
  have f357 := (own_staKeep Sc K356 (allS (own_exaStat Eo) all0))
  have f358 := (Exa.keep Ea K356)
  have f359 := (Fld.keep Fv K356 (ninS (ne_exa f358 Eo356 (by decide)) nin0))
  have f360 := (Fld.keep Fc K356 (ninS (ne_exa f358 Eo356 (by decide)) nin0))
  have f361 := (Arv.keep Vb K356 (ninS hbo nin0))
  have f362 := (own_staKeep Sf K356 (allS (own_exaStat Eo) all0))
  have Zs363 : n0 ≤ T356.heap.size := (Nat.le_trans Z0 K356.1)
  show own_At p e below _ T356 m 4 _ []
  refine own_aloadN X356 hx (hb hby d9_4) rfl rfl ?_
  refine own_aloadN X356 hx (hb hby d9_5) rfl rfl ?_
  refine own_putF X356 hx hZ hown (host := "") (Or.inl (own_m hw 59 rfl)) Via.refl rfl Ftext356 Eo356 (Or.inr ⟨(own_m hw 60 rfl), rfl, hnm⟩) (own_m hw 40 rfl) (ty := (.object "java/lang/String")) (by decide) rfl rfl (hb hby d9_6) fun T364 h364 X364 e364 W364 => ?_
  have Fw364 := Fld.same W364 Ftext356
  have N364 := Fr.snoc X364 N356 g_o
  refine own_bipush X364 hx 65 (hb hby d9_9) rfl ?_
  refine own_aloadN X364 hx (hb hby d9_11) rfl rfl ?_
  refine own_cVirt (W := 1) (rest := [(.int 65)]) X364 hx hZ [] hown (own_m hw 61 rfl) (own_m hw 62 rfl) (notFace_of_selects (args := #[]) (mvT hZ (own_m hw 64 rfl))) (own_m hw 64 rfl) (own_m hw 63 rfl) (by decide) (own_m hw 65 rfl) (own_m hw 9 rfl) e364 (Exa.wr W364 f358) (rmLen l Z a0 hw [] a b cs n h364 n0 (Nat.le_trans Zs363 (Keep.of_wr W364).1) (Sta.wr W364 f357) hcs (Exa.wr W364 f358) (Fld.other W364 f359 (Or.inl (ne_exa f358 Eo356 (by decide)))) (Fld.other W364 f360 (Or.inl (ne_exa f358 Eo356 (by decide)))) (own_alnV (Arv.other f361 W364 hbo))) (by rw [hml]; rfl) (lenOf pd_9 rfl) rfl (Nat.le_of_eq rfl) (hb hby d9_12) (by decide) (by decide) (by decide) (by decide) fun v365 T365 L365 X365 hQ365 => ?_
  obtain ⟨rfl, N365q, e365⟩ := hQ365
  have N365 := Fr.app N364 N365q
  show own_At p e below _ T365 m 15 _ [(.int n), (.int 65)]
  refine own_bipush X365 hx 32 (hb hby d9_15) rfl ?_
  refine own_idiv X365 hx (hb hby d9_17) (by decide) ?_
  refine own_cStat (W := 0) (rest := []) X365 hx hZ [(.int 65), (.int (n / (32 : Int32)))] hown (own_m hw 71 rfl) (own_m hw 72 rfl) (by decide) (own_m hw 74 rfl) (own_m hw 73 rfl) e365 (rmMax l Z a0 hw [] (65 : Int32) (n / (32 : Int32)) h364 n0 (Nat.le_trans Zs363 (Keep.of_wr W364).1) hn32) (by rw [hml]; rfl) (lenOf pd_6 rfl) rfl (Nat.le_of_eq rfl) (hb hby d9_18) (by decide) (by decide) (by decide) (by decide) fun v366 T366 L366 X366 hQ366 => ?_
  obtain ⟨rfl, N366q, e366⟩ := hQ366
  have N366 := Fr.app N365 N366q
  show own_At p e below _ T366 m 21 _ [(.int 65)]
  refine own_newP (n := (65 : Int32)) (cap := 65) (ad := "[I") X366 hx hZ (own_m hw 75 rfl) e366 (hb hby d9_21) (by decide) (by decide) (by decide) (by decide) (by decide) (by decide) fun T367 h367 k367 b367 g367 X367 e367 E367 A367 Ex367 => ?_
  have g_b367 : n0 ≤ b367 := Nat.le_trans (Nat.le_trans Zs363 (Keep.of_wr W364).1) (Nat.le_of_eq g367.symm)
  have szo_b367 : h0.size ≤ b367 := Nat.le_trans (Nat.le_trans (Nat.le_trans (Nat.le_refl h0.size) K356.1) (Keep.of_wr W364).1) (Nat.le_of_eq g367.symm)
  have V367 : Arv Z h367 b367 k367 .int (65 : Int32) [(.int 0), (.int 0), (.int 0), (.int 0), (.int 0), (.int 0), (.int 0), (.int 0)] (.int 0) := (Arv.new A367 (by decide)).pad (pad_rep [] (.int 0) 8)
  refine own_astoreN (l' := #[.val (.ref o), .val (.ref a), .val (.ref b367), .unset, .unset]) X367 hx (hb hby d9_23) rfl rfl ?_
  refine own_iconst X367 hx 1 (hb hby d9_24) rfl ?_
  refine own_istoreN (l' := #[.val (.ref o), .val (.ref a), .val (.ref b367), .val (.int 1), .unset]) X367 hx (hb hby d9_25) rfl ?_
  refine own_iconst X367 hx 0 (hb hby d9_26) rfl ?_
  refine own_istore (l' := #[.val (.ref o), .val (.ref a), .val (.ref b367), .val (.int 1), .val (.int 0)]) X367 hx (hb hby d9_27) rfl ?_
  refine own_iloadN X367 hx (hb hby d9_29) rfl ?_
  refine own_iload X367 hx (hb hby d9_30) rfl ?_
  refine own_icmpNo X367 hx (hb hby d9_32) (tlt (by decide : (0 : Int32) < (1 : Int32))).2.2.2 ?_
  refine own_iloadN X367 hx (hb hby d9_35) rfl ?_
  refine own_bipush X367 hx 64 (hb hby d9_36) rfl ?_
  refine own_iadd X367 hx (hb hby d9_38) ?_
  rw [show ((1 : Int32) + (64 : Int32)) = (65 : Int32) from by decide]
  refine own_aloadN X367 hx (hb hby d9_39) rfl rfl ?_
  refine own_arraylength X367 hx hZ e367 (own_alnV V367) (hb hby d9_40) ?_
  refine own_icmpYes X367 hx 53 (hb hby d9_41) (flt (by decide : ¬ ((65 : Int32) < (65 : Int32)))).2.2.2 (by decide) (by decide) ?_
  refine own_iloadN X367 hx (hb hby d9_53) rfl ?_
  refine own_istore (l' := #[.val (.ref o), .val (.ref a), .val (.ref b367), .val (.int 1), .val (.int 1)]) X367 hx (hb hby d9_54) rfl ?_
  refine own_aloadN X367 hx (hb hby d9_56) rfl rfl ?_
  refine own_aloadN X367 hx (hb hby d9_57) rfl rfl ?_
  refine own_iloadN X367 hx (hb hby d9_58) rfl ?_
  refine own_cStat (W := 0) (rest := []) X367 hx hZ [(.ref a), (.ref b367), (.int 1)] hown (own_m hw 76 rfl) (own_m hw 77 rfl) (by decide) (own_m hw 78 rfl) (own_m hw 41 rfl) e367 (hC1 b367 k367 h367 n0 (Nat.le_trans (Nat.le_trans Zs363 (Keep.of_wr W364).1) E367.1) (Sta.ext E367 (Sta.wr W364 f357)) hcs (Exa.ext E367 (Exa.wr W364 f358)) (Fld.ext E367 (Fld.other W364 f359 (Or.inl (ne_exa f358 Eo356 (by decide))))) (Fld.ext E367 (Fld.other W364 f360 (Or.inl (ne_exa f358 Eo356 (by decide))))) ((Arv.other f361 W364 hbo).ext E367) V367 g_b367 Ex367 (Nat.ne_of_lt (Nat.lt_of_lt_of_le (Arv.other f361 W364 hbo).lt (Nat.le_of_eq g367.symm)))) (by rw [hml]; rfl) (lenOf pd_14 rfl) rfl (Nat.le_of_eq rfl) (hb hby d9_59) (by decide) (by decide) (by decide) (by decide) fun v368 T368 L368 X368 hQ368 => ?_
  obtain ⟨rfl, N368q, K368, Vs368⟩ := hQ368
  have N368 := Fr.app N366 N368q
  have f369 := (own_staKeep (Sta.ext E367 (Sta.wr W364 f357)) K368 (allS (own_exaStat Ex367) all0))
  have f370 := (Exa.keep (Exa.ext E367 (Exa.wr W364 f358)) K368)
  have f371 := (Fld.keep (Fld.ext E367 (Fld.other W364 f359 (Or.inl (ne_exa f370 (Exa.keep (Exa.ext E367 (Exa.wr W364 Eo356)) K368) (by decide))))) K368 (ninS (Nat.ne_of_lt (Nat.lt_of_lt_of_le (Exa.wr W364 f358).lt (Nat.le_of_eq g367.symm))) nin0))
  have f372 := (Fld.keep (Fld.ext E367 (Fld.other W364 f360 (Or.inl (ne_exa f370 (Exa.keep (Exa.ext E367 (Exa.wr W364 Eo356)) K368) (by decide))))) K368 (ninS (Nat.ne_of_lt (Nat.lt_of_lt_of_le (Exa.wr W364 f358).lt (Nat.le_of_eq g367.symm))) nin0))
  have f373 := (Arv.keep ((Arv.other f361 W364 hbo).ext E367) K368 (ninS (Nat.ne_of_lt (Nat.lt_of_lt_of_le (Arv.other f361 W364 hbo).lt (Nat.le_of_eq g367.symm))) nin0))
  have f374 := (own_staKeep (Sta.ext E367 (Sta.wr W364 f362)) K368 (allS (own_exaStat Ex367) all0))
  have f375 := (Exa.keep (Exa.ext E367 (Exa.wr W364 Eo356)) K368)
  have f376 := (Fld.keep (Fld.ext E367 Fw364) K368 (ninS (Nat.ne_of_lt (Nat.lt_of_lt_of_le Fw364.lt (Nat.le_of_eq g367.symm))) nin0))
  have f377 := (Fld.keep (Fld.ext E367 (Fld.other W364 Fsize356 (Or.inr (slot_ne (Or.inr (own_m hw 135 rfl)) (Or.inr (own_m hw 60 rfl)) (by decide) (t := .int) (t' := (.object "java/lang/String")) (by decide) (by decide))))) K368 (ninS (Nat.ne_of_lt (Nat.lt_of_lt_of_le Fw364.lt (Nat.le_of_eq g367.symm))) nin0))
  have f378 := (Fld.keep (Fld.ext E367 (Fld.other W364 Fstarts356 (Or.inr (slot_ne (Or.inr (own_m hw 137 rfl)) (Or.inr (own_m hw 60 rfl)) (by decide) (t := (.array .int)) (t' := (.object "java/lang/String")) (by decide) (by decide))))) K368 (ninS (Nat.ne_of_lt (Nat.lt_of_lt_of_le Fw364.lt (Nat.le_of_eq g367.symm))) nin0))
  have Zs379 : n0 ≤ T368.heap.size := (Nat.le_trans (Nat.le_trans (Nat.le_trans Zs363 (Keep.of_wr W364).1) E367.1) K368.1)
  show own_At p e below _ T368 m 62 _ [(.int 3)]
  refine own_istoreN (l' := #[.val (.ref o), .val (.ref a), .val (.ref b367), .val (.int 3), .val (.int 1)]) X368 hx (hb hby d9_62) rfl ?_
  refine own_goto X368 hx 29 (hb hby d9_63) (by decide) (by decide) ?_
  refine own_iloadN X368 hx (hb hby d9_29) rfl ?_
  refine own_iload X368 hx (hb hby d9_30) rfl ?_
  refine own_icmpNo X368 hx (hb hby d9_32) (tlt (by decide : (1 : Int32) < (3 : Int32))).2.2.2 ?_
  refine own_iloadN X368 hx (hb hby d9_35) rfl ?_
  refine own_bipush X368 hx 64 (hb hby d9_36) rfl ?_
  refine own_iadd X368 hx (hb hby d9_38) ?_
  rw [show ((3 : Int32) + (64 : Int32)) = (67 : Int32) from by decide]
  refine own_aloadN X368 hx (hb hby d9_39) rfl rfl ?_
  refine own_arraylength X368 hx hZ rfl (own_alnV Vs368) (hb hby d9_40) ?_
  refine own_icmpNo X368 hx (hb hby d9_41) (tlt (by decide : (65 : Int32) < (67 : Int32))).2.2.2 ?_
  refine own_aloadN X368 hx (hb hby d9_44) rfl rfl ?_
  refine own_aloadN X368 hx (hb hby d9_45) rfl rfl ?_
  refine own_arraylength X368 hx hZ rfl (own_alnV Vs368) (hb hby d9_46) ?_
  refine own_iconst X368 hx 2 (hb hby d9_47) rfl ?_
  refine own_imul X368 hx (hb hby d9_48) ?_
  rw [show ((65 : Int32) * (2 : Int32)) = (130 : Int32) from by decide]
  refine own_cStat (W := 0) (rest := []) X368 hx hZ [(.ref b367), (.int 130)] hown (own_m hw 104 rfl) (own_m hw 105 rfl) (by decide) (own_m hw 107 rfl) (own_m hw 106 rfl) rfl (rmCopy l Z a0 hw [] b367 k367 (0 : Int32) s1 s2 (0 : Int32) (0 : Int32) (0 : Int32) (0 : Int32) (0 : Int32) T368.heap n0 Zs379 Vs368) (by rw [hml]; rfl) (lenOf pd_16 rfl) rfl (Nat.le_of_eq rfl) (hb hby d9_49) (by decide) (by decide) (by decide) (by decide) fun v380 T380 L380 X380 hQ380 => ?_
  obtain ⟨b380, kb380, rfl, N380q, K380, szb380, gb380, Eb380, Vb380⟩ := hQ380
  have N380 := Fr.app N368 N380q
  have g_b380 := gb380
  have szo_b380 : h0.size ≤ b380 := Nat.le_trans (Nat.le_trans (Nat.le_trans (Nat.le_trans (Nat.le_trans (Nat.le_refl h0.size) K356.1) (Keep.of_wr W364).1) E367.1) K368.1) szb380
  have f381 := (own_staKeep f369 K380 all0)
  have f382 := (Exa.keep f370 K380)
  have f383 := (Fld.keep f371 K380 nin0)
  have f384 := (Fld.keep f372 K380 nin0)
  have f385 := (Arv.keep f373 K380 nin0)
  have f386 := (own_staKeep f374 K380 all0)
  have f387 := (Exa.keep f375 K380)
  have f388 := (Fld.keep f376 K380 nin0)
  have f389 := (Fld.keep f377 K380 nin0)
  have f390 := (Fld.keep f378 K380 nin0)
  have Zs391 : n0 ≤ T380.heap.size := (Nat.le_trans Zs379 K380.1)
  show own_At p e below _ T380 m 52 _ [(.ref b380)]
  refine own_astoreN (l' := #[.val (.ref o), .val (.ref a), .val (.ref b380), .val (.int 3), .val (.int 1)]) X380 hx (hb hby d9_52) rfl rfl ?_
  refine own_iloadN X380 hx (hb hby d9_53) rfl ?_
  refine own_istore (l' := #[.val (.ref o), .val (.ref a), .val (.ref b380), .val (.int 3), .val (.int 3)]) X380 hx (hb hby d9_54) rfl ?_
  refine own_aloadN X380 hx (hb hby d9_56) rfl rfl ?_
  refine own_aloadN X380 hx (hb hby d9_57) rfl rfl ?_
  refine own_iloadN X380 hx (hb hby d9_58) rfl ?_
  refine own_cStat (W := 0) (rest := []) X380 hx hZ [(.ref a), (.ref b380), (.int 3)] hown (own_m hw 76 rfl) (own_m hw 77 rfl) (by decide) (own_m hw 78 rfl) (own_m hw 41 rfl) rfl (hC2 b380 kb380 T380.heap n0 Zs391 f381 hcs f382 f383 f384 f385 Vb380) (by rw [hml]; rfl) (lenOf pd_14 rfl) rfl (Nat.le_of_eq rfl) (hb hby d9_59) (by decide) (by decide) (by decide) (by decide) fun v392 T392 L392 X392 hQ392 => ?_
  obtain ⟨rfl, N392q, e392⟩ := hQ392
  have N392 := Fr.app N380 N392q
  show own_At p e below _ T392 m 62 _ [(.int 3)]
  refine own_istoreN (l' := #[.val (.ref o), .val (.ref a), .val (.ref b380), .val (.int 3), .val (.int 3)]) X392 hx (hb hby d9_62) rfl ?_
  refine own_goto X392 hx 29 (hb hby d9_63) (by decide) (by decide) ?_
  refine own_iloadN X392 hx (hb hby d9_29) rfl ?_
  refine own_iload X392 hx (hb hby d9_30) rfl ?_
  refine own_icmpYes X392 hx 66 (hb hby d9_32) (flt (by decide : ¬ ((3 : Int32) < (3 : Int32)))).2.2.2 (by decide) (by decide) ?_
  refine own_aloadN X392 hx (hb hby d9_66) rfl rfl ?_
  refine own_cVirt (W := 0) (rest := []) X392 hx hZ [] hown (own_m hw 113 rfl) (own_m hw 114 rfl) (notFace_of_selects (args := #[]) (mvT hZ (own_m hw 116 rfl))) (own_m hw 116 rfl) (own_m hw 115 rfl) (by decide) (own_m hw 117 rfl) (own_m hw 9 rfl) e392 f382 (rmEm l Z a0 hw [] a b n T380.heap n0 Zs391 f383 (own_alnV f385) hnz) (by rw [hml]; rfl) (lenOf pd_8 rfl) rfl (Nat.le_of_eq rfl) (hb hby d9_67) (by decide) (by decide) (by decide) (by decide) fun v393 T393 L393 X393 hQ393 => ?_
  obtain ⟨rfl, N393q, e393⟩ := hQ393
  have N393 := Fr.app N392 N393q
  show own_At p e below _ T393 m 70 _ [(.int 0)]
  refine own_ifNo X393 hx (hb hby d9_70) (teq (by decide : (0 : Int32) = (0 : Int32))).2 ?_
  refine own_aloadN X393 hx (hb hby d9_73) rfl rfl ?_
  refine own_aloadN X393 hx (hb hby d9_74) rfl rfl ?_
  refine own_cVirt (W := 1) (rest := [(.ref a)]) X393 hx hZ [] hown (own_m hw 61 rfl) (own_m hw 62 rfl) (notFace_of_selects (args := #[]) (mvT hZ (own_m hw 64 rfl))) (own_m hw 64 rfl) (own_m hw 63 rfl) (by decide) (own_m hw 65 rfl) (own_m hw 9 rfl) e393 f382 (rmLen l Z a0 hw [] a b cs n T380.heap n0 Zs391 f381 hcs f382 f383 f384 (own_alnV f385)) (by rw [hml]; rfl) (lenOf pd_9 rfl) rfl (Nat.le_of_eq rfl) (hb hby d9_75) (by decide) (by decide) (by decide) (by decide) fun v394 T394 L394 X394 hQ394 => ?_
  obtain ⟨rfl, N394q, e394⟩ := hQ394
  have N394 := Fr.app N393 N394q
  show own_At p e below _ T394 m 78 _ [(.int n), (.ref a)]
  refine own_iconst X394 hx 1 (hb hby d9_78) rfl ?_
  refine own_isub X394 hx (hb hby d9_79) ?_
  rw [hi]
  refine own_cVirt (W := 0) (rest := []) X394 hx hZ [(.int i)] hown (own_m hw 118 rfl) (own_m hw 119 rfl) (notFace_of_selects (args := #[]) (mvT hZ (own_m hw 121 rfl))) (own_m hw 121 rfl) (own_m hw 120 rfl) (by decide) (own_m hw 122 rfl) (own_m hw 9 rfl) e394 f382 (hCA T380.heap n0 Zs391 f381 hcs f382 f383 f384 f385 f386 hfm) (by rw [hml]; rfl) (lenOf pd_15 rfl) rfl (Nat.le_of_eq rfl) (hb hby d9_80) (by decide) (by decide) (by decide) (by decide) fun v395 T395 L395 X395 hQ395 => ?_
  obtain ⟨rfl, N395q, e395⟩ := hQ395
  have N395 := Fr.app N394 N395q
  show own_At p e below _ T395 m 83 _ [(.int x)]
  refine own_bipush X395 hx 10 (hb hby d9_83) rfl ?_
  refine own_icmpNo X395 hx (hb hby d9_85) (feq hxn).1 ?_
  refine own_iconst X395 hx 1 (hb hby d9_88) rfl ?_
  refine own_goto X395 hx 93 (hb hby d9_89) (by decide) (by decide) ?_
  refine own_istore (l' := #[.val (.ref o), .val (.ref a), .val (.ref b380), .val (.int 3), .val (.int 1)]) X395 hx (hb hby d9_93) rfl ?_
  refine own_aloadN X395 hx (hb hby d9_95) rfl rfl ?_
  refine own_iload X395 hx (hb hby d9_96) rfl ?_
  refine own_ifNo X395 hx (hb hby d9_98) (feq (by decide : ¬ ((1 : Int32) = (0 : Int32)))).1 ?_
  refine own_iloadN X395 hx (hb hby d9_101) rfl ?_
  refine own_goto X395 hx 108 (hb hby d9_102) (by decide) (by decide) ?_
  refine own_putF X395 hx hZ hown (host := "") (Or.inl (own_m hw 134 rfl)) Via.refl e395 f389 f387 (Or.inr ⟨(own_m hw 135 rfl), rfl, hnm⟩) (own_m hw 40 rfl) (ty := .int) (by decide) rfl rfl (hb hby d9_108) fun T396 h396 X396 e396 W396 => ?_
  have Fw396 := Fld.same W396 f389
  have N396 := Fr.snoc X396 N395 g_o
  refine own_aloadN X396 hx (hb hby d9_111) rfl rfl ?_
  refine own_aloadN X396 hx (hb hby d9_112) rfl rfl ?_
  refine own_putF X396 hx hZ hown (host := "") (Or.inl (own_m hw 136 rfl)) Via.refl e396 (Fld.other W396 f390 (Or.inr (slot_ne (Or.inr (own_m hw 137 rfl)) (Or.inr (own_m hw 135 rfl)) (by decide) (t := (.array .int)) (t' := .int) (by decide) (by decide)))) (Exa.wr W396 f387) (Or.inr ⟨(own_m hw 137 rfl), rfl, hnm⟩) (own_m hw 40 rfl) (ty := (.array .int)) (by decide) rfl rfl (hb hby d9_113) fun T397 h397 X397 e397 W397 => ?_
  have Fw397 := Fld.same W397 (Fld.other W396 f390 (Or.inr (slot_ne (Or.inr (own_m hw 137 rfl)) (Or.inr (own_m hw 135 rfl)) (by decide) (t := (.array .int)) (t' := .int) (by decide) (by decide))))
  have N397 := Fr.snoc X397 N396 g_o
  refine own_aloadN X397 hx (hb hby d9_116) rfl rfl ?_
  refine own_getF X397 hx hZ hown (host := "") (Or.inl (own_m hw 136 rfl)) Via.refl e397 Fw397 (hb hby d9_117) fun T398 X398 e398 => ?_
  refine own_aloadN X398 hx (hb hby d9_120) rfl rfl ?_
  refine own_getF X398 hx hZ hown (host := "") (Or.inl (own_m hw 134 rfl)) Via.refl e398 (Fld.other W397 Fw396 (Or.inr (slot_ne (Or.inr (own_m hw 135 rfl)) (Or.inr (own_m hw 137 rfl)) (by decide) (t := .int) (t' := (.array .int)) (by decide) (by decide)))) (hb hby d9_121) fun T399 X399 e399 => ?_
  refine own_aloadN X399 hx (hb hby d9_124) rfl rfl ?_
  refine own_cVirt (W := 2) (rest := [(.int 3), (.ref b380)]) X399 hx hZ [] hown (own_m hw 61 rfl) (own_m hw 62 rfl) (notFace_of_selects (args := #[]) (mvT hZ (own_m hw 64 rfl))) (own_m hw 64 rfl) (own_m hw 63 rfl) (by decide) (own_m hw 65 rfl) (own_m hw 9 rfl) e399 (Exa.wr W397 (Exa.wr W396 f382)) (rmLen l Z a0 hw [] a b cs n h397 n0 (Nat.le_trans (Nat.le_trans Zs391 (Keep.of_wr W396).1) (Keep.of_wr W397).1) (Sta.wr W397 (Sta.wr W396 f381)) hcs (Exa.wr W397 (Exa.wr W396 f382)) (Fld.other W397 (Fld.other W396 f383 (Or.inl (ne_exa f382 f387 (by decide)))) (Or.inl (ne_exa f382 f387 (by decide)))) (Fld.other W397 (Fld.other W396 f384 (Or.inl (ne_exa f382 f387 (by decide)))) (Or.inl (ne_exa f382 f387 (by decide)))) (own_alnV (Arv.other (Arv.other f385 W396 hbo) W397 hbo))) (by rw [hml]; rfl) (lenOf pd_9 rfl) rfl (Nat.le_of_eq rfl) (hb hby d9_125) (by decide) (by decide) (by decide) (by decide) fun v400 T400 L400 X400 hQ400 => ?_
  obtain ⟨rfl, N400q, e400⟩ := hQ400
  have N400 := Fr.app N397 N400q
  show own_At p e below _ T400 m 128 _ [(.int n), (.int 3), (.ref b380)]
  refine own_stI (vs' := [(.int 0), (.int s1), (.int s2), (.int n), (.int 0), (.int 0), (.int 0), (.int 0)]) (w := (.int n)) X400 hx hZ e400 (Arv.other (Arv.other Vb380 W396 (Ne.symm (Nat.ne_of_lt (Nat.lt_of_lt_of_le f375.lt szb380)))) W397 (Ne.symm (Nat.ne_of_lt (Nat.lt_of_lt_of_le f375.lt szb380)))) ⟨by decide, by decide⟩ 3 rfl (Nat.le_of_ble_eq_true rfl) rfl rfl (hb hby d9_128) fun T401 h401 X401 e401 W401 V401 => ?_
  have N401 := Fr.snoc X401 N400 g_b380
  refine own_retV X401 hx hlk hret (hb hby d9_129) (own_kN (by decide) (by decide) ?_)
  try rw [e401]
  exact ⟨rfl, N401, (Keep.wr (Keep.wr (Keep.wr (Keep.trans (Keep.trans (Keep.ext (Keep.wr (Keep.trans (Keep.refl h0 [o]) K356 (allS (Or.inl (List.mem_of_getElem? (i := 0) rfl)) all0)) W364 (Or.inl (List.mem_of_getElem? (i := 0) rfl))) E367) K368 (allS (Or.inr szo_b367) all0)) K380 all0) W396 (Or.inl (List.mem_of_getElem? (i := 0) rfl))) W397 (Or.inl (List.mem_of_getElem? (i := 0) rfl))) W401 (Or.inr szo_b380)), b380, kb380, (Exa.wr W401 (Exa.wr W397 (Exa.wr W396 f387))), (Fld.other W401 (Fld.other W397 Fw396 (Or.inr (slot_ne (Or.inr (own_m hw 135 rfl)) (Or.inr (own_m hw 137 rfl)) (by decide) (t := .int) (t' := (.array .int)) (by decide) (by decide)))) (Or.inl (Nat.ne_of_lt (Nat.lt_of_lt_of_le f375.lt szb380)))), (Fld.other W401 Fw397 (Or.inl (Nat.ne_of_lt (Nat.lt_of_lt_of_le f375.lt szb380)))), V401⟩
set_option maxRecDepth 65536 in
set_option maxHeartbeats 40000000 in
theorem rmLI_4_0 (l : Launch) (Z : State) (a0 : Array Value) (hw : own_Wd a0 Z) (ws : List Jvm.Cond) (o a b : Addr) (kb : ClassId) (cs : Int32) (bs : List Value) (fm : Value) (n i x : Int32) (s1 s2 s3 : Int32)  (h0 : Heap) (n0 : Nat) (Z0 : n0 ≤ h0.size) (Sc : Sta Z h0 "java/lang/String" "COMPACT_STRINGS" "Z" (.int cs)) (hcs : ¬ (cs = (0 : Int32))) (Ea : Exa Z h0 a "java/lang/String") (Fv : Fld Z h0 a "java/lang/String" "value" "[B" (.ref b)) (Fc : Fld Z h0 a "java/lang/String" "coder" "B" (.int 0)) (Vb : Arv Z h0 b kb .byte n bs (.int 0)) (Sf : Sta Z h0 "jdk/internal/util/Preconditions" "SIOOBE_FORMATTER" "Ljava/util/function/BiFunction;" fm) (hfm : fm.isRef = true) (Eo : Exa Z h0 o "com/example/amendtrail/amendtrail/write/Lines") (F_m : Fld Z h0 o "java/util/AbstractList" "modCount" "I" (.int 0)) (g_o : n0 ≤ o) (hbo : b ≠ o) (F_text : Fld Z h0 o "com/example/amendtrail/amendtrail/write/Lines" "text" "Ljava/lang/String;" .null) (F_size : Fld Z h0 o "com/example/amendtrail/amendtrail/write/Lines" "size" "I" (.int 0)) (F_starts : Fld Z h0 o "com/example/amendtrail/amendtrail/write/Lines" "starts" "[I" .null) (hC1 : own_C1 l Z a b kb cs n bs (4 : Int32) [(.int 0), (.int s1), (.int s2), (.int s3), (.int 0), (.int 0), (.int 0), (.int 0)]) (hC2 : own_C2 l Z a b kb cs n bs (4 : Int32) [(.int 0), (.int s1), (.int s2), (.int s3), (.int 0), (.int 0), (.int 0), (.int 0)]) (hCA : own_CA l Z a b kb cs n bs fm i x) (hxn : x = (10 : Int32)) (hi : (n - (1 : Int32)) = i) (hnz : ¬ (n = (0 : Int32))) (hn32 : ¬ (65 : Int32) < (n / (32 : Int32))) :
    own_Met l (⟨"com/example/amendtrail/amendtrail/write/Lines", "<init>", "(Ljava/lang/String;)V"⟩ : MethodName) prog_111_method_1_code 5 none ws ({ frames := 4, cells := 2, slots := 195, locals := 62 } : Room) Z #[(.ref o), (.ref a)] h0 (fun v h L => v = none ∧ Fr n0 L ∧ Keep h0 h [o] ∧ ∃ sa ks, Exa Z h o "com/example/amendtrail/amendtrail/write/Lines" ∧ Fld Z h o "com/example/amendtrail/amendtrail/write/Lines" "size" "I" (.int 3) ∧ Fld Z h o "com/example/amendtrail/amendtrail/write/Lines" "starts" "[I" (.ref sa) ∧ Arv Z h sa ks .int (130 : Int32) (List.map Value.int [(0 : Int32), s1, s2, n, (0 : Int32), (0 : Int32), (0 : Int32), (0 : Int32)]) (.int 0)) := by
  refine own_body (plainFor_of_name pn_8) ?_
  intro p e s m below meth c s₁ X0 hx hby hml hown hnm hret hlk hZ e0
  replace hown : s.vm.findClass "com/example/amendtrail/amendtrail/write/Lines" = some m.cls := hown
  replace hml : c.maxLocals = 5 := hml
  replace hret : meth.sig.returnType = none := hret
  have N0 := Fr.nil n0
  refine own_ef (L0 := #[.val (.ref o), .val (.ref a), .unset, .unset, .unset]) (by first | (simp [entryFrame, mkF, argsToLocals, Value.category]; done) | rfl) ?_
  refine own_aloadN X0 hx (hb hby d9_0) rfl rfl ?_
  refine own_cSpec (b := o) (W := 0) (rest := []) X0 hx hZ [] rfl hown (own_m hw 45 rfl) (own_m hw 46 rfl) (by decide) (own_m hw 49 rfl) (own_m hw 48 rfl) e0 (rmAL l Z a0 hw [] o h0 n0 Z0 Eo F_m g_o F_text F_size F_starts) (by rw [hml]; rfl) (lenOf pd_13 rfl) rfl (Nat.le_of_eq rfl) (hb hby d9_1) (by decide) (by decide) (by decide) (by decide) fun v402 T402 L402 X402 hQ402 => ?_
  obtain ⟨rfl, N402q, K402, Eo402, Ftext402, Fsize402, Fstarts402⟩ := hQ402
  have N402 := Fr.app N0 N402q
  have f403 := (own_staKeep Sc K402 (allS (own_exaStat Eo) all0))
  have f404 := (Exa.keep Ea K402)
  have f405 := (Fld.keep Fv K402 (ninS (ne_exa f404 Eo402 (by decide)) nin0))
  have f406 := (Fld.keep Fc K402 (ninS (ne_exa f404 Eo402 (by decide)) nin0))
  have f407 := (Arv.keep Vb K402 (ninS hbo nin0))
  have f408 := (own_staKeep Sf K402 (allS (own_exaStat Eo) all0))
  have Zs409 : n0 ≤ T402.heap.size := (Nat.le_trans Z0 K402.1)
  show own_At p e below _ T402 m 4 _ []
  refine own_aloadN X402 hx (hb hby d9_4) rfl rfl ?_
  refine own_aloadN X402 hx (hb hby d9_5) rfl rfl ?_
  refine own_putF X402 hx hZ hown (host := "") (Or.inl (own_m hw 59 rfl)) Via.refl rfl Ftext402 Eo402 (Or.inr ⟨(own_m hw 60 rfl), rfl, hnm⟩) (own_m hw 40 rfl) (ty := (.object "java/lang/String")) (by decide) rfl rfl (hb hby d9_6) fun T410 h410 X410 e410 W410 => ?_
  have Fw410 := Fld.same W410 Ftext402
  have N410 := Fr.snoc X410 N402 g_o
  refine own_bipush X410 hx 65 (hb hby d9_9) rfl ?_
  refine own_aloadN X410 hx (hb hby d9_11) rfl rfl ?_
  refine own_cVirt (W := 1) (rest := [(.int 65)]) X410 hx hZ [] hown (own_m hw 61 rfl) (own_m hw 62 rfl) (notFace_of_selects (args := #[]) (mvT hZ (own_m hw 64 rfl))) (own_m hw 64 rfl) (own_m hw 63 rfl) (by decide) (own_m hw 65 rfl) (own_m hw 9 rfl) e410 (Exa.wr W410 f404) (rmLen l Z a0 hw [] a b cs n h410 n0 (Nat.le_trans Zs409 (Keep.of_wr W410).1) (Sta.wr W410 f403) hcs (Exa.wr W410 f404) (Fld.other W410 f405 (Or.inl (ne_exa f404 Eo402 (by decide)))) (Fld.other W410 f406 (Or.inl (ne_exa f404 Eo402 (by decide)))) (own_alnV (Arv.other f407 W410 hbo))) (by rw [hml]; rfl) (lenOf pd_9 rfl) rfl (Nat.le_of_eq rfl) (hb hby d9_12) (by decide) (by decide) (by decide) (by decide) fun v411 T411 L411 X411 hQ411 => ?_
  obtain ⟨rfl, N411q, e411⟩ := hQ411
  have N411 := Fr.app N410 N411q
  show own_At p e below _ T411 m 15 _ [(.int n), (.int 65)]
  refine own_bipush X411 hx 32 (hb hby d9_15) rfl ?_
  refine own_idiv X411 hx (hb hby d9_17) (by decide) ?_
  refine own_cStat (W := 0) (rest := []) X411 hx hZ [(.int 65), (.int (n / (32 : Int32)))] hown (own_m hw 71 rfl) (own_m hw 72 rfl) (by decide) (own_m hw 74 rfl) (own_m hw 73 rfl) e411 (rmMax l Z a0 hw [] (65 : Int32) (n / (32 : Int32)) h410 n0 (Nat.le_trans Zs409 (Keep.of_wr W410).1) hn32) (by rw [hml]; rfl) (lenOf pd_6 rfl) rfl (Nat.le_of_eq rfl) (hb hby d9_18) (by decide) (by decide) (by decide) (by decide) fun v412 T412 L412 X412 hQ412 => ?_
  obtain ⟨rfl, N412q, e412⟩ := hQ412
  have N412 := Fr.app N411 N412q
  show own_At p e below _ T412 m 21 _ [(.int 65)]
  refine own_newP (n := (65 : Int32)) (cap := 65) (ad := "[I") X412 hx hZ (own_m hw 75 rfl) e412 (hb hby d9_21) (by decide) (by decide) (by decide) (by decide) (by decide) (by decide) fun T413 h413 k413 b413 g413 X413 e413 E413 A413 Ex413 => ?_
  have g_b413 : n0 ≤ b413 := Nat.le_trans (Nat.le_trans Zs409 (Keep.of_wr W410).1) (Nat.le_of_eq g413.symm)
  have szo_b413 : h0.size ≤ b413 := Nat.le_trans (Nat.le_trans (Nat.le_trans (Nat.le_refl h0.size) K402.1) (Keep.of_wr W410).1) (Nat.le_of_eq g413.symm)
  have V413 : Arv Z h413 b413 k413 .int (65 : Int32) [(.int 0), (.int 0), (.int 0), (.int 0), (.int 0), (.int 0), (.int 0), (.int 0)] (.int 0) := (Arv.new A413 (by decide)).pad (pad_rep [] (.int 0) 8)
  refine own_astoreN (l' := #[.val (.ref o), .val (.ref a), .val (.ref b413), .unset, .unset]) X413 hx (hb hby d9_23) rfl rfl ?_
  refine own_iconst X413 hx 1 (hb hby d9_24) rfl ?_
  refine own_istoreN (l' := #[.val (.ref o), .val (.ref a), .val (.ref b413), .val (.int 1), .unset]) X413 hx (hb hby d9_25) rfl ?_
  refine own_iconst X413 hx 0 (hb hby d9_26) rfl ?_
  refine own_istore (l' := #[.val (.ref o), .val (.ref a), .val (.ref b413), .val (.int 1), .val (.int 0)]) X413 hx (hb hby d9_27) rfl ?_
  refine own_iloadN X413 hx (hb hby d9_29) rfl ?_
  refine own_iload X413 hx (hb hby d9_30) rfl ?_
  refine own_icmpNo X413 hx (hb hby d9_32) (tlt (by decide : (0 : Int32) < (1 : Int32))).2.2.2 ?_
  refine own_iloadN X413 hx (hb hby d9_35) rfl ?_
  refine own_bipush X413 hx 64 (hb hby d9_36) rfl ?_
  refine own_iadd X413 hx (hb hby d9_38) ?_
  rw [show ((1 : Int32) + (64 : Int32)) = (65 : Int32) from by decide]
  refine own_aloadN X413 hx (hb hby d9_39) rfl rfl ?_
  refine own_arraylength X413 hx hZ e413 (own_alnV V413) (hb hby d9_40) ?_
  refine own_icmpYes X413 hx 53 (hb hby d9_41) (flt (by decide : ¬ ((65 : Int32) < (65 : Int32)))).2.2.2 (by decide) (by decide) ?_
  refine own_iloadN X413 hx (hb hby d9_53) rfl ?_
  refine own_istore (l' := #[.val (.ref o), .val (.ref a), .val (.ref b413), .val (.int 1), .val (.int 1)]) X413 hx (hb hby d9_54) rfl ?_
  refine own_aloadN X413 hx (hb hby d9_56) rfl rfl ?_
  refine own_aloadN X413 hx (hb hby d9_57) rfl rfl ?_
  refine own_iloadN X413 hx (hb hby d9_58) rfl ?_
  refine own_cStat (W := 0) (rest := []) X413 hx hZ [(.ref a), (.ref b413), (.int 1)] hown (own_m hw 76 rfl) (own_m hw 77 rfl) (by decide) (own_m hw 78 rfl) (own_m hw 41 rfl) e413 (hC1 b413 k413 h413 n0 (Nat.le_trans (Nat.le_trans Zs409 (Keep.of_wr W410).1) E413.1) (Sta.ext E413 (Sta.wr W410 f403)) hcs (Exa.ext E413 (Exa.wr W410 f404)) (Fld.ext E413 (Fld.other W410 f405 (Or.inl (ne_exa f404 Eo402 (by decide))))) (Fld.ext E413 (Fld.other W410 f406 (Or.inl (ne_exa f404 Eo402 (by decide))))) ((Arv.other f407 W410 hbo).ext E413) V413 g_b413 Ex413 (Nat.ne_of_lt (Nat.lt_of_lt_of_le (Arv.other f407 W410 hbo).lt (Nat.le_of_eq g413.symm)))) (by rw [hml]; rfl) (lenOf pd_14 rfl) rfl (Nat.le_of_eq rfl) (hb hby d9_59) (by decide) (by decide) (by decide) (by decide) fun v414 T414 L414 X414 hQ414 => ?_
  obtain ⟨rfl, N414q, K414, Vs414⟩ := hQ414
  have N414 := Fr.app N412 N414q
  have f415 := (own_staKeep (Sta.ext E413 (Sta.wr W410 f403)) K414 (allS (own_exaStat Ex413) all0))
  have f416 := (Exa.keep (Exa.ext E413 (Exa.wr W410 f404)) K414)
  have f417 := (Fld.keep (Fld.ext E413 (Fld.other W410 f405 (Or.inl (ne_exa f416 (Exa.keep (Exa.ext E413 (Exa.wr W410 Eo402)) K414) (by decide))))) K414 (ninS (Nat.ne_of_lt (Nat.lt_of_lt_of_le (Exa.wr W410 f404).lt (Nat.le_of_eq g413.symm))) nin0))
  have f418 := (Fld.keep (Fld.ext E413 (Fld.other W410 f406 (Or.inl (ne_exa f416 (Exa.keep (Exa.ext E413 (Exa.wr W410 Eo402)) K414) (by decide))))) K414 (ninS (Nat.ne_of_lt (Nat.lt_of_lt_of_le (Exa.wr W410 f404).lt (Nat.le_of_eq g413.symm))) nin0))
  have f419 := (Arv.keep ((Arv.other f407 W410 hbo).ext E413) K414 (ninS (Nat.ne_of_lt (Nat.lt_of_lt_of_le (Arv.other f407 W410 hbo).lt (Nat.le_of_eq g413.symm))) nin0))
  have f420 := (own_staKeep (Sta.ext E413 (Sta.wr W410 f408)) K414 (allS (own_exaStat Ex413) all0))
  have f421 := (Exa.keep (Exa.ext E413 (Exa.wr W410 Eo402)) K414)
  have f422 := (Fld.keep (Fld.ext E413 Fw410) K414 (ninS (Nat.ne_of_lt (Nat.lt_of_lt_of_le Fw410.lt (Nat.le_of_eq g413.symm))) nin0))
  have f423 := (Fld.keep (Fld.ext E413 (Fld.other W410 Fsize402 (Or.inr (slot_ne (Or.inr (own_m hw 135 rfl)) (Or.inr (own_m hw 60 rfl)) (by decide) (t := .int) (t' := (.object "java/lang/String")) (by decide) (by decide))))) K414 (ninS (Nat.ne_of_lt (Nat.lt_of_lt_of_le Fw410.lt (Nat.le_of_eq g413.symm))) nin0))
  have f424 := (Fld.keep (Fld.ext E413 (Fld.other W410 Fstarts402 (Or.inr (slot_ne (Or.inr (own_m hw 137 rfl)) (Or.inr (own_m hw 60 rfl)) (by decide) (t := (.array .int)) (t' := (.object "java/lang/String")) (by decide) (by decide))))) K414 (ninS (Nat.ne_of_lt (Nat.lt_of_lt_of_le Fw410.lt (Nat.le_of_eq g413.symm))) nin0))
  have Zs425 : n0 ≤ T414.heap.size := (Nat.le_trans (Nat.le_trans (Nat.le_trans Zs409 (Keep.of_wr W410).1) E413.1) K414.1)
  show own_At p e below _ T414 m 62 _ [(.int 4)]
  refine own_istoreN (l' := #[.val (.ref o), .val (.ref a), .val (.ref b413), .val (.int 4), .val (.int 1)]) X414 hx (hb hby d9_62) rfl ?_
  refine own_goto X414 hx 29 (hb hby d9_63) (by decide) (by decide) ?_
  refine own_iloadN X414 hx (hb hby d9_29) rfl ?_
  refine own_iload X414 hx (hb hby d9_30) rfl ?_
  refine own_icmpNo X414 hx (hb hby d9_32) (tlt (by decide : (1 : Int32) < (4 : Int32))).2.2.2 ?_
  refine own_iloadN X414 hx (hb hby d9_35) rfl ?_
  refine own_bipush X414 hx 64 (hb hby d9_36) rfl ?_
  refine own_iadd X414 hx (hb hby d9_38) ?_
  rw [show ((4 : Int32) + (64 : Int32)) = (68 : Int32) from by decide]
  refine own_aloadN X414 hx (hb hby d9_39) rfl rfl ?_
  refine own_arraylength X414 hx hZ rfl (own_alnV Vs414) (hb hby d9_40) ?_
  refine own_icmpNo X414 hx (hb hby d9_41) (tlt (by decide : (65 : Int32) < (68 : Int32))).2.2.2 ?_
  refine own_aloadN X414 hx (hb hby d9_44) rfl rfl ?_
  refine own_aloadN X414 hx (hb hby d9_45) rfl rfl ?_
  refine own_arraylength X414 hx hZ rfl (own_alnV Vs414) (hb hby d9_46) ?_
  refine own_iconst X414 hx 2 (hb hby d9_47) rfl ?_
  refine own_imul X414 hx (hb hby d9_48) ?_
  rw [show ((65 : Int32) * (2 : Int32)) = (130 : Int32) from by decide]
  refine own_cStat (W := 0) (rest := []) X414 hx hZ [(.ref b413), (.int 130)] hown (own_m hw 104 rfl) (own_m hw 105 rfl) (by decide) (own_m hw 107 rfl) (own_m hw 106 rfl) rfl (rmCopy l Z a0 hw [] b413 k413 (0 : Int32) s1 s2 s3 (0 : Int32) (0 : Int32) (0 : Int32) (0 : Int32) T414.heap n0 Zs425 Vs414) (by rw [hml]; rfl) (lenOf pd_16 rfl) rfl (Nat.le_of_eq rfl) (hb hby d9_49) (by decide) (by decide) (by decide) (by decide) fun v426 T426 L426 X426 hQ426 => ?_
  obtain ⟨b426, kb426, rfl, N426q, K426, szb426, gb426, Eb426, Vb426⟩ := hQ426
  have N426 := Fr.app N414 N426q
  have g_b426 := gb426
  have szo_b426 : h0.size ≤ b426 := Nat.le_trans (Nat.le_trans (Nat.le_trans (Nat.le_trans (Nat.le_trans (Nat.le_refl h0.size) K402.1) (Keep.of_wr W410).1) E413.1) K414.1) szb426
  have f427 := (own_staKeep f415 K426 all0)
  have f428 := (Exa.keep f416 K426)
  have f429 := (Fld.keep f417 K426 nin0)
  have f430 := (Fld.keep f418 K426 nin0)
  have f431 := (Arv.keep f419 K426 nin0)
  have f432 := (own_staKeep f420 K426 all0)
  have f433 := (Exa.keep f421 K426)
  have f434 := (Fld.keep f422 K426 nin0)
  have f435 := (Fld.keep f423 K426 nin0)
  have f436 := (Fld.keep f424 K426 nin0)
  have Zs437 : n0 ≤ T426.heap.size := (Nat.le_trans Zs425 K426.1)
  show own_At p e below _ T426 m 52 _ [(.ref b426)]
  refine own_astoreN (l' := #[.val (.ref o), .val (.ref a), .val (.ref b426), .val (.int 4), .val (.int 1)]) X426 hx (hb hby d9_52) rfl rfl ?_
  refine own_iloadN X426 hx (hb hby d9_53) rfl ?_
  refine own_istore (l' := #[.val (.ref o), .val (.ref a), .val (.ref b426), .val (.int 4), .val (.int 4)]) X426 hx (hb hby d9_54) rfl ?_
  refine own_aloadN X426 hx (hb hby d9_56) rfl rfl ?_
  refine own_aloadN X426 hx (hb hby d9_57) rfl rfl ?_
  refine own_iloadN X426 hx (hb hby d9_58) rfl ?_
  refine own_cStat (W := 0) (rest := []) X426 hx hZ [(.ref a), (.ref b426), (.int 4)] hown (own_m hw 76 rfl) (own_m hw 77 rfl) (by decide) (own_m hw 78 rfl) (own_m hw 41 rfl) rfl (hC2 b426 kb426 T426.heap n0 Zs437 f427 hcs f428 f429 f430 f431 Vb426) (by rw [hml]; rfl) (lenOf pd_14 rfl) rfl (Nat.le_of_eq rfl) (hb hby d9_59) (by decide) (by decide) (by decide) (by decide) fun v438 T438 L438 X438 hQ438 => ?_
  obtain ⟨rfl, N438q, e438⟩ := hQ438
  have N438 := Fr.app N426 N438q
  show own_At p e below _ T438 m 62 _ [(.int 4)]
  refine own_istoreN (l' := #[.val (.ref o), .val (.ref a), .val (.ref b426), .val (.int 4), .val (.int 4)]) X438 hx (hb hby d9_62) rfl ?_
  refine own_goto X438 hx 29 (hb hby d9_63) (by decide) (by decide) ?_
  refine own_iloadN X438 hx (hb hby d9_29) rfl ?_
  refine own_iload X438 hx (hb hby d9_30) rfl ?_
  refine own_icmpYes X438 hx 66 (hb hby d9_32) (flt (by decide : ¬ ((4 : Int32) < (4 : Int32)))).2.2.2 (by decide) (by decide) ?_
  refine own_aloadN X438 hx (hb hby d9_66) rfl rfl ?_
  refine own_cVirt (W := 0) (rest := []) X438 hx hZ [] hown (own_m hw 113 rfl) (own_m hw 114 rfl) (notFace_of_selects (args := #[]) (mvT hZ (own_m hw 116 rfl))) (own_m hw 116 rfl) (own_m hw 115 rfl) (by decide) (own_m hw 117 rfl) (own_m hw 9 rfl) e438 f428 (rmEm l Z a0 hw [] a b n T426.heap n0 Zs437 f429 (own_alnV f431) hnz) (by rw [hml]; rfl) (lenOf pd_8 rfl) rfl (Nat.le_of_eq rfl) (hb hby d9_67) (by decide) (by decide) (by decide) (by decide) fun v439 T439 L439 X439 hQ439 => ?_
  obtain ⟨rfl, N439q, e439⟩ := hQ439
  have N439 := Fr.app N438 N439q
  show own_At p e below _ T439 m 70 _ [(.int 0)]
  refine own_ifNo X439 hx (hb hby d9_70) (teq (by decide : (0 : Int32) = (0 : Int32))).2 ?_
  refine own_aloadN X439 hx (hb hby d9_73) rfl rfl ?_
  refine own_aloadN X439 hx (hb hby d9_74) rfl rfl ?_
  refine own_cVirt (W := 1) (rest := [(.ref a)]) X439 hx hZ [] hown (own_m hw 61 rfl) (own_m hw 62 rfl) (notFace_of_selects (args := #[]) (mvT hZ (own_m hw 64 rfl))) (own_m hw 64 rfl) (own_m hw 63 rfl) (by decide) (own_m hw 65 rfl) (own_m hw 9 rfl) e439 f428 (rmLen l Z a0 hw [] a b cs n T426.heap n0 Zs437 f427 hcs f428 f429 f430 (own_alnV f431)) (by rw [hml]; rfl) (lenOf pd_9 rfl) rfl (Nat.le_of_eq rfl) (hb hby d9_75) (by decide) (by decide) (by decide) (by decide) fun v440 T440 L440 X440 hQ440 => ?_
  obtain ⟨rfl, N440q, e440⟩ := hQ440
  have N440 := Fr.app N439 N440q
  show own_At p e below _ T440 m 78 _ [(.int n), (.ref a)]
  refine own_iconst X440 hx 1 (hb hby d9_78) rfl ?_
  refine own_isub X440 hx (hb hby d9_79) ?_
  rw [hi]
  refine own_cVirt (W := 0) (rest := []) X440 hx hZ [(.int i)] hown (own_m hw 118 rfl) (own_m hw 119 rfl) (notFace_of_selects (args := #[]) (mvT hZ (own_m hw 121 rfl))) (own_m hw 121 rfl) (own_m hw 120 rfl) (by decide) (own_m hw 122 rfl) (own_m hw 9 rfl) e440 f428 (hCA T426.heap n0 Zs437 f427 hcs f428 f429 f430 f431 f432 hfm) (by rw [hml]; rfl) (lenOf pd_15 rfl) rfl (Nat.le_of_eq rfl) (hb hby d9_80) (by decide) (by decide) (by decide) (by decide) fun v441 T441 L441 X441 hQ441 => ?_
  obtain ⟨rfl, N441q, e441⟩ := hQ441
  have N441 := Fr.app N440 N441q
  show own_At p e below _ T441 m 83 _ [(.int x)]
  refine own_bipush X441 hx 10 (hb hby d9_83) rfl ?_
  refine own_icmpYes X441 hx 92 (hb hby d9_85) (teq hxn).1 (by decide) (by decide) ?_
  refine own_iconst X441 hx 0 (hb hby d9_92) rfl ?_
  refine own_istore (l' := #[.val (.ref o), .val (.ref a), .val (.ref b426), .val (.int 4), .val (.int 0)]) X441 hx (hb hby d9_93) rfl ?_
  refine own_aloadN X441 hx (hb hby d9_95) rfl rfl ?_
  refine own_iload X441 hx (hb hby d9_96) rfl ?_
  refine own_ifYes X441 hx 105 (hb hby d9_98) (teq (by decide : (0 : Int32) = (0 : Int32))).1 (by decide) (by decide) ?_
  refine own_iloadN X441 hx (hb hby d9_105) rfl ?_
  refine own_iconst X441 hx 1 (hb hby d9_106) rfl ?_
  refine own_isub X441 hx (hb hby d9_107) ?_
  rw [show ((4 : Int32) - (1 : Int32)) = (3 : Int32) from by decide]
  refine own_putF X441 hx hZ hown (host := "") (Or.inl (own_m hw 134 rfl)) Via.refl e441 f435 f433 (Or.inr ⟨(own_m hw 135 rfl), rfl, hnm⟩) (own_m hw 40 rfl) (ty := .int) (by decide) rfl rfl (hb hby d9_108) fun T442 h442 X442 e442 W442 => ?_
  have Fw442 := Fld.same W442 f435
  have N442 := Fr.snoc X442 N441 g_o
  refine own_aloadN X442 hx (hb hby d9_111) rfl rfl ?_
  refine own_aloadN X442 hx (hb hby d9_112) rfl rfl ?_
  refine own_putF X442 hx hZ hown (host := "") (Or.inl (own_m hw 136 rfl)) Via.refl e442 (Fld.other W442 f436 (Or.inr (slot_ne (Or.inr (own_m hw 137 rfl)) (Or.inr (own_m hw 135 rfl)) (by decide) (t := (.array .int)) (t' := .int) (by decide) (by decide)))) (Exa.wr W442 f433) (Or.inr ⟨(own_m hw 137 rfl), rfl, hnm⟩) (own_m hw 40 rfl) (ty := (.array .int)) (by decide) rfl rfl (hb hby d9_113) fun T443 h443 X443 e443 W443 => ?_
  have Fw443 := Fld.same W443 (Fld.other W442 f436 (Or.inr (slot_ne (Or.inr (own_m hw 137 rfl)) (Or.inr (own_m hw 135 rfl)) (by decide) (t := (.array .int)) (t' := .int) (by decide) (by decide))))
  have N443 := Fr.snoc X443 N442 g_o
  refine own_aloadN X443 hx (hb hby d9_116) rfl rfl ?_
  refine own_getF X443 hx hZ hown (host := "") (Or.inl (own_m hw 136 rfl)) Via.refl e443 Fw443 (hb hby d9_117) fun T444 X444 e444 => ?_
  refine own_aloadN X444 hx (hb hby d9_120) rfl rfl ?_
  refine own_getF X444 hx hZ hown (host := "") (Or.inl (own_m hw 134 rfl)) Via.refl e444 (Fld.other W443 Fw442 (Or.inr (slot_ne (Or.inr (own_m hw 135 rfl)) (Or.inr (own_m hw 137 rfl)) (by decide) (t := .int) (t' := (.array .int)) (by decide) (by decide)))) (hb hby d9_121) fun T445 X445 e445 => ?_
  refine own_aloadN X445 hx (hb hby d9_124) rfl rfl ?_
  refine own_cVirt (W := 2) (rest := [(.int 3), (.ref b426)]) X445 hx hZ [] hown (own_m hw 61 rfl) (own_m hw 62 rfl) (notFace_of_selects (args := #[]) (mvT hZ (own_m hw 64 rfl))) (own_m hw 64 rfl) (own_m hw 63 rfl) (by decide) (own_m hw 65 rfl) (own_m hw 9 rfl) e445 (Exa.wr W443 (Exa.wr W442 f428)) (rmLen l Z a0 hw [] a b cs n h443 n0 (Nat.le_trans (Nat.le_trans Zs437 (Keep.of_wr W442).1) (Keep.of_wr W443).1) (Sta.wr W443 (Sta.wr W442 f427)) hcs (Exa.wr W443 (Exa.wr W442 f428)) (Fld.other W443 (Fld.other W442 f429 (Or.inl (ne_exa f428 f433 (by decide)))) (Or.inl (ne_exa f428 f433 (by decide)))) (Fld.other W443 (Fld.other W442 f430 (Or.inl (ne_exa f428 f433 (by decide)))) (Or.inl (ne_exa f428 f433 (by decide)))) (own_alnV (Arv.other (Arv.other f431 W442 hbo) W443 hbo))) (by rw [hml]; rfl) (lenOf pd_9 rfl) rfl (Nat.le_of_eq rfl) (hb hby d9_125) (by decide) (by decide) (by decide) (by decide) fun v446 T446 L446 X446 hQ446 => ?_
  obtain ⟨rfl, N446q, e446⟩ := hQ446
  have N446 := Fr.app N443 N446q
  show own_At p e below _ T446 m 128 _ [(.int n), (.int 3), (.ref b426)]
  refine own_stI (vs' := [(.int 0), (.int s1), (.int s2), (.int n), (.int 0), (.int 0), (.int 0), (.int 0)]) (w := (.int n)) X446 hx hZ e446 (Arv.other (Arv.other Vb426 W442 (Ne.symm (Nat.ne_of_lt (Nat.lt_of_lt_of_le f421.lt szb426)))) W443 (Ne.symm (Nat.ne_of_lt (Nat.lt_of_lt_of_le f421.lt szb426)))) ⟨by decide, by decide⟩ 3 rfl (Nat.le_of_ble_eq_true rfl) rfl rfl (hb hby d9_128) fun T447 h447 X447 e447 W447 V447 => ?_
  have N447 := Fr.snoc X447 N446 g_b426
  refine own_retV X447 hx hlk hret (hb hby d9_129) (own_kN (by decide) (by decide) ?_)
  try rw [e447]
  exact ⟨rfl, N447, (Keep.wr (Keep.wr (Keep.wr (Keep.trans (Keep.trans (Keep.ext (Keep.wr (Keep.trans (Keep.refl h0 [o]) K402 (allS (Or.inl (List.mem_of_getElem? (i := 0) rfl)) all0)) W410 (Or.inl (List.mem_of_getElem? (i := 0) rfl))) E413) K414 (allS (Or.inr szo_b413) all0)) K426 all0) W442 (Or.inl (List.mem_of_getElem? (i := 0) rfl))) W443 (Or.inl (List.mem_of_getElem? (i := 0) rfl))) W447 (Or.inr szo_b426)), b426, kb426, (Exa.wr W447 (Exa.wr W443 (Exa.wr W442 f433))), (Fld.other W447 (Fld.other W443 Fw442 (Or.inr (slot_ne (Or.inr (own_m hw 135 rfl)) (Or.inr (own_m hw 137 rfl)) (by decide) (t := .int) (t' := (.array .int)) (by decide) (by decide)))) (Or.inl (Nat.ne_of_lt (Nat.lt_of_lt_of_le f421.lt szb426)))), (Fld.other W447 Fw443 (Or.inl (Nat.ne_of_lt (Nat.lt_of_lt_of_le f421.lt szb426)))), V447⟩
set_option maxRecDepth 65536 in
set_option maxHeartbeats 40000000 in
theorem rmLI_4_1 (l : Launch) (Z : State) (a0 : Array Value) (hw : own_Wd a0 Z) (ws : List Jvm.Cond) (o a b : Addr) (kb : ClassId) (cs : Int32) (bs : List Value) (fm : Value) (n i x : Int32) (s1 s2 s3 : Int32)  (h0 : Heap) (n0 : Nat) (Z0 : n0 ≤ h0.size) (Sc : Sta Z h0 "java/lang/String" "COMPACT_STRINGS" "Z" (.int cs)) (hcs : ¬ (cs = (0 : Int32))) (Ea : Exa Z h0 a "java/lang/String") (Fv : Fld Z h0 a "java/lang/String" "value" "[B" (.ref b)) (Fc : Fld Z h0 a "java/lang/String" "coder" "B" (.int 0)) (Vb : Arv Z h0 b kb .byte n bs (.int 0)) (Sf : Sta Z h0 "jdk/internal/util/Preconditions" "SIOOBE_FORMATTER" "Ljava/util/function/BiFunction;" fm) (hfm : fm.isRef = true) (Eo : Exa Z h0 o "com/example/amendtrail/amendtrail/write/Lines") (F_m : Fld Z h0 o "java/util/AbstractList" "modCount" "I" (.int 0)) (g_o : n0 ≤ o) (hbo : b ≠ o) (F_text : Fld Z h0 o "com/example/amendtrail/amendtrail/write/Lines" "text" "Ljava/lang/String;" .null) (F_size : Fld Z h0 o "com/example/amendtrail/amendtrail/write/Lines" "size" "I" (.int 0)) (F_starts : Fld Z h0 o "com/example/amendtrail/amendtrail/write/Lines" "starts" "[I" .null) (hC1 : own_C1 l Z a b kb cs n bs (4 : Int32) [(.int 0), (.int s1), (.int s2), (.int s3), (.int 0), (.int 0), (.int 0), (.int 0)]) (hC2 : own_C2 l Z a b kb cs n bs (4 : Int32) [(.int 0), (.int s1), (.int s2), (.int s3), (.int 0), (.int 0), (.int 0), (.int 0)]) (hCA : own_CA l Z a b kb cs n bs fm i x) (hxn : ¬ (x = (10 : Int32))) (hi : (n - (1 : Int32)) = i) (hnz : ¬ (n = (0 : Int32))) (hn32 : ¬ (65 : Int32) < (n / (32 : Int32))) :
    own_Met l (⟨"com/example/amendtrail/amendtrail/write/Lines", "<init>", "(Ljava/lang/String;)V"⟩ : MethodName) prog_111_method_1_code 5 none ws ({ frames := 4, cells := 2, slots := 195, locals := 62 } : Room) Z #[(.ref o), (.ref a)] h0 (fun v h L => v = none ∧ Fr n0 L ∧ Keep h0 h [o] ∧ ∃ sa ks, Exa Z h o "com/example/amendtrail/amendtrail/write/Lines" ∧ Fld Z h o "com/example/amendtrail/amendtrail/write/Lines" "size" "I" (.int 4) ∧ Fld Z h o "com/example/amendtrail/amendtrail/write/Lines" "starts" "[I" (.ref sa) ∧ Arv Z h sa ks .int (130 : Int32) (List.map Value.int [(0 : Int32), s1, s2, s3, n, (0 : Int32), (0 : Int32), (0 : Int32)]) (.int 0)) := by
  refine own_body (plainFor_of_name pn_8) ?_
  intro p e s m below meth c s₁ X0 hx hby hml hown hnm hret hlk hZ e0
  replace hown : s.vm.findClass "com/example/amendtrail/amendtrail/write/Lines" = some m.cls := hown
  replace hml : c.maxLocals = 5 := hml
  replace hret : meth.sig.returnType = none := hret
  have N0 := Fr.nil n0
  refine own_ef (L0 := #[.val (.ref o), .val (.ref a), .unset, .unset, .unset]) (by first | (simp [entryFrame, mkF, argsToLocals, Value.category]; done) | rfl) ?_
  refine own_aloadN X0 hx (hb hby d9_0) rfl rfl ?_
  refine own_cSpec (b := o) (W := 0) (rest := []) X0 hx hZ [] rfl hown (own_m hw 45 rfl) (own_m hw 46 rfl) (by decide) (own_m hw 49 rfl) (own_m hw 48 rfl) e0 (rmAL l Z a0 hw [] o h0 n0 Z0 Eo F_m g_o F_text F_size F_starts) (by rw [hml]; rfl) (lenOf pd_13 rfl) rfl (Nat.le_of_eq rfl) (hb hby d9_1) (by decide) (by decide) (by decide) (by decide) fun v448 T448 L448 X448 hQ448 => ?_
  obtain ⟨rfl, N448q, K448, Eo448, Ftext448, Fsize448, Fstarts448⟩ := hQ448
  have N448 := Fr.app N0 N448q
  have f449 := (own_staKeep Sc K448 (allS (own_exaStat Eo) all0))
  have f450 := (Exa.keep Ea K448)
  have f451 := (Fld.keep Fv K448 (ninS (ne_exa f450 Eo448 (by decide)) nin0))
  have f452 := (Fld.keep Fc K448 (ninS (ne_exa f450 Eo448 (by decide)) nin0))
  have f453 := (Arv.keep Vb K448 (ninS hbo nin0))
  have f454 := (own_staKeep Sf K448 (allS (own_exaStat Eo) all0))
  have Zs455 : n0 ≤ T448.heap.size := (Nat.le_trans Z0 K448.1)
  show own_At p e below _ T448 m 4 _ []
  refine own_aloadN X448 hx (hb hby d9_4) rfl rfl ?_
  refine own_aloadN X448 hx (hb hby d9_5) rfl rfl ?_
  refine own_putF X448 hx hZ hown (host := "") (Or.inl (own_m hw 59 rfl)) Via.refl rfl Ftext448 Eo448 (Or.inr ⟨(own_m hw 60 rfl), rfl, hnm⟩) (own_m hw 40 rfl) (ty := (.object "java/lang/String")) (by decide) rfl rfl (hb hby d9_6) fun T456 h456 X456 e456 W456 => ?_
  have Fw456 := Fld.same W456 Ftext448
  have N456 := Fr.snoc X456 N448 g_o
  refine own_bipush X456 hx 65 (hb hby d9_9) rfl ?_
  refine own_aloadN X456 hx (hb hby d9_11) rfl rfl ?_
  refine own_cVirt (W := 1) (rest := [(.int 65)]) X456 hx hZ [] hown (own_m hw 61 rfl) (own_m hw 62 rfl) (notFace_of_selects (args := #[]) (mvT hZ (own_m hw 64 rfl))) (own_m hw 64 rfl) (own_m hw 63 rfl) (by decide) (own_m hw 65 rfl) (own_m hw 9 rfl) e456 (Exa.wr W456 f450) (rmLen l Z a0 hw [] a b cs n h456 n0 (Nat.le_trans Zs455 (Keep.of_wr W456).1) (Sta.wr W456 f449) hcs (Exa.wr W456 f450) (Fld.other W456 f451 (Or.inl (ne_exa f450 Eo448 (by decide)))) (Fld.other W456 f452 (Or.inl (ne_exa f450 Eo448 (by decide)))) (own_alnV (Arv.other f453 W456 hbo))) (by rw [hml]; rfl) (lenOf pd_9 rfl) rfl (Nat.le_of_eq rfl) (hb hby d9_12) (by decide) (by decide) (by decide) (by decide) fun v457 T457 L457 X457 hQ457 => ?_
  obtain ⟨rfl, N457q, e457⟩ := hQ457
  have N457 := Fr.app N456 N457q
  show own_At p e below _ T457 m 15 _ [(.int n), (.int 65)]
  refine own_bipush X457 hx 32 (hb hby d9_15) rfl ?_
  refine own_idiv X457 hx (hb hby d9_17) (by decide) ?_
  refine own_cStat (W := 0) (rest := []) X457 hx hZ [(.int 65), (.int (n / (32 : Int32)))] hown (own_m hw 71 rfl) (own_m hw 72 rfl) (by decide) (own_m hw 74 rfl) (own_m hw 73 rfl) e457 (rmMax l Z a0 hw [] (65 : Int32) (n / (32 : Int32)) h456 n0 (Nat.le_trans Zs455 (Keep.of_wr W456).1) hn32) (by rw [hml]; rfl) (lenOf pd_6 rfl) rfl (Nat.le_of_eq rfl) (hb hby d9_18) (by decide) (by decide) (by decide) (by decide) fun v458 T458 L458 X458 hQ458 => ?_
  obtain ⟨rfl, N458q, e458⟩ := hQ458
  have N458 := Fr.app N457 N458q
  show own_At p e below _ T458 m 21 _ [(.int 65)]
  refine own_newP (n := (65 : Int32)) (cap := 65) (ad := "[I") X458 hx hZ (own_m hw 75 rfl) e458 (hb hby d9_21) (by decide) (by decide) (by decide) (by decide) (by decide) (by decide) fun T459 h459 k459 b459 g459 X459 e459 E459 A459 Ex459 => ?_
  have g_b459 : n0 ≤ b459 := Nat.le_trans (Nat.le_trans Zs455 (Keep.of_wr W456).1) (Nat.le_of_eq g459.symm)
  have szo_b459 : h0.size ≤ b459 := Nat.le_trans (Nat.le_trans (Nat.le_trans (Nat.le_refl h0.size) K448.1) (Keep.of_wr W456).1) (Nat.le_of_eq g459.symm)
  have V459 : Arv Z h459 b459 k459 .int (65 : Int32) [(.int 0), (.int 0), (.int 0), (.int 0), (.int 0), (.int 0), (.int 0), (.int 0)] (.int 0) := (Arv.new A459 (by decide)).pad (pad_rep [] (.int 0) 8)
  refine own_astoreN (l' := #[.val (.ref o), .val (.ref a), .val (.ref b459), .unset, .unset]) X459 hx (hb hby d9_23) rfl rfl ?_
  refine own_iconst X459 hx 1 (hb hby d9_24) rfl ?_
  refine own_istoreN (l' := #[.val (.ref o), .val (.ref a), .val (.ref b459), .val (.int 1), .unset]) X459 hx (hb hby d9_25) rfl ?_
  refine own_iconst X459 hx 0 (hb hby d9_26) rfl ?_
  refine own_istore (l' := #[.val (.ref o), .val (.ref a), .val (.ref b459), .val (.int 1), .val (.int 0)]) X459 hx (hb hby d9_27) rfl ?_
  refine own_iloadN X459 hx (hb hby d9_29) rfl ?_
  refine own_iload X459 hx (hb hby d9_30) rfl ?_
  refine own_icmpNo X459 hx (hb hby d9_32) (tlt (by decide : (0 : Int32) < (1 : Int32))).2.2.2 ?_
  refine own_iloadN X459 hx (hb hby d9_35) rfl ?_
  refine own_bipush X459 hx 64 (hb hby d9_36) rfl ?_
  refine own_iadd X459 hx (hb hby d9_38) ?_
  rw [show ((1 : Int32) + (64 : Int32)) = (65 : Int32) from by decide]
  refine own_aloadN X459 hx (hb hby d9_39) rfl rfl ?_
  refine own_arraylength X459 hx hZ e459 (own_alnV V459) (hb hby d9_40) ?_
  refine own_icmpYes X459 hx 53 (hb hby d9_41) (flt (by decide : ¬ ((65 : Int32) < (65 : Int32)))).2.2.2 (by decide) (by decide) ?_
  refine own_iloadN X459 hx (hb hby d9_53) rfl ?_
  refine own_istore (l' := #[.val (.ref o), .val (.ref a), .val (.ref b459), .val (.int 1), .val (.int 1)]) X459 hx (hb hby d9_54) rfl ?_
  refine own_aloadN X459 hx (hb hby d9_56) rfl rfl ?_
  refine own_aloadN X459 hx (hb hby d9_57) rfl rfl ?_
  refine own_iloadN X459 hx (hb hby d9_58) rfl ?_
  refine own_cStat (W := 0) (rest := []) X459 hx hZ [(.ref a), (.ref b459), (.int 1)] hown (own_m hw 76 rfl) (own_m hw 77 rfl) (by decide) (own_m hw 78 rfl) (own_m hw 41 rfl) e459 (hC1 b459 k459 h459 n0 (Nat.le_trans (Nat.le_trans Zs455 (Keep.of_wr W456).1) E459.1) (Sta.ext E459 (Sta.wr W456 f449)) hcs (Exa.ext E459 (Exa.wr W456 f450)) (Fld.ext E459 (Fld.other W456 f451 (Or.inl (ne_exa f450 Eo448 (by decide))))) (Fld.ext E459 (Fld.other W456 f452 (Or.inl (ne_exa f450 Eo448 (by decide))))) ((Arv.other f453 W456 hbo).ext E459) V459 g_b459 Ex459 (Nat.ne_of_lt (Nat.lt_of_lt_of_le (Arv.other f453 W456 hbo).lt (Nat.le_of_eq g459.symm)))) (by rw [hml]; rfl) (lenOf pd_14 rfl) rfl (Nat.le_of_eq rfl) (hb hby d9_59) (by decide) (by decide) (by decide) (by decide) fun v460 T460 L460 X460 hQ460 => ?_
  obtain ⟨rfl, N460q, K460, Vs460⟩ := hQ460
  have N460 := Fr.app N458 N460q
  have f461 := (own_staKeep (Sta.ext E459 (Sta.wr W456 f449)) K460 (allS (own_exaStat Ex459) all0))
  have f462 := (Exa.keep (Exa.ext E459 (Exa.wr W456 f450)) K460)
  have f463 := (Fld.keep (Fld.ext E459 (Fld.other W456 f451 (Or.inl (ne_exa f462 (Exa.keep (Exa.ext E459 (Exa.wr W456 Eo448)) K460) (by decide))))) K460 (ninS (Nat.ne_of_lt (Nat.lt_of_lt_of_le (Exa.wr W456 f450).lt (Nat.le_of_eq g459.symm))) nin0))
  have f464 := (Fld.keep (Fld.ext E459 (Fld.other W456 f452 (Or.inl (ne_exa f462 (Exa.keep (Exa.ext E459 (Exa.wr W456 Eo448)) K460) (by decide))))) K460 (ninS (Nat.ne_of_lt (Nat.lt_of_lt_of_le (Exa.wr W456 f450).lt (Nat.le_of_eq g459.symm))) nin0))
  have f465 := (Arv.keep ((Arv.other f453 W456 hbo).ext E459) K460 (ninS (Nat.ne_of_lt (Nat.lt_of_lt_of_le (Arv.other f453 W456 hbo).lt (Nat.le_of_eq g459.symm))) nin0))
  have f466 := (own_staKeep (Sta.ext E459 (Sta.wr W456 f454)) K460 (allS (own_exaStat Ex459) all0))
  have f467 := (Exa.keep (Exa.ext E459 (Exa.wr W456 Eo448)) K460)
  have f468 := (Fld.keep (Fld.ext E459 Fw456) K460 (ninS (Nat.ne_of_lt (Nat.lt_of_lt_of_le Fw456.lt (Nat.le_of_eq g459.symm))) nin0))
  have f469 := (Fld.keep (Fld.ext E459 (Fld.other W456 Fsize448 (Or.inr (slot_ne (Or.inr (own_m hw 135 rfl)) (Or.inr (own_m hw 60 rfl)) (by decide) (t := .int) (t' := (.object "java/lang/String")) (by decide) (by decide))))) K460 (ninS (Nat.ne_of_lt (Nat.lt_of_lt_of_le Fw456.lt (Nat.le_of_eq g459.symm))) nin0))
  have f470 := (Fld.keep (Fld.ext E459 (Fld.other W456 Fstarts448 (Or.inr (slot_ne (Or.inr (own_m hw 137 rfl)) (Or.inr (own_m hw 60 rfl)) (by decide) (t := (.array .int)) (t' := (.object "java/lang/String")) (by decide) (by decide))))) K460 (ninS (Nat.ne_of_lt (Nat.lt_of_lt_of_le Fw456.lt (Nat.le_of_eq g459.symm))) nin0))
  have Zs471 : n0 ≤ T460.heap.size := (Nat.le_trans (Nat.le_trans (Nat.le_trans Zs455 (Keep.of_wr W456).1) E459.1) K460.1)
  show own_At p e below _ T460 m 62 _ [(.int 4)]
  refine own_istoreN (l' := #[.val (.ref o), .val (.ref a), .val (.ref b459), .val (.int 4), .val (.int 1)]) X460 hx (hb hby d9_62) rfl ?_
  refine own_goto X460 hx 29 (hb hby d9_63) (by decide) (by decide) ?_
  refine own_iloadN X460 hx (hb hby d9_29) rfl ?_
  refine own_iload X460 hx (hb hby d9_30) rfl ?_
  refine own_icmpNo X460 hx (hb hby d9_32) (tlt (by decide : (1 : Int32) < (4 : Int32))).2.2.2 ?_
  refine own_iloadN X460 hx (hb hby d9_35) rfl ?_
  refine own_bipush X460 hx 64 (hb hby d9_36) rfl ?_
  refine own_iadd X460 hx (hb hby d9_38) ?_
  rw [show ((4 : Int32) + (64 : Int32)) = (68 : Int32) from by decide]
  refine own_aloadN X460 hx (hb hby d9_39) rfl rfl ?_
  refine own_arraylength X460 hx hZ rfl (own_alnV Vs460) (hb hby d9_40) ?_
  refine own_icmpNo X460 hx (hb hby d9_41) (tlt (by decide : (65 : Int32) < (68 : Int32))).2.2.2 ?_
  refine own_aloadN X460 hx (hb hby d9_44) rfl rfl ?_
  refine own_aloadN X460 hx (hb hby d9_45) rfl rfl ?_
  refine own_arraylength X460 hx hZ rfl (own_alnV Vs460) (hb hby d9_46) ?_
  refine own_iconst X460 hx 2 (hb hby d9_47) rfl ?_
  refine own_imul X460 hx (hb hby d9_48) ?_
  rw [show ((65 : Int32) * (2 : Int32)) = (130 : Int32) from by decide]
  refine own_cStat (W := 0) (rest := []) X460 hx hZ [(.ref b459), (.int 130)] hown (own_m hw 104 rfl) (own_m hw 105 rfl) (by decide) (own_m hw 107 rfl) (own_m hw 106 rfl) rfl (rmCopy l Z a0 hw [] b459 k459 (0 : Int32) s1 s2 s3 (0 : Int32) (0 : Int32) (0 : Int32) (0 : Int32) T460.heap n0 Zs471 Vs460) (by rw [hml]; rfl) (lenOf pd_16 rfl) rfl (Nat.le_of_eq rfl) (hb hby d9_49) (by decide) (by decide) (by decide) (by decide) fun v472 T472 L472 X472 hQ472 => ?_
  obtain ⟨b472, kb472, rfl, N472q, K472, szb472, gb472, Eb472, Vb472⟩ := hQ472
  have N472 := Fr.app N460 N472q
  have g_b472 := gb472
  have szo_b472 : h0.size ≤ b472 := Nat.le_trans (Nat.le_trans (Nat.le_trans (Nat.le_trans (Nat.le_trans (Nat.le_refl h0.size) K448.1) (Keep.of_wr W456).1) E459.1) K460.1) szb472
  have f473 := (own_staKeep f461 K472 all0)
  have f474 := (Exa.keep f462 K472)
  have f475 := (Fld.keep f463 K472 nin0)
  have f476 := (Fld.keep f464 K472 nin0)
  have f477 := (Arv.keep f465 K472 nin0)
  have f478 := (own_staKeep f466 K472 all0)
  have f479 := (Exa.keep f467 K472)
  have f480 := (Fld.keep f468 K472 nin0)
  have f481 := (Fld.keep f469 K472 nin0)
  have f482 := (Fld.keep f470 K472 nin0)
  have Zs483 : n0 ≤ T472.heap.size := (Nat.le_trans Zs471 K472.1)
  show own_At p e below _ T472 m 52 _ [(.ref b472)]
  refine own_astoreN (l' := #[.val (.ref o), .val (.ref a), .val (.ref b472), .val (.int 4), .val (.int 1)]) X472 hx (hb hby d9_52) rfl rfl ?_
  refine own_iloadN X472 hx (hb hby d9_53) rfl ?_
  refine own_istore (l' := #[.val (.ref o), .val (.ref a), .val (.ref b472), .val (.int 4), .val (.int 4)]) X472 hx (hb hby d9_54) rfl ?_
  refine own_aloadN X472 hx (hb hby d9_56) rfl rfl ?_
  refine own_aloadN X472 hx (hb hby d9_57) rfl rfl ?_
  refine own_iloadN X472 hx (hb hby d9_58) rfl ?_
  refine own_cStat (W := 0) (rest := []) X472 hx hZ [(.ref a), (.ref b472), (.int 4)] hown (own_m hw 76 rfl) (own_m hw 77 rfl) (by decide) (own_m hw 78 rfl) (own_m hw 41 rfl) rfl (hC2 b472 kb472 T472.heap n0 Zs483 f473 hcs f474 f475 f476 f477 Vb472) (by rw [hml]; rfl) (lenOf pd_14 rfl) rfl (Nat.le_of_eq rfl) (hb hby d9_59) (by decide) (by decide) (by decide) (by decide) fun v484 T484 L484 X484 hQ484 => ?_
  obtain ⟨rfl, N484q, e484⟩ := hQ484
  have N484 := Fr.app N472 N484q
  show own_At p e below _ T484 m 62 _ [(.int 4)]
  refine own_istoreN (l' := #[.val (.ref o), .val (.ref a), .val (.ref b472), .val (.int 4), .val (.int 4)]) X484 hx (hb hby d9_62) rfl ?_
  refine own_goto X484 hx 29 (hb hby d9_63) (by decide) (by decide) ?_
  refine own_iloadN X484 hx (hb hby d9_29) rfl ?_
  refine own_iload X484 hx (hb hby d9_30) rfl ?_
  refine own_icmpYes X484 hx 66 (hb hby d9_32) (flt (by decide : ¬ ((4 : Int32) < (4 : Int32)))).2.2.2 (by decide) (by decide) ?_
  refine own_aloadN X484 hx (hb hby d9_66) rfl rfl ?_
  refine own_cVirt (W := 0) (rest := []) X484 hx hZ [] hown (own_m hw 113 rfl) (own_m hw 114 rfl) (notFace_of_selects (args := #[]) (mvT hZ (own_m hw 116 rfl))) (own_m hw 116 rfl) (own_m hw 115 rfl) (by decide) (own_m hw 117 rfl) (own_m hw 9 rfl) e484 f474 (rmEm l Z a0 hw [] a b n T472.heap n0 Zs483 f475 (own_alnV f477) hnz) (by rw [hml]; rfl) (lenOf pd_8 rfl) rfl (Nat.le_of_eq rfl) (hb hby d9_67) (by decide) (by decide) (by decide) (by decide) fun v485 T485 L485 X485 hQ485 => ?_
  obtain ⟨rfl, N485q, e485⟩ := hQ485
  have N485 := Fr.app N484 N485q
  show own_At p e below _ T485 m 70 _ [(.int 0)]
  refine own_ifNo X485 hx (hb hby d9_70) (teq (by decide : (0 : Int32) = (0 : Int32))).2 ?_
  refine own_aloadN X485 hx (hb hby d9_73) rfl rfl ?_
  refine own_aloadN X485 hx (hb hby d9_74) rfl rfl ?_
  refine own_cVirt (W := 1) (rest := [(.ref a)]) X485 hx hZ [] hown (own_m hw 61 rfl) (own_m hw 62 rfl) (notFace_of_selects (args := #[]) (mvT hZ (own_m hw 64 rfl))) (own_m hw 64 rfl) (own_m hw 63 rfl) (by decide) (own_m hw 65 rfl) (own_m hw 9 rfl) e485 f474 (rmLen l Z a0 hw [] a b cs n T472.heap n0 Zs483 f473 hcs f474 f475 f476 (own_alnV f477)) (by rw [hml]; rfl) (lenOf pd_9 rfl) rfl (Nat.le_of_eq rfl) (hb hby d9_75) (by decide) (by decide) (by decide) (by decide) fun v486 T486 L486 X486 hQ486 => ?_
  obtain ⟨rfl, N486q, e486⟩ := hQ486
  have N486 := Fr.app N485 N486q
  show own_At p e below _ T486 m 78 _ [(.int n), (.ref a)]
  refine own_iconst X486 hx 1 (hb hby d9_78) rfl ?_
  refine own_isub X486 hx (hb hby d9_79) ?_
  rw [hi]
  refine own_cVirt (W := 0) (rest := []) X486 hx hZ [(.int i)] hown (own_m hw 118 rfl) (own_m hw 119 rfl) (notFace_of_selects (args := #[]) (mvT hZ (own_m hw 121 rfl))) (own_m hw 121 rfl) (own_m hw 120 rfl) (by decide) (own_m hw 122 rfl) (own_m hw 9 rfl) e486 f474 (hCA T472.heap n0 Zs483 f473 hcs f474 f475 f476 f477 f478 hfm) (by rw [hml]; rfl) (lenOf pd_15 rfl) rfl (Nat.le_of_eq rfl) (hb hby d9_80) (by decide) (by decide) (by decide) (by decide) fun v487 T487 L487 X487 hQ487 => ?_
  obtain ⟨rfl, N487q, e487⟩ := hQ487
  have N487 := Fr.app N486 N487q
  show own_At p e below _ T487 m 83 _ [(.int x)]
  refine own_bipush X487 hx 10 (hb hby d9_83) rfl ?_
  refine own_icmpNo X487 hx (hb hby d9_85) (feq hxn).1 ?_
  refine own_iconst X487 hx 1 (hb hby d9_88) rfl ?_
  refine own_goto X487 hx 93 (hb hby d9_89) (by decide) (by decide) ?_
  refine own_istore (l' := #[.val (.ref o), .val (.ref a), .val (.ref b472), .val (.int 4), .val (.int 1)]) X487 hx (hb hby d9_93) rfl ?_
  refine own_aloadN X487 hx (hb hby d9_95) rfl rfl ?_
  refine own_iload X487 hx (hb hby d9_96) rfl ?_
  refine own_ifNo X487 hx (hb hby d9_98) (feq (by decide : ¬ ((1 : Int32) = (0 : Int32)))).1 ?_
  refine own_iloadN X487 hx (hb hby d9_101) rfl ?_
  refine own_goto X487 hx 108 (hb hby d9_102) (by decide) (by decide) ?_
  refine own_putF X487 hx hZ hown (host := "") (Or.inl (own_m hw 134 rfl)) Via.refl e487 f481 f479 (Or.inr ⟨(own_m hw 135 rfl), rfl, hnm⟩) (own_m hw 40 rfl) (ty := .int) (by decide) rfl rfl (hb hby d9_108) fun T488 h488 X488 e488 W488 => ?_
  have Fw488 := Fld.same W488 f481
  have N488 := Fr.snoc X488 N487 g_o
  refine own_aloadN X488 hx (hb hby d9_111) rfl rfl ?_
  refine own_aloadN X488 hx (hb hby d9_112) rfl rfl ?_
  refine own_putF X488 hx hZ hown (host := "") (Or.inl (own_m hw 136 rfl)) Via.refl e488 (Fld.other W488 f482 (Or.inr (slot_ne (Or.inr (own_m hw 137 rfl)) (Or.inr (own_m hw 135 rfl)) (by decide) (t := (.array .int)) (t' := .int) (by decide) (by decide)))) (Exa.wr W488 f479) (Or.inr ⟨(own_m hw 137 rfl), rfl, hnm⟩) (own_m hw 40 rfl) (ty := (.array .int)) (by decide) rfl rfl (hb hby d9_113) fun T489 h489 X489 e489 W489 => ?_
  have Fw489 := Fld.same W489 (Fld.other W488 f482 (Or.inr (slot_ne (Or.inr (own_m hw 137 rfl)) (Or.inr (own_m hw 135 rfl)) (by decide) (t := (.array .int)) (t' := .int) (by decide) (by decide))))
  have N489 := Fr.snoc X489 N488 g_o
  refine own_aloadN X489 hx (hb hby d9_116) rfl rfl ?_
  refine own_getF X489 hx hZ hown (host := "") (Or.inl (own_m hw 136 rfl)) Via.refl e489 Fw489 (hb hby d9_117) fun T490 X490 e490 => ?_
  refine own_aloadN X490 hx (hb hby d9_120) rfl rfl ?_
  refine own_getF X490 hx hZ hown (host := "") (Or.inl (own_m hw 134 rfl)) Via.refl e490 (Fld.other W489 Fw488 (Or.inr (slot_ne (Or.inr (own_m hw 135 rfl)) (Or.inr (own_m hw 137 rfl)) (by decide) (t := .int) (t' := (.array .int)) (by decide) (by decide)))) (hb hby d9_121) fun T491 X491 e491 => ?_
  refine own_aloadN X491 hx (hb hby d9_124) rfl rfl ?_
  refine own_cVirt (W := 2) (rest := [(.int 4), (.ref b472)]) X491 hx hZ [] hown (own_m hw 61 rfl) (own_m hw 62 rfl) (notFace_of_selects (args := #[]) (mvT hZ (own_m hw 64 rfl))) (own_m hw 64 rfl) (own_m hw 63 rfl) (by decide) (own_m hw 65 rfl) (own_m hw 9 rfl) e491 (Exa.wr W489 (Exa.wr W488 f474)) (rmLen l Z a0 hw [] a b cs n h489 n0 (Nat.le_trans (Nat.le_trans Zs483 (Keep.of_wr W488).1) (Keep.of_wr W489).1) (Sta.wr W489 (Sta.wr W488 f473)) hcs (Exa.wr W489 (Exa.wr W488 f474)) (Fld.other W489 (Fld.other W488 f475 (Or.inl (ne_exa f474 f479 (by decide)))) (Or.inl (ne_exa f474 f479 (by decide)))) (Fld.other W489 (Fld.other W488 f476 (Or.inl (ne_exa f474 f479 (by decide)))) (Or.inl (ne_exa f474 f479 (by decide)))) (own_alnV (Arv.other (Arv.other f477 W488 hbo) W489 hbo))) (by rw [hml]; rfl) (lenOf pd_9 rfl) rfl (Nat.le_of_eq rfl) (hb hby d9_125) (by decide) (by decide) (by decide) (by decide) fun v492 T492 L492 X492 hQ492 => ?_
  obtain ⟨rfl, N492q, e492⟩ := hQ492
  have N492 := Fr.app N489 N492q
  show own_At p e below _ T492 m 128 _ [(.int n), (.int 4), (.ref b472)]
  refine own_stI (vs' := [(.int 0), (.int s1), (.int s2), (.int s3), (.int n), (.int 0), (.int 0), (.int 0)]) (w := (.int n)) X492 hx hZ e492 (Arv.other (Arv.other Vb472 W488 (Ne.symm (Nat.ne_of_lt (Nat.lt_of_lt_of_le f467.lt szb472)))) W489 (Ne.symm (Nat.ne_of_lt (Nat.lt_of_lt_of_le f467.lt szb472)))) ⟨by decide, by decide⟩ 4 rfl (Nat.le_of_ble_eq_true rfl) rfl rfl (hb hby d9_128) fun T493 h493 X493 e493 W493 V493 => ?_
  have N493 := Fr.snoc X493 N492 g_b472
  refine own_retV X493 hx hlk hret (hb hby d9_129) (own_kN (by decide) (by decide) ?_)
  try rw [e493]
  exact ⟨rfl, N493, (Keep.wr (Keep.wr (Keep.wr (Keep.trans (Keep.trans (Keep.ext (Keep.wr (Keep.trans (Keep.refl h0 [o]) K448 (allS (Or.inl (List.mem_of_getElem? (i := 0) rfl)) all0)) W456 (Or.inl (List.mem_of_getElem? (i := 0) rfl))) E459) K460 (allS (Or.inr szo_b459) all0)) K472 all0) W488 (Or.inl (List.mem_of_getElem? (i := 0) rfl))) W489 (Or.inl (List.mem_of_getElem? (i := 0) rfl))) W493 (Or.inr szo_b472)), b472, kb472, (Exa.wr W493 (Exa.wr W489 (Exa.wr W488 f479))), (Fld.other W493 (Fld.other W489 Fw488 (Or.inr (slot_ne (Or.inr (own_m hw 135 rfl)) (Or.inr (own_m hw 137 rfl)) (by decide) (t := .int) (t' := (.array .int)) (by decide) (by decide)))) (Or.inl (Nat.ne_of_lt (Nat.lt_of_lt_of_le f467.lt szb472)))), (Fld.other W493 Fw489 (Or.inl (Nat.ne_of_lt (Nat.lt_of_lt_of_le f467.lt szb472)))), V493⟩
set_option maxRecDepth 65536 in
set_option maxHeartbeats 40000000 in
theorem rmLI_5_0 (l : Launch) (Z : State) (a0 : Array Value) (hw : own_Wd a0 Z) (ws : List Jvm.Cond) (o a b : Addr) (kb : ClassId) (cs : Int32) (bs : List Value) (fm : Value) (n i x : Int32) (s1 s2 s3 s4 : Int32)  (h0 : Heap) (n0 : Nat) (Z0 : n0 ≤ h0.size) (Sc : Sta Z h0 "java/lang/String" "COMPACT_STRINGS" "Z" (.int cs)) (hcs : ¬ (cs = (0 : Int32))) (Ea : Exa Z h0 a "java/lang/String") (Fv : Fld Z h0 a "java/lang/String" "value" "[B" (.ref b)) (Fc : Fld Z h0 a "java/lang/String" "coder" "B" (.int 0)) (Vb : Arv Z h0 b kb .byte n bs (.int 0)) (Sf : Sta Z h0 "jdk/internal/util/Preconditions" "SIOOBE_FORMATTER" "Ljava/util/function/BiFunction;" fm) (hfm : fm.isRef = true) (Eo : Exa Z h0 o "com/example/amendtrail/amendtrail/write/Lines") (F_m : Fld Z h0 o "java/util/AbstractList" "modCount" "I" (.int 0)) (g_o : n0 ≤ o) (hbo : b ≠ o) (F_text : Fld Z h0 o "com/example/amendtrail/amendtrail/write/Lines" "text" "Ljava/lang/String;" .null) (F_size : Fld Z h0 o "com/example/amendtrail/amendtrail/write/Lines" "size" "I" (.int 0)) (F_starts : Fld Z h0 o "com/example/amendtrail/amendtrail/write/Lines" "starts" "[I" .null) (hC1 : own_C1 l Z a b kb cs n bs (5 : Int32) [(.int 0), (.int s1), (.int s2), (.int s3), (.int s4), (.int 0), (.int 0), (.int 0)]) (hC2 : own_C2 l Z a b kb cs n bs (5 : Int32) [(.int 0), (.int s1), (.int s2), (.int s3), (.int s4), (.int 0), (.int 0), (.int 0)]) (hCA : own_CA l Z a b kb cs n bs fm i x) (hxn : x = (10 : Int32)) (hi : (n - (1 : Int32)) = i) (hnz : ¬ (n = (0 : Int32))) (hn32 : ¬ (65 : Int32) < (n / (32 : Int32))) :
    own_Met l (⟨"com/example/amendtrail/amendtrail/write/Lines", "<init>", "(Ljava/lang/String;)V"⟩ : MethodName) prog_111_method_1_code 5 none ws ({ frames := 4, cells := 2, slots := 195, locals := 62 } : Room) Z #[(.ref o), (.ref a)] h0 (fun v h L => v = none ∧ Fr n0 L ∧ Keep h0 h [o] ∧ ∃ sa ks, Exa Z h o "com/example/amendtrail/amendtrail/write/Lines" ∧ Fld Z h o "com/example/amendtrail/amendtrail/write/Lines" "size" "I" (.int 4) ∧ Fld Z h o "com/example/amendtrail/amendtrail/write/Lines" "starts" "[I" (.ref sa) ∧ Arv Z h sa ks .int (130 : Int32) (List.map Value.int [(0 : Int32), s1, s2, s3, n, (0 : Int32), (0 : Int32), (0 : Int32)]) (.int 0)) := by
  refine own_body (plainFor_of_name pn_8) ?_
  intro p e s m below meth c s₁ X0 hx hby hml hown hnm hret hlk hZ e0
  replace hown : s.vm.findClass "com/example/amendtrail/amendtrail/write/Lines" = some m.cls := hown
  replace hml : c.maxLocals = 5 := hml
  replace hret : meth.sig.returnType = none := hret
  have N0 := Fr.nil n0
  refine own_ef (L0 := #[.val (.ref o), .val (.ref a), .unset, .unset, .unset]) (by first | (simp [entryFrame, mkF, argsToLocals, Value.category]; done) | rfl) ?_
  refine own_aloadN X0 hx (hb hby d9_0) rfl rfl ?_
  refine own_cSpec (b := o) (W := 0) (rest := []) X0 hx hZ [] rfl hown (own_m hw 45 rfl) (own_m hw 46 rfl) (by decide) (own_m hw 49 rfl) (own_m hw 48 rfl) e0 (rmAL l Z a0 hw [] o h0 n0 Z0 Eo F_m g_o F_text F_size F_starts) (by rw [hml]; rfl) (lenOf pd_13 rfl) rfl (Nat.le_of_eq rfl) (hb hby d9_1) (by decide) (by decide) (by decide) (by decide) fun v494 T494 L494 X494 hQ494 => ?_
  obtain ⟨rfl, N494q, K494, Eo494, Ftext494, Fsize494, Fstarts494⟩ := hQ494
  have N494 := Fr.app N0 N494q
  have f495 := (own_staKeep Sc K494 (allS (own_exaStat Eo) all0))
  have f496 := (Exa.keep Ea K494)
  have f497 := (Fld.keep Fv K494 (ninS (ne_exa f496 Eo494 (by decide)) nin0))
  have f498 := (Fld.keep Fc K494 (ninS (ne_exa f496 Eo494 (by decide)) nin0))
  have f499 := (Arv.keep Vb K494 (ninS hbo nin0))
  have f500 := (own_staKeep Sf K494 (allS (own_exaStat Eo) all0))
  have Zs501 : n0 ≤ T494.heap.size := (Nat.le_trans Z0 K494.1)
  show own_At p e below _ T494 m 4 _ []
  refine own_aloadN X494 hx (hb hby d9_4) rfl rfl ?_
  refine own_aloadN X494 hx (hb hby d9_5) rfl rfl ?_
  refine own_putF X494 hx hZ hown (host := "") (Or.inl (own_m hw 59 rfl)) Via.refl rfl Ftext494 Eo494 (Or.inr ⟨(own_m hw 60 rfl), rfl, hnm⟩) (own_m hw 40 rfl) (ty := (.object "java/lang/String")) (by decide) rfl rfl (hb hby d9_6) fun T502 h502 X502 e502 W502 => ?_
  have Fw502 := Fld.same W502 Ftext494
  have N502 := Fr.snoc X502 N494 g_o
  refine own_bipush X502 hx 65 (hb hby d9_9) rfl ?_
  refine own_aloadN X502 hx (hb hby d9_11) rfl rfl ?_
  refine own_cVirt (W := 1) (rest := [(.int 65)]) X502 hx hZ [] hown (own_m hw 61 rfl) (own_m hw 62 rfl) (notFace_of_selects (args := #[]) (mvT hZ (own_m hw 64 rfl))) (own_m hw 64 rfl) (own_m hw 63 rfl) (by decide) (own_m hw 65 rfl) (own_m hw 9 rfl) e502 (Exa.wr W502 f496) (rmLen l Z a0 hw [] a b cs n h502 n0 (Nat.le_trans Zs501 (Keep.of_wr W502).1) (Sta.wr W502 f495) hcs (Exa.wr W502 f496) (Fld.other W502 f497 (Or.inl (ne_exa f496 Eo494 (by decide)))) (Fld.other W502 f498 (Or.inl (ne_exa f496 Eo494 (by decide)))) (own_alnV (Arv.other f499 W502 hbo))) (by rw [hml]; rfl) (lenOf pd_9 rfl) rfl (Nat.le_of_eq rfl) (hb hby d9_12) (by decide) (by decide) (by decide) (by decide) fun v503 T503 L503 X503 hQ503 => ?_
  obtain ⟨rfl, N503q, e503⟩ := hQ503
  have N503 := Fr.app N502 N503q
  show own_At p e below _ T503 m 15 _ [(.int n), (.int 65)]
  refine own_bipush X503 hx 32 (hb hby d9_15) rfl ?_
  refine own_idiv X503 hx (hb hby d9_17) (by decide) ?_
  refine own_cStat (W := 0) (rest := []) X503 hx hZ [(.int 65), (.int (n / (32 : Int32)))] hown (own_m hw 71 rfl) (own_m hw 72 rfl) (by decide) (own_m hw 74 rfl) (own_m hw 73 rfl) e503 (rmMax l Z a0 hw [] (65 : Int32) (n / (32 : Int32)) h502 n0 (Nat.le_trans Zs501 (Keep.of_wr W502).1) hn32) (by rw [hml]; rfl) (lenOf pd_6 rfl) rfl (Nat.le_of_eq rfl) (hb hby d9_18) (by decide) (by decide) (by decide) (by decide) fun v504 T504 L504 X504 hQ504 => ?_
  obtain ⟨rfl, N504q, e504⟩ := hQ504
  have N504 := Fr.app N503 N504q
  show own_At p e below _ T504 m 21 _ [(.int 65)]
  refine own_newP (n := (65 : Int32)) (cap := 65) (ad := "[I") X504 hx hZ (own_m hw 75 rfl) e504 (hb hby d9_21) (by decide) (by decide) (by decide) (by decide) (by decide) (by decide) fun T505 h505 k505 b505 g505 X505 e505 E505 A505 Ex505 => ?_
  have g_b505 : n0 ≤ b505 := Nat.le_trans (Nat.le_trans Zs501 (Keep.of_wr W502).1) (Nat.le_of_eq g505.symm)
  have szo_b505 : h0.size ≤ b505 := Nat.le_trans (Nat.le_trans (Nat.le_trans (Nat.le_refl h0.size) K494.1) (Keep.of_wr W502).1) (Nat.le_of_eq g505.symm)
  have V505 : Arv Z h505 b505 k505 .int (65 : Int32) [(.int 0), (.int 0), (.int 0), (.int 0), (.int 0), (.int 0), (.int 0), (.int 0)] (.int 0) := (Arv.new A505 (by decide)).pad (pad_rep [] (.int 0) 8)
  refine own_astoreN (l' := #[.val (.ref o), .val (.ref a), .val (.ref b505), .unset, .unset]) X505 hx (hb hby d9_23) rfl rfl ?_
  refine own_iconst X505 hx 1 (hb hby d9_24) rfl ?_
  refine own_istoreN (l' := #[.val (.ref o), .val (.ref a), .val (.ref b505), .val (.int 1), .unset]) X505 hx (hb hby d9_25) rfl ?_
  refine own_iconst X505 hx 0 (hb hby d9_26) rfl ?_
  refine own_istore (l' := #[.val (.ref o), .val (.ref a), .val (.ref b505), .val (.int 1), .val (.int 0)]) X505 hx (hb hby d9_27) rfl ?_
  refine own_iloadN X505 hx (hb hby d9_29) rfl ?_
  refine own_iload X505 hx (hb hby d9_30) rfl ?_
  refine own_icmpNo X505 hx (hb hby d9_32) (tlt (by decide : (0 : Int32) < (1 : Int32))).2.2.2 ?_
  refine own_iloadN X505 hx (hb hby d9_35) rfl ?_
  refine own_bipush X505 hx 64 (hb hby d9_36) rfl ?_
  refine own_iadd X505 hx (hb hby d9_38) ?_
  rw [show ((1 : Int32) + (64 : Int32)) = (65 : Int32) from by decide]
  refine own_aloadN X505 hx (hb hby d9_39) rfl rfl ?_
  refine own_arraylength X505 hx hZ e505 (own_alnV V505) (hb hby d9_40) ?_
  refine own_icmpYes X505 hx 53 (hb hby d9_41) (flt (by decide : ¬ ((65 : Int32) < (65 : Int32)))).2.2.2 (by decide) (by decide) ?_
  refine own_iloadN X505 hx (hb hby d9_53) rfl ?_
  refine own_istore (l' := #[.val (.ref o), .val (.ref a), .val (.ref b505), .val (.int 1), .val (.int 1)]) X505 hx (hb hby d9_54) rfl ?_
  refine own_aloadN X505 hx (hb hby d9_56) rfl rfl ?_
  refine own_aloadN X505 hx (hb hby d9_57) rfl rfl ?_
  refine own_iloadN X505 hx (hb hby d9_58) rfl ?_
  refine own_cStat (W := 0) (rest := []) X505 hx hZ [(.ref a), (.ref b505), (.int 1)] hown (own_m hw 76 rfl) (own_m hw 77 rfl) (by decide) (own_m hw 78 rfl) (own_m hw 41 rfl) e505 (hC1 b505 k505 h505 n0 (Nat.le_trans (Nat.le_trans Zs501 (Keep.of_wr W502).1) E505.1) (Sta.ext E505 (Sta.wr W502 f495)) hcs (Exa.ext E505 (Exa.wr W502 f496)) (Fld.ext E505 (Fld.other W502 f497 (Or.inl (ne_exa f496 Eo494 (by decide))))) (Fld.ext E505 (Fld.other W502 f498 (Or.inl (ne_exa f496 Eo494 (by decide))))) ((Arv.other f499 W502 hbo).ext E505) V505 g_b505 Ex505 (Nat.ne_of_lt (Nat.lt_of_lt_of_le (Arv.other f499 W502 hbo).lt (Nat.le_of_eq g505.symm)))) (by rw [hml]; rfl) (lenOf pd_14 rfl) rfl (Nat.le_of_eq rfl) (hb hby d9_59) (by decide) (by decide) (by decide) (by decide) fun v506 T506 L506 X506 hQ506 => ?_
  obtain ⟨rfl, N506q, K506, Vs506⟩ := hQ506
  have N506 := Fr.app N504 N506q
  have f507 := (own_staKeep (Sta.ext E505 (Sta.wr W502 f495)) K506 (allS (own_exaStat Ex505) all0))
  have f508 := (Exa.keep (Exa.ext E505 (Exa.wr W502 f496)) K506)
  have f509 := (Fld.keep (Fld.ext E505 (Fld.other W502 f497 (Or.inl (ne_exa f508 (Exa.keep (Exa.ext E505 (Exa.wr W502 Eo494)) K506) (by decide))))) K506 (ninS (Nat.ne_of_lt (Nat.lt_of_lt_of_le (Exa.wr W502 f496).lt (Nat.le_of_eq g505.symm))) nin0))
  have f510 := (Fld.keep (Fld.ext E505 (Fld.other W502 f498 (Or.inl (ne_exa f508 (Exa.keep (Exa.ext E505 (Exa.wr W502 Eo494)) K506) (by decide))))) K506 (ninS (Nat.ne_of_lt (Nat.lt_of_lt_of_le (Exa.wr W502 f496).lt (Nat.le_of_eq g505.symm))) nin0))
  have f511 := (Arv.keep ((Arv.other f499 W502 hbo).ext E505) K506 (ninS (Nat.ne_of_lt (Nat.lt_of_lt_of_le (Arv.other f499 W502 hbo).lt (Nat.le_of_eq g505.symm))) nin0))
  have f512 := (own_staKeep (Sta.ext E505 (Sta.wr W502 f500)) K506 (allS (own_exaStat Ex505) all0))
  have f513 := (Exa.keep (Exa.ext E505 (Exa.wr W502 Eo494)) K506)
  have f514 := (Fld.keep (Fld.ext E505 Fw502) K506 (ninS (Nat.ne_of_lt (Nat.lt_of_lt_of_le Fw502.lt (Nat.le_of_eq g505.symm))) nin0))
  have f515 := (Fld.keep (Fld.ext E505 (Fld.other W502 Fsize494 (Or.inr (slot_ne (Or.inr (own_m hw 135 rfl)) (Or.inr (own_m hw 60 rfl)) (by decide) (t := .int) (t' := (.object "java/lang/String")) (by decide) (by decide))))) K506 (ninS (Nat.ne_of_lt (Nat.lt_of_lt_of_le Fw502.lt (Nat.le_of_eq g505.symm))) nin0))
  have f516 := (Fld.keep (Fld.ext E505 (Fld.other W502 Fstarts494 (Or.inr (slot_ne (Or.inr (own_m hw 137 rfl)) (Or.inr (own_m hw 60 rfl)) (by decide) (t := (.array .int)) (t' := (.object "java/lang/String")) (by decide) (by decide))))) K506 (ninS (Nat.ne_of_lt (Nat.lt_of_lt_of_le Fw502.lt (Nat.le_of_eq g505.symm))) nin0))
  have Zs517 : n0 ≤ T506.heap.size := (Nat.le_trans (Nat.le_trans (Nat.le_trans Zs501 (Keep.of_wr W502).1) E505.1) K506.1)
  show own_At p e below _ T506 m 62 _ [(.int 5)]
  refine own_istoreN (l' := #[.val (.ref o), .val (.ref a), .val (.ref b505), .val (.int 5), .val (.int 1)]) X506 hx (hb hby d9_62) rfl ?_
  refine own_goto X506 hx 29 (hb hby d9_63) (by decide) (by decide) ?_
  refine own_iloadN X506 hx (hb hby d9_29) rfl ?_
  refine own_iload X506 hx (hb hby d9_30) rfl ?_
  refine own_icmpNo X506 hx (hb hby d9_32) (tlt (by decide : (1 : Int32) < (5 : Int32))).2.2.2 ?_
  refine own_iloadN X506 hx (hb hby d9_35) rfl ?_
  refine own_bipush X506 hx 64 (hb hby d9_36) rfl ?_
  refine own_iadd X506 hx (hb hby d9_38) ?_
  rw [show ((5 : Int32) + (64 : Int32)) = (69 : Int32) from by decide]
  refine own_aloadN X506 hx (hb hby d9_39) rfl rfl ?_
  refine own_arraylength X506 hx hZ rfl (own_alnV Vs506) (hb hby d9_40) ?_
  refine own_icmpNo X506 hx (hb hby d9_41) (tlt (by decide : (65 : Int32) < (69 : Int32))).2.2.2 ?_
  refine own_aloadN X506 hx (hb hby d9_44) rfl rfl ?_
  refine own_aloadN X506 hx (hb hby d9_45) rfl rfl ?_
  refine own_arraylength X506 hx hZ rfl (own_alnV Vs506) (hb hby d9_46) ?_
  refine own_iconst X506 hx 2 (hb hby d9_47) rfl ?_
  refine own_imul X506 hx (hb hby d9_48) ?_
  rw [show ((65 : Int32) * (2 : Int32)) = (130 : Int32) from by decide]
  refine own_cStat (W := 0) (rest := []) X506 hx hZ [(.ref b505), (.int 130)] hown (own_m hw 104 rfl) (own_m hw 105 rfl) (by decide) (own_m hw 107 rfl) (own_m hw 106 rfl) rfl (rmCopy l Z a0 hw [] b505 k505 (0 : Int32) s1 s2 s3 s4 (0 : Int32) (0 : Int32) (0 : Int32) T506.heap n0 Zs517 Vs506) (by rw [hml]; rfl) (lenOf pd_16 rfl) rfl (Nat.le_of_eq rfl) (hb hby d9_49) (by decide) (by decide) (by decide) (by decide) fun v518 T518 L518 X518 hQ518 => ?_
  obtain ⟨b518, kb518, rfl, N518q, K518, szb518, gb518, Eb518, Vb518⟩ := hQ518
  have N518 := Fr.app N506 N518q
  have g_b518 := gb518
  have szo_b518 : h0.size ≤ b518 := Nat.le_trans (Nat.le_trans (Nat.le_trans (Nat.le_trans (Nat.le_trans (Nat.le_refl h0.size) K494.1) (Keep.of_wr W502).1) E505.1) K506.1) szb518
  have f519 := (own_staKeep f507 K518 all0)
  have f520 := (Exa.keep f508 K518)
  have f521 := (Fld.keep f509 K518 nin0)
  have f522 := (Fld.keep f510 K518 nin0)
  have f523 := (Arv.keep f511 K518 nin0)
  have f524 := (own_staKeep f512 K518 all0)
  have f525 := (Exa.keep f513 K518)
  have f526 := (Fld.keep f514 K518 nin0)
  have f527 := (Fld.keep f515 K518 nin0)
  have f528 := (Fld.keep f516 K518 nin0)
  have Zs529 : n0 ≤ T518.heap.size := (Nat.le_trans Zs517 K518.1)
  show own_At p e below _ T518 m 52 _ [(.ref b518)]
  refine own_astoreN (l' := #[.val (.ref o), .val (.ref a), .val (.ref b518), .val (.int 5), .val (.int 1)]) X518 hx (hb hby d9_52) rfl rfl ?_
  refine own_iloadN X518 hx (hb hby d9_53) rfl ?_
  refine own_istore (l' := #[.val (.ref o), .val (.ref a), .val (.ref b518), .val (.int 5), .val (.int 5)]) X518 hx (hb hby d9_54) rfl ?_
  refine own_aloadN X518 hx (hb hby d9_56) rfl rfl ?_
  refine own_aloadN X518 hx (hb hby d9_57) rfl rfl ?_
  refine own_iloadN X518 hx (hb hby d9_58) rfl ?_
  refine own_cStat (W := 0) (rest := []) X518 hx hZ [(.ref a), (.ref b518), (.int 5)] hown (own_m hw 76 rfl) (own_m hw 77 rfl) (by decide) (own_m hw 78 rfl) (own_m hw 41 rfl) rfl (hC2 b518 kb518 T518.heap n0 Zs529 f519 hcs f520 f521 f522 f523 Vb518) (by rw [hml]; rfl) (lenOf pd_14 rfl) rfl (Nat.le_of_eq rfl) (hb hby d9_59) (by decide) (by decide) (by decide) (by decide) fun v530 T530 L530 X530 hQ530 => ?_
  obtain ⟨rfl, N530q, e530⟩ := hQ530
  have N530 := Fr.app N518 N530q
  show own_At p e below _ T530 m 62 _ [(.int 5)]
  refine own_istoreN (l' := #[.val (.ref o), .val (.ref a), .val (.ref b518), .val (.int 5), .val (.int 5)]) X530 hx (hb hby d9_62) rfl ?_
  refine own_goto X530 hx 29 (hb hby d9_63) (by decide) (by decide) ?_
  refine own_iloadN X530 hx (hb hby d9_29) rfl ?_
  refine own_iload X530 hx (hb hby d9_30) rfl ?_
  refine own_icmpYes X530 hx 66 (hb hby d9_32) (flt (by decide : ¬ ((5 : Int32) < (5 : Int32)))).2.2.2 (by decide) (by decide) ?_
  refine own_aloadN X530 hx (hb hby d9_66) rfl rfl ?_
  refine own_cVirt (W := 0) (rest := []) X530 hx hZ [] hown (own_m hw 113 rfl) (own_m hw 114 rfl) (notFace_of_selects (args := #[]) (mvT hZ (own_m hw 116 rfl))) (own_m hw 116 rfl) (own_m hw 115 rfl) (by decide) (own_m hw 117 rfl) (own_m hw 9 rfl) e530 f520 (rmEm l Z a0 hw [] a b n T518.heap n0 Zs529 f521 (own_alnV f523) hnz) (by rw [hml]; rfl) (lenOf pd_8 rfl) rfl (Nat.le_of_eq rfl) (hb hby d9_67) (by decide) (by decide) (by decide) (by decide) fun v531 T531 L531 X531 hQ531 => ?_
  obtain ⟨rfl, N531q, e531⟩ := hQ531
  have N531 := Fr.app N530 N531q
  show own_At p e below _ T531 m 70 _ [(.int 0)]
  refine own_ifNo X531 hx (hb hby d9_70) (teq (by decide : (0 : Int32) = (0 : Int32))).2 ?_
  refine own_aloadN X531 hx (hb hby d9_73) rfl rfl ?_
  refine own_aloadN X531 hx (hb hby d9_74) rfl rfl ?_
  refine own_cVirt (W := 1) (rest := [(.ref a)]) X531 hx hZ [] hown (own_m hw 61 rfl) (own_m hw 62 rfl) (notFace_of_selects (args := #[]) (mvT hZ (own_m hw 64 rfl))) (own_m hw 64 rfl) (own_m hw 63 rfl) (by decide) (own_m hw 65 rfl) (own_m hw 9 rfl) e531 f520 (rmLen l Z a0 hw [] a b cs n T518.heap n0 Zs529 f519 hcs f520 f521 f522 (own_alnV f523)) (by rw [hml]; rfl) (lenOf pd_9 rfl) rfl (Nat.le_of_eq rfl) (hb hby d9_75) (by decide) (by decide) (by decide) (by decide) fun v532 T532 L532 X532 hQ532 => ?_
  obtain ⟨rfl, N532q, e532⟩ := hQ532
  have N532 := Fr.app N531 N532q
  show own_At p e below _ T532 m 78 _ [(.int n), (.ref a)]
  refine own_iconst X532 hx 1 (hb hby d9_78) rfl ?_
  refine own_isub X532 hx (hb hby d9_79) ?_
  rw [hi]
  refine own_cVirt (W := 0) (rest := []) X532 hx hZ [(.int i)] hown (own_m hw 118 rfl) (own_m hw 119 rfl) (notFace_of_selects (args := #[]) (mvT hZ (own_m hw 121 rfl))) (own_m hw 121 rfl) (own_m hw 120 rfl) (by decide) (own_m hw 122 rfl) (own_m hw 9 rfl) e532 f520 (hCA T518.heap n0 Zs529 f519 hcs f520 f521 f522 f523 f524 hfm) (by rw [hml]; rfl) (lenOf pd_15 rfl) rfl (Nat.le_of_eq rfl) (hb hby d9_80) (by decide) (by decide) (by decide) (by decide) fun v533 T533 L533 X533 hQ533 => ?_
  obtain ⟨rfl, N533q, e533⟩ := hQ533
  have N533 := Fr.app N532 N533q
  show own_At p e below _ T533 m 83 _ [(.int x)]
  refine own_bipush X533 hx 10 (hb hby d9_83) rfl ?_
  refine own_icmpYes X533 hx 92 (hb hby d9_85) (teq hxn).1 (by decide) (by decide) ?_
  refine own_iconst X533 hx 0 (hb hby d9_92) rfl ?_
  refine own_istore (l' := #[.val (.ref o), .val (.ref a), .val (.ref b518), .val (.int 5), .val (.int 0)]) X533 hx (hb hby d9_93) rfl ?_
  refine own_aloadN X533 hx (hb hby d9_95) rfl rfl ?_
  refine own_iload X533 hx (hb hby d9_96) rfl ?_
  refine own_ifYes X533 hx 105 (hb hby d9_98) (teq (by decide : (0 : Int32) = (0 : Int32))).1 (by decide) (by decide) ?_
  refine own_iloadN X533 hx (hb hby d9_105) rfl ?_
  refine own_iconst X533 hx 1 (hb hby d9_106) rfl ?_
  refine own_isub X533 hx (hb hby d9_107) ?_
  rw [show ((5 : Int32) - (1 : Int32)) = (4 : Int32) from by decide]
  refine own_putF X533 hx hZ hown (host := "") (Or.inl (own_m hw 134 rfl)) Via.refl e533 f527 f525 (Or.inr ⟨(own_m hw 135 rfl), rfl, hnm⟩) (own_m hw 40 rfl) (ty := .int) (by decide) rfl rfl (hb hby d9_108) fun T534 h534 X534 e534 W534 => ?_
  have Fw534 := Fld.same W534 f527
  have N534 := Fr.snoc X534 N533 g_o
  refine own_aloadN X534 hx (hb hby d9_111) rfl rfl ?_
  refine own_aloadN X534 hx (hb hby d9_112) rfl rfl ?_
  refine own_putF X534 hx hZ hown (host := "") (Or.inl (own_m hw 136 rfl)) Via.refl e534 (Fld.other W534 f528 (Or.inr (slot_ne (Or.inr (own_m hw 137 rfl)) (Or.inr (own_m hw 135 rfl)) (by decide) (t := (.array .int)) (t' := .int) (by decide) (by decide)))) (Exa.wr W534 f525) (Or.inr ⟨(own_m hw 137 rfl), rfl, hnm⟩) (own_m hw 40 rfl) (ty := (.array .int)) (by decide) rfl rfl (hb hby d9_113) fun T535 h535 X535 e535 W535 => ?_
  have Fw535 := Fld.same W535 (Fld.other W534 f528 (Or.inr (slot_ne (Or.inr (own_m hw 137 rfl)) (Or.inr (own_m hw 135 rfl)) (by decide) (t := (.array .int)) (t' := .int) (by decide) (by decide))))
  have N535 := Fr.snoc X535 N534 g_o
  refine own_aloadN X535 hx (hb hby d9_116) rfl rfl ?_
  refine own_getF X535 hx hZ hown (host := "") (Or.inl (own_m hw 136 rfl)) Via.refl e535 Fw535 (hb hby d9_117) fun T536 X536 e536 => ?_
  refine own_aloadN X536 hx (hb hby d9_120) rfl rfl ?_
  refine own_getF X536 hx hZ hown (host := "") (Or.inl (own_m hw 134 rfl)) Via.refl e536 (Fld.other W535 Fw534 (Or.inr (slot_ne (Or.inr (own_m hw 135 rfl)) (Or.inr (own_m hw 137 rfl)) (by decide) (t := .int) (t' := (.array .int)) (by decide) (by decide)))) (hb hby d9_121) fun T537 X537 e537 => ?_
  refine own_aloadN X537 hx (hb hby d9_124) rfl rfl ?_
  refine own_cVirt (W := 2) (rest := [(.int 4), (.ref b518)]) X537 hx hZ [] hown (own_m hw 61 rfl) (own_m hw 62 rfl) (notFace_of_selects (args := #[]) (mvT hZ (own_m hw 64 rfl))) (own_m hw 64 rfl) (own_m hw 63 rfl) (by decide) (own_m hw 65 rfl) (own_m hw 9 rfl) e537 (Exa.wr W535 (Exa.wr W534 f520)) (rmLen l Z a0 hw [] a b cs n h535 n0 (Nat.le_trans (Nat.le_trans Zs529 (Keep.of_wr W534).1) (Keep.of_wr W535).1) (Sta.wr W535 (Sta.wr W534 f519)) hcs (Exa.wr W535 (Exa.wr W534 f520)) (Fld.other W535 (Fld.other W534 f521 (Or.inl (ne_exa f520 f525 (by decide)))) (Or.inl (ne_exa f520 f525 (by decide)))) (Fld.other W535 (Fld.other W534 f522 (Or.inl (ne_exa f520 f525 (by decide)))) (Or.inl (ne_exa f520 f525 (by decide)))) (own_alnV (Arv.other (Arv.other f523 W534 hbo) W535 hbo))) (by rw [hml]; rfl) (lenOf pd_9 rfl) rfl (Nat.le_of_eq rfl) (hb hby d9_125) (by decide) (by decide) (by decide) (by decide) fun v538 T538 L538 X538 hQ538 => ?_
  obtain ⟨rfl, N538q, e538⟩ := hQ538
  have N538 := Fr.app N535 N538q
  show own_At p e below _ T538 m 128 _ [(.int n), (.int 4), (.ref b518)]
  refine own_stI (vs' := [(.int 0), (.int s1), (.int s2), (.int s3), (.int n), (.int 0), (.int 0), (.int 0)]) (w := (.int n)) X538 hx hZ e538 (Arv.other (Arv.other Vb518 W534 (Ne.symm (Nat.ne_of_lt (Nat.lt_of_lt_of_le f513.lt szb518)))) W535 (Ne.symm (Nat.ne_of_lt (Nat.lt_of_lt_of_le f513.lt szb518)))) ⟨by decide, by decide⟩ 4 rfl (Nat.le_of_ble_eq_true rfl) rfl rfl (hb hby d9_128) fun T539 h539 X539 e539 W539 V539 => ?_
  have N539 := Fr.snoc X539 N538 g_b518
  refine own_retV X539 hx hlk hret (hb hby d9_129) (own_kN (by decide) (by decide) ?_)
  try rw [e539]
  exact ⟨rfl, N539, (Keep.wr (Keep.wr (Keep.wr (Keep.trans (Keep.trans (Keep.ext (Keep.wr (Keep.trans (Keep.refl h0 [o]) K494 (allS (Or.inl (List.mem_of_getElem? (i := 0) rfl)) all0)) W502 (Or.inl (List.mem_of_getElem? (i := 0) rfl))) E505) K506 (allS (Or.inr szo_b505) all0)) K518 all0) W534 (Or.inl (List.mem_of_getElem? (i := 0) rfl))) W535 (Or.inl (List.mem_of_getElem? (i := 0) rfl))) W539 (Or.inr szo_b518)), b518, kb518, (Exa.wr W539 (Exa.wr W535 (Exa.wr W534 f525))), (Fld.other W539 (Fld.other W535 Fw534 (Or.inr (slot_ne (Or.inr (own_m hw 135 rfl)) (Or.inr (own_m hw 137 rfl)) (by decide) (t := .int) (t' := (.array .int)) (by decide) (by decide)))) (Or.inl (Nat.ne_of_lt (Nat.lt_of_lt_of_le f513.lt szb518)))), (Fld.other W539 Fw535 (Or.inl (Nat.ne_of_lt (Nat.lt_of_lt_of_le f513.lt szb518)))), V539⟩
def own_nl (c : Int32) : Int32 := if c = (10 : Int32) then (1 : Int32) else (0 : Int32)
def own_start0 (k : Int32) : Int32 := if k = (0 : Int32) then (0 : Int32) else (0 : Int32)
theorem d30_0 : decode method_5_code 0 = .ok (.iload_n 2, 1) := by decide +kernel
theorem d30_1 : decode method_5_code 1 = .ok (.ifCond .ne 5, 3) := by decide +kernel
theorem d30_4 : decode method_5_code 4 = .ok (.iconst 0, 1) := by decide +kernel
theorem d30_5 : decode method_5_code 5 = .ok (.ireturn, 1) := by decide +kernel
theorem d30_6 : decode method_5_code 6 = .ok (.iconst 0, 1) := by decide +kernel
theorem d30_7 : decode method_5_code 7 = .ok (.istore_n 3, 1) := by decide +kernel
theorem d30_8 : decode method_5_code 8 = .ok (.iload_n 1, 1) := by decide +kernel
theorem d30_9 : decode method_5_code 9 = .ok (.ifCond .le 21, 3) := by decide +kernel
theorem d30_12 : decode method_5_code 12 = .ok (.aload_n 0, 1) := by decide +kernel
theorem d30_13 : decode method_5_code 13 = .ok (.iconst 0, 1) := by decide +kernel
theorem d30_14 : decode method_5_code 14 = .ok (.caload, 1) := by decide +kernel
theorem d30_15 : decode method_5_code 15 = .ok (.bipush 10, 2) := by decide +kernel
theorem d30_17 : decode method_5_code 17 = .ok (.if_icmp .ne 13, 3) := by decide +kernel
theorem d30_20 : decode method_5_code 20 = .ok (.iinc 3 1, 3) := by decide +kernel
theorem d30_23 : decode method_5_code 23 = .ok (.iload_n 3, 1) := by decide +kernel
theorem d30_24 : decode method_5_code 24 = .ok (.iload_n 2, 1) := by decide +kernel
theorem d30_25 : decode method_5_code 25 = .ok (.if_icmp .ne 5, 3) := by decide +kernel
theorem d30_28 : decode method_5_code 28 = .ok (.iconst 1, 1) := by decide +kernel
theorem d30_29 : decode method_5_code 29 = .ok (.ireturn, 1) := by decide +kernel
theorem d30_30 : decode method_5_code 30 = .ok (.iload_n 1, 1) := by decide +kernel
theorem d30_31 : decode method_5_code 31 = .ok (.iconst 1, 1) := by decide +kernel
theorem d30_32 : decode method_5_code 32 = .ok (.if_icmp .le 21, 3) := by decide +kernel
theorem d30_35 : decode method_5_code 35 = .ok (.aload_n 0, 1) := by decide +kernel
theorem d30_36 : decode method_5_code 36 = .ok (.iconst 1, 1) := by decide +kernel
theorem d30_37 : decode method_5_code 37 = .ok (.caload, 1) := by decide +kernel
theorem d30_38 : decode method_5_code 38 = .ok (.bipush 10, 2) := by decide +kernel
theorem d30_40 : decode method_5_code 40 = .ok (.if_icmp .ne 13, 3) := by decide +kernel
theorem d30_43 : decode method_5_code 43 = .ok (.iinc 3 1, 3) := by decide +kernel
theorem d30_46 : decode method_5_code 46 = .ok (.iload_n 3, 1) := by decide +kernel
theorem d30_47 : decode method_5_code 47 = .ok (.iload_n 2, 1) := by decide +kernel
theorem d30_48 : decode method_5_code 48 = .ok (.if_icmp .ne 5, 3) := by decide +kernel
theorem d30_51 : decode method_5_code 51 = .ok (.iconst 2, 1) := by decide +kernel
theorem d30_52 : decode method_5_code 52 = .ok (.ireturn, 1) := by decide +kernel
theorem d30_53 : decode method_5_code 53 = .ok (.iload_n 1, 1) := by decide +kernel
theorem d30_54 : decode method_5_code 54 = .ok (.iconst 2, 1) := by decide +kernel
theorem d30_55 : decode method_5_code 55 = .ok (.if_icmp .le 21, 3) := by decide +kernel
theorem d30_58 : decode method_5_code 58 = .ok (.aload_n 0, 1) := by decide +kernel
theorem d30_59 : decode method_5_code 59 = .ok (.iconst 2, 1) := by decide +kernel
theorem d30_60 : decode method_5_code 60 = .ok (.caload, 1) := by decide +kernel
theorem d30_61 : decode method_5_code 61 = .ok (.bipush 10, 2) := by decide +kernel
theorem d30_63 : decode method_5_code 63 = .ok (.if_icmp .ne 13, 3) := by decide +kernel
theorem d30_66 : decode method_5_code 66 = .ok (.iinc 3 1, 3) := by decide +kernel
theorem d30_69 : decode method_5_code 69 = .ok (.iload_n 3, 1) := by decide +kernel
theorem d30_70 : decode method_5_code 70 = .ok (.iload_n 2, 1) := by decide +kernel
theorem d30_71 : decode method_5_code 71 = .ok (.if_icmp .ne 5, 3) := by decide +kernel
theorem d30_74 : decode method_5_code 74 = .ok (.iconst 3, 1) := by decide +kernel
theorem d30_75 : decode method_5_code 75 = .ok (.ireturn, 1) := by decide +kernel
theorem d30_76 : decode method_5_code 76 = .ok (.iload_n 1, 1) := by decide +kernel
theorem d30_77 : decode method_5_code 77 = .ok (.iconst 3, 1) := by decide +kernel
theorem d30_78 : decode method_5_code 78 = .ok (.if_icmp .le 21, 3) := by decide +kernel
theorem d30_81 : decode method_5_code 81 = .ok (.aload_n 0, 1) := by decide +kernel
theorem d30_82 : decode method_5_code 82 = .ok (.iconst 3, 1) := by decide +kernel
theorem d30_83 : decode method_5_code 83 = .ok (.caload, 1) := by decide +kernel
theorem d30_84 : decode method_5_code 84 = .ok (.bipush 10, 2) := by decide +kernel
theorem d30_86 : decode method_5_code 86 = .ok (.if_icmp .ne 13, 3) := by decide +kernel
theorem d30_89 : decode method_5_code 89 = .ok (.iinc 3 1, 3) := by decide +kernel
theorem d30_92 : decode method_5_code 92 = .ok (.iload_n 3, 1) := by decide +kernel
theorem d30_93 : decode method_5_code 93 = .ok (.iload_n 2, 1) := by decide +kernel
theorem d30_94 : decode method_5_code 94 = .ok (.if_icmp .ne 5, 3) := by decide +kernel
theorem d30_97 : decode method_5_code 97 = .ok (.iconst 4, 1) := by decide +kernel
theorem d30_98 : decode method_5_code 98 = .ok (.ireturn, 1) := by decide +kernel
theorem d30_99 : decode method_5_code 99 = .ok (.iload_n 1, 1) := by decide +kernel
theorem d30_100 : decode method_5_code 100 = .ok (.ireturn, 1) := by decide +kernel
set_option maxRecDepth 65536 in
set_option maxHeartbeats 40000000 in
theorem rmSt_0 (l : Launch) (Z : State) (a0 : Array Value) (hw : own_Wd a0 Z) (ws : List Jvm.Cond) (ca : Addr) (kc : ClassId) (k : Int32)  (h0 : Heap) (n0 : Nat) (Z0 : n0 ≤ h0.size) (Vc : Arv Z h0 ca kc .char (0 : Int32) [] (.int 0)) :
    own_Met l (⟨"com/example/amendtrail/amendtrail/write/LinesLengthPinLaw", "start", "([CII)I"⟩ : MethodName) method_5_code 4 (some .int) ws ({ frames := 0, cells := 0, slots := 0, locals := 0 } : Room) Z #[(.ref ca), (.int 0), (.int k)] h0 (fun v h L => v = some (.int (own_start0  k)) ∧ Fr n0 L ∧ h = h0) := by
  refine own_body (plainFor_of_name pn_0) ?_
  intro p e s m below meth c s₁ X0 hx hby hml hown hnm hret hlk hZ e0
  replace hown : s.vm.findClass "com/example/amendtrail/amendtrail/write/LinesLengthPinLaw" = some m.cls := hown
  replace hml : c.maxLocals = 4 := hml
  replace hret : meth.sig.returnType = (some .int) := hret
  have N0 := Fr.nil n0
  refine own_ef (L0 := #[.val (.ref ca), .val (.int 0), .val (.int k), .unset]) (by first | (simp [entryFrame, mkF, argsToLocals, Value.category]; done) | rfl) ?_
  refine own_iloadN X0 hx (hb hby d30_0) rfl ?_
  by_cases hc540 : k = (0 : Int32)
  · refine own_ifNo X0 hx (hb hby d30_1) (teq hc540).2 ?_
    refine own_iconst X0 hx 0 (hb hby d30_4) rfl ?_
    refine own_retI X0 hx hlk hret (hb hby d30_5) (own_kN (by decide) (by decide) ?_)
    try rw [e0]
    exact ⟨by unfold own_start0; rw [if_pos hc540], N0, rfl⟩
  · refine own_ifYes X0 hx 6 (hb hby d30_1) (feq hc540).2 (by decide) (by decide) ?_
    refine own_iconst X0 hx 0 (hb hby d30_6) rfl ?_
    refine own_istoreN (l' := #[.val (.ref ca), .val (.int 0), .val (.int k), .val (.int 0)]) X0 hx (hb hby d30_7) rfl ?_
    refine own_iloadN X0 hx (hb hby d30_8) rfl ?_
    refine own_ifYes X0 hx 30 (hb hby d30_9) (flt (by decide : ¬ ((0 : Int32) < (0 : Int32)))).2.2.2 (by decide) (by decide) ?_
    refine own_iloadN X0 hx (hb hby d30_30) rfl ?_
    refine own_iconst X0 hx 1 (hb hby d30_31) rfl ?_
    refine own_icmpYes X0 hx 53 (hb hby d30_32) (flt (by decide : ¬ ((1 : Int32) < (0 : Int32)))).2.2.2 (by decide) (by decide) ?_
    refine own_iloadN X0 hx (hb hby d30_53) rfl ?_
    refine own_iconst X0 hx 2 (hb hby d30_54) rfl ?_
    refine own_icmpYes X0 hx 76 (hb hby d30_55) (flt (by decide : ¬ ((2 : Int32) < (0 : Int32)))).2.2.2 (by decide) (by decide) ?_
    refine own_iloadN X0 hx (hb hby d30_76) rfl ?_
    refine own_iconst X0 hx 3 (hb hby d30_77) rfl ?_
    refine own_icmpYes X0 hx 99 (hb hby d30_78) (flt (by decide : ¬ ((3 : Int32) < (0 : Int32)))).2.2.2 (by decide) (by decide) ?_
    refine own_iloadN X0 hx (hb hby d30_99) rfl ?_
    refine own_retI X0 hx hlk hret (hb hby d30_100) (own_kN (by decide) (by decide) ?_)
    try rw [e0]
    exact ⟨by unfold own_start0; rw [if_neg hc540], N0, rfl⟩
def own_start1 (c0 : Int32) (k : Int32) : Int32 := if k = (0 : Int32) then (0 : Int32) else (if c0 = (10 : Int32) then (if (1 : Int32) = k then (1 : Int32) else (1 : Int32)) else (1 : Int32))
set_option maxRecDepth 65536 in
set_option maxHeartbeats 40000000 in
theorem rmSt_1 (l : Launch) (Z : State) (a0 : Array Value) (hw : own_Wd a0 Z) (ws : List Jvm.Cond) (ca : Addr) (kc : ClassId) (c0 : Int32) (k : Int32)  (h0 : Heap) (n0 : Nat) (Z0 : n0 ≤ h0.size) (Vc : Arv Z h0 ca kc .char (1 : Int32) [(.int c0)] (.int 0)) :
    own_Met l (⟨"com/example/amendtrail/amendtrail/write/LinesLengthPinLaw", "start", "([CII)I"⟩ : MethodName) method_5_code 4 (some .int) ws ({ frames := 0, cells := 0, slots := 0, locals := 0 } : Room) Z #[(.ref ca), (.int 1), (.int k)] h0 (fun v h L => v = some (.int (own_start1 c0 k)) ∧ Fr n0 L ∧ h = h0) := by
  refine own_body (plainFor_of_name pn_0) ?_
  intro p e s m below meth c s₁ X0 hx hby hml hown hnm hret hlk hZ e0
  replace hown : s.vm.findClass "com/example/amendtrail/amendtrail/write/LinesLengthPinLaw" = some m.cls := hown
  replace hml : c.maxLocals = 4 := hml
  replace hret : meth.sig.returnType = (some .int) := hret
  have N0 := Fr.nil n0
  refine own_ef (L0 := #[.val (.ref ca), .val (.int 1), .val (.int k), .unset]) (by first | (simp [entryFrame, mkF, argsToLocals, Value.category]; done) | rfl) ?_
  refine own_iloadN X0 hx (hb hby d30_0) rfl ?_
  by_cases hc541 : k = (0 : Int32)
  · refine own_ifNo X0 hx (hb hby d30_1) (teq hc541).2 ?_
    refine own_iconst X0 hx 0 (hb hby d30_4) rfl ?_
    refine own_retI X0 hx hlk hret (hb hby d30_5) (own_kN (by decide) (by decide) ?_)
    try rw [e0]
    exact ⟨by unfold own_start1; rw [if_pos hc541], N0, rfl⟩
  · refine own_ifYes X0 hx 6 (hb hby d30_1) (feq hc541).2 (by decide) (by decide) ?_
    refine own_iconst X0 hx 0 (hb hby d30_6) rfl ?_
    refine own_istoreN (l' := #[.val (.ref ca), .val (.int 1), .val (.int k), .val (.int 0)]) X0 hx (hb hby d30_7) rfl ?_
    refine own_iloadN X0 hx (hb hby d30_8) rfl ?_
    refine own_ifNo X0 hx (hb hby d30_9) (tlt (by decide : (0 : Int32) < (1 : Int32))).2.2.2 ?_
    refine own_aloadN X0 hx (hb hby d30_12) rfl rfl ?_
    refine own_iconst X0 hx 0 (hb hby d30_13) rfl ?_
    refine own_caload X0 hx hZ (.int c0) e0 Vc ⟨by decide, by decide⟩ rfl (hb hby d30_14) ?_
    refine own_bipush X0 hx 10 (hb hby d30_15) rfl ?_
    by_cases hc542 : c0 = (10 : Int32)
    · refine own_icmpNo X0 hx (hb hby d30_17) (teq hc542).2 ?_
      refine own_iinc (l' := #[.val (.ref ca), .val (.int 1), .val (.int k), .val (.int ((0 : Int32) + (1 : Int32)))]) X0 hx (hb hby d30_20) rfl rfl ?_
      rw [show ((0 : Int32) + (1 : Int32)) = (1 : Int32) from by decide]
      refine own_iloadN X0 hx (hb hby d30_23) rfl ?_
      refine own_iloadN X0 hx (hb hby d30_24) rfl ?_
      by_cases hc543 : (1 : Int32) = k
      · refine own_icmpNo X0 hx (hb hby d30_25) (teq hc543).2 ?_
        refine own_iconst X0 hx 1 (hb hby d30_28) rfl ?_
        refine own_retI X0 hx hlk hret (hb hby d30_29) (own_kN (by decide) (by decide) ?_)
        try rw [e0]
        exact ⟨by unfold own_start1; rw [if_neg hc541, if_pos hc542, if_pos hc543], N0, rfl⟩
      · refine own_icmpYes X0 hx 30 (hb hby d30_25) (feq hc543).2 (by decide) (by decide) ?_
        refine own_iloadN X0 hx (hb hby d30_30) rfl ?_
        refine own_iconst X0 hx 1 (hb hby d30_31) rfl ?_
        refine own_icmpYes X0 hx 53 (hb hby d30_32) (flt (by decide : ¬ ((1 : Int32) < (1 : Int32)))).2.2.2 (by decide) (by decide) ?_
        refine own_iloadN X0 hx (hb hby d30_53) rfl ?_
        refine own_iconst X0 hx 2 (hb hby d30_54) rfl ?_
        refine own_icmpYes X0 hx 76 (hb hby d30_55) (flt (by decide : ¬ ((2 : Int32) < (1 : Int32)))).2.2.2 (by decide) (by decide) ?_
        refine own_iloadN X0 hx (hb hby d30_76) rfl ?_
        refine own_iconst X0 hx 3 (hb hby d30_77) rfl ?_
        refine own_icmpYes X0 hx 99 (hb hby d30_78) (flt (by decide : ¬ ((3 : Int32) < (1 : Int32)))).2.2.2 (by decide) (by decide) ?_
        refine own_iloadN X0 hx (hb hby d30_99) rfl ?_
        refine own_retI X0 hx hlk hret (hb hby d30_100) (own_kN (by decide) (by decide) ?_)
        try rw [e0]
        exact ⟨by unfold own_start1; rw [if_neg hc541, if_pos hc542, if_neg hc543], N0, rfl⟩
    · refine own_icmpYes X0 hx 30 (hb hby d30_17) (feq hc542).2 (by decide) (by decide) ?_
      refine own_iloadN X0 hx (hb hby d30_30) rfl ?_
      refine own_iconst X0 hx 1 (hb hby d30_31) rfl ?_
      refine own_icmpYes X0 hx 53 (hb hby d30_32) (flt (by decide : ¬ ((1 : Int32) < (1 : Int32)))).2.2.2 (by decide) (by decide) ?_
      refine own_iloadN X0 hx (hb hby d30_53) rfl ?_
      refine own_iconst X0 hx 2 (hb hby d30_54) rfl ?_
      refine own_icmpYes X0 hx 76 (hb hby d30_55) (flt (by decide : ¬ ((2 : Int32) < (1 : Int32)))).2.2.2 (by decide) (by decide) ?_
      refine own_iloadN X0 hx (hb hby d30_76) rfl ?_
      refine own_iconst X0 hx 3 (hb hby d30_77) rfl ?_
      refine own_icmpYes X0 hx 99 (hb hby d30_78) (flt (by decide : ¬ ((3 : Int32) < (1 : Int32)))).2.2.2 (by decide) (by decide) ?_
      refine own_iloadN X0 hx (hb hby d30_99) rfl ?_
      refine own_retI X0 hx hlk hret (hb hby d30_100) (own_kN (by decide) (by decide) ?_)
      try rw [e0]
      exact ⟨by unfold own_start1; rw [if_neg hc541, if_neg hc542], N0, rfl⟩
theorem d8_0 : decode method_4_code 0 = .ok (.iload_n 2, 1) := by decide +kernel
theorem d8_1 : decode method_4_code 1 = .ok (.iload_n 1, 1) := by decide +kernel
theorem d8_2 : decode method_4_code 2 = .ok (.if_icmp .ge 15, 3) := by decide +kernel
theorem d8_5 : decode method_4_code 5 = .ok (.aload_n 0, 1) := by decide +kernel
theorem d8_6 : decode method_4_code 6 = .ok (.iload_n 2, 1) := by decide +kernel
theorem d8_7 : decode method_4_code 7 = .ok (.caload, 1) := by decide +kernel
theorem d8_8 : decode method_4_code 8 = .ok (.bipush 10, 2) := by decide +kernel
theorem d8_10 : decode method_4_code 10 = .ok (.if_icmp .ne 7, 3) := by decide +kernel
theorem d8_13 : decode method_4_code 13 = .ok (.iconst 1, 1) := by decide +kernel
theorem d8_14 : decode method_4_code 14 = .ok (.goto 4, 3) := by decide +kernel
theorem d8_17 : decode method_4_code 17 = .ok (.iconst 0, 1) := by decide +kernel
theorem d8_18 : decode method_4_code 18 = .ok (.ireturn, 1) := by decide +kernel
set_option maxRecDepth 65536 in
set_option maxHeartbeats 40000000 in
theorem rmNl_1_0 (l : Launch) (Z : State) (a0 : Array Value) (hw : own_Wd a0 Z) (ws : List Jvm.Cond) (ca : Addr) (kc : ClassId) (c0 : Int32)  (h0 : Heap) (n0 : Nat) (Z0 : n0 ≤ h0.size) (Vc : Arv Z h0 ca kc .char (1 : Int32) [(.int c0)] (.int 0)) :
    own_Met l (⟨"com/example/amendtrail/amendtrail/write/LinesLengthPinLaw", "nl", "([CII)I"⟩ : MethodName) method_4_code 3 (some .int) ws ({ frames := 0, cells := 0, slots := 0, locals := 0 } : Room) Z #[(.ref ca), (.int 1), (.int 0)] h0 (fun v h L => v = some (.int (own_nl c0)) ∧ Fr n0 L ∧ h = h0) := by
  refine own_body (plainFor_of_name pn_0) ?_
  intro p e s m below meth c s₁ X0 hx hby hml hown hnm hret hlk hZ e0
  replace hown : s.vm.findClass "com/example/amendtrail/amendtrail/write/LinesLengthPinLaw" = some m.cls := hown
  replace hml : c.maxLocals = 3 := hml
  replace hret : meth.sig.returnType = (some .int) := hret
  have N0 := Fr.nil n0
  refine own_ef (L0 := #[.val (.ref ca), .val (.int 1), .val (.int 0)]) (by first | (simp [entryFrame, mkF, argsToLocals, Value.category]; done) | rfl) ?_
  refine own_iloadN X0 hx (hb hby d8_0) rfl ?_
  refine own_iloadN X0 hx (hb hby d8_1) rfl ?_
  refine own_icmpNo X0 hx (hb hby d8_2) (tlt (by decide : (0 : Int32) < (1 : Int32))).2.1 ?_
  refine own_aloadN X0 hx (hb hby d8_5) rfl rfl ?_
  refine own_iloadN X0 hx (hb hby d8_6) rfl ?_
  refine own_caload X0 hx hZ (.int c0) e0 Vc ⟨by decide, by decide⟩ rfl (hb hby d8_7) ?_
  refine own_bipush X0 hx 10 (hb hby d8_8) rfl ?_
  by_cases hc544 : c0 = (10 : Int32)
  · refine own_icmpNo X0 hx (hb hby d8_10) (teq hc544).2 ?_
    refine own_iconst X0 hx 1 (hb hby d8_13) rfl ?_
    refine own_goto X0 hx 18 (hb hby d8_14) (by decide) (by decide) ?_
    refine own_retI X0 hx hlk hret (hb hby d8_18) (own_kN (by decide) (by decide) ?_)
    try rw [e0]
    exact ⟨congrArg (fun z => some (Value.int z)) (if_pos hc544).symm, N0, rfl⟩
  · refine own_icmpYes X0 hx 17 (hb hby d8_10) (feq hc544).2 (by decide) (by decide) ?_
    refine own_iconst X0 hx 0 (hb hby d8_17) rfl ?_
    refine own_retI X0 hx hlk hret (hb hby d8_18) (own_kN (by decide) (by decide) ?_)
    try rw [e0]
    exact ⟨congrArg (fun z => some (Value.int z)) (if_neg hc544).symm, N0, rfl⟩
def own_start2 (c0 c1 : Int32) (k : Int32) : Int32 := if k = (0 : Int32) then (0 : Int32) else (if c0 = (10 : Int32) then (if (1 : Int32) = k then (1 : Int32) else (if c1 = (10 : Int32) then (if (2 : Int32) = k then (2 : Int32) else (2 : Int32)) else (2 : Int32))) else (if c1 = (10 : Int32) then (if (1 : Int32) = k then (2 : Int32) else (2 : Int32)) else (2 : Int32)))
set_option maxRecDepth 65536 in
set_option maxHeartbeats 40000000 in
theorem rmSt_2 (l : Launch) (Z : State) (a0 : Array Value) (hw : own_Wd a0 Z) (ws : List Jvm.Cond) (ca : Addr) (kc : ClassId) (c0 c1 : Int32) (k : Int32)  (h0 : Heap) (n0 : Nat) (Z0 : n0 ≤ h0.size) (Vc : Arv Z h0 ca kc .char (2 : Int32) [(.int c0), (.int c1)] (.int 0)) :
    own_Met l (⟨"com/example/amendtrail/amendtrail/write/LinesLengthPinLaw", "start", "([CII)I"⟩ : MethodName) method_5_code 4 (some .int) ws ({ frames := 0, cells := 0, slots := 0, locals := 0 } : Room) Z #[(.ref ca), (.int 2), (.int k)] h0 (fun v h L => v = some (.int (own_start2 c0 c1 k)) ∧ Fr n0 L ∧ h = h0) := by
  refine own_body (plainFor_of_name pn_0) ?_
  intro p e s m below meth c s₁ X0 hx hby hml hown hnm hret hlk hZ e0
  replace hown : s.vm.findClass "com/example/amendtrail/amendtrail/write/LinesLengthPinLaw" = some m.cls := hown
  replace hml : c.maxLocals = 4 := hml
  replace hret : meth.sig.returnType = (some .int) := hret
  have N0 := Fr.nil n0
  refine own_ef (L0 := #[.val (.ref ca), .val (.int 2), .val (.int k), .unset]) (by first | (simp [entryFrame, mkF, argsToLocals, Value.category]; done) | rfl) ?_
  refine own_iloadN X0 hx (hb hby d30_0) rfl ?_
  by_cases hc545 : k = (0 : Int32)
  · refine own_ifNo X0 hx (hb hby d30_1) (teq hc545).2 ?_
    refine own_iconst X0 hx 0 (hb hby d30_4) rfl ?_
    refine own_retI X0 hx hlk hret (hb hby d30_5) (own_kN (by decide) (by decide) ?_)
    try rw [e0]
    exact ⟨by unfold own_start2; rw [if_pos hc545], N0, rfl⟩
  · refine own_ifYes X0 hx 6 (hb hby d30_1) (feq hc545).2 (by decide) (by decide) ?_
    refine own_iconst X0 hx 0 (hb hby d30_6) rfl ?_
    refine own_istoreN (l' := #[.val (.ref ca), .val (.int 2), .val (.int k), .val (.int 0)]) X0 hx (hb hby d30_7) rfl ?_
    refine own_iloadN X0 hx (hb hby d30_8) rfl ?_
    refine own_ifNo X0 hx (hb hby d30_9) (tlt (by decide : (0 : Int32) < (2 : Int32))).2.2.2 ?_
    refine own_aloadN X0 hx (hb hby d30_12) rfl rfl ?_
    refine own_iconst X0 hx 0 (hb hby d30_13) rfl ?_
    refine own_caload X0 hx hZ (.int c0) e0 Vc ⟨by decide, by decide⟩ rfl (hb hby d30_14) ?_
    refine own_bipush X0 hx 10 (hb hby d30_15) rfl ?_
    by_cases hc546 : c0 = (10 : Int32)
    · refine own_icmpNo X0 hx (hb hby d30_17) (teq hc546).2 ?_
      refine own_iinc (l' := #[.val (.ref ca), .val (.int 2), .val (.int k), .val (.int ((0 : Int32) + (1 : Int32)))]) X0 hx (hb hby d30_20) rfl rfl ?_
      rw [show ((0 : Int32) + (1 : Int32)) = (1 : Int32) from by decide]
      refine own_iloadN X0 hx (hb hby d30_23) rfl ?_
      refine own_iloadN X0 hx (hb hby d30_24) rfl ?_
      by_cases hc547 : (1 : Int32) = k
      · refine own_icmpNo X0 hx (hb hby d30_25) (teq hc547).2 ?_
        refine own_iconst X0 hx 1 (hb hby d30_28) rfl ?_
        refine own_retI X0 hx hlk hret (hb hby d30_29) (own_kN (by decide) (by decide) ?_)
        try rw [e0]
        exact ⟨by unfold own_start2; rw [if_neg hc545, if_pos hc546, if_pos hc547], N0, rfl⟩
      · refine own_icmpYes X0 hx 30 (hb hby d30_25) (feq hc547).2 (by decide) (by decide) ?_
        refine own_iloadN X0 hx (hb hby d30_30) rfl ?_
        refine own_iconst X0 hx 1 (hb hby d30_31) rfl ?_
        refine own_icmpNo X0 hx (hb hby d30_32) (tlt (by decide : (1 : Int32) < (2 : Int32))).2.2.2 ?_
        refine own_aloadN X0 hx (hb hby d30_35) rfl rfl ?_
        refine own_iconst X0 hx 1 (hb hby d30_36) rfl ?_
        refine own_caload X0 hx hZ (.int c1) e0 Vc ⟨by decide, by decide⟩ rfl (hb hby d30_37) ?_
        refine own_bipush X0 hx 10 (hb hby d30_38) rfl ?_
        by_cases hc548 : c1 = (10 : Int32)
        · refine own_icmpNo X0 hx (hb hby d30_40) (teq hc548).2 ?_
          refine own_iinc (l' := #[.val (.ref ca), .val (.int 2), .val (.int k), .val (.int ((1 : Int32) + (1 : Int32)))]) X0 hx (hb hby d30_43) rfl rfl ?_
          rw [show ((1 : Int32) + (1 : Int32)) = (2 : Int32) from by decide]
          refine own_iloadN X0 hx (hb hby d30_46) rfl ?_
          refine own_iloadN X0 hx (hb hby d30_47) rfl ?_
          by_cases hc549 : (2 : Int32) = k
          · refine own_icmpNo X0 hx (hb hby d30_48) (teq hc549).2 ?_
            refine own_iconst X0 hx 2 (hb hby d30_51) rfl ?_
            refine own_retI X0 hx hlk hret (hb hby d30_52) (own_kN (by decide) (by decide) ?_)
            try rw [e0]
            exact ⟨by unfold own_start2; rw [if_neg hc545, if_pos hc546, if_neg hc547, if_pos hc548, if_pos hc549], N0, rfl⟩
          · refine own_icmpYes X0 hx 53 (hb hby d30_48) (feq hc549).2 (by decide) (by decide) ?_
            refine own_iloadN X0 hx (hb hby d30_53) rfl ?_
            refine own_iconst X0 hx 2 (hb hby d30_54) rfl ?_
            refine own_icmpYes X0 hx 76 (hb hby d30_55) (flt (by decide : ¬ ((2 : Int32) < (2 : Int32)))).2.2.2 (by decide) (by decide) ?_
            refine own_iloadN X0 hx (hb hby d30_76) rfl ?_
            refine own_iconst X0 hx 3 (hb hby d30_77) rfl ?_
            refine own_icmpYes X0 hx 99 (hb hby d30_78) (flt (by decide : ¬ ((3 : Int32) < (2 : Int32)))).2.2.2 (by decide) (by decide) ?_
            refine own_iloadN X0 hx (hb hby d30_99) rfl ?_
            refine own_retI X0 hx hlk hret (hb hby d30_100) (own_kN (by decide) (by decide) ?_)
            try rw [e0]
            exact ⟨by unfold own_start2; rw [if_neg hc545, if_pos hc546, if_neg hc547, if_pos hc548, if_neg hc549], N0, rfl⟩
        · refine own_icmpYes X0 hx 53 (hb hby d30_40) (feq hc548).2 (by decide) (by decide) ?_
          refine own_iloadN X0 hx (hb hby d30_53) rfl ?_
          refine own_iconst X0 hx 2 (hb hby d30_54) rfl ?_
          refine own_icmpYes X0 hx 76 (hb hby d30_55) (flt (by decide : ¬ ((2 : Int32) < (2 : Int32)))).2.2.2 (by decide) (by decide) ?_
          refine own_iloadN X0 hx (hb hby d30_76) rfl ?_
          refine own_iconst X0 hx 3 (hb hby d30_77) rfl ?_
          refine own_icmpYes X0 hx 99 (hb hby d30_78) (flt (by decide : ¬ ((3 : Int32) < (2 : Int32)))).2.2.2 (by decide) (by decide) ?_
          refine own_iloadN X0 hx (hb hby d30_99) rfl ?_
          refine own_retI X0 hx hlk hret (hb hby d30_100) (own_kN (by decide) (by decide) ?_)
          try rw [e0]
          exact ⟨by unfold own_start2; rw [if_neg hc545, if_pos hc546, if_neg hc547, if_neg hc548], N0, rfl⟩
    · refine own_icmpYes X0 hx 30 (hb hby d30_17) (feq hc546).2 (by decide) (by decide) ?_
      refine own_iloadN X0 hx (hb hby d30_30) rfl ?_
      refine own_iconst X0 hx 1 (hb hby d30_31) rfl ?_
      refine own_icmpNo X0 hx (hb hby d30_32) (tlt (by decide : (1 : Int32) < (2 : Int32))).2.2.2 ?_
      refine own_aloadN X0 hx (hb hby d30_35) rfl rfl ?_
      refine own_iconst X0 hx 1 (hb hby d30_36) rfl ?_
      refine own_caload X0 hx hZ (.int c1) e0 Vc ⟨by decide, by decide⟩ rfl (hb hby d30_37) ?_
      refine own_bipush X0 hx 10 (hb hby d30_38) rfl ?_
      by_cases hc550 : c1 = (10 : Int32)
      · refine own_icmpNo X0 hx (hb hby d30_40) (teq hc550).2 ?_
        refine own_iinc (l' := #[.val (.ref ca), .val (.int 2), .val (.int k), .val (.int ((0 : Int32) + (1 : Int32)))]) X0 hx (hb hby d30_43) rfl rfl ?_
        rw [show ((0 : Int32) + (1 : Int32)) = (1 : Int32) from by decide]
        refine own_iloadN X0 hx (hb hby d30_46) rfl ?_
        refine own_iloadN X0 hx (hb hby d30_47) rfl ?_
        by_cases hc551 : (1 : Int32) = k
        · refine own_icmpNo X0 hx (hb hby d30_48) (teq hc551).2 ?_
          refine own_iconst X0 hx 2 (hb hby d30_51) rfl ?_
          refine own_retI X0 hx hlk hret (hb hby d30_52) (own_kN (by decide) (by decide) ?_)
          try rw [e0]
          exact ⟨by unfold own_start2; rw [if_neg hc545, if_neg hc546, if_pos hc550, if_pos hc551], N0, rfl⟩
        · refine own_icmpYes X0 hx 53 (hb hby d30_48) (feq hc551).2 (by decide) (by decide) ?_
          refine own_iloadN X0 hx (hb hby d30_53) rfl ?_
          refine own_iconst X0 hx 2 (hb hby d30_54) rfl ?_
          refine own_icmpYes X0 hx 76 (hb hby d30_55) (flt (by decide : ¬ ((2 : Int32) < (2 : Int32)))).2.2.2 (by decide) (by decide) ?_
          refine own_iloadN X0 hx (hb hby d30_76) rfl ?_
          refine own_iconst X0 hx 3 (hb hby d30_77) rfl ?_
          refine own_icmpYes X0 hx 99 (hb hby d30_78) (flt (by decide : ¬ ((3 : Int32) < (2 : Int32)))).2.2.2 (by decide) (by decide) ?_
          refine own_iloadN X0 hx (hb hby d30_99) rfl ?_
          refine own_retI X0 hx hlk hret (hb hby d30_100) (own_kN (by decide) (by decide) ?_)
          try rw [e0]
          exact ⟨by unfold own_start2; rw [if_neg hc545, if_neg hc546, if_pos hc550, if_neg hc551], N0, rfl⟩
      · refine own_icmpYes X0 hx 53 (hb hby d30_40) (feq hc550).2 (by decide) (by decide) ?_
        refine own_iloadN X0 hx (hb hby d30_53) rfl ?_
        refine own_iconst X0 hx 2 (hb hby d30_54) rfl ?_
        refine own_icmpYes X0 hx 76 (hb hby d30_55) (flt (by decide : ¬ ((2 : Int32) < (2 : Int32)))).2.2.2 (by decide) (by decide) ?_
        refine own_iloadN X0 hx (hb hby d30_76) rfl ?_
        refine own_iconst X0 hx 3 (hb hby d30_77) rfl ?_
        refine own_icmpYes X0 hx 99 (hb hby d30_78) (flt (by decide : ¬ ((3 : Int32) < (2 : Int32)))).2.2.2 (by decide) (by decide) ?_
        refine own_iloadN X0 hx (hb hby d30_99) rfl ?_
        refine own_retI X0 hx hlk hret (hb hby d30_100) (own_kN (by decide) (by decide) ?_)
        try rw [e0]
        exact ⟨by unfold own_start2; rw [if_neg hc545, if_neg hc546, if_neg hc550], N0, rfl⟩
set_option maxRecDepth 65536 in
set_option maxHeartbeats 40000000 in
theorem rmNl_2_0 (l : Launch) (Z : State) (a0 : Array Value) (hw : own_Wd a0 Z) (ws : List Jvm.Cond) (ca : Addr) (kc : ClassId) (c0 c1 : Int32)  (h0 : Heap) (n0 : Nat) (Z0 : n0 ≤ h0.size) (Vc : Arv Z h0 ca kc .char (2 : Int32) [(.int c0), (.int c1)] (.int 0)) :
    own_Met l (⟨"com/example/amendtrail/amendtrail/write/LinesLengthPinLaw", "nl", "([CII)I"⟩ : MethodName) method_4_code 3 (some .int) ws ({ frames := 0, cells := 0, slots := 0, locals := 0 } : Room) Z #[(.ref ca), (.int 2), (.int 0)] h0 (fun v h L => v = some (.int (own_nl c0)) ∧ Fr n0 L ∧ h = h0) := by
  refine own_body (plainFor_of_name pn_0) ?_
  intro p e s m below meth c s₁ X0 hx hby hml hown hnm hret hlk hZ e0
  replace hown : s.vm.findClass "com/example/amendtrail/amendtrail/write/LinesLengthPinLaw" = some m.cls := hown
  replace hml : c.maxLocals = 3 := hml
  replace hret : meth.sig.returnType = (some .int) := hret
  have N0 := Fr.nil n0
  refine own_ef (L0 := #[.val (.ref ca), .val (.int 2), .val (.int 0)]) (by first | (simp [entryFrame, mkF, argsToLocals, Value.category]; done) | rfl) ?_
  refine own_iloadN X0 hx (hb hby d8_0) rfl ?_
  refine own_iloadN X0 hx (hb hby d8_1) rfl ?_
  refine own_icmpNo X0 hx (hb hby d8_2) (tlt (by decide : (0 : Int32) < (2 : Int32))).2.1 ?_
  refine own_aloadN X0 hx (hb hby d8_5) rfl rfl ?_
  refine own_iloadN X0 hx (hb hby d8_6) rfl ?_
  refine own_caload X0 hx hZ (.int c0) e0 Vc ⟨by decide, by decide⟩ rfl (hb hby d8_7) ?_
  refine own_bipush X0 hx 10 (hb hby d8_8) rfl ?_
  by_cases hc552 : c0 = (10 : Int32)
  · refine own_icmpNo X0 hx (hb hby d8_10) (teq hc552).2 ?_
    refine own_iconst X0 hx 1 (hb hby d8_13) rfl ?_
    refine own_goto X0 hx 18 (hb hby d8_14) (by decide) (by decide) ?_
    refine own_retI X0 hx hlk hret (hb hby d8_18) (own_kN (by decide) (by decide) ?_)
    try rw [e0]
    exact ⟨congrArg (fun z => some (Value.int z)) (if_pos hc552).symm, N0, rfl⟩
  · refine own_icmpYes X0 hx 17 (hb hby d8_10) (feq hc552).2 (by decide) (by decide) ?_
    refine own_iconst X0 hx 0 (hb hby d8_17) rfl ?_
    refine own_retI X0 hx hlk hret (hb hby d8_18) (own_kN (by decide) (by decide) ?_)
    try rw [e0]
    exact ⟨congrArg (fun z => some (Value.int z)) (if_neg hc552).symm, N0, rfl⟩
set_option maxRecDepth 65536 in
set_option maxHeartbeats 40000000 in
theorem rmNl_2_1 (l : Launch) (Z : State) (a0 : Array Value) (hw : own_Wd a0 Z) (ws : List Jvm.Cond) (ca : Addr) (kc : ClassId) (c0 c1 : Int32)  (h0 : Heap) (n0 : Nat) (Z0 : n0 ≤ h0.size) (Vc : Arv Z h0 ca kc .char (2 : Int32) [(.int c0), (.int c1)] (.int 0)) :
    own_Met l (⟨"com/example/amendtrail/amendtrail/write/LinesLengthPinLaw", "nl", "([CII)I"⟩ : MethodName) method_4_code 3 (some .int) ws ({ frames := 0, cells := 0, slots := 0, locals := 0 } : Room) Z #[(.ref ca), (.int 2), (.int 1)] h0 (fun v h L => v = some (.int (own_nl c1)) ∧ Fr n0 L ∧ h = h0) := by
  refine own_body (plainFor_of_name pn_0) ?_
  intro p e s m below meth c s₁ X0 hx hby hml hown hnm hret hlk hZ e0
  replace hown : s.vm.findClass "com/example/amendtrail/amendtrail/write/LinesLengthPinLaw" = some m.cls := hown
  replace hml : c.maxLocals = 3 := hml
  replace hret : meth.sig.returnType = (some .int) := hret
  have N0 := Fr.nil n0
  refine own_ef (L0 := #[.val (.ref ca), .val (.int 2), .val (.int 1)]) (by first | (simp [entryFrame, mkF, argsToLocals, Value.category]; done) | rfl) ?_
  refine own_iloadN X0 hx (hb hby d8_0) rfl ?_
  refine own_iloadN X0 hx (hb hby d8_1) rfl ?_
  refine own_icmpNo X0 hx (hb hby d8_2) (tlt (by decide : (1 : Int32) < (2 : Int32))).2.1 ?_
  refine own_aloadN X0 hx (hb hby d8_5) rfl rfl ?_
  refine own_iloadN X0 hx (hb hby d8_6) rfl ?_
  refine own_caload X0 hx hZ (.int c1) e0 Vc ⟨by decide, by decide⟩ rfl (hb hby d8_7) ?_
  refine own_bipush X0 hx 10 (hb hby d8_8) rfl ?_
  by_cases hc553 : c1 = (10 : Int32)
  · refine own_icmpNo X0 hx (hb hby d8_10) (teq hc553).2 ?_
    refine own_iconst X0 hx 1 (hb hby d8_13) rfl ?_
    refine own_goto X0 hx 18 (hb hby d8_14) (by decide) (by decide) ?_
    refine own_retI X0 hx hlk hret (hb hby d8_18) (own_kN (by decide) (by decide) ?_)
    try rw [e0]
    exact ⟨congrArg (fun z => some (Value.int z)) (if_pos hc553).symm, N0, rfl⟩
  · refine own_icmpYes X0 hx 17 (hb hby d8_10) (feq hc553).2 (by decide) (by decide) ?_
    refine own_iconst X0 hx 0 (hb hby d8_17) rfl ?_
    refine own_retI X0 hx hlk hret (hb hby d8_18) (own_kN (by decide) (by decide) ?_)
    try rw [e0]
    exact ⟨congrArg (fun z => some (Value.int z)) (if_neg hc553).symm, N0, rfl⟩
def own_start3 (c0 c1 c2 : Int32) (k : Int32) : Int32 := if k = (0 : Int32) then (0 : Int32) else (if c0 = (10 : Int32) then (if (1 : Int32) = k then (1 : Int32) else (if c1 = (10 : Int32) then (if (2 : Int32) = k then (2 : Int32) else (if c2 = (10 : Int32) then (if (3 : Int32) = k then (3 : Int32) else (3 : Int32)) else (3 : Int32))) else (if c2 = (10 : Int32) then (if (2 : Int32) = k then (3 : Int32) else (3 : Int32)) else (3 : Int32)))) else (if c1 = (10 : Int32) then (if (1 : Int32) = k then (2 : Int32) else (if c2 = (10 : Int32) then (if (2 : Int32) = k then (3 : Int32) else (3 : Int32)) else (3 : Int32))) else (if c2 = (10 : Int32) then (if (1 : Int32) = k then (3 : Int32) else (3 : Int32)) else (3 : Int32))))
set_option maxRecDepth 65536 in
set_option maxHeartbeats 40000000 in
theorem rmSt_3 (l : Launch) (Z : State) (a0 : Array Value) (hw : own_Wd a0 Z) (ws : List Jvm.Cond) (ca : Addr) (kc : ClassId) (c0 c1 c2 : Int32) (k : Int32)  (h0 : Heap) (n0 : Nat) (Z0 : n0 ≤ h0.size) (Vc : Arv Z h0 ca kc .char (3 : Int32) [(.int c0), (.int c1), (.int c2)] (.int 0)) :
    own_Met l (⟨"com/example/amendtrail/amendtrail/write/LinesLengthPinLaw", "start", "([CII)I"⟩ : MethodName) method_5_code 4 (some .int) ws ({ frames := 0, cells := 0, slots := 0, locals := 0 } : Room) Z #[(.ref ca), (.int 3), (.int k)] h0 (fun v h L => v = some (.int (own_start3 c0 c1 c2 k)) ∧ Fr n0 L ∧ h = h0) := by
  refine own_body (plainFor_of_name pn_0) ?_
  intro p e s m below meth c s₁ X0 hx hby hml hown hnm hret hlk hZ e0
  replace hown : s.vm.findClass "com/example/amendtrail/amendtrail/write/LinesLengthPinLaw" = some m.cls := hown
  replace hml : c.maxLocals = 4 := hml
  replace hret : meth.sig.returnType = (some .int) := hret
  have N0 := Fr.nil n0
  refine own_ef (L0 := #[.val (.ref ca), .val (.int 3), .val (.int k), .unset]) (by first | (simp [entryFrame, mkF, argsToLocals, Value.category]; done) | rfl) ?_
  refine own_iloadN X0 hx (hb hby d30_0) rfl ?_
  by_cases hc554 : k = (0 : Int32)
  · refine own_ifNo X0 hx (hb hby d30_1) (teq hc554).2 ?_
    refine own_iconst X0 hx 0 (hb hby d30_4) rfl ?_
    refine own_retI X0 hx hlk hret (hb hby d30_5) (own_kN (by decide) (by decide) ?_)
    try rw [e0]
    exact ⟨by unfold own_start3; rw [if_pos hc554], N0, rfl⟩
  · refine own_ifYes X0 hx 6 (hb hby d30_1) (feq hc554).2 (by decide) (by decide) ?_
    refine own_iconst X0 hx 0 (hb hby d30_6) rfl ?_
    refine own_istoreN (l' := #[.val (.ref ca), .val (.int 3), .val (.int k), .val (.int 0)]) X0 hx (hb hby d30_7) rfl ?_
    refine own_iloadN X0 hx (hb hby d30_8) rfl ?_
    refine own_ifNo X0 hx (hb hby d30_9) (tlt (by decide : (0 : Int32) < (3 : Int32))).2.2.2 ?_
    refine own_aloadN X0 hx (hb hby d30_12) rfl rfl ?_
    refine own_iconst X0 hx 0 (hb hby d30_13) rfl ?_
    refine own_caload X0 hx hZ (.int c0) e0 Vc ⟨by decide, by decide⟩ rfl (hb hby d30_14) ?_
    refine own_bipush X0 hx 10 (hb hby d30_15) rfl ?_
    by_cases hc555 : c0 = (10 : Int32)
    · refine own_icmpNo X0 hx (hb hby d30_17) (teq hc555).2 ?_
      refine own_iinc (l' := #[.val (.ref ca), .val (.int 3), .val (.int k), .val (.int ((0 : Int32) + (1 : Int32)))]) X0 hx (hb hby d30_20) rfl rfl ?_
      rw [show ((0 : Int32) + (1 : Int32)) = (1 : Int32) from by decide]
      refine own_iloadN X0 hx (hb hby d30_23) rfl ?_
      refine own_iloadN X0 hx (hb hby d30_24) rfl ?_
      by_cases hc556 : (1 : Int32) = k
      · refine own_icmpNo X0 hx (hb hby d30_25) (teq hc556).2 ?_
        refine own_iconst X0 hx 1 (hb hby d30_28) rfl ?_
        refine own_retI X0 hx hlk hret (hb hby d30_29) (own_kN (by decide) (by decide) ?_)
        try rw [e0]
        exact ⟨by unfold own_start3; rw [if_neg hc554, if_pos hc555, if_pos hc556], N0, rfl⟩
      · refine own_icmpYes X0 hx 30 (hb hby d30_25) (feq hc556).2 (by decide) (by decide) ?_
        refine own_iloadN X0 hx (hb hby d30_30) rfl ?_
        refine own_iconst X0 hx 1 (hb hby d30_31) rfl ?_
        refine own_icmpNo X0 hx (hb hby d30_32) (tlt (by decide : (1 : Int32) < (3 : Int32))).2.2.2 ?_
        refine own_aloadN X0 hx (hb hby d30_35) rfl rfl ?_
        refine own_iconst X0 hx 1 (hb hby d30_36) rfl ?_
        refine own_caload X0 hx hZ (.int c1) e0 Vc ⟨by decide, by decide⟩ rfl (hb hby d30_37) ?_
        refine own_bipush X0 hx 10 (hb hby d30_38) rfl ?_
        by_cases hc557 : c1 = (10 : Int32)
        · refine own_icmpNo X0 hx (hb hby d30_40) (teq hc557).2 ?_
          refine own_iinc (l' := #[.val (.ref ca), .val (.int 3), .val (.int k), .val (.int ((1 : Int32) + (1 : Int32)))]) X0 hx (hb hby d30_43) rfl rfl ?_
          rw [show ((1 : Int32) + (1 : Int32)) = (2 : Int32) from by decide]
          refine own_iloadN X0 hx (hb hby d30_46) rfl ?_
          refine own_iloadN X0 hx (hb hby d30_47) rfl ?_
          by_cases hc558 : (2 : Int32) = k
          · refine own_icmpNo X0 hx (hb hby d30_48) (teq hc558).2 ?_
            refine own_iconst X0 hx 2 (hb hby d30_51) rfl ?_
            refine own_retI X0 hx hlk hret (hb hby d30_52) (own_kN (by decide) (by decide) ?_)
            try rw [e0]
            exact ⟨by unfold own_start3; rw [if_neg hc554, if_pos hc555, if_neg hc556, if_pos hc557, if_pos hc558], N0, rfl⟩
          · refine own_icmpYes X0 hx 53 (hb hby d30_48) (feq hc558).2 (by decide) (by decide) ?_
            refine own_iloadN X0 hx (hb hby d30_53) rfl ?_
            refine own_iconst X0 hx 2 (hb hby d30_54) rfl ?_
            refine own_icmpNo X0 hx (hb hby d30_55) (tlt (by decide : (2 : Int32) < (3 : Int32))).2.2.2 ?_
            refine own_aloadN X0 hx (hb hby d30_58) rfl rfl ?_
            refine own_iconst X0 hx 2 (hb hby d30_59) rfl ?_
            refine own_caload X0 hx hZ (.int c2) e0 Vc ⟨by decide, by decide⟩ rfl (hb hby d30_60) ?_
            refine own_bipush X0 hx 10 (hb hby d30_61) rfl ?_
            by_cases hc559 : c2 = (10 : Int32)
            · refine own_icmpNo X0 hx (hb hby d30_63) (teq hc559).2 ?_
              refine own_iinc (l' := #[.val (.ref ca), .val (.int 3), .val (.int k), .val (.int ((2 : Int32) + (1 : Int32)))]) X0 hx (hb hby d30_66) rfl rfl ?_
              rw [show ((2 : Int32) + (1 : Int32)) = (3 : Int32) from by decide]
              refine own_iloadN X0 hx (hb hby d30_69) rfl ?_
              refine own_iloadN X0 hx (hb hby d30_70) rfl ?_
              by_cases hc560 : (3 : Int32) = k
              · refine own_icmpNo X0 hx (hb hby d30_71) (teq hc560).2 ?_
                refine own_iconst X0 hx 3 (hb hby d30_74) rfl ?_
                refine own_retI X0 hx hlk hret (hb hby d30_75) (own_kN (by decide) (by decide) ?_)
                try rw [e0]
                exact ⟨by unfold own_start3; rw [if_neg hc554, if_pos hc555, if_neg hc556, if_pos hc557, if_neg hc558, if_pos hc559, if_pos hc560], N0, rfl⟩
              · refine own_icmpYes X0 hx 76 (hb hby d30_71) (feq hc560).2 (by decide) (by decide) ?_
                refine own_iloadN X0 hx (hb hby d30_76) rfl ?_
                refine own_iconst X0 hx 3 (hb hby d30_77) rfl ?_
                refine own_icmpYes X0 hx 99 (hb hby d30_78) (flt (by decide : ¬ ((3 : Int32) < (3 : Int32)))).2.2.2 (by decide) (by decide) ?_
                refine own_iloadN X0 hx (hb hby d30_99) rfl ?_
                refine own_retI X0 hx hlk hret (hb hby d30_100) (own_kN (by decide) (by decide) ?_)
                try rw [e0]
                exact ⟨by unfold own_start3; rw [if_neg hc554, if_pos hc555, if_neg hc556, if_pos hc557, if_neg hc558, if_pos hc559, if_neg hc560], N0, rfl⟩
            · refine own_icmpYes X0 hx 76 (hb hby d30_63) (feq hc559).2 (by decide) (by decide) ?_
              refine own_iloadN X0 hx (hb hby d30_76) rfl ?_
              refine own_iconst X0 hx 3 (hb hby d30_77) rfl ?_
              refine own_icmpYes X0 hx 99 (hb hby d30_78) (flt (by decide : ¬ ((3 : Int32) < (3 : Int32)))).2.2.2 (by decide) (by decide) ?_
              refine own_iloadN X0 hx (hb hby d30_99) rfl ?_
              refine own_retI X0 hx hlk hret (hb hby d30_100) (own_kN (by decide) (by decide) ?_)
              try rw [e0]
              exact ⟨by unfold own_start3; rw [if_neg hc554, if_pos hc555, if_neg hc556, if_pos hc557, if_neg hc558, if_neg hc559], N0, rfl⟩
        · refine own_icmpYes X0 hx 53 (hb hby d30_40) (feq hc557).2 (by decide) (by decide) ?_
          refine own_iloadN X0 hx (hb hby d30_53) rfl ?_
          refine own_iconst X0 hx 2 (hb hby d30_54) rfl ?_
          refine own_icmpNo X0 hx (hb hby d30_55) (tlt (by decide : (2 : Int32) < (3 : Int32))).2.2.2 ?_
          refine own_aloadN X0 hx (hb hby d30_58) rfl rfl ?_
          refine own_iconst X0 hx 2 (hb hby d30_59) rfl ?_
          refine own_caload X0 hx hZ (.int c2) e0 Vc ⟨by decide, by decide⟩ rfl (hb hby d30_60) ?_
          refine own_bipush X0 hx 10 (hb hby d30_61) rfl ?_
          by_cases hc561 : c2 = (10 : Int32)
          · refine own_icmpNo X0 hx (hb hby d30_63) (teq hc561).2 ?_
            refine own_iinc (l' := #[.val (.ref ca), .val (.int 3), .val (.int k), .val (.int ((1 : Int32) + (1 : Int32)))]) X0 hx (hb hby d30_66) rfl rfl ?_
            rw [show ((1 : Int32) + (1 : Int32)) = (2 : Int32) from by decide]
            refine own_iloadN X0 hx (hb hby d30_69) rfl ?_
            refine own_iloadN X0 hx (hb hby d30_70) rfl ?_
            by_cases hc562 : (2 : Int32) = k
            · refine own_icmpNo X0 hx (hb hby d30_71) (teq hc562).2 ?_
              refine own_iconst X0 hx 3 (hb hby d30_74) rfl ?_
              refine own_retI X0 hx hlk hret (hb hby d30_75) (own_kN (by decide) (by decide) ?_)
              try rw [e0]
              exact ⟨by unfold own_start3; rw [if_neg hc554, if_pos hc555, if_neg hc556, if_neg hc557, if_pos hc561, if_pos hc562], N0, rfl⟩
            · refine own_icmpYes X0 hx 76 (hb hby d30_71) (feq hc562).2 (by decide) (by decide) ?_
              refine own_iloadN X0 hx (hb hby d30_76) rfl ?_
              refine own_iconst X0 hx 3 (hb hby d30_77) rfl ?_
              refine own_icmpYes X0 hx 99 (hb hby d30_78) (flt (by decide : ¬ ((3 : Int32) < (3 : Int32)))).2.2.2 (by decide) (by decide) ?_
              refine own_iloadN X0 hx (hb hby d30_99) rfl ?_
              refine own_retI X0 hx hlk hret (hb hby d30_100) (own_kN (by decide) (by decide) ?_)
              try rw [e0]
              exact ⟨by unfold own_start3; rw [if_neg hc554, if_pos hc555, if_neg hc556, if_neg hc557, if_pos hc561, if_neg hc562], N0, rfl⟩
          · refine own_icmpYes X0 hx 76 (hb hby d30_63) (feq hc561).2 (by decide) (by decide) ?_
            refine own_iloadN X0 hx (hb hby d30_76) rfl ?_
            refine own_iconst X0 hx 3 (hb hby d30_77) rfl ?_
            refine own_icmpYes X0 hx 99 (hb hby d30_78) (flt (by decide : ¬ ((3 : Int32) < (3 : Int32)))).2.2.2 (by decide) (by decide) ?_
            refine own_iloadN X0 hx (hb hby d30_99) rfl ?_
            refine own_retI X0 hx hlk hret (hb hby d30_100) (own_kN (by decide) (by decide) ?_)
            try rw [e0]
            exact ⟨by unfold own_start3; rw [if_neg hc554, if_pos hc555, if_neg hc556, if_neg hc557, if_neg hc561], N0, rfl⟩
    · refine own_icmpYes X0 hx 30 (hb hby d30_17) (feq hc555).2 (by decide) (by decide) ?_
      refine own_iloadN X0 hx (hb hby d30_30) rfl ?_
      refine own_iconst X0 hx 1 (hb hby d30_31) rfl ?_
      refine own_icmpNo X0 hx (hb hby d30_32) (tlt (by decide : (1 : Int32) < (3 : Int32))).2.2.2 ?_
      refine own_aloadN X0 hx (hb hby d30_35) rfl rfl ?_
      refine own_iconst X0 hx 1 (hb hby d30_36) rfl ?_
      refine own_caload X0 hx hZ (.int c1) e0 Vc ⟨by decide, by decide⟩ rfl (hb hby d30_37) ?_
      refine own_bipush X0 hx 10 (hb hby d30_38) rfl ?_
      by_cases hc563 : c1 = (10 : Int32)
      · refine own_icmpNo X0 hx (hb hby d30_40) (teq hc563).2 ?_
        refine own_iinc (l' := #[.val (.ref ca), .val (.int 3), .val (.int k), .val (.int ((0 : Int32) + (1 : Int32)))]) X0 hx (hb hby d30_43) rfl rfl ?_
        rw [show ((0 : Int32) + (1 : Int32)) = (1 : Int32) from by decide]
        refine own_iloadN X0 hx (hb hby d30_46) rfl ?_
        refine own_iloadN X0 hx (hb hby d30_47) rfl ?_
        by_cases hc564 : (1 : Int32) = k
        · refine own_icmpNo X0 hx (hb hby d30_48) (teq hc564).2 ?_
          refine own_iconst X0 hx 2 (hb hby d30_51) rfl ?_
          refine own_retI X0 hx hlk hret (hb hby d30_52) (own_kN (by decide) (by decide) ?_)
          try rw [e0]
          exact ⟨by unfold own_start3; rw [if_neg hc554, if_neg hc555, if_pos hc563, if_pos hc564], N0, rfl⟩
        · refine own_icmpYes X0 hx 53 (hb hby d30_48) (feq hc564).2 (by decide) (by decide) ?_
          refine own_iloadN X0 hx (hb hby d30_53) rfl ?_
          refine own_iconst X0 hx 2 (hb hby d30_54) rfl ?_
          refine own_icmpNo X0 hx (hb hby d30_55) (tlt (by decide : (2 : Int32) < (3 : Int32))).2.2.2 ?_
          refine own_aloadN X0 hx (hb hby d30_58) rfl rfl ?_
          refine own_iconst X0 hx 2 (hb hby d30_59) rfl ?_
          refine own_caload X0 hx hZ (.int c2) e0 Vc ⟨by decide, by decide⟩ rfl (hb hby d30_60) ?_
          refine own_bipush X0 hx 10 (hb hby d30_61) rfl ?_
          by_cases hc565 : c2 = (10 : Int32)
          · refine own_icmpNo X0 hx (hb hby d30_63) (teq hc565).2 ?_
            refine own_iinc (l' := #[.val (.ref ca), .val (.int 3), .val (.int k), .val (.int ((1 : Int32) + (1 : Int32)))]) X0 hx (hb hby d30_66) rfl rfl ?_
            rw [show ((1 : Int32) + (1 : Int32)) = (2 : Int32) from by decide]
            refine own_iloadN X0 hx (hb hby d30_69) rfl ?_
            refine own_iloadN X0 hx (hb hby d30_70) rfl ?_
            by_cases hc566 : (2 : Int32) = k
            · refine own_icmpNo X0 hx (hb hby d30_71) (teq hc566).2 ?_
              refine own_iconst X0 hx 3 (hb hby d30_74) rfl ?_
              refine own_retI X0 hx hlk hret (hb hby d30_75) (own_kN (by decide) (by decide) ?_)
              try rw [e0]
              exact ⟨by unfold own_start3; rw [if_neg hc554, if_neg hc555, if_pos hc563, if_neg hc564, if_pos hc565, if_pos hc566], N0, rfl⟩
            · refine own_icmpYes X0 hx 76 (hb hby d30_71) (feq hc566).2 (by decide) (by decide) ?_
              refine own_iloadN X0 hx (hb hby d30_76) rfl ?_
              refine own_iconst X0 hx 3 (hb hby d30_77) rfl ?_
              refine own_icmpYes X0 hx 99 (hb hby d30_78) (flt (by decide : ¬ ((3 : Int32) < (3 : Int32)))).2.2.2 (by decide) (by decide) ?_
              refine own_iloadN X0 hx (hb hby d30_99) rfl ?_
              refine own_retI X0 hx hlk hret (hb hby d30_100) (own_kN (by decide) (by decide) ?_)
              try rw [e0]
              exact ⟨by unfold own_start3; rw [if_neg hc554, if_neg hc555, if_pos hc563, if_neg hc564, if_pos hc565, if_neg hc566], N0, rfl⟩
          · refine own_icmpYes X0 hx 76 (hb hby d30_63) (feq hc565).2 (by decide) (by decide) ?_
            refine own_iloadN X0 hx (hb hby d30_76) rfl ?_
            refine own_iconst X0 hx 3 (hb hby d30_77) rfl ?_
            refine own_icmpYes X0 hx 99 (hb hby d30_78) (flt (by decide : ¬ ((3 : Int32) < (3 : Int32)))).2.2.2 (by decide) (by decide) ?_
            refine own_iloadN X0 hx (hb hby d30_99) rfl ?_
            refine own_retI X0 hx hlk hret (hb hby d30_100) (own_kN (by decide) (by decide) ?_)
            try rw [e0]
            exact ⟨by unfold own_start3; rw [if_neg hc554, if_neg hc555, if_pos hc563, if_neg hc564, if_neg hc565], N0, rfl⟩
      · refine own_icmpYes X0 hx 53 (hb hby d30_40) (feq hc563).2 (by decide) (by decide) ?_
        refine own_iloadN X0 hx (hb hby d30_53) rfl ?_
        refine own_iconst X0 hx 2 (hb hby d30_54) rfl ?_
        refine own_icmpNo X0 hx (hb hby d30_55) (tlt (by decide : (2 : Int32) < (3 : Int32))).2.2.2 ?_
        refine own_aloadN X0 hx (hb hby d30_58) rfl rfl ?_
        refine own_iconst X0 hx 2 (hb hby d30_59) rfl ?_
        refine own_caload X0 hx hZ (.int c2) e0 Vc ⟨by decide, by decide⟩ rfl (hb hby d30_60) ?_
        refine own_bipush X0 hx 10 (hb hby d30_61) rfl ?_
        by_cases hc567 : c2 = (10 : Int32)
        · refine own_icmpNo X0 hx (hb hby d30_63) (teq hc567).2 ?_
          refine own_iinc (l' := #[.val (.ref ca), .val (.int 3), .val (.int k), .val (.int ((0 : Int32) + (1 : Int32)))]) X0 hx (hb hby d30_66) rfl rfl ?_
          rw [show ((0 : Int32) + (1 : Int32)) = (1 : Int32) from by decide]
          refine own_iloadN X0 hx (hb hby d30_69) rfl ?_
          refine own_iloadN X0 hx (hb hby d30_70) rfl ?_
          by_cases hc568 : (1 : Int32) = k
          · refine own_icmpNo X0 hx (hb hby d30_71) (teq hc568).2 ?_
            refine own_iconst X0 hx 3 (hb hby d30_74) rfl ?_
            refine own_retI X0 hx hlk hret (hb hby d30_75) (own_kN (by decide) (by decide) ?_)
            try rw [e0]
            exact ⟨by unfold own_start3; rw [if_neg hc554, if_neg hc555, if_neg hc563, if_pos hc567, if_pos hc568], N0, rfl⟩
          · refine own_icmpYes X0 hx 76 (hb hby d30_71) (feq hc568).2 (by decide) (by decide) ?_
            refine own_iloadN X0 hx (hb hby d30_76) rfl ?_
            refine own_iconst X0 hx 3 (hb hby d30_77) rfl ?_
            refine own_icmpYes X0 hx 99 (hb hby d30_78) (flt (by decide : ¬ ((3 : Int32) < (3 : Int32)))).2.2.2 (by decide) (by decide) ?_
            refine own_iloadN X0 hx (hb hby d30_99) rfl ?_
            refine own_retI X0 hx hlk hret (hb hby d30_100) (own_kN (by decide) (by decide) ?_)
            try rw [e0]
            exact ⟨by unfold own_start3; rw [if_neg hc554, if_neg hc555, if_neg hc563, if_pos hc567, if_neg hc568], N0, rfl⟩
        · refine own_icmpYes X0 hx 76 (hb hby d30_63) (feq hc567).2 (by decide) (by decide) ?_
          refine own_iloadN X0 hx (hb hby d30_76) rfl ?_
          refine own_iconst X0 hx 3 (hb hby d30_77) rfl ?_
          refine own_icmpYes X0 hx 99 (hb hby d30_78) (flt (by decide : ¬ ((3 : Int32) < (3 : Int32)))).2.2.2 (by decide) (by decide) ?_
          refine own_iloadN X0 hx (hb hby d30_99) rfl ?_
          refine own_retI X0 hx hlk hret (hb hby d30_100) (own_kN (by decide) (by decide) ?_)
          try rw [e0]
          exact ⟨by unfold own_start3; rw [if_neg hc554, if_neg hc555, if_neg hc563, if_neg hc567], N0, rfl⟩
set_option maxRecDepth 65536 in
set_option maxHeartbeats 40000000 in
theorem rmNl_3_0 (l : Launch) (Z : State) (a0 : Array Value) (hw : own_Wd a0 Z) (ws : List Jvm.Cond) (ca : Addr) (kc : ClassId) (c0 c1 c2 : Int32)  (h0 : Heap) (n0 : Nat) (Z0 : n0 ≤ h0.size) (Vc : Arv Z h0 ca kc .char (3 : Int32) [(.int c0), (.int c1), (.int c2)] (.int 0)) :
    own_Met l (⟨"com/example/amendtrail/amendtrail/write/LinesLengthPinLaw", "nl", "([CII)I"⟩ : MethodName) method_4_code 3 (some .int) ws ({ frames := 0, cells := 0, slots := 0, locals := 0 } : Room) Z #[(.ref ca), (.int 3), (.int 0)] h0 (fun v h L => v = some (.int (own_nl c0)) ∧ Fr n0 L ∧ h = h0) := by
  refine own_body (plainFor_of_name pn_0) ?_
  intro p e s m below meth c s₁ X0 hx hby hml hown hnm hret hlk hZ e0
  replace hown : s.vm.findClass "com/example/amendtrail/amendtrail/write/LinesLengthPinLaw" = some m.cls := hown
  replace hml : c.maxLocals = 3 := hml
  replace hret : meth.sig.returnType = (some .int) := hret
  have N0 := Fr.nil n0
  refine own_ef (L0 := #[.val (.ref ca), .val (.int 3), .val (.int 0)]) (by first | (simp [entryFrame, mkF, argsToLocals, Value.category]; done) | rfl) ?_
  refine own_iloadN X0 hx (hb hby d8_0) rfl ?_
  refine own_iloadN X0 hx (hb hby d8_1) rfl ?_
  refine own_icmpNo X0 hx (hb hby d8_2) (tlt (by decide : (0 : Int32) < (3 : Int32))).2.1 ?_
  refine own_aloadN X0 hx (hb hby d8_5) rfl rfl ?_
  refine own_iloadN X0 hx (hb hby d8_6) rfl ?_
  refine own_caload X0 hx hZ (.int c0) e0 Vc ⟨by decide, by decide⟩ rfl (hb hby d8_7) ?_
  refine own_bipush X0 hx 10 (hb hby d8_8) rfl ?_
  by_cases hc569 : c0 = (10 : Int32)
  · refine own_icmpNo X0 hx (hb hby d8_10) (teq hc569).2 ?_
    refine own_iconst X0 hx 1 (hb hby d8_13) rfl ?_
    refine own_goto X0 hx 18 (hb hby d8_14) (by decide) (by decide) ?_
    refine own_retI X0 hx hlk hret (hb hby d8_18) (own_kN (by decide) (by decide) ?_)
    try rw [e0]
    exact ⟨congrArg (fun z => some (Value.int z)) (if_pos hc569).symm, N0, rfl⟩
  · refine own_icmpYes X0 hx 17 (hb hby d8_10) (feq hc569).2 (by decide) (by decide) ?_
    refine own_iconst X0 hx 0 (hb hby d8_17) rfl ?_
    refine own_retI X0 hx hlk hret (hb hby d8_18) (own_kN (by decide) (by decide) ?_)
    try rw [e0]
    exact ⟨congrArg (fun z => some (Value.int z)) (if_neg hc569).symm, N0, rfl⟩
set_option maxRecDepth 65536 in
set_option maxHeartbeats 40000000 in
theorem rmNl_3_1 (l : Launch) (Z : State) (a0 : Array Value) (hw : own_Wd a0 Z) (ws : List Jvm.Cond) (ca : Addr) (kc : ClassId) (c0 c1 c2 : Int32)  (h0 : Heap) (n0 : Nat) (Z0 : n0 ≤ h0.size) (Vc : Arv Z h0 ca kc .char (3 : Int32) [(.int c0), (.int c1), (.int c2)] (.int 0)) :
    own_Met l (⟨"com/example/amendtrail/amendtrail/write/LinesLengthPinLaw", "nl", "([CII)I"⟩ : MethodName) method_4_code 3 (some .int) ws ({ frames := 0, cells := 0, slots := 0, locals := 0 } : Room) Z #[(.ref ca), (.int 3), (.int 1)] h0 (fun v h L => v = some (.int (own_nl c1)) ∧ Fr n0 L ∧ h = h0) := by
  refine own_body (plainFor_of_name pn_0) ?_
  intro p e s m below meth c s₁ X0 hx hby hml hown hnm hret hlk hZ e0
  replace hown : s.vm.findClass "com/example/amendtrail/amendtrail/write/LinesLengthPinLaw" = some m.cls := hown
  replace hml : c.maxLocals = 3 := hml
  replace hret : meth.sig.returnType = (some .int) := hret
  have N0 := Fr.nil n0
  refine own_ef (L0 := #[.val (.ref ca), .val (.int 3), .val (.int 1)]) (by first | (simp [entryFrame, mkF, argsToLocals, Value.category]; done) | rfl) ?_
  refine own_iloadN X0 hx (hb hby d8_0) rfl ?_
  refine own_iloadN X0 hx (hb hby d8_1) rfl ?_
  refine own_icmpNo X0 hx (hb hby d8_2) (tlt (by decide : (1 : Int32) < (3 : Int32))).2.1 ?_
  refine own_aloadN X0 hx (hb hby d8_5) rfl rfl ?_
  refine own_iloadN X0 hx (hb hby d8_6) rfl ?_
  refine own_caload X0 hx hZ (.int c1) e0 Vc ⟨by decide, by decide⟩ rfl (hb hby d8_7) ?_
  refine own_bipush X0 hx 10 (hb hby d8_8) rfl ?_
  by_cases hc570 : c1 = (10 : Int32)
  · refine own_icmpNo X0 hx (hb hby d8_10) (teq hc570).2 ?_
    refine own_iconst X0 hx 1 (hb hby d8_13) rfl ?_
    refine own_goto X0 hx 18 (hb hby d8_14) (by decide) (by decide) ?_
    refine own_retI X0 hx hlk hret (hb hby d8_18) (own_kN (by decide) (by decide) ?_)
    try rw [e0]
    exact ⟨congrArg (fun z => some (Value.int z)) (if_pos hc570).symm, N0, rfl⟩
  · refine own_icmpYes X0 hx 17 (hb hby d8_10) (feq hc570).2 (by decide) (by decide) ?_
    refine own_iconst X0 hx 0 (hb hby d8_17) rfl ?_
    refine own_retI X0 hx hlk hret (hb hby d8_18) (own_kN (by decide) (by decide) ?_)
    try rw [e0]
    exact ⟨congrArg (fun z => some (Value.int z)) (if_neg hc570).symm, N0, rfl⟩
set_option maxRecDepth 65536 in
set_option maxHeartbeats 40000000 in
theorem rmNl_3_2 (l : Launch) (Z : State) (a0 : Array Value) (hw : own_Wd a0 Z) (ws : List Jvm.Cond) (ca : Addr) (kc : ClassId) (c0 c1 c2 : Int32)  (h0 : Heap) (n0 : Nat) (Z0 : n0 ≤ h0.size) (Vc : Arv Z h0 ca kc .char (3 : Int32) [(.int c0), (.int c1), (.int c2)] (.int 0)) :
    own_Met l (⟨"com/example/amendtrail/amendtrail/write/LinesLengthPinLaw", "nl", "([CII)I"⟩ : MethodName) method_4_code 3 (some .int) ws ({ frames := 0, cells := 0, slots := 0, locals := 0 } : Room) Z #[(.ref ca), (.int 3), (.int 2)] h0 (fun v h L => v = some (.int (own_nl c2)) ∧ Fr n0 L ∧ h = h0) := by
  refine own_body (plainFor_of_name pn_0) ?_
  intro p e s m below meth c s₁ X0 hx hby hml hown hnm hret hlk hZ e0
  replace hown : s.vm.findClass "com/example/amendtrail/amendtrail/write/LinesLengthPinLaw" = some m.cls := hown
  replace hml : c.maxLocals = 3 := hml
  replace hret : meth.sig.returnType = (some .int) := hret
  have N0 := Fr.nil n0
  refine own_ef (L0 := #[.val (.ref ca), .val (.int 3), .val (.int 2)]) (by first | (simp [entryFrame, mkF, argsToLocals, Value.category]; done) | rfl) ?_
  refine own_iloadN X0 hx (hb hby d8_0) rfl ?_
  refine own_iloadN X0 hx (hb hby d8_1) rfl ?_
  refine own_icmpNo X0 hx (hb hby d8_2) (tlt (by decide : (2 : Int32) < (3 : Int32))).2.1 ?_
  refine own_aloadN X0 hx (hb hby d8_5) rfl rfl ?_
  refine own_iloadN X0 hx (hb hby d8_6) rfl ?_
  refine own_caload X0 hx hZ (.int c2) e0 Vc ⟨by decide, by decide⟩ rfl (hb hby d8_7) ?_
  refine own_bipush X0 hx 10 (hb hby d8_8) rfl ?_
  by_cases hc571 : c2 = (10 : Int32)
  · refine own_icmpNo X0 hx (hb hby d8_10) (teq hc571).2 ?_
    refine own_iconst X0 hx 1 (hb hby d8_13) rfl ?_
    refine own_goto X0 hx 18 (hb hby d8_14) (by decide) (by decide) ?_
    refine own_retI X0 hx hlk hret (hb hby d8_18) (own_kN (by decide) (by decide) ?_)
    try rw [e0]
    exact ⟨congrArg (fun z => some (Value.int z)) (if_pos hc571).symm, N0, rfl⟩
  · refine own_icmpYes X0 hx 17 (hb hby d8_10) (feq hc571).2 (by decide) (by decide) ?_
    refine own_iconst X0 hx 0 (hb hby d8_17) rfl ?_
    refine own_retI X0 hx hlk hret (hb hby d8_18) (own_kN (by decide) (by decide) ?_)
    try rw [e0]
    exact ⟨congrArg (fun z => some (Value.int z)) (if_neg hc571).symm, N0, rfl⟩
def own_start4 (c0 c1 c2 c3 : Int32) (k : Int32) : Int32 := if k = (0 : Int32) then (0 : Int32) else (if c0 = (10 : Int32) then (if (1 : Int32) = k then (1 : Int32) else (if c1 = (10 : Int32) then (if (2 : Int32) = k then (2 : Int32) else (if c2 = (10 : Int32) then (if (3 : Int32) = k then (3 : Int32) else (if c3 = (10 : Int32) then (if (4 : Int32) = k then (4 : Int32) else (4 : Int32)) else (4 : Int32))) else (if c3 = (10 : Int32) then (if (3 : Int32) = k then (4 : Int32) else (4 : Int32)) else (4 : Int32)))) else (if c2 = (10 : Int32) then (if (2 : Int32) = k then (3 : Int32) else (if c3 = (10 : Int32) then (if (3 : Int32) = k then (4 : Int32) else (4 : Int32)) else (4 : Int32))) else (if c3 = (10 : Int32) then (if (2 : Int32) = k then (4 : Int32) else (4 : Int32)) else (4 : Int32))))) else (if c1 = (10 : Int32) then (if (1 : Int32) = k then (2 : Int32) else (if c2 = (10 : Int32) then (if (2 : Int32) = k then (3 : Int32) else (if c3 = (10 : Int32) then (if (3 : Int32) = k then (4 : Int32) else (4 : Int32)) else (4 : Int32))) else (if c3 = (10 : Int32) then (if (2 : Int32) = k then (4 : Int32) else (4 : Int32)) else (4 : Int32)))) else (if c2 = (10 : Int32) then (if (1 : Int32) = k then (3 : Int32) else (if c3 = (10 : Int32) then (if (2 : Int32) = k then (4 : Int32) else (4 : Int32)) else (4 : Int32))) else (if c3 = (10 : Int32) then (if (1 : Int32) = k then (4 : Int32) else (4 : Int32)) else (4 : Int32)))))
set_option maxRecDepth 65536 in
set_option maxHeartbeats 40000000 in
theorem rmSt_4 (l : Launch) (Z : State) (a0 : Array Value) (hw : own_Wd a0 Z) (ws : List Jvm.Cond) (ca : Addr) (kc : ClassId) (c0 c1 c2 c3 : Int32) (k : Int32)  (h0 : Heap) (n0 : Nat) (Z0 : n0 ≤ h0.size) (Vc : Arv Z h0 ca kc .char (4 : Int32) [(.int c0), (.int c1), (.int c2), (.int c3)] (.int 0)) :
    own_Met l (⟨"com/example/amendtrail/amendtrail/write/LinesLengthPinLaw", "start", "([CII)I"⟩ : MethodName) method_5_code 4 (some .int) ws ({ frames := 0, cells := 0, slots := 0, locals := 0 } : Room) Z #[(.ref ca), (.int 4), (.int k)] h0 (fun v h L => v = some (.int (own_start4 c0 c1 c2 c3 k)) ∧ Fr n0 L ∧ h = h0) := by
  refine own_body (plainFor_of_name pn_0) ?_
  intro p e s m below meth c s₁ X0 hx hby hml hown hnm hret hlk hZ e0
  replace hown : s.vm.findClass "com/example/amendtrail/amendtrail/write/LinesLengthPinLaw" = some m.cls := hown
  replace hml : c.maxLocals = 4 := hml
  replace hret : meth.sig.returnType = (some .int) := hret
  have N0 := Fr.nil n0
  refine own_ef (L0 := #[.val (.ref ca), .val (.int 4), .val (.int k), .unset]) (by first | (simp [entryFrame, mkF, argsToLocals, Value.category]; done) | rfl) ?_
  refine own_iloadN X0 hx (hb hby d30_0) rfl ?_
  by_cases hc572 : k = (0 : Int32)
  · refine own_ifNo X0 hx (hb hby d30_1) (teq hc572).2 ?_
    refine own_iconst X0 hx 0 (hb hby d30_4) rfl ?_
    refine own_retI X0 hx hlk hret (hb hby d30_5) (own_kN (by decide) (by decide) ?_)
    try rw [e0]
    exact ⟨by unfold own_start4; rw [if_pos hc572], N0, rfl⟩
  · refine own_ifYes X0 hx 6 (hb hby d30_1) (feq hc572).2 (by decide) (by decide) ?_
    refine own_iconst X0 hx 0 (hb hby d30_6) rfl ?_
    refine own_istoreN (l' := #[.val (.ref ca), .val (.int 4), .val (.int k), .val (.int 0)]) X0 hx (hb hby d30_7) rfl ?_
    refine own_iloadN X0 hx (hb hby d30_8) rfl ?_
    refine own_ifNo X0 hx (hb hby d30_9) (tlt (by decide : (0 : Int32) < (4 : Int32))).2.2.2 ?_
    refine own_aloadN X0 hx (hb hby d30_12) rfl rfl ?_
    refine own_iconst X0 hx 0 (hb hby d30_13) rfl ?_
    refine own_caload X0 hx hZ (.int c0) e0 Vc ⟨by decide, by decide⟩ rfl (hb hby d30_14) ?_
    refine own_bipush X0 hx 10 (hb hby d30_15) rfl ?_
    by_cases hc573 : c0 = (10 : Int32)
    · refine own_icmpNo X0 hx (hb hby d30_17) (teq hc573).2 ?_
      refine own_iinc (l' := #[.val (.ref ca), .val (.int 4), .val (.int k), .val (.int ((0 : Int32) + (1 : Int32)))]) X0 hx (hb hby d30_20) rfl rfl ?_
      rw [show ((0 : Int32) + (1 : Int32)) = (1 : Int32) from by decide]
      refine own_iloadN X0 hx (hb hby d30_23) rfl ?_
      refine own_iloadN X0 hx (hb hby d30_24) rfl ?_
      by_cases hc574 : (1 : Int32) = k
      · refine own_icmpNo X0 hx (hb hby d30_25) (teq hc574).2 ?_
        refine own_iconst X0 hx 1 (hb hby d30_28) rfl ?_
        refine own_retI X0 hx hlk hret (hb hby d30_29) (own_kN (by decide) (by decide) ?_)
        try rw [e0]
        exact ⟨by unfold own_start4; rw [if_neg hc572, if_pos hc573, if_pos hc574], N0, rfl⟩
      · refine own_icmpYes X0 hx 30 (hb hby d30_25) (feq hc574).2 (by decide) (by decide) ?_
        refine own_iloadN X0 hx (hb hby d30_30) rfl ?_
        refine own_iconst X0 hx 1 (hb hby d30_31) rfl ?_
        refine own_icmpNo X0 hx (hb hby d30_32) (tlt (by decide : (1 : Int32) < (4 : Int32))).2.2.2 ?_
        refine own_aloadN X0 hx (hb hby d30_35) rfl rfl ?_
        refine own_iconst X0 hx 1 (hb hby d30_36) rfl ?_
        refine own_caload X0 hx hZ (.int c1) e0 Vc ⟨by decide, by decide⟩ rfl (hb hby d30_37) ?_
        refine own_bipush X0 hx 10 (hb hby d30_38) rfl ?_
        by_cases hc575 : c1 = (10 : Int32)
        · refine own_icmpNo X0 hx (hb hby d30_40) (teq hc575).2 ?_
          refine own_iinc (l' := #[.val (.ref ca), .val (.int 4), .val (.int k), .val (.int ((1 : Int32) + (1 : Int32)))]) X0 hx (hb hby d30_43) rfl rfl ?_
          rw [show ((1 : Int32) + (1 : Int32)) = (2 : Int32) from by decide]
          refine own_iloadN X0 hx (hb hby d30_46) rfl ?_
          refine own_iloadN X0 hx (hb hby d30_47) rfl ?_
          by_cases hc576 : (2 : Int32) = k
          · refine own_icmpNo X0 hx (hb hby d30_48) (teq hc576).2 ?_
            refine own_iconst X0 hx 2 (hb hby d30_51) rfl ?_
            refine own_retI X0 hx hlk hret (hb hby d30_52) (own_kN (by decide) (by decide) ?_)
            try rw [e0]
            exact ⟨by unfold own_start4; rw [if_neg hc572, if_pos hc573, if_neg hc574, if_pos hc575, if_pos hc576], N0, rfl⟩
          · refine own_icmpYes X0 hx 53 (hb hby d30_48) (feq hc576).2 (by decide) (by decide) ?_
            refine own_iloadN X0 hx (hb hby d30_53) rfl ?_
            refine own_iconst X0 hx 2 (hb hby d30_54) rfl ?_
            refine own_icmpNo X0 hx (hb hby d30_55) (tlt (by decide : (2 : Int32) < (4 : Int32))).2.2.2 ?_
            refine own_aloadN X0 hx (hb hby d30_58) rfl rfl ?_
            refine own_iconst X0 hx 2 (hb hby d30_59) rfl ?_
            refine own_caload X0 hx hZ (.int c2) e0 Vc ⟨by decide, by decide⟩ rfl (hb hby d30_60) ?_
            refine own_bipush X0 hx 10 (hb hby d30_61) rfl ?_
            by_cases hc577 : c2 = (10 : Int32)
            · refine own_icmpNo X0 hx (hb hby d30_63) (teq hc577).2 ?_
              refine own_iinc (l' := #[.val (.ref ca), .val (.int 4), .val (.int k), .val (.int ((2 : Int32) + (1 : Int32)))]) X0 hx (hb hby d30_66) rfl rfl ?_
              rw [show ((2 : Int32) + (1 : Int32)) = (3 : Int32) from by decide]
              refine own_iloadN X0 hx (hb hby d30_69) rfl ?_
              refine own_iloadN X0 hx (hb hby d30_70) rfl ?_
              by_cases hc578 : (3 : Int32) = k
              · refine own_icmpNo X0 hx (hb hby d30_71) (teq hc578).2 ?_
                refine own_iconst X0 hx 3 (hb hby d30_74) rfl ?_
                refine own_retI X0 hx hlk hret (hb hby d30_75) (own_kN (by decide) (by decide) ?_)
                try rw [e0]
                exact ⟨by unfold own_start4; rw [if_neg hc572, if_pos hc573, if_neg hc574, if_pos hc575, if_neg hc576, if_pos hc577, if_pos hc578], N0, rfl⟩
              · refine own_icmpYes X0 hx 76 (hb hby d30_71) (feq hc578).2 (by decide) (by decide) ?_
                refine own_iloadN X0 hx (hb hby d30_76) rfl ?_
                refine own_iconst X0 hx 3 (hb hby d30_77) rfl ?_
                refine own_icmpNo X0 hx (hb hby d30_78) (tlt (by decide : (3 : Int32) < (4 : Int32))).2.2.2 ?_
                refine own_aloadN X0 hx (hb hby d30_81) rfl rfl ?_
                refine own_iconst X0 hx 3 (hb hby d30_82) rfl ?_
                refine own_caload X0 hx hZ (.int c3) e0 Vc ⟨by decide, by decide⟩ rfl (hb hby d30_83) ?_
                refine own_bipush X0 hx 10 (hb hby d30_84) rfl ?_
                by_cases hc579 : c3 = (10 : Int32)
                · refine own_icmpNo X0 hx (hb hby d30_86) (teq hc579).2 ?_
                  refine own_iinc (l' := #[.val (.ref ca), .val (.int 4), .val (.int k), .val (.int ((3 : Int32) + (1 : Int32)))]) X0 hx (hb hby d30_89) rfl rfl ?_
                  rw [show ((3 : Int32) + (1 : Int32)) = (4 : Int32) from by decide]
                  refine own_iloadN X0 hx (hb hby d30_92) rfl ?_
                  refine own_iloadN X0 hx (hb hby d30_93) rfl ?_
                  by_cases hc580 : (4 : Int32) = k
                  · refine own_icmpNo X0 hx (hb hby d30_94) (teq hc580).2 ?_
                    refine own_iconst X0 hx 4 (hb hby d30_97) rfl ?_
                    refine own_retI X0 hx hlk hret (hb hby d30_98) (own_kN (by decide) (by decide) ?_)
                    try rw [e0]
                    exact ⟨by unfold own_start4; rw [if_neg hc572, if_pos hc573, if_neg hc574, if_pos hc575, if_neg hc576, if_pos hc577, if_neg hc578, if_pos hc579, if_pos hc580], N0, rfl⟩
                  · refine own_icmpYes X0 hx 99 (hb hby d30_94) (feq hc580).2 (by decide) (by decide) ?_
                    refine own_iloadN X0 hx (hb hby d30_99) rfl ?_
                    refine own_retI X0 hx hlk hret (hb hby d30_100) (own_kN (by decide) (by decide) ?_)
                    try rw [e0]
                    exact ⟨by unfold own_start4; rw [if_neg hc572, if_pos hc573, if_neg hc574, if_pos hc575, if_neg hc576, if_pos hc577, if_neg hc578, if_pos hc579, if_neg hc580], N0, rfl⟩
                · refine own_icmpYes X0 hx 99 (hb hby d30_86) (feq hc579).2 (by decide) (by decide) ?_
                  refine own_iloadN X0 hx (hb hby d30_99) rfl ?_
                  refine own_retI X0 hx hlk hret (hb hby d30_100) (own_kN (by decide) (by decide) ?_)
                  try rw [e0]
                  exact ⟨by unfold own_start4; rw [if_neg hc572, if_pos hc573, if_neg hc574, if_pos hc575, if_neg hc576, if_pos hc577, if_neg hc578, if_neg hc579], N0, rfl⟩
            · refine own_icmpYes X0 hx 76 (hb hby d30_63) (feq hc577).2 (by decide) (by decide) ?_
              refine own_iloadN X0 hx (hb hby d30_76) rfl ?_
              refine own_iconst X0 hx 3 (hb hby d30_77) rfl ?_
              refine own_icmpNo X0 hx (hb hby d30_78) (tlt (by decide : (3 : Int32) < (4 : Int32))).2.2.2 ?_
              refine own_aloadN X0 hx (hb hby d30_81) rfl rfl ?_
              refine own_iconst X0 hx 3 (hb hby d30_82) rfl ?_
              refine own_caload X0 hx hZ (.int c3) e0 Vc ⟨by decide, by decide⟩ rfl (hb hby d30_83) ?_
              refine own_bipush X0 hx 10 (hb hby d30_84) rfl ?_
              by_cases hc581 : c3 = (10 : Int32)
              · refine own_icmpNo X0 hx (hb hby d30_86) (teq hc581).2 ?_
                refine own_iinc (l' := #[.val (.ref ca), .val (.int 4), .val (.int k), .val (.int ((2 : Int32) + (1 : Int32)))]) X0 hx (hb hby d30_89) rfl rfl ?_
                rw [show ((2 : Int32) + (1 : Int32)) = (3 : Int32) from by decide]
                refine own_iloadN X0 hx (hb hby d30_92) rfl ?_
                refine own_iloadN X0 hx (hb hby d30_93) rfl ?_
                by_cases hc582 : (3 : Int32) = k
                · refine own_icmpNo X0 hx (hb hby d30_94) (teq hc582).2 ?_
                  refine own_iconst X0 hx 4 (hb hby d30_97) rfl ?_
                  refine own_retI X0 hx hlk hret (hb hby d30_98) (own_kN (by decide) (by decide) ?_)
                  try rw [e0]
                  exact ⟨by unfold own_start4; rw [if_neg hc572, if_pos hc573, if_neg hc574, if_pos hc575, if_neg hc576, if_neg hc577, if_pos hc581, if_pos hc582], N0, rfl⟩
                · refine own_icmpYes X0 hx 99 (hb hby d30_94) (feq hc582).2 (by decide) (by decide) ?_
                  refine own_iloadN X0 hx (hb hby d30_99) rfl ?_
                  refine own_retI X0 hx hlk hret (hb hby d30_100) (own_kN (by decide) (by decide) ?_)
                  try rw [e0]
                  exact ⟨by unfold own_start4; rw [if_neg hc572, if_pos hc573, if_neg hc574, if_pos hc575, if_neg hc576, if_neg hc577, if_pos hc581, if_neg hc582], N0, rfl⟩
              · refine own_icmpYes X0 hx 99 (hb hby d30_86) (feq hc581).2 (by decide) (by decide) ?_
                refine own_iloadN X0 hx (hb hby d30_99) rfl ?_
                refine own_retI X0 hx hlk hret (hb hby d30_100) (own_kN (by decide) (by decide) ?_)
                try rw [e0]
                exact ⟨by unfold own_start4; rw [if_neg hc572, if_pos hc573, if_neg hc574, if_pos hc575, if_neg hc576, if_neg hc577, if_neg hc581], N0, rfl⟩
        · refine own_icmpYes X0 hx 53 (hb hby d30_40) (feq hc575).2 (by decide) (by decide) ?_
          refine own_iloadN X0 hx (hb hby d30_53) rfl ?_
          refine own_iconst X0 hx 2 (hb hby d30_54) rfl ?_
          refine own_icmpNo X0 hx (hb hby d30_55) (tlt (by decide : (2 : Int32) < (4 : Int32))).2.2.2 ?_
          refine own_aloadN X0 hx (hb hby d30_58) rfl rfl ?_
          refine own_iconst X0 hx 2 (hb hby d30_59) rfl ?_
          refine own_caload X0 hx hZ (.int c2) e0 Vc ⟨by decide, by decide⟩ rfl (hb hby d30_60) ?_
          refine own_bipush X0 hx 10 (hb hby d30_61) rfl ?_
          by_cases hc583 : c2 = (10 : Int32)
          · refine own_icmpNo X0 hx (hb hby d30_63) (teq hc583).2 ?_
            refine own_iinc (l' := #[.val (.ref ca), .val (.int 4), .val (.int k), .val (.int ((1 : Int32) + (1 : Int32)))]) X0 hx (hb hby d30_66) rfl rfl ?_
            rw [show ((1 : Int32) + (1 : Int32)) = (2 : Int32) from by decide]
            refine own_iloadN X0 hx (hb hby d30_69) rfl ?_
            refine own_iloadN X0 hx (hb hby d30_70) rfl ?_
            by_cases hc584 : (2 : Int32) = k
            · refine own_icmpNo X0 hx (hb hby d30_71) (teq hc584).2 ?_
              refine own_iconst X0 hx 3 (hb hby d30_74) rfl ?_
              refine own_retI X0 hx hlk hret (hb hby d30_75) (own_kN (by decide) (by decide) ?_)
              try rw [e0]
              exact ⟨by unfold own_start4; rw [if_neg hc572, if_pos hc573, if_neg hc574, if_neg hc575, if_pos hc583, if_pos hc584], N0, rfl⟩
            · refine own_icmpYes X0 hx 76 (hb hby d30_71) (feq hc584).2 (by decide) (by decide) ?_
              refine own_iloadN X0 hx (hb hby d30_76) rfl ?_
              refine own_iconst X0 hx 3 (hb hby d30_77) rfl ?_
              refine own_icmpNo X0 hx (hb hby d30_78) (tlt (by decide : (3 : Int32) < (4 : Int32))).2.2.2 ?_
              refine own_aloadN X0 hx (hb hby d30_81) rfl rfl ?_
              refine own_iconst X0 hx 3 (hb hby d30_82) rfl ?_
              refine own_caload X0 hx hZ (.int c3) e0 Vc ⟨by decide, by decide⟩ rfl (hb hby d30_83) ?_
              refine own_bipush X0 hx 10 (hb hby d30_84) rfl ?_
              by_cases hc585 : c3 = (10 : Int32)
              · refine own_icmpNo X0 hx (hb hby d30_86) (teq hc585).2 ?_
                refine own_iinc (l' := #[.val (.ref ca), .val (.int 4), .val (.int k), .val (.int ((2 : Int32) + (1 : Int32)))]) X0 hx (hb hby d30_89) rfl rfl ?_
                rw [show ((2 : Int32) + (1 : Int32)) = (3 : Int32) from by decide]
                refine own_iloadN X0 hx (hb hby d30_92) rfl ?_
                refine own_iloadN X0 hx (hb hby d30_93) rfl ?_
                by_cases hc586 : (3 : Int32) = k
                · refine own_icmpNo X0 hx (hb hby d30_94) (teq hc586).2 ?_
                  refine own_iconst X0 hx 4 (hb hby d30_97) rfl ?_
                  refine own_retI X0 hx hlk hret (hb hby d30_98) (own_kN (by decide) (by decide) ?_)
                  try rw [e0]
                  exact ⟨by unfold own_start4; rw [if_neg hc572, if_pos hc573, if_neg hc574, if_neg hc575, if_pos hc583, if_neg hc584, if_pos hc585, if_pos hc586], N0, rfl⟩
                · refine own_icmpYes X0 hx 99 (hb hby d30_94) (feq hc586).2 (by decide) (by decide) ?_
                  refine own_iloadN X0 hx (hb hby d30_99) rfl ?_
                  refine own_retI X0 hx hlk hret (hb hby d30_100) (own_kN (by decide) (by decide) ?_)
                  try rw [e0]
                  exact ⟨by unfold own_start4; rw [if_neg hc572, if_pos hc573, if_neg hc574, if_neg hc575, if_pos hc583, if_neg hc584, if_pos hc585, if_neg hc586], N0, rfl⟩
              · refine own_icmpYes X0 hx 99 (hb hby d30_86) (feq hc585).2 (by decide) (by decide) ?_
                refine own_iloadN X0 hx (hb hby d30_99) rfl ?_
                refine own_retI X0 hx hlk hret (hb hby d30_100) (own_kN (by decide) (by decide) ?_)
                try rw [e0]
                exact ⟨by unfold own_start4; rw [if_neg hc572, if_pos hc573, if_neg hc574, if_neg hc575, if_pos hc583, if_neg hc584, if_neg hc585], N0, rfl⟩
          · refine own_icmpYes X0 hx 76 (hb hby d30_63) (feq hc583).2 (by decide) (by decide) ?_
            refine own_iloadN X0 hx (hb hby d30_76) rfl ?_
            refine own_iconst X0 hx 3 (hb hby d30_77) rfl ?_
            refine own_icmpNo X0 hx (hb hby d30_78) (tlt (by decide : (3 : Int32) < (4 : Int32))).2.2.2 ?_
            refine own_aloadN X0 hx (hb hby d30_81) rfl rfl ?_
            refine own_iconst X0 hx 3 (hb hby d30_82) rfl ?_
            refine own_caload X0 hx hZ (.int c3) e0 Vc ⟨by decide, by decide⟩ rfl (hb hby d30_83) ?_
            refine own_bipush X0 hx 10 (hb hby d30_84) rfl ?_
            by_cases hc587 : c3 = (10 : Int32)
            · refine own_icmpNo X0 hx (hb hby d30_86) (teq hc587).2 ?_
              refine own_iinc (l' := #[.val (.ref ca), .val (.int 4), .val (.int k), .val (.int ((1 : Int32) + (1 : Int32)))]) X0 hx (hb hby d30_89) rfl rfl ?_
              rw [show ((1 : Int32) + (1 : Int32)) = (2 : Int32) from by decide]
              refine own_iloadN X0 hx (hb hby d30_92) rfl ?_
              refine own_iloadN X0 hx (hb hby d30_93) rfl ?_
              by_cases hc588 : (2 : Int32) = k
              · refine own_icmpNo X0 hx (hb hby d30_94) (teq hc588).2 ?_
                refine own_iconst X0 hx 4 (hb hby d30_97) rfl ?_
                refine own_retI X0 hx hlk hret (hb hby d30_98) (own_kN (by decide) (by decide) ?_)
                try rw [e0]
                exact ⟨by unfold own_start4; rw [if_neg hc572, if_pos hc573, if_neg hc574, if_neg hc575, if_neg hc583, if_pos hc587, if_pos hc588], N0, rfl⟩
              · refine own_icmpYes X0 hx 99 (hb hby d30_94) (feq hc588).2 (by decide) (by decide) ?_
                refine own_iloadN X0 hx (hb hby d30_99) rfl ?_
                refine own_retI X0 hx hlk hret (hb hby d30_100) (own_kN (by decide) (by decide) ?_)
                try rw [e0]
                exact ⟨by unfold own_start4; rw [if_neg hc572, if_pos hc573, if_neg hc574, if_neg hc575, if_neg hc583, if_pos hc587, if_neg hc588], N0, rfl⟩
            · refine own_icmpYes X0 hx 99 (hb hby d30_86) (feq hc587).2 (by decide) (by decide) ?_
              refine own_iloadN X0 hx (hb hby d30_99) rfl ?_
              refine own_retI X0 hx hlk hret (hb hby d30_100) (own_kN (by decide) (by decide) ?_)
              try rw [e0]
              exact ⟨by unfold own_start4; rw [if_neg hc572, if_pos hc573, if_neg hc574, if_neg hc575, if_neg hc583, if_neg hc587], N0, rfl⟩
    · refine own_icmpYes X0 hx 30 (hb hby d30_17) (feq hc573).2 (by decide) (by decide) ?_
      refine own_iloadN X0 hx (hb hby d30_30) rfl ?_
      refine own_iconst X0 hx 1 (hb hby d30_31) rfl ?_
      refine own_icmpNo X0 hx (hb hby d30_32) (tlt (by decide : (1 : Int32) < (4 : Int32))).2.2.2 ?_
      refine own_aloadN X0 hx (hb hby d30_35) rfl rfl ?_
      refine own_iconst X0 hx 1 (hb hby d30_36) rfl ?_
      refine own_caload X0 hx hZ (.int c1) e0 Vc ⟨by decide, by decide⟩ rfl (hb hby d30_37) ?_
      refine own_bipush X0 hx 10 (hb hby d30_38) rfl ?_
      by_cases hc589 : c1 = (10 : Int32)
      · refine own_icmpNo X0 hx (hb hby d30_40) (teq hc589).2 ?_
        refine own_iinc (l' := #[.val (.ref ca), .val (.int 4), .val (.int k), .val (.int ((0 : Int32) + (1 : Int32)))]) X0 hx (hb hby d30_43) rfl rfl ?_
        rw [show ((0 : Int32) + (1 : Int32)) = (1 : Int32) from by decide]
        refine own_iloadN X0 hx (hb hby d30_46) rfl ?_
        refine own_iloadN X0 hx (hb hby d30_47) rfl ?_
        by_cases hc590 : (1 : Int32) = k
        · refine own_icmpNo X0 hx (hb hby d30_48) (teq hc590).2 ?_
          refine own_iconst X0 hx 2 (hb hby d30_51) rfl ?_
          refine own_retI X0 hx hlk hret (hb hby d30_52) (own_kN (by decide) (by decide) ?_)
          try rw [e0]
          exact ⟨by unfold own_start4; rw [if_neg hc572, if_neg hc573, if_pos hc589, if_pos hc590], N0, rfl⟩
        · refine own_icmpYes X0 hx 53 (hb hby d30_48) (feq hc590).2 (by decide) (by decide) ?_
          refine own_iloadN X0 hx (hb hby d30_53) rfl ?_
          refine own_iconst X0 hx 2 (hb hby d30_54) rfl ?_
          refine own_icmpNo X0 hx (hb hby d30_55) (tlt (by decide : (2 : Int32) < (4 : Int32))).2.2.2 ?_
          refine own_aloadN X0 hx (hb hby d30_58) rfl rfl ?_
          refine own_iconst X0 hx 2 (hb hby d30_59) rfl ?_
          refine own_caload X0 hx hZ (.int c2) e0 Vc ⟨by decide, by decide⟩ rfl (hb hby d30_60) ?_
          refine own_bipush X0 hx 10 (hb hby d30_61) rfl ?_
          by_cases hc591 : c2 = (10 : Int32)
          · refine own_icmpNo X0 hx (hb hby d30_63) (teq hc591).2 ?_
            refine own_iinc (l' := #[.val (.ref ca), .val (.int 4), .val (.int k), .val (.int ((1 : Int32) + (1 : Int32)))]) X0 hx (hb hby d30_66) rfl rfl ?_
            rw [show ((1 : Int32) + (1 : Int32)) = (2 : Int32) from by decide]
            refine own_iloadN X0 hx (hb hby d30_69) rfl ?_
            refine own_iloadN X0 hx (hb hby d30_70) rfl ?_
            by_cases hc592 : (2 : Int32) = k
            · refine own_icmpNo X0 hx (hb hby d30_71) (teq hc592).2 ?_
              refine own_iconst X0 hx 3 (hb hby d30_74) rfl ?_
              refine own_retI X0 hx hlk hret (hb hby d30_75) (own_kN (by decide) (by decide) ?_)
              try rw [e0]
              exact ⟨by unfold own_start4; rw [if_neg hc572, if_neg hc573, if_pos hc589, if_neg hc590, if_pos hc591, if_pos hc592], N0, rfl⟩
            · refine own_icmpYes X0 hx 76 (hb hby d30_71) (feq hc592).2 (by decide) (by decide) ?_
              refine own_iloadN X0 hx (hb hby d30_76) rfl ?_
              refine own_iconst X0 hx 3 (hb hby d30_77) rfl ?_
              refine own_icmpNo X0 hx (hb hby d30_78) (tlt (by decide : (3 : Int32) < (4 : Int32))).2.2.2 ?_
              refine own_aloadN X0 hx (hb hby d30_81) rfl rfl ?_
              refine own_iconst X0 hx 3 (hb hby d30_82) rfl ?_
              refine own_caload X0 hx hZ (.int c3) e0 Vc ⟨by decide, by decide⟩ rfl (hb hby d30_83) ?_
              refine own_bipush X0 hx 10 (hb hby d30_84) rfl ?_
              by_cases hc593 : c3 = (10 : Int32)
              · refine own_icmpNo X0 hx (hb hby d30_86) (teq hc593).2 ?_
                refine own_iinc (l' := #[.val (.ref ca), .val (.int 4), .val (.int k), .val (.int ((2 : Int32) + (1 : Int32)))]) X0 hx (hb hby d30_89) rfl rfl ?_
                rw [show ((2 : Int32) + (1 : Int32)) = (3 : Int32) from by decide]
                refine own_iloadN X0 hx (hb hby d30_92) rfl ?_
                refine own_iloadN X0 hx (hb hby d30_93) rfl ?_
                by_cases hc594 : (3 : Int32) = k
                · refine own_icmpNo X0 hx (hb hby d30_94) (teq hc594).2 ?_
                  refine own_iconst X0 hx 4 (hb hby d30_97) rfl ?_
                  refine own_retI X0 hx hlk hret (hb hby d30_98) (own_kN (by decide) (by decide) ?_)
                  try rw [e0]
                  exact ⟨by unfold own_start4; rw [if_neg hc572, if_neg hc573, if_pos hc589, if_neg hc590, if_pos hc591, if_neg hc592, if_pos hc593, if_pos hc594], N0, rfl⟩
                · refine own_icmpYes X0 hx 99 (hb hby d30_94) (feq hc594).2 (by decide) (by decide) ?_
                  refine own_iloadN X0 hx (hb hby d30_99) rfl ?_
                  refine own_retI X0 hx hlk hret (hb hby d30_100) (own_kN (by decide) (by decide) ?_)
                  try rw [e0]
                  exact ⟨by unfold own_start4; rw [if_neg hc572, if_neg hc573, if_pos hc589, if_neg hc590, if_pos hc591, if_neg hc592, if_pos hc593, if_neg hc594], N0, rfl⟩
              · refine own_icmpYes X0 hx 99 (hb hby d30_86) (feq hc593).2 (by decide) (by decide) ?_
                refine own_iloadN X0 hx (hb hby d30_99) rfl ?_
                refine own_retI X0 hx hlk hret (hb hby d30_100) (own_kN (by decide) (by decide) ?_)
                try rw [e0]
                exact ⟨by unfold own_start4; rw [if_neg hc572, if_neg hc573, if_pos hc589, if_neg hc590, if_pos hc591, if_neg hc592, if_neg hc593], N0, rfl⟩
          · refine own_icmpYes X0 hx 76 (hb hby d30_63) (feq hc591).2 (by decide) (by decide) ?_
            refine own_iloadN X0 hx (hb hby d30_76) rfl ?_
            refine own_iconst X0 hx 3 (hb hby d30_77) rfl ?_
            refine own_icmpNo X0 hx (hb hby d30_78) (tlt (by decide : (3 : Int32) < (4 : Int32))).2.2.2 ?_
            refine own_aloadN X0 hx (hb hby d30_81) rfl rfl ?_
            refine own_iconst X0 hx 3 (hb hby d30_82) rfl ?_
            refine own_caload X0 hx hZ (.int c3) e0 Vc ⟨by decide, by decide⟩ rfl (hb hby d30_83) ?_
            refine own_bipush X0 hx 10 (hb hby d30_84) rfl ?_
            by_cases hc595 : c3 = (10 : Int32)
            · refine own_icmpNo X0 hx (hb hby d30_86) (teq hc595).2 ?_
              refine own_iinc (l' := #[.val (.ref ca), .val (.int 4), .val (.int k), .val (.int ((1 : Int32) + (1 : Int32)))]) X0 hx (hb hby d30_89) rfl rfl ?_
              rw [show ((1 : Int32) + (1 : Int32)) = (2 : Int32) from by decide]
              refine own_iloadN X0 hx (hb hby d30_92) rfl ?_
              refine own_iloadN X0 hx (hb hby d30_93) rfl ?_
              by_cases hc596 : (2 : Int32) = k
              · refine own_icmpNo X0 hx (hb hby d30_94) (teq hc596).2 ?_
                refine own_iconst X0 hx 4 (hb hby d30_97) rfl ?_
                refine own_retI X0 hx hlk hret (hb hby d30_98) (own_kN (by decide) (by decide) ?_)
                try rw [e0]
                exact ⟨by unfold own_start4; rw [if_neg hc572, if_neg hc573, if_pos hc589, if_neg hc590, if_neg hc591, if_pos hc595, if_pos hc596], N0, rfl⟩
              · refine own_icmpYes X0 hx 99 (hb hby d30_94) (feq hc596).2 (by decide) (by decide) ?_
                refine own_iloadN X0 hx (hb hby d30_99) rfl ?_
                refine own_retI X0 hx hlk hret (hb hby d30_100) (own_kN (by decide) (by decide) ?_)
                try rw [e0]
                exact ⟨by unfold own_start4; rw [if_neg hc572, if_neg hc573, if_pos hc589, if_neg hc590, if_neg hc591, if_pos hc595, if_neg hc596], N0, rfl⟩
            · refine own_icmpYes X0 hx 99 (hb hby d30_86) (feq hc595).2 (by decide) (by decide) ?_
              refine own_iloadN X0 hx (hb hby d30_99) rfl ?_
              refine own_retI X0 hx hlk hret (hb hby d30_100) (own_kN (by decide) (by decide) ?_)
              try rw [e0]
              exact ⟨by unfold own_start4; rw [if_neg hc572, if_neg hc573, if_pos hc589, if_neg hc590, if_neg hc591, if_neg hc595], N0, rfl⟩
      · refine own_icmpYes X0 hx 53 (hb hby d30_40) (feq hc589).2 (by decide) (by decide) ?_
        refine own_iloadN X0 hx (hb hby d30_53) rfl ?_
        refine own_iconst X0 hx 2 (hb hby d30_54) rfl ?_
        refine own_icmpNo X0 hx (hb hby d30_55) (tlt (by decide : (2 : Int32) < (4 : Int32))).2.2.2 ?_
        refine own_aloadN X0 hx (hb hby d30_58) rfl rfl ?_
        refine own_iconst X0 hx 2 (hb hby d30_59) rfl ?_
        refine own_caload X0 hx hZ (.int c2) e0 Vc ⟨by decide, by decide⟩ rfl (hb hby d30_60) ?_
        refine own_bipush X0 hx 10 (hb hby d30_61) rfl ?_
        by_cases hc597 : c2 = (10 : Int32)
        · refine own_icmpNo X0 hx (hb hby d30_63) (teq hc597).2 ?_
          refine own_iinc (l' := #[.val (.ref ca), .val (.int 4), .val (.int k), .val (.int ((0 : Int32) + (1 : Int32)))]) X0 hx (hb hby d30_66) rfl rfl ?_
          rw [show ((0 : Int32) + (1 : Int32)) = (1 : Int32) from by decide]
          refine own_iloadN X0 hx (hb hby d30_69) rfl ?_
          refine own_iloadN X0 hx (hb hby d30_70) rfl ?_
          by_cases hc598 : (1 : Int32) = k
          · refine own_icmpNo X0 hx (hb hby d30_71) (teq hc598).2 ?_
            refine own_iconst X0 hx 3 (hb hby d30_74) rfl ?_
            refine own_retI X0 hx hlk hret (hb hby d30_75) (own_kN (by decide) (by decide) ?_)
            try rw [e0]
            exact ⟨by unfold own_start4; rw [if_neg hc572, if_neg hc573, if_neg hc589, if_pos hc597, if_pos hc598], N0, rfl⟩
          · refine own_icmpYes X0 hx 76 (hb hby d30_71) (feq hc598).2 (by decide) (by decide) ?_
            refine own_iloadN X0 hx (hb hby d30_76) rfl ?_
            refine own_iconst X0 hx 3 (hb hby d30_77) rfl ?_
            refine own_icmpNo X0 hx (hb hby d30_78) (tlt (by decide : (3 : Int32) < (4 : Int32))).2.2.2 ?_
            refine own_aloadN X0 hx (hb hby d30_81) rfl rfl ?_
            refine own_iconst X0 hx 3 (hb hby d30_82) rfl ?_
            refine own_caload X0 hx hZ (.int c3) e0 Vc ⟨by decide, by decide⟩ rfl (hb hby d30_83) ?_
            refine own_bipush X0 hx 10 (hb hby d30_84) rfl ?_
            by_cases hc599 : c3 = (10 : Int32)
            · refine own_icmpNo X0 hx (hb hby d30_86) (teq hc599).2 ?_
              refine own_iinc (l' := #[.val (.ref ca), .val (.int 4), .val (.int k), .val (.int ((1 : Int32) + (1 : Int32)))]) X0 hx (hb hby d30_89) rfl rfl ?_
              rw [show ((1 : Int32) + (1 : Int32)) = (2 : Int32) from by decide]
              refine own_iloadN X0 hx (hb hby d30_92) rfl ?_
              refine own_iloadN X0 hx (hb hby d30_93) rfl ?_
              by_cases hc600 : (2 : Int32) = k
              · refine own_icmpNo X0 hx (hb hby d30_94) (teq hc600).2 ?_
                refine own_iconst X0 hx 4 (hb hby d30_97) rfl ?_
                refine own_retI X0 hx hlk hret (hb hby d30_98) (own_kN (by decide) (by decide) ?_)
                try rw [e0]
                exact ⟨by unfold own_start4; rw [if_neg hc572, if_neg hc573, if_neg hc589, if_pos hc597, if_neg hc598, if_pos hc599, if_pos hc600], N0, rfl⟩
              · refine own_icmpYes X0 hx 99 (hb hby d30_94) (feq hc600).2 (by decide) (by decide) ?_
                refine own_iloadN X0 hx (hb hby d30_99) rfl ?_
                refine own_retI X0 hx hlk hret (hb hby d30_100) (own_kN (by decide) (by decide) ?_)
                try rw [e0]
                exact ⟨by unfold own_start4; rw [if_neg hc572, if_neg hc573, if_neg hc589, if_pos hc597, if_neg hc598, if_pos hc599, if_neg hc600], N0, rfl⟩
            · refine own_icmpYes X0 hx 99 (hb hby d30_86) (feq hc599).2 (by decide) (by decide) ?_
              refine own_iloadN X0 hx (hb hby d30_99) rfl ?_
              refine own_retI X0 hx hlk hret (hb hby d30_100) (own_kN (by decide) (by decide) ?_)
              try rw [e0]
              exact ⟨by unfold own_start4; rw [if_neg hc572, if_neg hc573, if_neg hc589, if_pos hc597, if_neg hc598, if_neg hc599], N0, rfl⟩
        · refine own_icmpYes X0 hx 76 (hb hby d30_63) (feq hc597).2 (by decide) (by decide) ?_
          refine own_iloadN X0 hx (hb hby d30_76) rfl ?_
          refine own_iconst X0 hx 3 (hb hby d30_77) rfl ?_
          refine own_icmpNo X0 hx (hb hby d30_78) (tlt (by decide : (3 : Int32) < (4 : Int32))).2.2.2 ?_
          refine own_aloadN X0 hx (hb hby d30_81) rfl rfl ?_
          refine own_iconst X0 hx 3 (hb hby d30_82) rfl ?_
          refine own_caload X0 hx hZ (.int c3) e0 Vc ⟨by decide, by decide⟩ rfl (hb hby d30_83) ?_
          refine own_bipush X0 hx 10 (hb hby d30_84) rfl ?_
          by_cases hc601 : c3 = (10 : Int32)
          · refine own_icmpNo X0 hx (hb hby d30_86) (teq hc601).2 ?_
            refine own_iinc (l' := #[.val (.ref ca), .val (.int 4), .val (.int k), .val (.int ((0 : Int32) + (1 : Int32)))]) X0 hx (hb hby d30_89) rfl rfl ?_
            rw [show ((0 : Int32) + (1 : Int32)) = (1 : Int32) from by decide]
            refine own_iloadN X0 hx (hb hby d30_92) rfl ?_
            refine own_iloadN X0 hx (hb hby d30_93) rfl ?_
            by_cases hc602 : (1 : Int32) = k
            · refine own_icmpNo X0 hx (hb hby d30_94) (teq hc602).2 ?_
              refine own_iconst X0 hx 4 (hb hby d30_97) rfl ?_
              refine own_retI X0 hx hlk hret (hb hby d30_98) (own_kN (by decide) (by decide) ?_)
              try rw [e0]
              exact ⟨by unfold own_start4; rw [if_neg hc572, if_neg hc573, if_neg hc589, if_neg hc597, if_pos hc601, if_pos hc602], N0, rfl⟩
            · refine own_icmpYes X0 hx 99 (hb hby d30_94) (feq hc602).2 (by decide) (by decide) ?_
              refine own_iloadN X0 hx (hb hby d30_99) rfl ?_
              refine own_retI X0 hx hlk hret (hb hby d30_100) (own_kN (by decide) (by decide) ?_)
              try rw [e0]
              exact ⟨by unfold own_start4; rw [if_neg hc572, if_neg hc573, if_neg hc589, if_neg hc597, if_pos hc601, if_neg hc602], N0, rfl⟩
          · refine own_icmpYes X0 hx 99 (hb hby d30_86) (feq hc601).2 (by decide) (by decide) ?_
            refine own_iloadN X0 hx (hb hby d30_99) rfl ?_
            refine own_retI X0 hx hlk hret (hb hby d30_100) (own_kN (by decide) (by decide) ?_)
            try rw [e0]
            exact ⟨by unfold own_start4; rw [if_neg hc572, if_neg hc573, if_neg hc589, if_neg hc597, if_neg hc601], N0, rfl⟩
set_option maxRecDepth 65536 in
set_option maxHeartbeats 40000000 in
theorem rmNl_4_0 (l : Launch) (Z : State) (a0 : Array Value) (hw : own_Wd a0 Z) (ws : List Jvm.Cond) (ca : Addr) (kc : ClassId) (c0 c1 c2 c3 : Int32)  (h0 : Heap) (n0 : Nat) (Z0 : n0 ≤ h0.size) (Vc : Arv Z h0 ca kc .char (4 : Int32) [(.int c0), (.int c1), (.int c2), (.int c3)] (.int 0)) :
    own_Met l (⟨"com/example/amendtrail/amendtrail/write/LinesLengthPinLaw", "nl", "([CII)I"⟩ : MethodName) method_4_code 3 (some .int) ws ({ frames := 0, cells := 0, slots := 0, locals := 0 } : Room) Z #[(.ref ca), (.int 4), (.int 0)] h0 (fun v h L => v = some (.int (own_nl c0)) ∧ Fr n0 L ∧ h = h0) := by
  refine own_body (plainFor_of_name pn_0) ?_
  intro p e s m below meth c s₁ X0 hx hby hml hown hnm hret hlk hZ e0
  replace hown : s.vm.findClass "com/example/amendtrail/amendtrail/write/LinesLengthPinLaw" = some m.cls := hown
  replace hml : c.maxLocals = 3 := hml
  replace hret : meth.sig.returnType = (some .int) := hret
  have N0 := Fr.nil n0
  refine own_ef (L0 := #[.val (.ref ca), .val (.int 4), .val (.int 0)]) (by first | (simp [entryFrame, mkF, argsToLocals, Value.category]; done) | rfl) ?_
  refine own_iloadN X0 hx (hb hby d8_0) rfl ?_
  refine own_iloadN X0 hx (hb hby d8_1) rfl ?_
  refine own_icmpNo X0 hx (hb hby d8_2) (tlt (by decide : (0 : Int32) < (4 : Int32))).2.1 ?_
  refine own_aloadN X0 hx (hb hby d8_5) rfl rfl ?_
  refine own_iloadN X0 hx (hb hby d8_6) rfl ?_
  refine own_caload X0 hx hZ (.int c0) e0 Vc ⟨by decide, by decide⟩ rfl (hb hby d8_7) ?_
  refine own_bipush X0 hx 10 (hb hby d8_8) rfl ?_
  by_cases hc603 : c0 = (10 : Int32)
  · refine own_icmpNo X0 hx (hb hby d8_10) (teq hc603).2 ?_
    refine own_iconst X0 hx 1 (hb hby d8_13) rfl ?_
    refine own_goto X0 hx 18 (hb hby d8_14) (by decide) (by decide) ?_
    refine own_retI X0 hx hlk hret (hb hby d8_18) (own_kN (by decide) (by decide) ?_)
    try rw [e0]
    exact ⟨congrArg (fun z => some (Value.int z)) (if_pos hc603).symm, N0, rfl⟩
  · refine own_icmpYes X0 hx 17 (hb hby d8_10) (feq hc603).2 (by decide) (by decide) ?_
    refine own_iconst X0 hx 0 (hb hby d8_17) rfl ?_
    refine own_retI X0 hx hlk hret (hb hby d8_18) (own_kN (by decide) (by decide) ?_)
    try rw [e0]
    exact ⟨congrArg (fun z => some (Value.int z)) (if_neg hc603).symm, N0, rfl⟩
set_option maxRecDepth 65536 in
set_option maxHeartbeats 40000000 in
theorem rmNl_4_1 (l : Launch) (Z : State) (a0 : Array Value) (hw : own_Wd a0 Z) (ws : List Jvm.Cond) (ca : Addr) (kc : ClassId) (c0 c1 c2 c3 : Int32)  (h0 : Heap) (n0 : Nat) (Z0 : n0 ≤ h0.size) (Vc : Arv Z h0 ca kc .char (4 : Int32) [(.int c0), (.int c1), (.int c2), (.int c3)] (.int 0)) :
    own_Met l (⟨"com/example/amendtrail/amendtrail/write/LinesLengthPinLaw", "nl", "([CII)I"⟩ : MethodName) method_4_code 3 (some .int) ws ({ frames := 0, cells := 0, slots := 0, locals := 0 } : Room) Z #[(.ref ca), (.int 4), (.int 1)] h0 (fun v h L => v = some (.int (own_nl c1)) ∧ Fr n0 L ∧ h = h0) := by
  refine own_body (plainFor_of_name pn_0) ?_
  intro p e s m below meth c s₁ X0 hx hby hml hown hnm hret hlk hZ e0
  replace hown : s.vm.findClass "com/example/amendtrail/amendtrail/write/LinesLengthPinLaw" = some m.cls := hown
  replace hml : c.maxLocals = 3 := hml
  replace hret : meth.sig.returnType = (some .int) := hret
  have N0 := Fr.nil n0
  refine own_ef (L0 := #[.val (.ref ca), .val (.int 4), .val (.int 1)]) (by first | (simp [entryFrame, mkF, argsToLocals, Value.category]; done) | rfl) ?_
  refine own_iloadN X0 hx (hb hby d8_0) rfl ?_
  refine own_iloadN X0 hx (hb hby d8_1) rfl ?_
  refine own_icmpNo X0 hx (hb hby d8_2) (tlt (by decide : (1 : Int32) < (4 : Int32))).2.1 ?_
  refine own_aloadN X0 hx (hb hby d8_5) rfl rfl ?_
  refine own_iloadN X0 hx (hb hby d8_6) rfl ?_
  refine own_caload X0 hx hZ (.int c1) e0 Vc ⟨by decide, by decide⟩ rfl (hb hby d8_7) ?_
  refine own_bipush X0 hx 10 (hb hby d8_8) rfl ?_
  by_cases hc604 : c1 = (10 : Int32)
  · refine own_icmpNo X0 hx (hb hby d8_10) (teq hc604).2 ?_
    refine own_iconst X0 hx 1 (hb hby d8_13) rfl ?_
    refine own_goto X0 hx 18 (hb hby d8_14) (by decide) (by decide) ?_
    refine own_retI X0 hx hlk hret (hb hby d8_18) (own_kN (by decide) (by decide) ?_)
    try rw [e0]
    exact ⟨congrArg (fun z => some (Value.int z)) (if_pos hc604).symm, N0, rfl⟩
  · refine own_icmpYes X0 hx 17 (hb hby d8_10) (feq hc604).2 (by decide) (by decide) ?_
    refine own_iconst X0 hx 0 (hb hby d8_17) rfl ?_
    refine own_retI X0 hx hlk hret (hb hby d8_18) (own_kN (by decide) (by decide) ?_)
    try rw [e0]
    exact ⟨congrArg (fun z => some (Value.int z)) (if_neg hc604).symm, N0, rfl⟩
set_option maxRecDepth 65536 in
set_option maxHeartbeats 40000000 in
theorem rmNl_4_2 (l : Launch) (Z : State) (a0 : Array Value) (hw : own_Wd a0 Z) (ws : List Jvm.Cond) (ca : Addr) (kc : ClassId) (c0 c1 c2 c3 : Int32)  (h0 : Heap) (n0 : Nat) (Z0 : n0 ≤ h0.size) (Vc : Arv Z h0 ca kc .char (4 : Int32) [(.int c0), (.int c1), (.int c2), (.int c3)] (.int 0)) :
    own_Met l (⟨"com/example/amendtrail/amendtrail/write/LinesLengthPinLaw", "nl", "([CII)I"⟩ : MethodName) method_4_code 3 (some .int) ws ({ frames := 0, cells := 0, slots := 0, locals := 0 } : Room) Z #[(.ref ca), (.int 4), (.int 2)] h0 (fun v h L => v = some (.int (own_nl c2)) ∧ Fr n0 L ∧ h = h0) := by
  refine own_body (plainFor_of_name pn_0) ?_
  intro p e s m below meth c s₁ X0 hx hby hml hown hnm hret hlk hZ e0
  replace hown : s.vm.findClass "com/example/amendtrail/amendtrail/write/LinesLengthPinLaw" = some m.cls := hown
  replace hml : c.maxLocals = 3 := hml
  replace hret : meth.sig.returnType = (some .int) := hret
  have N0 := Fr.nil n0
  refine own_ef (L0 := #[.val (.ref ca), .val (.int 4), .val (.int 2)]) (by first | (simp [entryFrame, mkF, argsToLocals, Value.category]; done) | rfl) ?_
  refine own_iloadN X0 hx (hb hby d8_0) rfl ?_
  refine own_iloadN X0 hx (hb hby d8_1) rfl ?_
  refine own_icmpNo X0 hx (hb hby d8_2) (tlt (by decide : (2 : Int32) < (4 : Int32))).2.1 ?_
  refine own_aloadN X0 hx (hb hby d8_5) rfl rfl ?_
  refine own_iloadN X0 hx (hb hby d8_6) rfl ?_
  refine own_caload X0 hx hZ (.int c2) e0 Vc ⟨by decide, by decide⟩ rfl (hb hby d8_7) ?_
  refine own_bipush X0 hx 10 (hb hby d8_8) rfl ?_
  by_cases hc605 : c2 = (10 : Int32)
  · refine own_icmpNo X0 hx (hb hby d8_10) (teq hc605).2 ?_
    refine own_iconst X0 hx 1 (hb hby d8_13) rfl ?_
    refine own_goto X0 hx 18 (hb hby d8_14) (by decide) (by decide) ?_
    refine own_retI X0 hx hlk hret (hb hby d8_18) (own_kN (by decide) (by decide) ?_)
    try rw [e0]
    exact ⟨congrArg (fun z => some (Value.int z)) (if_pos hc605).symm, N0, rfl⟩
  · refine own_icmpYes X0 hx 17 (hb hby d8_10) (feq hc605).2 (by decide) (by decide) ?_
    refine own_iconst X0 hx 0 (hb hby d8_17) rfl ?_
    refine own_retI X0 hx hlk hret (hb hby d8_18) (own_kN (by decide) (by decide) ?_)
    try rw [e0]
    exact ⟨congrArg (fun z => some (Value.int z)) (if_neg hc605).symm, N0, rfl⟩
set_option maxRecDepth 65536 in
set_option maxHeartbeats 40000000 in
theorem rmNl_4_3 (l : Launch) (Z : State) (a0 : Array Value) (hw : own_Wd a0 Z) (ws : List Jvm.Cond) (ca : Addr) (kc : ClassId) (c0 c1 c2 c3 : Int32)  (h0 : Heap) (n0 : Nat) (Z0 : n0 ≤ h0.size) (Vc : Arv Z h0 ca kc .char (4 : Int32) [(.int c0), (.int c1), (.int c2), (.int c3)] (.int 0)) :
    own_Met l (⟨"com/example/amendtrail/amendtrail/write/LinesLengthPinLaw", "nl", "([CII)I"⟩ : MethodName) method_4_code 3 (some .int) ws ({ frames := 0, cells := 0, slots := 0, locals := 0 } : Room) Z #[(.ref ca), (.int 4), (.int 3)] h0 (fun v h L => v = some (.int (own_nl c3)) ∧ Fr n0 L ∧ h = h0) := by
  refine own_body (plainFor_of_name pn_0) ?_
  intro p e s m below meth c s₁ X0 hx hby hml hown hnm hret hlk hZ e0
  replace hown : s.vm.findClass "com/example/amendtrail/amendtrail/write/LinesLengthPinLaw" = some m.cls := hown
  replace hml : c.maxLocals = 3 := hml
  replace hret : meth.sig.returnType = (some .int) := hret
  have N0 := Fr.nil n0
  refine own_ef (L0 := #[.val (.ref ca), .val (.int 4), .val (.int 3)]) (by first | (simp [entryFrame, mkF, argsToLocals, Value.category]; done) | rfl) ?_
  refine own_iloadN X0 hx (hb hby d8_0) rfl ?_
  refine own_iloadN X0 hx (hb hby d8_1) rfl ?_
  refine own_icmpNo X0 hx (hb hby d8_2) (tlt (by decide : (3 : Int32) < (4 : Int32))).2.1 ?_
  refine own_aloadN X0 hx (hb hby d8_5) rfl rfl ?_
  refine own_iloadN X0 hx (hb hby d8_6) rfl ?_
  refine own_caload X0 hx hZ (.int c3) e0 Vc ⟨by decide, by decide⟩ rfl (hb hby d8_7) ?_
  refine own_bipush X0 hx 10 (hb hby d8_8) rfl ?_
  by_cases hc606 : c3 = (10 : Int32)
  · refine own_icmpNo X0 hx (hb hby d8_10) (teq hc606).2 ?_
    refine own_iconst X0 hx 1 (hb hby d8_13) rfl ?_
    refine own_goto X0 hx 18 (hb hby d8_14) (by decide) (by decide) ?_
    refine own_retI X0 hx hlk hret (hb hby d8_18) (own_kN (by decide) (by decide) ?_)
    try rw [e0]
    exact ⟨congrArg (fun z => some (Value.int z)) (if_pos hc606).symm, N0, rfl⟩
  · refine own_icmpYes X0 hx 17 (hb hby d8_10) (feq hc606).2 (by decide) (by decide) ?_
    refine own_iconst X0 hx 0 (hb hby d8_17) rfl ?_
    refine own_retI X0 hx hlk hret (hb hby d8_18) (own_kN (by decide) (by decide) ?_)
    try rw [e0]
    exact ⟨congrArg (fun z => some (Value.int z)) (if_neg hc606).symm, N0, rfl⟩
set_option maxRecDepth 65536 in
set_option maxHeartbeats 40000000 in
theorem rmNlo (l : Launch) (Z : State) (a0 : Array Value) (hw : own_Wd a0 Z) (ws : List Jvm.Cond)  (ca : Addr) (n : Int32) (i : Int32) (h0 : Heap) (n0 : Nat) (Z0 : n0 ≤ h0.size) (hin : ¬ (i < n)) :
    own_Met l (⟨"com/example/amendtrail/amendtrail/write/LinesLengthPinLaw", "nl", "([CII)I"⟩ : MethodName) method_4_code 3 (some .int) ws ({ frames := 0, cells := 0, slots := 0, locals := 0 } : Room) Z #[(.ref ca), (.int n), (.int i)] h0 (fun v h L => v = some (.int 0) ∧ Fr n0 L ∧ h = h0) := by
  refine own_body (plainFor_of_name pn_0) ?_
  intro p e s m below meth c s₁ X0 hx hby hml hown hnm hret hlk hZ e0
  replace hown : s.vm.findClass "com/example/amendtrail/amendtrail/write/LinesLengthPinLaw" = some m.cls := hown
  replace hml : c.maxLocals = 3 := hml
  replace hret : meth.sig.returnType = (some .int) := hret
  have N0 := Fr.nil n0
  refine own_ef (L0 := #[.val (.ref ca), .val (.int n), .val (.int i)]) (by first | (simp [entryFrame, mkF, argsToLocals, Value.category]; done) | rfl) ?_
  refine own_iloadN X0 hx (hb hby d8_0) rfl ?_
  refine own_iloadN X0 hx (hb hby d8_1) rfl ?_
  refine own_icmpYes X0 hx 17 (hb hby d8_2) (flt hin).2.1 (by decide) (by decide) ?_
  refine own_iconst X0 hx 0 (hb hby d8_17) rfl ?_
  refine own_retI X0 hx hlk hret (hb hby d8_18) (own_kN (by decide) (by decide) ?_)
  try rw [e0]
  exact ⟨rfl, N0, rfl⟩
theorem d28_0 : decode prog_111_method_4_code 0 = .ok (.aload_n 0, 1) := by decide +kernel
theorem d28_1 : decode prog_111_method_4_code 1 = .ok (.getfield 43, 3) := by decide +kernel
theorem d28_4 : decode prog_111_method_4_code 4 = .ok (.ireturn, 1) := by decide +kernel
set_option maxRecDepth 65536 in
set_option maxHeartbeats 40000000 in
theorem rmSz (l : Launch) (Z : State) (a0 : Array Value) (hw : own_Wd a0 Z) (ws : List Jvm.Cond) (o : Addr) (i : Int32)  (h0 : Heap) (n0 : Nat) (Z0 : n0 ≤ h0.size) (F : Fld Z h0 o "com/example/amendtrail/amendtrail/write/Lines" "size" "I" (.int i)) :
    own_Met l (⟨"com/example/amendtrail/amendtrail/write/Lines", "size", "()I"⟩ : MethodName) prog_111_method_4_code 1 (some .int) ws ({ frames := 0, cells := 0, slots := 0, locals := 0 } : Room) Z #[(.ref o)] h0 (fun v h L => v = some (.int i) ∧ Fr n0 L ∧ h = h0) := by
  refine own_body (plainFor_of_name pn_8) ?_
  intro p e s m below meth c s₁ X0 hx hby hml hown hnm hret hlk hZ e0
  replace hown : s.vm.findClass "com/example/amendtrail/amendtrail/write/Lines" = some m.cls := hown
  replace hml : c.maxLocals = 1 := hml
  replace hret : meth.sig.returnType = (some .int) := hret
  have N0 := Fr.nil n0
  refine own_ef (L0 := #[.val (.ref o)]) (by first | (simp [entryFrame, mkF, argsToLocals, Value.category]; done) | rfl) ?_
  refine own_aloadN X0 hx (hb hby d28_0) rfl rfl ?_
  refine own_getF X0 hx hZ hown (host := "") (Or.inl (own_m hw 134 rfl)) Via.refl e0 F (hb hby d28_1) fun T607 X607 e607 => ?_
  refine own_retI X607 hx hlk hret (hb hby d28_4) (own_kN (by decide) (by decide) ?_)
  try rw [e607]
  exact ⟨rfl, N0, rfl⟩
theorem d29_0 : decode prog_111_method_6_code 0 = .ok (.aload_n 0, 1) := by decide +kernel
theorem d29_1 : decode prog_111_method_6_code 1 = .ok (.getfield 47, 3) := by decide +kernel
theorem d29_4 : decode prog_111_method_6_code 4 = .ok (.iload_n 2, 1) := by decide +kernel
theorem d29_5 : decode prog_111_method_6_code 5 = .ok (.iaload, 1) := by decide +kernel
theorem d29_6 : decode prog_111_method_6_code 6 = .ok (.aload_n 0, 1) := by decide +kernel
theorem d29_7 : decode prog_111_method_6_code 7 = .ok (.getfield 47, 3) := by decide +kernel
theorem d29_10 : decode prog_111_method_6_code 10 = .ok (.iload_n 1, 1) := by decide +kernel
theorem d29_11 : decode prog_111_method_6_code 11 = .ok (.iaload, 1) := by decide +kernel
theorem d29_12 : decode prog_111_method_6_code 12 = .ok (.isub, 1) := by decide +kernel
theorem d29_13 : decode prog_111_method_6_code 13 = .ok (.ireturn, 1) := by decide +kernel
set_option maxRecDepth 65536 in
set_option maxHeartbeats 40000000 in
theorem rmLL (l : Launch) (Z : State) (a0 : Array Value) (hw : own_Wd a0 Z) (ws : List Jvm.Cond) (o sa : Addr) (ks : ClassId) (xs : List Int32) (al f g : Int32)  (h0 : Heap) (n0 : Nat) (Z0 : n0 ≤ h0.size) (F : Fld Z h0 o "com/example/amendtrail/amendtrail/write/Lines" "starts" "[I" (.ref sa)) (Vs : Arv Z h0 sa ks .int al (List.map Value.int xs) (.int 0)) (hi_f : ¬ f < 0 ∧ f < al) (hi_g : ¬ g < 0 ∧ g < al) :
    own_Met l (⟨"com/example/amendtrail/amendtrail/write/Lines", "length", "(II)I"⟩ : MethodName) prog_111_method_6_code 3 (some .int) ws ({ frames := 0, cells := 0, slots := 0, locals := 0 } : Room) Z #[(.ref o), (.int f), (.int g)] h0 (fun v h L => v = some (.int ((own_st xs (0 : Int32) g) - (own_st xs (0 : Int32) f))) ∧ Fr n0 L ∧ h = h0) := by
  refine own_body (plainFor_of_name pn_8) ?_
  intro p e s m below meth c s₁ X0 hx hby hml hown hnm hret hlk hZ e0
  replace hown : s.vm.findClass "com/example/amendtrail/amendtrail/write/Lines" = some m.cls := hown
  replace hml : c.maxLocals = 3 := hml
  replace hret : meth.sig.returnType = (some .int) := hret
  have N0 := Fr.nil n0
  refine own_ef (L0 := #[.val (.ref o), .val (.int f), .val (.int g)]) (by first | (simp [entryFrame, mkF, argsToLocals, Value.category]; done) | rfl) ?_
  refine own_aloadN X0 hx (hb hby d29_0) rfl rfl ?_
  refine own_getF X0 hx hZ hown (host := "") (Or.inl (own_m hw 136 rfl)) Via.refl e0 F (hb hby d29_1) fun T608 X608 e608 => ?_
  refine own_iloadN X608 hx (hb hby d29_4) rfl ?_
  refine own_iaload X608 hx hZ (.int (own_st xs (0 : Int32) g)) e608 Vs hi_g (own_getI xs _ _) (hb hby d29_5) ?_
  refine own_aloadN X608 hx (hb hby d29_6) rfl rfl ?_
  refine own_getF X608 hx hZ hown (host := "") (Or.inl (own_m hw 136 rfl)) Via.refl e608 F (hb hby d29_7) fun T609 X609 e609 => ?_
  refine own_iloadN X609 hx (hb hby d29_10) rfl ?_
  refine own_iaload X609 hx hZ (.int (own_st xs (0 : Int32) f)) e609 Vs hi_f (own_getI xs _ _) (hb hby d29_11) ?_
  refine own_isub X609 hx (hb hby d29_12) ?_
  refine own_retI X609 hx hlk hret (hb hby d29_13) (own_kN (by decide) (by decide) ?_)
  try rw [e609]
  exact ⟨rfl, N0, rfl⟩
abbrev own_LOK (l : Launch) (Z : State) (cs n : Int32) (fm : Value) (bs : List Value) (start : Int32 → Int32) (SZ : Int32 → Prop) : Prop := ∃ (sz : Int32) (k : Nat) (al : Int32) (xs : List Int32), sz.toInt = k ∧ k < 60 ∧ ¬ al < (65 : Int32) ∧ (∀ j : Int32, ¬ j < (0 : Int32) → ¬ sz < j → own_st xs (0 : Int32) j = start j) ∧ SZ sz ∧ ∀ (o a b : Addr) (kb : ClassId) (h0 : Heap) (n0 : Nat), n0 ≤ h0.size → Sta Z h0 "java/lang/String" "COMPACT_STRINGS" "Z" (.int cs) → ¬ (cs = (0 : Int32)) → Exa Z h0 a "java/lang/String" → Fld Z h0 a "java/lang/String" "value" "[B" (.ref b) → Fld Z h0 a "java/lang/String" "coder" "B" (.int 0) → Arv Z h0 b kb .byte n bs (.int 0) → Sta Z h0 "jdk/internal/util/Preconditions" "SIOOBE_FORMATTER" "Ljava/util/function/BiFunction;" fm → fm.isRef = true → Exa Z h0 o "com/example/amendtrail/amendtrail/write/Lines" → Fld Z h0 o "java/util/AbstractList" "modCount" "I" (.int 0) → n0 ≤ o → b ≠ o → Fld Z h0 o "com/example/amendtrail/amendtrail/write/Lines" "text" "Ljava/lang/String;" .null → Fld Z h0 o "com/example/amendtrail/amendtrail/write/Lines" "size" "I" (.int 0) → Fld Z h0 o "com/example/amendtrail/amendtrail/write/Lines" "starts" "[I" .null → own_Met l (⟨"com/example/amendtrail/amendtrail/write/Lines", "<init>", "(Ljava/lang/String;)V"⟩ : MethodName) prog_111_method_1_code 5 none [] ({ frames := 4, cells := 2, slots := 195, locals := 62 } : Room) Z #[(.ref o), (.ref a)] h0 (fun v h L => v = none ∧ Fr n0 L ∧ Keep h0 h [o] ∧ ∃ sa ks, Exa Z h o "com/example/amendtrail/amendtrail/write/Lines" ∧ Fld Z h o "com/example/amendtrail/amendtrail/write/Lines" "size" "I" (.int sz) ∧ Fld Z h o "com/example/amendtrail/amendtrail/write/Lines" "starts" "[I" (.ref sa) ∧ Arv Z h sa ks .int al (List.map Value.int xs) (.int 0))
abbrev own_bs0  : List Value := []
theorem own_LP_0_ (l : Launch) (Z : State) (a0 : Array Value) (hw : ∀ d ∈ tables_1, d.before a0 Z = true) (cs : Int32) (fm : Value)    : own_LOK l Z cs (0 : Int32) fm own_bs0 (own_start0 ) (fun sz => sz = (0 : Int32)) := by
  have hX : ∀ (a b : Addr) (kb : ClassId), own_CX l Z a b kb cs (0 : Int32) own_bs0 (0 : Int32) (-1 : Int32) := fun a b kb => fun h0 n0 Z0 Sc hcs Ea Fv Fc Vb => rmX2e l Z a0 hw [] a b cs (0 : Int32) h0 n0 Z0 Sc hcs Ea Fv Fc (own_alnV Vb) (by decide)
  have hC1 : ∀ (a b : Addr) (kb : ClassId), own_C1 l Z a b kb cs (0 : Int32) own_bs0 (1 : Int32) [(.int 0), (.int 0), (.int 0), (.int 0), (.int 0), (.int 0), (.int 0), (.int 0)] := fun a b kb sa ks h0 n0 Z0 Sc hcs Ea Fv Fc Vb Vs gs Es hb => rmLS1_1 l Z a0 hw [] a b sa kb ks cs (0 : Int32) own_bs0 h0 n0 Z0 Sc hcs Ea Fv Fc Vb (hX a b kb) Vs gs Es hb
  exact ⟨(0 : Int32), 0, (65 : Int32), [(0 : Int32), (0 : Int32), (0 : Int32), (0 : Int32), (0 : Int32), (0 : Int32), (0 : Int32), (0 : Int32)], by decide, by decide, by decide, (fun j h0 h1 => own_upto 0 (by decide) h0 h1 (fun j => own_st [(0 : Int32), (0 : Int32), (0 : Int32), (0 : Int32), (0 : Int32), (0 : Int32), (0 : Int32), (0 : Int32)] (0 : Int32) j = own_start0  j) (by simp only [own_start0]; decide)), rfl, fun o a b kb h0 n0 Z0 Sc hcs Ea Fv Fc Vb Sf hfm Eo Fm go hbo F1 F2 F3 => rmLI_1_e l Z a0 hw [] o a b kb cs own_bs0 fm   h0 n0 Z0 Sc hcs Ea Fv Fc Vb Sf hfm Eo Fm go hbo F1 F2 F3 (hC1 a b kb)⟩
theorem own_LO_0 (l : Launch) (Z : State) (a0 : Array Value) (hw : ∀ d ∈ tables_1, d.before a0 Z = true) (cs : Int32) (fm : Value)   : own_LOK l Z cs (0 : Int32) fm own_bs0 (own_start0 ) (fun sz => sz = (0 : Int32)) := by
  exact own_LP_0_ l Z a0 hw cs fm   
abbrev own_bs1 (c0 : Int32) : List Value := [(.int (c0.toInt8.toInt32))]
theorem own_LP_1_0 (l : Launch) (Z : State) (a0 : Array Value) (hw : ∀ d ∈ tables_1, d.before a0 Z = true) (cs : Int32) (fm : Value) (c0 : Int32) (lo0 : ¬ c0 < (0 : Int32)) (hi0 : ¬ (255 : Int32) < c0) (e0 : ¬ c0 = (10 : Int32)) : own_LOK l Z cs (1 : Int32) fm (own_bs1 c0) (own_start1 c0) (fun sz => (c0 = (10 : Int32) → (((((own_nl c0) + (0 : Int32)) + (0 : Int32)) + (0 : Int32)) + (0 : Int32)) = sz) ∧ (¬ c0 = (10 : Int32) → (((((own_nl c0) + (0 : Int32)) + (0 : Int32)) + (0 : Int32)) + (1 : Int32)) = sz)) := by
  have hX : ∀ (a b : Addr) (kb : ClassId), own_CX l Z a b kb cs (1 : Int32) (own_bs1 c0) (0 : Int32) (-1 : Int32) := fun a b kb => fun h0 n0 Z0 Sc hcs Ea Fv Fc Vb => rmX2 l Z a0 hw [] a b cs (1 : Int32) (0 : Int32) (-1 : Int32) h0 n0 Z0 Sc hcs Ea Fv Fc (own_alnV Vb) (by decide) (by decide) (by have q := rmIC_1_0 l Z a0 hw [] b kb _ h0 n0 Z0 Vb; rw [if_neg (own_nlb lo0 hi0 e0)] at q; exact q)
  have hC1 : ∀ (a b : Addr) (kb : ClassId), own_C1 l Z a b kb cs (1 : Int32) (own_bs1 c0) (1 : Int32) [(.int 0), (.int 0), (.int 0), (.int 0), (.int 0), (.int 0), (.int 0), (.int 0)] := fun a b kb sa ks h0 n0 Z0 Sc hcs Ea Fv Fc Vb Vs gs Es hb => rmLS1_1 l Z a0 hw [] a b sa kb ks cs (1 : Int32) (own_bs1 c0) h0 n0 Z0 Sc hcs Ea Fv Fc Vb (hX a b kb) Vs gs Es hb
  exact ⟨(1 : Int32), 1, (65 : Int32), [(0 : Int32), (1 : Int32), (0 : Int32), (0 : Int32), (0 : Int32), (0 : Int32), (0 : Int32), (0 : Int32)], by decide, by decide, by decide, (fun j h0 h1 => own_upto 1 (by decide) h0 h1 (fun j => own_st [(0 : Int32), (1 : Int32), (0 : Int32), (0 : Int32), (0 : Int32), (0 : Int32), (0 : Int32), (0 : Int32)] (0 : Int32) j = own_start1 c0 j) (by simp only [own_start1, if_neg e0]; decide)), ⟨fun q => absurd q e0, fun q => by simp only [own_nl, if_neg e0]; decide⟩, fun o a b kb h0 n0 Z0 Sc hcs Ea Fv Fc Vb Sf hfm Eo Fm go hbo F1 F2 F3 => rmLI_1_1 l Z a0 hw [] o a b kb cs (own_bs1 c0) fm (1 : Int32) (0 : Int32) c0  h0 n0 Z0 Sc hcs Ea Fv Fc Vb Sf hfm Eo Fm go hbo F1 F2 F3 (hC1 a b kb) (fun h0 n0 Z0 Sc hcs Ea Fv Fc Vb Sf hfm => rmCA_1 l Z a0 hw [] a b kb  c0 cs fm h0 n0 Z0 Sc hcs Ea Fv Fc Vb Sf hfm lo0 hi0) e0 (by decide) (by decide) (by decide)⟩
theorem own_LP_1_1 (l : Launch) (Z : State) (a0 : Array Value) (hw : ∀ d ∈ tables_1, d.before a0 Z = true) (cs : Int32) (fm : Value) (c0 : Int32) (lo0 : ¬ c0 < (0 : Int32)) (hi0 : ¬ (255 : Int32) < c0) (e0 : c0 = (10 : Int32)) : own_LOK l Z cs (1 : Int32) fm (own_bs1 c0) (own_start1 c0) (fun sz => (c0 = (10 : Int32) → (((((own_nl c0) + (0 : Int32)) + (0 : Int32)) + (0 : Int32)) + (0 : Int32)) = sz) ∧ (¬ c0 = (10 : Int32) → (((((own_nl c0) + (0 : Int32)) + (0 : Int32)) + (0 : Int32)) + (1 : Int32)) = sz)) := by
  have hX : ∀ (a b : Addr) (kb : ClassId), own_CX l Z a b kb cs (1 : Int32) (own_bs1 c0) (0 : Int32) (0 : Int32) ∧ own_CX l Z a b kb cs (1 : Int32) (own_bs1 c0) (1 : Int32) (-1 : Int32) := fun a b kb => ⟨fun h0 n0 Z0 Sc hcs Ea Fv Fc Vb => rmX2 l Z a0 hw [] a b cs (1 : Int32) (0 : Int32) (0 : Int32) h0 n0 Z0 Sc hcs Ea Fv Fc (own_alnV Vb) (by decide) (by decide) (by have q := rmIC_1_0 l Z a0 hw [] b kb _ h0 n0 Z0 Vb; rw [if_pos (own_nlt e0)] at q; exact q), fun h0 n0 Z0 Sc hcs Ea Fv Fc Vb => rmX2e l Z a0 hw [] a b cs (1 : Int32) h0 n0 Z0 Sc hcs Ea Fv Fc (own_alnV Vb) (by decide)⟩
  have hC1 : ∀ (a b : Addr) (kb : ClassId), own_C1 l Z a b kb cs (1 : Int32) (own_bs1 c0) (2 : Int32) [(.int 0), (.int 1), (.int 0), (.int 0), (.int 0), (.int 0), (.int 0), (.int 0)] := fun a b kb sa ks h0 n0 Z0 Sc hcs Ea Fv Fc Vb Vs gs Es hb => by
    obtain ⟨hX0, hX1⟩ := hX a b kb
    exact rmLS1_2 l Z a0 hw [] a b sa kb ks cs (1 : Int32) (own_bs1 c0) (0 : Int32) (1 : Int32) h0 n0 Z0 Sc hcs Ea Fv Fc Vb hX0 hX1 (by decide) (by decide) Vs gs Es hb
  have hC2 : ∀ (a b : Addr) (kb : ClassId), own_C2 l Z a b kb cs (1 : Int32) (own_bs1 c0) (2 : Int32) [(.int 0), (.int 1), (.int 0), (.int 0), (.int 0), (.int 0), (.int 0), (.int 0)] := fun a b kb sa ks h0 n0 Z0 Sc hcs Ea Fv Fc Vb Vs => by
    obtain ⟨hX0, hX1⟩ := hX a b kb
    exact rmLS2_2 l Z a0 hw [] a b sa kb ks cs (1 : Int32) (own_bs1 c0) (1 : Int32) h0 n0 Z0 Sc hcs Ea Fv Fc Vb hX1 Vs
  exact ⟨(1 : Int32), 1, (130 : Int32), [(0 : Int32), (1 : Int32), (0 : Int32), (0 : Int32), (0 : Int32), (0 : Int32), (0 : Int32), (0 : Int32)], by decide, by decide, by decide, (fun j h0 h1 => own_upto 1 (by decide) h0 h1 (fun j => own_st [(0 : Int32), (1 : Int32), (0 : Int32), (0 : Int32), (0 : Int32), (0 : Int32), (0 : Int32), (0 : Int32)] (0 : Int32) j = own_start1 c0 j) (by simp only [own_start1, if_pos e0]; decide)), ⟨fun q => by simp only [own_nl, if_pos e0]; decide, fun q => absurd e0 q⟩, fun o a b kb h0 n0 Z0 Sc hcs Ea Fv Fc Vb Sf hfm Eo Fm go hbo F1 F2 F3 => rmLI_2_0 l Z a0 hw [] o a b kb cs (own_bs1 c0) fm (1 : Int32) (0 : Int32) c0 (1 : Int32) h0 n0 Z0 Sc hcs Ea Fv Fc Vb Sf hfm Eo Fm go hbo F1 F2 F3 (hC1 a b kb) (hC2 a b kb) (fun h0 n0 Z0 Sc hcs Ea Fv Fc Vb Sf hfm => rmCA_1 l Z a0 hw [] a b kb  c0 cs fm h0 n0 Z0 Sc hcs Ea Fv Fc Vb Sf hfm lo0 hi0) e0 (by decide) (by decide) (by decide)⟩
theorem own_LO_1 (l : Launch) (Z : State) (a0 : Array Value) (hw : ∀ d ∈ tables_1, d.before a0 Z = true) (cs : Int32) (fm : Value) (c0 : Int32) (lo0 : ¬ c0 < (0 : Int32)) (hi0 : ¬ (255 : Int32) < c0) : own_LOK l Z cs (1 : Int32) fm (own_bs1 c0) (own_start1 c0) (fun sz => (c0 = (10 : Int32) → (((((own_nl c0) + (0 : Int32)) + (0 : Int32)) + (0 : Int32)) + (0 : Int32)) = sz) ∧ (¬ c0 = (10 : Int32) → (((((own_nl c0) + (0 : Int32)) + (0 : Int32)) + (0 : Int32)) + (1 : Int32)) = sz)) := by
  by_cases e0 : c0 = (10 : Int32)
  · exact own_LP_1_1 l Z a0 hw cs fm c0 lo0 hi0 e0
  · exact own_LP_1_0 l Z a0 hw cs fm c0 lo0 hi0 e0
abbrev own_bs2 (c0 c1 : Int32) : List Value := [(.int (c0.toInt8.toInt32)), (.int (c1.toInt8.toInt32))]
theorem own_LP_2_00 (l : Launch) (Z : State) (a0 : Array Value) (hw : ∀ d ∈ tables_1, d.before a0 Z = true) (cs : Int32) (fm : Value) (c0 c1 : Int32) (lo0 : ¬ c0 < (0 : Int32)) (hi0 : ¬ (255 : Int32) < c0) (lo1 : ¬ c1 < (0 : Int32)) (hi1 : ¬ (255 : Int32) < c1) (e0 : ¬ c0 = (10 : Int32)) (e1 : ¬ c1 = (10 : Int32)) : own_LOK l Z cs (2 : Int32) fm (own_bs2 c0 c1) (own_start2 c0 c1) (fun sz => (c1 = (10 : Int32) → (((((own_nl c0) + (own_nl c1)) + (0 : Int32)) + (0 : Int32)) + (0 : Int32)) = sz) ∧ (¬ c1 = (10 : Int32) → (((((own_nl c0) + (own_nl c1)) + (0 : Int32)) + (0 : Int32)) + (1 : Int32)) = sz)) := by
  have hX : ∀ (a b : Addr) (kb : ClassId), own_CX l Z a b kb cs (2 : Int32) (own_bs2 c0 c1) (0 : Int32) (-1 : Int32) := fun a b kb => fun h0 n0 Z0 Sc hcs Ea Fv Fc Vb => rmX2 l Z a0 hw [] a b cs (2 : Int32) (0 : Int32) (-1 : Int32) h0 n0 Z0 Sc hcs Ea Fv Fc (own_alnV Vb) (by decide) (by decide) (by have q := rmIC_2_0 l Z a0 hw [] b kb _ _ h0 n0 Z0 Vb; rw [if_neg (own_nlb lo0 hi0 e0), if_neg (own_nlb lo1 hi1 e1)] at q; exact q)
  have hC1 : ∀ (a b : Addr) (kb : ClassId), own_C1 l Z a b kb cs (2 : Int32) (own_bs2 c0 c1) (1 : Int32) [(.int 0), (.int 0), (.int 0), (.int 0), (.int 0), (.int 0), (.int 0), (.int 0)] := fun a b kb sa ks h0 n0 Z0 Sc hcs Ea Fv Fc Vb Vs gs Es hb => rmLS1_1 l Z a0 hw [] a b sa kb ks cs (2 : Int32) (own_bs2 c0 c1) h0 n0 Z0 Sc hcs Ea Fv Fc Vb (hX a b kb) Vs gs Es hb
  exact ⟨(1 : Int32), 1, (65 : Int32), [(0 : Int32), (2 : Int32), (0 : Int32), (0 : Int32), (0 : Int32), (0 : Int32), (0 : Int32), (0 : Int32)], by decide, by decide, by decide, (fun j h0 h1 => own_upto 1 (by decide) h0 h1 (fun j => own_st [(0 : Int32), (2 : Int32), (0 : Int32), (0 : Int32), (0 : Int32), (0 : Int32), (0 : Int32), (0 : Int32)] (0 : Int32) j = own_start2 c0 c1 j) (by simp only [own_start2, if_neg e0, if_neg e1]; decide)), ⟨fun q => absurd q e1, fun q => by simp only [own_nl, if_neg e0, if_neg e1]; decide⟩, fun o a b kb h0 n0 Z0 Sc hcs Ea Fv Fc Vb Sf hfm Eo Fm go hbo F1 F2 F3 => rmLI_1_1 l Z a0 hw [] o a b kb cs (own_bs2 c0 c1) fm (2 : Int32) (1 : Int32) c1  h0 n0 Z0 Sc hcs Ea Fv Fc Vb Sf hfm Eo Fm go hbo F1 F2 F3 (hC1 a b kb) (fun h0 n0 Z0 Sc hcs Ea Fv Fc Vb Sf hfm => rmCA_2 l Z a0 hw [] a b kb _ c1 cs fm h0 n0 Z0 Sc hcs Ea Fv Fc Vb Sf hfm lo1 hi1) e1 (by decide) (by decide) (by decide)⟩
theorem own_LP_2_01 (l : Launch) (Z : State) (a0 : Array Value) (hw : ∀ d ∈ tables_1, d.before a0 Z = true) (cs : Int32) (fm : Value) (c0 c1 : Int32) (lo0 : ¬ c0 < (0 : Int32)) (hi0 : ¬ (255 : Int32) < c0) (lo1 : ¬ c1 < (0 : Int32)) (hi1 : ¬ (255 : Int32) < c1) (e0 : ¬ c0 = (10 : Int32)) (e1 : c1 = (10 : Int32)) : own_LOK l Z cs (2 : Int32) fm (own_bs2 c0 c1) (own_start2 c0 c1) (fun sz => (c1 = (10 : Int32) → (((((own_nl c0) + (own_nl c1)) + (0 : Int32)) + (0 : Int32)) + (0 : Int32)) = sz) ∧ (¬ c1 = (10 : Int32) → (((((own_nl c0) + (own_nl c1)) + (0 : Int32)) + (0 : Int32)) + (1 : Int32)) = sz)) := by
  have hX : ∀ (a b : Addr) (kb : ClassId), own_CX l Z a b kb cs (2 : Int32) (own_bs2 c0 c1) (0 : Int32) (1 : Int32) ∧ own_CX l Z a b kb cs (2 : Int32) (own_bs2 c0 c1) (2 : Int32) (-1 : Int32) := fun a b kb => ⟨fun h0 n0 Z0 Sc hcs Ea Fv Fc Vb => rmX2 l Z a0 hw [] a b cs (2 : Int32) (0 : Int32) (1 : Int32) h0 n0 Z0 Sc hcs Ea Fv Fc (own_alnV Vb) (by decide) (by decide) (by have q := rmIC_2_0 l Z a0 hw [] b kb _ _ h0 n0 Z0 Vb; rw [if_neg (own_nlb lo0 hi0 e0), if_pos (own_nlt e1)] at q; exact q), fun h0 n0 Z0 Sc hcs Ea Fv Fc Vb => rmX2e l Z a0 hw [] a b cs (2 : Int32) h0 n0 Z0 Sc hcs Ea Fv Fc (own_alnV Vb) (by decide)⟩
  have hC1 : ∀ (a b : Addr) (kb : ClassId), own_C1 l Z a b kb cs (2 : Int32) (own_bs2 c0 c1) (2 : Int32) [(.int 0), (.int 2), (.int 0), (.int 0), (.int 0), (.int 0), (.int 0), (.int 0)] := fun a b kb sa ks h0 n0 Z0 Sc hcs Ea Fv Fc Vb Vs gs Es hb => by
    obtain ⟨hX0, hX1⟩ := hX a b kb
    exact rmLS1_2 l Z a0 hw [] a b sa kb ks cs (2 : Int32) (own_bs2 c0 c1) (1 : Int32) (2 : Int32) h0 n0 Z0 Sc hcs Ea Fv Fc Vb hX0 hX1 (by decide) (by decide) Vs gs Es hb
  have hC2 : ∀ (a b : Addr) (kb : ClassId), own_C2 l Z a b kb cs (2 : Int32) (own_bs2 c0 c1) (2 : Int32) [(.int 0), (.int 2), (.int 0), (.int 0), (.int 0), (.int 0), (.int 0), (.int 0)] := fun a b kb sa ks h0 n0 Z0 Sc hcs Ea Fv Fc Vb Vs => by
    obtain ⟨hX0, hX1⟩ := hX a b kb
    exact rmLS2_2 l Z a0 hw [] a b sa kb ks cs (2 : Int32) (own_bs2 c0 c1) (2 : Int32) h0 n0 Z0 Sc hcs Ea Fv Fc Vb hX1 Vs
  exact ⟨(1 : Int32), 1, (130 : Int32), [(0 : Int32), (2 : Int32), (0 : Int32), (0 : Int32), (0 : Int32), (0 : Int32), (0 : Int32), (0 : Int32)], by decide, by decide, by decide, (fun j h0 h1 => own_upto 1 (by decide) h0 h1 (fun j => own_st [(0 : Int32), (2 : Int32), (0 : Int32), (0 : Int32), (0 : Int32), (0 : Int32), (0 : Int32), (0 : Int32)] (0 : Int32) j = own_start2 c0 c1 j) (by simp only [own_start2, if_neg e0, if_pos e1]; decide)), ⟨fun q => by simp only [own_nl, if_neg e0, if_pos e1]; decide, fun q => absurd e1 q⟩, fun o a b kb h0 n0 Z0 Sc hcs Ea Fv Fc Vb Sf hfm Eo Fm go hbo F1 F2 F3 => rmLI_2_0 l Z a0 hw [] o a b kb cs (own_bs2 c0 c1) fm (2 : Int32) (1 : Int32) c1 (2 : Int32) h0 n0 Z0 Sc hcs Ea Fv Fc Vb Sf hfm Eo Fm go hbo F1 F2 F3 (hC1 a b kb) (hC2 a b kb) (fun h0 n0 Z0 Sc hcs Ea Fv Fc Vb Sf hfm => rmCA_2 l Z a0 hw [] a b kb _ c1 cs fm h0 n0 Z0 Sc hcs Ea Fv Fc Vb Sf hfm lo1 hi1) e1 (by decide) (by decide) (by decide)⟩
theorem own_LP_2_10 (l : Launch) (Z : State) (a0 : Array Value) (hw : ∀ d ∈ tables_1, d.before a0 Z = true) (cs : Int32) (fm : Value) (c0 c1 : Int32) (lo0 : ¬ c0 < (0 : Int32)) (hi0 : ¬ (255 : Int32) < c0) (lo1 : ¬ c1 < (0 : Int32)) (hi1 : ¬ (255 : Int32) < c1) (e0 : c0 = (10 : Int32)) (e1 : ¬ c1 = (10 : Int32)) : own_LOK l Z cs (2 : Int32) fm (own_bs2 c0 c1) (own_start2 c0 c1) (fun sz => (c1 = (10 : Int32) → (((((own_nl c0) + (own_nl c1)) + (0 : Int32)) + (0 : Int32)) + (0 : Int32)) = sz) ∧ (¬ c1 = (10 : Int32) → (((((own_nl c0) + (own_nl c1)) + (0 : Int32)) + (0 : Int32)) + (1 : Int32)) = sz)) := by
  have hX : ∀ (a b : Addr) (kb : ClassId), own_CX l Z a b kb cs (2 : Int32) (own_bs2 c0 c1) (0 : Int32) (0 : Int32) ∧ own_CX l Z a b kb cs (2 : Int32) (own_bs2 c0 c1) (1 : Int32) (-1 : Int32) := fun a b kb => ⟨fun h0 n0 Z0 Sc hcs Ea Fv Fc Vb => rmX2 l Z a0 hw [] a b cs (2 : Int32) (0 : Int32) (0 : Int32) h0 n0 Z0 Sc hcs Ea Fv Fc (own_alnV Vb) (by decide) (by decide) (by have q := rmIC_2_0 l Z a0 hw [] b kb _ _ h0 n0 Z0 Vb; rw [if_pos (own_nlt e0)] at q; exact q), fun h0 n0 Z0 Sc hcs Ea Fv Fc Vb => rmX2 l Z a0 hw [] a b cs (2 : Int32) (1 : Int32) (-1 : Int32) h0 n0 Z0 Sc hcs Ea Fv Fc (own_alnV Vb) (by decide) (by decide) (by have q := rmIC_2_1 l Z a0 hw [] b kb _ _ h0 n0 Z0 Vb; rw [if_neg (own_nlb lo1 hi1 e1)] at q; exact q)⟩
  have hC1 : ∀ (a b : Addr) (kb : ClassId), own_C1 l Z a b kb cs (2 : Int32) (own_bs2 c0 c1) (2 : Int32) [(.int 0), (.int 1), (.int 0), (.int 0), (.int 0), (.int 0), (.int 0), (.int 0)] := fun a b kb sa ks h0 n0 Z0 Sc hcs Ea Fv Fc Vb Vs gs Es hb => by
    obtain ⟨hX0, hX1⟩ := hX a b kb
    exact rmLS1_2 l Z a0 hw [] a b sa kb ks cs (2 : Int32) (own_bs2 c0 c1) (0 : Int32) (1 : Int32) h0 n0 Z0 Sc hcs Ea Fv Fc Vb hX0 hX1 (by decide) (by decide) Vs gs Es hb
  have hC2 : ∀ (a b : Addr) (kb : ClassId), own_C2 l Z a b kb cs (2 : Int32) (own_bs2 c0 c1) (2 : Int32) [(.int 0), (.int 1), (.int 0), (.int 0), (.int 0), (.int 0), (.int 0), (.int 0)] := fun a b kb sa ks h0 n0 Z0 Sc hcs Ea Fv Fc Vb Vs => by
    obtain ⟨hX0, hX1⟩ := hX a b kb
    exact rmLS2_2 l Z a0 hw [] a b sa kb ks cs (2 : Int32) (own_bs2 c0 c1) (1 : Int32) h0 n0 Z0 Sc hcs Ea Fv Fc Vb hX1 Vs
  exact ⟨(2 : Int32), 2, (130 : Int32), [(0 : Int32), (1 : Int32), (2 : Int32), (0 : Int32), (0 : Int32), (0 : Int32), (0 : Int32), (0 : Int32)], by decide, by decide, by decide, (fun j h0 h1 => own_upto 2 (by decide) h0 h1 (fun j => own_st [(0 : Int32), (1 : Int32), (2 : Int32), (0 : Int32), (0 : Int32), (0 : Int32), (0 : Int32), (0 : Int32)] (0 : Int32) j = own_start2 c0 c1 j) (by simp only [own_start2, if_pos e0, if_neg e1]; decide)), ⟨fun q => absurd q e1, fun q => by simp only [own_nl, if_pos e0, if_neg e1]; decide⟩, fun o a b kb h0 n0 Z0 Sc hcs Ea Fv Fc Vb Sf hfm Eo Fm go hbo F1 F2 F3 => rmLI_2_1 l Z a0 hw [] o a b kb cs (own_bs2 c0 c1) fm (2 : Int32) (1 : Int32) c1 (1 : Int32) h0 n0 Z0 Sc hcs Ea Fv Fc Vb Sf hfm Eo Fm go hbo F1 F2 F3 (hC1 a b kb) (hC2 a b kb) (fun h0 n0 Z0 Sc hcs Ea Fv Fc Vb Sf hfm => rmCA_2 l Z a0 hw [] a b kb _ c1 cs fm h0 n0 Z0 Sc hcs Ea Fv Fc Vb Sf hfm lo1 hi1) e1 (by decide) (by decide) (by decide)⟩
theorem own_LP_2_11 (l : Launch) (Z : State) (a0 : Array Value) (hw : ∀ d ∈ tables_1, d.before a0 Z = true) (cs : Int32) (fm : Value) (c0 c1 : Int32) (lo0 : ¬ c0 < (0 : Int32)) (hi0 : ¬ (255 : Int32) < c0) (lo1 : ¬ c1 < (0 : Int32)) (hi1 : ¬ (255 : Int32) < c1) (e0 : c0 = (10 : Int32)) (e1 : c1 = (10 : Int32)) : own_LOK l Z cs (2 : Int32) fm (own_bs2 c0 c1) (own_start2 c0 c1) (fun sz => (c1 = (10 : Int32) → (((((own_nl c0) + (own_nl c1)) + (0 : Int32)) + (0 : Int32)) + (0 : Int32)) = sz) ∧ (¬ c1 = (10 : Int32) → (((((own_nl c0) + (own_nl c1)) + (0 : Int32)) + (0 : Int32)) + (1 : Int32)) = sz)) := by
  have hX : ∀ (a b : Addr) (kb : ClassId), own_CX l Z a b kb cs (2 : Int32) (own_bs2 c0 c1) (0 : Int32) (0 : Int32) ∧ own_CX l Z a b kb cs (2 : Int32) (own_bs2 c0 c1) (1 : Int32) (1 : Int32) ∧ own_CX l Z a b kb cs (2 : Int32) (own_bs2 c0 c1) (2 : Int32) (-1 : Int32) := fun a b kb => ⟨fun h0 n0 Z0 Sc hcs Ea Fv Fc Vb => rmX2 l Z a0 hw [] a b cs (2 : Int32) (0 : Int32) (0 : Int32) h0 n0 Z0 Sc hcs Ea Fv Fc (own_alnV Vb) (by decide) (by decide) (by have q := rmIC_2_0 l Z a0 hw [] b kb _ _ h0 n0 Z0 Vb; rw [if_pos (own_nlt e0)] at q; exact q), fun h0 n0 Z0 Sc hcs Ea Fv Fc Vb => rmX2 l Z a0 hw [] a b cs (2 : Int32) (1 : Int32) (1 : Int32) h0 n0 Z0 Sc hcs Ea Fv Fc (own_alnV Vb) (by decide) (by decide) (by have q := rmIC_2_1 l Z a0 hw [] b kb _ _ h0 n0 Z0 Vb; rw [if_pos (own_nlt e1)] at q; exact q), fun h0 n0 Z0 Sc hcs Ea Fv Fc Vb => rmX2e l Z a0 hw [] a b cs (2 : Int32) h0 n0 Z0 Sc hcs Ea Fv Fc (own_alnV Vb) (by decide)⟩
  have hC1 : ∀ (a b : Addr) (kb : ClassId), own_C1 l Z a b kb cs (2 : Int32) (own_bs2 c0 c1) (3 : Int32) [(.int 0), (.int 1), (.int 2), (.int 0), (.int 0), (.int 0), (.int 0), (.int 0)] := fun a b kb sa ks h0 n0 Z0 Sc hcs Ea Fv Fc Vb Vs gs Es hb => by
    obtain ⟨hX0, hX1, hX2⟩ := hX a b kb
    exact rmLS1_3 l Z a0 hw [] a b sa kb ks cs (2 : Int32) (own_bs2 c0 c1) (0 : Int32) (1 : Int32) (1 : Int32) (2 : Int32) h0 n0 Z0 Sc hcs Ea Fv Fc Vb hX0 hX1 hX2 (by decide) (by decide) (by decide) (by decide) Vs gs Es hb
  have hC2 : ∀ (a b : Addr) (kb : ClassId), own_C2 l Z a b kb cs (2 : Int32) (own_bs2 c0 c1) (3 : Int32) [(.int 0), (.int 1), (.int 2), (.int 0), (.int 0), (.int 0), (.int 0), (.int 0)] := fun a b kb sa ks h0 n0 Z0 Sc hcs Ea Fv Fc Vb Vs => by
    obtain ⟨hX0, hX1, hX2⟩ := hX a b kb
    exact rmLS2_3 l Z a0 hw [] a b sa kb ks cs (2 : Int32) (own_bs2 c0 c1) (1 : Int32) (2 : Int32) h0 n0 Z0 Sc hcs Ea Fv Fc Vb hX2 Vs
  exact ⟨(2 : Int32), 2, (130 : Int32), [(0 : Int32), (1 : Int32), (2 : Int32), (0 : Int32), (0 : Int32), (0 : Int32), (0 : Int32), (0 : Int32)], by decide, by decide, by decide, (fun j h0 h1 => own_upto 2 (by decide) h0 h1 (fun j => own_st [(0 : Int32), (1 : Int32), (2 : Int32), (0 : Int32), (0 : Int32), (0 : Int32), (0 : Int32), (0 : Int32)] (0 : Int32) j = own_start2 c0 c1 j) (by simp only [own_start2, if_pos e0, if_pos e1]; decide)), ⟨fun q => by simp only [own_nl, if_pos e0, if_pos e1]; decide, fun q => absurd e1 q⟩, fun o a b kb h0 n0 Z0 Sc hcs Ea Fv Fc Vb Sf hfm Eo Fm go hbo F1 F2 F3 => rmLI_3_0 l Z a0 hw [] o a b kb cs (own_bs2 c0 c1) fm (2 : Int32) (1 : Int32) c1 (1 : Int32) (2 : Int32) h0 n0 Z0 Sc hcs Ea Fv Fc Vb Sf hfm Eo Fm go hbo F1 F2 F3 (hC1 a b kb) (hC2 a b kb) (fun h0 n0 Z0 Sc hcs Ea Fv Fc Vb Sf hfm => rmCA_2 l Z a0 hw [] a b kb _ c1 cs fm h0 n0 Z0 Sc hcs Ea Fv Fc Vb Sf hfm lo1 hi1) e1 (by decide) (by decide) (by decide)⟩
theorem own_LO_2 (l : Launch) (Z : State) (a0 : Array Value) (hw : ∀ d ∈ tables_1, d.before a0 Z = true) (cs : Int32) (fm : Value) (c0 c1 : Int32) (lo0 : ¬ c0 < (0 : Int32)) (hi0 : ¬ (255 : Int32) < c0) (lo1 : ¬ c1 < (0 : Int32)) (hi1 : ¬ (255 : Int32) < c1) : own_LOK l Z cs (2 : Int32) fm (own_bs2 c0 c1) (own_start2 c0 c1) (fun sz => (c1 = (10 : Int32) → (((((own_nl c0) + (own_nl c1)) + (0 : Int32)) + (0 : Int32)) + (0 : Int32)) = sz) ∧ (¬ c1 = (10 : Int32) → (((((own_nl c0) + (own_nl c1)) + (0 : Int32)) + (0 : Int32)) + (1 : Int32)) = sz)) := by
  by_cases e0 : c0 = (10 : Int32)
  · by_cases e1 : c1 = (10 : Int32)
    · exact own_LP_2_11 l Z a0 hw cs fm c0 c1 lo0 hi0 lo1 hi1 e0 e1
    · exact own_LP_2_10 l Z a0 hw cs fm c0 c1 lo0 hi0 lo1 hi1 e0 e1
  · by_cases e1 : c1 = (10 : Int32)
    · exact own_LP_2_01 l Z a0 hw cs fm c0 c1 lo0 hi0 lo1 hi1 e0 e1
    · exact own_LP_2_00 l Z a0 hw cs fm c0 c1 lo0 hi0 lo1 hi1 e0 e1
abbrev own_bs3 (c0 c1 c2 : Int32) : List Value := [(.int (c0.toInt8.toInt32)), (.int (c1.toInt8.toInt32)), (.int (c2.toInt8.toInt32))]
theorem own_LP_3_000 (l : Launch) (Z : State) (a0 : Array Value) (hw : ∀ d ∈ tables_1, d.before a0 Z = true) (cs : Int32) (fm : Value) (c0 c1 c2 : Int32) (lo0 : ¬ c0 < (0 : Int32)) (hi0 : ¬ (255 : Int32) < c0) (lo1 : ¬ c1 < (0 : Int32)) (hi1 : ¬ (255 : Int32) < c1) (lo2 : ¬ c2 < (0 : Int32)) (hi2 : ¬ (255 : Int32) < c2) (e0 : ¬ c0 = (10 : Int32)) (e1 : ¬ c1 = (10 : Int32)) (e2 : ¬ c2 = (10 : Int32)) : own_LOK l Z cs (3 : Int32) fm (own_bs3 c0 c1 c2) (own_start3 c0 c1 c2) (fun sz => (c2 = (10 : Int32) → (((((own_nl c0) + (own_nl c1)) + (own_nl c2)) + (0 : Int32)) + (0 : Int32)) = sz) ∧ (¬ c2 = (10 : Int32) → (((((own_nl c0) + (own_nl c1)) + (own_nl c2)) + (0 : Int32)) + (1 : Int32)) = sz)) := by
  have hX : ∀ (a b : Addr) (kb : ClassId), own_CX l Z a b kb cs (3 : Int32) (own_bs3 c0 c1 c2) (0 : Int32) (-1 : Int32) := fun a b kb => fun h0 n0 Z0 Sc hcs Ea Fv Fc Vb => rmX2 l Z a0 hw [] a b cs (3 : Int32) (0 : Int32) (-1 : Int32) h0 n0 Z0 Sc hcs Ea Fv Fc (own_alnV Vb) (by decide) (by decide) (by have q := rmIC_3_0 l Z a0 hw [] b kb _ _ _ h0 n0 Z0 Vb; rw [if_neg (own_nlb lo0 hi0 e0), if_neg (own_nlb lo1 hi1 e1), if_neg (own_nlb lo2 hi2 e2)] at q; exact q)
  have hC1 : ∀ (a b : Addr) (kb : ClassId), own_C1 l Z a b kb cs (3 : Int32) (own_bs3 c0 c1 c2) (1 : Int32) [(.int 0), (.int 0), (.int 0), (.int 0), (.int 0), (.int 0), (.int 0), (.int 0)] := fun a b kb sa ks h0 n0 Z0 Sc hcs Ea Fv Fc Vb Vs gs Es hb => rmLS1_1 l Z a0 hw [] a b sa kb ks cs (3 : Int32) (own_bs3 c0 c1 c2) h0 n0 Z0 Sc hcs Ea Fv Fc Vb (hX a b kb) Vs gs Es hb
  exact ⟨(1 : Int32), 1, (65 : Int32), [(0 : Int32), (3 : Int32), (0 : Int32), (0 : Int32), (0 : Int32), (0 : Int32), (0 : Int32), (0 : Int32)], by decide, by decide, by decide, (fun j h0 h1 => own_upto 1 (by decide) h0 h1 (fun j => own_st [(0 : Int32), (3 : Int32), (0 : Int32), (0 : Int32), (0 : Int32), (0 : Int32), (0 : Int32), (0 : Int32)] (0 : Int32) j = own_start3 c0 c1 c2 j) (by simp only [own_start3, if_neg e0, if_neg e1, if_neg e2]; decide)), ⟨fun q => absurd q e2, fun q => by simp only [own_nl, if_neg e0, if_neg e1, if_neg e2]; decide⟩, fun o a b kb h0 n0 Z0 Sc hcs Ea Fv Fc Vb Sf hfm Eo Fm go hbo F1 F2 F3 => rmLI_1_1 l Z a0 hw [] o a b kb cs (own_bs3 c0 c1 c2) fm (3 : Int32) (2 : Int32) c2  h0 n0 Z0 Sc hcs Ea Fv Fc Vb Sf hfm Eo Fm go hbo F1 F2 F3 (hC1 a b kb) (fun h0 n0 Z0 Sc hcs Ea Fv Fc Vb Sf hfm => rmCA_3 l Z a0 hw [] a b kb _ _ c2 cs fm h0 n0 Z0 Sc hcs Ea Fv Fc Vb Sf hfm lo2 hi2) e2 (by decide) (by decide) (by decide)⟩
theorem own_LP_3_001 (l : Launch) (Z : State) (a0 : Array Value) (hw : ∀ d ∈ tables_1, d.before a0 Z = true) (cs : Int32) (fm : Value) (c0 c1 c2 : Int32) (lo0 : ¬ c0 < (0 : Int32)) (hi0 : ¬ (255 : Int32) < c0) (lo1 : ¬ c1 < (0 : Int32)) (hi1 : ¬ (255 : Int32) < c1) (lo2 : ¬ c2 < (0 : Int32)) (hi2 : ¬ (255 : Int32) < c2) (e0 : ¬ c0 = (10 : Int32)) (e1 : ¬ c1 = (10 : Int32)) (e2 : c2 = (10 : Int32)) : own_LOK l Z cs (3 : Int32) fm (own_bs3 c0 c1 c2) (own_start3 c0 c1 c2) (fun sz => (c2 = (10 : Int32) → (((((own_nl c0) + (own_nl c1)) + (own_nl c2)) + (0 : Int32)) + (0 : Int32)) = sz) ∧ (¬ c2 = (10 : Int32) → (((((own_nl c0) + (own_nl c1)) + (own_nl c2)) + (0 : Int32)) + (1 : Int32)) = sz)) := by
  have hX : ∀ (a b : Addr) (kb : ClassId), own_CX l Z a b kb cs (3 : Int32) (own_bs3 c0 c1 c2) (0 : Int32) (2 : Int32) ∧ own_CX l Z a b kb cs (3 : Int32) (own_bs3 c0 c1 c2) (3 : Int32) (-1 : Int32) := fun a b kb => ⟨fun h0 n0 Z0 Sc hcs Ea Fv Fc Vb => rmX2 l Z a0 hw [] a b cs (3 : Int32) (0 : Int32) (2 : Int32) h0 n0 Z0 Sc hcs Ea Fv Fc (own_alnV Vb) (by decide) (by decide) (by have q := rmIC_3_0 l Z a0 hw [] b kb _ _ _ h0 n0 Z0 Vb; rw [if_neg (own_nlb lo0 hi0 e0), if_neg (own_nlb lo1 hi1 e1), if_pos (own_nlt e2)] at q; exact q), fun h0 n0 Z0 Sc hcs Ea Fv Fc Vb => rmX2e l Z a0 hw [] a b cs (3 : Int32) h0 n0 Z0 Sc hcs Ea Fv Fc (own_alnV Vb) (by decide)⟩
  have hC1 : ∀ (a b : Addr) (kb : ClassId), own_C1 l Z a b kb cs (3 : Int32) (own_bs3 c0 c1 c2) (2 : Int32) [(.int 0), (.int 3), (.int 0), (.int 0), (.int 0), (.int 0), (.int 0), (.int 0)] := fun a b kb sa ks h0 n0 Z0 Sc hcs Ea Fv Fc Vb Vs gs Es hb => by
    obtain ⟨hX0, hX1⟩ := hX a b kb
    exact rmLS1_2 l Z a0 hw [] a b sa kb ks cs (3 : Int32) (own_bs3 c0 c1 c2) (2 : Int32) (3 : Int32) h0 n0 Z0 Sc hcs Ea Fv Fc Vb hX0 hX1 (by decide) (by decide) Vs gs Es hb
  have hC2 : ∀ (a b : Addr) (kb : ClassId), own_C2 l Z a b kb cs (3 : Int32) (own_bs3 c0 c1 c2) (2 : Int32) [(.int 0), (.int 3), (.int 0), (.int 0), (.int 0), (.int 0), (.int 0), (.int 0)] := fun a b kb sa ks h0 n0 Z0 Sc hcs Ea Fv Fc Vb Vs => by
    obtain ⟨hX0, hX1⟩ := hX a b kb
    exact rmLS2_2 l Z a0 hw [] a b sa kb ks cs (3 : Int32) (own_bs3 c0 c1 c2) (3 : Int32) h0 n0 Z0 Sc hcs Ea Fv Fc Vb hX1 Vs
  exact ⟨(1 : Int32), 1, (130 : Int32), [(0 : Int32), (3 : Int32), (0 : Int32), (0 : Int32), (0 : Int32), (0 : Int32), (0 : Int32), (0 : Int32)], by decide, by decide, by decide, (fun j h0 h1 => own_upto 1 (by decide) h0 h1 (fun j => own_st [(0 : Int32), (3 : Int32), (0 : Int32), (0 : Int32), (0 : Int32), (0 : Int32), (0 : Int32), (0 : Int32)] (0 : Int32) j = own_start3 c0 c1 c2 j) (by simp only [own_start3, if_neg e0, if_neg e1, if_pos e2]; decide)), ⟨fun q => by simp only [own_nl, if_neg e0, if_neg e1, if_pos e2]; decide, fun q => absurd e2 q⟩, fun o a b kb h0 n0 Z0 Sc hcs Ea Fv Fc Vb Sf hfm Eo Fm go hbo F1 F2 F3 => rmLI_2_0 l Z a0 hw [] o a b kb cs (own_bs3 c0 c1 c2) fm (3 : Int32) (2 : Int32) c2 (3 : Int32) h0 n0 Z0 Sc hcs Ea Fv Fc Vb Sf hfm Eo Fm go hbo F1 F2 F3 (hC1 a b kb) (hC2 a b kb) (fun h0 n0 Z0 Sc hcs Ea Fv Fc Vb Sf hfm => rmCA_3 l Z a0 hw [] a b kb _ _ c2 cs fm h0 n0 Z0 Sc hcs Ea Fv Fc Vb Sf hfm lo2 hi2) e2 (by decide) (by decide) (by decide)⟩
theorem own_LP_3_010 (l : Launch) (Z : State) (a0 : Array Value) (hw : ∀ d ∈ tables_1, d.before a0 Z = true) (cs : Int32) (fm : Value) (c0 c1 c2 : Int32) (lo0 : ¬ c0 < (0 : Int32)) (hi0 : ¬ (255 : Int32) < c0) (lo1 : ¬ c1 < (0 : Int32)) (hi1 : ¬ (255 : Int32) < c1) (lo2 : ¬ c2 < (0 : Int32)) (hi2 : ¬ (255 : Int32) < c2) (e0 : ¬ c0 = (10 : Int32)) (e1 : c1 = (10 : Int32)) (e2 : ¬ c2 = (10 : Int32)) : own_LOK l Z cs (3 : Int32) fm (own_bs3 c0 c1 c2) (own_start3 c0 c1 c2) (fun sz => (c2 = (10 : Int32) → (((((own_nl c0) + (own_nl c1)) + (own_nl c2)) + (0 : Int32)) + (0 : Int32)) = sz) ∧ (¬ c2 = (10 : Int32) → (((((own_nl c0) + (own_nl c1)) + (own_nl c2)) + (0 : Int32)) + (1 : Int32)) = sz)) := by
  have hX : ∀ (a b : Addr) (kb : ClassId), own_CX l Z a b kb cs (3 : Int32) (own_bs3 c0 c1 c2) (0 : Int32) (1 : Int32) ∧ own_CX l Z a b kb cs (3 : Int32) (own_bs3 c0 c1 c2) (2 : Int32) (-1 : Int32) := fun a b kb => ⟨fun h0 n0 Z0 Sc hcs Ea Fv Fc Vb => rmX2 l Z a0 hw [] a b cs (3 : Int32) (0 : Int32) (1 : Int32) h0 n0 Z0 Sc hcs Ea Fv Fc (own_alnV Vb) (by decide) (by decide) (by have q := rmIC_3_0 l Z a0 hw [] b kb _ _ _ h0 n0 Z0 Vb; rw [if_neg (own_nlb lo0 hi0 e0), if_pos (own_nlt e1)] at q; exact q), fun h0 n0 Z0 Sc hcs Ea Fv Fc Vb => rmX2 l Z a0 hw [] a b cs (3 : Int32) (2 : Int32) (-1 : Int32) h0 n0 Z0 Sc hcs Ea Fv Fc (own_alnV Vb) (by decide) (by decide) (by have q := rmIC_3_2 l Z a0 hw [] b kb _ _ _ h0 n0 Z0 Vb; rw [if_neg (own_nlb lo2 hi2 e2)] at q; exact q)⟩
  have hC1 : ∀ (a b : Addr) (kb : ClassId), own_C1 l Z a b kb cs (3 : Int32) (own_bs3 c0 c1 c2) (2 : Int32) [(.int 0), (.int 2), (.int 0), (.int 0), (.int 0), (.int 0), (.int 0), (.int 0)] := fun a b kb sa ks h0 n0 Z0 Sc hcs Ea Fv Fc Vb Vs gs Es hb => by
    obtain ⟨hX0, hX1⟩ := hX a b kb
    exact rmLS1_2 l Z a0 hw [] a b sa kb ks cs (3 : Int32) (own_bs3 c0 c1 c2) (1 : Int32) (2 : Int32) h0 n0 Z0 Sc hcs Ea Fv Fc Vb hX0 hX1 (by decide) (by decide) Vs gs Es hb
  have hC2 : ∀ (a b : Addr) (kb : ClassId), own_C2 l Z a b kb cs (3 : Int32) (own_bs3 c0 c1 c2) (2 : Int32) [(.int 0), (.int 2), (.int 0), (.int 0), (.int 0), (.int 0), (.int 0), (.int 0)] := fun a b kb sa ks h0 n0 Z0 Sc hcs Ea Fv Fc Vb Vs => by
    obtain ⟨hX0, hX1⟩ := hX a b kb
    exact rmLS2_2 l Z a0 hw [] a b sa kb ks cs (3 : Int32) (own_bs3 c0 c1 c2) (2 : Int32) h0 n0 Z0 Sc hcs Ea Fv Fc Vb hX1 Vs
  exact ⟨(2 : Int32), 2, (130 : Int32), [(0 : Int32), (2 : Int32), (3 : Int32), (0 : Int32), (0 : Int32), (0 : Int32), (0 : Int32), (0 : Int32)], by decide, by decide, by decide, (fun j h0 h1 => own_upto 2 (by decide) h0 h1 (fun j => own_st [(0 : Int32), (2 : Int32), (3 : Int32), (0 : Int32), (0 : Int32), (0 : Int32), (0 : Int32), (0 : Int32)] (0 : Int32) j = own_start3 c0 c1 c2 j) (by simp only [own_start3, if_neg e0, if_pos e1, if_neg e2]; decide)), ⟨fun q => absurd q e2, fun q => by simp only [own_nl, if_neg e0, if_pos e1, if_neg e2]; decide⟩, fun o a b kb h0 n0 Z0 Sc hcs Ea Fv Fc Vb Sf hfm Eo Fm go hbo F1 F2 F3 => rmLI_2_1 l Z a0 hw [] o a b kb cs (own_bs3 c0 c1 c2) fm (3 : Int32) (2 : Int32) c2 (2 : Int32) h0 n0 Z0 Sc hcs Ea Fv Fc Vb Sf hfm Eo Fm go hbo F1 F2 F3 (hC1 a b kb) (hC2 a b kb) (fun h0 n0 Z0 Sc hcs Ea Fv Fc Vb Sf hfm => rmCA_3 l Z a0 hw [] a b kb _ _ c2 cs fm h0 n0 Z0 Sc hcs Ea Fv Fc Vb Sf hfm lo2 hi2) e2 (by decide) (by decide) (by decide)⟩
theorem own_LP_3_011 (l : Launch) (Z : State) (a0 : Array Value) (hw : ∀ d ∈ tables_1, d.before a0 Z = true) (cs : Int32) (fm : Value) (c0 c1 c2 : Int32) (lo0 : ¬ c0 < (0 : Int32)) (hi0 : ¬ (255 : Int32) < c0) (lo1 : ¬ c1 < (0 : Int32)) (hi1 : ¬ (255 : Int32) < c1) (lo2 : ¬ c2 < (0 : Int32)) (hi2 : ¬ (255 : Int32) < c2) (e0 : ¬ c0 = (10 : Int32)) (e1 : c1 = (10 : Int32)) (e2 : c2 = (10 : Int32)) : own_LOK l Z cs (3 : Int32) fm (own_bs3 c0 c1 c2) (own_start3 c0 c1 c2) (fun sz => (c2 = (10 : Int32) → (((((own_nl c0) + (own_nl c1)) + (own_nl c2)) + (0 : Int32)) + (0 : Int32)) = sz) ∧ (¬ c2 = (10 : Int32) → (((((own_nl c0) + (own_nl c1)) + (own_nl c2)) + (0 : Int32)) + (1 : Int32)) = sz)) := by
  have hX : ∀ (a b : Addr) (kb : ClassId), own_CX l Z a b kb cs (3 : Int32) (own_bs3 c0 c1 c2) (0 : Int32) (1 : Int32) ∧ own_CX l Z a b kb cs (3 : Int32) (own_bs3 c0 c1 c2) (2 : Int32) (2 : Int32) ∧ own_CX l Z a b kb cs (3 : Int32) (own_bs3 c0 c1 c2) (3 : Int32) (-1 : Int32) := fun a b kb => ⟨fun h0 n0 Z0 Sc hcs Ea Fv Fc Vb => rmX2 l Z a0 hw [] a b cs (3 : Int32) (0 : Int32) (1 : Int32) h0 n0 Z0 Sc hcs Ea Fv Fc (own_alnV Vb) (by decide) (by decide) (by have q := rmIC_3_0 l Z a0 hw [] b kb _ _ _ h0 n0 Z0 Vb; rw [if_neg (own_nlb lo0 hi0 e0), if_pos (own_nlt e1)] at q; exact q), fun h0 n0 Z0 Sc hcs Ea Fv Fc Vb => rmX2 l Z a0 hw [] a b cs (3 : Int32) (2 : Int32) (2 : Int32) h0 n0 Z0 Sc hcs Ea Fv Fc (own_alnV Vb) (by decide) (by decide) (by have q := rmIC_3_2 l Z a0 hw [] b kb _ _ _ h0 n0 Z0 Vb; rw [if_pos (own_nlt e2)] at q; exact q), fun h0 n0 Z0 Sc hcs Ea Fv Fc Vb => rmX2e l Z a0 hw [] a b cs (3 : Int32) h0 n0 Z0 Sc hcs Ea Fv Fc (own_alnV Vb) (by decide)⟩
  have hC1 : ∀ (a b : Addr) (kb : ClassId), own_C1 l Z a b kb cs (3 : Int32) (own_bs3 c0 c1 c2) (3 : Int32) [(.int 0), (.int 2), (.int 3), (.int 0), (.int 0), (.int 0), (.int 0), (.int 0)] := fun a b kb sa ks h0 n0 Z0 Sc hcs Ea Fv Fc Vb Vs gs Es hb => by
    obtain ⟨hX0, hX1, hX2⟩ := hX a b kb
    exact rmLS1_3 l Z a0 hw [] a b sa kb ks cs (3 : Int32) (own_bs3 c0 c1 c2) (1 : Int32) (2 : Int32) (2 : Int32) (3 : Int32) h0 n0 Z0 Sc hcs Ea Fv Fc Vb hX0 hX1 hX2 (by decide) (by decide) (by decide) (by decide) Vs gs Es hb
  have hC2 : ∀ (a b : Addr) (kb : ClassId), own_C2 l Z a b kb cs (3 : Int32) (own_bs3 c0 c1 c2) (3 : Int32) [(.int 0), (.int 2), (.int 3), (.int 0), (.int 0), (.int 0), (.int 0), (.int 0)] := fun a b kb sa ks h0 n0 Z0 Sc hcs Ea Fv Fc Vb Vs => by
    obtain ⟨hX0, hX1, hX2⟩ := hX a b kb
    exact rmLS2_3 l Z a0 hw [] a b sa kb ks cs (3 : Int32) (own_bs3 c0 c1 c2) (2 : Int32) (3 : Int32) h0 n0 Z0 Sc hcs Ea Fv Fc Vb hX2 Vs
  exact ⟨(2 : Int32), 2, (130 : Int32), [(0 : Int32), (2 : Int32), (3 : Int32), (0 : Int32), (0 : Int32), (0 : Int32), (0 : Int32), (0 : Int32)], by decide, by decide, by decide, (fun j h0 h1 => own_upto 2 (by decide) h0 h1 (fun j => own_st [(0 : Int32), (2 : Int32), (3 : Int32), (0 : Int32), (0 : Int32), (0 : Int32), (0 : Int32), (0 : Int32)] (0 : Int32) j = own_start3 c0 c1 c2 j) (by simp only [own_start3, if_neg e0, if_pos e1, if_pos e2]; decide)), ⟨fun q => by simp only [own_nl, if_neg e0, if_pos e1, if_pos e2]; decide, fun q => absurd e2 q⟩, fun o a b kb h0 n0 Z0 Sc hcs Ea Fv Fc Vb Sf hfm Eo Fm go hbo F1 F2 F3 => rmLI_3_0 l Z a0 hw [] o a b kb cs (own_bs3 c0 c1 c2) fm (3 : Int32) (2 : Int32) c2 (2 : Int32) (3 : Int32) h0 n0 Z0 Sc hcs Ea Fv Fc Vb Sf hfm Eo Fm go hbo F1 F2 F3 (hC1 a b kb) (hC2 a b kb) (fun h0 n0 Z0 Sc hcs Ea Fv Fc Vb Sf hfm => rmCA_3 l Z a0 hw [] a b kb _ _ c2 cs fm h0 n0 Z0 Sc hcs Ea Fv Fc Vb Sf hfm lo2 hi2) e2 (by decide) (by decide) (by decide)⟩
theorem own_LP_3_100 (l : Launch) (Z : State) (a0 : Array Value) (hw : ∀ d ∈ tables_1, d.before a0 Z = true) (cs : Int32) (fm : Value) (c0 c1 c2 : Int32) (lo0 : ¬ c0 < (0 : Int32)) (hi0 : ¬ (255 : Int32) < c0) (lo1 : ¬ c1 < (0 : Int32)) (hi1 : ¬ (255 : Int32) < c1) (lo2 : ¬ c2 < (0 : Int32)) (hi2 : ¬ (255 : Int32) < c2) (e0 : c0 = (10 : Int32)) (e1 : ¬ c1 = (10 : Int32)) (e2 : ¬ c2 = (10 : Int32)) : own_LOK l Z cs (3 : Int32) fm (own_bs3 c0 c1 c2) (own_start3 c0 c1 c2) (fun sz => (c2 = (10 : Int32) → (((((own_nl c0) + (own_nl c1)) + (own_nl c2)) + (0 : Int32)) + (0 : Int32)) = sz) ∧ (¬ c2 = (10 : Int32) → (((((own_nl c0) + (own_nl c1)) + (own_nl c2)) + (0 : Int32)) + (1 : Int32)) = sz)) := by
  have hX : ∀ (a b : Addr) (kb : ClassId), own_CX l Z a b kb cs (3 : Int32) (own_bs3 c0 c1 c2) (0 : Int32) (0 : Int32) ∧ own_CX l Z a b kb cs (3 : Int32) (own_bs3 c0 c1 c2) (1 : Int32) (-1 : Int32) := fun a b kb => ⟨fun h0 n0 Z0 Sc hcs Ea Fv Fc Vb => rmX2 l Z a0 hw [] a b cs (3 : Int32) (0 : Int32) (0 : Int32) h0 n0 Z0 Sc hcs Ea Fv Fc (own_alnV Vb) (by decide) (by decide) (by have q := rmIC_3_0 l Z a0 hw [] b kb _ _ _ h0 n0 Z0 Vb; rw [if_pos (own_nlt e0)] at q; exact q), fun h0 n0 Z0 Sc hcs Ea Fv Fc Vb => rmX2 l Z a0 hw [] a b cs (3 : Int32) (1 : Int32) (-1 : Int32) h0 n0 Z0 Sc hcs Ea Fv Fc (own_alnV Vb) (by decide) (by decide) (by have q := rmIC_3_1 l Z a0 hw [] b kb _ _ _ h0 n0 Z0 Vb; rw [if_neg (own_nlb lo1 hi1 e1), if_neg (own_nlb lo2 hi2 e2)] at q; exact q)⟩
  have hC1 : ∀ (a b : Addr) (kb : ClassId), own_C1 l Z a b kb cs (3 : Int32) (own_bs3 c0 c1 c2) (2 : Int32) [(.int 0), (.int 1), (.int 0), (.int 0), (.int 0), (.int 0), (.int 0), (.int 0)] := fun a b kb sa ks h0 n0 Z0 Sc hcs Ea Fv Fc Vb Vs gs Es hb => by
    obtain ⟨hX0, hX1⟩ := hX a b kb
    exact rmLS1_2 l Z a0 hw [] a b sa kb ks cs (3 : Int32) (own_bs3 c0 c1 c2) (0 : Int32) (1 : Int32) h0 n0 Z0 Sc hcs Ea Fv Fc Vb hX0 hX1 (by decide) (by decide) Vs gs Es hb
  have hC2 : ∀ (a b : Addr) (kb : ClassId), own_C2 l Z a b kb cs (3 : Int32) (own_bs3 c0 c1 c2) (2 : Int32) [(.int 0), (.int 1), (.int 0), (.int 0), (.int 0), (.int 0), (.int 0), (.int 0)] := fun a b kb sa ks h0 n0 Z0 Sc hcs Ea Fv Fc Vb Vs => by
    obtain ⟨hX0, hX1⟩ := hX a b kb
    exact rmLS2_2 l Z a0 hw [] a b sa kb ks cs (3 : Int32) (own_bs3 c0 c1 c2) (1 : Int32) h0 n0 Z0 Sc hcs Ea Fv Fc Vb hX1 Vs
  exact ⟨(2 : Int32), 2, (130 : Int32), [(0 : Int32), (1 : Int32), (3 : Int32), (0 : Int32), (0 : Int32), (0 : Int32), (0 : Int32), (0 : Int32)], by decide, by decide, by decide, (fun j h0 h1 => own_upto 2 (by decide) h0 h1 (fun j => own_st [(0 : Int32), (1 : Int32), (3 : Int32), (0 : Int32), (0 : Int32), (0 : Int32), (0 : Int32), (0 : Int32)] (0 : Int32) j = own_start3 c0 c1 c2 j) (by simp only [own_start3, if_pos e0, if_neg e1, if_neg e2]; decide)), ⟨fun q => absurd q e2, fun q => by simp only [own_nl, if_pos e0, if_neg e1, if_neg e2]; decide⟩, fun o a b kb h0 n0 Z0 Sc hcs Ea Fv Fc Vb Sf hfm Eo Fm go hbo F1 F2 F3 => rmLI_2_1 l Z a0 hw [] o a b kb cs (own_bs3 c0 c1 c2) fm (3 : Int32) (2 : Int32) c2 (1 : Int32) h0 n0 Z0 Sc hcs Ea Fv Fc Vb Sf hfm Eo Fm go hbo F1 F2 F3 (hC1 a b kb) (hC2 a b kb) (fun h0 n0 Z0 Sc hcs Ea Fv Fc Vb Sf hfm => rmCA_3 l Z a0 hw [] a b kb _ _ c2 cs fm h0 n0 Z0 Sc hcs Ea Fv Fc Vb Sf hfm lo2 hi2) e2 (by decide) (by decide) (by decide)⟩
theorem own_LP_3_101 (l : Launch) (Z : State) (a0 : Array Value) (hw : ∀ d ∈ tables_1, d.before a0 Z = true) (cs : Int32) (fm : Value) (c0 c1 c2 : Int32) (lo0 : ¬ c0 < (0 : Int32)) (hi0 : ¬ (255 : Int32) < c0) (lo1 : ¬ c1 < (0 : Int32)) (hi1 : ¬ (255 : Int32) < c1) (lo2 : ¬ c2 < (0 : Int32)) (hi2 : ¬ (255 : Int32) < c2) (e0 : c0 = (10 : Int32)) (e1 : ¬ c1 = (10 : Int32)) (e2 : c2 = (10 : Int32)) : own_LOK l Z cs (3 : Int32) fm (own_bs3 c0 c1 c2) (own_start3 c0 c1 c2) (fun sz => (c2 = (10 : Int32) → (((((own_nl c0) + (own_nl c1)) + (own_nl c2)) + (0 : Int32)) + (0 : Int32)) = sz) ∧ (¬ c2 = (10 : Int32) → (((((own_nl c0) + (own_nl c1)) + (own_nl c2)) + (0 : Int32)) + (1 : Int32)) = sz)) := by
  have hX : ∀ (a b : Addr) (kb : ClassId), own_CX l Z a b kb cs (3 : Int32) (own_bs3 c0 c1 c2) (0 : Int32) (0 : Int32) ∧ own_CX l Z a b kb cs (3 : Int32) (own_bs3 c0 c1 c2) (1 : Int32) (2 : Int32) ∧ own_CX l Z a b kb cs (3 : Int32) (own_bs3 c0 c1 c2) (3 : Int32) (-1 : Int32) := fun a b kb => ⟨fun h0 n0 Z0 Sc hcs Ea Fv Fc Vb => rmX2 l Z a0 hw [] a b cs (3 : Int32) (0 : Int32) (0 : Int32) h0 n0 Z0 Sc hcs Ea Fv Fc (own_alnV Vb) (by decide) (by decide) (by have q := rmIC_3_0 l Z a0 hw [] b kb _ _ _ h0 n0 Z0 Vb; rw [if_pos (own_nlt e0)] at q; exact q), fun h0 n0 Z0 Sc hcs Ea Fv Fc Vb => rmX2 l Z a0 hw [] a b cs (3 : Int32) (1 : Int32) (2 : Int32) h0 n0 Z0 Sc hcs Ea Fv Fc (own_alnV Vb) (by decide) (by decide) (by have q := rmIC_3_1 l Z a0 hw [] b kb _ _ _ h0 n0 Z0 Vb; rw [if_neg (own_nlb lo1 hi1 e1), if_pos (own_nlt e2)] at q; exact q), fun h0 n0 Z0 Sc hcs Ea Fv Fc Vb => rmX2e l Z a0 hw [] a b cs (3 : Int32) h0 n0 Z0 Sc hcs Ea Fv Fc (own_alnV Vb) (by decide)⟩
  have hC1 : ∀ (a b : Addr) (kb : ClassId), own_C1 l Z a b kb cs (3 : Int32) (own_bs3 c0 c1 c2) (3 : Int32) [(.int 0), (.int 1), (.int 3), (.int 0), (.int 0), (.int 0), (.int 0), (.int 0)] := fun a b kb sa ks h0 n0 Z0 Sc hcs Ea Fv Fc Vb Vs gs Es hb => by
    obtain ⟨hX0, hX1, hX2⟩ := hX a b kb
    exact rmLS1_3 l Z a0 hw [] a b sa kb ks cs (3 : Int32) (own_bs3 c0 c1 c2) (0 : Int32) (1 : Int32) (2 : Int32) (3 : Int32) h0 n0 Z0 Sc hcs Ea Fv Fc Vb hX0 hX1 hX2 (by decide) (by decide) (by decide) (by decide) Vs gs Es hb
  have hC2 : ∀ (a b : Addr) (kb : ClassId), own_C2 l Z a b kb cs (3 : Int32) (own_bs3 c0 c1 c2) (3 : Int32) [(.int 0), (.int 1), (.int 3), (.int 0), (.int 0), (.int 0), (.int 0), (.int 0)] := fun a b kb sa ks h0 n0 Z0 Sc hcs Ea Fv Fc Vb Vs => by
    obtain ⟨hX0, hX1, hX2⟩ := hX a b kb
    exact rmLS2_3 l Z a0 hw [] a b sa kb ks cs (3 : Int32) (own_bs3 c0 c1 c2) (1 : Int32) (3 : Int32) h0 n0 Z0 Sc hcs Ea Fv Fc Vb hX2 Vs
  exact ⟨(2 : Int32), 2, (130 : Int32), [(0 : Int32), (1 : Int32), (3 : Int32), (0 : Int32), (0 : Int32), (0 : Int32), (0 : Int32), (0 : Int32)], by decide, by decide, by decide, (fun j h0 h1 => own_upto 2 (by decide) h0 h1 (fun j => own_st [(0 : Int32), (1 : Int32), (3 : Int32), (0 : Int32), (0 : Int32), (0 : Int32), (0 : Int32), (0 : Int32)] (0 : Int32) j = own_start3 c0 c1 c2 j) (by simp only [own_start3, if_pos e0, if_neg e1, if_pos e2]; decide)), ⟨fun q => by simp only [own_nl, if_pos e0, if_neg e1, if_pos e2]; decide, fun q => absurd e2 q⟩, fun o a b kb h0 n0 Z0 Sc hcs Ea Fv Fc Vb Sf hfm Eo Fm go hbo F1 F2 F3 => rmLI_3_0 l Z a0 hw [] o a b kb cs (own_bs3 c0 c1 c2) fm (3 : Int32) (2 : Int32) c2 (1 : Int32) (3 : Int32) h0 n0 Z0 Sc hcs Ea Fv Fc Vb Sf hfm Eo Fm go hbo F1 F2 F3 (hC1 a b kb) (hC2 a b kb) (fun h0 n0 Z0 Sc hcs Ea Fv Fc Vb Sf hfm => rmCA_3 l Z a0 hw [] a b kb _ _ c2 cs fm h0 n0 Z0 Sc hcs Ea Fv Fc Vb Sf hfm lo2 hi2) e2 (by decide) (by decide) (by decide)⟩
theorem own_LP_3_110 (l : Launch) (Z : State) (a0 : Array Value) (hw : ∀ d ∈ tables_1, d.before a0 Z = true) (cs : Int32) (fm : Value) (c0 c1 c2 : Int32) (lo0 : ¬ c0 < (0 : Int32)) (hi0 : ¬ (255 : Int32) < c0) (lo1 : ¬ c1 < (0 : Int32)) (hi1 : ¬ (255 : Int32) < c1) (lo2 : ¬ c2 < (0 : Int32)) (hi2 : ¬ (255 : Int32) < c2) (e0 : c0 = (10 : Int32)) (e1 : c1 = (10 : Int32)) (e2 : ¬ c2 = (10 : Int32)) : own_LOK l Z cs (3 : Int32) fm (own_bs3 c0 c1 c2) (own_start3 c0 c1 c2) (fun sz => (c2 = (10 : Int32) → (((((own_nl c0) + (own_nl c1)) + (own_nl c2)) + (0 : Int32)) + (0 : Int32)) = sz) ∧ (¬ c2 = (10 : Int32) → (((((own_nl c0) + (own_nl c1)) + (own_nl c2)) + (0 : Int32)) + (1 : Int32)) = sz)) := by
  have hX : ∀ (a b : Addr) (kb : ClassId), own_CX l Z a b kb cs (3 : Int32) (own_bs3 c0 c1 c2) (0 : Int32) (0 : Int32) ∧ own_CX l Z a b kb cs (3 : Int32) (own_bs3 c0 c1 c2) (1 : Int32) (1 : Int32) ∧ own_CX l Z a b kb cs (3 : Int32) (own_bs3 c0 c1 c2) (2 : Int32) (-1 : Int32) := fun a b kb => ⟨fun h0 n0 Z0 Sc hcs Ea Fv Fc Vb => rmX2 l Z a0 hw [] a b cs (3 : Int32) (0 : Int32) (0 : Int32) h0 n0 Z0 Sc hcs Ea Fv Fc (own_alnV Vb) (by decide) (by decide) (by have q := rmIC_3_0 l Z a0 hw [] b kb _ _ _ h0 n0 Z0 Vb; rw [if_pos (own_nlt e0)] at q; exact q), fun h0 n0 Z0 Sc hcs Ea Fv Fc Vb => rmX2 l Z a0 hw [] a b cs (3 : Int32) (1 : Int32) (1 : Int32) h0 n0 Z0 Sc hcs Ea Fv Fc (own_alnV Vb) (by decide) (by decide) (by have q := rmIC_3_1 l Z a0 hw [] b kb _ _ _ h0 n0 Z0 Vb; rw [if_pos (own_nlt e1)] at q; exact q), fun h0 n0 Z0 Sc hcs Ea Fv Fc Vb => rmX2 l Z a0 hw [] a b cs (3 : Int32) (2 : Int32) (-1 : Int32) h0 n0 Z0 Sc hcs Ea Fv Fc (own_alnV Vb) (by decide) (by decide) (by have q := rmIC_3_2 l Z a0 hw [] b kb _ _ _ h0 n0 Z0 Vb; rw [if_neg (own_nlb lo2 hi2 e2)] at q; exact q)⟩
  have hC1 : ∀ (a b : Addr) (kb : ClassId), own_C1 l Z a b kb cs (3 : Int32) (own_bs3 c0 c1 c2) (3 : Int32) [(.int 0), (.int 1), (.int 2), (.int 0), (.int 0), (.int 0), (.int 0), (.int 0)] := fun a b kb sa ks h0 n0 Z0 Sc hcs Ea Fv Fc Vb Vs gs Es hb => by
    obtain ⟨hX0, hX1, hX2⟩ := hX a b kb
    exact rmLS1_3 l Z a0 hw [] a b sa kb ks cs (3 : Int32) (own_bs3 c0 c1 c2) (0 : Int32) (1 : Int32) (1 : Int32) (2 : Int32) h0 n0 Z0 Sc hcs Ea Fv Fc Vb hX0 hX1 hX2 (by decide) (by decide) (by decide) (by decide) Vs gs Es hb
  have hC2 : ∀ (a b : Addr) (kb : ClassId), own_C2 l Z a b kb cs (3 : Int32) (own_bs3 c0 c1 c2) (3 : Int32) [(.int 0), (.int 1), (.int 2), (.int 0), (.int 0), (.int 0), (.int 0), (.int 0)] := fun a b kb sa ks h0 n0 Z0 Sc hcs Ea Fv Fc Vb Vs => by
    obtain ⟨hX0, hX1, hX2⟩ := hX a b kb
    exact rmLS2_3 l Z a0 hw [] a b sa kb ks cs (3 : Int32) (own_bs3 c0 c1 c2) (1 : Int32) (2 : Int32) h0 n0 Z0 Sc hcs Ea Fv Fc Vb hX2 Vs
  exact ⟨(3 : Int32), 3, (130 : Int32), [(0 : Int32), (1 : Int32), (2 : Int32), (3 : Int32), (0 : Int32), (0 : Int32), (0 : Int32), (0 : Int32)], by decide, by decide, by decide, (fun j h0 h1 => own_upto 3 (by decide) h0 h1 (fun j => own_st [(0 : Int32), (1 : Int32), (2 : Int32), (3 : Int32), (0 : Int32), (0 : Int32), (0 : Int32), (0 : Int32)] (0 : Int32) j = own_start3 c0 c1 c2 j) (by simp only [own_start3, if_pos e0, if_pos e1, if_neg e2]; decide)), ⟨fun q => absurd q e2, fun q => by simp only [own_nl, if_pos e0, if_pos e1, if_neg e2]; decide⟩, fun o a b kb h0 n0 Z0 Sc hcs Ea Fv Fc Vb Sf hfm Eo Fm go hbo F1 F2 F3 => rmLI_3_1 l Z a0 hw [] o a b kb cs (own_bs3 c0 c1 c2) fm (3 : Int32) (2 : Int32) c2 (1 : Int32) (2 : Int32) h0 n0 Z0 Sc hcs Ea Fv Fc Vb Sf hfm Eo Fm go hbo F1 F2 F3 (hC1 a b kb) (hC2 a b kb) (fun h0 n0 Z0 Sc hcs Ea Fv Fc Vb Sf hfm => rmCA_3 l Z a0 hw [] a b kb _ _ c2 cs fm h0 n0 Z0 Sc hcs Ea Fv Fc Vb Sf hfm lo2 hi2) e2 (by decide) (by decide) (by decide)⟩
theorem own_LP_3_111 (l : Launch) (Z : State) (a0 : Array Value) (hw : ∀ d ∈ tables_1, d.before a0 Z = true) (cs : Int32) (fm : Value) (c0 c1 c2 : Int32) (lo0 : ¬ c0 < (0 : Int32)) (hi0 : ¬ (255 : Int32) < c0) (lo1 : ¬ c1 < (0 : Int32)) (hi1 : ¬ (255 : Int32) < c1) (lo2 : ¬ c2 < (0 : Int32)) (hi2 : ¬ (255 : Int32) < c2) (e0 : c0 = (10 : Int32)) (e1 : c1 = (10 : Int32)) (e2 : c2 = (10 : Int32)) : own_LOK l Z cs (3 : Int32) fm (own_bs3 c0 c1 c2) (own_start3 c0 c1 c2) (fun sz => (c2 = (10 : Int32) → (((((own_nl c0) + (own_nl c1)) + (own_nl c2)) + (0 : Int32)) + (0 : Int32)) = sz) ∧ (¬ c2 = (10 : Int32) → (((((own_nl c0) + (own_nl c1)) + (own_nl c2)) + (0 : Int32)) + (1 : Int32)) = sz)) := by
  have hX : ∀ (a b : Addr) (kb : ClassId), own_CX l Z a b kb cs (3 : Int32) (own_bs3 c0 c1 c2) (0 : Int32) (0 : Int32) ∧ own_CX l Z a b kb cs (3 : Int32) (own_bs3 c0 c1 c2) (1 : Int32) (1 : Int32) ∧ own_CX l Z a b kb cs (3 : Int32) (own_bs3 c0 c1 c2) (2 : Int32) (2 : Int32) ∧ own_CX l Z a b kb cs (3 : Int32) (own_bs3 c0 c1 c2) (3 : Int32) (-1 : Int32) := fun a b kb => ⟨fun h0 n0 Z0 Sc hcs Ea Fv Fc Vb => rmX2 l Z a0 hw [] a b cs (3 : Int32) (0 : Int32) (0 : Int32) h0 n0 Z0 Sc hcs Ea Fv Fc (own_alnV Vb) (by decide) (by decide) (by have q := rmIC_3_0 l Z a0 hw [] b kb _ _ _ h0 n0 Z0 Vb; rw [if_pos (own_nlt e0)] at q; exact q), fun h0 n0 Z0 Sc hcs Ea Fv Fc Vb => rmX2 l Z a0 hw [] a b cs (3 : Int32) (1 : Int32) (1 : Int32) h0 n0 Z0 Sc hcs Ea Fv Fc (own_alnV Vb) (by decide) (by decide) (by have q := rmIC_3_1 l Z a0 hw [] b kb _ _ _ h0 n0 Z0 Vb; rw [if_pos (own_nlt e1)] at q; exact q), fun h0 n0 Z0 Sc hcs Ea Fv Fc Vb => rmX2 l Z a0 hw [] a b cs (3 : Int32) (2 : Int32) (2 : Int32) h0 n0 Z0 Sc hcs Ea Fv Fc (own_alnV Vb) (by decide) (by decide) (by have q := rmIC_3_2 l Z a0 hw [] b kb _ _ _ h0 n0 Z0 Vb; rw [if_pos (own_nlt e2)] at q; exact q), fun h0 n0 Z0 Sc hcs Ea Fv Fc Vb => rmX2e l Z a0 hw [] a b cs (3 : Int32) h0 n0 Z0 Sc hcs Ea Fv Fc (own_alnV Vb) (by decide)⟩
  have hC1 : ∀ (a b : Addr) (kb : ClassId), own_C1 l Z a b kb cs (3 : Int32) (own_bs3 c0 c1 c2) (4 : Int32) [(.int 0), (.int 1), (.int 2), (.int 3), (.int 0), (.int 0), (.int 0), (.int 0)] := fun a b kb sa ks h0 n0 Z0 Sc hcs Ea Fv Fc Vb Vs gs Es hb => by
    obtain ⟨hX0, hX1, hX2, hX3⟩ := hX a b kb
    exact rmLS1_4 l Z a0 hw [] a b sa kb ks cs (3 : Int32) (own_bs3 c0 c1 c2) (0 : Int32) (1 : Int32) (1 : Int32) (2 : Int32) (2 : Int32) (3 : Int32) h0 n0 Z0 Sc hcs Ea Fv Fc Vb hX0 hX1 hX2 hX3 (by decide) (by decide) (by decide) (by decide) (by decide) (by decide) Vs gs Es hb
  have hC2 : ∀ (a b : Addr) (kb : ClassId), own_C2 l Z a b kb cs (3 : Int32) (own_bs3 c0 c1 c2) (4 : Int32) [(.int 0), (.int 1), (.int 2), (.int 3), (.int 0), (.int 0), (.int 0), (.int 0)] := fun a b kb sa ks h0 n0 Z0 Sc hcs Ea Fv Fc Vb Vs => by
    obtain ⟨hX0, hX1, hX2, hX3⟩ := hX a b kb
    exact rmLS2_4 l Z a0 hw [] a b sa kb ks cs (3 : Int32) (own_bs3 c0 c1 c2) (1 : Int32) (2 : Int32) (3 : Int32) h0 n0 Z0 Sc hcs Ea Fv Fc Vb hX3 Vs
  exact ⟨(3 : Int32), 3, (130 : Int32), [(0 : Int32), (1 : Int32), (2 : Int32), (3 : Int32), (0 : Int32), (0 : Int32), (0 : Int32), (0 : Int32)], by decide, by decide, by decide, (fun j h0 h1 => own_upto 3 (by decide) h0 h1 (fun j => own_st [(0 : Int32), (1 : Int32), (2 : Int32), (3 : Int32), (0 : Int32), (0 : Int32), (0 : Int32), (0 : Int32)] (0 : Int32) j = own_start3 c0 c1 c2 j) (by simp only [own_start3, if_pos e0, if_pos e1, if_pos e2]; decide)), ⟨fun q => by simp only [own_nl, if_pos e0, if_pos e1, if_pos e2]; decide, fun q => absurd e2 q⟩, fun o a b kb h0 n0 Z0 Sc hcs Ea Fv Fc Vb Sf hfm Eo Fm go hbo F1 F2 F3 => rmLI_4_0 l Z a0 hw [] o a b kb cs (own_bs3 c0 c1 c2) fm (3 : Int32) (2 : Int32) c2 (1 : Int32) (2 : Int32) (3 : Int32) h0 n0 Z0 Sc hcs Ea Fv Fc Vb Sf hfm Eo Fm go hbo F1 F2 F3 (hC1 a b kb) (hC2 a b kb) (fun h0 n0 Z0 Sc hcs Ea Fv Fc Vb Sf hfm => rmCA_3 l Z a0 hw [] a b kb _ _ c2 cs fm h0 n0 Z0 Sc hcs Ea Fv Fc Vb Sf hfm lo2 hi2) e2 (by decide) (by decide) (by decide)⟩
theorem own_LO_3 (l : Launch) (Z : State) (a0 : Array Value) (hw : ∀ d ∈ tables_1, d.before a0 Z = true) (cs : Int32) (fm : Value) (c0 c1 c2 : Int32) (lo0 : ¬ c0 < (0 : Int32)) (hi0 : ¬ (255 : Int32) < c0) (lo1 : ¬ c1 < (0 : Int32)) (hi1 : ¬ (255 : Int32) < c1) (lo2 : ¬ c2 < (0 : Int32)) (hi2 : ¬ (255 : Int32) < c2) : own_LOK l Z cs (3 : Int32) fm (own_bs3 c0 c1 c2) (own_start3 c0 c1 c2) (fun sz => (c2 = (10 : Int32) → (((((own_nl c0) + (own_nl c1)) + (own_nl c2)) + (0 : Int32)) + (0 : Int32)) = sz) ∧ (¬ c2 = (10 : Int32) → (((((own_nl c0) + (own_nl c1)) + (own_nl c2)) + (0 : Int32)) + (1 : Int32)) = sz)) := by
  by_cases e0 : c0 = (10 : Int32)
  · by_cases e1 : c1 = (10 : Int32)
    · by_cases e2 : c2 = (10 : Int32)
      · exact own_LP_3_111 l Z a0 hw cs fm c0 c1 c2 lo0 hi0 lo1 hi1 lo2 hi2 e0 e1 e2
      · exact own_LP_3_110 l Z a0 hw cs fm c0 c1 c2 lo0 hi0 lo1 hi1 lo2 hi2 e0 e1 e2
    · by_cases e2 : c2 = (10 : Int32)
      · exact own_LP_3_101 l Z a0 hw cs fm c0 c1 c2 lo0 hi0 lo1 hi1 lo2 hi2 e0 e1 e2
      · exact own_LP_3_100 l Z a0 hw cs fm c0 c1 c2 lo0 hi0 lo1 hi1 lo2 hi2 e0 e1 e2
  · by_cases e1 : c1 = (10 : Int32)
    · by_cases e2 : c2 = (10 : Int32)
      · exact own_LP_3_011 l Z a0 hw cs fm c0 c1 c2 lo0 hi0 lo1 hi1 lo2 hi2 e0 e1 e2
      · exact own_LP_3_010 l Z a0 hw cs fm c0 c1 c2 lo0 hi0 lo1 hi1 lo2 hi2 e0 e1 e2
    · by_cases e2 : c2 = (10 : Int32)
      · exact own_LP_3_001 l Z a0 hw cs fm c0 c1 c2 lo0 hi0 lo1 hi1 lo2 hi2 e0 e1 e2
      · exact own_LP_3_000 l Z a0 hw cs fm c0 c1 c2 lo0 hi0 lo1 hi1 lo2 hi2 e0 e1 e2
abbrev own_bs4 (c0 c1 c2 c3 : Int32) : List Value := [(.int (c0.toInt8.toInt32)), (.int (c1.toInt8.toInt32)), (.int (c2.toInt8.toInt32)), (.int (c3.toInt8.toInt32))]
theorem own_LP_4_0000 (l : Launch) (Z : State) (a0 : Array Value) (hw : ∀ d ∈ tables_1, d.before a0 Z = true) (cs : Int32) (fm : Value) (c0 c1 c2 c3 : Int32) (lo0 : ¬ c0 < (0 : Int32)) (hi0 : ¬ (255 : Int32) < c0) (lo1 : ¬ c1 < (0 : Int32)) (hi1 : ¬ (255 : Int32) < c1) (lo2 : ¬ c2 < (0 : Int32)) (hi2 : ¬ (255 : Int32) < c2) (lo3 : ¬ c3 < (0 : Int32)) (hi3 : ¬ (255 : Int32) < c3) (e0 : ¬ c0 = (10 : Int32)) (e1 : ¬ c1 = (10 : Int32)) (e2 : ¬ c2 = (10 : Int32)) (e3 : ¬ c3 = (10 : Int32)) : own_LOK l Z cs (4 : Int32) fm (own_bs4 c0 c1 c2 c3) (own_start4 c0 c1 c2 c3) (fun sz => (c3 = (10 : Int32) → (((((own_nl c0) + (own_nl c1)) + (own_nl c2)) + (own_nl c3)) + (0 : Int32)) = sz) ∧ (¬ c3 = (10 : Int32) → (((((own_nl c0) + (own_nl c1)) + (own_nl c2)) + (own_nl c3)) + (1 : Int32)) = sz)) := by
  have hX : ∀ (a b : Addr) (kb : ClassId), own_CX l Z a b kb cs (4 : Int32) (own_bs4 c0 c1 c2 c3) (0 : Int32) (-1 : Int32) := fun a b kb => fun h0 n0 Z0 Sc hcs Ea Fv Fc Vb => rmX2 l Z a0 hw [] a b cs (4 : Int32) (0 : Int32) (-1 : Int32) h0 n0 Z0 Sc hcs Ea Fv Fc (own_alnV Vb) (by decide) (by decide) (by have q := rmIC_4_0 l Z a0 hw [] b kb _ _ _ _ h0 n0 Z0 Vb; rw [if_neg (own_nlb lo0 hi0 e0), if_neg (own_nlb lo1 hi1 e1), if_neg (own_nlb lo2 hi2 e2), if_neg (own_nlb lo3 hi3 e3)] at q; exact q)
  have hC1 : ∀ (a b : Addr) (kb : ClassId), own_C1 l Z a b kb cs (4 : Int32) (own_bs4 c0 c1 c2 c3) (1 : Int32) [(.int 0), (.int 0), (.int 0), (.int 0), (.int 0), (.int 0), (.int 0), (.int 0)] := fun a b kb sa ks h0 n0 Z0 Sc hcs Ea Fv Fc Vb Vs gs Es hb => rmLS1_1 l Z a0 hw [] a b sa kb ks cs (4 : Int32) (own_bs4 c0 c1 c2 c3) h0 n0 Z0 Sc hcs Ea Fv Fc Vb (hX a b kb) Vs gs Es hb
  exact ⟨(1 : Int32), 1, (65 : Int32), [(0 : Int32), (4 : Int32), (0 : Int32), (0 : Int32), (0 : Int32), (0 : Int32), (0 : Int32), (0 : Int32)], by decide, by decide, by decide, (fun j h0 h1 => own_upto 1 (by decide) h0 h1 (fun j => own_st [(0 : Int32), (4 : Int32), (0 : Int32), (0 : Int32), (0 : Int32), (0 : Int32), (0 : Int32), (0 : Int32)] (0 : Int32) j = own_start4 c0 c1 c2 c3 j) (by simp only [own_start4, if_neg e0, if_neg e1, if_neg e2, if_neg e3]; decide)), ⟨fun q => absurd q e3, fun q => by simp only [own_nl, if_neg e0, if_neg e1, if_neg e2, if_neg e3]; decide⟩, fun o a b kb h0 n0 Z0 Sc hcs Ea Fv Fc Vb Sf hfm Eo Fm go hbo F1 F2 F3 => rmLI_1_1 l Z a0 hw [] o a b kb cs (own_bs4 c0 c1 c2 c3) fm (4 : Int32) (3 : Int32) c3  h0 n0 Z0 Sc hcs Ea Fv Fc Vb Sf hfm Eo Fm go hbo F1 F2 F3 (hC1 a b kb) (fun h0 n0 Z0 Sc hcs Ea Fv Fc Vb Sf hfm => rmCA_4 l Z a0 hw [] a b kb _ _ _ c3 cs fm h0 n0 Z0 Sc hcs Ea Fv Fc Vb Sf hfm lo3 hi3) e3 (by decide) (by decide) (by decide)⟩
theorem own_LP_4_0001 (l : Launch) (Z : State) (a0 : Array Value) (hw : ∀ d ∈ tables_1, d.before a0 Z = true) (cs : Int32) (fm : Value) (c0 c1 c2 c3 : Int32) (lo0 : ¬ c0 < (0 : Int32)) (hi0 : ¬ (255 : Int32) < c0) (lo1 : ¬ c1 < (0 : Int32)) (hi1 : ¬ (255 : Int32) < c1) (lo2 : ¬ c2 < (0 : Int32)) (hi2 : ¬ (255 : Int32) < c2) (lo3 : ¬ c3 < (0 : Int32)) (hi3 : ¬ (255 : Int32) < c3) (e0 : ¬ c0 = (10 : Int32)) (e1 : ¬ c1 = (10 : Int32)) (e2 : ¬ c2 = (10 : Int32)) (e3 : c3 = (10 : Int32)) : own_LOK l Z cs (4 : Int32) fm (own_bs4 c0 c1 c2 c3) (own_start4 c0 c1 c2 c3) (fun sz => (c3 = (10 : Int32) → (((((own_nl c0) + (own_nl c1)) + (own_nl c2)) + (own_nl c3)) + (0 : Int32)) = sz) ∧ (¬ c3 = (10 : Int32) → (((((own_nl c0) + (own_nl c1)) + (own_nl c2)) + (own_nl c3)) + (1 : Int32)) = sz)) := by
  have hX : ∀ (a b : Addr) (kb : ClassId), own_CX l Z a b kb cs (4 : Int32) (own_bs4 c0 c1 c2 c3) (0 : Int32) (3 : Int32) ∧ own_CX l Z a b kb cs (4 : Int32) (own_bs4 c0 c1 c2 c3) (4 : Int32) (-1 : Int32) := fun a b kb => ⟨fun h0 n0 Z0 Sc hcs Ea Fv Fc Vb => rmX2 l Z a0 hw [] a b cs (4 : Int32) (0 : Int32) (3 : Int32) h0 n0 Z0 Sc hcs Ea Fv Fc (own_alnV Vb) (by decide) (by decide) (by have q := rmIC_4_0 l Z a0 hw [] b kb _ _ _ _ h0 n0 Z0 Vb; rw [if_neg (own_nlb lo0 hi0 e0), if_neg (own_nlb lo1 hi1 e1), if_neg (own_nlb lo2 hi2 e2), if_pos (own_nlt e3)] at q; exact q), fun h0 n0 Z0 Sc hcs Ea Fv Fc Vb => rmX2e l Z a0 hw [] a b cs (4 : Int32) h0 n0 Z0 Sc hcs Ea Fv Fc (own_alnV Vb) (by decide)⟩
  have hC1 : ∀ (a b : Addr) (kb : ClassId), own_C1 l Z a b kb cs (4 : Int32) (own_bs4 c0 c1 c2 c3) (2 : Int32) [(.int 0), (.int 4), (.int 0), (.int 0), (.int 0), (.int 0), (.int 0), (.int 0)] := fun a b kb sa ks h0 n0 Z0 Sc hcs Ea Fv Fc Vb Vs gs Es hb => by
    obtain ⟨hX0, hX1⟩ := hX a b kb
    exact rmLS1_2 l Z a0 hw [] a b sa kb ks cs (4 : Int32) (own_bs4 c0 c1 c2 c3) (3 : Int32) (4 : Int32) h0 n0 Z0 Sc hcs Ea Fv Fc Vb hX0 hX1 (by decide) (by decide) Vs gs Es hb
  have hC2 : ∀ (a b : Addr) (kb : ClassId), own_C2 l Z a b kb cs (4 : Int32) (own_bs4 c0 c1 c2 c3) (2 : Int32) [(.int 0), (.int 4), (.int 0), (.int 0), (.int 0), (.int 0), (.int 0), (.int 0)] := fun a b kb sa ks h0 n0 Z0 Sc hcs Ea Fv Fc Vb Vs => by
    obtain ⟨hX0, hX1⟩ := hX a b kb
    exact rmLS2_2 l Z a0 hw [] a b sa kb ks cs (4 : Int32) (own_bs4 c0 c1 c2 c3) (4 : Int32) h0 n0 Z0 Sc hcs Ea Fv Fc Vb hX1 Vs
  exact ⟨(1 : Int32), 1, (130 : Int32), [(0 : Int32), (4 : Int32), (0 : Int32), (0 : Int32), (0 : Int32), (0 : Int32), (0 : Int32), (0 : Int32)], by decide, by decide, by decide, (fun j h0 h1 => own_upto 1 (by decide) h0 h1 (fun j => own_st [(0 : Int32), (4 : Int32), (0 : Int32), (0 : Int32), (0 : Int32), (0 : Int32), (0 : Int32), (0 : Int32)] (0 : Int32) j = own_start4 c0 c1 c2 c3 j) (by simp only [own_start4, if_neg e0, if_neg e1, if_neg e2, if_pos e3]; decide)), ⟨fun q => by simp only [own_nl, if_neg e0, if_neg e1, if_neg e2, if_pos e3]; decide, fun q => absurd e3 q⟩, fun o a b kb h0 n0 Z0 Sc hcs Ea Fv Fc Vb Sf hfm Eo Fm go hbo F1 F2 F3 => rmLI_2_0 l Z a0 hw [] o a b kb cs (own_bs4 c0 c1 c2 c3) fm (4 : Int32) (3 : Int32) c3 (4 : Int32) h0 n0 Z0 Sc hcs Ea Fv Fc Vb Sf hfm Eo Fm go hbo F1 F2 F3 (hC1 a b kb) (hC2 a b kb) (fun h0 n0 Z0 Sc hcs Ea Fv Fc Vb Sf hfm => rmCA_4 l Z a0 hw [] a b kb _ _ _ c3 cs fm h0 n0 Z0 Sc hcs Ea Fv Fc Vb Sf hfm lo3 hi3) e3 (by decide) (by decide) (by decide)⟩
theorem own_LP_4_0010 (l : Launch) (Z : State) (a0 : Array Value) (hw : ∀ d ∈ tables_1, d.before a0 Z = true) (cs : Int32) (fm : Value) (c0 c1 c2 c3 : Int32) (lo0 : ¬ c0 < (0 : Int32)) (hi0 : ¬ (255 : Int32) < c0) (lo1 : ¬ c1 < (0 : Int32)) (hi1 : ¬ (255 : Int32) < c1) (lo2 : ¬ c2 < (0 : Int32)) (hi2 : ¬ (255 : Int32) < c2) (lo3 : ¬ c3 < (0 : Int32)) (hi3 : ¬ (255 : Int32) < c3) (e0 : ¬ c0 = (10 : Int32)) (e1 : ¬ c1 = (10 : Int32)) (e2 : c2 = (10 : Int32)) (e3 : ¬ c3 = (10 : Int32)) : own_LOK l Z cs (4 : Int32) fm (own_bs4 c0 c1 c2 c3) (own_start4 c0 c1 c2 c3) (fun sz => (c3 = (10 : Int32) → (((((own_nl c0) + (own_nl c1)) + (own_nl c2)) + (own_nl c3)) + (0 : Int32)) = sz) ∧ (¬ c3 = (10 : Int32) → (((((own_nl c0) + (own_nl c1)) + (own_nl c2)) + (own_nl c3)) + (1 : Int32)) = sz)) := by
  have hX : ∀ (a b : Addr) (kb : ClassId), own_CX l Z a b kb cs (4 : Int32) (own_bs4 c0 c1 c2 c3) (0 : Int32) (2 : Int32) ∧ own_CX l Z a b kb cs (4 : Int32) (own_bs4 c0 c1 c2 c3) (3 : Int32) (-1 : Int32) := fun a b kb => ⟨fun h0 n0 Z0 Sc hcs Ea Fv Fc Vb => rmX2 l Z a0 hw [] a b cs (4 : Int32) (0 : Int32) (2 : Int32) h0 n0 Z0 Sc hcs Ea Fv Fc (own_alnV Vb) (by decide) (by decide) (by have q := rmIC_4_0 l Z a0 hw [] b kb _ _ _ _ h0 n0 Z0 Vb; rw [if_neg (own_nlb lo0 hi0 e0), if_neg (own_nlb lo1 hi1 e1), if_pos (own_nlt e2)] at q; exact q), fun h0 n0 Z0 Sc hcs Ea Fv Fc Vb => rmX2 l Z a0 hw [] a b cs (4 : Int32) (3 : Int32) (-1 : Int32) h0 n0 Z0 Sc hcs Ea Fv Fc (own_alnV Vb) (by decide) (by decide) (by have q := rmIC_4_3 l Z a0 hw [] b kb _ _ _ _ h0 n0 Z0 Vb; rw [if_neg (own_nlb lo3 hi3 e3)] at q; exact q)⟩
  have hC1 : ∀ (a b : Addr) (kb : ClassId), own_C1 l Z a b kb cs (4 : Int32) (own_bs4 c0 c1 c2 c3) (2 : Int32) [(.int 0), (.int 3), (.int 0), (.int 0), (.int 0), (.int 0), (.int 0), (.int 0)] := fun a b kb sa ks h0 n0 Z0 Sc hcs Ea Fv Fc Vb Vs gs Es hb => by
    obtain ⟨hX0, hX1⟩ := hX a b kb
    exact rmLS1_2 l Z a0 hw [] a b sa kb ks cs (4 : Int32) (own_bs4 c0 c1 c2 c3) (2 : Int32) (3 : Int32) h0 n0 Z0 Sc hcs Ea Fv Fc Vb hX0 hX1 (by decide) (by decide) Vs gs Es hb
  have hC2 : ∀ (a b : Addr) (kb : ClassId), own_C2 l Z a b kb cs (4 : Int32) (own_bs4 c0 c1 c2 c3) (2 : Int32) [(.int 0), (.int 3), (.int 0), (.int 0), (.int 0), (.int 0), (.int 0), (.int 0)] := fun a b kb sa ks h0 n0 Z0 Sc hcs Ea Fv Fc Vb Vs => by
    obtain ⟨hX0, hX1⟩ := hX a b kb
    exact rmLS2_2 l Z a0 hw [] a b sa kb ks cs (4 : Int32) (own_bs4 c0 c1 c2 c3) (3 : Int32) h0 n0 Z0 Sc hcs Ea Fv Fc Vb hX1 Vs
  exact ⟨(2 : Int32), 2, (130 : Int32), [(0 : Int32), (3 : Int32), (4 : Int32), (0 : Int32), (0 : Int32), (0 : Int32), (0 : Int32), (0 : Int32)], by decide, by decide, by decide, (fun j h0 h1 => own_upto 2 (by decide) h0 h1 (fun j => own_st [(0 : Int32), (3 : Int32), (4 : Int32), (0 : Int32), (0 : Int32), (0 : Int32), (0 : Int32), (0 : Int32)] (0 : Int32) j = own_start4 c0 c1 c2 c3 j) (by simp only [own_start4, if_neg e0, if_neg e1, if_pos e2, if_neg e3]; decide)), ⟨fun q => absurd q e3, fun q => by simp only [own_nl, if_neg e0, if_neg e1, if_pos e2, if_neg e3]; decide⟩, fun o a b kb h0 n0 Z0 Sc hcs Ea Fv Fc Vb Sf hfm Eo Fm go hbo F1 F2 F3 => rmLI_2_1 l Z a0 hw [] o a b kb cs (own_bs4 c0 c1 c2 c3) fm (4 : Int32) (3 : Int32) c3 (3 : Int32) h0 n0 Z0 Sc hcs Ea Fv Fc Vb Sf hfm Eo Fm go hbo F1 F2 F3 (hC1 a b kb) (hC2 a b kb) (fun h0 n0 Z0 Sc hcs Ea Fv Fc Vb Sf hfm => rmCA_4 l Z a0 hw [] a b kb _ _ _ c3 cs fm h0 n0 Z0 Sc hcs Ea Fv Fc Vb Sf hfm lo3 hi3) e3 (by decide) (by decide) (by decide)⟩
theorem own_LP_4_0011 (l : Launch) (Z : State) (a0 : Array Value) (hw : ∀ d ∈ tables_1, d.before a0 Z = true) (cs : Int32) (fm : Value) (c0 c1 c2 c3 : Int32) (lo0 : ¬ c0 < (0 : Int32)) (hi0 : ¬ (255 : Int32) < c0) (lo1 : ¬ c1 < (0 : Int32)) (hi1 : ¬ (255 : Int32) < c1) (lo2 : ¬ c2 < (0 : Int32)) (hi2 : ¬ (255 : Int32) < c2) (lo3 : ¬ c3 < (0 : Int32)) (hi3 : ¬ (255 : Int32) < c3) (e0 : ¬ c0 = (10 : Int32)) (e1 : ¬ c1 = (10 : Int32)) (e2 : c2 = (10 : Int32)) (e3 : c3 = (10 : Int32)) : own_LOK l Z cs (4 : Int32) fm (own_bs4 c0 c1 c2 c3) (own_start4 c0 c1 c2 c3) (fun sz => (c3 = (10 : Int32) → (((((own_nl c0) + (own_nl c1)) + (own_nl c2)) + (own_nl c3)) + (0 : Int32)) = sz) ∧ (¬ c3 = (10 : Int32) → (((((own_nl c0) + (own_nl c1)) + (own_nl c2)) + (own_nl c3)) + (1 : Int32)) = sz)) := by
  have hX : ∀ (a b : Addr) (kb : ClassId), own_CX l Z a b kb cs (4 : Int32) (own_bs4 c0 c1 c2 c3) (0 : Int32) (2 : Int32) ∧ own_CX l Z a b kb cs (4 : Int32) (own_bs4 c0 c1 c2 c3) (3 : Int32) (3 : Int32) ∧ own_CX l Z a b kb cs (4 : Int32) (own_bs4 c0 c1 c2 c3) (4 : Int32) (-1 : Int32) := fun a b kb => ⟨fun h0 n0 Z0 Sc hcs Ea Fv Fc Vb => rmX2 l Z a0 hw [] a b cs (4 : Int32) (0 : Int32) (2 : Int32) h0 n0 Z0 Sc hcs Ea Fv Fc (own_alnV Vb) (by decide) (by decide) (by have q := rmIC_4_0 l Z a0 hw [] b kb _ _ _ _ h0 n0 Z0 Vb; rw [if_neg (own_nlb lo0 hi0 e0), if_neg (own_nlb lo1 hi1 e1), if_pos (own_nlt e2)] at q; exact q), fun h0 n0 Z0 Sc hcs Ea Fv Fc Vb => rmX2 l Z a0 hw [] a b cs (4 : Int32) (3 : Int32) (3 : Int32) h0 n0 Z0 Sc hcs Ea Fv Fc (own_alnV Vb) (by decide) (by decide) (by have q := rmIC_4_3 l Z a0 hw [] b kb _ _ _ _ h0 n0 Z0 Vb; rw [if_pos (own_nlt e3)] at q; exact q), fun h0 n0 Z0 Sc hcs Ea Fv Fc Vb => rmX2e l Z a0 hw [] a b cs (4 : Int32) h0 n0 Z0 Sc hcs Ea Fv Fc (own_alnV Vb) (by decide)⟩
  have hC1 : ∀ (a b : Addr) (kb : ClassId), own_C1 l Z a b kb cs (4 : Int32) (own_bs4 c0 c1 c2 c3) (3 : Int32) [(.int 0), (.int 3), (.int 4), (.int 0), (.int 0), (.int 0), (.int 0), (.int 0)] := fun a b kb sa ks h0 n0 Z0 Sc hcs Ea Fv Fc Vb Vs gs Es hb => by
    obtain ⟨hX0, hX1, hX2⟩ := hX a b kb
    exact rmLS1_3 l Z a0 hw [] a b sa kb ks cs (4 : Int32) (own_bs4 c0 c1 c2 c3) (2 : Int32) (3 : Int32) (3 : Int32) (4 : Int32) h0 n0 Z0 Sc hcs Ea Fv Fc Vb hX0 hX1 hX2 (by decide) (by decide) (by decide) (by decide) Vs gs Es hb
  have hC2 : ∀ (a b : Addr) (kb : ClassId), own_C2 l Z a b kb cs (4 : Int32) (own_bs4 c0 c1 c2 c3) (3 : Int32) [(.int 0), (.int 3), (.int 4), (.int 0), (.int 0), (.int 0), (.int 0), (.int 0)] := fun a b kb sa ks h0 n0 Z0 Sc hcs Ea Fv Fc Vb Vs => by
    obtain ⟨hX0, hX1, hX2⟩ := hX a b kb
    exact rmLS2_3 l Z a0 hw [] a b sa kb ks cs (4 : Int32) (own_bs4 c0 c1 c2 c3) (3 : Int32) (4 : Int32) h0 n0 Z0 Sc hcs Ea Fv Fc Vb hX2 Vs
  exact ⟨(2 : Int32), 2, (130 : Int32), [(0 : Int32), (3 : Int32), (4 : Int32), (0 : Int32), (0 : Int32), (0 : Int32), (0 : Int32), (0 : Int32)], by decide, by decide, by decide, (fun j h0 h1 => own_upto 2 (by decide) h0 h1 (fun j => own_st [(0 : Int32), (3 : Int32), (4 : Int32), (0 : Int32), (0 : Int32), (0 : Int32), (0 : Int32), (0 : Int32)] (0 : Int32) j = own_start4 c0 c1 c2 c3 j) (by simp only [own_start4, if_neg e0, if_neg e1, if_pos e2, if_pos e3]; decide)), ⟨fun q => by simp only [own_nl, if_neg e0, if_neg e1, if_pos e2, if_pos e3]; decide, fun q => absurd e3 q⟩, fun o a b kb h0 n0 Z0 Sc hcs Ea Fv Fc Vb Sf hfm Eo Fm go hbo F1 F2 F3 => rmLI_3_0 l Z a0 hw [] o a b kb cs (own_bs4 c0 c1 c2 c3) fm (4 : Int32) (3 : Int32) c3 (3 : Int32) (4 : Int32) h0 n0 Z0 Sc hcs Ea Fv Fc Vb Sf hfm Eo Fm go hbo F1 F2 F3 (hC1 a b kb) (hC2 a b kb) (fun h0 n0 Z0 Sc hcs Ea Fv Fc Vb Sf hfm => rmCA_4 l Z a0 hw [] a b kb _ _ _ c3 cs fm h0 n0 Z0 Sc hcs Ea Fv Fc Vb Sf hfm lo3 hi3) e3 (by decide) (by decide) (by decide)⟩
theorem own_LP_4_0100 (l : Launch) (Z : State) (a0 : Array Value) (hw : ∀ d ∈ tables_1, d.before a0 Z = true) (cs : Int32) (fm : Value) (c0 c1 c2 c3 : Int32) (lo0 : ¬ c0 < (0 : Int32)) (hi0 : ¬ (255 : Int32) < c0) (lo1 : ¬ c1 < (0 : Int32)) (hi1 : ¬ (255 : Int32) < c1) (lo2 : ¬ c2 < (0 : Int32)) (hi2 : ¬ (255 : Int32) < c2) (lo3 : ¬ c3 < (0 : Int32)) (hi3 : ¬ (255 : Int32) < c3) (e0 : ¬ c0 = (10 : Int32)) (e1 : c1 = (10 : Int32)) (e2 : ¬ c2 = (10 : Int32)) (e3 : ¬ c3 = (10 : Int32)) : own_LOK l Z cs (4 : Int32) fm (own_bs4 c0 c1 c2 c3) (own_start4 c0 c1 c2 c3) (fun sz => (c3 = (10 : Int32) → (((((own_nl c0) + (own_nl c1)) + (own_nl c2)) + (own_nl c3)) + (0 : Int32)) = sz) ∧ (¬ c3 = (10 : Int32) → (((((own_nl c0) + (own_nl c1)) + (own_nl c2)) + (own_nl c3)) + (1 : Int32)) = sz)) := by
  have hX : ∀ (a b : Addr) (kb : ClassId), own_CX l Z a b kb cs (4 : Int32) (own_bs4 c0 c1 c2 c3) (0 : Int32) (1 : Int32) ∧ own_CX l Z a b kb cs (4 : Int32) (own_bs4 c0 c1 c2 c3) (2 : Int32) (-1 : Int32) := fun a b kb => ⟨fun h0 n0 Z0 Sc hcs Ea Fv Fc Vb => rmX2 l Z a0 hw [] a b cs (4 : Int32) (0 : Int32) (1 : Int32) h0 n0 Z0 Sc hcs Ea Fv Fc (own_alnV Vb) (by decide) (by decide) (by have q := rmIC_4_0 l Z a0 hw [] b kb _ _ _ _ h0 n0 Z0 Vb; rw [if_neg (own_nlb lo0 hi0 e0), if_pos (own_nlt e1)] at q; exact q), fun h0 n0 Z0 Sc hcs Ea Fv Fc Vb => rmX2 l Z a0 hw [] a b cs (4 : Int32) (2 : Int32) (-1 : Int32) h0 n0 Z0 Sc hcs Ea Fv Fc (own_alnV Vb) (by decide) (by decide) (by have q := rmIC_4_2 l Z a0 hw [] b kb _ _ _ _ h0 n0 Z0 Vb; rw [if_neg (own_nlb lo2 hi2 e2), if_neg (own_nlb lo3 hi3 e3)] at q; exact q)⟩
  have hC1 : ∀ (a b : Addr) (kb : ClassId), own_C1 l Z a b kb cs (4 : Int32) (own_bs4 c0 c1 c2 c3) (2 : Int32) [(.int 0), (.int 2), (.int 0), (.int 0), (.int 0), (.int 0), (.int 0), (.int 0)] := fun a b kb sa ks h0 n0 Z0 Sc hcs Ea Fv Fc Vb Vs gs Es hb => by
    obtain ⟨hX0, hX1⟩ := hX a b kb
    exact rmLS1_2 l Z a0 hw [] a b sa kb ks cs (4 : Int32) (own_bs4 c0 c1 c2 c3) (1 : Int32) (2 : Int32) h0 n0 Z0 Sc hcs Ea Fv Fc Vb hX0 hX1 (by decide) (by decide) Vs gs Es hb
  have hC2 : ∀ (a b : Addr) (kb : ClassId), own_C2 l Z a b kb cs (4 : Int32) (own_bs4 c0 c1 c2 c3) (2 : Int32) [(.int 0), (.int 2), (.int 0), (.int 0), (.int 0), (.int 0), (.int 0), (.int 0)] := fun a b kb sa ks h0 n0 Z0 Sc hcs Ea Fv Fc Vb Vs => by
    obtain ⟨hX0, hX1⟩ := hX a b kb
    exact rmLS2_2 l Z a0 hw [] a b sa kb ks cs (4 : Int32) (own_bs4 c0 c1 c2 c3) (2 : Int32) h0 n0 Z0 Sc hcs Ea Fv Fc Vb hX1 Vs
  exact ⟨(2 : Int32), 2, (130 : Int32), [(0 : Int32), (2 : Int32), (4 : Int32), (0 : Int32), (0 : Int32), (0 : Int32), (0 : Int32), (0 : Int32)], by decide, by decide, by decide, (fun j h0 h1 => own_upto 2 (by decide) h0 h1 (fun j => own_st [(0 : Int32), (2 : Int32), (4 : Int32), (0 : Int32), (0 : Int32), (0 : Int32), (0 : Int32), (0 : Int32)] (0 : Int32) j = own_start4 c0 c1 c2 c3 j) (by simp only [own_start4, if_neg e0, if_pos e1, if_neg e2, if_neg e3]; decide)), ⟨fun q => absurd q e3, fun q => by simp only [own_nl, if_neg e0, if_pos e1, if_neg e2, if_neg e3]; decide⟩, fun o a b kb h0 n0 Z0 Sc hcs Ea Fv Fc Vb Sf hfm Eo Fm go hbo F1 F2 F3 => rmLI_2_1 l Z a0 hw [] o a b kb cs (own_bs4 c0 c1 c2 c3) fm (4 : Int32) (3 : Int32) c3 (2 : Int32) h0 n0 Z0 Sc hcs Ea Fv Fc Vb Sf hfm Eo Fm go hbo F1 F2 F3 (hC1 a b kb) (hC2 a b kb) (fun h0 n0 Z0 Sc hcs Ea Fv Fc Vb Sf hfm => rmCA_4 l Z a0 hw [] a b kb _ _ _ c3 cs fm h0 n0 Z0 Sc hcs Ea Fv Fc Vb Sf hfm lo3 hi3) e3 (by decide) (by decide) (by decide)⟩
theorem own_LP_4_0101 (l : Launch) (Z : State) (a0 : Array Value) (hw : ∀ d ∈ tables_1, d.before a0 Z = true) (cs : Int32) (fm : Value) (c0 c1 c2 c3 : Int32) (lo0 : ¬ c0 < (0 : Int32)) (hi0 : ¬ (255 : Int32) < c0) (lo1 : ¬ c1 < (0 : Int32)) (hi1 : ¬ (255 : Int32) < c1) (lo2 : ¬ c2 < (0 : Int32)) (hi2 : ¬ (255 : Int32) < c2) (lo3 : ¬ c3 < (0 : Int32)) (hi3 : ¬ (255 : Int32) < c3) (e0 : ¬ c0 = (10 : Int32)) (e1 : c1 = (10 : Int32)) (e2 : ¬ c2 = (10 : Int32)) (e3 : c3 = (10 : Int32)) : own_LOK l Z cs (4 : Int32) fm (own_bs4 c0 c1 c2 c3) (own_start4 c0 c1 c2 c3) (fun sz => (c3 = (10 : Int32) → (((((own_nl c0) + (own_nl c1)) + (own_nl c2)) + (own_nl c3)) + (0 : Int32)) = sz) ∧ (¬ c3 = (10 : Int32) → (((((own_nl c0) + (own_nl c1)) + (own_nl c2)) + (own_nl c3)) + (1 : Int32)) = sz)) := by
  have hX : ∀ (a b : Addr) (kb : ClassId), own_CX l Z a b kb cs (4 : Int32) (own_bs4 c0 c1 c2 c3) (0 : Int32) (1 : Int32) ∧ own_CX l Z a b kb cs (4 : Int32) (own_bs4 c0 c1 c2 c3) (2 : Int32) (3 : Int32) ∧ own_CX l Z a b kb cs (4 : Int32) (own_bs4 c0 c1 c2 c3) (4 : Int32) (-1 : Int32) := fun a b kb => ⟨fun h0 n0 Z0 Sc hcs Ea Fv Fc Vb => rmX2 l Z a0 hw [] a b cs (4 : Int32) (0 : Int32) (1 : Int32) h0 n0 Z0 Sc hcs Ea Fv Fc (own_alnV Vb) (by decide) (by decide) (by have q := rmIC_4_0 l Z a0 hw [] b kb _ _ _ _ h0 n0 Z0 Vb; rw [if_neg (own_nlb lo0 hi0 e0), if_pos (own_nlt e1)] at q; exact q), fun h0 n0 Z0 Sc hcs Ea Fv Fc Vb => rmX2 l Z a0 hw [] a b cs (4 : Int32) (2 : Int32) (3 : Int32) h0 n0 Z0 Sc hcs Ea Fv Fc (own_alnV Vb) (by decide) (by decide) (by have q := rmIC_4_2 l Z a0 hw [] b kb _ _ _ _ h0 n0 Z0 Vb; rw [if_neg (own_nlb lo2 hi2 e2), if_pos (own_nlt e3)] at q; exact q), fun h0 n0 Z0 Sc hcs Ea Fv Fc Vb => rmX2e l Z a0 hw [] a b cs (4 : Int32) h0 n0 Z0 Sc hcs Ea Fv Fc (own_alnV Vb) (by decide)⟩
  have hC1 : ∀ (a b : Addr) (kb : ClassId), own_C1 l Z a b kb cs (4 : Int32) (own_bs4 c0 c1 c2 c3) (3 : Int32) [(.int 0), (.int 2), (.int 4), (.int 0), (.int 0), (.int 0), (.int 0), (.int 0)] := fun a b kb sa ks h0 n0 Z0 Sc hcs Ea Fv Fc Vb Vs gs Es hb => by
    obtain ⟨hX0, hX1, hX2⟩ := hX a b kb
    exact rmLS1_3 l Z a0 hw [] a b sa kb ks cs (4 : Int32) (own_bs4 c0 c1 c2 c3) (1 : Int32) (2 : Int32) (3 : Int32) (4 : Int32) h0 n0 Z0 Sc hcs Ea Fv Fc Vb hX0 hX1 hX2 (by decide) (by decide) (by decide) (by decide) Vs gs Es hb
  have hC2 : ∀ (a b : Addr) (kb : ClassId), own_C2 l Z a b kb cs (4 : Int32) (own_bs4 c0 c1 c2 c3) (3 : Int32) [(.int 0), (.int 2), (.int 4), (.int 0), (.int 0), (.int 0), (.int 0), (.int 0)] := fun a b kb sa ks h0 n0 Z0 Sc hcs Ea Fv Fc Vb Vs => by
    obtain ⟨hX0, hX1, hX2⟩ := hX a b kb
    exact rmLS2_3 l Z a0 hw [] a b sa kb ks cs (4 : Int32) (own_bs4 c0 c1 c2 c3) (2 : Int32) (4 : Int32) h0 n0 Z0 Sc hcs Ea Fv Fc Vb hX2 Vs
  exact ⟨(2 : Int32), 2, (130 : Int32), [(0 : Int32), (2 : Int32), (4 : Int32), (0 : Int32), (0 : Int32), (0 : Int32), (0 : Int32), (0 : Int32)], by decide, by decide, by decide, (fun j h0 h1 => own_upto 2 (by decide) h0 h1 (fun j => own_st [(0 : Int32), (2 : Int32), (4 : Int32), (0 : Int32), (0 : Int32), (0 : Int32), (0 : Int32), (0 : Int32)] (0 : Int32) j = own_start4 c0 c1 c2 c3 j) (by simp only [own_start4, if_neg e0, if_pos e1, if_neg e2, if_pos e3]; decide)), ⟨fun q => by simp only [own_nl, if_neg e0, if_pos e1, if_neg e2, if_pos e3]; decide, fun q => absurd e3 q⟩, fun o a b kb h0 n0 Z0 Sc hcs Ea Fv Fc Vb Sf hfm Eo Fm go hbo F1 F2 F3 => rmLI_3_0 l Z a0 hw [] o a b kb cs (own_bs4 c0 c1 c2 c3) fm (4 : Int32) (3 : Int32) c3 (2 : Int32) (4 : Int32) h0 n0 Z0 Sc hcs Ea Fv Fc Vb Sf hfm Eo Fm go hbo F1 F2 F3 (hC1 a b kb) (hC2 a b kb) (fun h0 n0 Z0 Sc hcs Ea Fv Fc Vb Sf hfm => rmCA_4 l Z a0 hw [] a b kb _ _ _ c3 cs fm h0 n0 Z0 Sc hcs Ea Fv Fc Vb Sf hfm lo3 hi3) e3 (by decide) (by decide) (by decide)⟩
theorem own_LP_4_0110 (l : Launch) (Z : State) (a0 : Array Value) (hw : ∀ d ∈ tables_1, d.before a0 Z = true) (cs : Int32) (fm : Value) (c0 c1 c2 c3 : Int32) (lo0 : ¬ c0 < (0 : Int32)) (hi0 : ¬ (255 : Int32) < c0) (lo1 : ¬ c1 < (0 : Int32)) (hi1 : ¬ (255 : Int32) < c1) (lo2 : ¬ c2 < (0 : Int32)) (hi2 : ¬ (255 : Int32) < c2) (lo3 : ¬ c3 < (0 : Int32)) (hi3 : ¬ (255 : Int32) < c3) (e0 : ¬ c0 = (10 : Int32)) (e1 : c1 = (10 : Int32)) (e2 : c2 = (10 : Int32)) (e3 : ¬ c3 = (10 : Int32)) : own_LOK l Z cs (4 : Int32) fm (own_bs4 c0 c1 c2 c3) (own_start4 c0 c1 c2 c3) (fun sz => (c3 = (10 : Int32) → (((((own_nl c0) + (own_nl c1)) + (own_nl c2)) + (own_nl c3)) + (0 : Int32)) = sz) ∧ (¬ c3 = (10 : Int32) → (((((own_nl c0) + (own_nl c1)) + (own_nl c2)) + (own_nl c3)) + (1 : Int32)) = sz)) := by
  have hX : ∀ (a b : Addr) (kb : ClassId), own_CX l Z a b kb cs (4 : Int32) (own_bs4 c0 c1 c2 c3) (0 : Int32) (1 : Int32) ∧ own_CX l Z a b kb cs (4 : Int32) (own_bs4 c0 c1 c2 c3) (2 : Int32) (2 : Int32) ∧ own_CX l Z a b kb cs (4 : Int32) (own_bs4 c0 c1 c2 c3) (3 : Int32) (-1 : Int32) := fun a b kb => ⟨fun h0 n0 Z0 Sc hcs Ea Fv Fc Vb => rmX2 l Z a0 hw [] a b cs (4 : Int32) (0 : Int32) (1 : Int32) h0 n0 Z0 Sc hcs Ea Fv Fc (own_alnV Vb) (by decide) (by decide) (by have q := rmIC_4_0 l Z a0 hw [] b kb _ _ _ _ h0 n0 Z0 Vb; rw [if_neg (own_nlb lo0 hi0 e0), if_pos (own_nlt e1)] at q; exact q), fun h0 n0 Z0 Sc hcs Ea Fv Fc Vb => rmX2 l Z a0 hw [] a b cs (4 : Int32) (2 : Int32) (2 : Int32) h0 n0 Z0 Sc hcs Ea Fv Fc (own_alnV Vb) (by decide) (by decide) (by have q := rmIC_4_2 l Z a0 hw [] b kb _ _ _ _ h0 n0 Z0 Vb; rw [if_pos (own_nlt e2)] at q; exact q), fun h0 n0 Z0 Sc hcs Ea Fv Fc Vb => rmX2 l Z a0 hw [] a b cs (4 : Int32) (3 : Int32) (-1 : Int32) h0 n0 Z0 Sc hcs Ea Fv Fc (own_alnV Vb) (by decide) (by decide) (by have q := rmIC_4_3 l Z a0 hw [] b kb _ _ _ _ h0 n0 Z0 Vb; rw [if_neg (own_nlb lo3 hi3 e3)] at q; exact q)⟩
  have hC1 : ∀ (a b : Addr) (kb : ClassId), own_C1 l Z a b kb cs (4 : Int32) (own_bs4 c0 c1 c2 c3) (3 : Int32) [(.int 0), (.int 2), (.int 3), (.int 0), (.int 0), (.int 0), (.int 0), (.int 0)] := fun a b kb sa ks h0 n0 Z0 Sc hcs Ea Fv Fc Vb Vs gs Es hb => by
    obtain ⟨hX0, hX1, hX2⟩ := hX a b kb
    exact rmLS1_3 l Z a0 hw [] a b sa kb ks cs (4 : Int32) (own_bs4 c0 c1 c2 c3) (1 : Int32) (2 : Int32) (2 : Int32) (3 : Int32) h0 n0 Z0 Sc hcs Ea Fv Fc Vb hX0 hX1 hX2 (by decide) (by decide) (by decide) (by decide) Vs gs Es hb
  have hC2 : ∀ (a b : Addr) (kb : ClassId), own_C2 l Z a b kb cs (4 : Int32) (own_bs4 c0 c1 c2 c3) (3 : Int32) [(.int 0), (.int 2), (.int 3), (.int 0), (.int 0), (.int 0), (.int 0), (.int 0)] := fun a b kb sa ks h0 n0 Z0 Sc hcs Ea Fv Fc Vb Vs => by
    obtain ⟨hX0, hX1, hX2⟩ := hX a b kb
    exact rmLS2_3 l Z a0 hw [] a b sa kb ks cs (4 : Int32) (own_bs4 c0 c1 c2 c3) (2 : Int32) (3 : Int32) h0 n0 Z0 Sc hcs Ea Fv Fc Vb hX2 Vs
  exact ⟨(3 : Int32), 3, (130 : Int32), [(0 : Int32), (2 : Int32), (3 : Int32), (4 : Int32), (0 : Int32), (0 : Int32), (0 : Int32), (0 : Int32)], by decide, by decide, by decide, (fun j h0 h1 => own_upto 3 (by decide) h0 h1 (fun j => own_st [(0 : Int32), (2 : Int32), (3 : Int32), (4 : Int32), (0 : Int32), (0 : Int32), (0 : Int32), (0 : Int32)] (0 : Int32) j = own_start4 c0 c1 c2 c3 j) (by simp only [own_start4, if_neg e0, if_pos e1, if_pos e2, if_neg e3]; decide)), ⟨fun q => absurd q e3, fun q => by simp only [own_nl, if_neg e0, if_pos e1, if_pos e2, if_neg e3]; decide⟩, fun o a b kb h0 n0 Z0 Sc hcs Ea Fv Fc Vb Sf hfm Eo Fm go hbo F1 F2 F3 => rmLI_3_1 l Z a0 hw [] o a b kb cs (own_bs4 c0 c1 c2 c3) fm (4 : Int32) (3 : Int32) c3 (2 : Int32) (3 : Int32) h0 n0 Z0 Sc hcs Ea Fv Fc Vb Sf hfm Eo Fm go hbo F1 F2 F3 (hC1 a b kb) (hC2 a b kb) (fun h0 n0 Z0 Sc hcs Ea Fv Fc Vb Sf hfm => rmCA_4 l Z a0 hw [] a b kb _ _ _ c3 cs fm h0 n0 Z0 Sc hcs Ea Fv Fc Vb Sf hfm lo3 hi3) e3 (by decide) (by decide) (by decide)⟩
theorem own_LP_4_0111 (l : Launch) (Z : State) (a0 : Array Value) (hw : ∀ d ∈ tables_1, d.before a0 Z = true) (cs : Int32) (fm : Value) (c0 c1 c2 c3 : Int32) (lo0 : ¬ c0 < (0 : Int32)) (hi0 : ¬ (255 : Int32) < c0) (lo1 : ¬ c1 < (0 : Int32)) (hi1 : ¬ (255 : Int32) < c1) (lo2 : ¬ c2 < (0 : Int32)) (hi2 : ¬ (255 : Int32) < c2) (lo3 : ¬ c3 < (0 : Int32)) (hi3 : ¬ (255 : Int32) < c3) (e0 : ¬ c0 = (10 : Int32)) (e1 : c1 = (10 : Int32)) (e2 : c2 = (10 : Int32)) (e3 : c3 = (10 : Int32)) : own_LOK l Z cs (4 : Int32) fm (own_bs4 c0 c1 c2 c3) (own_start4 c0 c1 c2 c3) (fun sz => (c3 = (10 : Int32) → (((((own_nl c0) + (own_nl c1)) + (own_nl c2)) + (own_nl c3)) + (0 : Int32)) = sz) ∧ (¬ c3 = (10 : Int32) → (((((own_nl c0) + (own_nl c1)) + (own_nl c2)) + (own_nl c3)) + (1 : Int32)) = sz)) := by
  have hX : ∀ (a b : Addr) (kb : ClassId), own_CX l Z a b kb cs (4 : Int32) (own_bs4 c0 c1 c2 c3) (0 : Int32) (1 : Int32) ∧ own_CX l Z a b kb cs (4 : Int32) (own_bs4 c0 c1 c2 c3) (2 : Int32) (2 : Int32) ∧ own_CX l Z a b kb cs (4 : Int32) (own_bs4 c0 c1 c2 c3) (3 : Int32) (3 : Int32) ∧ own_CX l Z a b kb cs (4 : Int32) (own_bs4 c0 c1 c2 c3) (4 : Int32) (-1 : Int32) := fun a b kb => ⟨fun h0 n0 Z0 Sc hcs Ea Fv Fc Vb => rmX2 l Z a0 hw [] a b cs (4 : Int32) (0 : Int32) (1 : Int32) h0 n0 Z0 Sc hcs Ea Fv Fc (own_alnV Vb) (by decide) (by decide) (by have q := rmIC_4_0 l Z a0 hw [] b kb _ _ _ _ h0 n0 Z0 Vb; rw [if_neg (own_nlb lo0 hi0 e0), if_pos (own_nlt e1)] at q; exact q), fun h0 n0 Z0 Sc hcs Ea Fv Fc Vb => rmX2 l Z a0 hw [] a b cs (4 : Int32) (2 : Int32) (2 : Int32) h0 n0 Z0 Sc hcs Ea Fv Fc (own_alnV Vb) (by decide) (by decide) (by have q := rmIC_4_2 l Z a0 hw [] b kb _ _ _ _ h0 n0 Z0 Vb; rw [if_pos (own_nlt e2)] at q; exact q), fun h0 n0 Z0 Sc hcs Ea Fv Fc Vb => rmX2 l Z a0 hw [] a b cs (4 : Int32) (3 : Int32) (3 : Int32) h0 n0 Z0 Sc hcs Ea Fv Fc (own_alnV Vb) (by decide) (by decide) (by have q := rmIC_4_3 l Z a0 hw [] b kb _ _ _ _ h0 n0 Z0 Vb; rw [if_pos (own_nlt e3)] at q; exact q), fun h0 n0 Z0 Sc hcs Ea Fv Fc Vb => rmX2e l Z a0 hw [] a b cs (4 : Int32) h0 n0 Z0 Sc hcs Ea Fv Fc (own_alnV Vb) (by decide)⟩
  have hC1 : ∀ (a b : Addr) (kb : ClassId), own_C1 l Z a b kb cs (4 : Int32) (own_bs4 c0 c1 c2 c3) (4 : Int32) [(.int 0), (.int 2), (.int 3), (.int 4), (.int 0), (.int 0), (.int 0), (.int 0)] := fun a b kb sa ks h0 n0 Z0 Sc hcs Ea Fv Fc Vb Vs gs Es hb => by
    obtain ⟨hX0, hX1, hX2, hX3⟩ := hX a b kb
    exact rmLS1_4 l Z a0 hw [] a b sa kb ks cs (4 : Int32) (own_bs4 c0 c1 c2 c3) (1 : Int32) (2 : Int32) (2 : Int32) (3 : Int32) (3 : Int32) (4 : Int32) h0 n0 Z0 Sc hcs Ea Fv Fc Vb hX0 hX1 hX2 hX3 (by decide) (by decide) (by decide) (by decide) (by decide) (by decide) Vs gs Es hb
  have hC2 : ∀ (a b : Addr) (kb : ClassId), own_C2 l Z a b kb cs (4 : Int32) (own_bs4 c0 c1 c2 c3) (4 : Int32) [(.int 0), (.int 2), (.int 3), (.int 4), (.int 0), (.int 0), (.int 0), (.int 0)] := fun a b kb sa ks h0 n0 Z0 Sc hcs Ea Fv Fc Vb Vs => by
    obtain ⟨hX0, hX1, hX2, hX3⟩ := hX a b kb
    exact rmLS2_4 l Z a0 hw [] a b sa kb ks cs (4 : Int32) (own_bs4 c0 c1 c2 c3) (2 : Int32) (3 : Int32) (4 : Int32) h0 n0 Z0 Sc hcs Ea Fv Fc Vb hX3 Vs
  exact ⟨(3 : Int32), 3, (130 : Int32), [(0 : Int32), (2 : Int32), (3 : Int32), (4 : Int32), (0 : Int32), (0 : Int32), (0 : Int32), (0 : Int32)], by decide, by decide, by decide, (fun j h0 h1 => own_upto 3 (by decide) h0 h1 (fun j => own_st [(0 : Int32), (2 : Int32), (3 : Int32), (4 : Int32), (0 : Int32), (0 : Int32), (0 : Int32), (0 : Int32)] (0 : Int32) j = own_start4 c0 c1 c2 c3 j) (by simp only [own_start4, if_neg e0, if_pos e1, if_pos e2, if_pos e3]; decide)), ⟨fun q => by simp only [own_nl, if_neg e0, if_pos e1, if_pos e2, if_pos e3]; decide, fun q => absurd e3 q⟩, fun o a b kb h0 n0 Z0 Sc hcs Ea Fv Fc Vb Sf hfm Eo Fm go hbo F1 F2 F3 => rmLI_4_0 l Z a0 hw [] o a b kb cs (own_bs4 c0 c1 c2 c3) fm (4 : Int32) (3 : Int32) c3 (2 : Int32) (3 : Int32) (4 : Int32) h0 n0 Z0 Sc hcs Ea Fv Fc Vb Sf hfm Eo Fm go hbo F1 F2 F3 (hC1 a b kb) (hC2 a b kb) (fun h0 n0 Z0 Sc hcs Ea Fv Fc Vb Sf hfm => rmCA_4 l Z a0 hw [] a b kb _ _ _ c3 cs fm h0 n0 Z0 Sc hcs Ea Fv Fc Vb Sf hfm lo3 hi3) e3 (by decide) (by decide) (by decide)⟩
theorem own_LP_4_1000 (l : Launch) (Z : State) (a0 : Array Value) (hw : ∀ d ∈ tables_1, d.before a0 Z = true) (cs : Int32) (fm : Value) (c0 c1 c2 c3 : Int32) (lo0 : ¬ c0 < (0 : Int32)) (hi0 : ¬ (255 : Int32) < c0) (lo1 : ¬ c1 < (0 : Int32)) (hi1 : ¬ (255 : Int32) < c1) (lo2 : ¬ c2 < (0 : Int32)) (hi2 : ¬ (255 : Int32) < c2) (lo3 : ¬ c3 < (0 : Int32)) (hi3 : ¬ (255 : Int32) < c3) (e0 : c0 = (10 : Int32)) (e1 : ¬ c1 = (10 : Int32)) (e2 : ¬ c2 = (10 : Int32)) (e3 : ¬ c3 = (10 : Int32)) : own_LOK l Z cs (4 : Int32) fm (own_bs4 c0 c1 c2 c3) (own_start4 c0 c1 c2 c3) (fun sz => (c3 = (10 : Int32) → (((((own_nl c0) + (own_nl c1)) + (own_nl c2)) + (own_nl c3)) + (0 : Int32)) = sz) ∧ (¬ c3 = (10 : Int32) → (((((own_nl c0) + (own_nl c1)) + (own_nl c2)) + (own_nl c3)) + (1 : Int32)) = sz)) := by
  have hX : ∀ (a b : Addr) (kb : ClassId), own_CX l Z a b kb cs (4 : Int32) (own_bs4 c0 c1 c2 c3) (0 : Int32) (0 : Int32) ∧ own_CX l Z a b kb cs (4 : Int32) (own_bs4 c0 c1 c2 c3) (1 : Int32) (-1 : Int32) := fun a b kb => ⟨fun h0 n0 Z0 Sc hcs Ea Fv Fc Vb => rmX2 l Z a0 hw [] a b cs (4 : Int32) (0 : Int32) (0 : Int32) h0 n0 Z0 Sc hcs Ea Fv Fc (own_alnV Vb) (by decide) (by decide) (by have q := rmIC_4_0 l Z a0 hw [] b kb _ _ _ _ h0 n0 Z0 Vb; rw [if_pos (own_nlt e0)] at q; exact q), fun h0 n0 Z0 Sc hcs Ea Fv Fc Vb => rmX2 l Z a0 hw [] a b cs (4 : Int32) (1 : Int32) (-1 : Int32) h0 n0 Z0 Sc hcs Ea Fv Fc (own_alnV Vb) (by decide) (by decide) (by have q := rmIC_4_1 l Z a0 hw [] b kb _ _ _ _ h0 n0 Z0 Vb; rw [if_neg (own_nlb lo1 hi1 e1), if_neg (own_nlb lo2 hi2 e2), if_neg (own_nlb lo3 hi3 e3)] at q; exact q)⟩
  have hC1 : ∀ (a b : Addr) (kb : ClassId), own_C1 l Z a b kb cs (4 : Int32) (own_bs4 c0 c1 c2 c3) (2 : Int32) [(.int 0), (.int 1), (.int 0), (.int 0), (.int 0), (.int 0), (.int 0), (.int 0)] := fun a b kb sa ks h0 n0 Z0 Sc hcs Ea Fv Fc Vb Vs gs Es hb => by
    obtain ⟨hX0, hX1⟩ := hX a b kb
    exact rmLS1_2 l Z a0 hw [] a b sa kb ks cs (4 : Int32) (own_bs4 c0 c1 c2 c3) (0 : Int32) (1 : Int32) h0 n0 Z0 Sc hcs Ea Fv Fc Vb hX0 hX1 (by decide) (by decide) Vs gs Es hb
  have hC2 : ∀ (a b : Addr) (kb : ClassId), own_C2 l Z a b kb cs (4 : Int32) (own_bs4 c0 c1 c2 c3) (2 : Int32) [(.int 0), (.int 1), (.int 0), (.int 0), (.int 0), (.int 0), (.int 0), (.int 0)] := fun a b kb sa ks h0 n0 Z0 Sc hcs Ea Fv Fc Vb Vs => by
    obtain ⟨hX0, hX1⟩ := hX a b kb
    exact rmLS2_2 l Z a0 hw [] a b sa kb ks cs (4 : Int32) (own_bs4 c0 c1 c2 c3) (1 : Int32) h0 n0 Z0 Sc hcs Ea Fv Fc Vb hX1 Vs
  exact ⟨(2 : Int32), 2, (130 : Int32), [(0 : Int32), (1 : Int32), (4 : Int32), (0 : Int32), (0 : Int32), (0 : Int32), (0 : Int32), (0 : Int32)], by decide, by decide, by decide, (fun j h0 h1 => own_upto 2 (by decide) h0 h1 (fun j => own_st [(0 : Int32), (1 : Int32), (4 : Int32), (0 : Int32), (0 : Int32), (0 : Int32), (0 : Int32), (0 : Int32)] (0 : Int32) j = own_start4 c0 c1 c2 c3 j) (by simp only [own_start4, if_pos e0, if_neg e1, if_neg e2, if_neg e3]; decide)), ⟨fun q => absurd q e3, fun q => by simp only [own_nl, if_pos e0, if_neg e1, if_neg e2, if_neg e3]; decide⟩, fun o a b kb h0 n0 Z0 Sc hcs Ea Fv Fc Vb Sf hfm Eo Fm go hbo F1 F2 F3 => rmLI_2_1 l Z a0 hw [] o a b kb cs (own_bs4 c0 c1 c2 c3) fm (4 : Int32) (3 : Int32) c3 (1 : Int32) h0 n0 Z0 Sc hcs Ea Fv Fc Vb Sf hfm Eo Fm go hbo F1 F2 F3 (hC1 a b kb) (hC2 a b kb) (fun h0 n0 Z0 Sc hcs Ea Fv Fc Vb Sf hfm => rmCA_4 l Z a0 hw [] a b kb _ _ _ c3 cs fm h0 n0 Z0 Sc hcs Ea Fv Fc Vb Sf hfm lo3 hi3) e3 (by decide) (by decide) (by decide)⟩
theorem own_LP_4_1001 (l : Launch) (Z : State) (a0 : Array Value) (hw : ∀ d ∈ tables_1, d.before a0 Z = true) (cs : Int32) (fm : Value) (c0 c1 c2 c3 : Int32) (lo0 : ¬ c0 < (0 : Int32)) (hi0 : ¬ (255 : Int32) < c0) (lo1 : ¬ c1 < (0 : Int32)) (hi1 : ¬ (255 : Int32) < c1) (lo2 : ¬ c2 < (0 : Int32)) (hi2 : ¬ (255 : Int32) < c2) (lo3 : ¬ c3 < (0 : Int32)) (hi3 : ¬ (255 : Int32) < c3) (e0 : c0 = (10 : Int32)) (e1 : ¬ c1 = (10 : Int32)) (e2 : ¬ c2 = (10 : Int32)) (e3 : c3 = (10 : Int32)) : own_LOK l Z cs (4 : Int32) fm (own_bs4 c0 c1 c2 c3) (own_start4 c0 c1 c2 c3) (fun sz => (c3 = (10 : Int32) → (((((own_nl c0) + (own_nl c1)) + (own_nl c2)) + (own_nl c3)) + (0 : Int32)) = sz) ∧ (¬ c3 = (10 : Int32) → (((((own_nl c0) + (own_nl c1)) + (own_nl c2)) + (own_nl c3)) + (1 : Int32)) = sz)) := by
  have hX : ∀ (a b : Addr) (kb : ClassId), own_CX l Z a b kb cs (4 : Int32) (own_bs4 c0 c1 c2 c3) (0 : Int32) (0 : Int32) ∧ own_CX l Z a b kb cs (4 : Int32) (own_bs4 c0 c1 c2 c3) (1 : Int32) (3 : Int32) ∧ own_CX l Z a b kb cs (4 : Int32) (own_bs4 c0 c1 c2 c3) (4 : Int32) (-1 : Int32) := fun a b kb => ⟨fun h0 n0 Z0 Sc hcs Ea Fv Fc Vb => rmX2 l Z a0 hw [] a b cs (4 : Int32) (0 : Int32) (0 : Int32) h0 n0 Z0 Sc hcs Ea Fv Fc (own_alnV Vb) (by decide) (by decide) (by have q := rmIC_4_0 l Z a0 hw [] b kb _ _ _ _ h0 n0 Z0 Vb; rw [if_pos (own_nlt e0)] at q; exact q), fun h0 n0 Z0 Sc hcs Ea Fv Fc Vb => rmX2 l Z a0 hw [] a b cs (4 : Int32) (1 : Int32) (3 : Int32) h0 n0 Z0 Sc hcs Ea Fv Fc (own_alnV Vb) (by decide) (by decide) (by have q := rmIC_4_1 l Z a0 hw [] b kb _ _ _ _ h0 n0 Z0 Vb; rw [if_neg (own_nlb lo1 hi1 e1), if_neg (own_nlb lo2 hi2 e2), if_pos (own_nlt e3)] at q; exact q), fun h0 n0 Z0 Sc hcs Ea Fv Fc Vb => rmX2e l Z a0 hw [] a b cs (4 : Int32) h0 n0 Z0 Sc hcs Ea Fv Fc (own_alnV Vb) (by decide)⟩
  have hC1 : ∀ (a b : Addr) (kb : ClassId), own_C1 l Z a b kb cs (4 : Int32) (own_bs4 c0 c1 c2 c3) (3 : Int32) [(.int 0), (.int 1), (.int 4), (.int 0), (.int 0), (.int 0), (.int 0), (.int 0)] := fun a b kb sa ks h0 n0 Z0 Sc hcs Ea Fv Fc Vb Vs gs Es hb => by
    obtain ⟨hX0, hX1, hX2⟩ := hX a b kb
    exact rmLS1_3 l Z a0 hw [] a b sa kb ks cs (4 : Int32) (own_bs4 c0 c1 c2 c3) (0 : Int32) (1 : Int32) (3 : Int32) (4 : Int32) h0 n0 Z0 Sc hcs Ea Fv Fc Vb hX0 hX1 hX2 (by decide) (by decide) (by decide) (by decide) Vs gs Es hb
  have hC2 : ∀ (a b : Addr) (kb : ClassId), own_C2 l Z a b kb cs (4 : Int32) (own_bs4 c0 c1 c2 c3) (3 : Int32) [(.int 0), (.int 1), (.int 4), (.int 0), (.int 0), (.int 0), (.int 0), (.int 0)] := fun a b kb sa ks h0 n0 Z0 Sc hcs Ea Fv Fc Vb Vs => by
    obtain ⟨hX0, hX1, hX2⟩ := hX a b kb
    exact rmLS2_3 l Z a0 hw [] a b sa kb ks cs (4 : Int32) (own_bs4 c0 c1 c2 c3) (1 : Int32) (4 : Int32) h0 n0 Z0 Sc hcs Ea Fv Fc Vb hX2 Vs
  exact ⟨(2 : Int32), 2, (130 : Int32), [(0 : Int32), (1 : Int32), (4 : Int32), (0 : Int32), (0 : Int32), (0 : Int32), (0 : Int32), (0 : Int32)], by decide, by decide, by decide, (fun j h0 h1 => own_upto 2 (by decide) h0 h1 (fun j => own_st [(0 : Int32), (1 : Int32), (4 : Int32), (0 : Int32), (0 : Int32), (0 : Int32), (0 : Int32), (0 : Int32)] (0 : Int32) j = own_start4 c0 c1 c2 c3 j) (by simp only [own_start4, if_pos e0, if_neg e1, if_neg e2, if_pos e3]; decide)), ⟨fun q => by simp only [own_nl, if_pos e0, if_neg e1, if_neg e2, if_pos e3]; decide, fun q => absurd e3 q⟩, fun o a b kb h0 n0 Z0 Sc hcs Ea Fv Fc Vb Sf hfm Eo Fm go hbo F1 F2 F3 => rmLI_3_0 l Z a0 hw [] o a b kb cs (own_bs4 c0 c1 c2 c3) fm (4 : Int32) (3 : Int32) c3 (1 : Int32) (4 : Int32) h0 n0 Z0 Sc hcs Ea Fv Fc Vb Sf hfm Eo Fm go hbo F1 F2 F3 (hC1 a b kb) (hC2 a b kb) (fun h0 n0 Z0 Sc hcs Ea Fv Fc Vb Sf hfm => rmCA_4 l Z a0 hw [] a b kb _ _ _ c3 cs fm h0 n0 Z0 Sc hcs Ea Fv Fc Vb Sf hfm lo3 hi3) e3 (by decide) (by decide) (by decide)⟩
theorem own_LP_4_1010 (l : Launch) (Z : State) (a0 : Array Value) (hw : ∀ d ∈ tables_1, d.before a0 Z = true) (cs : Int32) (fm : Value) (c0 c1 c2 c3 : Int32) (lo0 : ¬ c0 < (0 : Int32)) (hi0 : ¬ (255 : Int32) < c0) (lo1 : ¬ c1 < (0 : Int32)) (hi1 : ¬ (255 : Int32) < c1) (lo2 : ¬ c2 < (0 : Int32)) (hi2 : ¬ (255 : Int32) < c2) (lo3 : ¬ c3 < (0 : Int32)) (hi3 : ¬ (255 : Int32) < c3) (e0 : c0 = (10 : Int32)) (e1 : ¬ c1 = (10 : Int32)) (e2 : c2 = (10 : Int32)) (e3 : ¬ c3 = (10 : Int32)) : own_LOK l Z cs (4 : Int32) fm (own_bs4 c0 c1 c2 c3) (own_start4 c0 c1 c2 c3) (fun sz => (c3 = (10 : Int32) → (((((own_nl c0) + (own_nl c1)) + (own_nl c2)) + (own_nl c3)) + (0 : Int32)) = sz) ∧ (¬ c3 = (10 : Int32) → (((((own_nl c0) + (own_nl c1)) + (own_nl c2)) + (own_nl c3)) + (1 : Int32)) = sz)) := by
  have hX : ∀ (a b : Addr) (kb : ClassId), own_CX l Z a b kb cs (4 : Int32) (own_bs4 c0 c1 c2 c3) (0 : Int32) (0 : Int32) ∧ own_CX l Z a b kb cs (4 : Int32) (own_bs4 c0 c1 c2 c3) (1 : Int32) (2 : Int32) ∧ own_CX l Z a b kb cs (4 : Int32) (own_bs4 c0 c1 c2 c3) (3 : Int32) (-1 : Int32) := fun a b kb => ⟨fun h0 n0 Z0 Sc hcs Ea Fv Fc Vb => rmX2 l Z a0 hw [] a b cs (4 : Int32) (0 : Int32) (0 : Int32) h0 n0 Z0 Sc hcs Ea Fv Fc (own_alnV Vb) (by decide) (by decide) (by have q := rmIC_4_0 l Z a0 hw [] b kb _ _ _ _ h0 n0 Z0 Vb; rw [if_pos (own_nlt e0)] at q; exact q), fun h0 n0 Z0 Sc hcs Ea Fv Fc Vb => rmX2 l Z a0 hw [] a b cs (4 : Int32) (1 : Int32) (2 : Int32) h0 n0 Z0 Sc hcs Ea Fv Fc (own_alnV Vb) (by decide) (by decide) (by have q := rmIC_4_1 l Z a0 hw [] b kb _ _ _ _ h0 n0 Z0 Vb; rw [if_neg (own_nlb lo1 hi1 e1), if_pos (own_nlt e2)] at q; exact q), fun h0 n0 Z0 Sc hcs Ea Fv Fc Vb => rmX2 l Z a0 hw [] a b cs (4 : Int32) (3 : Int32) (-1 : Int32) h0 n0 Z0 Sc hcs Ea Fv Fc (own_alnV Vb) (by decide) (by decide) (by have q := rmIC_4_3 l Z a0 hw [] b kb _ _ _ _ h0 n0 Z0 Vb; rw [if_neg (own_nlb lo3 hi3 e3)] at q; exact q)⟩
  have hC1 : ∀ (a b : Addr) (kb : ClassId), own_C1 l Z a b kb cs (4 : Int32) (own_bs4 c0 c1 c2 c3) (3 : Int32) [(.int 0), (.int 1), (.int 3), (.int 0), (.int 0), (.int 0), (.int 0), (.int 0)] := fun a b kb sa ks h0 n0 Z0 Sc hcs Ea Fv Fc Vb Vs gs Es hb => by
    obtain ⟨hX0, hX1, hX2⟩ := hX a b kb
    exact rmLS1_3 l Z a0 hw [] a b sa kb ks cs (4 : Int32) (own_bs4 c0 c1 c2 c3) (0 : Int32) (1 : Int32) (2 : Int32) (3 : Int32) h0 n0 Z0 Sc hcs Ea Fv Fc Vb hX0 hX1 hX2 (by decide) (by decide) (by decide) (by decide) Vs gs Es hb
  have hC2 : ∀ (a b : Addr) (kb : ClassId), own_C2 l Z a b kb cs (4 : Int32) (own_bs4 c0 c1 c2 c3) (3 : Int32) [(.int 0), (.int 1), (.int 3), (.int 0), (.int 0), (.int 0), (.int 0), (.int 0)] := fun a b kb sa ks h0 n0 Z0 Sc hcs Ea Fv Fc Vb Vs => by
    obtain ⟨hX0, hX1, hX2⟩ := hX a b kb
    exact rmLS2_3 l Z a0 hw [] a b sa kb ks cs (4 : Int32) (own_bs4 c0 c1 c2 c3) (1 : Int32) (3 : Int32) h0 n0 Z0 Sc hcs Ea Fv Fc Vb hX2 Vs
  exact ⟨(3 : Int32), 3, (130 : Int32), [(0 : Int32), (1 : Int32), (3 : Int32), (4 : Int32), (0 : Int32), (0 : Int32), (0 : Int32), (0 : Int32)], by decide, by decide, by decide, (fun j h0 h1 => own_upto 3 (by decide) h0 h1 (fun j => own_st [(0 : Int32), (1 : Int32), (3 : Int32), (4 : Int32), (0 : Int32), (0 : Int32), (0 : Int32), (0 : Int32)] (0 : Int32) j = own_start4 c0 c1 c2 c3 j) (by simp only [own_start4, if_pos e0, if_neg e1, if_pos e2, if_neg e3]; decide)), ⟨fun q => absurd q e3, fun q => by simp only [own_nl, if_pos e0, if_neg e1, if_pos e2, if_neg e3]; decide⟩, fun o a b kb h0 n0 Z0 Sc hcs Ea Fv Fc Vb Sf hfm Eo Fm go hbo F1 F2 F3 => rmLI_3_1 l Z a0 hw [] o a b kb cs (own_bs4 c0 c1 c2 c3) fm (4 : Int32) (3 : Int32) c3 (1 : Int32) (3 : Int32) h0 n0 Z0 Sc hcs Ea Fv Fc Vb Sf hfm Eo Fm go hbo F1 F2 F3 (hC1 a b kb) (hC2 a b kb) (fun h0 n0 Z0 Sc hcs Ea Fv Fc Vb Sf hfm => rmCA_4 l Z a0 hw [] a b kb _ _ _ c3 cs fm h0 n0 Z0 Sc hcs Ea Fv Fc Vb Sf hfm lo3 hi3) e3 (by decide) (by decide) (by decide)⟩
theorem own_LP_4_1011 (l : Launch) (Z : State) (a0 : Array Value) (hw : ∀ d ∈ tables_1, d.before a0 Z = true) (cs : Int32) (fm : Value) (c0 c1 c2 c3 : Int32) (lo0 : ¬ c0 < (0 : Int32)) (hi0 : ¬ (255 : Int32) < c0) (lo1 : ¬ c1 < (0 : Int32)) (hi1 : ¬ (255 : Int32) < c1) (lo2 : ¬ c2 < (0 : Int32)) (hi2 : ¬ (255 : Int32) < c2) (lo3 : ¬ c3 < (0 : Int32)) (hi3 : ¬ (255 : Int32) < c3) (e0 : c0 = (10 : Int32)) (e1 : ¬ c1 = (10 : Int32)) (e2 : c2 = (10 : Int32)) (e3 : c3 = (10 : Int32)) : own_LOK l Z cs (4 : Int32) fm (own_bs4 c0 c1 c2 c3) (own_start4 c0 c1 c2 c3) (fun sz => (c3 = (10 : Int32) → (((((own_nl c0) + (own_nl c1)) + (own_nl c2)) + (own_nl c3)) + (0 : Int32)) = sz) ∧ (¬ c3 = (10 : Int32) → (((((own_nl c0) + (own_nl c1)) + (own_nl c2)) + (own_nl c3)) + (1 : Int32)) = sz)) := by
  have hX : ∀ (a b : Addr) (kb : ClassId), own_CX l Z a b kb cs (4 : Int32) (own_bs4 c0 c1 c2 c3) (0 : Int32) (0 : Int32) ∧ own_CX l Z a b kb cs (4 : Int32) (own_bs4 c0 c1 c2 c3) (1 : Int32) (2 : Int32) ∧ own_CX l Z a b kb cs (4 : Int32) (own_bs4 c0 c1 c2 c3) (3 : Int32) (3 : Int32) ∧ own_CX l Z a b kb cs (4 : Int32) (own_bs4 c0 c1 c2 c3) (4 : Int32) (-1 : Int32) := fun a b kb => ⟨fun h0 n0 Z0 Sc hcs Ea Fv Fc Vb => rmX2 l Z a0 hw [] a b cs (4 : Int32) (0 : Int32) (0 : Int32) h0 n0 Z0 Sc hcs Ea Fv Fc (own_alnV Vb) (by decide) (by decide) (by have q := rmIC_4_0 l Z a0 hw [] b kb _ _ _ _ h0 n0 Z0 Vb; rw [if_pos (own_nlt e0)] at q; exact q), fun h0 n0 Z0 Sc hcs Ea Fv Fc Vb => rmX2 l Z a0 hw [] a b cs (4 : Int32) (1 : Int32) (2 : Int32) h0 n0 Z0 Sc hcs Ea Fv Fc (own_alnV Vb) (by decide) (by decide) (by have q := rmIC_4_1 l Z a0 hw [] b kb _ _ _ _ h0 n0 Z0 Vb; rw [if_neg (own_nlb lo1 hi1 e1), if_pos (own_nlt e2)] at q; exact q), fun h0 n0 Z0 Sc hcs Ea Fv Fc Vb => rmX2 l Z a0 hw [] a b cs (4 : Int32) (3 : Int32) (3 : Int32) h0 n0 Z0 Sc hcs Ea Fv Fc (own_alnV Vb) (by decide) (by decide) (by have q := rmIC_4_3 l Z a0 hw [] b kb _ _ _ _ h0 n0 Z0 Vb; rw [if_pos (own_nlt e3)] at q; exact q), fun h0 n0 Z0 Sc hcs Ea Fv Fc Vb => rmX2e l Z a0 hw [] a b cs (4 : Int32) h0 n0 Z0 Sc hcs Ea Fv Fc (own_alnV Vb) (by decide)⟩
  have hC1 : ∀ (a b : Addr) (kb : ClassId), own_C1 l Z a b kb cs (4 : Int32) (own_bs4 c0 c1 c2 c3) (4 : Int32) [(.int 0), (.int 1), (.int 3), (.int 4), (.int 0), (.int 0), (.int 0), (.int 0)] := fun a b kb sa ks h0 n0 Z0 Sc hcs Ea Fv Fc Vb Vs gs Es hb => by
    obtain ⟨hX0, hX1, hX2, hX3⟩ := hX a b kb
    exact rmLS1_4 l Z a0 hw [] a b sa kb ks cs (4 : Int32) (own_bs4 c0 c1 c2 c3) (0 : Int32) (1 : Int32) (2 : Int32) (3 : Int32) (3 : Int32) (4 : Int32) h0 n0 Z0 Sc hcs Ea Fv Fc Vb hX0 hX1 hX2 hX3 (by decide) (by decide) (by decide) (by decide) (by decide) (by decide) Vs gs Es hb
  have hC2 : ∀ (a b : Addr) (kb : ClassId), own_C2 l Z a b kb cs (4 : Int32) (own_bs4 c0 c1 c2 c3) (4 : Int32) [(.int 0), (.int 1), (.int 3), (.int 4), (.int 0), (.int 0), (.int 0), (.int 0)] := fun a b kb sa ks h0 n0 Z0 Sc hcs Ea Fv Fc Vb Vs => by
    obtain ⟨hX0, hX1, hX2, hX3⟩ := hX a b kb
    exact rmLS2_4 l Z a0 hw [] a b sa kb ks cs (4 : Int32) (own_bs4 c0 c1 c2 c3) (1 : Int32) (3 : Int32) (4 : Int32) h0 n0 Z0 Sc hcs Ea Fv Fc Vb hX3 Vs
  exact ⟨(3 : Int32), 3, (130 : Int32), [(0 : Int32), (1 : Int32), (3 : Int32), (4 : Int32), (0 : Int32), (0 : Int32), (0 : Int32), (0 : Int32)], by decide, by decide, by decide, (fun j h0 h1 => own_upto 3 (by decide) h0 h1 (fun j => own_st [(0 : Int32), (1 : Int32), (3 : Int32), (4 : Int32), (0 : Int32), (0 : Int32), (0 : Int32), (0 : Int32)] (0 : Int32) j = own_start4 c0 c1 c2 c3 j) (by simp only [own_start4, if_pos e0, if_neg e1, if_pos e2, if_pos e3]; decide)), ⟨fun q => by simp only [own_nl, if_pos e0, if_neg e1, if_pos e2, if_pos e3]; decide, fun q => absurd e3 q⟩, fun o a b kb h0 n0 Z0 Sc hcs Ea Fv Fc Vb Sf hfm Eo Fm go hbo F1 F2 F3 => rmLI_4_0 l Z a0 hw [] o a b kb cs (own_bs4 c0 c1 c2 c3) fm (4 : Int32) (3 : Int32) c3 (1 : Int32) (3 : Int32) (4 : Int32) h0 n0 Z0 Sc hcs Ea Fv Fc Vb Sf hfm Eo Fm go hbo F1 F2 F3 (hC1 a b kb) (hC2 a b kb) (fun h0 n0 Z0 Sc hcs Ea Fv Fc Vb Sf hfm => rmCA_4 l Z a0 hw [] a b kb _ _ _ c3 cs fm h0 n0 Z0 Sc hcs Ea Fv Fc Vb Sf hfm lo3 hi3) e3 (by decide) (by decide) (by decide)⟩
theorem own_LP_4_1100 (l : Launch) (Z : State) (a0 : Array Value) (hw : ∀ d ∈ tables_1, d.before a0 Z = true) (cs : Int32) (fm : Value) (c0 c1 c2 c3 : Int32) (lo0 : ¬ c0 < (0 : Int32)) (hi0 : ¬ (255 : Int32) < c0) (lo1 : ¬ c1 < (0 : Int32)) (hi1 : ¬ (255 : Int32) < c1) (lo2 : ¬ c2 < (0 : Int32)) (hi2 : ¬ (255 : Int32) < c2) (lo3 : ¬ c3 < (0 : Int32)) (hi3 : ¬ (255 : Int32) < c3) (e0 : c0 = (10 : Int32)) (e1 : c1 = (10 : Int32)) (e2 : ¬ c2 = (10 : Int32)) (e3 : ¬ c3 = (10 : Int32)) : own_LOK l Z cs (4 : Int32) fm (own_bs4 c0 c1 c2 c3) (own_start4 c0 c1 c2 c3) (fun sz => (c3 = (10 : Int32) → (((((own_nl c0) + (own_nl c1)) + (own_nl c2)) + (own_nl c3)) + (0 : Int32)) = sz) ∧ (¬ c3 = (10 : Int32) → (((((own_nl c0) + (own_nl c1)) + (own_nl c2)) + (own_nl c3)) + (1 : Int32)) = sz)) := by
  have hX : ∀ (a b : Addr) (kb : ClassId), own_CX l Z a b kb cs (4 : Int32) (own_bs4 c0 c1 c2 c3) (0 : Int32) (0 : Int32) ∧ own_CX l Z a b kb cs (4 : Int32) (own_bs4 c0 c1 c2 c3) (1 : Int32) (1 : Int32) ∧ own_CX l Z a b kb cs (4 : Int32) (own_bs4 c0 c1 c2 c3) (2 : Int32) (-1 : Int32) := fun a b kb => ⟨fun h0 n0 Z0 Sc hcs Ea Fv Fc Vb => rmX2 l Z a0 hw [] a b cs (4 : Int32) (0 : Int32) (0 : Int32) h0 n0 Z0 Sc hcs Ea Fv Fc (own_alnV Vb) (by decide) (by decide) (by have q := rmIC_4_0 l Z a0 hw [] b kb _ _ _ _ h0 n0 Z0 Vb; rw [if_pos (own_nlt e0)] at q; exact q), fun h0 n0 Z0 Sc hcs Ea Fv Fc Vb => rmX2 l Z a0 hw [] a b cs (4 : Int32) (1 : Int32) (1 : Int32) h0 n0 Z0 Sc hcs Ea Fv Fc (own_alnV Vb) (by decide) (by decide) (by have q := rmIC_4_1 l Z a0 hw [] b kb _ _ _ _ h0 n0 Z0 Vb; rw [if_pos (own_nlt e1)] at q; exact q), fun h0 n0 Z0 Sc hcs Ea Fv Fc Vb => rmX2 l Z a0 hw [] a b cs (4 : Int32) (2 : Int32) (-1 : Int32) h0 n0 Z0 Sc hcs Ea Fv Fc (own_alnV Vb) (by decide) (by decide) (by have q := rmIC_4_2 l Z a0 hw [] b kb _ _ _ _ h0 n0 Z0 Vb; rw [if_neg (own_nlb lo2 hi2 e2), if_neg (own_nlb lo3 hi3 e3)] at q; exact q)⟩
  have hC1 : ∀ (a b : Addr) (kb : ClassId), own_C1 l Z a b kb cs (4 : Int32) (own_bs4 c0 c1 c2 c3) (3 : Int32) [(.int 0), (.int 1), (.int 2), (.int 0), (.int 0), (.int 0), (.int 0), (.int 0)] := fun a b kb sa ks h0 n0 Z0 Sc hcs Ea Fv Fc Vb Vs gs Es hb => by
    obtain ⟨hX0, hX1, hX2⟩ := hX a b kb
    exact rmLS1_3 l Z a0 hw [] a b sa kb ks cs (4 : Int32) (own_bs4 c0 c1 c2 c3) (0 : Int32) (1 : Int32) (1 : Int32) (2 : Int32) h0 n0 Z0 Sc hcs Ea Fv Fc Vb hX0 hX1 hX2 (by decide) (by decide) (by decide) (by decide) Vs gs Es hb
  have hC2 : ∀ (a b : Addr) (kb : ClassId), own_C2 l Z a b kb cs (4 : Int32) (own_bs4 c0 c1 c2 c3) (3 : Int32) [(.int 0), (.int 1), (.int 2), (.int 0), (.int 0), (.int 0), (.int 0), (.int 0)] := fun a b kb sa ks h0 n0 Z0 Sc hcs Ea Fv Fc Vb Vs => by
    obtain ⟨hX0, hX1, hX2⟩ := hX a b kb
    exact rmLS2_3 l Z a0 hw [] a b sa kb ks cs (4 : Int32) (own_bs4 c0 c1 c2 c3) (1 : Int32) (2 : Int32) h0 n0 Z0 Sc hcs Ea Fv Fc Vb hX2 Vs
  exact ⟨(3 : Int32), 3, (130 : Int32), [(0 : Int32), (1 : Int32), (2 : Int32), (4 : Int32), (0 : Int32), (0 : Int32), (0 : Int32), (0 : Int32)], by decide, by decide, by decide, (fun j h0 h1 => own_upto 3 (by decide) h0 h1 (fun j => own_st [(0 : Int32), (1 : Int32), (2 : Int32), (4 : Int32), (0 : Int32), (0 : Int32), (0 : Int32), (0 : Int32)] (0 : Int32) j = own_start4 c0 c1 c2 c3 j) (by simp only [own_start4, if_pos e0, if_pos e1, if_neg e2, if_neg e3]; decide)), ⟨fun q => absurd q e3, fun q => by simp only [own_nl, if_pos e0, if_pos e1, if_neg e2, if_neg e3]; decide⟩, fun o a b kb h0 n0 Z0 Sc hcs Ea Fv Fc Vb Sf hfm Eo Fm go hbo F1 F2 F3 => rmLI_3_1 l Z a0 hw [] o a b kb cs (own_bs4 c0 c1 c2 c3) fm (4 : Int32) (3 : Int32) c3 (1 : Int32) (2 : Int32) h0 n0 Z0 Sc hcs Ea Fv Fc Vb Sf hfm Eo Fm go hbo F1 F2 F3 (hC1 a b kb) (hC2 a b kb) (fun h0 n0 Z0 Sc hcs Ea Fv Fc Vb Sf hfm => rmCA_4 l Z a0 hw [] a b kb _ _ _ c3 cs fm h0 n0 Z0 Sc hcs Ea Fv Fc Vb Sf hfm lo3 hi3) e3 (by decide) (by decide) (by decide)⟩
theorem own_LP_4_1101 (l : Launch) (Z : State) (a0 : Array Value) (hw : ∀ d ∈ tables_1, d.before a0 Z = true) (cs : Int32) (fm : Value) (c0 c1 c2 c3 : Int32) (lo0 : ¬ c0 < (0 : Int32)) (hi0 : ¬ (255 : Int32) < c0) (lo1 : ¬ c1 < (0 : Int32)) (hi1 : ¬ (255 : Int32) < c1) (lo2 : ¬ c2 < (0 : Int32)) (hi2 : ¬ (255 : Int32) < c2) (lo3 : ¬ c3 < (0 : Int32)) (hi3 : ¬ (255 : Int32) < c3) (e0 : c0 = (10 : Int32)) (e1 : c1 = (10 : Int32)) (e2 : ¬ c2 = (10 : Int32)) (e3 : c3 = (10 : Int32)) : own_LOK l Z cs (4 : Int32) fm (own_bs4 c0 c1 c2 c3) (own_start4 c0 c1 c2 c3) (fun sz => (c3 = (10 : Int32) → (((((own_nl c0) + (own_nl c1)) + (own_nl c2)) + (own_nl c3)) + (0 : Int32)) = sz) ∧ (¬ c3 = (10 : Int32) → (((((own_nl c0) + (own_nl c1)) + (own_nl c2)) + (own_nl c3)) + (1 : Int32)) = sz)) := by
  have hX : ∀ (a b : Addr) (kb : ClassId), own_CX l Z a b kb cs (4 : Int32) (own_bs4 c0 c1 c2 c3) (0 : Int32) (0 : Int32) ∧ own_CX l Z a b kb cs (4 : Int32) (own_bs4 c0 c1 c2 c3) (1 : Int32) (1 : Int32) ∧ own_CX l Z a b kb cs (4 : Int32) (own_bs4 c0 c1 c2 c3) (2 : Int32) (3 : Int32) ∧ own_CX l Z a b kb cs (4 : Int32) (own_bs4 c0 c1 c2 c3) (4 : Int32) (-1 : Int32) := fun a b kb => ⟨fun h0 n0 Z0 Sc hcs Ea Fv Fc Vb => rmX2 l Z a0 hw [] a b cs (4 : Int32) (0 : Int32) (0 : Int32) h0 n0 Z0 Sc hcs Ea Fv Fc (own_alnV Vb) (by decide) (by decide) (by have q := rmIC_4_0 l Z a0 hw [] b kb _ _ _ _ h0 n0 Z0 Vb; rw [if_pos (own_nlt e0)] at q; exact q), fun h0 n0 Z0 Sc hcs Ea Fv Fc Vb => rmX2 l Z a0 hw [] a b cs (4 : Int32) (1 : Int32) (1 : Int32) h0 n0 Z0 Sc hcs Ea Fv Fc (own_alnV Vb) (by decide) (by decide) (by have q := rmIC_4_1 l Z a0 hw [] b kb _ _ _ _ h0 n0 Z0 Vb; rw [if_pos (own_nlt e1)] at q; exact q), fun h0 n0 Z0 Sc hcs Ea Fv Fc Vb => rmX2 l Z a0 hw [] a b cs (4 : Int32) (2 : Int32) (3 : Int32) h0 n0 Z0 Sc hcs Ea Fv Fc (own_alnV Vb) (by decide) (by decide) (by have q := rmIC_4_2 l Z a0 hw [] b kb _ _ _ _ h0 n0 Z0 Vb; rw [if_neg (own_nlb lo2 hi2 e2), if_pos (own_nlt e3)] at q; exact q), fun h0 n0 Z0 Sc hcs Ea Fv Fc Vb => rmX2e l Z a0 hw [] a b cs (4 : Int32) h0 n0 Z0 Sc hcs Ea Fv Fc (own_alnV Vb) (by decide)⟩
  have hC1 : ∀ (a b : Addr) (kb : ClassId), own_C1 l Z a b kb cs (4 : Int32) (own_bs4 c0 c1 c2 c3) (4 : Int32) [(.int 0), (.int 1), (.int 2), (.int 4), (.int 0), (.int 0), (.int 0), (.int 0)] := fun a b kb sa ks h0 n0 Z0 Sc hcs Ea Fv Fc Vb Vs gs Es hb => by
    obtain ⟨hX0, hX1, hX2, hX3⟩ := hX a b kb
    exact rmLS1_4 l Z a0 hw [] a b sa kb ks cs (4 : Int32) (own_bs4 c0 c1 c2 c3) (0 : Int32) (1 : Int32) (1 : Int32) (2 : Int32) (3 : Int32) (4 : Int32) h0 n0 Z0 Sc hcs Ea Fv Fc Vb hX0 hX1 hX2 hX3 (by decide) (by decide) (by decide) (by decide) (by decide) (by decide) Vs gs Es hb
  have hC2 : ∀ (a b : Addr) (kb : ClassId), own_C2 l Z a b kb cs (4 : Int32) (own_bs4 c0 c1 c2 c3) (4 : Int32) [(.int 0), (.int 1), (.int 2), (.int 4), (.int 0), (.int 0), (.int 0), (.int 0)] := fun a b kb sa ks h0 n0 Z0 Sc hcs Ea Fv Fc Vb Vs => by
    obtain ⟨hX0, hX1, hX2, hX3⟩ := hX a b kb
    exact rmLS2_4 l Z a0 hw [] a b sa kb ks cs (4 : Int32) (own_bs4 c0 c1 c2 c3) (1 : Int32) (2 : Int32) (4 : Int32) h0 n0 Z0 Sc hcs Ea Fv Fc Vb hX3 Vs
  exact ⟨(3 : Int32), 3, (130 : Int32), [(0 : Int32), (1 : Int32), (2 : Int32), (4 : Int32), (0 : Int32), (0 : Int32), (0 : Int32), (0 : Int32)], by decide, by decide, by decide, (fun j h0 h1 => own_upto 3 (by decide) h0 h1 (fun j => own_st [(0 : Int32), (1 : Int32), (2 : Int32), (4 : Int32), (0 : Int32), (0 : Int32), (0 : Int32), (0 : Int32)] (0 : Int32) j = own_start4 c0 c1 c2 c3 j) (by simp only [own_start4, if_pos e0, if_pos e1, if_neg e2, if_pos e3]; decide)), ⟨fun q => by simp only [own_nl, if_pos e0, if_pos e1, if_neg e2, if_pos e3]; decide, fun q => absurd e3 q⟩, fun o a b kb h0 n0 Z0 Sc hcs Ea Fv Fc Vb Sf hfm Eo Fm go hbo F1 F2 F3 => rmLI_4_0 l Z a0 hw [] o a b kb cs (own_bs4 c0 c1 c2 c3) fm (4 : Int32) (3 : Int32) c3 (1 : Int32) (2 : Int32) (4 : Int32) h0 n0 Z0 Sc hcs Ea Fv Fc Vb Sf hfm Eo Fm go hbo F1 F2 F3 (hC1 a b kb) (hC2 a b kb) (fun h0 n0 Z0 Sc hcs Ea Fv Fc Vb Sf hfm => rmCA_4 l Z a0 hw [] a b kb _ _ _ c3 cs fm h0 n0 Z0 Sc hcs Ea Fv Fc Vb Sf hfm lo3 hi3) e3 (by decide) (by decide) (by decide)⟩
theorem own_LP_4_1110 (l : Launch) (Z : State) (a0 : Array Value) (hw : ∀ d ∈ tables_1, d.before a0 Z = true) (cs : Int32) (fm : Value) (c0 c1 c2 c3 : Int32) (lo0 : ¬ c0 < (0 : Int32)) (hi0 : ¬ (255 : Int32) < c0) (lo1 : ¬ c1 < (0 : Int32)) (hi1 : ¬ (255 : Int32) < c1) (lo2 : ¬ c2 < (0 : Int32)) (hi2 : ¬ (255 : Int32) < c2) (lo3 : ¬ c3 < (0 : Int32)) (hi3 : ¬ (255 : Int32) < c3) (e0 : c0 = (10 : Int32)) (e1 : c1 = (10 : Int32)) (e2 : c2 = (10 : Int32)) (e3 : ¬ c3 = (10 : Int32)) : own_LOK l Z cs (4 : Int32) fm (own_bs4 c0 c1 c2 c3) (own_start4 c0 c1 c2 c3) (fun sz => (c3 = (10 : Int32) → (((((own_nl c0) + (own_nl c1)) + (own_nl c2)) + (own_nl c3)) + (0 : Int32)) = sz) ∧ (¬ c3 = (10 : Int32) → (((((own_nl c0) + (own_nl c1)) + (own_nl c2)) + (own_nl c3)) + (1 : Int32)) = sz)) := by
  have hX : ∀ (a b : Addr) (kb : ClassId), own_CX l Z a b kb cs (4 : Int32) (own_bs4 c0 c1 c2 c3) (0 : Int32) (0 : Int32) ∧ own_CX l Z a b kb cs (4 : Int32) (own_bs4 c0 c1 c2 c3) (1 : Int32) (1 : Int32) ∧ own_CX l Z a b kb cs (4 : Int32) (own_bs4 c0 c1 c2 c3) (2 : Int32) (2 : Int32) ∧ own_CX l Z a b kb cs (4 : Int32) (own_bs4 c0 c1 c2 c3) (3 : Int32) (-1 : Int32) := fun a b kb => ⟨fun h0 n0 Z0 Sc hcs Ea Fv Fc Vb => rmX2 l Z a0 hw [] a b cs (4 : Int32) (0 : Int32) (0 : Int32) h0 n0 Z0 Sc hcs Ea Fv Fc (own_alnV Vb) (by decide) (by decide) (by have q := rmIC_4_0 l Z a0 hw [] b kb _ _ _ _ h0 n0 Z0 Vb; rw [if_pos (own_nlt e0)] at q; exact q), fun h0 n0 Z0 Sc hcs Ea Fv Fc Vb => rmX2 l Z a0 hw [] a b cs (4 : Int32) (1 : Int32) (1 : Int32) h0 n0 Z0 Sc hcs Ea Fv Fc (own_alnV Vb) (by decide) (by decide) (by have q := rmIC_4_1 l Z a0 hw [] b kb _ _ _ _ h0 n0 Z0 Vb; rw [if_pos (own_nlt e1)] at q; exact q), fun h0 n0 Z0 Sc hcs Ea Fv Fc Vb => rmX2 l Z a0 hw [] a b cs (4 : Int32) (2 : Int32) (2 : Int32) h0 n0 Z0 Sc hcs Ea Fv Fc (own_alnV Vb) (by decide) (by decide) (by have q := rmIC_4_2 l Z a0 hw [] b kb _ _ _ _ h0 n0 Z0 Vb; rw [if_pos (own_nlt e2)] at q; exact q), fun h0 n0 Z0 Sc hcs Ea Fv Fc Vb => rmX2 l Z a0 hw [] a b cs (4 : Int32) (3 : Int32) (-1 : Int32) h0 n0 Z0 Sc hcs Ea Fv Fc (own_alnV Vb) (by decide) (by decide) (by have q := rmIC_4_3 l Z a0 hw [] b kb _ _ _ _ h0 n0 Z0 Vb; rw [if_neg (own_nlb lo3 hi3 e3)] at q; exact q)⟩
  have hC1 : ∀ (a b : Addr) (kb : ClassId), own_C1 l Z a b kb cs (4 : Int32) (own_bs4 c0 c1 c2 c3) (4 : Int32) [(.int 0), (.int 1), (.int 2), (.int 3), (.int 0), (.int 0), (.int 0), (.int 0)] := fun a b kb sa ks h0 n0 Z0 Sc hcs Ea Fv Fc Vb Vs gs Es hb => by
    obtain ⟨hX0, hX1, hX2, hX3⟩ := hX a b kb
    exact rmLS1_4 l Z a0 hw [] a b sa kb ks cs (4 : Int32) (own_bs4 c0 c1 c2 c3) (0 : Int32) (1 : Int32) (1 : Int32) (2 : Int32) (2 : Int32) (3 : Int32) h0 n0 Z0 Sc hcs Ea Fv Fc Vb hX0 hX1 hX2 hX3 (by decide) (by decide) (by decide) (by decide) (by decide) (by decide) Vs gs Es hb
  have hC2 : ∀ (a b : Addr) (kb : ClassId), own_C2 l Z a b kb cs (4 : Int32) (own_bs4 c0 c1 c2 c3) (4 : Int32) [(.int 0), (.int 1), (.int 2), (.int 3), (.int 0), (.int 0), (.int 0), (.int 0)] := fun a b kb sa ks h0 n0 Z0 Sc hcs Ea Fv Fc Vb Vs => by
    obtain ⟨hX0, hX1, hX2, hX3⟩ := hX a b kb
    exact rmLS2_4 l Z a0 hw [] a b sa kb ks cs (4 : Int32) (own_bs4 c0 c1 c2 c3) (1 : Int32) (2 : Int32) (3 : Int32) h0 n0 Z0 Sc hcs Ea Fv Fc Vb hX3 Vs
  exact ⟨(4 : Int32), 4, (130 : Int32), [(0 : Int32), (1 : Int32), (2 : Int32), (3 : Int32), (4 : Int32), (0 : Int32), (0 : Int32), (0 : Int32)], by decide, by decide, by decide, (fun j h0 h1 => own_upto 4 (by decide) h0 h1 (fun j => own_st [(0 : Int32), (1 : Int32), (2 : Int32), (3 : Int32), (4 : Int32), (0 : Int32), (0 : Int32), (0 : Int32)] (0 : Int32) j = own_start4 c0 c1 c2 c3 j) (by simp only [own_start4, if_pos e0, if_pos e1, if_pos e2, if_neg e3]; decide)), ⟨fun q => absurd q e3, fun q => by simp only [own_nl, if_pos e0, if_pos e1, if_pos e2, if_neg e3]; decide⟩, fun o a b kb h0 n0 Z0 Sc hcs Ea Fv Fc Vb Sf hfm Eo Fm go hbo F1 F2 F3 => rmLI_4_1 l Z a0 hw [] o a b kb cs (own_bs4 c0 c1 c2 c3) fm (4 : Int32) (3 : Int32) c3 (1 : Int32) (2 : Int32) (3 : Int32) h0 n0 Z0 Sc hcs Ea Fv Fc Vb Sf hfm Eo Fm go hbo F1 F2 F3 (hC1 a b kb) (hC2 a b kb) (fun h0 n0 Z0 Sc hcs Ea Fv Fc Vb Sf hfm => rmCA_4 l Z a0 hw [] a b kb _ _ _ c3 cs fm h0 n0 Z0 Sc hcs Ea Fv Fc Vb Sf hfm lo3 hi3) e3 (by decide) (by decide) (by decide)⟩
theorem own_LP_4_1111 (l : Launch) (Z : State) (a0 : Array Value) (hw : ∀ d ∈ tables_1, d.before a0 Z = true) (cs : Int32) (fm : Value) (c0 c1 c2 c3 : Int32) (lo0 : ¬ c0 < (0 : Int32)) (hi0 : ¬ (255 : Int32) < c0) (lo1 : ¬ c1 < (0 : Int32)) (hi1 : ¬ (255 : Int32) < c1) (lo2 : ¬ c2 < (0 : Int32)) (hi2 : ¬ (255 : Int32) < c2) (lo3 : ¬ c3 < (0 : Int32)) (hi3 : ¬ (255 : Int32) < c3) (e0 : c0 = (10 : Int32)) (e1 : c1 = (10 : Int32)) (e2 : c2 = (10 : Int32)) (e3 : c3 = (10 : Int32)) : own_LOK l Z cs (4 : Int32) fm (own_bs4 c0 c1 c2 c3) (own_start4 c0 c1 c2 c3) (fun sz => (c3 = (10 : Int32) → (((((own_nl c0) + (own_nl c1)) + (own_nl c2)) + (own_nl c3)) + (0 : Int32)) = sz) ∧ (¬ c3 = (10 : Int32) → (((((own_nl c0) + (own_nl c1)) + (own_nl c2)) + (own_nl c3)) + (1 : Int32)) = sz)) := by
  have hX : ∀ (a b : Addr) (kb : ClassId), own_CX l Z a b kb cs (4 : Int32) (own_bs4 c0 c1 c2 c3) (0 : Int32) (0 : Int32) ∧ own_CX l Z a b kb cs (4 : Int32) (own_bs4 c0 c1 c2 c3) (1 : Int32) (1 : Int32) ∧ own_CX l Z a b kb cs (4 : Int32) (own_bs4 c0 c1 c2 c3) (2 : Int32) (2 : Int32) ∧ own_CX l Z a b kb cs (4 : Int32) (own_bs4 c0 c1 c2 c3) (3 : Int32) (3 : Int32) ∧ own_CX l Z a b kb cs (4 : Int32) (own_bs4 c0 c1 c2 c3) (4 : Int32) (-1 : Int32) := fun a b kb => ⟨fun h0 n0 Z0 Sc hcs Ea Fv Fc Vb => rmX2 l Z a0 hw [] a b cs (4 : Int32) (0 : Int32) (0 : Int32) h0 n0 Z0 Sc hcs Ea Fv Fc (own_alnV Vb) (by decide) (by decide) (by have q := rmIC_4_0 l Z a0 hw [] b kb _ _ _ _ h0 n0 Z0 Vb; rw [if_pos (own_nlt e0)] at q; exact q), fun h0 n0 Z0 Sc hcs Ea Fv Fc Vb => rmX2 l Z a0 hw [] a b cs (4 : Int32) (1 : Int32) (1 : Int32) h0 n0 Z0 Sc hcs Ea Fv Fc (own_alnV Vb) (by decide) (by decide) (by have q := rmIC_4_1 l Z a0 hw [] b kb _ _ _ _ h0 n0 Z0 Vb; rw [if_pos (own_nlt e1)] at q; exact q), fun h0 n0 Z0 Sc hcs Ea Fv Fc Vb => rmX2 l Z a0 hw [] a b cs (4 : Int32) (2 : Int32) (2 : Int32) h0 n0 Z0 Sc hcs Ea Fv Fc (own_alnV Vb) (by decide) (by decide) (by have q := rmIC_4_2 l Z a0 hw [] b kb _ _ _ _ h0 n0 Z0 Vb; rw [if_pos (own_nlt e2)] at q; exact q), fun h0 n0 Z0 Sc hcs Ea Fv Fc Vb => rmX2 l Z a0 hw [] a b cs (4 : Int32) (3 : Int32) (3 : Int32) h0 n0 Z0 Sc hcs Ea Fv Fc (own_alnV Vb) (by decide) (by decide) (by have q := rmIC_4_3 l Z a0 hw [] b kb _ _ _ _ h0 n0 Z0 Vb; rw [if_pos (own_nlt e3)] at q; exact q), fun h0 n0 Z0 Sc hcs Ea Fv Fc Vb => rmX2e l Z a0 hw [] a b cs (4 : Int32) h0 n0 Z0 Sc hcs Ea Fv Fc (own_alnV Vb) (by decide)⟩
  have hC1 : ∀ (a b : Addr) (kb : ClassId), own_C1 l Z a b kb cs (4 : Int32) (own_bs4 c0 c1 c2 c3) (5 : Int32) [(.int 0), (.int 1), (.int 2), (.int 3), (.int 4), (.int 0), (.int 0), (.int 0)] := fun a b kb sa ks h0 n0 Z0 Sc hcs Ea Fv Fc Vb Vs gs Es hb => by
    obtain ⟨hX0, hX1, hX2, hX3, hX4⟩ := hX a b kb
    exact rmLS1_5 l Z a0 hw [] a b sa kb ks cs (4 : Int32) (own_bs4 c0 c1 c2 c3) (0 : Int32) (1 : Int32) (1 : Int32) (2 : Int32) (2 : Int32) (3 : Int32) (3 : Int32) (4 : Int32) h0 n0 Z0 Sc hcs Ea Fv Fc Vb hX0 hX1 hX2 hX3 hX4 (by decide) (by decide) (by decide) (by decide) (by decide) (by decide) (by decide) (by decide) Vs gs Es hb
  have hC2 : ∀ (a b : Addr) (kb : ClassId), own_C2 l Z a b kb cs (4 : Int32) (own_bs4 c0 c1 c2 c3) (5 : Int32) [(.int 0), (.int 1), (.int 2), (.int 3), (.int 4), (.int 0), (.int 0), (.int 0)] := fun a b kb sa ks h0 n0 Z0 Sc hcs Ea Fv Fc Vb Vs => by
    obtain ⟨hX0, hX1, hX2, hX3, hX4⟩ := hX a b kb
    exact rmLS2_5 l Z a0 hw [] a b sa kb ks cs (4 : Int32) (own_bs4 c0 c1 c2 c3) (1 : Int32) (2 : Int32) (3 : Int32) (4 : Int32) h0 n0 Z0 Sc hcs Ea Fv Fc Vb hX4 Vs
  exact ⟨(4 : Int32), 4, (130 : Int32), [(0 : Int32), (1 : Int32), (2 : Int32), (3 : Int32), (4 : Int32), (0 : Int32), (0 : Int32), (0 : Int32)], by decide, by decide, by decide, (fun j h0 h1 => own_upto 4 (by decide) h0 h1 (fun j => own_st [(0 : Int32), (1 : Int32), (2 : Int32), (3 : Int32), (4 : Int32), (0 : Int32), (0 : Int32), (0 : Int32)] (0 : Int32) j = own_start4 c0 c1 c2 c3 j) (by simp only [own_start4, if_pos e0, if_pos e1, if_pos e2, if_pos e3]; decide)), ⟨fun q => by simp only [own_nl, if_pos e0, if_pos e1, if_pos e2, if_pos e3]; decide, fun q => absurd e3 q⟩, fun o a b kb h0 n0 Z0 Sc hcs Ea Fv Fc Vb Sf hfm Eo Fm go hbo F1 F2 F3 => rmLI_5_0 l Z a0 hw [] o a b kb cs (own_bs4 c0 c1 c2 c3) fm (4 : Int32) (3 : Int32) c3 (1 : Int32) (2 : Int32) (3 : Int32) (4 : Int32) h0 n0 Z0 Sc hcs Ea Fv Fc Vb Sf hfm Eo Fm go hbo F1 F2 F3 (hC1 a b kb) (hC2 a b kb) (fun h0 n0 Z0 Sc hcs Ea Fv Fc Vb Sf hfm => rmCA_4 l Z a0 hw [] a b kb _ _ _ c3 cs fm h0 n0 Z0 Sc hcs Ea Fv Fc Vb Sf hfm lo3 hi3) e3 (by decide) (by decide) (by decide)⟩
theorem own_LO_4 (l : Launch) (Z : State) (a0 : Array Value) (hw : ∀ d ∈ tables_1, d.before a0 Z = true) (cs : Int32) (fm : Value) (c0 c1 c2 c3 : Int32) (lo0 : ¬ c0 < (0 : Int32)) (hi0 : ¬ (255 : Int32) < c0) (lo1 : ¬ c1 < (0 : Int32)) (hi1 : ¬ (255 : Int32) < c1) (lo2 : ¬ c2 < (0 : Int32)) (hi2 : ¬ (255 : Int32) < c2) (lo3 : ¬ c3 < (0 : Int32)) (hi3 : ¬ (255 : Int32) < c3) : own_LOK l Z cs (4 : Int32) fm (own_bs4 c0 c1 c2 c3) (own_start4 c0 c1 c2 c3) (fun sz => (c3 = (10 : Int32) → (((((own_nl c0) + (own_nl c1)) + (own_nl c2)) + (own_nl c3)) + (0 : Int32)) = sz) ∧ (¬ c3 = (10 : Int32) → (((((own_nl c0) + (own_nl c1)) + (own_nl c2)) + (own_nl c3)) + (1 : Int32)) = sz)) := by
  by_cases e0 : c0 = (10 : Int32)
  · by_cases e1 : c1 = (10 : Int32)
    · by_cases e2 : c2 = (10 : Int32)
      · by_cases e3 : c3 = (10 : Int32)
        · exact own_LP_4_1111 l Z a0 hw cs fm c0 c1 c2 c3 lo0 hi0 lo1 hi1 lo2 hi2 lo3 hi3 e0 e1 e2 e3
        · exact own_LP_4_1110 l Z a0 hw cs fm c0 c1 c2 c3 lo0 hi0 lo1 hi1 lo2 hi2 lo3 hi3 e0 e1 e2 e3
      · by_cases e3 : c3 = (10 : Int32)
        · exact own_LP_4_1101 l Z a0 hw cs fm c0 c1 c2 c3 lo0 hi0 lo1 hi1 lo2 hi2 lo3 hi3 e0 e1 e2 e3
        · exact own_LP_4_1100 l Z a0 hw cs fm c0 c1 c2 c3 lo0 hi0 lo1 hi1 lo2 hi2 lo3 hi3 e0 e1 e2 e3
    · by_cases e2 : c2 = (10 : Int32)
      · by_cases e3 : c3 = (10 : Int32)
        · exact own_LP_4_1011 l Z a0 hw cs fm c0 c1 c2 c3 lo0 hi0 lo1 hi1 lo2 hi2 lo3 hi3 e0 e1 e2 e3
        · exact own_LP_4_1010 l Z a0 hw cs fm c0 c1 c2 c3 lo0 hi0 lo1 hi1 lo2 hi2 lo3 hi3 e0 e1 e2 e3
      · by_cases e3 : c3 = (10 : Int32)
        · exact own_LP_4_1001 l Z a0 hw cs fm c0 c1 c2 c3 lo0 hi0 lo1 hi1 lo2 hi2 lo3 hi3 e0 e1 e2 e3
        · exact own_LP_4_1000 l Z a0 hw cs fm c0 c1 c2 c3 lo0 hi0 lo1 hi1 lo2 hi2 lo3 hi3 e0 e1 e2 e3
  · by_cases e1 : c1 = (10 : Int32)
    · by_cases e2 : c2 = (10 : Int32)
      · by_cases e3 : c3 = (10 : Int32)
        · exact own_LP_4_0111 l Z a0 hw cs fm c0 c1 c2 c3 lo0 hi0 lo1 hi1 lo2 hi2 lo3 hi3 e0 e1 e2 e3
        · exact own_LP_4_0110 l Z a0 hw cs fm c0 c1 c2 c3 lo0 hi0 lo1 hi1 lo2 hi2 lo3 hi3 e0 e1 e2 e3
      · by_cases e3 : c3 = (10 : Int32)
        · exact own_LP_4_0101 l Z a0 hw cs fm c0 c1 c2 c3 lo0 hi0 lo1 hi1 lo2 hi2 lo3 hi3 e0 e1 e2 e3
        · exact own_LP_4_0100 l Z a0 hw cs fm c0 c1 c2 c3 lo0 hi0 lo1 hi1 lo2 hi2 lo3 hi3 e0 e1 e2 e3
    · by_cases e2 : c2 = (10 : Int32)
      · by_cases e3 : c3 = (10 : Int32)
        · exact own_LP_4_0011 l Z a0 hw cs fm c0 c1 c2 c3 lo0 hi0 lo1 hi1 lo2 hi2 lo3 hi3 e0 e1 e2 e3
        · exact own_LP_4_0010 l Z a0 hw cs fm c0 c1 c2 c3 lo0 hi0 lo1 hi1 lo2 hi2 lo3 hi3 e0 e1 e2 e3
      · by_cases e3 : c3 = (10 : Int32)
        · exact own_LP_4_0001 l Z a0 hw cs fm c0 c1 c2 c3 lo0 hi0 lo1 hi1 lo2 hi2 lo3 hi3 e0 e1 e2 e3
        · exact own_LP_4_0000 l Z a0 hw cs fm c0 c1 c2 c3 lo0 hi0 lo1 hi1 lo2 hi2 lo3 hi3 e0 e1 e2 e3
theorem own_rem5 (p1 : Int32) : ((p1 &&& (2147483647 : Int32)) % (5 : Int32)) = (0 : Int32) ∨ ((p1 &&& (2147483647 : Int32)) % (5 : Int32)) = (1 : Int32) ∨ ((p1 &&& (2147483647 : Int32)) % (5 : Int32)) = (2 : Int32) ∨ ((p1 &&& (2147483647 : Int32)) % (5 : Int32)) = (3 : Int32) ∨ ((p1 &&& (2147483647 : Int32)) % (5 : Int32)) = (4 : Int32) := by
  have h1 := c_mask p1 2147483647 31 (by decide) (by decide)
  have h2 := (c_irem (p1 &&& (2147483647 : Int32)) 5 5 (by decide)).1
  simp only [← Int32.toInt_inj]
  have e0 : (0 : Int32).toInt = 0 := by decide
  have e1 : (1 : Int32).toInt = 1 := by decide
  have e2 : (2 : Int32).toInt = 2 := by decide
  have e3 : (3 : Int32).toInt = 3 := by decide
  have e4 : (4 : Int32).toInt = 4 := by decide
  rw [e0, e1, e2, e3, e4]
  omega
theorem own_zz {sz z : Int32} {k : Nat} (hk : sz.toInt = k) (h6 : k < 60) (hz : (sz + (1 : Int32)) = z) : z.toInt = k + 1 := by
  have a := c_iadd sz 1
  have k1 : (1 : Int32).toInt = 1 := by decide
  rw [hz] at a
  have r := rng32 z
  omega
theorem own_fst (p sz z : Int32) (k : Nat) (hk : sz.toInt = k) (h6 : k < 60) (hz1 : (sz + (1 : Int32)) = z) : z ≠ 0 ∧ ¬ ((p &&& (2147483647 : Int32)) % z) < (0 : Int32) ∧ ¬ sz < ((p &&& (2147483647 : Int32)) % z) := by
  have hz := own_zz hk h6 hz1
  have h1 := c_mask p 2147483647 31 (by decide) (by decide)
  have h2 := (c_iremV (p &&& (2147483647 : Int32)) z).1
  have k0 : (0 : Int32).toInt = 0 := by decide
  refine ⟨fun u => ?_, ?_, ?_⟩
  · have u2 := congrArg Int32.toInt u
    rw [k0] at u2
    omega
  · rw [Int32.lt_iff_toInt_lt, k0]
    omega
  · rw [Int32.lt_iff_toInt_lt]
    omega
theorem own_snd (p sz z f : Int32) (k : Nat) (hk : sz.toInt = k) (h6 : k < 60) (hz1 : (sz + (1 : Int32)) = z) (h0 : ¬ f < (0 : Int32)) (h1 : ¬ sz < f) : (z - f) ≠ 0 ∧ ¬ (f + ((p &&& (2147483647 : Int32)) % (z - f))) < (0 : Int32) ∧ ¬ sz < (f + ((p &&& (2147483647 : Int32)) % (z - f))) := by
  have hz := own_zz hk h6 hz1
  have m := c_mask p 2147483647 31 (by decide) (by decide)
  have h2 := (c_iremV (p &&& (2147483647 : Int32)) (z - f)).1
  have s := c_isub z f
  have r := rng32 (z - f)
  have a := c_iadd f ((p &&& (2147483647 : Int32)) % (z - f))
  have r2 := rng32 (f + ((p &&& (2147483647 : Int32)) % (z - f)))
  have k0 : (0 : Int32).toInt = 0 := by decide
  rw [Int32.lt_iff_toInt_lt, k0] at h0
  rw [Int32.lt_iff_toInt_lt] at h1
  refine ⟨fun u => ?_, ?_, ?_⟩
  · have u2 := congrArg Int32.toInt u
    rw [k0] at u2
    omega
  · rw [Int32.lt_iff_toInt_lt, k0]
    omega
  · rw [Int32.lt_iff_toInt_lt]
    omega
theorem own_lt65 {sz j al : Int32} {k : Nat} (hk : sz.toInt = k) (h6 : k < 60) (ha : ¬ al < (65 : Int32)) (h0 : ¬ j < (0 : Int32)) (h1 : ¬ sz < j) : ¬ j < 0 ∧ j < al := by
  refine ⟨h0, ?_⟩
  have k1 : (65 : Int32).toInt = 65 := by decide
  rw [Int32.lt_iff_toInt_lt, k1] at ha
  rw [Int32.lt_iff_toInt_lt] at h1 ⊢
  omega
theorem pd_17 : parseMethodDescriptor "([C)V" = some ⟨[(.array .char)], none⟩ := by decide +kernel
theorem pd_18 : parseMethodDescriptor "([CII)I" = some ⟨[(.array .char), .int, .int], some .int⟩ := by decide +kernel
theorem pd_19 : parseMethodDescriptor "(Ljava/lang/String;)V" = some ⟨[(.object "java/lang/String")], none⟩ := by decide +kernel
theorem pd_20 : parseMethodDescriptor "(J)C" = some ⟨[.long], some .char⟩ := by decide +kernel
set_option maxRecDepth 65536 in
set_option maxHeartbeats 40000000 in
theorem rm0 (l : Launch) (Z : State) (a0 : Array Value) (hw : own_Wd a0 Z) (ws : List Jvm.Cond) (cs : Int32) (fm : Value) (j1 : Int64) (p1 : Int32) (p2 : Int32) (p3 : Int32) (h0 : Heap) (n0 : Nat) (Z0 : n0 ≤ h0.size) (Sc : Sta Z h0 "java/lang/String" "COMPACT_STRINGS" "Z" (.int cs)) (hcs : ¬ (cs = (0 : Int32))) (Sf : Sta Z h0 "jdk/internal/util/Preconditions" "SIOOBE_FORMATTER" "Ljava/util/function/BiFunction;" fm) (hfm : fm.isRef = true) :
    own_MetL l x code maxLocals ret ws room_1 Z own_EL #[(.long j1), (.int p1), (.int p2), (.int p3)] h0 (fun v h L => v = some (.int 1) ∧ Fr n0 L) := by
  refine own_bodyL (plainFor_of_name pn_0) ?_
  intro p e s m below meth c s₁ X0 hx hby hml hown hnm hret hlk hZ e0 hs0 CH0 hS0
  replace hown : (s.setVm s.vm).vm.findClass "com/example/amendtrail/amendtrail/write/LinesLengthPinLaw" = some m.cls := hown
  replace hml : c.maxLocals = 13 := hml
  replace hret : meth.sig.returnType = (some .boolean) := hret
  have N0 := Fr.nil n0
  have hEL : EW Z a0 own_EL := own_ELw hw
  refine own_ef (L0 := #[.val (.long j1), .second, .val (.int p1), .val (.int p2), .val (.int p3), .unset, .unset, .unset, .unset, .unset, .unset, .unset, .unset]) (by first | (simp [entryFrame, mkF, argsToLocals, Value.category, maxLocals]; done) | rfl) ?_
  refine own_iloadN X0 hx (hb hby at_0) rfl ?_
  refine own_ldcI X0 hx hZ hown (own_m hw 0 rfl) (hb hby at_1) ?_
  refine own_iand X0 hx (hb hby at_3) ?_
  refine own_iconst X0 hx 5 (hb hby at_4) rfl ?_
  refine own_irem X0 hx (hb hby at_5) (by decide) ?_
  rcases own_rem5 p1 with hr610 | hr610 | hr610 | hr610 | hr610
  · rw [hr610]
    refine own_istore (l' := #[.val (.long j1), .second, .val (.int p1), .val (.int p2), .val (.int p3), .val (.int 0), .unset, .unset, .unset, .unset, .unset, .unset, .unset]) X0 hx (hb hby at_6) rfl ?_
    refine own_iload X0 hx (hb hby at_8) rfl ?_
    refine own_newP (n := (0 : Int32)) (cap := 0) (ad := "[C") X0 hx hZ (own_m hw 1 rfl) e0 (hb hby at_10) (by decide) (by decide) (by decide) (by decide) (by decide) (by decide) fun T611 h611 k611 b611 g611 X611 e611 E611 A611 Ex611 => ?_
    have g_b611 : n0 ≤ b611 := Nat.le_trans Z0 (Nat.le_of_eq g611.symm)
    have szo_b611 : h0.size ≤ b611 := Nat.le_trans (Nat.le_refl h0.size) (Nat.le_of_eq g611.symm)
    have V611 : Arv Z h611 b611 k611 .char (0 : Int32) [] (.int 0) := Arv.new A611 (by decide)
    refine own_astore (l' := #[.val (.long j1), .second, .val (.int p1), .val (.int p2), .val (.int p3), .val (.int 0), .val (.ref b611), .unset, .unset, .unset, .unset, .unset, .unset]) X611 hx (hb hby at_12) rfl rfl ?_
    refine own_iload X611 hx (hb hby at_14) rfl ?_
    refine own_ifYes X611 hx 27 (hb hby at_16) (flt (by decide : ¬ ((0 : Int32) < (0 : Int32)))).2.2.2 (by decide) (by decide) ?_
    refine own_iload X611 hx (hb hby at_27) rfl ?_
    refine own_iconst X611 hx 1 (hb hby at_29) rfl ?_
    refine own_icmpYes X611 hx 44 (hb hby at_30) (flt (by decide : ¬ ((1 : Int32) < (0 : Int32)))).2.2.2 (by decide) (by decide) ?_
    refine own_iload X611 hx (hb hby at_44) rfl ?_
    refine own_iconst X611 hx 2 (hb hby at_46) rfl ?_
    refine own_icmpYes X611 hx 61 (hb hby at_47) (flt (by decide : ¬ ((2 : Int32) < (0 : Int32)))).2.2.2 (by decide) (by decide) ?_
    refine own_iload X611 hx (hb hby at_61) rfl ?_
    refine own_iconst X611 hx 3 (hb hby at_63) rfl ?_
    refine own_icmpYes X611 hx 78 (hb hby at_64) (flt (by decide : ¬ ((3 : Int32) < (0 : Int32)))).2.2.2 (by decide) (by decide) ?_
    refine own_newO X611 hx hZ hown (own_m hw 7 rfl) (own_m hw 8 rfl) (own_m hw 9 rfl) e611 (hb hby at_78) (by decide) (by decide) fun T612 h612 b612 g612 X612 e612 E612 A612 D612 => ?_
    have g_b612 : n0 ≤ b612 := Nat.le_trans (Nat.le_trans Z0 E611.1) (Nat.le_of_eq g612.symm)
    have szo_b612 : h0.size ≤ b612 := Nat.le_trans (Nat.le_trans (Nat.le_refl h0.size) E611.1) (Nat.le_of_eq g612.symm)
    have F_coder_b612 : Fld Z h612 b612 "java/lang/String" "coder" "B" (.int 0) := D612 (Or.inr (own_m hw 33 rfl)) (ty := .byte) (by decide)
    have F_value_b612 : Fld Z h612 b612 "java/lang/String" "value" "[B" .null := D612 (Or.inr (own_m hw 35 rfl)) (ty := (.array .byte)) (by decide)
    refine own_dup X612 hx (hb hby at_81) rfl ?_
    refine own_aload X612 hx (hb hby at_82) rfl rfl ?_
    have f613 := (Sta.ext E612 (Sta.ext E611 Sc))
    have f614 := (Sta.ext E612 (Sta.ext E611 Sf))
    have f615 := (Exa.ext E612 Ex611)
    have f616 := (V611.ext E612)
    have Zs617 : n0 ≤ h612.size := (Nat.le_trans (Nat.le_trans Z0 E611.1) E612.1)
    refine own_cSpecW (b := b612) (W := 1) (rest := [(.ref b612)]) X612 hx hZ [(.ref b611)] rfl hown (own_m hw 10 rfl) (own_m hw 11 rfl) (by decide) (own_m hw 12 rfl) (own_m hw 9 rfl) e612 (rmI1_0 l Z a0 hw [] b612 b611 k611 h612 n0 Zs617 A612 F_value_b612 F_coder_b612 g_b612 f616) hEL (CHv.ext E612 (CHv.ext E611 CH0)) hS0 (Nat.le_trans (Nat.le_trans (Nat.le_refl _) E611.1) E612.1) (by rw [hml]; rfl) (lenOf pd_17 rfl) rfl (Nat.le_of_eq rfl) (hb hby at_84) (by decide) (by decide) (by decide) (by decide) fun v618 T618 L618 X618 hS618 hZ618 ho618 CR618 hQ618 => ?_
    obtain ⟨rfl, N618q, K618, sb618, kb618, Ea618, Fv618, Fc618, Vb618⟩ := hQ618
    have N618 := Fr.app N0 N618q
    obtain ⟨_, k, al, xs, hk, h6, hal, heq, rfl, hLI⟩ := own_LO_0 l Z a0 hw cs fm  
    show own_At p e below _ T618 m 87 _ [(.ref b612)]
    refine own_astore (l' := #[.val (.long j1), .second, .val (.int p1), .val (.int p2), .val (.int p3), .val (.int 0), .val (.ref b611), .val (.ref b612), .unset, .unset, .unset, .unset, .unset]) X618 hx (hb hby at_87) rfl rfl ?_
    refine own_aload X618 hx (hb hby at_89) rfl rfl ?_
    refine own_iload X618 hx (hb hby at_91) rfl ?_
    refine own_iconst X618 hx 0 (hb hby at_93) rfl ?_
    refine own_cStat (W := 0) (rest := []) X618 hx hZ618 [(.ref b611), (.int 0), (.int 0)] ho618 (own_m hw 36 rfl) (own_m hw 37 rfl) (by decide) (own_m hw 38 rfl) (own_m hw 4 rfl) rfl (rmNlo l Z a0 hw [] b611 (0 : Int32) (0 : Int32) T618.heap n0 (Nat.le_trans Zs617 K618.1) (by decide)) (by rw [hml]; rfl) (lenOf pd_18 rfl) rfl (Nat.le_of_eq rfl) (hb hby at_94) (by decide) (by decide) (by decide) (by decide) fun v619 T619 L619 X619 hQ619 => ?_
    obtain ⟨rfl, N619q, e619⟩ := hQ619
    have N619 := Fr.app N618 N619q
    show own_At p e below _ T619 m 97 _ [(.int 0)]
    refine own_aload X619 hx (hb hby at_97) rfl rfl ?_
    refine own_iload X619 hx (hb hby at_99) rfl ?_
    refine own_iconst X619 hx 1 (hb hby at_101) rfl ?_
    refine own_cStat (W := 1) (rest := [(.int 0)]) X619 hx hZ618 [(.ref b611), (.int 0), (.int 1)] ho618 (own_m hw 36 rfl) (own_m hw 37 rfl) (by decide) (own_m hw 38 rfl) (own_m hw 4 rfl) e619 (rmNlo l Z a0 hw [] b611 (0 : Int32) (1 : Int32) T618.heap n0 (Nat.le_trans Zs617 K618.1) (by decide)) (by rw [hml]; rfl) (lenOf pd_18 rfl) rfl (Nat.le_of_eq rfl) (hb hby at_102) (by decide) (by decide) (by decide) (by decide) fun v620 T620 L620 X620 hQ620 => ?_
    obtain ⟨rfl, N620q, e620⟩ := hQ620
    have N620 := Fr.app N619 N620q
    show own_At p e below _ T620 m 105 _ [(.int 0), (.int 0)]
    refine own_iadd X620 hx (hb hby at_105) ?_
    rw [show ((0 : Int32) + (0 : Int32)) = (0 : Int32) from by decide]
    refine own_aload X620 hx (hb hby at_106) rfl rfl ?_
    refine own_iload X620 hx (hb hby at_108) rfl ?_
    refine own_iconst X620 hx 2 (hb hby at_110) rfl ?_
    refine own_cStat (W := 1) (rest := [(.int 0)]) X620 hx hZ618 [(.ref b611), (.int 0), (.int 2)] ho618 (own_m hw 36 rfl) (own_m hw 37 rfl) (by decide) (own_m hw 38 rfl) (own_m hw 4 rfl) e620 (rmNlo l Z a0 hw [] b611 (0 : Int32) (2 : Int32) T618.heap n0 (Nat.le_trans Zs617 K618.1) (by decide)) (by rw [hml]; rfl) (lenOf pd_18 rfl) rfl (Nat.le_of_eq rfl) (hb hby at_111) (by decide) (by decide) (by decide) (by decide) fun v621 T621 L621 X621 hQ621 => ?_
    obtain ⟨rfl, N621q, e621⟩ := hQ621
    have N621 := Fr.app N620 N621q
    show own_At p e below _ T621 m 114 _ [(.int 0), (.int 0)]
    refine own_iadd X621 hx (hb hby at_114) ?_
    rw [show ((0 : Int32) + (0 : Int32)) = (0 : Int32) from by decide]
    refine own_aload X621 hx (hb hby at_115) rfl rfl ?_
    refine own_iload X621 hx (hb hby at_117) rfl ?_
    refine own_iconst X621 hx 3 (hb hby at_119) rfl ?_
    refine own_cStat (W := 1) (rest := [(.int 0)]) X621 hx hZ618 [(.ref b611), (.int 0), (.int 3)] ho618 (own_m hw 36 rfl) (own_m hw 37 rfl) (by decide) (own_m hw 38 rfl) (own_m hw 4 rfl) e621 (rmNlo l Z a0 hw [] b611 (0 : Int32) (3 : Int32) T618.heap n0 (Nat.le_trans Zs617 K618.1) (by decide)) (by rw [hml]; rfl) (lenOf pd_18 rfl) rfl (Nat.le_of_eq rfl) (hb hby at_120) (by decide) (by decide) (by decide) (by decide) fun v622 T622 L622 X622 hQ622 => ?_
    obtain ⟨rfl, N622q, e622⟩ := hQ622
    have N622 := Fr.app N621 N622q
    show own_At p e below _ T622 m 123 _ [(.int 0), (.int 0)]
    refine own_iadd X622 hx (hb hby at_123) ?_
    rw [show ((0 : Int32) + (0 : Int32)) = (0 : Int32) from by decide]
    refine own_istore (l' := #[.val (.long j1), .second, .val (.int p1), .val (.int p2), .val (.int p3), .val (.int 0), .val (.ref b611), .val (.ref b612), .val (.int 0), .unset, .unset, .unset, .unset]) X622 hx (hb hby at_124) rfl ?_
    refine own_iload X622 hx (hb hby at_126) rfl ?_
    refine own_iload X622 hx (hb hby at_128) rfl ?_
    refine own_ifYes X622 hx 149 (hb hby at_130) (flt (by decide : ¬ ((0 : Int32) < (0 : Int32)))).2.2.2 (by decide) (by decide) ?_
    refine own_iconst X622 hx 0 (hb hby at_149) rfl ?_
    refine own_iadd X622 hx (hb hby at_150) ?_
    rw [show ((0 : Int32) + (0 : Int32)) = (0 : Int32) from by decide]
    refine own_istore (l' := #[.val (.long j1), .second, .val (.int p1), .val (.int p2), .val (.int p3), .val (.int 0), .val (.ref b611), .val (.ref b612), .val (.int 0), .val (.int 0), .unset, .unset, .unset]) X622 hx (hb hby at_151) rfl ?_
    refine own_newO X622 hx hZ618 ho618 (own_m hw 39 rfl) (own_m hw 40 rfl) (own_m hw 41 rfl) e622 (hb hby at_153) (by decide) (by decide) fun T623 h623 b623 g623 X623 e623 E623 A623 D623 => ?_
    have g_b623 : n0 ≤ b623 := Nat.le_trans (Nat.le_trans Zs617 K618.1) (Nat.le_of_eq g623.symm)
    have szo_b623 : h0.size ≤ b623 := Nat.le_trans (Nat.le_trans (Nat.le_trans (Nat.le_trans (Nat.le_refl h0.size) E611.1) E612.1) K618.1) (Nat.le_of_eq g623.symm)
    have F_modCount_b623 : Fld Z h623 b623 "java/util/AbstractList" "modCount" "I" (.int 0) := D623 (Or.inl (own_m hw 58 rfl)) (ty := .int) (by decide)
    have F_text_b623 : Fld Z h623 b623 "com/example/amendtrail/amendtrail/write/Lines" "text" "Ljava/lang/String;" .null := D623 (Or.inr (own_m hw 60 rfl)) (ty := (.object "java/lang/String")) (by decide)
    have F_size_b623 : Fld Z h623 b623 "com/example/amendtrail/amendtrail/write/Lines" "size" "I" (.int 0) := D623 (Or.inr (own_m hw 135 rfl)) (ty := .int) (by decide)
    have F_starts_b623 : Fld Z h623 b623 "com/example/amendtrail/amendtrail/write/Lines" "starts" "[I" .null := D623 (Or.inr (own_m hw 137 rfl)) (ty := (.array .int)) (by decide)
    refine own_dup X623 hx (hb hby at_156) rfl ?_
    refine own_aload X623 hx (hb hby at_157) rfl rfl ?_
    refine own_cSpec (b := b623) (W := 1) (rest := [(.ref b623)]) X623 hx hZ618 [(.ref b612)] rfl ho618 (own_m hw 42 rfl) (own_m hw 43 rfl) (by decide) (own_m hw 44 rfl) (own_m hw 41 rfl) e623 (hLI b623 b612 sb618 kb618 h623 n0 (Nat.le_trans (Nat.le_trans Zs617 K618.1) E623.1) (Sta.ext E623 (own_staKeep f613 K618 (allS (own_exaStat A612) all0))) hcs (Exa.ext E623 Ea618) (Fld.ext E623 Fv618) (Fld.ext E623 Fc618) (Vb618.ext E623) (Sta.ext E623 (own_staKeep f614 K618 (allS (own_exaStat A612) all0))) hfm A623 F_modCount_b623 g_b623 (Nat.ne_of_lt (Nat.lt_of_lt_of_le Vb618.lt (Nat.le_of_eq g623.symm))) F_text_b623 F_size_b623 F_starts_b623) (by rw [hml]; rfl) (lenOf pd_19 rfl) rfl (Nat.le_of_eq rfl) (hb hby at_159) (by decide) (by decide) (by decide) (by decide) fun v624 T624 L624 X624 hQ624 => ?_
    obtain ⟨rfl, N624q, K624, sa624, ks624, Eo624, Fz624, Fs624, Vs624⟩ := hQ624
    have N624 := Fr.app N622 N624q
    show own_At p e below _ T624 m 162 _ [(.ref b623)]
    refine own_astore (l' := #[.val (.long j1), .second, .val (.int p1), .val (.int p2), .val (.int p3), .val (.int 0), .val (.ref b611), .val (.ref b612), .val (.int 0), .val (.int 0), .val (.ref b623), .unset, .unset]) X624 hx (hb hby at_162) rfl rfl ?_
    refine own_aload X624 hx (hb hby at_164) rfl rfl ?_
    refine own_cVirt (W := 0) (rest := []) X624 hx hZ618 [] ho618 (own_m hw 138 rfl) (own_m hw 139 rfl) (notFace_of_selects (args := #[]) (mvT hZ618 (own_m hw 141 rfl))) (own_m hw 141 rfl) (own_m hw 140 rfl) (by decide) (own_m hw 142 rfl) (own_m hw 41 rfl) rfl Eo624 (rmSz l Z a0 hw [] b623 (0 : Int32) T624.heap n0 (Nat.le_trans (Nat.le_trans (Nat.le_trans Zs617 K618.1) E623.1) K624.1) Fz624) (by rw [hml]; rfl) (lenOf pd_9 rfl) rfl (Nat.le_of_eq rfl) (hb hby at_166) (by decide) (by decide) (by decide) (by decide) fun v625 T625 L625 X625 hQ625 => ?_
    obtain ⟨rfl, N625q, e625⟩ := hQ625
    have N625 := Fr.app N624 N625q
    show own_At p e below _ T625 m 169 _ [(.int 0)]
    refine own_iload X625 hx (hb hby at_169) rfl ?_
    refine own_icmpYes X625 hx 176 (hb hby at_171) (teq (by decide : (0 : Int32) = (0 : Int32))).1 (by decide) (by decide) ?_
    refine own_iloadN X625 hx (hb hby at_176) rfl ?_
    refine own_ldcI X625 hx hZ618 ho618 (own_m hw 0 rfl) (hb hby at_177) ?_
    refine own_iand X625 hx (hb hby at_179) ?_
    refine own_iload X625 hx (hb hby at_180) rfl ?_
    refine own_iconst X625 hx 1 (hb hby at_182) rfl ?_
    refine own_iadd X625 hx (hb hby at_183) ?_
    rw [show ((0 : Int32) + (1 : Int32)) = (1 : Int32) from by decide]
    obtain ⟨z1, f0, f1⟩ := own_fst p2 (0 : Int32) (1 : Int32) k hk h6 (by decide)
    refine own_irem X625 hx (hb hby at_184) z1 ?_
    generalize hff : ((p2 &&& (2147483647 : Int32)) % (1 : Int32)) = ff at *
    refine own_istore (l' := #[.val (.long j1), .second, .val (.int p1), .val (.int p2), .val (.int p3), .val (.int 0), .val (.ref b611), .val (.ref b612), .val (.int 0), .val (.int 0), .val (.ref b623), .val (.int ff), .unset]) X625 hx (hb hby at_185) rfl ?_
    refine own_iload X625 hx (hb hby at_187) rfl ?_
    refine own_iload X625 hx (hb hby at_189) rfl ?_
    refine own_ldcI X625 hx hZ618 ho618 (own_m hw 0 rfl) (hb hby at_191) ?_
    refine own_iand X625 hx (hb hby at_193) ?_
    refine own_iload X625 hx (hb hby at_194) rfl ?_
    refine own_iconst X625 hx 1 (hb hby at_196) rfl ?_
    refine own_iadd X625 hx (hb hby at_197) ?_
    rw [show ((0 : Int32) + (1 : Int32)) = (1 : Int32) from by decide]
    refine own_iload X625 hx (hb hby at_198) rfl ?_
    refine own_isub X625 hx (hb hby at_200) ?_
    obtain ⟨z0, g0, g1⟩ := own_snd p3 (0 : Int32) (1 : Int32) ff k hk h6 (by decide) f0 f1
    refine own_irem X625 hx (hb hby at_201) z0 ?_
    refine own_iadd X625 hx (hb hby at_202) ?_
    generalize hee : (ff + ((p3 &&& (2147483647 : Int32)) % ((1 : Int32) - ff))) = ee at *
    refine own_istore (l' := #[.val (.long j1), .second, .val (.int p1), .val (.int p2), .val (.int p3), .val (.int 0), .val (.ref b611), .val (.ref b612), .val (.int 0), .val (.int 0), .val (.ref b623), .val (.int ff), .val (.int ee)]) X625 hx (hb hby at_203) rfl ?_
    refine own_aload X625 hx (hb hby at_205) rfl rfl ?_
    refine own_iload X625 hx (hb hby at_207) rfl ?_
    refine own_iload X625 hx (hb hby at_209) rfl ?_
    refine own_cVirt (W := 0) (rest := []) X625 hx hZ618 [(.int ff), (.int ee)] ho618 (own_m hw 143 rfl) (own_m hw 144 rfl) (notFace_of_selects (args := #[]) (mvT hZ618 (own_m hw 146 rfl))) (own_m hw 146 rfl) (own_m hw 145 rfl) (by decide) (own_m hw 147 rfl) (own_m hw 41 rfl) e625 Eo624 (rmLL l Z a0 hw [] b623 sa624 ks624 xs al ff ee T624.heap n0 (Nat.le_trans (Nat.le_trans (Nat.le_trans Zs617 K618.1) E623.1) K624.1) Fs624 Vs624 (own_lt65 hk h6 hal f0 f1) (own_lt65 hk h6 hal g0 g1)) (by rw [hml]; rfl) (lenOf pd_6 rfl) rfl (Nat.le_of_eq rfl) (hb hby at_211) (by decide) (by decide) (by decide) (by decide) fun v626 T626 L626 X626 hQ626 => ?_
    obtain ⟨rfl, N626q, e626⟩ := hQ626
    have N626 := Fr.app N625 N626q
    show own_At p e below _ T626 m 214 _ [(.int ((own_st xs (0 : Int32) ee) - (own_st xs (0 : Int32) ff)))]
    refine own_aload X626 hx (hb hby at_214) rfl rfl ?_
    refine own_iload X626 hx (hb hby at_216) rfl ?_
    refine own_iload X626 hx (hb hby at_218) rfl ?_
    refine own_cStat (W := 1) (rest := [(.int ((own_st xs (0 : Int32) ee) - (own_st xs (0 : Int32) ff)))]) X626 hx hZ618 [(.ref b611), (.int 0), (.int ee)] ho618 (own_m hw 148 rfl) (own_m hw 149 rfl) (by decide) (own_m hw 150 rfl) (own_m hw 4 rfl) e626 (rmSt_0 l Z a0 hw [] b611 k611  ee T624.heap n0 (Nat.le_trans (Nat.le_trans (Nat.le_trans Zs617 K618.1) E623.1) K624.1) (Arv.keep ((Arv.keep f616 K618 (ninS (Nat.ne_of_lt (Nat.lt_of_lt_of_le Ex611.lt (Nat.le_of_eq g612.symm))) nin0)).ext E623) K624 (ninS (Nat.ne_of_lt (Nat.lt_of_lt_of_le (Exa.keep f615 K618).lt (Nat.le_of_eq g623.symm))) nin0))) (by rw [hml]; rfl) (lenOf pd_18 rfl) rfl (Nat.le_of_eq rfl) (hb hby at_220) (by decide) (by decide) (by decide) (by decide) fun v627 T627 L627 X627 hQ627 => ?_
    obtain ⟨rfl, N627q, e627⟩ := hQ627
    have N627 := Fr.app N626 N627q
    show own_At p e below _ T627 m 223 _ [(.int (own_start0  ee)), (.int ((own_st xs (0 : Int32) ee) - (own_st xs (0 : Int32) ff)))]
    refine own_aload X627 hx (hb hby at_223) rfl rfl ?_
    refine own_iload X627 hx (hb hby at_225) rfl ?_
    refine own_iload X627 hx (hb hby at_227) rfl ?_
    refine own_cStat (W := 2) (rest := [(.int (own_start0  ee)), (.int ((own_st xs (0 : Int32) ee) - (own_st xs (0 : Int32) ff)))]) X627 hx hZ618 [(.ref b611), (.int 0), (.int ff)] ho618 (own_m hw 148 rfl) (own_m hw 149 rfl) (by decide) (own_m hw 150 rfl) (own_m hw 4 rfl) e627 (rmSt_0 l Z a0 hw [] b611 k611  ff T624.heap n0 (Nat.le_trans (Nat.le_trans (Nat.le_trans Zs617 K618.1) E623.1) K624.1) (Arv.keep ((Arv.keep f616 K618 (ninS (Nat.ne_of_lt (Nat.lt_of_lt_of_le Ex611.lt (Nat.le_of_eq g612.symm))) nin0)).ext E623) K624 (ninS (Nat.ne_of_lt (Nat.lt_of_lt_of_le (Exa.keep f615 K618).lt (Nat.le_of_eq g623.symm))) nin0))) (by rw [hml]; rfl) (lenOf pd_18 rfl) rfl (Nat.le_of_eq rfl) (hb hby at_229) (by decide) (by decide) (by decide) (by decide) fun v628 T628 L628 X628 hQ628 => ?_
    obtain ⟨rfl, N628q, e628⟩ := hQ628
    have N628 := Fr.app N627 N628q
    show own_At p e below _ T628 m 232 _ [(.int (own_start0  ff)), (.int (own_start0  ee)), (.int ((own_st xs (0 : Int32) ee) - (own_st xs (0 : Int32) ff)))]
    refine own_isub X628 hx (hb hby at_232) ?_
    refine own_icmpNo X628 hx (hb hby at_233) (teq (by rw [heq _ f0 f1, heq _ g0 g1])).2 ?_
    refine own_iconst X628 hx 1 (hb hby at_236) rfl ?_
    refine own_goto X628 hx 241 (hb hby at_237) (by decide) (by decide) ?_
    refine own_retN X628 hx hlk hret (by simp) (by decide) (hb hby at_241) (own_kL hS618 (by rw [e628]; exact (Nat.le_trans (Nat.le_trans (Nat.le_refl _) E623.1) K624.1)) (by decide) (by decide) ?_)
    try rw [e628]
    exact ⟨rfl, N628⟩
  · rw [hr610]
    refine own_istore (l' := #[.val (.long j1), .second, .val (.int p1), .val (.int p2), .val (.int p3), .val (.int 1), .unset, .unset, .unset, .unset, .unset, .unset, .unset]) X0 hx (hb hby at_6) rfl ?_
    refine own_iload X0 hx (hb hby at_8) rfl ?_
    refine own_newP (n := (1 : Int32)) (cap := 1) (ad := "[C") X0 hx hZ (own_m hw 1 rfl) e0 (hb hby at_10) (by decide) (by decide) (by decide) (by decide) (by decide) (by decide) fun T629 h629 k629 b629 g629 X629 e629 E629 A629 Ex629 => ?_
    have g_b629 : n0 ≤ b629 := Nat.le_trans Z0 (Nat.le_of_eq g629.symm)
    have szo_b629 : h0.size ≤ b629 := Nat.le_trans (Nat.le_refl h0.size) (Nat.le_of_eq g629.symm)
    have V629 : Arv Z h629 b629 k629 .char (1 : Int32) [(.int 0)] (.int 0) := (Arv.new A629 (by decide)).pad (pad_rep [] (.int 0) 1)
    refine own_astore (l' := #[.val (.long j1), .second, .val (.int p1), .val (.int p2), .val (.int p3), .val (.int 1), .val (.ref b629), .unset, .unset, .unset, .unset, .unset, .unset]) X629 hx (hb hby at_12) rfl rfl ?_
    refine own_iload X629 hx (hb hby at_14) rfl ?_
    refine own_ifNo X629 hx (hb hby at_16) (tlt (by decide : (0 : Int32) < (1 : Int32))).2.2.2 ?_
    refine own_aload X629 hx (hb hby at_19) rfl rfl ?_
    refine own_iconst X629 hx 0 (hb hby at_21) rfl ?_
    refine own_lloadN X629 hx (hb hby at_22) rfl ?_
    refine own_cStat (W := 2) (rest := [(.int 0), (.ref b629)]) X629 hx hZ [(.long j1)] hown (own_m hw 2 rfl) (own_m hw 3 rfl) (by decide) (own_m hw 5 rfl) (own_m hw 4 rfl) e629 (rmPick l Z a0 hw [] j1 h629 n0 (Nat.le_trans Z0 E629.1)) (by rw [hml]; rfl) (lenOf pd_20 rfl) rfl (Nat.le_of_eq rfl) (hb hby at_23) (by decide) (by decide) (by decide) (by decide) fun v630 T630 L630 X630 hQ630 => ?_
    obtain ⟨c630, rfl, N630q, e630, lo630, hi630⟩ := hQ630
    have N630 := Fr.app N0 N630q
    show own_At p e below _ T630 m 26 _ [(.int c630), (.int 0), (.ref b629)]
    refine own_stC (vs' := [(.int c630)]) (w := (.int c630)) X630 hx hZ e630 V629 ⟨by decide, by decide⟩ 0 rfl (Nat.le_of_ble_eq_true rfl) (congrArg Value.int (own_narc lo630 hi630)) rfl (hb hby at_26) fun T631 h631 X631 e631 W631 V631 => ?_
    have N631 := Fr.snoc X631 N630 g_b629
    refine own_iload X631 hx (hb hby at_27) rfl ?_
    refine own_iconst X631 hx 1 (hb hby at_29) rfl ?_
    refine own_icmpYes X631 hx 44 (hb hby at_30) (flt (by decide : ¬ ((1 : Int32) < (1 : Int32)))).2.2.2 (by decide) (by decide) ?_
    refine own_iload X631 hx (hb hby at_44) rfl ?_
    refine own_iconst X631 hx 2 (hb hby at_46) rfl ?_
    refine own_icmpYes X631 hx 61 (hb hby at_47) (flt (by decide : ¬ ((2 : Int32) < (1 : Int32)))).2.2.2 (by decide) (by decide) ?_
    refine own_iload X631 hx (hb hby at_61) rfl ?_
    refine own_iconst X631 hx 3 (hb hby at_63) rfl ?_
    refine own_icmpYes X631 hx 78 (hb hby at_64) (flt (by decide : ¬ ((3 : Int32) < (1 : Int32)))).2.2.2 (by decide) (by decide) ?_
    refine own_newO X631 hx hZ hown (own_m hw 7 rfl) (own_m hw 8 rfl) (own_m hw 9 rfl) e631 (hb hby at_78) (by decide) (by decide) fun T632 h632 b632 g632 X632 e632 E632 A632 D632 => ?_
    have g_b632 : n0 ≤ b632 := Nat.le_trans (Nat.le_trans (Nat.le_trans Z0 E629.1) (Keep.of_wr W631).1) (Nat.le_of_eq g632.symm)
    have szo_b632 : h0.size ≤ b632 := Nat.le_trans (Nat.le_trans (Nat.le_trans (Nat.le_refl h0.size) E629.1) (Keep.of_wr W631).1) (Nat.le_of_eq g632.symm)
    have F_coder_b632 : Fld Z h632 b632 "java/lang/String" "coder" "B" (.int 0) := D632 (Or.inr (own_m hw 33 rfl)) (ty := .byte) (by decide)
    have F_value_b632 : Fld Z h632 b632 "java/lang/String" "value" "[B" .null := D632 (Or.inr (own_m hw 35 rfl)) (ty := (.array .byte)) (by decide)
    refine own_dup X632 hx (hb hby at_81) rfl ?_
    refine own_aload X632 hx (hb hby at_82) rfl rfl ?_
    have f633 := (Sta.ext E632 (Sta.wr W631 (Sta.ext E629 Sc)))
    have f634 := (Sta.ext E632 (Sta.wr W631 (Sta.ext E629 Sf)))
    have f635 := (Exa.ext E632 (Exa.wr W631 Ex629))
    have f636 := (V631.ext E632)
    have Zs637 : n0 ≤ h632.size := (Nat.le_trans (Nat.le_trans (Nat.le_trans Z0 E629.1) (Keep.of_wr W631).1) E632.1)
    refine own_cSpec (b := b632) (W := 1) (rest := [(.ref b632)]) X632 hx hZ [(.ref b629)] rfl hown (own_m hw 10 rfl) (own_m hw 11 rfl) (by decide) (own_m hw 12 rfl) (own_m hw 9 rfl) e632 (rmI1_1 l Z a0 hw [] b632 b629 k629 cs c630 h632 n0 Zs637 A632 F_value_b632 F_coder_b632 g_b632 f633 hcs f636 f635 hi630) (by rw [hml]; rfl) (lenOf pd_17 rfl) rfl (Nat.le_of_eq rfl) (hb hby at_84) (by decide) (by decide) (by decide) (by decide) fun v638 T638 L638 X638 hQ638 => ?_
    obtain ⟨rfl, N638q, K638, sb638, kb638, szb638, Eb638, Ea638, Fv638, Fc638, Vb638⟩ := hQ638
    have N638 := Fr.app N631 N638q
    obtain ⟨sz, k, al, xs, hk, h6, hal, heq, hsz, hLI⟩ := own_LO_1 l Z a0 hw cs fm c630 lo630 hi630
    show own_At p e below _ T638 m 87 _ [(.ref b632)]
    refine own_astore (l' := #[.val (.long j1), .second, .val (.int p1), .val (.int p2), .val (.int p3), .val (.int 1), .val (.ref b629), .val (.ref b632), .unset, .unset, .unset, .unset, .unset]) X638 hx (hb hby at_87) rfl rfl ?_
    refine own_aload X638 hx (hb hby at_89) rfl rfl ?_
    refine own_iload X638 hx (hb hby at_91) rfl ?_
    refine own_iconst X638 hx 0 (hb hby at_93) rfl ?_
    refine own_cStat (W := 0) (rest := []) X638 hx hZ [(.ref b629), (.int 1), (.int 0)] hown (own_m hw 36 rfl) (own_m hw 37 rfl) (by decide) (own_m hw 38 rfl) (own_m hw 4 rfl) rfl (rmNl_1_0 l Z a0 hw [] b629 k629 c630 T638.heap n0 (Nat.le_trans Zs637 K638.1) (Arv.keep f636 K638 (ninS (Nat.ne_of_lt (Nat.lt_of_lt_of_le V631.lt (Nat.le_of_eq g632.symm))) nin0))) (by rw [hml]; rfl) (lenOf pd_18 rfl) rfl (Nat.le_of_eq rfl) (hb hby at_94) (by decide) (by decide) (by decide) (by decide) fun v639 T639 L639 X639 hQ639 => ?_
    obtain ⟨rfl, N639q, e639⟩ := hQ639
    have N639 := Fr.app N638 N639q
    show own_At p e below _ T639 m 97 _ [(.int (own_nl c630))]
    refine own_aload X639 hx (hb hby at_97) rfl rfl ?_
    refine own_iload X639 hx (hb hby at_99) rfl ?_
    refine own_iconst X639 hx 1 (hb hby at_101) rfl ?_
    refine own_cStat (W := 1) (rest := [(.int (own_nl c630))]) X639 hx hZ [(.ref b629), (.int 1), (.int 1)] hown (own_m hw 36 rfl) (own_m hw 37 rfl) (by decide) (own_m hw 38 rfl) (own_m hw 4 rfl) e639 (rmNlo l Z a0 hw [] b629 (1 : Int32) (1 : Int32) T638.heap n0 (Nat.le_trans Zs637 K638.1) (by decide)) (by rw [hml]; rfl) (lenOf pd_18 rfl) rfl (Nat.le_of_eq rfl) (hb hby at_102) (by decide) (by decide) (by decide) (by decide) fun v640 T640 L640 X640 hQ640 => ?_
    obtain ⟨rfl, N640q, e640⟩ := hQ640
    have N640 := Fr.app N639 N640q
    show own_At p e below _ T640 m 105 _ [(.int 0), (.int (own_nl c630))]
    refine own_iadd X640 hx (hb hby at_105) ?_
    refine own_aload X640 hx (hb hby at_106) rfl rfl ?_
    refine own_iload X640 hx (hb hby at_108) rfl ?_
    refine own_iconst X640 hx 2 (hb hby at_110) rfl ?_
    refine own_cStat (W := 1) (rest := [(.int ((own_nl c630) + (0 : Int32)))]) X640 hx hZ [(.ref b629), (.int 1), (.int 2)] hown (own_m hw 36 rfl) (own_m hw 37 rfl) (by decide) (own_m hw 38 rfl) (own_m hw 4 rfl) e640 (rmNlo l Z a0 hw [] b629 (1 : Int32) (2 : Int32) T638.heap n0 (Nat.le_trans Zs637 K638.1) (by decide)) (by rw [hml]; rfl) (lenOf pd_18 rfl) rfl (Nat.le_of_eq rfl) (hb hby at_111) (by decide) (by decide) (by decide) (by decide) fun v641 T641 L641 X641 hQ641 => ?_
    obtain ⟨rfl, N641q, e641⟩ := hQ641
    have N641 := Fr.app N640 N641q
    show own_At p e below _ T641 m 114 _ [(.int 0), (.int ((own_nl c630) + (0 : Int32)))]
    refine own_iadd X641 hx (hb hby at_114) ?_
    refine own_aload X641 hx (hb hby at_115) rfl rfl ?_
    refine own_iload X641 hx (hb hby at_117) rfl ?_
    refine own_iconst X641 hx 3 (hb hby at_119) rfl ?_
    refine own_cStat (W := 1) (rest := [(.int (((own_nl c630) + (0 : Int32)) + (0 : Int32)))]) X641 hx hZ [(.ref b629), (.int 1), (.int 3)] hown (own_m hw 36 rfl) (own_m hw 37 rfl) (by decide) (own_m hw 38 rfl) (own_m hw 4 rfl) e641 (rmNlo l Z a0 hw [] b629 (1 : Int32) (3 : Int32) T638.heap n0 (Nat.le_trans Zs637 K638.1) (by decide)) (by rw [hml]; rfl) (lenOf pd_18 rfl) rfl (Nat.le_of_eq rfl) (hb hby at_120) (by decide) (by decide) (by decide) (by decide) fun v642 T642 L642 X642 hQ642 => ?_
    obtain ⟨rfl, N642q, e642⟩ := hQ642
    have N642 := Fr.app N641 N642q
    show own_At p e below _ T642 m 123 _ [(.int 0), (.int (((own_nl c630) + (0 : Int32)) + (0 : Int32)))]
    refine own_iadd X642 hx (hb hby at_123) ?_
    refine own_istore (l' := #[.val (.long j1), .second, .val (.int p1), .val (.int p2), .val (.int p3), .val (.int 1), .val (.ref b629), .val (.ref b632), .val (.int ((((own_nl c630) + (0 : Int32)) + (0 : Int32)) + (0 : Int32))), .unset, .unset, .unset, .unset]) X642 hx (hb hby at_124) rfl ?_
    refine own_join 151 #[.val (.long j1), .second, .val (.int p1), .val (.int p2), .val (.int p3), .val (.int 1), .val (.ref b629), .val (.ref b632), .val (.int ((((own_nl c630) + (0 : Int32)) + (0 : Int32)) + (0 : Int32))), .unset, .unset, .unset, .unset] [(.int sz)] ?_ fun hJ => ?_
    · skip
      refine own_istore (l' := #[.val (.long j1), .second, .val (.int p1), .val (.int p2), .val (.int p3), .val (.int 1), .val (.ref b629), .val (.ref b632), .val (.int ((((own_nl c630) + (0 : Int32)) + (0 : Int32)) + (0 : Int32))), .val (.int sz), .unset, .unset, .unset]) X642 hx (hb hby at_151) rfl ?_
      refine own_newO X642 hx hZ hown (own_m hw 39 rfl) (own_m hw 40 rfl) (own_m hw 41 rfl) e642 (hb hby at_153) (by decide) (by decide) fun T643 h643 b643 g643 X643 e643 E643 A643 D643 => ?_
      have g_b643 : n0 ≤ b643 := Nat.le_trans (Nat.le_trans Zs637 K638.1) (Nat.le_of_eq g643.symm)
      have szo_b643 : h0.size ≤ b643 := Nat.le_trans (Nat.le_trans (Nat.le_trans (Nat.le_trans (Nat.le_trans (Nat.le_refl h0.size) E629.1) (Keep.of_wr W631).1) E632.1) K638.1) (Nat.le_of_eq g643.symm)
      have F_modCount_b643 : Fld Z h643 b643 "java/util/AbstractList" "modCount" "I" (.int 0) := D643 (Or.inl (own_m hw 58 rfl)) (ty := .int) (by decide)
      have F_text_b643 : Fld Z h643 b643 "com/example/amendtrail/amendtrail/write/Lines" "text" "Ljava/lang/String;" .null := D643 (Or.inr (own_m hw 60 rfl)) (ty := (.object "java/lang/String")) (by decide)
      have F_size_b643 : Fld Z h643 b643 "com/example/amendtrail/amendtrail/write/Lines" "size" "I" (.int 0) := D643 (Or.inr (own_m hw 135 rfl)) (ty := .int) (by decide)
      have F_starts_b643 : Fld Z h643 b643 "com/example/amendtrail/amendtrail/write/Lines" "starts" "[I" .null := D643 (Or.inr (own_m hw 137 rfl)) (ty := (.array .int)) (by decide)
      refine own_dup X643 hx (hb hby at_156) rfl ?_
      refine own_aload X643 hx (hb hby at_157) rfl rfl ?_
      refine own_cSpec (b := b643) (W := 1) (rest := [(.ref b643)]) X643 hx hZ [(.ref b632)] rfl hown (own_m hw 42 rfl) (own_m hw 43 rfl) (by decide) (own_m hw 44 rfl) (own_m hw 41 rfl) e643 (hLI b643 b632 sb638 kb638 h643 n0 (Nat.le_trans (Nat.le_trans Zs637 K638.1) E643.1) (Sta.ext E643 (own_staKeep f633 K638 (allS (own_exaStat A632) all0))) hcs (Exa.ext E643 Ea638) (Fld.ext E643 Fv638) (Fld.ext E643 Fc638) (Vb638.ext E643) (Sta.ext E643 (own_staKeep f634 K638 (allS (own_exaStat A632) all0))) hfm A643 F_modCount_b643 g_b643 (Nat.ne_of_lt (Nat.lt_of_lt_of_le Vb638.lt (Nat.le_of_eq g643.symm))) F_text_b643 F_size_b643 F_starts_b643) (by rw [hml]; rfl) (lenOf pd_19 rfl) rfl (Nat.le_of_eq rfl) (hb hby at_159) (by decide) (by decide) (by decide) (by decide) fun v644 T644 L644 X644 hQ644 => ?_
      obtain ⟨rfl, N644q, K644, sa644, ks644, Eo644, Fz644, Fs644, Vs644⟩ := hQ644
      have N644 := Fr.app N642 N644q
      show own_At p e below _ T644 m 162 _ [(.ref b643)]
      refine own_astore (l' := #[.val (.long j1), .second, .val (.int p1), .val (.int p2), .val (.int p3), .val (.int 1), .val (.ref b629), .val (.ref b632), .val (.int ((((own_nl c630) + (0 : Int32)) + (0 : Int32)) + (0 : Int32))), .val (.int sz), .val (.ref b643), .unset, .unset]) X644 hx (hb hby at_162) rfl rfl ?_
      refine own_aload X644 hx (hb hby at_164) rfl rfl ?_
      refine own_cVirt (W := 0) (rest := []) X644 hx hZ [] hown (own_m hw 138 rfl) (own_m hw 139 rfl) (notFace_of_selects (args := #[]) (mvT hZ (own_m hw 141 rfl))) (own_m hw 141 rfl) (own_m hw 140 rfl) (by decide) (own_m hw 142 rfl) (own_m hw 41 rfl) rfl Eo644 (rmSz l Z a0 hw [] b643 sz T644.heap n0 (Nat.le_trans (Nat.le_trans (Nat.le_trans Zs637 K638.1) E643.1) K644.1) Fz644) (by rw [hml]; rfl) (lenOf pd_9 rfl) rfl (Nat.le_of_eq rfl) (hb hby at_166) (by decide) (by decide) (by decide) (by decide) fun v645 T645 L645 X645 hQ645 => ?_
      obtain ⟨rfl, N645q, e645⟩ := hQ645
      have N645 := Fr.app N644 N645q
      show own_At p e below _ T645 m 169 _ [(.int sz)]
      refine own_iload X645 hx (hb hby at_169) rfl ?_
      refine own_icmpYes X645 hx 176 (hb hby at_171) (teq (rfl : sz = sz)).1 (by decide) (by decide) ?_
      refine own_iloadN X645 hx (hb hby at_176) rfl ?_
      refine own_ldcI X645 hx hZ hown (own_m hw 0 rfl) (hb hby at_177) ?_
      refine own_iand X645 hx (hb hby at_179) ?_
      refine own_iload X645 hx (hb hby at_180) rfl ?_
      refine own_iconst X645 hx 1 (hb hby at_182) rfl ?_
      refine own_iadd X645 hx (hb hby at_183) ?_
      obtain ⟨z1, f0, f1⟩ := own_fst p2 sz (sz + (1 : Int32)) k hk h6 rfl
      refine own_irem X645 hx (hb hby at_184) z1 ?_
      generalize hff : ((p2 &&& (2147483647 : Int32)) % (sz + (1 : Int32))) = ff at *
      refine own_istore (l' := #[.val (.long j1), .second, .val (.int p1), .val (.int p2), .val (.int p3), .val (.int 1), .val (.ref b629), .val (.ref b632), .val (.int ((((own_nl c630) + (0 : Int32)) + (0 : Int32)) + (0 : Int32))), .val (.int sz), .val (.ref b643), .val (.int ff), .unset]) X645 hx (hb hby at_185) rfl ?_
      refine own_iload X645 hx (hb hby at_187) rfl ?_
      refine own_iload X645 hx (hb hby at_189) rfl ?_
      refine own_ldcI X645 hx hZ hown (own_m hw 0 rfl) (hb hby at_191) ?_
      refine own_iand X645 hx (hb hby at_193) ?_
      refine own_iload X645 hx (hb hby at_194) rfl ?_
      refine own_iconst X645 hx 1 (hb hby at_196) rfl ?_
      refine own_iadd X645 hx (hb hby at_197) ?_
      refine own_iload X645 hx (hb hby at_198) rfl ?_
      refine own_isub X645 hx (hb hby at_200) ?_
      obtain ⟨z0, g0, g1⟩ := own_snd p3 sz (sz + (1 : Int32)) ff k hk h6 rfl f0 f1
      refine own_irem X645 hx (hb hby at_201) z0 ?_
      refine own_iadd X645 hx (hb hby at_202) ?_
      generalize hee : (ff + ((p3 &&& (2147483647 : Int32)) % ((sz + (1 : Int32)) - ff))) = ee at *
      refine own_istore (l' := #[.val (.long j1), .second, .val (.int p1), .val (.int p2), .val (.int p3), .val (.int 1), .val (.ref b629), .val (.ref b632), .val (.int ((((own_nl c630) + (0 : Int32)) + (0 : Int32)) + (0 : Int32))), .val (.int sz), .val (.ref b643), .val (.int ff), .val (.int ee)]) X645 hx (hb hby at_203) rfl ?_
      refine own_aload X645 hx (hb hby at_205) rfl rfl ?_
      refine own_iload X645 hx (hb hby at_207) rfl ?_
      refine own_iload X645 hx (hb hby at_209) rfl ?_
      refine own_cVirt (W := 0) (rest := []) X645 hx hZ [(.int ff), (.int ee)] hown (own_m hw 143 rfl) (own_m hw 144 rfl) (notFace_of_selects (args := #[]) (mvT hZ (own_m hw 146 rfl))) (own_m hw 146 rfl) (own_m hw 145 rfl) (by decide) (own_m hw 147 rfl) (own_m hw 41 rfl) e645 Eo644 (rmLL l Z a0 hw [] b643 sa644 ks644 xs al ff ee T644.heap n0 (Nat.le_trans (Nat.le_trans (Nat.le_trans Zs637 K638.1) E643.1) K644.1) Fs644 Vs644 (own_lt65 hk h6 hal f0 f1) (own_lt65 hk h6 hal g0 g1)) (by rw [hml]; rfl) (lenOf pd_6 rfl) rfl (Nat.le_of_eq rfl) (hb hby at_211) (by decide) (by decide) (by decide) (by decide) fun v646 T646 L646 X646 hQ646 => ?_
      obtain ⟨rfl, N646q, e646⟩ := hQ646
      have N646 := Fr.app N645 N646q
      show own_At p e below _ T646 m 214 _ [(.int ((own_st xs (0 : Int32) ee) - (own_st xs (0 : Int32) ff)))]
      refine own_aload X646 hx (hb hby at_214) rfl rfl ?_
      refine own_iload X646 hx (hb hby at_216) rfl ?_
      refine own_iload X646 hx (hb hby at_218) rfl ?_
      refine own_cStat (W := 1) (rest := [(.int ((own_st xs (0 : Int32) ee) - (own_st xs (0 : Int32) ff)))]) X646 hx hZ [(.ref b629), (.int 1), (.int ee)] hown (own_m hw 148 rfl) (own_m hw 149 rfl) (by decide) (own_m hw 150 rfl) (own_m hw 4 rfl) e646 (rmSt_1 l Z a0 hw [] b629 k629 c630 ee T644.heap n0 (Nat.le_trans (Nat.le_trans (Nat.le_trans Zs637 K638.1) E643.1) K644.1) (Arv.keep ((Arv.keep f636 K638 (ninS (Nat.ne_of_lt (Nat.lt_of_lt_of_le V631.lt (Nat.le_of_eq g632.symm))) nin0)).ext E643) K644 (ninS (Nat.ne_of_lt (Nat.lt_of_lt_of_le (Exa.keep f635 K638).lt (Nat.le_of_eq g643.symm))) nin0))) (by rw [hml]; rfl) (lenOf pd_18 rfl) rfl (Nat.le_of_eq rfl) (hb hby at_220) (by decide) (by decide) (by decide) (by decide) fun v647 T647 L647 X647 hQ647 => ?_
      obtain ⟨rfl, N647q, e647⟩ := hQ647
      have N647 := Fr.app N646 N647q
      show own_At p e below _ T647 m 223 _ [(.int (own_start1 c630 ee)), (.int ((own_st xs (0 : Int32) ee) - (own_st xs (0 : Int32) ff)))]
      refine own_aload X647 hx (hb hby at_223) rfl rfl ?_
      refine own_iload X647 hx (hb hby at_225) rfl ?_
      refine own_iload X647 hx (hb hby at_227) rfl ?_
      refine own_cStat (W := 2) (rest := [(.int (own_start1 c630 ee)), (.int ((own_st xs (0 : Int32) ee) - (own_st xs (0 : Int32) ff)))]) X647 hx hZ [(.ref b629), (.int 1), (.int ff)] hown (own_m hw 148 rfl) (own_m hw 149 rfl) (by decide) (own_m hw 150 rfl) (own_m hw 4 rfl) e647 (rmSt_1 l Z a0 hw [] b629 k629 c630 ff T644.heap n0 (Nat.le_trans (Nat.le_trans (Nat.le_trans Zs637 K638.1) E643.1) K644.1) (Arv.keep ((Arv.keep f636 K638 (ninS (Nat.ne_of_lt (Nat.lt_of_lt_of_le V631.lt (Nat.le_of_eq g632.symm))) nin0)).ext E643) K644 (ninS (Nat.ne_of_lt (Nat.lt_of_lt_of_le (Exa.keep f635 K638).lt (Nat.le_of_eq g643.symm))) nin0))) (by rw [hml]; rfl) (lenOf pd_18 rfl) rfl (Nat.le_of_eq rfl) (hb hby at_229) (by decide) (by decide) (by decide) (by decide) fun v648 T648 L648 X648 hQ648 => ?_
      obtain ⟨rfl, N648q, e648⟩ := hQ648
      have N648 := Fr.app N647 N648q
      show own_At p e below _ T648 m 232 _ [(.int (own_start1 c630 ff)), (.int (own_start1 c630 ee)), (.int ((own_st xs (0 : Int32) ee) - (own_st xs (0 : Int32) ff)))]
      refine own_isub X648 hx (hb hby at_232) ?_
      refine own_icmpNo X648 hx (hb hby at_233) (teq (by rw [heq _ f0 f1, heq _ g0 g1])).2 ?_
      refine own_iconst X648 hx 1 (hb hby at_236) rfl ?_
      refine own_goto X648 hx 241 (hb hby at_237) (by decide) (by decide) ?_
      refine own_retN X648 hx hlk hret (by simp) (by decide) (hb hby at_241) (own_kL hS0 (by rw [e648]; exact (Nat.le_trans (Nat.le_trans (Nat.le_trans (Nat.le_trans (Nat.le_trans (Nat.le_trans (Nat.le_refl _) E629.1) (Keep.of_wr W631).1) E632.1) K638.1) E643.1) K644.1)) (by decide) (by decide) ?_)
      try rw [e648]
      exact ⟨rfl, N648⟩
    · skip
      refine own_iload X642 hx (hb hby at_126) rfl ?_
      refine own_iload X642 hx (hb hby at_128) rfl ?_
      refine own_ifNo X642 hx (hb hby at_130) (tlt (by decide : (0 : Int32) < (1 : Int32))).2.2.2 ?_
      refine own_aload X642 hx (hb hby at_133) rfl rfl ?_
      refine own_iload X642 hx (hb hby at_135) rfl ?_
      refine own_iconst X642 hx 1 (hb hby at_137) rfl ?_
      refine own_isub X642 hx (hb hby at_138) ?_
      rw [show ((1 : Int32) - (1 : Int32)) = (0 : Int32) from by decide]
      refine own_caload X642 hx hZ (.int c630) e642 (Arv.keep f636 K638 (ninS (Nat.ne_of_lt (Nat.lt_of_lt_of_le V631.lt (Nat.le_of_eq g632.symm))) nin0)) ⟨by decide, by decide⟩ rfl (hb hby at_139) ?_
      refine own_bipush X642 hx 10 (hb hby at_140) rfl ?_
      by_cases hc649 : c630 = (10 : Int32)
      · refine own_icmpYes X642 hx 149 (hb hby at_142) (teq hc649).1 (by decide) (by decide) ?_
        refine own_iconst X642 hx 0 (hb hby at_149) rfl ?_
        refine own_iadd X642 hx (hb hby at_150) ?_
        rw [hsz.1 hc649]; exact hJ
      · refine own_icmpNo X642 hx (hb hby at_142) (feq hc649).1 ?_
        refine own_iconst X642 hx 1 (hb hby at_145) rfl ?_
        refine own_goto X642 hx 150 (hb hby at_146) (by decide) (by decide) ?_
        refine own_iadd X642 hx (hb hby at_150) ?_
        rw [hsz.2 hc649]; exact hJ
  · rw [hr610]
    refine own_istore (l' := #[.val (.long j1), .second, .val (.int p1), .val (.int p2), .val (.int p3), .val (.int 2), .unset, .unset, .unset, .unset, .unset, .unset, .unset]) X0 hx (hb hby at_6) rfl ?_
    refine own_iload X0 hx (hb hby at_8) rfl ?_
    refine own_newP (n := (2 : Int32)) (cap := 2) (ad := "[C") X0 hx hZ (own_m hw 1 rfl) e0 (hb hby at_10) (by decide) (by decide) (by decide) (by decide) (by decide) (by decide) fun T650 h650 k650 b650 g650 X650 e650 E650 A650 Ex650 => ?_
    have g_b650 : n0 ≤ b650 := Nat.le_trans Z0 (Nat.le_of_eq g650.symm)
    have szo_b650 : h0.size ≤ b650 := Nat.le_trans (Nat.le_refl h0.size) (Nat.le_of_eq g650.symm)
    have V650 : Arv Z h650 b650 k650 .char (2 : Int32) [(.int 0), (.int 0)] (.int 0) := (Arv.new A650 (by decide)).pad (pad_rep [] (.int 0) 2)
    refine own_astore (l' := #[.val (.long j1), .second, .val (.int p1), .val (.int p2), .val (.int p3), .val (.int 2), .val (.ref b650), .unset, .unset, .unset, .unset, .unset, .unset]) X650 hx (hb hby at_12) rfl rfl ?_
    refine own_iload X650 hx (hb hby at_14) rfl ?_
    refine own_ifNo X650 hx (hb hby at_16) (tlt (by decide : (0 : Int32) < (2 : Int32))).2.2.2 ?_
    refine own_aload X650 hx (hb hby at_19) rfl rfl ?_
    refine own_iconst X650 hx 0 (hb hby at_21) rfl ?_
    refine own_lloadN X650 hx (hb hby at_22) rfl ?_
    refine own_cStat (W := 2) (rest := [(.int 0), (.ref b650)]) X650 hx hZ [(.long j1)] hown (own_m hw 2 rfl) (own_m hw 3 rfl) (by decide) (own_m hw 5 rfl) (own_m hw 4 rfl) e650 (rmPick l Z a0 hw [] j1 h650 n0 (Nat.le_trans Z0 E650.1)) (by rw [hml]; rfl) (lenOf pd_20 rfl) rfl (Nat.le_of_eq rfl) (hb hby at_23) (by decide) (by decide) (by decide) (by decide) fun v651 T651 L651 X651 hQ651 => ?_
    obtain ⟨c651, rfl, N651q, e651, lo651, hi651⟩ := hQ651
    have N651 := Fr.app N0 N651q
    show own_At p e below _ T651 m 26 _ [(.int c651), (.int 0), (.ref b650)]
    refine own_stC (vs' := [(.int c651), (.int 0)]) (w := (.int c651)) X651 hx hZ e651 V650 ⟨by decide, by decide⟩ 0 rfl (Nat.le_of_ble_eq_true rfl) (congrArg Value.int (own_narc lo651 hi651)) rfl (hb hby at_26) fun T652 h652 X652 e652 W652 V652 => ?_
    have N652 := Fr.snoc X652 N651 g_b650
    refine own_iload X652 hx (hb hby at_27) rfl ?_
    refine own_iconst X652 hx 1 (hb hby at_29) rfl ?_
    refine own_icmpNo X652 hx (hb hby at_30) (tlt (by decide : (1 : Int32) < (2 : Int32))).2.2.2 ?_
    refine own_aload X652 hx (hb hby at_33) rfl rfl ?_
    refine own_iconst X652 hx 1 (hb hby at_35) rfl ?_
    refine own_lloadN X652 hx (hb hby at_36) rfl ?_
    refine own_bipush X652 hx 9 (hb hby at_37) rfl ?_
    refine own_lushr X652 hx (hb hby at_39) ?_
    refine own_cStat (W := 2) (rest := [(.int 1), (.ref b650)]) X652 hx hZ [(.long ((j1.toUInt64 >>> ((9 : Int32) &&& 0x3f).toInt64.toUInt64).toInt64))] hown (own_m hw 2 rfl) (own_m hw 3 rfl) (by decide) (own_m hw 5 rfl) (own_m hw 4 rfl) e652 (rmPick l Z a0 hw [] ((j1.toUInt64 >>> ((9 : Int32) &&& 0x3f).toInt64.toUInt64).toInt64) h652 n0 (Nat.le_trans (Nat.le_trans Z0 E650.1) (Keep.of_wr W652).1)) (by rw [hml]; rfl) (lenOf pd_20 rfl) rfl (Nat.le_of_eq rfl) (hb hby at_40) (by decide) (by decide) (by decide) (by decide) fun v653 T653 L653 X653 hQ653 => ?_
    obtain ⟨c653, rfl, N653q, e653, lo653, hi653⟩ := hQ653
    have N653 := Fr.app N652 N653q
    show own_At p e below _ T653 m 43 _ [(.int c653), (.int 1), (.ref b650)]
    refine own_stC (vs' := [(.int c651), (.int c653)]) (w := (.int c653)) X653 hx hZ e653 V652 ⟨by decide, by decide⟩ 1 rfl (Nat.le_of_ble_eq_true rfl) (congrArg Value.int (own_narc lo653 hi653)) rfl (hb hby at_43) fun T654 h654 X654 e654 W654 V654 => ?_
    have N654 := Fr.snoc X654 N653 g_b650
    refine own_iload X654 hx (hb hby at_44) rfl ?_
    refine own_iconst X654 hx 2 (hb hby at_46) rfl ?_
    refine own_icmpYes X654 hx 61 (hb hby at_47) (flt (by decide : ¬ ((2 : Int32) < (2 : Int32)))).2.2.2 (by decide) (by decide) ?_
    refine own_iload X654 hx (hb hby at_61) rfl ?_
    refine own_iconst X654 hx 3 (hb hby at_63) rfl ?_
    refine own_icmpYes X654 hx 78 (hb hby at_64) (flt (by decide : ¬ ((3 : Int32) < (2 : Int32)))).2.2.2 (by decide) (by decide) ?_
    refine own_newO X654 hx hZ hown (own_m hw 7 rfl) (own_m hw 8 rfl) (own_m hw 9 rfl) e654 (hb hby at_78) (by decide) (by decide) fun T655 h655 b655 g655 X655 e655 E655 A655 D655 => ?_
    have g_b655 : n0 ≤ b655 := Nat.le_trans (Nat.le_trans (Nat.le_trans (Nat.le_trans Z0 E650.1) (Keep.of_wr W652).1) (Keep.of_wr W654).1) (Nat.le_of_eq g655.symm)
    have szo_b655 : h0.size ≤ b655 := Nat.le_trans (Nat.le_trans (Nat.le_trans (Nat.le_trans (Nat.le_refl h0.size) E650.1) (Keep.of_wr W652).1) (Keep.of_wr W654).1) (Nat.le_of_eq g655.symm)
    have F_coder_b655 : Fld Z h655 b655 "java/lang/String" "coder" "B" (.int 0) := D655 (Or.inr (own_m hw 33 rfl)) (ty := .byte) (by decide)
    have F_value_b655 : Fld Z h655 b655 "java/lang/String" "value" "[B" .null := D655 (Or.inr (own_m hw 35 rfl)) (ty := (.array .byte)) (by decide)
    refine own_dup X655 hx (hb hby at_81) rfl ?_
    refine own_aload X655 hx (hb hby at_82) rfl rfl ?_
    have f656 := (Sta.ext E655 (Sta.wr W654 (Sta.wr W652 (Sta.ext E650 Sc))))
    have f657 := (Sta.ext E655 (Sta.wr W654 (Sta.wr W652 (Sta.ext E650 Sf))))
    have f658 := (Exa.ext E655 (Exa.wr W654 (Exa.wr W652 Ex650)))
    have f659 := (V654.ext E655)
    have Zs660 : n0 ≤ h655.size := (Nat.le_trans (Nat.le_trans (Nat.le_trans (Nat.le_trans Z0 E650.1) (Keep.of_wr W652).1) (Keep.of_wr W654).1) E655.1)
    refine own_cSpec (b := b655) (W := 1) (rest := [(.ref b655)]) X655 hx hZ [(.ref b650)] rfl hown (own_m hw 10 rfl) (own_m hw 11 rfl) (by decide) (own_m hw 12 rfl) (own_m hw 9 rfl) e655 (rmI1_2 l Z a0 hw [] b655 b650 k650 cs c651 c653 h655 n0 Zs660 A655 F_value_b655 F_coder_b655 g_b655 f656 hcs f659 f658 hi651 hi653) (by rw [hml]; rfl) (lenOf pd_17 rfl) rfl (Nat.le_of_eq rfl) (hb hby at_84) (by decide) (by decide) (by decide) (by decide) fun v661 T661 L661 X661 hQ661 => ?_
    obtain ⟨rfl, N661q, K661, sb661, kb661, szb661, Eb661, Ea661, Fv661, Fc661, Vb661⟩ := hQ661
    have N661 := Fr.app N654 N661q
    obtain ⟨sz, k, al, xs, hk, h6, hal, heq, hsz, hLI⟩ := own_LO_2 l Z a0 hw cs fm c651 c653 lo651 hi651 lo653 hi653
    show own_At p e below _ T661 m 87 _ [(.ref b655)]
    refine own_astore (l' := #[.val (.long j1), .second, .val (.int p1), .val (.int p2), .val (.int p3), .val (.int 2), .val (.ref b650), .val (.ref b655), .unset, .unset, .unset, .unset, .unset]) X661 hx (hb hby at_87) rfl rfl ?_
    refine own_aload X661 hx (hb hby at_89) rfl rfl ?_
    refine own_iload X661 hx (hb hby at_91) rfl ?_
    refine own_iconst X661 hx 0 (hb hby at_93) rfl ?_
    refine own_cStat (W := 0) (rest := []) X661 hx hZ [(.ref b650), (.int 2), (.int 0)] hown (own_m hw 36 rfl) (own_m hw 37 rfl) (by decide) (own_m hw 38 rfl) (own_m hw 4 rfl) rfl (rmNl_2_0 l Z a0 hw [] b650 k650 c651 c653 T661.heap n0 (Nat.le_trans Zs660 K661.1) (Arv.keep f659 K661 (ninS (Nat.ne_of_lt (Nat.lt_of_lt_of_le V654.lt (Nat.le_of_eq g655.symm))) nin0))) (by rw [hml]; rfl) (lenOf pd_18 rfl) rfl (Nat.le_of_eq rfl) (hb hby at_94) (by decide) (by decide) (by decide) (by decide) fun v662 T662 L662 X662 hQ662 => ?_
    obtain ⟨rfl, N662q, e662⟩ := hQ662
    have N662 := Fr.app N661 N662q
    show own_At p e below _ T662 m 97 _ [(.int (own_nl c651))]
    refine own_aload X662 hx (hb hby at_97) rfl rfl ?_
    refine own_iload X662 hx (hb hby at_99) rfl ?_
    refine own_iconst X662 hx 1 (hb hby at_101) rfl ?_
    refine own_cStat (W := 1) (rest := [(.int (own_nl c651))]) X662 hx hZ [(.ref b650), (.int 2), (.int 1)] hown (own_m hw 36 rfl) (own_m hw 37 rfl) (by decide) (own_m hw 38 rfl) (own_m hw 4 rfl) e662 (rmNl_2_1 l Z a0 hw [] b650 k650 c651 c653 T661.heap n0 (Nat.le_trans Zs660 K661.1) (Arv.keep f659 K661 (ninS (Nat.ne_of_lt (Nat.lt_of_lt_of_le V654.lt (Nat.le_of_eq g655.symm))) nin0))) (by rw [hml]; rfl) (lenOf pd_18 rfl) rfl (Nat.le_of_eq rfl) (hb hby at_102) (by decide) (by decide) (by decide) (by decide) fun v663 T663 L663 X663 hQ663 => ?_
    obtain ⟨rfl, N663q, e663⟩ := hQ663
    have N663 := Fr.app N662 N663q
    show own_At p e below _ T663 m 105 _ [(.int (own_nl c653)), (.int (own_nl c651))]
    refine own_iadd X663 hx (hb hby at_105) ?_
    refine own_aload X663 hx (hb hby at_106) rfl rfl ?_
    refine own_iload X663 hx (hb hby at_108) rfl ?_
    refine own_iconst X663 hx 2 (hb hby at_110) rfl ?_
    refine own_cStat (W := 1) (rest := [(.int ((own_nl c651) + (own_nl c653)))]) X663 hx hZ [(.ref b650), (.int 2), (.int 2)] hown (own_m hw 36 rfl) (own_m hw 37 rfl) (by decide) (own_m hw 38 rfl) (own_m hw 4 rfl) e663 (rmNlo l Z a0 hw [] b650 (2 : Int32) (2 : Int32) T661.heap n0 (Nat.le_trans Zs660 K661.1) (by decide)) (by rw [hml]; rfl) (lenOf pd_18 rfl) rfl (Nat.le_of_eq rfl) (hb hby at_111) (by decide) (by decide) (by decide) (by decide) fun v664 T664 L664 X664 hQ664 => ?_
    obtain ⟨rfl, N664q, e664⟩ := hQ664
    have N664 := Fr.app N663 N664q
    show own_At p e below _ T664 m 114 _ [(.int 0), (.int ((own_nl c651) + (own_nl c653)))]
    refine own_iadd X664 hx (hb hby at_114) ?_
    refine own_aload X664 hx (hb hby at_115) rfl rfl ?_
    refine own_iload X664 hx (hb hby at_117) rfl ?_
    refine own_iconst X664 hx 3 (hb hby at_119) rfl ?_
    refine own_cStat (W := 1) (rest := [(.int (((own_nl c651) + (own_nl c653)) + (0 : Int32)))]) X664 hx hZ [(.ref b650), (.int 2), (.int 3)] hown (own_m hw 36 rfl) (own_m hw 37 rfl) (by decide) (own_m hw 38 rfl) (own_m hw 4 rfl) e664 (rmNlo l Z a0 hw [] b650 (2 : Int32) (3 : Int32) T661.heap n0 (Nat.le_trans Zs660 K661.1) (by decide)) (by rw [hml]; rfl) (lenOf pd_18 rfl) rfl (Nat.le_of_eq rfl) (hb hby at_120) (by decide) (by decide) (by decide) (by decide) fun v665 T665 L665 X665 hQ665 => ?_
    obtain ⟨rfl, N665q, e665⟩ := hQ665
    have N665 := Fr.app N664 N665q
    show own_At p e below _ T665 m 123 _ [(.int 0), (.int (((own_nl c651) + (own_nl c653)) + (0 : Int32)))]
    refine own_iadd X665 hx (hb hby at_123) ?_
    refine own_istore (l' := #[.val (.long j1), .second, .val (.int p1), .val (.int p2), .val (.int p3), .val (.int 2), .val (.ref b650), .val (.ref b655), .val (.int ((((own_nl c651) + (own_nl c653)) + (0 : Int32)) + (0 : Int32))), .unset, .unset, .unset, .unset]) X665 hx (hb hby at_124) rfl ?_
    refine own_join 151 #[.val (.long j1), .second, .val (.int p1), .val (.int p2), .val (.int p3), .val (.int 2), .val (.ref b650), .val (.ref b655), .val (.int ((((own_nl c651) + (own_nl c653)) + (0 : Int32)) + (0 : Int32))), .unset, .unset, .unset, .unset] [(.int sz)] ?_ fun hJ => ?_
    · skip
      refine own_istore (l' := #[.val (.long j1), .second, .val (.int p1), .val (.int p2), .val (.int p3), .val (.int 2), .val (.ref b650), .val (.ref b655), .val (.int ((((own_nl c651) + (own_nl c653)) + (0 : Int32)) + (0 : Int32))), .val (.int sz), .unset, .unset, .unset]) X665 hx (hb hby at_151) rfl ?_
      refine own_newO X665 hx hZ hown (own_m hw 39 rfl) (own_m hw 40 rfl) (own_m hw 41 rfl) e665 (hb hby at_153) (by decide) (by decide) fun T666 h666 b666 g666 X666 e666 E666 A666 D666 => ?_
      have g_b666 : n0 ≤ b666 := Nat.le_trans (Nat.le_trans Zs660 K661.1) (Nat.le_of_eq g666.symm)
      have szo_b666 : h0.size ≤ b666 := Nat.le_trans (Nat.le_trans (Nat.le_trans (Nat.le_trans (Nat.le_trans (Nat.le_trans (Nat.le_refl h0.size) E650.1) (Keep.of_wr W652).1) (Keep.of_wr W654).1) E655.1) K661.1) (Nat.le_of_eq g666.symm)
      have F_modCount_b666 : Fld Z h666 b666 "java/util/AbstractList" "modCount" "I" (.int 0) := D666 (Or.inl (own_m hw 58 rfl)) (ty := .int) (by decide)
      have F_text_b666 : Fld Z h666 b666 "com/example/amendtrail/amendtrail/write/Lines" "text" "Ljava/lang/String;" .null := D666 (Or.inr (own_m hw 60 rfl)) (ty := (.object "java/lang/String")) (by decide)
      have F_size_b666 : Fld Z h666 b666 "com/example/amendtrail/amendtrail/write/Lines" "size" "I" (.int 0) := D666 (Or.inr (own_m hw 135 rfl)) (ty := .int) (by decide)
      have F_starts_b666 : Fld Z h666 b666 "com/example/amendtrail/amendtrail/write/Lines" "starts" "[I" .null := D666 (Or.inr (own_m hw 137 rfl)) (ty := (.array .int)) (by decide)
      refine own_dup X666 hx (hb hby at_156) rfl ?_
      refine own_aload X666 hx (hb hby at_157) rfl rfl ?_
      refine own_cSpec (b := b666) (W := 1) (rest := [(.ref b666)]) X666 hx hZ [(.ref b655)] rfl hown (own_m hw 42 rfl) (own_m hw 43 rfl) (by decide) (own_m hw 44 rfl) (own_m hw 41 rfl) e666 (hLI b666 b655 sb661 kb661 h666 n0 (Nat.le_trans (Nat.le_trans Zs660 K661.1) E666.1) (Sta.ext E666 (own_staKeep f656 K661 (allS (own_exaStat A655) all0))) hcs (Exa.ext E666 Ea661) (Fld.ext E666 Fv661) (Fld.ext E666 Fc661) (Vb661.ext E666) (Sta.ext E666 (own_staKeep f657 K661 (allS (own_exaStat A655) all0))) hfm A666 F_modCount_b666 g_b666 (Nat.ne_of_lt (Nat.lt_of_lt_of_le Vb661.lt (Nat.le_of_eq g666.symm))) F_text_b666 F_size_b666 F_starts_b666) (by rw [hml]; rfl) (lenOf pd_19 rfl) rfl (Nat.le_of_eq rfl) (hb hby at_159) (by decide) (by decide) (by decide) (by decide) fun v667 T667 L667 X667 hQ667 => ?_
      obtain ⟨rfl, N667q, K667, sa667, ks667, Eo667, Fz667, Fs667, Vs667⟩ := hQ667
      have N667 := Fr.app N665 N667q
      show own_At p e below _ T667 m 162 _ [(.ref b666)]
      refine own_astore (l' := #[.val (.long j1), .second, .val (.int p1), .val (.int p2), .val (.int p3), .val (.int 2), .val (.ref b650), .val (.ref b655), .val (.int ((((own_nl c651) + (own_nl c653)) + (0 : Int32)) + (0 : Int32))), .val (.int sz), .val (.ref b666), .unset, .unset]) X667 hx (hb hby at_162) rfl rfl ?_
      refine own_aload X667 hx (hb hby at_164) rfl rfl ?_
      refine own_cVirt (W := 0) (rest := []) X667 hx hZ [] hown (own_m hw 138 rfl) (own_m hw 139 rfl) (notFace_of_selects (args := #[]) (mvT hZ (own_m hw 141 rfl))) (own_m hw 141 rfl) (own_m hw 140 rfl) (by decide) (own_m hw 142 rfl) (own_m hw 41 rfl) rfl Eo667 (rmSz l Z a0 hw [] b666 sz T667.heap n0 (Nat.le_trans (Nat.le_trans (Nat.le_trans Zs660 K661.1) E666.1) K667.1) Fz667) (by rw [hml]; rfl) (lenOf pd_9 rfl) rfl (Nat.le_of_eq rfl) (hb hby at_166) (by decide) (by decide) (by decide) (by decide) fun v668 T668 L668 X668 hQ668 => ?_
      obtain ⟨rfl, N668q, e668⟩ := hQ668
      have N668 := Fr.app N667 N668q
      show own_At p e below _ T668 m 169 _ [(.int sz)]
      refine own_iload X668 hx (hb hby at_169) rfl ?_
      refine own_icmpYes X668 hx 176 (hb hby at_171) (teq (rfl : sz = sz)).1 (by decide) (by decide) ?_
      refine own_iloadN X668 hx (hb hby at_176) rfl ?_
      refine own_ldcI X668 hx hZ hown (own_m hw 0 rfl) (hb hby at_177) ?_
      refine own_iand X668 hx (hb hby at_179) ?_
      refine own_iload X668 hx (hb hby at_180) rfl ?_
      refine own_iconst X668 hx 1 (hb hby at_182) rfl ?_
      refine own_iadd X668 hx (hb hby at_183) ?_
      obtain ⟨z1, f0, f1⟩ := own_fst p2 sz (sz + (1 : Int32)) k hk h6 rfl
      refine own_irem X668 hx (hb hby at_184) z1 ?_
      generalize hff : ((p2 &&& (2147483647 : Int32)) % (sz + (1 : Int32))) = ff at *
      refine own_istore (l' := #[.val (.long j1), .second, .val (.int p1), .val (.int p2), .val (.int p3), .val (.int 2), .val (.ref b650), .val (.ref b655), .val (.int ((((own_nl c651) + (own_nl c653)) + (0 : Int32)) + (0 : Int32))), .val (.int sz), .val (.ref b666), .val (.int ff), .unset]) X668 hx (hb hby at_185) rfl ?_
      refine own_iload X668 hx (hb hby at_187) rfl ?_
      refine own_iload X668 hx (hb hby at_189) rfl ?_
      refine own_ldcI X668 hx hZ hown (own_m hw 0 rfl) (hb hby at_191) ?_
      refine own_iand X668 hx (hb hby at_193) ?_
      refine own_iload X668 hx (hb hby at_194) rfl ?_
      refine own_iconst X668 hx 1 (hb hby at_196) rfl ?_
      refine own_iadd X668 hx (hb hby at_197) ?_
      refine own_iload X668 hx (hb hby at_198) rfl ?_
      refine own_isub X668 hx (hb hby at_200) ?_
      obtain ⟨z0, g0, g1⟩ := own_snd p3 sz (sz + (1 : Int32)) ff k hk h6 rfl f0 f1
      refine own_irem X668 hx (hb hby at_201) z0 ?_
      refine own_iadd X668 hx (hb hby at_202) ?_
      generalize hee : (ff + ((p3 &&& (2147483647 : Int32)) % ((sz + (1 : Int32)) - ff))) = ee at *
      refine own_istore (l' := #[.val (.long j1), .second, .val (.int p1), .val (.int p2), .val (.int p3), .val (.int 2), .val (.ref b650), .val (.ref b655), .val (.int ((((own_nl c651) + (own_nl c653)) + (0 : Int32)) + (0 : Int32))), .val (.int sz), .val (.ref b666), .val (.int ff), .val (.int ee)]) X668 hx (hb hby at_203) rfl ?_
      refine own_aload X668 hx (hb hby at_205) rfl rfl ?_
      refine own_iload X668 hx (hb hby at_207) rfl ?_
      refine own_iload X668 hx (hb hby at_209) rfl ?_
      refine own_cVirt (W := 0) (rest := []) X668 hx hZ [(.int ff), (.int ee)] hown (own_m hw 143 rfl) (own_m hw 144 rfl) (notFace_of_selects (args := #[]) (mvT hZ (own_m hw 146 rfl))) (own_m hw 146 rfl) (own_m hw 145 rfl) (by decide) (own_m hw 147 rfl) (own_m hw 41 rfl) e668 Eo667 (rmLL l Z a0 hw [] b666 sa667 ks667 xs al ff ee T667.heap n0 (Nat.le_trans (Nat.le_trans (Nat.le_trans Zs660 K661.1) E666.1) K667.1) Fs667 Vs667 (own_lt65 hk h6 hal f0 f1) (own_lt65 hk h6 hal g0 g1)) (by rw [hml]; rfl) (lenOf pd_6 rfl) rfl (Nat.le_of_eq rfl) (hb hby at_211) (by decide) (by decide) (by decide) (by decide) fun v669 T669 L669 X669 hQ669 => ?_
      obtain ⟨rfl, N669q, e669⟩ := hQ669
      have N669 := Fr.app N668 N669q
      show own_At p e below _ T669 m 214 _ [(.int ((own_st xs (0 : Int32) ee) - (own_st xs (0 : Int32) ff)))]
      refine own_aload X669 hx (hb hby at_214) rfl rfl ?_
      refine own_iload X669 hx (hb hby at_216) rfl ?_
      refine own_iload X669 hx (hb hby at_218) rfl ?_
      refine own_cStat (W := 1) (rest := [(.int ((own_st xs (0 : Int32) ee) - (own_st xs (0 : Int32) ff)))]) X669 hx hZ [(.ref b650), (.int 2), (.int ee)] hown (own_m hw 148 rfl) (own_m hw 149 rfl) (by decide) (own_m hw 150 rfl) (own_m hw 4 rfl) e669 (rmSt_2 l Z a0 hw [] b650 k650 c651 c653 ee T667.heap n0 (Nat.le_trans (Nat.le_trans (Nat.le_trans Zs660 K661.1) E666.1) K667.1) (Arv.keep ((Arv.keep f659 K661 (ninS (Nat.ne_of_lt (Nat.lt_of_lt_of_le V654.lt (Nat.le_of_eq g655.symm))) nin0)).ext E666) K667 (ninS (Nat.ne_of_lt (Nat.lt_of_lt_of_le (Exa.keep f658 K661).lt (Nat.le_of_eq g666.symm))) nin0))) (by rw [hml]; rfl) (lenOf pd_18 rfl) rfl (Nat.le_of_eq rfl) (hb hby at_220) (by decide) (by decide) (by decide) (by decide) fun v670 T670 L670 X670 hQ670 => ?_
      obtain ⟨rfl, N670q, e670⟩ := hQ670
      have N670 := Fr.app N669 N670q
      show own_At p e below _ T670 m 223 _ [(.int (own_start2 c651 c653 ee)), (.int ((own_st xs (0 : Int32) ee) - (own_st xs (0 : Int32) ff)))]
      refine own_aload X670 hx (hb hby at_223) rfl rfl ?_
      refine own_iload X670 hx (hb hby at_225) rfl ?_
      refine own_iload X670 hx (hb hby at_227) rfl ?_
      refine own_cStat (W := 2) (rest := [(.int (own_start2 c651 c653 ee)), (.int ((own_st xs (0 : Int32) ee) - (own_st xs (0 : Int32) ff)))]) X670 hx hZ [(.ref b650), (.int 2), (.int ff)] hown (own_m hw 148 rfl) (own_m hw 149 rfl) (by decide) (own_m hw 150 rfl) (own_m hw 4 rfl) e670 (rmSt_2 l Z a0 hw [] b650 k650 c651 c653 ff T667.heap n0 (Nat.le_trans (Nat.le_trans (Nat.le_trans Zs660 K661.1) E666.1) K667.1) (Arv.keep ((Arv.keep f659 K661 (ninS (Nat.ne_of_lt (Nat.lt_of_lt_of_le V654.lt (Nat.le_of_eq g655.symm))) nin0)).ext E666) K667 (ninS (Nat.ne_of_lt (Nat.lt_of_lt_of_le (Exa.keep f658 K661).lt (Nat.le_of_eq g666.symm))) nin0))) (by rw [hml]; rfl) (lenOf pd_18 rfl) rfl (Nat.le_of_eq rfl) (hb hby at_229) (by decide) (by decide) (by decide) (by decide) fun v671 T671 L671 X671 hQ671 => ?_
      obtain ⟨rfl, N671q, e671⟩ := hQ671
      have N671 := Fr.app N670 N671q
      show own_At p e below _ T671 m 232 _ [(.int (own_start2 c651 c653 ff)), (.int (own_start2 c651 c653 ee)), (.int ((own_st xs (0 : Int32) ee) - (own_st xs (0 : Int32) ff)))]
      refine own_isub X671 hx (hb hby at_232) ?_
      refine own_icmpNo X671 hx (hb hby at_233) (teq (by rw [heq _ f0 f1, heq _ g0 g1])).2 ?_
      refine own_iconst X671 hx 1 (hb hby at_236) rfl ?_
      refine own_goto X671 hx 241 (hb hby at_237) (by decide) (by decide) ?_
      refine own_retN X671 hx hlk hret (by simp) (by decide) (hb hby at_241) (own_kL hS0 (by rw [e671]; exact (Nat.le_trans (Nat.le_trans (Nat.le_trans (Nat.le_trans (Nat.le_trans (Nat.le_trans (Nat.le_trans (Nat.le_refl _) E650.1) (Keep.of_wr W652).1) (Keep.of_wr W654).1) E655.1) K661.1) E666.1) K667.1)) (by decide) (by decide) ?_)
      try rw [e671]
      exact ⟨rfl, N671⟩
    · skip
      refine own_iload X665 hx (hb hby at_126) rfl ?_
      refine own_iload X665 hx (hb hby at_128) rfl ?_
      refine own_ifNo X665 hx (hb hby at_130) (tlt (by decide : (0 : Int32) < (2 : Int32))).2.2.2 ?_
      refine own_aload X665 hx (hb hby at_133) rfl rfl ?_
      refine own_iload X665 hx (hb hby at_135) rfl ?_
      refine own_iconst X665 hx 1 (hb hby at_137) rfl ?_
      refine own_isub X665 hx (hb hby at_138) ?_
      rw [show ((2 : Int32) - (1 : Int32)) = (1 : Int32) from by decide]
      refine own_caload X665 hx hZ (.int c653) e665 (Arv.keep f659 K661 (ninS (Nat.ne_of_lt (Nat.lt_of_lt_of_le V654.lt (Nat.le_of_eq g655.symm))) nin0)) ⟨by decide, by decide⟩ rfl (hb hby at_139) ?_
      refine own_bipush X665 hx 10 (hb hby at_140) rfl ?_
      by_cases hc672 : c653 = (10 : Int32)
      · refine own_icmpYes X665 hx 149 (hb hby at_142) (teq hc672).1 (by decide) (by decide) ?_
        refine own_iconst X665 hx 0 (hb hby at_149) rfl ?_
        refine own_iadd X665 hx (hb hby at_150) ?_
        rw [hsz.1 hc672]; exact hJ
      · refine own_icmpNo X665 hx (hb hby at_142) (feq hc672).1 ?_
        refine own_iconst X665 hx 1 (hb hby at_145) rfl ?_
        refine own_goto X665 hx 150 (hb hby at_146) (by decide) (by decide) ?_
        refine own_iadd X665 hx (hb hby at_150) ?_
        rw [hsz.2 hc672]; exact hJ
  · rw [hr610]
    refine own_istore (l' := #[.val (.long j1), .second, .val (.int p1), .val (.int p2), .val (.int p3), .val (.int 3), .unset, .unset, .unset, .unset, .unset, .unset, .unset]) X0 hx (hb hby at_6) rfl ?_
    refine own_iload X0 hx (hb hby at_8) rfl ?_
    refine own_newP (n := (3 : Int32)) (cap := 3) (ad := "[C") X0 hx hZ (own_m hw 1 rfl) e0 (hb hby at_10) (by decide) (by decide) (by decide) (by decide) (by decide) (by decide) fun T673 h673 k673 b673 g673 X673 e673 E673 A673 Ex673 => ?_
    have g_b673 : n0 ≤ b673 := Nat.le_trans Z0 (Nat.le_of_eq g673.symm)
    have szo_b673 : h0.size ≤ b673 := Nat.le_trans (Nat.le_refl h0.size) (Nat.le_of_eq g673.symm)
    have V673 : Arv Z h673 b673 k673 .char (3 : Int32) [(.int 0), (.int 0), (.int 0)] (.int 0) := (Arv.new A673 (by decide)).pad (pad_rep [] (.int 0) 3)
    refine own_astore (l' := #[.val (.long j1), .second, .val (.int p1), .val (.int p2), .val (.int p3), .val (.int 3), .val (.ref b673), .unset, .unset, .unset, .unset, .unset, .unset]) X673 hx (hb hby at_12) rfl rfl ?_
    refine own_iload X673 hx (hb hby at_14) rfl ?_
    refine own_ifNo X673 hx (hb hby at_16) (tlt (by decide : (0 : Int32) < (3 : Int32))).2.2.2 ?_
    refine own_aload X673 hx (hb hby at_19) rfl rfl ?_
    refine own_iconst X673 hx 0 (hb hby at_21) rfl ?_
    refine own_lloadN X673 hx (hb hby at_22) rfl ?_
    refine own_cStat (W := 2) (rest := [(.int 0), (.ref b673)]) X673 hx hZ [(.long j1)] hown (own_m hw 2 rfl) (own_m hw 3 rfl) (by decide) (own_m hw 5 rfl) (own_m hw 4 rfl) e673 (rmPick l Z a0 hw [] j1 h673 n0 (Nat.le_trans Z0 E673.1)) (by rw [hml]; rfl) (lenOf pd_20 rfl) rfl (Nat.le_of_eq rfl) (hb hby at_23) (by decide) (by decide) (by decide) (by decide) fun v674 T674 L674 X674 hQ674 => ?_
    obtain ⟨c674, rfl, N674q, e674, lo674, hi674⟩ := hQ674
    have N674 := Fr.app N0 N674q
    show own_At p e below _ T674 m 26 _ [(.int c674), (.int 0), (.ref b673)]
    refine own_stC (vs' := [(.int c674), (.int 0), (.int 0)]) (w := (.int c674)) X674 hx hZ e674 V673 ⟨by decide, by decide⟩ 0 rfl (Nat.le_of_ble_eq_true rfl) (congrArg Value.int (own_narc lo674 hi674)) rfl (hb hby at_26) fun T675 h675 X675 e675 W675 V675 => ?_
    have N675 := Fr.snoc X675 N674 g_b673
    refine own_iload X675 hx (hb hby at_27) rfl ?_
    refine own_iconst X675 hx 1 (hb hby at_29) rfl ?_
    refine own_icmpNo X675 hx (hb hby at_30) (tlt (by decide : (1 : Int32) < (3 : Int32))).2.2.2 ?_
    refine own_aload X675 hx (hb hby at_33) rfl rfl ?_
    refine own_iconst X675 hx 1 (hb hby at_35) rfl ?_
    refine own_lloadN X675 hx (hb hby at_36) rfl ?_
    refine own_bipush X675 hx 9 (hb hby at_37) rfl ?_
    refine own_lushr X675 hx (hb hby at_39) ?_
    refine own_cStat (W := 2) (rest := [(.int 1), (.ref b673)]) X675 hx hZ [(.long ((j1.toUInt64 >>> ((9 : Int32) &&& 0x3f).toInt64.toUInt64).toInt64))] hown (own_m hw 2 rfl) (own_m hw 3 rfl) (by decide) (own_m hw 5 rfl) (own_m hw 4 rfl) e675 (rmPick l Z a0 hw [] ((j1.toUInt64 >>> ((9 : Int32) &&& 0x3f).toInt64.toUInt64).toInt64) h675 n0 (Nat.le_trans (Nat.le_trans Z0 E673.1) (Keep.of_wr W675).1)) (by rw [hml]; rfl) (lenOf pd_20 rfl) rfl (Nat.le_of_eq rfl) (hb hby at_40) (by decide) (by decide) (by decide) (by decide) fun v676 T676 L676 X676 hQ676 => ?_
    obtain ⟨c676, rfl, N676q, e676, lo676, hi676⟩ := hQ676
    have N676 := Fr.app N675 N676q
    show own_At p e below _ T676 m 43 _ [(.int c676), (.int 1), (.ref b673)]
    refine own_stC (vs' := [(.int c674), (.int c676), (.int 0)]) (w := (.int c676)) X676 hx hZ e676 V675 ⟨by decide, by decide⟩ 1 rfl (Nat.le_of_ble_eq_true rfl) (congrArg Value.int (own_narc lo676 hi676)) rfl (hb hby at_43) fun T677 h677 X677 e677 W677 V677 => ?_
    have N677 := Fr.snoc X677 N676 g_b673
    refine own_iload X677 hx (hb hby at_44) rfl ?_
    refine own_iconst X677 hx 2 (hb hby at_46) rfl ?_
    refine own_icmpNo X677 hx (hb hby at_47) (tlt (by decide : (2 : Int32) < (3 : Int32))).2.2.2 ?_
    refine own_aload X677 hx (hb hby at_50) rfl rfl ?_
    refine own_iconst X677 hx 2 (hb hby at_52) rfl ?_
    refine own_lloadN X677 hx (hb hby at_53) rfl ?_
    refine own_bipush X677 hx 18 (hb hby at_54) rfl ?_
    refine own_lushr X677 hx (hb hby at_56) ?_
    refine own_cStat (W := 2) (rest := [(.int 2), (.ref b673)]) X677 hx hZ [(.long ((j1.toUInt64 >>> ((18 : Int32) &&& 0x3f).toInt64.toUInt64).toInt64))] hown (own_m hw 2 rfl) (own_m hw 3 rfl) (by decide) (own_m hw 5 rfl) (own_m hw 4 rfl) e677 (rmPick l Z a0 hw [] ((j1.toUInt64 >>> ((18 : Int32) &&& 0x3f).toInt64.toUInt64).toInt64) h677 n0 (Nat.le_trans (Nat.le_trans (Nat.le_trans Z0 E673.1) (Keep.of_wr W675).1) (Keep.of_wr W677).1)) (by rw [hml]; rfl) (lenOf pd_20 rfl) rfl (Nat.le_of_eq rfl) (hb hby at_57) (by decide) (by decide) (by decide) (by decide) fun v678 T678 L678 X678 hQ678 => ?_
    obtain ⟨c678, rfl, N678q, e678, lo678, hi678⟩ := hQ678
    have N678 := Fr.app N677 N678q
    show own_At p e below _ T678 m 60 _ [(.int c678), (.int 2), (.ref b673)]
    refine own_stC (vs' := [(.int c674), (.int c676), (.int c678)]) (w := (.int c678)) X678 hx hZ e678 V677 ⟨by decide, by decide⟩ 2 rfl (Nat.le_of_ble_eq_true rfl) (congrArg Value.int (own_narc lo678 hi678)) rfl (hb hby at_60) fun T679 h679 X679 e679 W679 V679 => ?_
    have N679 := Fr.snoc X679 N678 g_b673
    refine own_iload X679 hx (hb hby at_61) rfl ?_
    refine own_iconst X679 hx 3 (hb hby at_63) rfl ?_
    refine own_icmpYes X679 hx 78 (hb hby at_64) (flt (by decide : ¬ ((3 : Int32) < (3 : Int32)))).2.2.2 (by decide) (by decide) ?_
    refine own_newO X679 hx hZ hown (own_m hw 7 rfl) (own_m hw 8 rfl) (own_m hw 9 rfl) e679 (hb hby at_78) (by decide) (by decide) fun T680 h680 b680 g680 X680 e680 E680 A680 D680 => ?_
    have g_b680 : n0 ≤ b680 := Nat.le_trans (Nat.le_trans (Nat.le_trans (Nat.le_trans (Nat.le_trans Z0 E673.1) (Keep.of_wr W675).1) (Keep.of_wr W677).1) (Keep.of_wr W679).1) (Nat.le_of_eq g680.symm)
    have szo_b680 : h0.size ≤ b680 := Nat.le_trans (Nat.le_trans (Nat.le_trans (Nat.le_trans (Nat.le_trans (Nat.le_refl h0.size) E673.1) (Keep.of_wr W675).1) (Keep.of_wr W677).1) (Keep.of_wr W679).1) (Nat.le_of_eq g680.symm)
    have F_coder_b680 : Fld Z h680 b680 "java/lang/String" "coder" "B" (.int 0) := D680 (Or.inr (own_m hw 33 rfl)) (ty := .byte) (by decide)
    have F_value_b680 : Fld Z h680 b680 "java/lang/String" "value" "[B" .null := D680 (Or.inr (own_m hw 35 rfl)) (ty := (.array .byte)) (by decide)
    refine own_dup X680 hx (hb hby at_81) rfl ?_
    refine own_aload X680 hx (hb hby at_82) rfl rfl ?_
    have f681 := (Sta.ext E680 (Sta.wr W679 (Sta.wr W677 (Sta.wr W675 (Sta.ext E673 Sc)))))
    have f682 := (Sta.ext E680 (Sta.wr W679 (Sta.wr W677 (Sta.wr W675 (Sta.ext E673 Sf)))))
    have f683 := (Exa.ext E680 (Exa.wr W679 (Exa.wr W677 (Exa.wr W675 Ex673))))
    have f684 := (V679.ext E680)
    have Zs685 : n0 ≤ h680.size := (Nat.le_trans (Nat.le_trans (Nat.le_trans (Nat.le_trans (Nat.le_trans Z0 E673.1) (Keep.of_wr W675).1) (Keep.of_wr W677).1) (Keep.of_wr W679).1) E680.1)
    refine own_cSpec (b := b680) (W := 1) (rest := [(.ref b680)]) X680 hx hZ [(.ref b673)] rfl hown (own_m hw 10 rfl) (own_m hw 11 rfl) (by decide) (own_m hw 12 rfl) (own_m hw 9 rfl) e680 (rmI1_3 l Z a0 hw [] b680 b673 k673 cs c674 c676 c678 h680 n0 Zs685 A680 F_value_b680 F_coder_b680 g_b680 f681 hcs f684 f683 hi674 hi676 hi678) (by rw [hml]; rfl) (lenOf pd_17 rfl) rfl (Nat.le_of_eq rfl) (hb hby at_84) (by decide) (by decide) (by decide) (by decide) fun v686 T686 L686 X686 hQ686 => ?_
    obtain ⟨rfl, N686q, K686, sb686, kb686, szb686, Eb686, Ea686, Fv686, Fc686, Vb686⟩ := hQ686
    have N686 := Fr.app N679 N686q
    obtain ⟨sz, k, al, xs, hk, h6, hal, heq, hsz, hLI⟩ := own_LO_3 l Z a0 hw cs fm c674 c676 c678 lo674 hi674 lo676 hi676 lo678 hi678
    show own_At p e below _ T686 m 87 _ [(.ref b680)]
    refine own_astore (l' := #[.val (.long j1), .second, .val (.int p1), .val (.int p2), .val (.int p3), .val (.int 3), .val (.ref b673), .val (.ref b680), .unset, .unset, .unset, .unset, .unset]) X686 hx (hb hby at_87) rfl rfl ?_
    refine own_aload X686 hx (hb hby at_89) rfl rfl ?_
    refine own_iload X686 hx (hb hby at_91) rfl ?_
    refine own_iconst X686 hx 0 (hb hby at_93) rfl ?_
    refine own_cStat (W := 0) (rest := []) X686 hx hZ [(.ref b673), (.int 3), (.int 0)] hown (own_m hw 36 rfl) (own_m hw 37 rfl) (by decide) (own_m hw 38 rfl) (own_m hw 4 rfl) rfl (rmNl_3_0 l Z a0 hw [] b673 k673 c674 c676 c678 T686.heap n0 (Nat.le_trans Zs685 K686.1) (Arv.keep f684 K686 (ninS (Nat.ne_of_lt (Nat.lt_of_lt_of_le V679.lt (Nat.le_of_eq g680.symm))) nin0))) (by rw [hml]; rfl) (lenOf pd_18 rfl) rfl (Nat.le_of_eq rfl) (hb hby at_94) (by decide) (by decide) (by decide) (by decide) fun v687 T687 L687 X687 hQ687 => ?_
    obtain ⟨rfl, N687q, e687⟩ := hQ687
    have N687 := Fr.app N686 N687q
    show own_At p e below _ T687 m 97 _ [(.int (own_nl c674))]
    refine own_aload X687 hx (hb hby at_97) rfl rfl ?_
    refine own_iload X687 hx (hb hby at_99) rfl ?_
    refine own_iconst X687 hx 1 (hb hby at_101) rfl ?_
    refine own_cStat (W := 1) (rest := [(.int (own_nl c674))]) X687 hx hZ [(.ref b673), (.int 3), (.int 1)] hown (own_m hw 36 rfl) (own_m hw 37 rfl) (by decide) (own_m hw 38 rfl) (own_m hw 4 rfl) e687 (rmNl_3_1 l Z a0 hw [] b673 k673 c674 c676 c678 T686.heap n0 (Nat.le_trans Zs685 K686.1) (Arv.keep f684 K686 (ninS (Nat.ne_of_lt (Nat.lt_of_lt_of_le V679.lt (Nat.le_of_eq g680.symm))) nin0))) (by rw [hml]; rfl) (lenOf pd_18 rfl) rfl (Nat.le_of_eq rfl) (hb hby at_102) (by decide) (by decide) (by decide) (by decide) fun v688 T688 L688 X688 hQ688 => ?_
    obtain ⟨rfl, N688q, e688⟩ := hQ688
    have N688 := Fr.app N687 N688q
    show own_At p e below _ T688 m 105 _ [(.int (own_nl c676)), (.int (own_nl c674))]
    refine own_iadd X688 hx (hb hby at_105) ?_
    refine own_aload X688 hx (hb hby at_106) rfl rfl ?_
    refine own_iload X688 hx (hb hby at_108) rfl ?_
    refine own_iconst X688 hx 2 (hb hby at_110) rfl ?_
    refine own_cStat (W := 1) (rest := [(.int ((own_nl c674) + (own_nl c676)))]) X688 hx hZ [(.ref b673), (.int 3), (.int 2)] hown (own_m hw 36 rfl) (own_m hw 37 rfl) (by decide) (own_m hw 38 rfl) (own_m hw 4 rfl) e688 (rmNl_3_2 l Z a0 hw [] b673 k673 c674 c676 c678 T686.heap n0 (Nat.le_trans Zs685 K686.1) (Arv.keep f684 K686 (ninS (Nat.ne_of_lt (Nat.lt_of_lt_of_le V679.lt (Nat.le_of_eq g680.symm))) nin0))) (by rw [hml]; rfl) (lenOf pd_18 rfl) rfl (Nat.le_of_eq rfl) (hb hby at_111) (by decide) (by decide) (by decide) (by decide) fun v689 T689 L689 X689 hQ689 => ?_
    obtain ⟨rfl, N689q, e689⟩ := hQ689
    have N689 := Fr.app N688 N689q
    show own_At p e below _ T689 m 114 _ [(.int (own_nl c678)), (.int ((own_nl c674) + (own_nl c676)))]
    refine own_iadd X689 hx (hb hby at_114) ?_
    refine own_aload X689 hx (hb hby at_115) rfl rfl ?_
    refine own_iload X689 hx (hb hby at_117) rfl ?_
    refine own_iconst X689 hx 3 (hb hby at_119) rfl ?_
    refine own_cStat (W := 1) (rest := [(.int (((own_nl c674) + (own_nl c676)) + (own_nl c678)))]) X689 hx hZ [(.ref b673), (.int 3), (.int 3)] hown (own_m hw 36 rfl) (own_m hw 37 rfl) (by decide) (own_m hw 38 rfl) (own_m hw 4 rfl) e689 (rmNlo l Z a0 hw [] b673 (3 : Int32) (3 : Int32) T686.heap n0 (Nat.le_trans Zs685 K686.1) (by decide)) (by rw [hml]; rfl) (lenOf pd_18 rfl) rfl (Nat.le_of_eq rfl) (hb hby at_120) (by decide) (by decide) (by decide) (by decide) fun v690 T690 L690 X690 hQ690 => ?_
    obtain ⟨rfl, N690q, e690⟩ := hQ690
    have N690 := Fr.app N689 N690q
    show own_At p e below _ T690 m 123 _ [(.int 0), (.int (((own_nl c674) + (own_nl c676)) + (own_nl c678)))]
    refine own_iadd X690 hx (hb hby at_123) ?_
    refine own_istore (l' := #[.val (.long j1), .second, .val (.int p1), .val (.int p2), .val (.int p3), .val (.int 3), .val (.ref b673), .val (.ref b680), .val (.int ((((own_nl c674) + (own_nl c676)) + (own_nl c678)) + (0 : Int32))), .unset, .unset, .unset, .unset]) X690 hx (hb hby at_124) rfl ?_
    refine own_join 151 #[.val (.long j1), .second, .val (.int p1), .val (.int p2), .val (.int p3), .val (.int 3), .val (.ref b673), .val (.ref b680), .val (.int ((((own_nl c674) + (own_nl c676)) + (own_nl c678)) + (0 : Int32))), .unset, .unset, .unset, .unset] [(.int sz)] ?_ fun hJ => ?_
    · skip
      refine own_istore (l' := #[.val (.long j1), .second, .val (.int p1), .val (.int p2), .val (.int p3), .val (.int 3), .val (.ref b673), .val (.ref b680), .val (.int ((((own_nl c674) + (own_nl c676)) + (own_nl c678)) + (0 : Int32))), .val (.int sz), .unset, .unset, .unset]) X690 hx (hb hby at_151) rfl ?_
      refine own_newO X690 hx hZ hown (own_m hw 39 rfl) (own_m hw 40 rfl) (own_m hw 41 rfl) e690 (hb hby at_153) (by decide) (by decide) fun T691 h691 b691 g691 X691 e691 E691 A691 D691 => ?_
      have g_b691 : n0 ≤ b691 := Nat.le_trans (Nat.le_trans Zs685 K686.1) (Nat.le_of_eq g691.symm)
      have szo_b691 : h0.size ≤ b691 := Nat.le_trans (Nat.le_trans (Nat.le_trans (Nat.le_trans (Nat.le_trans (Nat.le_trans (Nat.le_trans (Nat.le_refl h0.size) E673.1) (Keep.of_wr W675).1) (Keep.of_wr W677).1) (Keep.of_wr W679).1) E680.1) K686.1) (Nat.le_of_eq g691.symm)
      have F_modCount_b691 : Fld Z h691 b691 "java/util/AbstractList" "modCount" "I" (.int 0) := D691 (Or.inl (own_m hw 58 rfl)) (ty := .int) (by decide)
      have F_text_b691 : Fld Z h691 b691 "com/example/amendtrail/amendtrail/write/Lines" "text" "Ljava/lang/String;" .null := D691 (Or.inr (own_m hw 60 rfl)) (ty := (.object "java/lang/String")) (by decide)
      have F_size_b691 : Fld Z h691 b691 "com/example/amendtrail/amendtrail/write/Lines" "size" "I" (.int 0) := D691 (Or.inr (own_m hw 135 rfl)) (ty := .int) (by decide)
      have F_starts_b691 : Fld Z h691 b691 "com/example/amendtrail/amendtrail/write/Lines" "starts" "[I" .null := D691 (Or.inr (own_m hw 137 rfl)) (ty := (.array .int)) (by decide)
      refine own_dup X691 hx (hb hby at_156) rfl ?_
      refine own_aload X691 hx (hb hby at_157) rfl rfl ?_
      refine own_cSpec (b := b691) (W := 1) (rest := [(.ref b691)]) X691 hx hZ [(.ref b680)] rfl hown (own_m hw 42 rfl) (own_m hw 43 rfl) (by decide) (own_m hw 44 rfl) (own_m hw 41 rfl) e691 (hLI b691 b680 sb686 kb686 h691 n0 (Nat.le_trans (Nat.le_trans Zs685 K686.1) E691.1) (Sta.ext E691 (own_staKeep f681 K686 (allS (own_exaStat A680) all0))) hcs (Exa.ext E691 Ea686) (Fld.ext E691 Fv686) (Fld.ext E691 Fc686) (Vb686.ext E691) (Sta.ext E691 (own_staKeep f682 K686 (allS (own_exaStat A680) all0))) hfm A691 F_modCount_b691 g_b691 (Nat.ne_of_lt (Nat.lt_of_lt_of_le Vb686.lt (Nat.le_of_eq g691.symm))) F_text_b691 F_size_b691 F_starts_b691) (by rw [hml]; rfl) (lenOf pd_19 rfl) rfl (Nat.le_of_eq rfl) (hb hby at_159) (by decide) (by decide) (by decide) (by decide) fun v692 T692 L692 X692 hQ692 => ?_
      obtain ⟨rfl, N692q, K692, sa692, ks692, Eo692, Fz692, Fs692, Vs692⟩ := hQ692
      have N692 := Fr.app N690 N692q
      show own_At p e below _ T692 m 162 _ [(.ref b691)]
      refine own_astore (l' := #[.val (.long j1), .second, .val (.int p1), .val (.int p2), .val (.int p3), .val (.int 3), .val (.ref b673), .val (.ref b680), .val (.int ((((own_nl c674) + (own_nl c676)) + (own_nl c678)) + (0 : Int32))), .val (.int sz), .val (.ref b691), .unset, .unset]) X692 hx (hb hby at_162) rfl rfl ?_
      refine own_aload X692 hx (hb hby at_164) rfl rfl ?_
      refine own_cVirt (W := 0) (rest := []) X692 hx hZ [] hown (own_m hw 138 rfl) (own_m hw 139 rfl) (notFace_of_selects (args := #[]) (mvT hZ (own_m hw 141 rfl))) (own_m hw 141 rfl) (own_m hw 140 rfl) (by decide) (own_m hw 142 rfl) (own_m hw 41 rfl) rfl Eo692 (rmSz l Z a0 hw [] b691 sz T692.heap n0 (Nat.le_trans (Nat.le_trans (Nat.le_trans Zs685 K686.1) E691.1) K692.1) Fz692) (by rw [hml]; rfl) (lenOf pd_9 rfl) rfl (Nat.le_of_eq rfl) (hb hby at_166) (by decide) (by decide) (by decide) (by decide) fun v693 T693 L693 X693 hQ693 => ?_
      obtain ⟨rfl, N693q, e693⟩ := hQ693
      have N693 := Fr.app N692 N693q
      show own_At p e below _ T693 m 169 _ [(.int sz)]
      refine own_iload X693 hx (hb hby at_169) rfl ?_
      refine own_icmpYes X693 hx 176 (hb hby at_171) (teq (rfl : sz = sz)).1 (by decide) (by decide) ?_
      refine own_iloadN X693 hx (hb hby at_176) rfl ?_
      refine own_ldcI X693 hx hZ hown (own_m hw 0 rfl) (hb hby at_177) ?_
      refine own_iand X693 hx (hb hby at_179) ?_
      refine own_iload X693 hx (hb hby at_180) rfl ?_
      refine own_iconst X693 hx 1 (hb hby at_182) rfl ?_
      refine own_iadd X693 hx (hb hby at_183) ?_
      obtain ⟨z1, f0, f1⟩ := own_fst p2 sz (sz + (1 : Int32)) k hk h6 rfl
      refine own_irem X693 hx (hb hby at_184) z1 ?_
      generalize hff : ((p2 &&& (2147483647 : Int32)) % (sz + (1 : Int32))) = ff at *
      refine own_istore (l' := #[.val (.long j1), .second, .val (.int p1), .val (.int p2), .val (.int p3), .val (.int 3), .val (.ref b673), .val (.ref b680), .val (.int ((((own_nl c674) + (own_nl c676)) + (own_nl c678)) + (0 : Int32))), .val (.int sz), .val (.ref b691), .val (.int ff), .unset]) X693 hx (hb hby at_185) rfl ?_
      refine own_iload X693 hx (hb hby at_187) rfl ?_
      refine own_iload X693 hx (hb hby at_189) rfl ?_
      refine own_ldcI X693 hx hZ hown (own_m hw 0 rfl) (hb hby at_191) ?_
      refine own_iand X693 hx (hb hby at_193) ?_
      refine own_iload X693 hx (hb hby at_194) rfl ?_
      refine own_iconst X693 hx 1 (hb hby at_196) rfl ?_
      refine own_iadd X693 hx (hb hby at_197) ?_
      refine own_iload X693 hx (hb hby at_198) rfl ?_
      refine own_isub X693 hx (hb hby at_200) ?_
      obtain ⟨z0, g0, g1⟩ := own_snd p3 sz (sz + (1 : Int32)) ff k hk h6 rfl f0 f1
      refine own_irem X693 hx (hb hby at_201) z0 ?_
      refine own_iadd X693 hx (hb hby at_202) ?_
      generalize hee : (ff + ((p3 &&& (2147483647 : Int32)) % ((sz + (1 : Int32)) - ff))) = ee at *
      refine own_istore (l' := #[.val (.long j1), .second, .val (.int p1), .val (.int p2), .val (.int p3), .val (.int 3), .val (.ref b673), .val (.ref b680), .val (.int ((((own_nl c674) + (own_nl c676)) + (own_nl c678)) + (0 : Int32))), .val (.int sz), .val (.ref b691), .val (.int ff), .val (.int ee)]) X693 hx (hb hby at_203) rfl ?_
      refine own_aload X693 hx (hb hby at_205) rfl rfl ?_
      refine own_iload X693 hx (hb hby at_207) rfl ?_
      refine own_iload X693 hx (hb hby at_209) rfl ?_
      refine own_cVirt (W := 0) (rest := []) X693 hx hZ [(.int ff), (.int ee)] hown (own_m hw 143 rfl) (own_m hw 144 rfl) (notFace_of_selects (args := #[]) (mvT hZ (own_m hw 146 rfl))) (own_m hw 146 rfl) (own_m hw 145 rfl) (by decide) (own_m hw 147 rfl) (own_m hw 41 rfl) e693 Eo692 (rmLL l Z a0 hw [] b691 sa692 ks692 xs al ff ee T692.heap n0 (Nat.le_trans (Nat.le_trans (Nat.le_trans Zs685 K686.1) E691.1) K692.1) Fs692 Vs692 (own_lt65 hk h6 hal f0 f1) (own_lt65 hk h6 hal g0 g1)) (by rw [hml]; rfl) (lenOf pd_6 rfl) rfl (Nat.le_of_eq rfl) (hb hby at_211) (by decide) (by decide) (by decide) (by decide) fun v694 T694 L694 X694 hQ694 => ?_
      obtain ⟨rfl, N694q, e694⟩ := hQ694
      have N694 := Fr.app N693 N694q
      show own_At p e below _ T694 m 214 _ [(.int ((own_st xs (0 : Int32) ee) - (own_st xs (0 : Int32) ff)))]
      refine own_aload X694 hx (hb hby at_214) rfl rfl ?_
      refine own_iload X694 hx (hb hby at_216) rfl ?_
      refine own_iload X694 hx (hb hby at_218) rfl ?_
      refine own_cStat (W := 1) (rest := [(.int ((own_st xs (0 : Int32) ee) - (own_st xs (0 : Int32) ff)))]) X694 hx hZ [(.ref b673), (.int 3), (.int ee)] hown (own_m hw 148 rfl) (own_m hw 149 rfl) (by decide) (own_m hw 150 rfl) (own_m hw 4 rfl) e694 (rmSt_3 l Z a0 hw [] b673 k673 c674 c676 c678 ee T692.heap n0 (Nat.le_trans (Nat.le_trans (Nat.le_trans Zs685 K686.1) E691.1) K692.1) (Arv.keep ((Arv.keep f684 K686 (ninS (Nat.ne_of_lt (Nat.lt_of_lt_of_le V679.lt (Nat.le_of_eq g680.symm))) nin0)).ext E691) K692 (ninS (Nat.ne_of_lt (Nat.lt_of_lt_of_le (Exa.keep f683 K686).lt (Nat.le_of_eq g691.symm))) nin0))) (by rw [hml]; rfl) (lenOf pd_18 rfl) rfl (Nat.le_of_eq rfl) (hb hby at_220) (by decide) (by decide) (by decide) (by decide) fun v695 T695 L695 X695 hQ695 => ?_
      obtain ⟨rfl, N695q, e695⟩ := hQ695
      have N695 := Fr.app N694 N695q
      show own_At p e below _ T695 m 223 _ [(.int (own_start3 c674 c676 c678 ee)), (.int ((own_st xs (0 : Int32) ee) - (own_st xs (0 : Int32) ff)))]
      refine own_aload X695 hx (hb hby at_223) rfl rfl ?_
      refine own_iload X695 hx (hb hby at_225) rfl ?_
      refine own_iload X695 hx (hb hby at_227) rfl ?_
      refine own_cStat (W := 2) (rest := [(.int (own_start3 c674 c676 c678 ee)), (.int ((own_st xs (0 : Int32) ee) - (own_st xs (0 : Int32) ff)))]) X695 hx hZ [(.ref b673), (.int 3), (.int ff)] hown (own_m hw 148 rfl) (own_m hw 149 rfl) (by decide) (own_m hw 150 rfl) (own_m hw 4 rfl) e695 (rmSt_3 l Z a0 hw [] b673 k673 c674 c676 c678 ff T692.heap n0 (Nat.le_trans (Nat.le_trans (Nat.le_trans Zs685 K686.1) E691.1) K692.1) (Arv.keep ((Arv.keep f684 K686 (ninS (Nat.ne_of_lt (Nat.lt_of_lt_of_le V679.lt (Nat.le_of_eq g680.symm))) nin0)).ext E691) K692 (ninS (Nat.ne_of_lt (Nat.lt_of_lt_of_le (Exa.keep f683 K686).lt (Nat.le_of_eq g691.symm))) nin0))) (by rw [hml]; rfl) (lenOf pd_18 rfl) rfl (Nat.le_of_eq rfl) (hb hby at_229) (by decide) (by decide) (by decide) (by decide) fun v696 T696 L696 X696 hQ696 => ?_
      obtain ⟨rfl, N696q, e696⟩ := hQ696
      have N696 := Fr.app N695 N696q
      show own_At p e below _ T696 m 232 _ [(.int (own_start3 c674 c676 c678 ff)), (.int (own_start3 c674 c676 c678 ee)), (.int ((own_st xs (0 : Int32) ee) - (own_st xs (0 : Int32) ff)))]
      refine own_isub X696 hx (hb hby at_232) ?_
      refine own_icmpNo X696 hx (hb hby at_233) (teq (by rw [heq _ f0 f1, heq _ g0 g1])).2 ?_
      refine own_iconst X696 hx 1 (hb hby at_236) rfl ?_
      refine own_goto X696 hx 241 (hb hby at_237) (by decide) (by decide) ?_
      refine own_retN X696 hx hlk hret (by simp) (by decide) (hb hby at_241) (own_kL hS0 (by rw [e696]; exact (Nat.le_trans (Nat.le_trans (Nat.le_trans (Nat.le_trans (Nat.le_trans (Nat.le_trans (Nat.le_trans (Nat.le_trans (Nat.le_refl _) E673.1) (Keep.of_wr W675).1) (Keep.of_wr W677).1) (Keep.of_wr W679).1) E680.1) K686.1) E691.1) K692.1)) (by decide) (by decide) ?_)
      try rw [e696]
      exact ⟨rfl, N696⟩
    · skip
      refine own_iload X690 hx (hb hby at_126) rfl ?_
      refine own_iload X690 hx (hb hby at_128) rfl ?_
      refine own_ifNo X690 hx (hb hby at_130) (tlt (by decide : (0 : Int32) < (3 : Int32))).2.2.2 ?_
      refine own_aload X690 hx (hb hby at_133) rfl rfl ?_
      refine own_iload X690 hx (hb hby at_135) rfl ?_
      refine own_iconst X690 hx 1 (hb hby at_137) rfl ?_
      refine own_isub X690 hx (hb hby at_138) ?_
      rw [show ((3 : Int32) - (1 : Int32)) = (2 : Int32) from by decide]
      refine own_caload X690 hx hZ (.int c678) e690 (Arv.keep f684 K686 (ninS (Nat.ne_of_lt (Nat.lt_of_lt_of_le V679.lt (Nat.le_of_eq g680.symm))) nin0)) ⟨by decide, by decide⟩ rfl (hb hby at_139) ?_
      refine own_bipush X690 hx 10 (hb hby at_140) rfl ?_
      by_cases hc697 : c678 = (10 : Int32)
      · refine own_icmpYes X690 hx 149 (hb hby at_142) (teq hc697).1 (by decide) (by decide) ?_
        refine own_iconst X690 hx 0 (hb hby at_149) rfl ?_
        refine own_iadd X690 hx (hb hby at_150) ?_
        rw [hsz.1 hc697]; exact hJ
      · refine own_icmpNo X690 hx (hb hby at_142) (feq hc697).1 ?_
        refine own_iconst X690 hx 1 (hb hby at_145) rfl ?_
        refine own_goto X690 hx 150 (hb hby at_146) (by decide) (by decide) ?_
        refine own_iadd X690 hx (hb hby at_150) ?_
        rw [hsz.2 hc697]; exact hJ
  · rw [hr610]
    refine own_istore (l' := #[.val (.long j1), .second, .val (.int p1), .val (.int p2), .val (.int p3), .val (.int 4), .unset, .unset, .unset, .unset, .unset, .unset, .unset]) X0 hx (hb hby at_6) rfl ?_
    refine own_iload X0 hx (hb hby at_8) rfl ?_
    refine own_newP (n := (4 : Int32)) (cap := 4) (ad := "[C") X0 hx hZ (own_m hw 1 rfl) e0 (hb hby at_10) (by decide) (by decide) (by decide) (by decide) (by decide) (by decide) fun T698 h698 k698 b698 g698 X698 e698 E698 A698 Ex698 => ?_
    have g_b698 : n0 ≤ b698 := Nat.le_trans Z0 (Nat.le_of_eq g698.symm)
    have szo_b698 : h0.size ≤ b698 := Nat.le_trans (Nat.le_refl h0.size) (Nat.le_of_eq g698.symm)
    have V698 : Arv Z h698 b698 k698 .char (4 : Int32) [(.int 0), (.int 0), (.int 0), (.int 0)] (.int 0) := (Arv.new A698 (by decide)).pad (pad_rep [] (.int 0) 4)
    refine own_astore (l' := #[.val (.long j1), .second, .val (.int p1), .val (.int p2), .val (.int p3), .val (.int 4), .val (.ref b698), .unset, .unset, .unset, .unset, .unset, .unset]) X698 hx (hb hby at_12) rfl rfl ?_
    refine own_iload X698 hx (hb hby at_14) rfl ?_
    refine own_ifNo X698 hx (hb hby at_16) (tlt (by decide : (0 : Int32) < (4 : Int32))).2.2.2 ?_
    refine own_aload X698 hx (hb hby at_19) rfl rfl ?_
    refine own_iconst X698 hx 0 (hb hby at_21) rfl ?_
    refine own_lloadN X698 hx (hb hby at_22) rfl ?_
    refine own_cStat (W := 2) (rest := [(.int 0), (.ref b698)]) X698 hx hZ [(.long j1)] hown (own_m hw 2 rfl) (own_m hw 3 rfl) (by decide) (own_m hw 5 rfl) (own_m hw 4 rfl) e698 (rmPick l Z a0 hw [] j1 h698 n0 (Nat.le_trans Z0 E698.1)) (by rw [hml]; rfl) (lenOf pd_20 rfl) rfl (Nat.le_of_eq rfl) (hb hby at_23) (by decide) (by decide) (by decide) (by decide) fun v699 T699 L699 X699 hQ699 => ?_
    obtain ⟨c699, rfl, N699q, e699, lo699, hi699⟩ := hQ699
    have N699 := Fr.app N0 N699q
    show own_At p e below _ T699 m 26 _ [(.int c699), (.int 0), (.ref b698)]
    refine own_stC (vs' := [(.int c699), (.int 0), (.int 0), (.int 0)]) (w := (.int c699)) X699 hx hZ e699 V698 ⟨by decide, by decide⟩ 0 rfl (Nat.le_of_ble_eq_true rfl) (congrArg Value.int (own_narc lo699 hi699)) rfl (hb hby at_26) fun T700 h700 X700 e700 W700 V700 => ?_
    have N700 := Fr.snoc X700 N699 g_b698
    refine own_iload X700 hx (hb hby at_27) rfl ?_
    refine own_iconst X700 hx 1 (hb hby at_29) rfl ?_
    refine own_icmpNo X700 hx (hb hby at_30) (tlt (by decide : (1 : Int32) < (4 : Int32))).2.2.2 ?_
    refine own_aload X700 hx (hb hby at_33) rfl rfl ?_
    refine own_iconst X700 hx 1 (hb hby at_35) rfl ?_
    refine own_lloadN X700 hx (hb hby at_36) rfl ?_
    refine own_bipush X700 hx 9 (hb hby at_37) rfl ?_
    refine own_lushr X700 hx (hb hby at_39) ?_
    refine own_cStat (W := 2) (rest := [(.int 1), (.ref b698)]) X700 hx hZ [(.long ((j1.toUInt64 >>> ((9 : Int32) &&& 0x3f).toInt64.toUInt64).toInt64))] hown (own_m hw 2 rfl) (own_m hw 3 rfl) (by decide) (own_m hw 5 rfl) (own_m hw 4 rfl) e700 (rmPick l Z a0 hw [] ((j1.toUInt64 >>> ((9 : Int32) &&& 0x3f).toInt64.toUInt64).toInt64) h700 n0 (Nat.le_trans (Nat.le_trans Z0 E698.1) (Keep.of_wr W700).1)) (by rw [hml]; rfl) (lenOf pd_20 rfl) rfl (Nat.le_of_eq rfl) (hb hby at_40) (by decide) (by decide) (by decide) (by decide) fun v701 T701 L701 X701 hQ701 => ?_
    obtain ⟨c701, rfl, N701q, e701, lo701, hi701⟩ := hQ701
    have N701 := Fr.app N700 N701q
    show own_At p e below _ T701 m 43 _ [(.int c701), (.int 1), (.ref b698)]
    refine own_stC (vs' := [(.int c699), (.int c701), (.int 0), (.int 0)]) (w := (.int c701)) X701 hx hZ e701 V700 ⟨by decide, by decide⟩ 1 rfl (Nat.le_of_ble_eq_true rfl) (congrArg Value.int (own_narc lo701 hi701)) rfl (hb hby at_43) fun T702 h702 X702 e702 W702 V702 => ?_
    have N702 := Fr.snoc X702 N701 g_b698
    refine own_iload X702 hx (hb hby at_44) rfl ?_
    refine own_iconst X702 hx 2 (hb hby at_46) rfl ?_
    refine own_icmpNo X702 hx (hb hby at_47) (tlt (by decide : (2 : Int32) < (4 : Int32))).2.2.2 ?_
    refine own_aload X702 hx (hb hby at_50) rfl rfl ?_
    refine own_iconst X702 hx 2 (hb hby at_52) rfl ?_
    refine own_lloadN X702 hx (hb hby at_53) rfl ?_
    refine own_bipush X702 hx 18 (hb hby at_54) rfl ?_
    refine own_lushr X702 hx (hb hby at_56) ?_
    refine own_cStat (W := 2) (rest := [(.int 2), (.ref b698)]) X702 hx hZ [(.long ((j1.toUInt64 >>> ((18 : Int32) &&& 0x3f).toInt64.toUInt64).toInt64))] hown (own_m hw 2 rfl) (own_m hw 3 rfl) (by decide) (own_m hw 5 rfl) (own_m hw 4 rfl) e702 (rmPick l Z a0 hw [] ((j1.toUInt64 >>> ((18 : Int32) &&& 0x3f).toInt64.toUInt64).toInt64) h702 n0 (Nat.le_trans (Nat.le_trans (Nat.le_trans Z0 E698.1) (Keep.of_wr W700).1) (Keep.of_wr W702).1)) (by rw [hml]; rfl) (lenOf pd_20 rfl) rfl (Nat.le_of_eq rfl) (hb hby at_57) (by decide) (by decide) (by decide) (by decide) fun v703 T703 L703 X703 hQ703 => ?_
    obtain ⟨c703, rfl, N703q, e703, lo703, hi703⟩ := hQ703
    have N703 := Fr.app N702 N703q
    show own_At p e below _ T703 m 60 _ [(.int c703), (.int 2), (.ref b698)]
    refine own_stC (vs' := [(.int c699), (.int c701), (.int c703), (.int 0)]) (w := (.int c703)) X703 hx hZ e703 V702 ⟨by decide, by decide⟩ 2 rfl (Nat.le_of_ble_eq_true rfl) (congrArg Value.int (own_narc lo703 hi703)) rfl (hb hby at_60) fun T704 h704 X704 e704 W704 V704 => ?_
    have N704 := Fr.snoc X704 N703 g_b698
    refine own_iload X704 hx (hb hby at_61) rfl ?_
    refine own_iconst X704 hx 3 (hb hby at_63) rfl ?_
    refine own_icmpNo X704 hx (hb hby at_64) (tlt (by decide : (3 : Int32) < (4 : Int32))).2.2.2 ?_
    refine own_aload X704 hx (hb hby at_67) rfl rfl ?_
    refine own_iconst X704 hx 3 (hb hby at_69) rfl ?_
    refine own_lloadN X704 hx (hb hby at_70) rfl ?_
    refine own_bipush X704 hx 27 (hb hby at_71) rfl ?_
    refine own_lushr X704 hx (hb hby at_73) ?_
    refine own_cStat (W := 2) (rest := [(.int 3), (.ref b698)]) X704 hx hZ [(.long ((j1.toUInt64 >>> ((27 : Int32) &&& 0x3f).toInt64.toUInt64).toInt64))] hown (own_m hw 2 rfl) (own_m hw 3 rfl) (by decide) (own_m hw 5 rfl) (own_m hw 4 rfl) e704 (rmPick l Z a0 hw [] ((j1.toUInt64 >>> ((27 : Int32) &&& 0x3f).toInt64.toUInt64).toInt64) h704 n0 (Nat.le_trans (Nat.le_trans (Nat.le_trans (Nat.le_trans Z0 E698.1) (Keep.of_wr W700).1) (Keep.of_wr W702).1) (Keep.of_wr W704).1)) (by rw [hml]; rfl) (lenOf pd_20 rfl) rfl (Nat.le_of_eq rfl) (hb hby at_74) (by decide) (by decide) (by decide) (by decide) fun v705 T705 L705 X705 hQ705 => ?_
    obtain ⟨c705, rfl, N705q, e705, lo705, hi705⟩ := hQ705
    have N705 := Fr.app N704 N705q
    show own_At p e below _ T705 m 77 _ [(.int c705), (.int 3), (.ref b698)]
    refine own_stC (vs' := [(.int c699), (.int c701), (.int c703), (.int c705)]) (w := (.int c705)) X705 hx hZ e705 V704 ⟨by decide, by decide⟩ 3 rfl (Nat.le_of_ble_eq_true rfl) (congrArg Value.int (own_narc lo705 hi705)) rfl (hb hby at_77) fun T706 h706 X706 e706 W706 V706 => ?_
    have N706 := Fr.snoc X706 N705 g_b698
    refine own_newO X706 hx hZ hown (own_m hw 7 rfl) (own_m hw 8 rfl) (own_m hw 9 rfl) e706 (hb hby at_78) (by decide) (by decide) fun T707 h707 b707 g707 X707 e707 E707 A707 D707 => ?_
    have g_b707 : n0 ≤ b707 := Nat.le_trans (Nat.le_trans (Nat.le_trans (Nat.le_trans (Nat.le_trans (Nat.le_trans Z0 E698.1) (Keep.of_wr W700).1) (Keep.of_wr W702).1) (Keep.of_wr W704).1) (Keep.of_wr W706).1) (Nat.le_of_eq g707.symm)
    have szo_b707 : h0.size ≤ b707 := Nat.le_trans (Nat.le_trans (Nat.le_trans (Nat.le_trans (Nat.le_trans (Nat.le_trans (Nat.le_refl h0.size) E698.1) (Keep.of_wr W700).1) (Keep.of_wr W702).1) (Keep.of_wr W704).1) (Keep.of_wr W706).1) (Nat.le_of_eq g707.symm)
    have F_coder_b707 : Fld Z h707 b707 "java/lang/String" "coder" "B" (.int 0) := D707 (Or.inr (own_m hw 33 rfl)) (ty := .byte) (by decide)
    have F_value_b707 : Fld Z h707 b707 "java/lang/String" "value" "[B" .null := D707 (Or.inr (own_m hw 35 rfl)) (ty := (.array .byte)) (by decide)
    refine own_dup X707 hx (hb hby at_81) rfl ?_
    refine own_aload X707 hx (hb hby at_82) rfl rfl ?_
    have f708 := (Sta.ext E707 (Sta.wr W706 (Sta.wr W704 (Sta.wr W702 (Sta.wr W700 (Sta.ext E698 Sc))))))
    have f709 := (Sta.ext E707 (Sta.wr W706 (Sta.wr W704 (Sta.wr W702 (Sta.wr W700 (Sta.ext E698 Sf))))))
    have f710 := (Exa.ext E707 (Exa.wr W706 (Exa.wr W704 (Exa.wr W702 (Exa.wr W700 Ex698)))))
    have f711 := (V706.ext E707)
    have Zs712 : n0 ≤ h707.size := (Nat.le_trans (Nat.le_trans (Nat.le_trans (Nat.le_trans (Nat.le_trans (Nat.le_trans Z0 E698.1) (Keep.of_wr W700).1) (Keep.of_wr W702).1) (Keep.of_wr W704).1) (Keep.of_wr W706).1) E707.1)
    refine own_cSpec (b := b707) (W := 1) (rest := [(.ref b707)]) X707 hx hZ [(.ref b698)] rfl hown (own_m hw 10 rfl) (own_m hw 11 rfl) (by decide) (own_m hw 12 rfl) (own_m hw 9 rfl) e707 (rmI1_4 l Z a0 hw [] b707 b698 k698 cs c699 c701 c703 c705 h707 n0 Zs712 A707 F_value_b707 F_coder_b707 g_b707 f708 hcs f711 f710 hi699 hi701 hi703 hi705) (by rw [hml]; rfl) (lenOf pd_17 rfl) rfl (Nat.le_of_eq rfl) (hb hby at_84) (by decide) (by decide) (by decide) (by decide) fun v713 T713 L713 X713 hQ713 => ?_
    obtain ⟨rfl, N713q, K713, sb713, kb713, szb713, Eb713, Ea713, Fv713, Fc713, Vb713⟩ := hQ713
    have N713 := Fr.app N706 N713q
    obtain ⟨sz, k, al, xs, hk, h6, hal, heq, hsz, hLI⟩ := own_LO_4 l Z a0 hw cs fm c699 c701 c703 c705 lo699 hi699 lo701 hi701 lo703 hi703 lo705 hi705
    show own_At p e below _ T713 m 87 _ [(.ref b707)]
    refine own_astore (l' := #[.val (.long j1), .second, .val (.int p1), .val (.int p2), .val (.int p3), .val (.int 4), .val (.ref b698), .val (.ref b707), .unset, .unset, .unset, .unset, .unset]) X713 hx (hb hby at_87) rfl rfl ?_
    refine own_aload X713 hx (hb hby at_89) rfl rfl ?_
    refine own_iload X713 hx (hb hby at_91) rfl ?_
    refine own_iconst X713 hx 0 (hb hby at_93) rfl ?_
    refine own_cStat (W := 0) (rest := []) X713 hx hZ [(.ref b698), (.int 4), (.int 0)] hown (own_m hw 36 rfl) (own_m hw 37 rfl) (by decide) (own_m hw 38 rfl) (own_m hw 4 rfl) rfl (rmNl_4_0 l Z a0 hw [] b698 k698 c699 c701 c703 c705 T713.heap n0 (Nat.le_trans Zs712 K713.1) (Arv.keep f711 K713 (ninS (Nat.ne_of_lt (Nat.lt_of_lt_of_le V706.lt (Nat.le_of_eq g707.symm))) nin0))) (by rw [hml]; rfl) (lenOf pd_18 rfl) rfl (Nat.le_of_eq rfl) (hb hby at_94) (by decide) (by decide) (by decide) (by decide) fun v714 T714 L714 X714 hQ714 => ?_
    obtain ⟨rfl, N714q, e714⟩ := hQ714
    have N714 := Fr.app N713 N714q
    show own_At p e below _ T714 m 97 _ [(.int (own_nl c699))]
    refine own_aload X714 hx (hb hby at_97) rfl rfl ?_
    refine own_iload X714 hx (hb hby at_99) rfl ?_
    refine own_iconst X714 hx 1 (hb hby at_101) rfl ?_
    refine own_cStat (W := 1) (rest := [(.int (own_nl c699))]) X714 hx hZ [(.ref b698), (.int 4), (.int 1)] hown (own_m hw 36 rfl) (own_m hw 37 rfl) (by decide) (own_m hw 38 rfl) (own_m hw 4 rfl) e714 (rmNl_4_1 l Z a0 hw [] b698 k698 c699 c701 c703 c705 T713.heap n0 (Nat.le_trans Zs712 K713.1) (Arv.keep f711 K713 (ninS (Nat.ne_of_lt (Nat.lt_of_lt_of_le V706.lt (Nat.le_of_eq g707.symm))) nin0))) (by rw [hml]; rfl) (lenOf pd_18 rfl) rfl (Nat.le_of_eq rfl) (hb hby at_102) (by decide) (by decide) (by decide) (by decide) fun v715 T715 L715 X715 hQ715 => ?_
    obtain ⟨rfl, N715q, e715⟩ := hQ715
    have N715 := Fr.app N714 N715q
    show own_At p e below _ T715 m 105 _ [(.int (own_nl c701)), (.int (own_nl c699))]
    refine own_iadd X715 hx (hb hby at_105) ?_
    refine own_aload X715 hx (hb hby at_106) rfl rfl ?_
    refine own_iload X715 hx (hb hby at_108) rfl ?_
    refine own_iconst X715 hx 2 (hb hby at_110) rfl ?_
    refine own_cStat (W := 1) (rest := [(.int ((own_nl c699) + (own_nl c701)))]) X715 hx hZ [(.ref b698), (.int 4), (.int 2)] hown (own_m hw 36 rfl) (own_m hw 37 rfl) (by decide) (own_m hw 38 rfl) (own_m hw 4 rfl) e715 (rmNl_4_2 l Z a0 hw [] b698 k698 c699 c701 c703 c705 T713.heap n0 (Nat.le_trans Zs712 K713.1) (Arv.keep f711 K713 (ninS (Nat.ne_of_lt (Nat.lt_of_lt_of_le V706.lt (Nat.le_of_eq g707.symm))) nin0))) (by rw [hml]; rfl) (lenOf pd_18 rfl) rfl (Nat.le_of_eq rfl) (hb hby at_111) (by decide) (by decide) (by decide) (by decide) fun v716 T716 L716 X716 hQ716 => ?_
    obtain ⟨rfl, N716q, e716⟩ := hQ716
    have N716 := Fr.app N715 N716q
    show own_At p e below _ T716 m 114 _ [(.int (own_nl c703)), (.int ((own_nl c699) + (own_nl c701)))]
    refine own_iadd X716 hx (hb hby at_114) ?_
    refine own_aload X716 hx (hb hby at_115) rfl rfl ?_
    refine own_iload X716 hx (hb hby at_117) rfl ?_
    refine own_iconst X716 hx 3 (hb hby at_119) rfl ?_
    refine own_cStat (W := 1) (rest := [(.int (((own_nl c699) + (own_nl c701)) + (own_nl c703)))]) X716 hx hZ [(.ref b698), (.int 4), (.int 3)] hown (own_m hw 36 rfl) (own_m hw 37 rfl) (by decide) (own_m hw 38 rfl) (own_m hw 4 rfl) e716 (rmNl_4_3 l Z a0 hw [] b698 k698 c699 c701 c703 c705 T713.heap n0 (Nat.le_trans Zs712 K713.1) (Arv.keep f711 K713 (ninS (Nat.ne_of_lt (Nat.lt_of_lt_of_le V706.lt (Nat.le_of_eq g707.symm))) nin0))) (by rw [hml]; rfl) (lenOf pd_18 rfl) rfl (Nat.le_of_eq rfl) (hb hby at_120) (by decide) (by decide) (by decide) (by decide) fun v717 T717 L717 X717 hQ717 => ?_
    obtain ⟨rfl, N717q, e717⟩ := hQ717
    have N717 := Fr.app N716 N717q
    show own_At p e below _ T717 m 123 _ [(.int (own_nl c705)), (.int (((own_nl c699) + (own_nl c701)) + (own_nl c703)))]
    refine own_iadd X717 hx (hb hby at_123) ?_
    refine own_istore (l' := #[.val (.long j1), .second, .val (.int p1), .val (.int p2), .val (.int p3), .val (.int 4), .val (.ref b698), .val (.ref b707), .val (.int ((((own_nl c699) + (own_nl c701)) + (own_nl c703)) + (own_nl c705))), .unset, .unset, .unset, .unset]) X717 hx (hb hby at_124) rfl ?_
    refine own_join 151 #[.val (.long j1), .second, .val (.int p1), .val (.int p2), .val (.int p3), .val (.int 4), .val (.ref b698), .val (.ref b707), .val (.int ((((own_nl c699) + (own_nl c701)) + (own_nl c703)) + (own_nl c705))), .unset, .unset, .unset, .unset] [(.int sz)] ?_ fun hJ => ?_
    · skip
      refine own_istore (l' := #[.val (.long j1), .second, .val (.int p1), .val (.int p2), .val (.int p3), .val (.int 4), .val (.ref b698), .val (.ref b707), .val (.int ((((own_nl c699) + (own_nl c701)) + (own_nl c703)) + (own_nl c705))), .val (.int sz), .unset, .unset, .unset]) X717 hx (hb hby at_151) rfl ?_
      refine own_newO X717 hx hZ hown (own_m hw 39 rfl) (own_m hw 40 rfl) (own_m hw 41 rfl) e717 (hb hby at_153) (by decide) (by decide) fun T718 h718 b718 g718 X718 e718 E718 A718 D718 => ?_
      have g_b718 : n0 ≤ b718 := Nat.le_trans (Nat.le_trans Zs712 K713.1) (Nat.le_of_eq g718.symm)
      have szo_b718 : h0.size ≤ b718 := Nat.le_trans (Nat.le_trans (Nat.le_trans (Nat.le_trans (Nat.le_trans (Nat.le_trans (Nat.le_trans (Nat.le_trans (Nat.le_refl h0.size) E698.1) (Keep.of_wr W700).1) (Keep.of_wr W702).1) (Keep.of_wr W704).1) (Keep.of_wr W706).1) E707.1) K713.1) (Nat.le_of_eq g718.symm)
      have F_modCount_b718 : Fld Z h718 b718 "java/util/AbstractList" "modCount" "I" (.int 0) := D718 (Or.inl (own_m hw 58 rfl)) (ty := .int) (by decide)
      have F_text_b718 : Fld Z h718 b718 "com/example/amendtrail/amendtrail/write/Lines" "text" "Ljava/lang/String;" .null := D718 (Or.inr (own_m hw 60 rfl)) (ty := (.object "java/lang/String")) (by decide)
      have F_size_b718 : Fld Z h718 b718 "com/example/amendtrail/amendtrail/write/Lines" "size" "I" (.int 0) := D718 (Or.inr (own_m hw 135 rfl)) (ty := .int) (by decide)
      have F_starts_b718 : Fld Z h718 b718 "com/example/amendtrail/amendtrail/write/Lines" "starts" "[I" .null := D718 (Or.inr (own_m hw 137 rfl)) (ty := (.array .int)) (by decide)
      refine own_dup X718 hx (hb hby at_156) rfl ?_
      refine own_aload X718 hx (hb hby at_157) rfl rfl ?_
      refine own_cSpec (b := b718) (W := 1) (rest := [(.ref b718)]) X718 hx hZ [(.ref b707)] rfl hown (own_m hw 42 rfl) (own_m hw 43 rfl) (by decide) (own_m hw 44 rfl) (own_m hw 41 rfl) e718 (hLI b718 b707 sb713 kb713 h718 n0 (Nat.le_trans (Nat.le_trans Zs712 K713.1) E718.1) (Sta.ext E718 (own_staKeep f708 K713 (allS (own_exaStat A707) all0))) hcs (Exa.ext E718 Ea713) (Fld.ext E718 Fv713) (Fld.ext E718 Fc713) (Vb713.ext E718) (Sta.ext E718 (own_staKeep f709 K713 (allS (own_exaStat A707) all0))) hfm A718 F_modCount_b718 g_b718 (Nat.ne_of_lt (Nat.lt_of_lt_of_le Vb713.lt (Nat.le_of_eq g718.symm))) F_text_b718 F_size_b718 F_starts_b718) (by rw [hml]; rfl) (lenOf pd_19 rfl) rfl (Nat.le_of_eq rfl) (hb hby at_159) (by decide) (by decide) (by decide) (by decide) fun v719 T719 L719 X719 hQ719 => ?_
      obtain ⟨rfl, N719q, K719, sa719, ks719, Eo719, Fz719, Fs719, Vs719⟩ := hQ719
      have N719 := Fr.app N717 N719q
      show own_At p e below _ T719 m 162 _ [(.ref b718)]
      refine own_astore (l' := #[.val (.long j1), .second, .val (.int p1), .val (.int p2), .val (.int p3), .val (.int 4), .val (.ref b698), .val (.ref b707), .val (.int ((((own_nl c699) + (own_nl c701)) + (own_nl c703)) + (own_nl c705))), .val (.int sz), .val (.ref b718), .unset, .unset]) X719 hx (hb hby at_162) rfl rfl ?_
      refine own_aload X719 hx (hb hby at_164) rfl rfl ?_
      refine own_cVirt (W := 0) (rest := []) X719 hx hZ [] hown (own_m hw 138 rfl) (own_m hw 139 rfl) (notFace_of_selects (args := #[]) (mvT hZ (own_m hw 141 rfl))) (own_m hw 141 rfl) (own_m hw 140 rfl) (by decide) (own_m hw 142 rfl) (own_m hw 41 rfl) rfl Eo719 (rmSz l Z a0 hw [] b718 sz T719.heap n0 (Nat.le_trans (Nat.le_trans (Nat.le_trans Zs712 K713.1) E718.1) K719.1) Fz719) (by rw [hml]; rfl) (lenOf pd_9 rfl) rfl (Nat.le_of_eq rfl) (hb hby at_166) (by decide) (by decide) (by decide) (by decide) fun v720 T720 L720 X720 hQ720 => ?_
      obtain ⟨rfl, N720q, e720⟩ := hQ720
      have N720 := Fr.app N719 N720q
      show own_At p e below _ T720 m 169 _ [(.int sz)]
      refine own_iload X720 hx (hb hby at_169) rfl ?_
      refine own_icmpYes X720 hx 176 (hb hby at_171) (teq (rfl : sz = sz)).1 (by decide) (by decide) ?_
      refine own_iloadN X720 hx (hb hby at_176) rfl ?_
      refine own_ldcI X720 hx hZ hown (own_m hw 0 rfl) (hb hby at_177) ?_
      refine own_iand X720 hx (hb hby at_179) ?_
      refine own_iload X720 hx (hb hby at_180) rfl ?_
      refine own_iconst X720 hx 1 (hb hby at_182) rfl ?_
      refine own_iadd X720 hx (hb hby at_183) ?_
      obtain ⟨z1, f0, f1⟩ := own_fst p2 sz (sz + (1 : Int32)) k hk h6 rfl
      refine own_irem X720 hx (hb hby at_184) z1 ?_
      generalize hff : ((p2 &&& (2147483647 : Int32)) % (sz + (1 : Int32))) = ff at *
      refine own_istore (l' := #[.val (.long j1), .second, .val (.int p1), .val (.int p2), .val (.int p3), .val (.int 4), .val (.ref b698), .val (.ref b707), .val (.int ((((own_nl c699) + (own_nl c701)) + (own_nl c703)) + (own_nl c705))), .val (.int sz), .val (.ref b718), .val (.int ff), .unset]) X720 hx (hb hby at_185) rfl ?_
      refine own_iload X720 hx (hb hby at_187) rfl ?_
      refine own_iload X720 hx (hb hby at_189) rfl ?_
      refine own_ldcI X720 hx hZ hown (own_m hw 0 rfl) (hb hby at_191) ?_
      refine own_iand X720 hx (hb hby at_193) ?_
      refine own_iload X720 hx (hb hby at_194) rfl ?_
      refine own_iconst X720 hx 1 (hb hby at_196) rfl ?_
      refine own_iadd X720 hx (hb hby at_197) ?_
      refine own_iload X720 hx (hb hby at_198) rfl ?_
      refine own_isub X720 hx (hb hby at_200) ?_
      obtain ⟨z0, g0, g1⟩ := own_snd p3 sz (sz + (1 : Int32)) ff k hk h6 rfl f0 f1
      refine own_irem X720 hx (hb hby at_201) z0 ?_
      refine own_iadd X720 hx (hb hby at_202) ?_
      generalize hee : (ff + ((p3 &&& (2147483647 : Int32)) % ((sz + (1 : Int32)) - ff))) = ee at *
      refine own_istore (l' := #[.val (.long j1), .second, .val (.int p1), .val (.int p2), .val (.int p3), .val (.int 4), .val (.ref b698), .val (.ref b707), .val (.int ((((own_nl c699) + (own_nl c701)) + (own_nl c703)) + (own_nl c705))), .val (.int sz), .val (.ref b718), .val (.int ff), .val (.int ee)]) X720 hx (hb hby at_203) rfl ?_
      refine own_aload X720 hx (hb hby at_205) rfl rfl ?_
      refine own_iload X720 hx (hb hby at_207) rfl ?_
      refine own_iload X720 hx (hb hby at_209) rfl ?_
      refine own_cVirt (W := 0) (rest := []) X720 hx hZ [(.int ff), (.int ee)] hown (own_m hw 143 rfl) (own_m hw 144 rfl) (notFace_of_selects (args := #[]) (mvT hZ (own_m hw 146 rfl))) (own_m hw 146 rfl) (own_m hw 145 rfl) (by decide) (own_m hw 147 rfl) (own_m hw 41 rfl) e720 Eo719 (rmLL l Z a0 hw [] b718 sa719 ks719 xs al ff ee T719.heap n0 (Nat.le_trans (Nat.le_trans (Nat.le_trans Zs712 K713.1) E718.1) K719.1) Fs719 Vs719 (own_lt65 hk h6 hal f0 f1) (own_lt65 hk h6 hal g0 g1)) (by rw [hml]; rfl) (lenOf pd_6 rfl) rfl (Nat.le_of_eq rfl) (hb hby at_211) (by decide) (by decide) (by decide) (by decide) fun v721 T721 L721 X721 hQ721 => ?_
      obtain ⟨rfl, N721q, e721⟩ := hQ721
      have N721 := Fr.app N720 N721q
      show own_At p e below _ T721 m 214 _ [(.int ((own_st xs (0 : Int32) ee) - (own_st xs (0 : Int32) ff)))]
      refine own_aload X721 hx (hb hby at_214) rfl rfl ?_
      refine own_iload X721 hx (hb hby at_216) rfl ?_
      refine own_iload X721 hx (hb hby at_218) rfl ?_
      refine own_cStat (W := 1) (rest := [(.int ((own_st xs (0 : Int32) ee) - (own_st xs (0 : Int32) ff)))]) X721 hx hZ [(.ref b698), (.int 4), (.int ee)] hown (own_m hw 148 rfl) (own_m hw 149 rfl) (by decide) (own_m hw 150 rfl) (own_m hw 4 rfl) e721 (rmSt_4 l Z a0 hw [] b698 k698 c699 c701 c703 c705 ee T719.heap n0 (Nat.le_trans (Nat.le_trans (Nat.le_trans Zs712 K713.1) E718.1) K719.1) (Arv.keep ((Arv.keep f711 K713 (ninS (Nat.ne_of_lt (Nat.lt_of_lt_of_le V706.lt (Nat.le_of_eq g707.symm))) nin0)).ext E718) K719 (ninS (Nat.ne_of_lt (Nat.lt_of_lt_of_le (Exa.keep f710 K713).lt (Nat.le_of_eq g718.symm))) nin0))) (by rw [hml]; rfl) (lenOf pd_18 rfl) rfl (Nat.le_of_eq rfl) (hb hby at_220) (by decide) (by decide) (by decide) (by decide) fun v722 T722 L722 X722 hQ722 => ?_
      obtain ⟨rfl, N722q, e722⟩ := hQ722
      have N722 := Fr.app N721 N722q
      show own_At p e below _ T722 m 223 _ [(.int (own_start4 c699 c701 c703 c705 ee)), (.int ((own_st xs (0 : Int32) ee) - (own_st xs (0 : Int32) ff)))]
      refine own_aload X722 hx (hb hby at_223) rfl rfl ?_
      refine own_iload X722 hx (hb hby at_225) rfl ?_
      refine own_iload X722 hx (hb hby at_227) rfl ?_
      refine own_cStat (W := 2) (rest := [(.int (own_start4 c699 c701 c703 c705 ee)), (.int ((own_st xs (0 : Int32) ee) - (own_st xs (0 : Int32) ff)))]) X722 hx hZ [(.ref b698), (.int 4), (.int ff)] hown (own_m hw 148 rfl) (own_m hw 149 rfl) (by decide) (own_m hw 150 rfl) (own_m hw 4 rfl) e722 (rmSt_4 l Z a0 hw [] b698 k698 c699 c701 c703 c705 ff T719.heap n0 (Nat.le_trans (Nat.le_trans (Nat.le_trans Zs712 K713.1) E718.1) K719.1) (Arv.keep ((Arv.keep f711 K713 (ninS (Nat.ne_of_lt (Nat.lt_of_lt_of_le V706.lt (Nat.le_of_eq g707.symm))) nin0)).ext E718) K719 (ninS (Nat.ne_of_lt (Nat.lt_of_lt_of_le (Exa.keep f710 K713).lt (Nat.le_of_eq g718.symm))) nin0))) (by rw [hml]; rfl) (lenOf pd_18 rfl) rfl (Nat.le_of_eq rfl) (hb hby at_229) (by decide) (by decide) (by decide) (by decide) fun v723 T723 L723 X723 hQ723 => ?_
      obtain ⟨rfl, N723q, e723⟩ := hQ723
      have N723 := Fr.app N722 N723q
      show own_At p e below _ T723 m 232 _ [(.int (own_start4 c699 c701 c703 c705 ff)), (.int (own_start4 c699 c701 c703 c705 ee)), (.int ((own_st xs (0 : Int32) ee) - (own_st xs (0 : Int32) ff)))]
      refine own_isub X723 hx (hb hby at_232) ?_
      refine own_icmpNo X723 hx (hb hby at_233) (teq (by rw [heq _ f0 f1, heq _ g0 g1])).2 ?_
      refine own_iconst X723 hx 1 (hb hby at_236) rfl ?_
      refine own_goto X723 hx 241 (hb hby at_237) (by decide) (by decide) ?_
      refine own_retN X723 hx hlk hret (by simp) (by decide) (hb hby at_241) (own_kL hS0 (by rw [e723]; exact (Nat.le_trans (Nat.le_trans (Nat.le_trans (Nat.le_trans (Nat.le_trans (Nat.le_trans (Nat.le_trans (Nat.le_trans (Nat.le_trans (Nat.le_refl _) E698.1) (Keep.of_wr W700).1) (Keep.of_wr W702).1) (Keep.of_wr W704).1) (Keep.of_wr W706).1) E707.1) K713.1) E718.1) K719.1)) (by decide) (by decide) ?_)
      try rw [e723]
      exact ⟨rfl, N723⟩
    · skip
      refine own_iload X717 hx (hb hby at_126) rfl ?_
      refine own_iload X717 hx (hb hby at_128) rfl ?_
      refine own_ifNo X717 hx (hb hby at_130) (tlt (by decide : (0 : Int32) < (4 : Int32))).2.2.2 ?_
      refine own_aload X717 hx (hb hby at_133) rfl rfl ?_
      refine own_iload X717 hx (hb hby at_135) rfl ?_
      refine own_iconst X717 hx 1 (hb hby at_137) rfl ?_
      refine own_isub X717 hx (hb hby at_138) ?_
      rw [show ((4 : Int32) - (1 : Int32)) = (3 : Int32) from by decide]
      refine own_caload X717 hx hZ (.int c705) e717 (Arv.keep f711 K713 (ninS (Nat.ne_of_lt (Nat.lt_of_lt_of_le V706.lt (Nat.le_of_eq g707.symm))) nin0)) ⟨by decide, by decide⟩ rfl (hb hby at_139) ?_
      refine own_bipush X717 hx 10 (hb hby at_140) rfl ?_
      by_cases hc724 : c705 = (10 : Int32)
      · refine own_icmpYes X717 hx 149 (hb hby at_142) (teq hc724).1 (by decide) (by decide) ?_
        refine own_iconst X717 hx 0 (hb hby at_149) rfl ?_
        refine own_iadd X717 hx (hb hby at_150) ?_
        rw [hsz.1 hc724]; exact hJ
      · refine own_icmpNo X717 hx (hb hby at_142) (feq hc724).1 ?_
        refine own_iconst X717 hx 1 (hb hby at_145) rfl ?_
        refine own_goto X717 hx 150 (hb hby at_146) (by decide) (by decide) ?_
        refine own_iadd X717 hx (hb hby at_150) ?_
        rw [hsz.2 hc724]; exact hJ
set_option maxRecDepth 65536 in
set_option maxHeartbeats 40000000 in
theorem comes_1 {Post : Tables → Env → Array Value → State → Outcome → State → Prop} (hpost : ∀ tb e args s v u, (limb_1_1.after args s (.returned v) u = true ∧ limb_1_2.after args s (.returned v) u = true ∧ True) → ReturnedEndW s (.returned v) u (Jvm.fieldLocs frame_1_writes args s ++ Jvm.arrayLocs frame_1_arrays args s ++ Jvm.staticLocs frame_1_statics s) 24 1536 → Post tb e args s (.returned v) u) :
    ArmFor flags0 classFile x code maxLocals ret World_1 tables_1 room_1 Calls_1 rest_1 Pre_1 Post := by
  intro l hfl _ _ p e ha hc hk s m args below hf hA hF happ hP
  obtain ⟨hcalls, hrest, hpre⟩ := hP
  obtain ⟨-, -, -, hnamed, -, -, -, hat⟩ := (Spec.applies_iff hf).mp happ
  obtain ⟨hg, hn⟩ := and_e (Cond.before_iff.mp (show (Jvm.Cond.and given_1 narrow_1).before args s = true from hpre))
  obtain ⟨g0a, g0b⟩ := and_e hg
  obtain ⟨g1a, g1b⟩ := and_e g0b
  obtain ⟨g2a, g2b⟩ := and_e g1b
  obtain ⟨g3a, g3b⟩ := and_e g2b
  obtain ⟨w0, w1, w2, w3, rfl⟩ : ∃ w0 w1 w2 w3 : Value, args = #[w0, w1, w2, w3] := by
    have hs : args.size = 4 := by simpa [Cond.value, given_1] using g0a
    obtain ⟨L⟩ := args
    match L, hs with
    | [w0, w1, w2, w3], _ => exact ⟨w0, w1, w2, w3, rfl⟩
  have hw := fun d (hd : d ∈ tables_1) => atoms_spec (ws := Jvm.Cond.code x code maxLocals ret :: tables_1) hat d (List.mem_cons_of_mem _ hd)
  have hfit : Fit s := fun {y c} hc i hi => by
    obtain ⟨ha, rfl⟩ := Array.getElem?_eq_some_iff.mp hc
    have q := List.all_eq_true.mp ((Array.all_eq_true_iff_forall_mem.mp hF) _ (Array.getElem_mem ha)) i (List.mem_range.mpr hi)
    simpa [Array.getElem?_eq_getElem hi] using q
  obtain ⟨hsets, hown0⟩ := atoms_of _ (rest_1_c_eq ▸ (show rest_1_c.before _ s = true from hrest))
  have hr0 := Cond.before_iff.mp hown0
  obtain ⟨i0, ei0⟩ := isL_v g1a
  obtain rfl : w0 = (.long i0) := Option.some.inj ei0
  obtain ⟨i1, ei1⟩ := is_v g2a
  obtain rfl : w1 = (.int i1) := Option.some.inj ei1
  obtain ⟨i2, ei2⟩ := is_v g3a
  obtain rfl : w2 = (.int i2) := Option.some.inj ei2
  obtain ⟨i3, ei3⟩ := is_v g3b
  obtain rfl : w3 = (.int i3) := Option.some.inj ei3
  obtain ⟨cs, evc⟩ := is_v (Cond.before_iff.mp (hsets _ (List.mem_of_getElem? (i := 1) rfl)))
  have Sc := Sta.start evc (Or.inl (hsets _ (List.mem_of_getElem? (i := 0) rfl)))
  have hcs : ¬ cs = (0 : Int32) := gotF (Cond.eq_ints evc (Term.int_eval 0)) (not_v (Cond.before_iff.mp (hsets _ (List.mem_of_getElem? (i := 2) rfl))))
  obtain ⟨fm, evf, hfm⟩ := isR_v (Cond.before_iff.mp (hsets _ (List.mem_of_getElem? (i := 8) rfl)))
  have Sf := Sta.start evf (Or.inl (hsets _ (List.mem_of_getElem? (i := 7) rfl)))
  have CHs : CHv s own_EL s.vm s.heap := CHv.start (own_ELw hw) (fun p hp => by simp only [List.mem_singleton] at hp; subst hp; exact (hcalls.1 _ (List.mem_of_getElem? (i := 0) rfl))) (hsets _ (List.mem_of_getElem? (i := 2) rfl)) (own_m hw 25 rfl) (own_m hw 8 rfl)
  obtain ⟨n, o, h1, h2, h3, _, L, rfl, ⟨rfl, N⟩, hq⟩ := (rm0 l s _ hw tables_1 cs fm i0 i1 i2 i3 s.heap s.heap.size (Nat.le_refl _) Sc hcs Sf hfm) p e ha hc hk s m _ below hf ((Spec.applies_iff_loose hf).mp happ).1 ⟨rfl, State.Warmed39.refl s, rfl, CHs⟩ trivial
  refine ⟨n, _, h1, h2, h3, hpost _ _ _ _ _ _ ⟨Cond.after_iff.mpr rfl, Cond.after_iff.mpr (eq_i res_at (Term.int_eval (1)) rfl), trivial⟩ ⟨hq.1, hq.2.1, hq.2.2.1, (hq.2.2.2.sift fun y hy => Or.inr (N y hy)).mono (by decide) (by decide)⟩⟩
theorem main_1_1 : Claimed_1_1 := comes_1 fun _ _ _ _ _ _ h hF => ⟨h.1, hF⟩
theorem main_1_2 : Claimed_1_2 := comes_1 fun _ _ _ _ _ _ h hF => ⟨h.2.1, hF⟩
end Jvm.Pilot.@@N@@
namespace Jvm.Pilot.@@N@@
open Jvm Jvm.ClassFile Sem Op Lib Jvm.Free Jvm.Stand Jvm.Pilot.@@N@@.Jvm.D
/-! MADE BY PROGRAM (witnessworld.py) out of the Statement's table words and the real class files: 30 classes; the members and pool entries that the words name. The judged class is class 1, her method 1. -/
namespace start1
open Jvm.ClassFile
def u (s : String) : CpInfo := .utf8 (stringToUtf16 s)
/-- a pool by its gaps: so many unusable entries, then the entry; so many at the end -/
def gap : Nat → List CpInfo → List CpInfo
  | 0, r => r
  | n + 1, r => .unusable :: gap n r
def poolList (es : List (Nat × CpInfo)) (last : Nat) : List CpInfo := es.foldr (fun e r => gap e.1 (e.2 :: r)) (gap last [])
def pool (es : List (Nat × CpInfo)) (last : Nat) : Array CpInfo := ⟨poolList es last⟩
def fileOf (pool : Array CpInfo) (this : Nat) (attrs : Array Attribute := #[]) (ms : Array MethodInfo := #[]) (fl : Nat := 33) (sup : Nat := 0) (ifs : Array Nat := #[]) (fds : Array FieldInfo := #[]) : ClassFile where
  minorVersion := 0
  majorVersion := 65
  constantPool := pool
  accessFlags := fl
  thisClass := this
  superClass := sup
  interfaces := ifs
  fields := fds
  methods := ms
  attributes := attrs
def plain (name : String) (sup : Option ClassId) : Class where
  name := name
  kind := .ordinary
  loader := none
  accessFlags := 33
  super := sup
  interfaces := #[]
  cf := none
  fields := #[]
  methods := #[]
  instanceTypes := #[]
  staticTypes := #[]
  resolved := #[]
  callSites := []
  init := .initialized
  statics := none
  mirror := none

def pool0 : Array CpInfo := pool [(5, u "<init>"), (0, u "()V"), (1, .class_ 10), (1, u "java/lang/Object")] 113

def k0c0 : Code := { maxStack := 0, maxLocals := 1, code := object_method_1_code, exceptionTable := #[], attributes := #[] }
def k0m0 : Method := { name := "<init>", desc := "()V", sig := { parameters := [], returnType := none }, accessFlags := 1, code := some k0c0 }
/-- java/lang/Object -/
def k0 : Class := { plain "java/lang/Object" none with
  accessFlags := 33
  interfaces := #[]
  cf := some (fileOf pool0 8 #[] #[{ accessFlags := 1, nameIndex := 5, descriptorIndex := 6, attributes := #[] }] 33 0 #[] #[])
  fields := #[]
  methods := #[k0m0]
  instanceTypes := #[]
  staticTypes := #[]
  resolved := Array.replicate 124 none
  statics := none }

def pool1 : Array CpInfo := pool [(2, .class_ 4), (1, u "java/lang/Object"), (0, u "<init>"), (0, u "()V"), (0, .integer 2147483647), (0, .methodref 9 10), (0, .class_ 11), (0, .nameAndType 12 13), (0, u "com/example/amendtrail/amendtrail/write/LinesLengthPinLaw"), (0, u "pick"), (0, u "(J)C"), (0, .class_ 15), (0, u "java/lang/String"), (0, .methodref 14 17), (0, .nameAndType 5 18), (0, u "([C)V"), (0, .methodref 9 20), (0, .nameAndType 21 22), (0, u "nl"), (0, u "([CII)I"), (0, .class_ 24), (0, u "com/example/amendtrail/amendtrail/write/Lines"), (0, .methodref 23 26), (0, .nameAndType 5 27), (0, u "(Ljava/lang/String;)V"), (0, .methodref 23 29), (0, .nameAndType 30 31), (0, u "size"), (0, u "()I"), (0, .methodref 23 33), (0, .nameAndType 34 35), (0, u "length"), (0, u "(II)I"), (0, .methodref 9 37), (0, .nameAndType 38 22), (0, u "start"), (0, .long 255), (3, u "law"), (0, u "(JIII)Z")] 5

def k1m0 : Method := { name := "<init>", desc := "()V", sig := { parameters := [], returnType := none }, accessFlags := 1, code := none }
def k1c1 : Code := { maxStack := 5, maxLocals := 13, code := code, exceptionTable := #[], attributes := #[] }
def k1m1 : Method := { name := "law", desc := "(JIII)Z", sig := { parameters := [.long, .int, .int, .int], returnType := some .boolean }, accessFlags := 9, code := some k1c1 }
def k1c2 : Code := { maxStack := 4, maxLocals := 2, code := method_3_code, exceptionTable := #[], attributes := #[] }
def k1m2 : Method := { name := "pick", desc := "(J)C", sig := { parameters := [.long], returnType := some .char }, accessFlags := 10, code := some k1c2 }
def k1c3 : Code := { maxStack := 2, maxLocals := 3, code := method_4_code, exceptionTable := #[], attributes := #[] }
def k1m3 : Method := { name := "nl", desc := "([CII)I", sig := { parameters := [(.array .char), .int, .int], returnType := some .int }, accessFlags := 10, code := some k1c3 }
def k1c4 : Code := { maxStack := 2, maxLocals := 4, code := method_5_code, exceptionTable := #[], attributes := #[] }
def k1m4 : Method := { name := "start", desc := "([CII)I", sig := { parameters := [(.array .char), .int, .int], returnType := some .int }, accessFlags := 10, code := some k1c4 }
/-- com/example/amendtrail/amendtrail/write/LinesLengthPinLaw -/
def k1 : Class := { plain "com/example/amendtrail/amendtrail/write/LinesLengthPinLaw" (some 0) with
  accessFlags := 49
  interfaces := #[]
  cf := some (fileOf pool1 9 #[] #[{ accessFlags := 1, nameIndex := 5, descriptorIndex := 6, attributes := #[] }, { accessFlags := 9, nameIndex := 43, descriptorIndex := 44, attributes := #[] }, { accessFlags := 10, nameIndex := 12, descriptorIndex := 13, attributes := #[] }, { accessFlags := 10, nameIndex := 21, descriptorIndex := 22, attributes := #[] }, { accessFlags := 10, nameIndex := 38, descriptorIndex := 22, attributes := #[] }] 49 2 #[] #[])
  fields := #[]
  methods := #[k1m0, k1m1, k1m2, k1m3, k1m4]
  instanceTypes := #[]
  staticTypes := #[]
  resolved := Array.replicate 50 none
  statics := none }

def pool2 : Array CpInfo := pool [(1, .class_ 2), (0, u "java/io/Serializable"), (0, .class_ 4), (0, u "java/lang/Object")] 2

/-- java/io/Serializable -/
def k2 : Class := { plain "java/io/Serializable" (some 0) with
  accessFlags := 1537
  interfaces := #[]
  cf := some (fileOf pool2 1 #[] #[] 1537 3 #[] #[])
  fields := #[]
  methods := #[]
  instanceTypes := #[]
  staticTypes := #[]
  resolved := Array.replicate 7 none
  statics := none }

def pool3 : Array CpInfo := pool [(1, .class_ 2), (0, u "java/lang/Comparable"), (0, .class_ 4), (0, u "java/lang/Object")] 7

/-- java/lang/Comparable -/
def k3 : Class := { plain "java/lang/Comparable" (some 0) with
  accessFlags := 1537
  interfaces := #[]
  cf := some (fileOf pool3 1 #[] #[] 1537 3 #[] #[])
  fields := #[]
  methods := #[]
  instanceTypes := #[]
  staticTypes := #[]
  resolved := Array.replicate 12 none
  statics := none }

def pool4 : Array CpInfo := pool [(2, .class_ 4), (1, u "java/lang/CharSequence"), (42, .class_ 48), (0, u "java/lang/CharSequence$1CodePointIterator"), (10, .class_ 60), (0, u "java/lang/CharSequence$1CharIterator"), (5, .class_ 67), (0, u "java/lang/Object")] 63

/-- java/lang/CharSequence -/
def k4 : Class := { plain "java/lang/CharSequence" (some 0) with
  accessFlags := 1537
  interfaces := #[]
  cf := some (fileOf pool4 2 #[.nestMembers #[47, 59]] #[] 1537 66 #[] #[])
  fields := #[]
  methods := #[]
  instanceTypes := #[]
  staticTypes := #[]
  resolved := Array.replicate 131 none
  statics := none }

def pool5 : Array CpInfo := pool [(1, .class_ 2), (0, u "java/lang/constant/Constable"), (0, .class_ 4), (0, u "java/lang/Object")] 6

/-- java/lang/constant/Constable -/
def k5 : Class := { plain "java/lang/constant/Constable" (some 0) with
  accessFlags := 1537
  interfaces := #[]
  cf := some (fileOf pool5 1 #[] #[] 1537 3 #[] #[])
  fields := #[]
  methods := #[]
  instanceTypes := #[]
  staticTypes := #[]
  resolved := Array.replicate 11 none
  statics := none }

def pool6 : Array CpInfo := pool [(1, .class_ 2), (0, u "java/lang/constant/ConstantDesc"), (0, .class_ 4), (0, u "java/lang/Object")] 32

/-- java/lang/constant/ConstantDesc -/
def k6 : Class := { plain "java/lang/constant/ConstantDesc" (some 0) with
  accessFlags := 1537
  interfaces := #[]
  cf := some (fileOf pool6 1 #[] #[] 1537 3 #[] #[])
  fields := #[]
  methods := #[]
  instanceTypes := #[]
  staticTypes := #[]
  resolved := Array.replicate 37 none
  statics := none }

def pool7 : Array CpInfo := pool [(1, .methodref 2 3), (0, .class_ 4), (0, .nameAndType 5 6), (0, u "java/lang/Object"), (0, u "<init>"), (0, u "()V"), (0, .string 8), (0, u ""), (0, .fieldref 10 11), (0, .class_ 12), (0, .nameAndType 13 14), (0, u "java/lang/String"), (0, u "value"), (0, u "[B"), (0, .fieldref 10 16), (0, .nameAndType 17 18), (0, u "coder"), (0, u "B"), (2, u "hash"), (0, u "I"), (2, u "hashIsZero"), (0, u "Z"), (0, .methodref 10 28), (0, .nameAndType 5 29), (0, u "([CIILjava/lang/Void;)V"), (8, .fieldref 10 39), (0, .nameAndType 40 26), (0, u "COMPACT_STRINGS"), (1, .class_ 44), (1, u "java/lang/StringUTF16"), (0, u "compress"), (1, .methodref 42 48), (0, .nameAndType 49 50), (0, u "coderFromArrayLen"), (0, u "([BI)B"), (56, .class_ 109), (1, u "java/lang/StringLatin1"), (32, u "()Z"), (34, .methodref 42 178), (0, .nameAndType 45 179), (0, u "([CII)[B"), (154, u "()I"), (0, .methodref 10 336), (0, .nameAndType 17 337), (0, u "()B"), (25, u "([BI)C"), (27, u "(II)V"), (35, u "(I)C"), (64, .methodref 10 493), (0, .nameAndType 494 142), (0, u "isLatin1"), (0, .methodref 107 496), (0, .nameAndType 497 363), (0, u "charAt"), (3, u "checkIndex"), (3, .methodref 10 506), (0, .nameAndType 507 334), (0, u "length"), (67, .class_ 576), (0, u "java/lang/CharSequence"), (22, u "CASE_INSENSITIVE_ORDER"), (0, u "Ljava/util/Comparator;"), (34, u "indexOf"), (0, u "(II)I"), (0, .methodref 107 638), (0, .nameAndType 635 639), (0, u "([BIII)I"), (52, u "isEmpty"), (317, u "([C)V"), (42, .fieldref 1054 1055), (0, .class_ 1056), (0, .nameAndType 1057 1058), (0, u "jdk/internal/util/Preconditions"), (0, u "SIOOBE_FORMATTER"), (0, u "Ljava/util/function/BiFunction;"), (0, .methodref 1054 1060), (0, .nameAndType 501 1061), (0, u "(IILjava/util/function/BiFunction;)I"), (39, u "serialPersistentFields"), (0, u "[Ljava/io/ObjectStreamField;"), (0, .class_ 1104), (0, u "java/lang/String$CaseInsensitiveComparator"), (1, .class_ 1107), (0, u "java/io/Serializable"), (0, .class_ 1109), (0, u "java/lang/Comparable"), (0, .class_ 1111), (0, u "java/lang/constant/Constable"), (0, .class_ 1113), (0, u "java/lang/constant/ConstantDesc"), (2, u "serialVersionUID"), (0, u "J"), (3, u "REPL"), (0, u "C"), (2, u "LATIN1"), (1, u "UTF16")] 323

def k7m0 : Method := { name := "<init>", desc := "()V", sig := { parameters := [], returnType := none }, accessFlags := 1, code := none }
def k7c1 : Code := { maxStack := 5, maxLocals := 2, code := jdk_42_method_3_code, exceptionTable := #[], attributes := #[] }
def k7m1 : Method := { name := "<init>", desc := "([C)V", sig := { parameters := [(.array .char)], returnType := none }, accessFlags := 1, code := some k7c1 }
def k7c2 : Code := { maxStack := 2, maxLocals := 1, code := jdk_42_method_54_code, exceptionTable := #[], attributes := #[] }
def k7m2 : Method := { name := "length", desc := "()I", sig := { parameters := [], returnType := some .int }, accessFlags := 1, code := some k7c2 }
def k7c3 : Code := { maxStack := 1, maxLocals := 1, code := jdk_42_method_55_code, exceptionTable := #[], attributes := #[] }
def k7m3 : Method := { name := "isEmpty", desc := "()Z", sig := { parameters := [], returnType := some .boolean }, accessFlags := 1, code := some k7c3 }
def k7c4 : Code := { maxStack := 2, maxLocals := 2, code := jdk_42_method_56_code, exceptionTable := #[], attributes := #[] }
def k7m4 : Method := { name := "charAt", desc := "(I)C", sig := { parameters := [.int], returnType := some .char }, accessFlags := 1, code := some k7c4 }
def k7c5 : Code := { maxStack := 4, maxLocals := 3, code := jdk_42_method_80_code, exceptionTable := #[], attributes := #[] }
def k7m5 : Method := { name := "indexOf", desc := "(II)I", sig := { parameters := [.int, .int], returnType := some .int }, accessFlags := 1, code := some k7c5 }
def k7c6 : Code := { maxStack := 4, maxLocals := 6, code := jdk_42_method_149_code, exceptionTable := #[], attributes := #[] }
def k7m6 : Method := { name := "<init>", desc := "([CIILjava/lang/Void;)V", sig := { parameters := [(.array .char), .int, .int, (.object "java/lang/Void")], returnType := none }, accessFlags := 2, code := some k7c6 }
def k7c7 : Code := { maxStack := 1, maxLocals := 1, code := jdk_42_method_152_code, exceptionTable := #[], attributes := #[] }
def k7m7 : Method := { name := "coder", desc := "()B", sig := { parameters := [], returnType := some .byte }, accessFlags := 0, code := some k7c7 }
def k7c8 : Code := { maxStack := 1, maxLocals := 1, code := jdk_42_method_154_code, exceptionTable := #[], attributes := #[] }
def k7m8 : Method := { name := "isLatin1", desc := "()Z", sig := { parameters := [], returnType := some .boolean }, accessFlags := 0, code := some k7c8 }
def k7c9 : Code := { maxStack := 3, maxLocals := 2, code := jdk_42_method_155_code, exceptionTable := #[], attributes := #[] }
def k7m9 : Method := { name := "checkIndex", desc := "(II)V", sig := { parameters := [.int, .int], returnType := none }, accessFlags := 8, code := some k7c9 }
/-- java/lang/String -/
def k7 : Class := { plain "java/lang/String" (some 0) with
  accessFlags := 49
  interfaces := #[2, 3, 4, 5, 6]
  cf := some (fileOf pool7 10 #[.nestMembers #[1103]] #[{ accessFlags := 1, nameIndex := 5, descriptorIndex := 6, attributes := #[] }, { accessFlags := 1, nameIndex := 5, descriptorIndex := 1010, attributes := #[] }, { accessFlags := 1, nameIndex := 507, descriptorIndex := 334, attributes := #[] }, { accessFlags := 1, nameIndex := 692, descriptorIndex := 142, attributes := #[] }, { accessFlags := 1, nameIndex := 497, descriptorIndex := 427, attributes := #[] }, { accessFlags := 1, nameIndex := 635, descriptorIndex := 636, attributes := #[] }, { accessFlags := 2, nameIndex := 5, descriptorIndex := 29, attributes := #[] }, { accessFlags := 0, nameIndex := 17, descriptorIndex := 337, attributes := #[] }, { accessFlags := 0, nameIndex := 494, descriptorIndex := 142, attributes := #[] }, { accessFlags := 8, nameIndex := 501, descriptorIndex := 391, attributes := #[] }] 49 2 #[1106, 1108, 575, 1110, 1112] #[{ accessFlags := 18, nameIndex := 13, descriptorIndex := 14, attributes := #[] }, { accessFlags := 18, nameIndex := 17, descriptorIndex := 18, attributes := #[] }, { accessFlags := 2, nameIndex := 21, descriptorIndex := 22, attributes := #[] }, { accessFlags := 2, nameIndex := 25, descriptorIndex := 26, attributes := #[] }, { accessFlags := 26, nameIndex := 1116, descriptorIndex := 1117, attributes := #[] }, { accessFlags := 24, nameIndex := 40, descriptorIndex := 26, attributes := #[] }, { accessFlags := 26, nameIndex := 1101, descriptorIndex := 1102, attributes := #[] }, { accessFlags := 26, nameIndex := 1121, descriptorIndex := 1122, attributes := #[] }, { accessFlags := 25, nameIndex := 599, descriptorIndex := 600, attributes := #[] }, { accessFlags := 24, nameIndex := 1125, descriptorIndex := 18, attributes := #[] }, { accessFlags := 24, nameIndex := 1127, descriptorIndex := 18, attributes := #[] }])
  fields := #[{ name := "value", type := (.array .byte), accessFlags := 18, slot := 0, constantValue := 0 }, { name := "coder", type := .byte, accessFlags := 18, slot := 1, constantValue := 0 }, { name := "hash", type := .int, accessFlags := 2, slot := 2, constantValue := 0 }, { name := "hashIsZero", type := .boolean, accessFlags := 2, slot := 3, constantValue := 0 }, { name := "serialVersionUID", type := .long, accessFlags := 26, slot := 0, constantValue := 0 }, { name := "COMPACT_STRINGS", type := .boolean, accessFlags := 24, slot := 1, constantValue := 0 }, { name := "serialPersistentFields", type := (.array (.object "java/io/ObjectStreamField")), accessFlags := 26, slot := 2, constantValue := 0 }, { name := "REPL", type := .char, accessFlags := 26, slot := 3, constantValue := 0 }, { name := "CASE_INSENSITIVE_ORDER", type := (.object "java/util/Comparator"), accessFlags := 25, slot := 4, constantValue := 0 }, { name := "LATIN1", type := .byte, accessFlags := 24, slot := 5, constantValue := 0 }, { name := "UTF16", type := .byte, accessFlags := 24, slot := 6, constantValue := 0 }]
  methods := #[k7m0, k7m1, k7m2, k7m3, k7m4, k7m5, k7m6, k7m7, k7m8, k7m9]
  instanceTypes := #[(.array .byte), .byte, .int, .boolean]
  staticTypes := #[.long, .boolean, (.array (.object "java/io/ObjectStreamField")), .char, (.object "java/util/Comparator"), .byte, .byte]
  resolved := Array.replicate 1451 none
  statics := some 0 }

def pool8 : Array CpInfo := pool [(6, .class_ 8), (1, u "java/lang/Object"), (0, u "<init>"), (0, u "()V"), (1, .class_ 14), (1, u "java/lang/StringUTF16"), (31, u "$assertionsDisabled"), (0, u "Z"), (13, u "HI_BYTE_SHIFT"), (0, u "I"), (2, u "LO_BYTE_SHIFT"), (49, .methodref 12 116), (0, .nameAndType 117 118), (0, u "compress"), (0, u "([CI[BII)I"), (3, u "([CII)[B"), (138, u "coderFromArrayLen"), (0, u "([BI)B"), (106, .class_ 371), (1, u "java/lang/StringUTF16$LinesSpliterator"), (58, u "MAX_LENGTH"), (196, .class_ 628), (0, u "java/lang/StringUTF16$CodePointsSpliterator"), (0, .class_ 630), (0, u "java/lang/StringUTF16$CharsSpliterator")] 4

def k8m0 : Method := { name := "<init>", desc := "()V", sig := { parameters := [], returnType := none }, accessFlags := 0, code := none }
def k8c1 : Code := { maxStack := 2, maxLocals := 2, code := jdk_52_method_15_code, exceptionTable := #[], attributes := #[] }
def k8m1 : Method := { name := "coderFromArrayLen", desc := "([BI)B", sig := { parameters := [(.array .byte), .int], returnType := some .byte }, accessFlags := 8, code := some k8c1 }
def k8c2 : Code := { maxStack := 5, maxLocals := 6, code := jdk_52_method_16_code, exceptionTable := #[], attributes := #[] }
def k8m2 : Method := { name := "compress", desc := "([CII)[B", sig := { parameters := [(.array .char), .int, .int], returnType := some (.array .byte) }, accessFlags := 9, code := some k8c2 }
def k8c3 : Code := { maxStack := 3, maxLocals := 7, code := jdk_52_method_21_code, exceptionTable := #[], attributes := #[] }
def k8m3 : Method := { name := "compress", desc := "([CI[BII)I", sig := { parameters := [(.array .char), .int, (.array .byte), .int, .int], returnType := some .int }, accessFlags := 9, code := some k8c3 }
/-- java/lang/StringUTF16 -/
def k8 : Class := { plain "java/lang/StringUTF16" (some 0) with
  accessFlags := 48
  interfaces := #[]
  cf := some (fileOf pool8 12 #[.nestMembers #[627, 629, 369]] #[{ accessFlags := 0, nameIndex := 9, descriptorIndex := 10, attributes := #[] }, { accessFlags := 8, nameIndex := 261, descriptorIndex := 262, attributes := #[] }, { accessFlags := 9, nameIndex := 117, descriptorIndex := 122, attributes := #[] }, { accessFlags := 9, nameIndex := 117, descriptorIndex := 118, attributes := #[] }] 48 6 #[] #[{ accessFlags := 26, nameIndex := 61, descriptorIndex := 62, attributes := #[] }, { accessFlags := 26, nameIndex := 65, descriptorIndex := 62, attributes := #[] }, { accessFlags := 24, nameIndex := 430, descriptorIndex := 62, attributes := #[] }, { accessFlags := 4120, nameIndex := 46, descriptorIndex := 47, attributes := #[] }])
  fields := #[{ name := "HI_BYTE_SHIFT", type := .int, accessFlags := 26, slot := 0, constantValue := 0 }, { name := "LO_BYTE_SHIFT", type := .int, accessFlags := 26, slot := 1, constantValue := 0 }, { name := "MAX_LENGTH", type := .int, accessFlags := 24, slot := 2, constantValue := 0 }, { name := "$assertionsDisabled", type := .boolean, accessFlags := 4120, slot := 3, constantValue := 0 }]
  methods := #[k8m0, k8m1, k8m2, k8m3]
  instanceTypes := #[]
  staticTypes := #[.int, .int, .int, .boolean]
  resolved := Array.replicate 635 none
  statics := none }

def pool9 : Array CpInfo := pool [(8, .class_ 10), (1, u "java/lang/Iterable"), (24, .class_ 36), (0, u "java/lang/Object")] 25

/-- java/lang/Iterable -/
def k9 : Class := { plain "java/lang/Iterable" (some 0) with
  accessFlags := 1537
  interfaces := #[]
  cf := some (fileOf pool9 8 #[] #[] 1537 35 #[] #[])
  fields := #[]
  methods := #[]
  instanceTypes := #[]
  staticTypes := #[]
  resolved := Array.replicate 62 none
  statics := none }

def pool10 : Array CpInfo := pool [(10, .class_ 12), (1, u "java/util/Collection"), (47, .class_ 61), (0, u "java/lang/Object"), (0, .class_ 63), (0, u "java/lang/Iterable")] 51

/-- java/util/Collection -/
def k10 : Class := { plain "java/util/Collection" (some 0) with
  accessFlags := 1537
  interfaces := #[9]
  cf := some (fileOf pool10 10 #[] #[] 1537 60 #[62] #[])
  fields := #[]
  methods := #[]
  instanceTypes := #[]
  staticTypes := #[]
  resolved := Array.replicate 115 none
  statics := none }

def pool11 : Array CpInfo := pool [(1, .methodref 2 3), (0, .class_ 4), (0, .nameAndType 5 6), (0, u "java/lang/Object"), (0, u "<init>"), (0, u "()V"), (1, .class_ 10), (1, u "java/util/AbstractCollection"), (66, .class_ 78), (0, u "java/util/Collection")] 81

def k11c0 : Code := { maxStack := 1, maxLocals := 1, code := jdk_22_method_1_code, exceptionTable := #[], attributes := #[] }
def k11m0 : Method := { name := "<init>", desc := "()V", sig := { parameters := [], returnType := none }, accessFlags := 4, code := some k11c0 }
/-- java/util/AbstractCollection -/
def k11 : Class := { plain "java/util/AbstractCollection" (some 0) with
  accessFlags := 1057
  interfaces := #[10]
  cf := some (fileOf pool11 8 #[] #[{ accessFlags := 4, nameIndex := 5, descriptorIndex := 6, attributes := #[] }] 1057 2 #[77] #[])
  fields := #[]
  methods := #[k11m0]
  instanceTypes := #[]
  staticTypes := #[]
  resolved := Array.replicate 160 none
  statics := none }

def pool12 : Array CpInfo := pool [(8, .class_ 10), (1, u "java/util/SequencedCollection"), (15, .class_ 27), (0, u "java/lang/Object"), (0, .class_ 29), (0, u "java/util/Collection")] 27

/-- java/util/SequencedCollection -/
def k12 : Class := { plain "java/util/SequencedCollection" (some 0) with
  accessFlags := 1537
  interfaces := #[10]
  cf := some (fileOf pool12 8 #[] #[] 1537 26 #[28] #[])
  fields := #[]
  methods := #[]
  instanceTypes := #[]
  staticTypes := #[]
  resolved := Array.replicate 57 none
  statics := none }

def pool13 : Array CpInfo := pool [(8, .class_ 10), (1, u "java/util/List"), (92, .class_ 104), (0, u "java/lang/Object"), (15, .class_ 121), (0, u "java/util/SequencedCollection")] 129

/-- java/util/List -/
def k13 : Class := { plain "java/util/List" (some 0) with
  accessFlags := 1537
  interfaces := #[12]
  cf := some (fileOf pool13 8 #[] #[] 1537 103 #[120] #[])
  fields := #[]
  methods := #[]
  instanceTypes := #[]
  staticTypes := #[]
  resolved := Array.replicate 251 none
  statics := none }

def pool14 : Array CpInfo := pool [(1, .methodref 2 3), (0, .class_ 4), (0, .nameAndType 5 6), (0, u "java/util/AbstractCollection"), (0, u "<init>"), (0, u "()V"), (0, .fieldref 8 9), (0, .class_ 10), (0, .nameAndType 11 12), (0, u "java/util/AbstractList"), (0, u "modCount"), (0, u "I"), (64, .class_ 78), (0, u "java/util/AbstractList$Itr"), (3, .class_ 83), (0, u "java/util/AbstractList$ListItr"), (9, .class_ 94), (0, u "java/util/AbstractList$RandomAccessSubList"), (3, .class_ 99), (0, u "java/util/AbstractList$SubList"), (33, .class_ 134), (0, u "java/util/List"), (73, .class_ 209), (0, u "java/util/AbstractList$SubList$1"), (0, .class_ 211), (0, u "java/util/AbstractList$RandomAccessSpliterator")] 6

def k14c0 : Code := { maxStack := 2, maxLocals := 1, code := jdk_39_method_1_code, exceptionTable := #[], attributes := #[] }
def k14m0 : Method := { name := "<init>", desc := "()V", sig := { parameters := [], returnType := none }, accessFlags := 4, code := some k14c0 }
/-- java/util/AbstractList -/
def k14 : Class := { plain "java/util/AbstractList" (some 11) with
  accessFlags := 1057
  interfaces := #[13]
  cf := some (fileOf pool14 8 #[.nestMembers #[93, 98, 208, 210, 82, 77]] #[{ accessFlags := 4, nameIndex := 5, descriptorIndex := 6, attributes := #[] }] 1057 2 #[133] #[{ accessFlags := 132, nameIndex := 11, descriptorIndex := 12, attributes := #[] }])
  fields := #[{ name := "modCount", type := .int, accessFlags := 132, slot := 0, constantValue := 0 }]
  methods := #[k14m0]
  instanceTypes := #[.int]
  staticTypes := #[]
  resolved := Array.replicate 218 none
  statics := none }

def pool15 : Array CpInfo := pool [(1, .class_ 2), (0, u "java/util/RandomAccess"), (0, .class_ 4), (0, u "java/lang/Object")] 2

/-- java/util/RandomAccess -/
def k15 : Class := { plain "java/util/RandomAccess" (some 0) with
  accessFlags := 1537
  interfaces := #[]
  cf := some (fileOf pool15 1 #[] #[] 1537 3 #[] #[])
  fields := #[]
  methods := #[]
  instanceTypes := #[]
  staticTypes := #[]
  resolved := Array.replicate 7 none
  statics := none }

def pool16 : Array CpInfo := pool [(1, .methodref 2 3), (0, .class_ 4), (0, .nameAndType 5 6), (0, u "java/util/AbstractList"), (0, u "<init>"), (0, u "()V"), (0, .fieldref 8 9), (0, .class_ 10), (0, .nameAndType 11 12), (0, u "com/example/amendtrail/amendtrail/write/Lines"), (0, u "text"), (0, u "Ljava/lang/String;"), (0, .methodref 14 15), (0, .class_ 16), (0, .nameAndType 17 18), (0, u "java/lang/String"), (0, u "length"), (0, u "()I"), (0, .methodref 20 21), (0, .class_ 22), (0, .nameAndType 23 24), (0, u "java/lang/Math"), (0, u "max"), (0, u "(II)I"), (0, .methodref 26 27), (0, .class_ 28), (0, .nameAndType 29 30), (0, u "java/util/Arrays"), (0, u "copyOf"), (0, u "([II)[I"), (0, .methodref 8 32), (0, .nameAndType 33 34), (0, u "lineStarts"), (0, u "(Ljava/lang/String;[II)I"), (0, .methodref 14 36), (0, .nameAndType 37 38), (0, u "isEmpty"), (0, u "()Z"), (0, .methodref 14 40), (0, .nameAndType 41 42), (0, u "charAt"), (0, u "(I)C"), (0, .fieldref 8 44), (0, .nameAndType 45 46), (0, u "size"), (0, u "I"), (0, .fieldref 8 48), (0, .nameAndType 49 50), (0, u "starts"), (0, u "[I"), (0, .methodref 14 52), (0, .nameAndType 53 24), (0, u "indexOf"), (19, .class_ 74), (0, u "java/util/RandomAccess"), (0, u "RUN"), (2, u "(Ljava/lang/String;)V")] 12

def k16c0 : Code := { maxStack := 3, maxLocals := 5, code := prog_111_method_1_code, exceptionTable := #[], attributes := #[] }
def k16m0 : Method := { name := "<init>", desc := "(Ljava/lang/String;)V", sig := { parameters := [(.object "java/lang/String")], returnType := none }, accessFlags := 0, code := some k16c0 }
def k16c1 : Code := { maxStack := 5, maxLocals := 5, code := prog_111_method_2_code, exceptionTable := #[], attributes := #[] }
def k16m1 : Method := { name := "lineStarts", desc := "(Ljava/lang/String;[II)I", sig := { parameters := [(.object "java/lang/String"), (.array .int), .int], returnType := some .int }, accessFlags := 10, code := some k16c1 }
def k16c2 : Code := { maxStack := 1, maxLocals := 1, code := prog_111_method_4_code, exceptionTable := #[], attributes := #[] }
def k16m2 : Method := { name := "size", desc := "()I", sig := { parameters := [], returnType := some .int }, accessFlags := 1, code := some k16c2 }
def k16c3 : Code := { maxStack := 3, maxLocals := 3, code := prog_111_method_6_code, exceptionTable := #[], attributes := #[] }
def k16m3 : Method := { name := "length", desc := "(II)I", sig := { parameters := [.int, .int], returnType := some .int }, accessFlags := 0, code := some k16c3 }
/-- com/example/amendtrail/amendtrail/write/Lines -/
def k16 : Class := { plain "com/example/amendtrail/amendtrail/write/Lines" (some 14) with
  accessFlags := 48
  interfaces := #[15]
  cf := some (fileOf pool16 8 #[] #[{ accessFlags := 0, nameIndex := 5, descriptorIndex := 78, attributes := #[] }, { accessFlags := 10, nameIndex := 33, descriptorIndex := 34, attributes := #[] }, { accessFlags := 1, nameIndex := 45, descriptorIndex := 18, attributes := #[] }, { accessFlags := 0, nameIndex := 17, descriptorIndex := 24, attributes := #[] }] 48 2 #[73] #[{ accessFlags := 26, nameIndex := 75, descriptorIndex := 46, attributes := #[] }, { accessFlags := 18, nameIndex := 11, descriptorIndex := 12, attributes := #[] }, { accessFlags := 18, nameIndex := 49, descriptorIndex := 50, attributes := #[] }, { accessFlags := 18, nameIndex := 45, descriptorIndex := 46, attributes := #[] }])
  fields := #[{ name := "RUN", type := .int, accessFlags := 26, slot := 0, constantValue := 0 }, { name := "text", type := (.object "java/lang/String"), accessFlags := 18, slot := 1, constantValue := 0 }, { name := "starts", type := (.array .int), accessFlags := 18, slot := 2, constantValue := 0 }, { name := "size", type := .int, accessFlags := 18, slot := 3, constantValue := 0 }]
  methods := #[k16m0, k16m1, k16m2, k16m3]
  instanceTypes := #[.int, (.object "java/lang/String"), (.array .int), .int]
  staticTypes := #[.int]
  resolved := Array.replicate 91 none
  statics := none }

def pool17 : Array CpInfo := pool [(1, .class_ 2), (0, u "java/lang/Math"), (1, .class_ 6), (1, u "java/lang/Object"), (0, u "<init>"), (0, u "()V"), (89, .class_ 100), (1, u "java/lang/Math$RandomNumberGeneratorHolder"), (71, u "negativeZeroFloatBits"), (0, u "J"), (2, u "negativeZeroDoubleBits"), (21, u "max"), (2, u "min"), (43, u "$assertionsDisabled"), (0, u "Z"), (88, u "(II)I"), (2, u "twoToTheDoubleScaleDown"), (0, u "D"), (4, u "twoToTheDoubleScaleUp"), (9, u "E"), (3, u "PI"), (2, u "TAU"), (2, u "DEGREES_TO_RADIANS"), (0, u "RADIANS_TO_DEGREES")] 94

def k17m0 : Method := { name := "<init>", desc := "()V", sig := { parameters := [], returnType := none }, accessFlags := 2, code := none }
def k17c1 : Code := { maxStack := 2, maxLocals := 2, code := jdk_29_method_65_code, exceptionTable := #[], attributes := #[] }
def k17m1 : Method := { name := "max", desc := "(II)I", sig := { parameters := [.int, .int], returnType := some .int }, accessFlags := 9, code := some k17c1 }
def k17c2 : Code := { maxStack := 2, maxLocals := 2, code := jdk_29_method_69_code, exceptionTable := #[], attributes := #[] }
def k17m2 : Method := { name := "min", desc := "(II)I", sig := { parameters := [.int, .int], returnType := some .int }, accessFlags := 9, code := some k17c2 }
/-- java/lang/Math -/
def k17 : Class := { plain "java/lang/Math" (some 0) with
  accessFlags := 49
  interfaces := #[]
  cf := some (fileOf pool17 1 #[.nestMembers #[98]] #[{ accessFlags := 2, nameIndex := 7, descriptorIndex := 8, attributes := #[] }, { accessFlags := 9, nameIndex := 198, descriptorIndex := 335, attributes := #[] }, { accessFlags := 9, nameIndex := 201, descriptorIndex := 335, attributes := #[] }] 49 4 #[] #[{ accessFlags := 25, nameIndex := 354, descriptorIndex := 339, attributes := #[] }, { accessFlags := 25, nameIndex := 358, descriptorIndex := 339, attributes := #[] }, { accessFlags := 25, nameIndex := 361, descriptorIndex := 339, attributes := #[] }, { accessFlags := 26, nameIndex := 364, descriptorIndex := 339, attributes := #[] }, { accessFlags := 26, nameIndex := 365, descriptorIndex := 339, attributes := #[] }, { accessFlags := 26, nameIndex := 172, descriptorIndex := 173, attributes := #[] }, { accessFlags := 26, nameIndex := 176, descriptorIndex := 173, attributes := #[] }, { accessFlags := 8, nameIndex := 344, descriptorIndex := 339, attributes := #[] }, { accessFlags := 8, nameIndex := 338, descriptorIndex := 339, attributes := #[] }, { accessFlags := 4120, nameIndex := 245, descriptorIndex := 246, attributes := #[] }])
  fields := #[{ name := "E", type := .double, accessFlags := 25, slot := 0, constantValue := 0 }, { name := "PI", type := .double, accessFlags := 25, slot := 1, constantValue := 0 }, { name := "TAU", type := .double, accessFlags := 25, slot := 2, constantValue := 0 }, { name := "DEGREES_TO_RADIANS", type := .double, accessFlags := 26, slot := 3, constantValue := 0 }, { name := "RADIANS_TO_DEGREES", type := .double, accessFlags := 26, slot := 4, constantValue := 0 }, { name := "negativeZeroFloatBits", type := .long, accessFlags := 26, slot := 5, constantValue := 0 }, { name := "negativeZeroDoubleBits", type := .long, accessFlags := 26, slot := 6, constantValue := 0 }, { name := "twoToTheDoubleScaleUp", type := .double, accessFlags := 8, slot := 7, constantValue := 0 }, { name := "twoToTheDoubleScaleDown", type := .double, accessFlags := 8, slot := 8, constantValue := 0 }, { name := "$assertionsDisabled", type := .boolean, accessFlags := 4120, slot := 9, constantValue := 0 }]
  methods := #[k17m0, k17m1, k17m2]
  instanceTypes := #[]
  staticTypes := #[.double, .double, .double, .double, .double, .long, .long, .double, .double, .boolean]
  resolved := Array.replicate 460 none
  statics := none }

def pool18 : Array CpInfo := pool [(1, .class_ 2), (0, u "java/lang/String"), (1, .class_ 6), (1, u "java/lang/Object"), (0, u "<init>"), (0, u "()V"), (0, .methodref 1 10), (0, .nameAndType 11 12), (0, u "checkIndex"), (0, u "(II)V"), (1, .class_ 16), (1, u "java/lang/StringLatin1"), (21, .methodref 39 40), (0, .class_ 41), (0, .nameAndType 42 43), (0, u "java/lang/Math"), (0, u "min"), (0, u "(II)I"), (9, u "([BI)C"), (34, .methodref 14 89), (0, .nameAndType 90 91), (0, u "canEncode"), (0, u "(I)Z"), (0, .methodref 39 93), (0, .nameAndType 94 43), (0, u "max"), (0, .methodref 14 96), (0, .nameAndType 97 98), (0, u "indexOfChar"), (0, u "([BIII)I"), (2, u "indexOf"), (19, u "$assertionsDisabled"), (0, u "Z"), (98, .class_ 223), (1, u "java/lang/StringLatin1$LinesSpliterator"), (28, u "charAt"), (137, .class_ 391), (0, u "java/lang/StringLatin1$CharsSpliterator")] 3

def k18m0 : Method := { name := "<init>", desc := "()V", sig := { parameters := [], returnType := none }, accessFlags := 0, code := none }
def k18c1 : Code := { maxStack := 2, maxLocals := 2, code := jdk_43_method_2_code, exceptionTable := #[], attributes := #[] }
def k18m1 : Method := { name := "charAt", desc := "([BI)C", sig := { parameters := [(.array .byte), .int], returnType := some .char }, accessFlags := 9, code := some k18c1 }
def k18c2 : Code := { maxStack := 2, maxLocals := 1, code := jdk_43_method_4_code, exceptionTable := #[], attributes := #[] }
def k18m2 : Method := { name := "canEncode", desc := "(I)Z", sig := { parameters := [.int], returnType := some .boolean }, accessFlags := 9, code := some k18c2 }
def k18c3 : Code := { maxStack := 4, maxLocals := 4, code := jdk_43_method_22_code, exceptionTable := #[], attributes := #[] }
def k18m3 : Method := { name := "indexOf", desc := "([BIII)I", sig := { parameters := [(.array .byte), .int, .int, .int], returnType := some .int }, accessFlags := 9, code := some k18c3 }
def k18c4 : Code := { maxStack := 2, maxLocals := 6, code := jdk_43_method_23_code, exceptionTable := #[], attributes := #[] }
def k18m4 : Method := { name := "indexOfChar", desc := "([BIII)I", sig := { parameters := [(.array .byte), .int, .int, .int], returnType := some .int }, accessFlags := 10, code := some k18c4 }
/-- java/lang/StringLatin1 -/
def k18 : Class := { plain "java/lang/StringLatin1" (some 0) with
  accessFlags := 48
  interfaces := #[]
  cf := some (fileOf pool18 14 #[.nestMembers #[390, 221]] #[{ accessFlags := 0, nameIndex := 7, descriptorIndex := 8, attributes := #[] }, { accessFlags := 9, nameIndex := 252, descriptorIndex := 53, attributes := #[] }, { accessFlags := 9, nameIndex := 90, descriptorIndex := 91, attributes := #[] }, { accessFlags := 9, nameIndex := 101, descriptorIndex := 98, attributes := #[] }, { accessFlags := 10, nameIndex := 97, descriptorIndex := 98, attributes := #[] }] 48 4 #[] #[{ accessFlags := 4120, nameIndex := 121, descriptorIndex := 122, attributes := #[] }])
  fields := #[{ name := "$assertionsDisabled", type := .boolean, accessFlags := 4120, slot := 0, constantValue := 0 }]
  methods := #[k18m0, k18m1, k18m2, k18m3, k18m4]
  instanceTypes := #[]
  staticTypes := #[.boolean]
  resolved := Array.replicate 395 none
  statics := none }

def pool19 : Array CpInfo := pool [(2, .class_ 4), (1, u "java/lang/Object"), (0, u "<init>"), (0, u "()V"), (7, .class_ 16), (1, u "java/util/Arrays"), (57, .class_ 76), (1, u "java/util/Arrays$NaturalOrder"), (36, .class_ 115), (1, u "java/util/Arrays$LegacyMergeSort"), (1, u "Z"), (32, .methodref 151 152), (0, .class_ 153), (0, .nameAndType 154 155), (0, u "java/lang/System"), (0, u "arraycopy"), (0, u "(Ljava/lang/Object;ILjava/lang/Object;II)V"), (146, u "copyOf"), (1, .methodref 305 306), (0, .class_ 307), (0, .nameAndType 308 309), (0, u "java/lang/Math"), (0, u "min"), (0, u "(II)I"), (65, .class_ 376), (0, u "java/util/Arrays$ArrayList"), (68, u "$assertionsDisabled"), (269, u "MIN_ARRAY_SORT_GRAN"), (0, u "I"), (2, u "INSERTIONSORT_THRESHOLD"), (151, u "([II)[I"), (103, .class_ 976), (0, u "java/util/Arrays$ArrayItr")] 52

def k19m0 : Method := { name := "<init>", desc := "()V", sig := { parameters := [], returnType := none }, accessFlags := 2, code := none }
def k19c1 : Code := { maxStack := 6, maxLocals := 3, code := jdk_65_method_123_code, exceptionTable := #[], attributes := #[] }
def k19m1 : Method := { name := "copyOf", desc := "([II)[I", sig := { parameters := [(.array .int), .int], returnType := some (.array .int) }, accessFlags := 9, code := some k19c1 }
/-- java/util/Arrays -/
def k19 : Class := { plain "java/util/Arrays" (some 0) with
  accessFlags := 49
  interfaces := #[]
  cf := some (fileOf pool19 14 #[.nestMembers #[975, 375, 113, 74]] #[{ accessFlags := 2, nameIndex := 5, descriptorIndex := 6, attributes := #[] }, { accessFlags := 9, nameIndex := 302, descriptorIndex := 871, attributes := #[] }] 49 2 #[] #[{ accessFlags := 26, nameIndex := 715, descriptorIndex := 716, attributes := #[] }, { accessFlags := 26, nameIndex := 719, descriptorIndex := 716, attributes := #[] }, { accessFlags := 4120, nameIndex := 445, descriptorIndex := 117, attributes := #[] }])
  fields := #[{ name := "MIN_ARRAY_SORT_GRAN", type := .int, accessFlags := 26, slot := 0, constantValue := 0 }, { name := "INSERTIONSORT_THRESHOLD", type := .int, accessFlags := 26, slot := 1, constantValue := 0 }, { name := "$assertionsDisabled", type := .boolean, accessFlags := 4120, slot := 2, constantValue := 0 }]
  methods := #[k19m0, k19m1]
  instanceTypes := #[]
  staticTypes := #[.int, .int, .boolean]
  resolved := Array.replicate 1029 none
  statics := none }

def pool20 : Array CpInfo := pool [(2, .class_ 4), (1, u "java/lang/Object"), (0, u "<init>"), (0, u "()V"), (1, .class_ 10), (1, u "java/lang/System"), (0, u "allowSecurityManager"), (0, u "I"), (16, u "cons"), (0, u "Ljava/io/Console;"), (77, .class_ 110), (1, u "java/lang/System$CallersHolder"), (43, u "initialErrStream"), (0, u "Ljava/io/PrintStream;"), (19, u "security"), (0, u "Ljava/lang/SecurityManager;"), (31, .class_ 209), (0, u "java/lang/System$1"), (7, u "props"), (0, u "Ljava/util/Properties;"), (2, u "lineSeparator"), (0, u "Ljava/lang/String;"), (96, .class_ 321), (1, u "java/lang/System$LoggerFinder"), (5, .class_ 328), (0, u "java/lang/System$Logger"), (67, u "err"), (2, u "out"), (91, u "notSupportedJnuEncoding"), (15, u "in"), (17, u "initialIn"), (0, u "Ljava/io/InputStream;"), (35, u "bootLayer"), (0, u "Ljava/lang/ModuleLayer;"), (99, .class_ 664), (0, u "java/lang/System$2"), (9, u "NEVER"), (2, u "MAYBE"), (49, u "arraycopy"), (0, u "(Ljava/lang/Object;ILjava/lang/Object;II)V"), (72, .class_ 802), (0, u "java/lang/System$Logger$Level")] 31

def k20m0 : Method := { name := "<init>", desc := "()V", sig := { parameters := [], returnType := none }, accessFlags := 2, code := none }
def k20m1 : Method := { name := "arraycopy", desc := "(Ljava/lang/Object;ILjava/lang/Object;II)V", sig := { parameters := [(.object "java/lang/Object"), .int, (.object "java/lang/Object"), .int, .int], returnType := none }, accessFlags := 265, code := none }
/-- java/lang/System -/
def k20 : Class := { plain "java/lang/System" (some 0) with
  accessFlags := 49
  interfaces := #[]
  cf := some (fileOf pool20 8 #[.nestMembers #[319, 327, 801, 108, 663, 208]] #[{ accessFlags := 2, nameIndex := 5, descriptorIndex := 6, attributes := #[] }, { accessFlags := 265, nameIndex := 727, descriptorIndex := 728, attributes := #[] }] 49 2 #[] #[{ accessFlags := 25, nameIndex := 507, descriptorIndex := 526, attributes := #[] }, { accessFlags := 25, nameIndex := 399, descriptorIndex := 155, attributes := #[] }, { accessFlags := 25, nameIndex := 396, descriptorIndex := 155, attributes := #[] }, { accessFlags := 10, nameIndex := 525, descriptorIndex := 526, attributes := #[] }, { accessFlags := 26, nameIndex := 674, descriptorIndex := 12, attributes := #[] }, { accessFlags := 26, nameIndex := 677, descriptorIndex := 12, attributes := #[] }, { accessFlags := 10, nameIndex := 11, descriptorIndex := 12, attributes := #[] }, { accessFlags := 74, nameIndex := 175, descriptorIndex := 176, attributes := #[] }, { accessFlags := 10, nameIndex := 491, descriptorIndex := 222, attributes := #[] }, { accessFlags := 74, nameIndex := 29, descriptorIndex := 30, attributes := #[] }, { accessFlags := 74, nameIndex := 154, descriptorIndex := 155, attributes := #[] }, { accessFlags := 10, nameIndex := 217, descriptorIndex := 218, attributes := #[] }, { accessFlags := 10, nameIndex := 221, descriptorIndex := 222, attributes := #[] }, { accessFlags := 8, nameIndex := 562, descriptorIndex := 563, attributes := #[] }])
  fields := #[{ name := "in", type := (.object "java/io/InputStream"), accessFlags := 25, slot := 0, constantValue := 0 }, { name := "out", type := (.object "java/io/PrintStream"), accessFlags := 25, slot := 1, constantValue := 0 }, { name := "err", type := (.object "java/io/PrintStream"), accessFlags := 25, slot := 2, constantValue := 0 }, { name := "initialIn", type := (.object "java/io/InputStream"), accessFlags := 10, slot := 3, constantValue := 0 }, { name := "NEVER", type := .int, accessFlags := 26, slot := 4, constantValue := 0 }, { name := "MAYBE", type := .int, accessFlags := 26, slot := 5, constantValue := 0 }, { name := "allowSecurityManager", type := .int, accessFlags := 10, slot := 6, constantValue := 0 }, { name := "security", type := (.object "java/lang/SecurityManager"), accessFlags := 74, slot := 7, constantValue := 0 }, { name := "notSupportedJnuEncoding", type := (.object "java/lang/String"), accessFlags := 10, slot := 8, constantValue := 0 }, { name := "cons", type := (.object "java/io/Console"), accessFlags := 74, slot := 9, constantValue := 0 }, { name := "initialErrStream", type := (.object "java/io/PrintStream"), accessFlags := 74, slot := 10, constantValue := 0 }, { name := "props", type := (.object "java/util/Properties"), accessFlags := 10, slot := 11, constantValue := 0 }, { name := "lineSeparator", type := (.object "java/lang/String"), accessFlags := 10, slot := 12, constantValue := 0 }, { name := "bootLayer", type := (.object "java/lang/ModuleLayer"), accessFlags := 8, slot := 13, constantValue := 0 }]
  methods := #[k20m0, k20m1]
  instanceTypes := #[]
  staticTypes := #[(.object "java/io/InputStream"), (.object "java/io/PrintStream"), (.object "java/io/PrintStream"), (.object "java/io/InputStream"), .int, .int, .int, (.object "java/lang/SecurityManager"), (.object "java/lang/String"), (.object "java/io/Console"), (.object "java/io/PrintStream"), (.object "java/util/Properties"), (.object "java/lang/String"), (.object "java/lang/ModuleLayer")]
  resolved := Array.replicate 834 none
  statics := none }

def pool21 : Array CpInfo := pool [(2, .class_ 4), (1, u "java/lang/Object"), (0, u "<init>"), (0, u "()V"), (17, .class_ 26), (1, u "jdk/internal/util/Preconditions"), (6, u "checkIndex"), (21, .class_ 56), (0, u "jdk/internal/util/Preconditions$4"), (57, .class_ 115), (0, u "jdk/internal/util/Preconditions$1"), (7, u "SIOOBE_FORMATTER"), (0, u "Ljava/util/function/BiFunction;"), (0, .class_ 126), (0, u "jdk/internal/util/Preconditions$2"), (3, u "AIOOBE_FORMATTER"), (0, .class_ 132), (0, u "jdk/internal/util/Preconditions$3"), (3, u "IOOBE_FORMATTER"), (41, u "(IILjava/util/function/BiFunction;)I")] 15

def k21m0 : Method := { name := "<init>", desc := "()V", sig := { parameters := [], returnType := none }, accessFlags := 1, code := none }
def k21c1 : Code := { maxStack := 3, maxLocals := 3, code := jdk_41_method_11_code, exceptionTable := #[], attributes := #[] }
def k21m1 : Method := { name := "checkIndex", desc := "(IILjava/util/function/BiFunction;)I", sig := { parameters := [.int, .int, (.object "java/util/function/BiFunction")], returnType := some .int }, accessFlags := 9, code := some k21c1 }
/-- jdk/internal/util/Preconditions -/
def k21 : Class := { plain "jdk/internal/util/Preconditions" (some 0) with
  accessFlags := 33
  interfaces := #[]
  cf := some (fileOf pool21 24 #[.nestMembers #[55, 131, 125, 114]] #[{ accessFlags := 1, nameIndex := 5, descriptorIndex := 6, attributes := #[] }, { accessFlags := 9, nameIndex := 33, descriptorIndex := 178, attributes := #[] }] 33 2 #[] #[{ accessFlags := 25, nameIndex := 123, descriptorIndex := 124, attributes := #[] }, { accessFlags := 25, nameIndex := 130, descriptorIndex := 124, attributes := #[] }, { accessFlags := 25, nameIndex := 136, descriptorIndex := 124, attributes := #[] }])
  fields := #[{ name := "SIOOBE_FORMATTER", type := (.object "java/util/function/BiFunction"), accessFlags := 25, slot := 0, constantValue := 0 }, { name := "AIOOBE_FORMATTER", type := (.object "java/util/function/BiFunction"), accessFlags := 25, slot := 1, constantValue := 0 }, { name := "IOOBE_FORMATTER", type := (.object "java/util/function/BiFunction"), accessFlags := 25, slot := 2, constantValue := 0 }]
  methods := #[k21m0, k21m1]
  instanceTypes := #[]
  staticTypes := #[(.object "java/util/function/BiFunction"), (.object "java/util/function/BiFunction"), (.object "java/util/function/BiFunction")]
  resolved := Array.replicate 194 none
  statics := some 1 }

def pool22 : Array CpInfo := pool [(9, u "<init>"), (6, .class_ 18), (1, u "java/lang/Object"), (0, u "()V"), (1, .class_ 23), (1, u "jdk/internal/util/ArraysSupport"), (0, u "LOG2_ARRAY_LONG_INDEX_SCALE"), (0, u "I"), (2, u "U"), (0, u "Ljdk/internal/misc/Unsafe;"), (8, u "BIG_ENDIAN"), (0, u "Z"), (8, u "LOG2_BYTE_BIT_SIZE"), (4, u "LOG2_ARRAY_INT_INDEX_SCALE"), (54, u "JLA"), (0, u "Ljdk/internal/access/JavaLangAccess;"), (11, u "LOG2_ARRAY_BOOLEAN_INDEX_SCALE"), (9, u "LOG2_ARRAY_BYTE_INDEX_SCALE"), (5, u "LOG2_ARRAY_CHAR_INDEX_SCALE"), (5, u "LOG2_ARRAY_SHORT_INDEX_SCALE"), (18, u "LOG2_ARRAY_FLOAT_INDEX_SCALE"), (24, u "LOG2_ARRAY_DOUBLE_INDEX_SCALE"), (89, u "T_BOOLEAN"), (2, u "T_CHAR"), (1, u "T_FLOAT"), (1, u "T_DOUBLE"), (1, u "T_BYTE"), (1, u "T_SHORT"), (1, u "T_INT"), (1, u "T_LONG"), (1, u "SOFT_MAX_ARRAY_LENGTH")] 83

def k22m0 : Method := { name := "<init>", desc := "()V", sig := { parameters := [], returnType := none }, accessFlags := 2, code := none }
/-- jdk/internal/util/ArraysSupport -/
def k22 : Class := { plain "jdk/internal/util/ArraysSupport" (some 0) with
  accessFlags := 33
  interfaces := #[]
  cf := some (fileOf pool22 21 #[] #[{ accessFlags := 2, nameIndex := 9, descriptorIndex := 19, attributes := #[] }] 33 16 #[] #[{ accessFlags := 24, nameIndex := 28, descriptorIndex := 29, attributes := #[] }, { accessFlags := 26, nameIndex := 38, descriptorIndex := 39, attributes := #[] }, { accessFlags := 25, nameIndex := 121, descriptorIndex := 25, attributes := #[] }, { accessFlags := 25, nameIndex := 131, descriptorIndex := 25, attributes := #[] }, { accessFlags := 25, nameIndex := 137, descriptorIndex := 25, attributes := #[] }, { accessFlags := 25, nameIndex := 143, descriptorIndex := 25, attributes := #[] }, { accessFlags := 25, nameIndex := 53, descriptorIndex := 25, attributes := #[] }, { accessFlags := 25, nameIndex := 24, descriptorIndex := 25, attributes := #[] }, { accessFlags := 25, nameIndex := 162, descriptorIndex := 25, attributes := #[] }, { accessFlags := 25, nameIndex := 187, descriptorIndex := 25, attributes := #[] }, { accessFlags := 26, nameIndex := 48, descriptorIndex := 25, attributes := #[] }, { accessFlags := 25, nameIndex := 277, descriptorIndex := 25, attributes := #[] }, { accessFlags := 25, nameIndex := 280, descriptorIndex := 25, attributes := #[] }, { accessFlags := 25, nameIndex := 282, descriptorIndex := 25, attributes := #[] }, { accessFlags := 25, nameIndex := 284, descriptorIndex := 25, attributes := #[] }, { accessFlags := 25, nameIndex := 286, descriptorIndex := 25, attributes := #[] }, { accessFlags := 25, nameIndex := 288, descriptorIndex := 25, attributes := #[] }, { accessFlags := 25, nameIndex := 290, descriptorIndex := 25, attributes := #[] }, { accessFlags := 25, nameIndex := 292, descriptorIndex := 25, attributes := #[] }, { accessFlags := 26, nameIndex := 108, descriptorIndex := 109, attributes := #[] }, { accessFlags := 25, nameIndex := 294, descriptorIndex := 25, attributes := #[] }])
  fields := #[{ name := "U", type := (.object "jdk/internal/misc/Unsafe"), accessFlags := 24, slot := 0, constantValue := 0 }, { name := "BIG_ENDIAN", type := .boolean, accessFlags := 26, slot := 1, constantValue := 0 }, { name := "LOG2_ARRAY_BOOLEAN_INDEX_SCALE", type := .int, accessFlags := 25, slot := 2, constantValue := 0 }, { name := "LOG2_ARRAY_BYTE_INDEX_SCALE", type := .int, accessFlags := 25, slot := 3, constantValue := 0 }, { name := "LOG2_ARRAY_CHAR_INDEX_SCALE", type := .int, accessFlags := 25, slot := 4, constantValue := 0 }, { name := "LOG2_ARRAY_SHORT_INDEX_SCALE", type := .int, accessFlags := 25, slot := 5, constantValue := 0 }, { name := "LOG2_ARRAY_INT_INDEX_SCALE", type := .int, accessFlags := 25, slot := 6, constantValue := 0 }, { name := "LOG2_ARRAY_LONG_INDEX_SCALE", type := .int, accessFlags := 25, slot := 7, constantValue := 0 }, { name := "LOG2_ARRAY_FLOAT_INDEX_SCALE", type := .int, accessFlags := 25, slot := 8, constantValue := 0 }, { name := "LOG2_ARRAY_DOUBLE_INDEX_SCALE", type := .int, accessFlags := 25, slot := 9, constantValue := 0 }, { name := "LOG2_BYTE_BIT_SIZE", type := .int, accessFlags := 26, slot := 10, constantValue := 0 }, { name := "T_BOOLEAN", type := .int, accessFlags := 25, slot := 11, constantValue := 0 }, { name := "T_CHAR", type := .int, accessFlags := 25, slot := 12, constantValue := 0 }, { name := "T_FLOAT", type := .int, accessFlags := 25, slot := 13, constantValue := 0 }, { name := "T_DOUBLE", type := .int, accessFlags := 25, slot := 14, constantValue := 0 }, { name := "T_BYTE", type := .int, accessFlags := 25, slot := 15, constantValue := 0 }, { name := "T_SHORT", type := .int, accessFlags := 25, slot := 16, constantValue := 0 }, { name := "T_INT", type := .int, accessFlags := 25, slot := 17, constantValue := 0 }, { name := "T_LONG", type := .int, accessFlags := 25, slot := 18, constantValue := 0 }, { name := "JLA", type := (.object "jdk/internal/access/JavaLangAccess"), accessFlags := 26, slot := 19, constantValue := 0 }, { name := "SOFT_MAX_ARRAY_LENGTH", type := .int, accessFlags := 25, slot := 20, constantValue := 0 }]
  methods := #[k22m0]
  instanceTypes := #[]
  staticTypes := #[(.object "jdk/internal/misc/Unsafe"), .boolean, .int, .int, .int, .int, .int, .int, .int, .int, .int, .int, .int, .int, .int, .int, .int, .int, .int, (.object "jdk/internal/access/JavaLangAccess"), .int]
  resolved := Array.replicate 378 none
  statics := none }

def pool23 : Array CpInfo := pool [(1, u "java/lang/Cloneable"), (0, .class_ 1), (0, u "java/lang/Object"), (0, .class_ 3)] 3

/-- java/lang/Cloneable -/
def k23 : Class := { plain "java/lang/Cloneable" (some 0) with
  accessFlags := 1537
  interfaces := #[]
  cf := some (fileOf pool23 2 #[] #[] 1537 4 #[] #[])
  fields := #[]
  methods := #[]
  instanceTypes := #[]
  staticTypes := #[]
  resolved := Array.replicate 8 none
  statics := none }

/-- the primitive byte -/
def k24 : Class := { plain "byte" none with kind := .primitive 'B', accessFlags := 0x411 }
/-- [B -/
def k25 : Class := { plain "[B" (some 0) with kind := .array 24 .byte, interfaces := #[23, 2], accessFlags := 1041 }

/-- the primitive char -/
def k26 : Class := { plain "char" none with kind := .primitive 'C', accessFlags := 0x411 }
/-- [C -/
def k27 : Class := { plain "[C" (some 0) with kind := .array 26 .char, interfaces := #[23, 2], accessFlags := 1041 }

/-- the primitive int -/
def k28 : Class := { plain "int" none with kind := .primitive 'I', accessFlags := 0x411 }
/-- [I -/
def k29 : Class := { plain "[I" (some 0) with kind := .array 28 .int, interfaces := #[23, 2], accessFlags := 1041 }

def heap : Heap := #[{ cls := 7, slots := #[.long 0, .int 1, .null, .int 0, .null, .int 0, .int 0], vm := .statics 7 },
  { cls := 21, slots := #[.null, .null, .null], vm := .statics 21 }]
def classes : Array Class := #[k0, k1, k2, k3, k4, k5, k6, k7, k8, k9, k10, k11, k12, k13, k14, k15, k16, k17, k18, k19, k20, k21, k22, k23, k24, k25, k26, k27, k28, k29]
def interned : List (Array UInt16 × Addr) := []
def slotsUsed : Nat := 10
def theMethod : MethodId := ⟨1, 1⟩
def args0 : Array Value := #[.long 5, .int 3, .int 4, .int 9]
def aboutOver (below : List Frame) : State where
  vm := { classes := classes, interned := interned.toArray }
  heap := heap
  slotsUsed := slotsUsed
  threads := #[{ frames := .invoking theMethod args0 :: below }]
def below0 : List Frame := [.native { method := ⟨0, 0⟩, args := #[] }]
def about1 : State := aboutOver below0
def p0 : Program := .bare "" "" ""
def e0 : Env := launch0.env 0 0 0
theorem w_frames : about1.frames = Frame.invoking theMethod args0 :: below0 := rfl
set_option maxRecDepth 65536 in
theorem w_args : argsFit about1.vm theMethod args0 = true := by decide +kernel
set_option maxRecDepth 65536 in
theorem w_heap : heapFits about1 = true := by decide +kernel
set_option maxRecDepth 65536 in
theorem w_runnable : about1.curStatus? = some .runnable := by decide +kernel
set_option maxRecDepth 65536 in
theorem w_alone : about1.alone = true := by decide +kernel
set_option maxRecDepth 65536 in
theorem w_named : about1.methodNamed? x = some theMethod := by decide +kernel
set_option maxRecDepth 65536 in
theorem w_hears : about1.hears theMethod below0 = true := by decide +kernel
set_option maxRecDepth 65536 in
theorem w_ripe : about1.ripe theMethod args0 below0 = true := by decide +kernel
theorem w_running : about1.status = .running := rfl
set_option maxRecDepth 65536 in
theorem w_room : about1.hasRoom e0.platform room_1 = true :=
  launch0.hasRoom_least _ room_1 (by decide +kernel) (by decide +kernel) (by decide +kernel) (by decide +kernel) (by decide +kernel) (by decide +kernel)
theorem allAtoms_all (ts : List Jvm.Cond) (a : Array Jvm.Value) (st : Jvm.State) : (allAtoms ts).before a st = ts.all (fun c => c.before a st) := by
  induction ts with
  | nil => rfl
  | cons c t ih =>
    show (Jvm.Cond.and c (allAtoms t)).before a st = _
    rw [Jvm.Cond.before_and, ih, List.all_cons]
def words1 : List Jvm.Cond := Jvm.Cond.code x code maxLocals ret :: tables_1
/-- a 'code' word, met by the world's own term for the bytes: nothing is compared byte by byte -/
theorem code_word {y : MethodName} {bytes : ByteArray} {mx : Nat} {rt : Option FieldType} {a : Array Value} {s : State} {m : MethodId} {meth : Method} {c : Code} (h1 : s.methodNamed? y = some m) (h2 : s.vm.method? m = some meth) (h3 : meth.code = some c) (h4 : c.code = bytes)
    (h5 : (c.maxLocals == mx && c.exceptionTable.isEmpty && decide (c.maxStack ≤ mostOperands) && decide (meth.sig.returnType = rt) && !meth.locks && decide (parseMethodDescriptor y.desc = some meth.sig)) = true) : (Jvm.Cond.code y bytes mx rt).before a s = true := by
  simp only [Bool.and_eq_true, beq_iff_eq, Bool.not_eq_true', decide_eq_true_eq] at h5
  obtain ⟨⟨⟨⟨⟨g1, g2⟩, g3⟩, g4⟩, g5⟩, g6⟩ := h5
  simp [Cond.before, Cond.holds, Cond.value, h1, h2, h3, h4, g1, g2, g3, g4, g5, g6]
def isCode : Jvm.Cond → Bool
  | .code _ _ _ _ => true
  | _ => false
theorem all_split {L : List Jvm.Cond} {P : Jvm.Cond → Bool} (h1 : L.all (fun c => isCode c || P c) = true) (h2 : ∀ c ∈ L.filter isCode, P c = true) : L.all P = true := by
  refine List.all_eq_true.mpr fun c hc => ?_
  have h := List.all_eq_true.mp h1 c hc
  rcases Bool.eq_false_or_eq_true (isCode c) with hi | hi
  · exact h2 c (List.mem_filter.mpr ⟨hc, hi⟩)
  · simpa [hi] using h
set_option maxRecDepth 65536 in
theorem w_c0 : (Jvm.Cond.code x code maxLocals ret).before args0 about1 = true := code_word (m := ⟨1, 1⟩) (meth := k1m1) (c := k1c1) (by decide +kernel) rfl rfl rfl (by decide +kernel)
set_option maxRecDepth 65536 in
theorem w_c1 : (Jvm.Cond.code ({ cls := "com/example/amendtrail/amendtrail/write/LinesLengthPinLaw", name := "pick", desc := "(J)C" } : Jvm.MethodName) method_3_code (2 : Nat) (Option.some Jvm.ClassFile.FieldType.char)).before args0 about1 = true := code_word (m := ⟨1, 2⟩) (meth := k1m2) (c := k1c2) (by decide +kernel) rfl rfl rfl (by decide +kernel)
set_option maxRecDepth 65536 in
theorem w_c2 : (Jvm.Cond.code ({ cls := "java/lang/String", name := "<init>", desc := "([C)V" } : Jvm.MethodName) jdk_42_method_3_code (2 : Nat) (Option.none : Option Jvm.ClassFile.FieldType)).before args0 about1 = true := code_word (m := ⟨7, 1⟩) (meth := k7m1) (c := k7c1) (by decide +kernel) rfl rfl rfl (by decide +kernel)
set_option maxRecDepth 65536 in
theorem w_c3 : (Jvm.Cond.code ({ cls := "java/lang/String", name := "<init>", desc := "([CIILjava/lang/Void;)V" } : Jvm.MethodName) jdk_42_method_149_code (6 : Nat) (Option.none : Option Jvm.ClassFile.FieldType)).before args0 about1 = true := code_word (m := ⟨7, 6⟩) (meth := k7m6) (c := k7c6) (by decide +kernel) rfl rfl rfl (by decide +kernel)
set_option maxRecDepth 65536 in
theorem w_c4 : (Jvm.Cond.code ({ cls := "java/lang/Object", name := "<init>", desc := "()V" } : Jvm.MethodName) object_method_1_code (1 : Nat) (Option.none : Option Jvm.ClassFile.FieldType)).before args0 about1 = true := code_word (m := ⟨0, 0⟩) (meth := k0m0) (c := k0c0) (by decide +kernel) rfl rfl rfl (by decide +kernel)
set_option maxRecDepth 65536 in
theorem w_c5 : (Jvm.Cond.code ({ cls := "java/lang/StringUTF16", name := "compress", desc := "([CII)[B" } : Jvm.MethodName) jdk_52_method_16_code (6 : Nat) (Option.some (Jvm.ClassFile.FieldType.array Jvm.ClassFile.FieldType.byte))).before args0 about1 = true := code_word (m := ⟨8, 2⟩) (meth := k8m2) (c := k8c2) (by decide +kernel) rfl rfl rfl (by decide +kernel)
set_option maxRecDepth 65536 in
theorem w_c6 : (Jvm.Cond.code ({ cls := "java/lang/StringUTF16", name := "compress", desc := "([CI[BII)I" } : Jvm.MethodName) jdk_52_method_21_code (7 : Nat) (Option.some Jvm.ClassFile.FieldType.int)).before args0 about1 = true := code_word (m := ⟨8, 3⟩) (meth := k8m3) (c := k8c3) (by decide +kernel) rfl rfl rfl (by decide +kernel)
set_option maxRecDepth 65536 in
theorem w_c7 : (Jvm.Cond.code ({ cls := "java/lang/StringUTF16", name := "coderFromArrayLen", desc := "([BI)B" } : Jvm.MethodName) jdk_52_method_15_code (2 : Nat) (Option.some Jvm.ClassFile.FieldType.byte)).before args0 about1 = true := code_word (m := ⟨8, 1⟩) (meth := k8m1) (c := k8c1) (by decide +kernel) rfl rfl rfl (by decide +kernel)
set_option maxRecDepth 65536 in
theorem w_c8 : (Jvm.Cond.code ({ cls := "com/example/amendtrail/amendtrail/write/LinesLengthPinLaw", name := "nl", desc := "([CII)I" } : Jvm.MethodName) method_4_code (3 : Nat) (Option.some Jvm.ClassFile.FieldType.int)).before args0 about1 = true := code_word (m := ⟨1, 3⟩) (meth := k1m3) (c := k1c3) (by decide +kernel) rfl rfl rfl (by decide +kernel)
set_option maxRecDepth 65536 in
theorem w_c9 : (Jvm.Cond.code ({ cls := "com/example/amendtrail/amendtrail/write/Lines", name := "<init>", desc := "(Ljava/lang/String;)V" } : Jvm.MethodName) prog_111_method_1_code (5 : Nat) (Option.none : Option Jvm.ClassFile.FieldType)).before args0 about1 = true := code_word (m := ⟨16, 0⟩) (meth := k16m0) (c := k16c0) (by decide +kernel) rfl rfl rfl (by decide +kernel)
set_option maxRecDepth 65536 in
theorem w_c10 : (Jvm.Cond.code ({ cls := "java/util/AbstractList", name := "<init>", desc := "()V" } : Jvm.MethodName) jdk_39_method_1_code (1 : Nat) (Option.none : Option Jvm.ClassFile.FieldType)).before args0 about1 = true := code_word (m := ⟨14, 0⟩) (meth := k14m0) (c := k14c0) (by decide +kernel) rfl rfl rfl (by decide +kernel)
set_option maxRecDepth 65536 in
theorem w_c11 : (Jvm.Cond.code ({ cls := "java/util/AbstractCollection", name := "<init>", desc := "()V" } : Jvm.MethodName) jdk_22_method_1_code (1 : Nat) (Option.none : Option Jvm.ClassFile.FieldType)).before args0 about1 = true := code_word (m := ⟨11, 0⟩) (meth := k11m0) (c := k11c0) (by decide +kernel) rfl rfl rfl (by decide +kernel)
set_option maxRecDepth 65536 in
theorem w_c12 : (Jvm.Cond.code ({ cls := "java/lang/String", name := "length", desc := "()I" } : Jvm.MethodName) jdk_42_method_54_code (1 : Nat) (Option.some Jvm.ClassFile.FieldType.int)).before args0 about1 = true := code_word (m := ⟨7, 2⟩) (meth := k7m2) (c := k7c2) (by decide +kernel) rfl rfl rfl (by decide +kernel)
set_option maxRecDepth 65536 in
theorem w_c13 : (Jvm.Cond.code ({ cls := "java/lang/String", name := "coder", desc := "()B" } : Jvm.MethodName) jdk_42_method_152_code (1 : Nat) (Option.some Jvm.ClassFile.FieldType.byte)).before args0 about1 = true := code_word (m := ⟨7, 7⟩) (meth := k7m7) (c := k7c7) (by decide +kernel) rfl rfl rfl (by decide +kernel)
set_option maxRecDepth 65536 in
theorem w_c14 : (Jvm.Cond.code ({ cls := "java/lang/Math", name := "max", desc := "(II)I" } : Jvm.MethodName) jdk_29_method_65_code (2 : Nat) (Option.some Jvm.ClassFile.FieldType.int)).before args0 about1 = true := code_word (m := ⟨17, 1⟩) (meth := k17m1) (c := k17c1) (by decide +kernel) rfl rfl rfl (by decide +kernel)
set_option maxRecDepth 65536 in
theorem w_c15 : (Jvm.Cond.code ({ cls := "com/example/amendtrail/amendtrail/write/Lines", name := "lineStarts", desc := "(Ljava/lang/String;[II)I" } : Jvm.MethodName) prog_111_method_2_code (5 : Nat) (Option.some Jvm.ClassFile.FieldType.int)).before args0 about1 = true := code_word (m := ⟨16, 1⟩) (meth := k16m1) (c := k16c1) (by decide +kernel) rfl rfl rfl (by decide +kernel)
set_option maxRecDepth 65536 in
theorem w_c16 : (Jvm.Cond.code ({ cls := "java/lang/String", name := "indexOf", desc := "(II)I" } : Jvm.MethodName) jdk_42_method_80_code (3 : Nat) (Option.some Jvm.ClassFile.FieldType.int)).before args0 about1 = true := code_word (m := ⟨7, 5⟩) (meth := k7m5) (c := k7c5) (by decide +kernel) rfl rfl rfl (by decide +kernel)
set_option maxRecDepth 65536 in
theorem w_c17 : (Jvm.Cond.code ({ cls := "java/lang/String", name := "isLatin1", desc := "()Z" } : Jvm.MethodName) jdk_42_method_154_code (1 : Nat) (Option.some Jvm.ClassFile.FieldType.boolean)).before args0 about1 = true := code_word (m := ⟨7, 8⟩) (meth := k7m8) (c := k7c8) (by decide +kernel) rfl rfl rfl (by decide +kernel)
set_option maxRecDepth 65536 in
theorem w_c18 : (Jvm.Cond.code ({ cls := "java/lang/StringLatin1", name := "indexOf", desc := "([BIII)I" } : Jvm.MethodName) jdk_43_method_22_code (4 : Nat) (Option.some Jvm.ClassFile.FieldType.int)).before args0 about1 = true := code_word (m := ⟨18, 3⟩) (meth := k18m3) (c := k18c3) (by decide +kernel) rfl rfl rfl (by decide +kernel)
set_option maxRecDepth 65536 in
theorem w_c19 : (Jvm.Cond.code ({ cls := "java/lang/StringLatin1", name := "canEncode", desc := "(I)Z" } : Jvm.MethodName) jdk_43_method_4_code (1 : Nat) (Option.some Jvm.ClassFile.FieldType.boolean)).before args0 about1 = true := code_word (m := ⟨18, 2⟩) (meth := k18m2) (c := k18c2) (by decide +kernel) rfl rfl rfl (by decide +kernel)
set_option maxRecDepth 65536 in
theorem w_c20 : (Jvm.Cond.code ({ cls := "java/lang/Math", name := "min", desc := "(II)I" } : Jvm.MethodName) jdk_29_method_69_code (2 : Nat) (Option.some Jvm.ClassFile.FieldType.int)).before args0 about1 = true := code_word (m := ⟨17, 2⟩) (meth := k17m2) (c := k17c2) (by decide +kernel) rfl rfl rfl (by decide +kernel)
set_option maxRecDepth 65536 in
theorem w_c21 : (Jvm.Cond.code ({ cls := "java/lang/StringLatin1", name := "indexOfChar", desc := "([BIII)I" } : Jvm.MethodName) jdk_43_method_23_code (6 : Nat) (Option.some Jvm.ClassFile.FieldType.int)).before args0 about1 = true := code_word (m := ⟨18, 4⟩) (meth := k18m4) (c := k18c4) (by decide +kernel) rfl rfl rfl (by decide +kernel)
set_option maxRecDepth 65536 in
theorem w_c22 : (Jvm.Cond.code ({ cls := "java/util/Arrays", name := "copyOf", desc := "([II)[I" } : Jvm.MethodName) jdk_65_method_123_code (3 : Nat) (Option.some (Jvm.ClassFile.FieldType.array Jvm.ClassFile.FieldType.int))).before args0 about1 = true := code_word (m := ⟨19, 1⟩) (meth := k19m1) (c := k19c1) (by decide +kernel) rfl rfl rfl (by decide +kernel)
set_option maxRecDepth 65536 in
theorem w_c23 : (Jvm.Cond.code ({ cls := "java/lang/String", name := "isEmpty", desc := "()Z" } : Jvm.MethodName) jdk_42_method_55_code (1 : Nat) (Option.some Jvm.ClassFile.FieldType.boolean)).before args0 about1 = true := code_word (m := ⟨7, 3⟩) (meth := k7m3) (c := k7c3) (by decide +kernel) rfl rfl rfl (by decide +kernel)
set_option maxRecDepth 65536 in
theorem w_c24 : (Jvm.Cond.code ({ cls := "java/lang/String", name := "charAt", desc := "(I)C" } : Jvm.MethodName) jdk_42_method_56_code (2 : Nat) (Option.some Jvm.ClassFile.FieldType.char)).before args0 about1 = true := code_word (m := ⟨7, 4⟩) (meth := k7m4) (c := k7c4) (by decide +kernel) rfl rfl rfl (by decide +kernel)
set_option maxRecDepth 65536 in
theorem w_c25 : (Jvm.Cond.code ({ cls := "java/lang/StringLatin1", name := "charAt", desc := "([BI)C" } : Jvm.MethodName) jdk_43_method_2_code (2 : Nat) (Option.some Jvm.ClassFile.FieldType.char)).before args0 about1 = true := code_word (m := ⟨18, 1⟩) (meth := k18m1) (c := k18c1) (by decide +kernel) rfl rfl rfl (by decide +kernel)
set_option maxRecDepth 65536 in
theorem w_c26 : (Jvm.Cond.code ({ cls := "java/lang/String", name := "checkIndex", desc := "(II)V" } : Jvm.MethodName) jdk_42_method_155_code (2 : Nat) (Option.none : Option Jvm.ClassFile.FieldType)).before args0 about1 = true := code_word (m := ⟨7, 9⟩) (meth := k7m9) (c := k7c9) (by decide +kernel) rfl rfl rfl (by decide +kernel)
set_option maxRecDepth 65536 in
theorem w_c27 : (Jvm.Cond.code ({ cls := "jdk/internal/util/Preconditions", name := "checkIndex", desc := "(IILjava/util/function/BiFunction;)I" } : Jvm.MethodName) jdk_41_method_11_code (3 : Nat) (Option.some Jvm.ClassFile.FieldType.int)).before args0 about1 = true := code_word (m := ⟨21, 1⟩) (meth := k21m1) (c := k21c1) (by decide +kernel) rfl rfl rfl (by decide +kernel)
set_option maxRecDepth 65536 in
theorem w_c28 : (Jvm.Cond.code ({ cls := "com/example/amendtrail/amendtrail/write/Lines", name := "size", desc := "()I" } : Jvm.MethodName) prog_111_method_4_code (1 : Nat) (Option.some Jvm.ClassFile.FieldType.int)).before args0 about1 = true := code_word (m := ⟨16, 2⟩) (meth := k16m2) (c := k16c2) (by decide +kernel) rfl rfl rfl (by decide +kernel)
set_option maxRecDepth 65536 in
theorem w_c29 : (Jvm.Cond.code ({ cls := "com/example/amendtrail/amendtrail/write/Lines", name := "length", desc := "(II)I" } : Jvm.MethodName) prog_111_method_6_code (3 : Nat) (Option.some Jvm.ClassFile.FieldType.int)).before args0 about1 = true := code_word (m := ⟨16, 3⟩) (meth := k16m3) (c := k16c3) (by decide +kernel) rfl rfl rfl (by decide +kernel)
set_option maxRecDepth 65536 in
theorem w_c30 : (Jvm.Cond.code ({ cls := "com/example/amendtrail/amendtrail/write/LinesLengthPinLaw", name := "start", desc := "([CII)I" } : Jvm.MethodName) method_5_code (4 : Nat) (Option.some Jvm.ClassFile.FieldType.int)).before args0 about1 = true := code_word (m := ⟨1, 4⟩) (meth := k1m4) (c := k1c4) (by decide +kernel) rfl rfl rfl (by decide +kernel)
def codes1 : List Jvm.Cond := [Jvm.Cond.code x code maxLocals ret, Jvm.Cond.code ({ cls := "com/example/amendtrail/amendtrail/write/LinesLengthPinLaw", name := "pick", desc := "(J)C" } : Jvm.MethodName) method_3_code (2 : Nat) (Option.some Jvm.ClassFile.FieldType.char), Jvm.Cond.code ({ cls := "java/lang/String", name := "<init>", desc := "([C)V" } : Jvm.MethodName) jdk_42_method_3_code (2 : Nat) (Option.none : Option Jvm.ClassFile.FieldType), Jvm.Cond.code ({ cls := "java/lang/String", name := "<init>", desc := "([CIILjava/lang/Void;)V" } : Jvm.MethodName) jdk_42_method_149_code (6 : Nat) (Option.none : Option Jvm.ClassFile.FieldType), Jvm.Cond.code ({ cls := "java/lang/Object", name := "<init>", desc := "()V" } : Jvm.MethodName) object_method_1_code (1 : Nat) (Option.none : Option Jvm.ClassFile.FieldType), Jvm.Cond.code ({ cls := "java/lang/StringUTF16", name := "compress", desc := "([CII)[B" } : Jvm.MethodName) jdk_52_method_16_code (6 : Nat) (Option.some (Jvm.ClassFile.FieldType.array Jvm.ClassFile.FieldType.byte)), Jvm.Cond.code ({ cls := "java/lang/StringUTF16", name := "compress", desc := "([CI[BII)I" } : Jvm.MethodName) jdk_52_method_21_code (7 : Nat) (Option.some Jvm.ClassFile.FieldType.int), Jvm.Cond.code ({ cls := "java/lang/StringUTF16", name := "coderFromArrayLen", desc := "([BI)B" } : Jvm.MethodName) jdk_52_method_15_code (2 : Nat) (Option.some Jvm.ClassFile.FieldType.byte), Jvm.Cond.code ({ cls := "com/example/amendtrail/amendtrail/write/LinesLengthPinLaw", name := "nl", desc := "([CII)I" } : Jvm.MethodName) method_4_code (3 : Nat) (Option.some Jvm.ClassFile.FieldType.int), Jvm.Cond.code ({ cls := "com/example/amendtrail/amendtrail/write/Lines", name := "<init>", desc := "(Ljava/lang/String;)V" } : Jvm.MethodName) prog_111_method_1_code (5 : Nat) (Option.none : Option Jvm.ClassFile.FieldType), Jvm.Cond.code ({ cls := "java/util/AbstractList", name := "<init>", desc := "()V" } : Jvm.MethodName) jdk_39_method_1_code (1 : Nat) (Option.none : Option Jvm.ClassFile.FieldType), Jvm.Cond.code ({ cls := "java/util/AbstractCollection", name := "<init>", desc := "()V" } : Jvm.MethodName) jdk_22_method_1_code (1 : Nat) (Option.none : Option Jvm.ClassFile.FieldType), Jvm.Cond.code ({ cls := "java/lang/String", name := "length", desc := "()I" } : Jvm.MethodName) jdk_42_method_54_code (1 : Nat) (Option.some Jvm.ClassFile.FieldType.int), Jvm.Cond.code ({ cls := "java/lang/String", name := "coder", desc := "()B" } : Jvm.MethodName) jdk_42_method_152_code (1 : Nat) (Option.some Jvm.ClassFile.FieldType.byte), Jvm.Cond.code ({ cls := "java/lang/Math", name := "max", desc := "(II)I" } : Jvm.MethodName) jdk_29_method_65_code (2 : Nat) (Option.some Jvm.ClassFile.FieldType.int), Jvm.Cond.code ({ cls := "com/example/amendtrail/amendtrail/write/Lines", name := "lineStarts", desc := "(Ljava/lang/String;[II)I" } : Jvm.MethodName) prog_111_method_2_code (5 : Nat) (Option.some Jvm.ClassFile.FieldType.int), Jvm.Cond.code ({ cls := "java/lang/String", name := "indexOf", desc := "(II)I" } : Jvm.MethodName) jdk_42_method_80_code (3 : Nat) (Option.some Jvm.ClassFile.FieldType.int), Jvm.Cond.code ({ cls := "java/lang/String", name := "isLatin1", desc := "()Z" } : Jvm.MethodName) jdk_42_method_154_code (1 : Nat) (Option.some Jvm.ClassFile.FieldType.boolean), Jvm.Cond.code ({ cls := "java/lang/StringLatin1", name := "indexOf", desc := "([BIII)I" } : Jvm.MethodName) jdk_43_method_22_code (4 : Nat) (Option.some Jvm.ClassFile.FieldType.int), Jvm.Cond.code ({ cls := "java/lang/StringLatin1", name := "canEncode", desc := "(I)Z" } : Jvm.MethodName) jdk_43_method_4_code (1 : Nat) (Option.some Jvm.ClassFile.FieldType.boolean), Jvm.Cond.code ({ cls := "java/lang/Math", name := "min", desc := "(II)I" } : Jvm.MethodName) jdk_29_method_69_code (2 : Nat) (Option.some Jvm.ClassFile.FieldType.int), Jvm.Cond.code ({ cls := "java/lang/StringLatin1", name := "indexOfChar", desc := "([BIII)I" } : Jvm.MethodName) jdk_43_method_23_code (6 : Nat) (Option.some Jvm.ClassFile.FieldType.int), Jvm.Cond.code ({ cls := "java/util/Arrays", name := "copyOf", desc := "([II)[I" } : Jvm.MethodName) jdk_65_method_123_code (3 : Nat) (Option.some (Jvm.ClassFile.FieldType.array Jvm.ClassFile.FieldType.int)), Jvm.Cond.code ({ cls := "java/lang/String", name := "isEmpty", desc := "()Z" } : Jvm.MethodName) jdk_42_method_55_code (1 : Nat) (Option.some Jvm.ClassFile.FieldType.boolean), Jvm.Cond.code ({ cls := "java/lang/String", name := "charAt", desc := "(I)C" } : Jvm.MethodName) jdk_42_method_56_code (2 : Nat) (Option.some Jvm.ClassFile.FieldType.char), Jvm.Cond.code ({ cls := "java/lang/StringLatin1", name := "charAt", desc := "([BI)C" } : Jvm.MethodName) jdk_43_method_2_code (2 : Nat) (Option.some Jvm.ClassFile.FieldType.char), Jvm.Cond.code ({ cls := "java/lang/String", name := "checkIndex", desc := "(II)V" } : Jvm.MethodName) jdk_42_method_155_code (2 : Nat) (Option.none : Option Jvm.ClassFile.FieldType), Jvm.Cond.code ({ cls := "jdk/internal/util/Preconditions", name := "checkIndex", desc := "(IILjava/util/function/BiFunction;)I" } : Jvm.MethodName) jdk_41_method_11_code (3 : Nat) (Option.some Jvm.ClassFile.FieldType.int), Jvm.Cond.code ({ cls := "com/example/amendtrail/amendtrail/write/Lines", name := "size", desc := "()I" } : Jvm.MethodName) prog_111_method_4_code (1 : Nat) (Option.some Jvm.ClassFile.FieldType.int), Jvm.Cond.code ({ cls := "com/example/amendtrail/amendtrail/write/Lines", name := "length", desc := "(II)I" } : Jvm.MethodName) prog_111_method_6_code (3 : Nat) (Option.some Jvm.ClassFile.FieldType.int), Jvm.Cond.code ({ cls := "com/example/amendtrail/amendtrail/write/LinesLengthPinLaw", name := "start", desc := "([CII)I" } : Jvm.MethodName) method_5_code (4 : Nat) (Option.some Jvm.ClassFile.FieldType.int)]
set_option maxRecDepth 65536 in
theorem codes_eq : words1.filter isCode = codes1 := rfl
theorem w_codes : ∀ c ∈ words1.filter isCode, c.before args0 about1 = true := by
  rw [codes_eq]
  intro c hc
  simp only [codes1, List.mem_cons, List.not_mem_nil, or_false] at hc
  rcases hc with rfl | rfl | rfl | rfl | rfl | rfl | rfl | rfl | rfl | rfl | rfl | rfl | rfl | rfl | rfl | rfl | rfl | rfl | rfl | rfl | rfl | rfl | rfl | rfl | rfl | rfl | rfl | rfl | rfl | rfl | rfl
  · exact w_c0
  · exact w_c1
  · exact w_c2
  · exact w_c3
  · exact w_c4
  · exact w_c5
  · exact w_c6
  · exact w_c7
  · exact w_c8
  · exact w_c9
  · exact w_c10
  · exact w_c11
  · exact w_c12
  · exact w_c13
  · exact w_c14
  · exact w_c15
  · exact w_c16
  · exact w_c17
  · exact w_c18
  · exact w_c19
  · exact w_c20
  · exact w_c21
  · exact w_c22
  · exact w_c23
  · exact w_c24
  · exact w_c25
  · exact w_c26
  · exact w_c27
  · exact w_c28
  · exact w_c29
  · exact w_c30
set_option maxRecDepth 65536 in
theorem w_t1 : (words1.take 24).all (fun c => isCode c || c.before args0 about1) = true := by decide +kernel
set_option maxRecDepth 65536 in
theorem w_t2 : ((words1.drop 24).take 24).all (fun c => isCode c || c.before args0 about1) = true := by decide +kernel
set_option maxRecDepth 65536 in
theorem w_t3 : (((words1.drop 24).drop 24).take 24).all (fun c => isCode c || c.before args0 about1) = true := by decide +kernel
set_option maxRecDepth 65536 in
theorem w_t4 : ((((words1.drop 24).drop 24).drop 24).take 24).all (fun c => isCode c || c.before args0 about1) = true := by decide +kernel
set_option maxRecDepth 65536 in
theorem w_t5 : (((((words1.drop 24).drop 24).drop 24).drop 24).take 24).all (fun c => isCode c || c.before args0 about1) = true := by decide +kernel
set_option maxRecDepth 65536 in
theorem w_t6 : ((((((words1.drop 24).drop 24).drop 24).drop 24).drop 24).take 24).all (fun c => isCode c || c.before args0 about1) = true := by decide +kernel
set_option maxRecDepth 65536 in
theorem w_t7 : ((((((words1.drop 24).drop 24).drop 24).drop 24).drop 24).drop 24).all (fun c => isCode c || c.before args0 about1) = true := by decide +kernel
theorem w_tables : (allAtoms (Jvm.Cond.code x code maxLocals ret :: tables_1)).before args0 about1 = true := by
  rw [allAtoms_all]
  show words1.all (fun c => c.before args0 about1) = true
  refine all_split ?_ w_codes
  rw [← List.take_append_drop 24 words1, List.all_append, w_t1, ← List.take_append_drop 24 (words1.drop 24), List.all_append, w_t2, ← List.take_append_drop 24 ((words1.drop 24).drop 24), List.all_append, w_t3, ← List.take_append_drop 24 (((words1.drop 24).drop 24).drop 24), List.all_append, w_t4, ← List.take_append_drop 24 ((((words1.drop 24).drop 24).drop 24).drop 24), List.all_append, w_t5, ← List.take_append_drop 24 (((((words1.drop 24).drop 24).drop 24).drop 24).drop 24), List.all_append, w_t6, w_t7]
  rfl
set_option maxRecDepth 65536 in
theorem w_rest : rest_1_c.before args0 about1 = true := by decide +kernel
set_option maxRecDepth 65536 in
theorem w_case : (Jvm.Cond.and given_1 narrow_1).before args0 about1 = true := by decide +kernel
set_option maxRecDepth 65536 in
theorem w_consts : constsHeld consts_1 about1 := Jvm.Lit.constsHeldB_iff.mp (by decide +kernel)
theorem w_applies : (headSpec (Jvm.Cond.code x code maxLocals ret :: tables_1) room_1).applies x e0.platform about1 = true :=
  (Spec.applies_iff w_frames).mpr ⟨w_running, w_runnable, w_alone, w_named, w_hears, w_ripe, w_room, w_tables⟩
theorem atStart : AtStart classFile x code maxLocals ret World_1 tables_1 room_1 Calls_1 rest_1 Pre_1 launch0 p0 e0 about1 theMethod args0 below0 :=
  ⟨lists_1, trivial, launch0.admits_env _ _ _, launch0.least_env, fairChoices_fair.cas, fairChoices_fair.clock, w_frames, w_args, w_heap, w_applies, ⟨w_consts, trivial⟩, w_rest, w_case⟩
end start1
theorem witness_1 : WitnessClaimed_1 := ⟨start1.p0, start1.e0, start1.about1, start1.theMethod, start1.args0, start1.below0, start1.atStart⟩
end Jvm.Pilot.@@N@@
