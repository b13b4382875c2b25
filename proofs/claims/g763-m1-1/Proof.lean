import JvmDerived
import JvmDerived.Pilot.@@N@@Statement
import JvmDerived.Pilot.@@N@@Code
set_option linter.unusedVariables false
set_option linter.unusedSimpArgs false
namespace Jvm.Pilot.@@N@@
open Jvm Jvm.ClassFile Sem Op Lib Jvm.Free Jvm.Stand Jvm.LawKit Jvm.RoadKit Bundle Jvm.Pilot.@@N@@.Jvm.D
section OwnKit
variable {p : Program} {l : Launch} {e : Env} {R : Room} {s : State} {m : MethodId} {args : Array Value} {below : List Frame} {meth : Method} {c : Code} {T : State} {locs : List Loc} {cells slots : Nat} {Z : State} {a0 : Array Value} {h : Heap}
/-- from S on the run comes to the method's end, and there Q holds -/
def own_Fin (p : Program) (e : Env) (below : List Frame) (s : State) (Q : Option Value → Heap → List Loc → Prop) (rc rs : Nat) (S : State) : Prop :=
  ∃ s₂ o, Steps p.tables e below S s₂ ∧ s₂.status = .running ∧ Ended s₂ below o ∧ ∃ v L, o = .returned v ∧ Q v s₂.heap L ∧ FrameEnd s o s₂ L rc rs
theorem own_step {Q : Option Value → Heap → List Loc → Prop} {rc rs : Nat} {S S' : State} (k : ∀ t, Steps p.tables e below S' t → Steps p.tables e below S t) (hF : own_Fin p e below s Q rc rs S') : own_Fin p e below s Q rc rs S := by
  obtain ⟨s₂, o, h1, r⟩ := hF
  exact ⟨s₂, o, k _ h1, r⟩
abbrev own_Met (l : Launch) (y : MethodName) (bytes : ByteArray) (maxL : Nat) (ret : Option FieldType) (ws : List Jvm.Cond) (rm : Room) (Z : State) (as' : Array Value) (h0 : Heap) (Q : Option Value → Heap → List Loc → Prop) : Prop :=
  MetFree l y (head1 (Jvm.Cond.code y bytes maxL ret :: ws) rm) (fun a U => a = as' ∧ Z.Warmed39 U.vm ∧ U.heap = h0) (fun _ _ _ _ _ => True) (fun _ U o U' => ∃ v L, o = .returned v ∧ Q v U'.heap L ∧ FrameEnd U o U' L rm.cells rm.slots)
theorem own_body {y : MethodName} {bytes : ByteArray} {maxL : Nat} {ret : Option FieldType} {ws : List Jvm.Cond} {rm : Room} {as' : Array Value} {h0 : Heap} {Q : Option Value → Heap → List Loc → Prop} (hy : plainFor y = true)
    (hB : ∀ (p : Program) (e : Env) (s : State) (m : MethodId) (below : List Frame) (meth : Method) (c : Code) (s₁ : State), Stand p l e rm s m as' below meth c s₁ [] 0 0 → p.tables.exec = Jvm.exec → c.code = bytes → c.maxLocals = maxL → s.vm.findClass y.cls = some m.cls → meth.name = y.name → meth.sig.returnType = ret → meth.locks = false → Z.Warmed39 s.vm → s₁.heap = h0 →
      own_Fin p e below s Q rm.cells rm.slots (s₁.setTop (entryFrame m as' maxL))) : own_Met l y bytes maxL ret ws rm Z as' h0 Q := by
  refine MetFree.of_bodySF hy hisR ?_
  intro p e s m args below meth c s₁ Bd hml0 hP hK
  obtain ⟨rfl, hZ, hh⟩ := hP
  exact hB p e s m below meth c s₁ (Stand.of_body Bd) Bd.exec Bd.bytes hml0 (findClass_of_methodNamed Bd.named) (name_of_methodNamed Bd.named Bd.method).1 Bd.returns Bd.notSynchronized hZ (by rw [← hh, Bd.state]; rfl)
theorem own_ret {Q : Option Value → Heap → List Loc → Prop} {rc rs : Nat} {S : State} {v : Option Value} (X : Stand p l e R s m args below meth c T locs cells slots) (hlk : meth.locks = false) (hv : meth.sig.returnType = none → v = none)
    (hst : ∀ fs, (∀ (f : JFrame) (acts : List Action), f.method = m → f.locked = none → f.entered = [] → (doReturn e (T.setTop f) acts v).1 = T.setFrames fs) → Steps p.tables e below S (T.setFrames fs))
    (hc : cells ≤ rc) (hs : slots ≤ rs) (hQ : Q v T.heap locs) : own_Fin p e below s Q rc rs S := by
  obtain ⟨fs, hr, hrun, hended, hW, hsame⟩ := X.leave (v := v) hv hlk
  exact ⟨_, _, hst fs hr, hrun, hended, _, _, rfl, hQ, ⟨_, rfl⟩, hW, hsame.mono hc hs⟩
theorem own_retV {Q : Option Value → Heap → List Loc → Prop} {rc rs : Nat} {pc : Nat} {Ls : Array Slot} (X : Stand p l e R s m args below meth c T locs cells slots) (hx : p.tables.exec = Jvm.exec) (hlk : meth.locks = false) (hret : meth.sig.returnType = none) (hd : decode c.code pc = .ok (.return_, 1))
    (hc : cells ≤ rc) (hs : slots ≤ rs) (hQ : Q none T.heap locs) : own_Fin p e below s Q rc rs (T.setTop (mkF m pc Ls [])) :=
  own_ret X hlk (fun _ => rfl) (fun fs hr => X.returnOut hx hret hd hr) hc hs hQ
theorem own_retI {Q : Option Value → Heap → List Loc → Prop} {rc rs : Nat} {pc : Nat} {Ls : Array Slot} {z : Int32} (X : Stand p l e R s m args below meth c T locs cells slots) (hx : p.tables.exec = Jvm.exec) (hlk : meth.locks = false) (hret : meth.sig.returnType = some .int) (hd : decode c.code pc = .ok (.ireturn, 1))
    (hc : cells ≤ rc) (hs : slots ≤ rs) (hQ : Q (some (.int z)) T.heap locs) : own_Fin p e below s Q rc rs (T.setTop (mkF m pc Ls [.int z])) :=
  own_ret X hlk (fun q => by rw [hret] at q; cases q) (fun fs hr => retOut X hx hret rfl (Or.inl ⟨rfl, Or.inl rfl, z, rfl⟩) hd hr) hc hs hQ
theorem own_retL {Q : Option Value → Heap → List Loc → Prop} {rc rs : Nat} {pc : Nat} {Ls : Array Slot} {z : Int64} (X : Stand p l e R s m args below meth c T locs cells slots) (hx : p.tables.exec = Jvm.exec) (hlk : meth.locks = false) (hret : meth.sig.returnType = some .long) (hd : decode c.code pc = .ok (.lreturn, 1))
    (hc : cells ≤ rc) (hs : slots ≤ rs) (hQ : Q (some (.long z)) T.heap locs) : own_Fin p e below s Q rc rs (T.setTop (mkF m pc Ls [.long z])) :=
  own_ret X hlk (fun q => by rw [hret] at q; cases q) (fun fs hr => retOut X hx hret rfl (Or.inr (Or.inl ⟨rfl, rfl, z, rfl⟩)) hd hr) hc hs hQ
theorem own_retA {Q : Option Value → Heap → List Loc → Prop} {rc rs : Nat} {pc : Nat} {Ls : Array Slot} {w : Value} {t : FieldType} (X : Stand p l e R s m args below meth c T locs cells slots) (hx : p.tables.exec = Jvm.exec) (hlk : meth.locks = false) (hret : meth.sig.returnType = some t) (ht : t.isReference = true) (hn : narrow t w = w) (hw : w.isRef = true) (hd : decode c.code pc = .ok (.areturn, 1))
    (hc : cells ≤ rc) (hs : slots ≤ rs) (hQ : Q (some w) T.heap locs) : own_Fin p e below s Q rc rs (T.setTop (mkF m pc Ls [w])) :=
  own_ret X hlk (fun q => by rw [hret] at q; cases q) (fun fs hr => retOut X hx hret hn (Or.inr (Or.inr (Or.inr (Or.inr ⟨rfl, ht, hw⟩)))) hd hr) hc hs hQ
/-- a boolean, byte, char or short that already fits -/
theorem own_retN {Q : Option Value → Heap → List Loc → Prop} {rc rs : Nat} {pc : Nat} {Ls : Array Slot} {z : Int32} {t : FieldType} (X : Stand p l e R s m args below meth c T locs cells slots) (hx : p.tables.exec = Jvm.exec) (hlk : meth.locks = false) (hret : meth.sig.returnType = some t) (ht : t = .boolean ∨ t = .byte ∨ t = .char ∨ t = .short) (hn : nar t z = z) (hd : decode c.code pc = .ok (.ireturn, 1))
    (hc : cells ≤ rc) (hs : slots ≤ rs) (hQ : Q (some (.int z)) T.heap locs) : own_Fin p e below s Q rc rs (T.setTop (mkF m pc Ls [.int z])) :=
  own_ret X hlk (fun q => by rw [hret] at q; cases q) (fun fs hr => retN X hx hret ht hd (by rw [hn]; exact hr)) hc hs hQ
section Calls
variable {y z : MethodName} {bytes : ByteArray} {maxL W : Nat} {ret : Option FieldType} {rm : Room} {Q : Option Value → Heap → List Loc → Prop} {own C : String} {index : Nat} {b : Addr} {argsL rest : List Value} {g : JFrame}
theorem own_virt (X : Stand p l e R s m args below meth c T locs cells slots) (hx : p.tables.exec = Jvm.exec) (hZ : Z.Warmed39 s.vm) (hown : s.vm.findClass own = some m.cls) (w1 : (Jvm.Cond.methodLink own index y).before a0 Z = true) (w2 : (Jvm.Cond.declares y).before a0 Z = true) (nf : NotFace s y) (w3 : (Jvm.Cond.selects C y z).before a0 Z = true) (w4 : (Jvm.Cond.instanceMethod z).before a0 Z = true) (hy : y.cls ≠ "java/lang/invoke/MethodHandle" ∧ y.cls ≠ "java/lang/invoke/VarHandle")
    (wc : (Jvm.Cond.code z bytes maxL ret).before a0 Z = true) (wz : (Jvm.Cond.initialized z.cls).before a0 Z = true) (eT : T.heap = h) (E : Exa Z h b C) (hM : own_Met l z bytes maxL ret [] rm Z (.ref b :: argsL).toArray h Q) (hg : g.method = m) (hsize : g.locals.size = c.maxLocals) (hlen : ∀ sig, parseMethodDescriptor y.desc = some sig → argsL.length = sig.parameters.length)
    (hstack : g.stack = argsL.reverse ++ .ref b :: rest) (hW : 2 * g.monitorRoom + (rest.map fun v => v.category).sum ≤ W) (hd : decode c.code g.pc = .ok (.invokevirtual index, 3)) (hf : rm.frames + 1 ≤ R.frames) (hl : W + (maxL + 11) + rm.locals ≤ R.locals) (hc : cells + rm.cells ≤ R.cells) (hs : slots + rm.slots ≤ R.slots) :
    ∃ (v : Option Value) (T' : State) (L : List Loc), Stand p l e R s m args below meth c T' (locs ++ L) (cells + rm.cells) (slots + rm.slots) ∧ Q v T'.heap L ∧ ∀ t, Steps p.tables e below (T'.setTop { g with pc := g.pc + 3, stack := v.toList ++ rest }) t → Steps p.tables e below (T.setTop g) t := by
  obtain ⟨cq, kq, qa, qb, qc⟩ := isOf hZ eT E
  obtain ⟨v, vm1, ⟨T', L', k', n'⟩, -, X', ⟨L, hQ, hl', hk', hn'⟩, st⟩ := X.virtualBack hx (y := y) (z := z) hown (mvT hZ w1) (mvT hZ w2) nf (mvT hZ w3) (mvT hZ w4) hy (backOf (W := W) hM hZ wc wz hf hl) qa qc hg hsize (Steps.refl _) hlen hstack hW hd (fun _ _ => ⟨rfl, eT, hc, hs⟩)
  dsimp only [Pt.U, Pt.locs, Pt.cells, Pt.slots] at X' hl' hk' hn' st hQ
  subst hl' hk' hn'
  exact ⟨v, T', L, X', hQ, fun t k => st.trans k⟩
/-- a method that a superclass declares, named through the subclass -/
theorem own_virtUp {owner : String} (X : Stand p l e R s m args below meth c T locs cells slots) (hx : p.tables.exec = Jvm.exec) (hZ : Z.Warmed39 s.vm) (hown : s.vm.findClass own = some m.cls) (w1 : (Jvm.Cond.methodLink own index y).before a0 Z = true) (ws : (Jvm.Cond.sameMethod y.cls owner y.name y.desc).before a0 Z = true) (w2 : (Jvm.Cond.declares ⟨owner, y.name, y.desc⟩).before a0 Z = true) (ho : owner ≠ "java/lang/invoke/MethodHandle" ∧ owner ≠ "java/lang/invoke/VarHandle") (w3 : (Jvm.Cond.selects C y z).before a0 Z = true) (w4 : (Jvm.Cond.instanceMethod z).before a0 Z = true)
    (wc : (Jvm.Cond.code z bytes maxL ret).before a0 Z = true) (wz : (Jvm.Cond.initialized z.cls).before a0 Z = true) (eT : T.heap = h) (E : Exa Z h b C) (hM : own_Met l z bytes maxL ret [] rm Z (.ref b :: argsL).toArray h Q) (hg : g.method = m) (hsize : g.locals.size = c.maxLocals) (hlen : ∀ sig, parseMethodDescriptor y.desc = some sig → argsL.length = sig.parameters.length)
    (hstack : g.stack = argsL.reverse ++ .ref b :: rest) (hW : 2 * g.monitorRoom + (rest.map fun v => v.category).sum ≤ W) (hd : decode c.code g.pc = .ok (.invokevirtual index, 3)) (hf : rm.frames + 1 ≤ R.frames) (hl : W + (maxL + 11) + rm.locals ≤ R.locals) (hc : cells + rm.cells ≤ R.cells) (hs : slots + rm.slots ≤ R.slots) :
    ∃ (v : Option Value) (T' : State) (L : List Loc), Stand p l e R s m args below meth c T' (locs ++ L) (cells + rm.cells) (slots + rm.slots) ∧ Q v T'.heap L ∧ ∀ t, Steps p.tables e below (T'.setTop { g with pc := g.pc + 3, stack := v.toList ++ rest }) t → Steps p.tables e below (T.setTop g) t := by
  obtain ⟨cq, kq, qa, qb, qc⟩ := isOf hZ eT E
  obtain ⟨v, vm1, ⟨T', L', k', n'⟩, -, X', ⟨L, hQ, hl', hk', hn'⟩, st⟩ := X.virtualBackUp hx (x := y) (y := z) hown (mvT hZ w1) (mvT hZ ws) (mvT hZ w2) ho (mvT hZ w3) (mvT hZ w4) (backOf (W := W) hM hZ wc wz hf hl) qa qc hg hsize (Steps.refl _) hlen hstack hW hd (fun _ _ => ⟨rfl, eT, hc, hs⟩)
  dsimp only [Pt.U, Pt.locs, Pt.cells, Pt.slots] at X' hl' hk' hn' st hQ
  subst hl' hk' hn'
  exact ⟨v, T', L, X', hQ, fun t k => st.trans k⟩
theorem own_stat (X : Stand p l e R s m args below meth c T locs cells slots) (hx : p.tables.exec = Jvm.exec) (hZ : Z.Warmed39 s.vm) (hown : s.vm.findClass own = some m.cls) (w1 : (Jvm.Cond.methodLink own index y).before a0 Z = true) (w2 : (Jvm.Cond.static y).before a0 Z = true) (hy : y.cls ≠ "java/lang/invoke/MethodHandle" ∧ y.cls ≠ "java/lang/invoke/VarHandle")
    (wc : (Jvm.Cond.code y bytes maxL ret).before a0 Z = true) (wz : (Jvm.Cond.initialized y.cls).before a0 Z = true) (eT : T.heap = h) (hM : own_Met l y bytes maxL ret [] rm Z argsL.toArray h Q) (hg : g.method = m) (hsize : g.locals.size = c.maxLocals) (hlen : ∀ sig, parseMethodDescriptor y.desc = some sig → argsL.length = sig.parameters.length)
    (hstack : g.stack = argsL.reverse ++ rest) (hW : 2 * g.monitorRoom + (rest.map fun v => v.category).sum ≤ W) (hd : decode c.code g.pc = .ok (.invokestatic index, 3)) (hf : rm.frames + 1 ≤ R.frames) (hl : W + (maxL + 11) + rm.locals ≤ R.locals) (hc : cells + rm.cells ≤ R.cells) (hs : slots + rm.slots ≤ R.slots) :
    ∃ (v : Option Value) (T' : State) (L : List Loc), Stand p l e R s m args below meth c T' (locs ++ L) (cells + rm.cells) (slots + rm.slots) ∧ Q v T'.heap L ∧ ∀ t, Steps p.tables e below (T'.setTop { g with pc := g.pc + 3, stack := v.toList ++ rest }) t → Steps p.tables e below (T.setTop g) t := by
  obtain ⟨v, vm1, ⟨T', L', k', n'⟩, -, X', ⟨L, hQ, hl', hk', hn'⟩, st⟩ := Jvm.LawKit.callS X hx (y := y) hown (mvT hZ w1) (mvT hZ w2) (mvT hZ wz) (mvT hZ wc) hy (backOf (W := W) hM hZ wc wz hf hl) hg hsize hlen hstack hW hd (fun _ _ => ⟨rfl, eT, hc, hs⟩)
  dsimp only [Pt.U, Pt.locs, Pt.cells, Pt.slots] at X' hl' hk' hn' st hQ
  subst hl' hk' hn'
  exact ⟨v, T', L, X', hQ, st⟩
theorem own_spec {bytes : ByteArray} {maxL : Nat} (X : Stand p l e R s m args below meth c T locs cells slots) (hx : p.tables.exec = Jvm.exec) (hZ : Z.Warmed39 s.vm) (hy1 : y.name = "<init>") (hown : s.vm.findClass own = some m.cls) (w1 : (Jvm.Cond.methodLink own index y).before a0 Z = true) (w2 : (Jvm.Cond.instanceMethod y).before a0 Z = true) (hy : y.cls ≠ "java/lang/invoke/MethodHandle" ∧ y.cls ≠ "java/lang/invoke/VarHandle")
    (wc : (Jvm.Cond.code y bytes maxL none).before a0 Z = true) (wz : (Jvm.Cond.initialized y.cls).before a0 Z = true) (eT : T.heap = h) (hM : own_Met l y bytes maxL none [] rm Z (.ref b :: argsL).toArray h Q) (hg : g.method = m) (hsize : g.locals.size = c.maxLocals) (hlen : ∀ sig, parseMethodDescriptor y.desc = some sig → argsL.length = sig.parameters.length)
    (hstack : g.stack = argsL.reverse ++ .ref b :: rest) (hW : 2 * g.monitorRoom + (rest.map fun v => v.category).sum ≤ W) (hd : decode c.code g.pc = .ok (.invokespecial index, 3)) (hf : rm.frames + 1 ≤ R.frames) (hl : W + (maxL + 11) + rm.locals ≤ R.locals) (hc : cells + rm.cells ≤ R.cells) (hs : slots + rm.slots ≤ R.slots) :
    ∃ (v : Option Value) (T' : State) (L : List Loc), Stand p l e R s m args below meth c T' (locs ++ L) (cells + rm.cells) (slots + rm.slots) ∧ Q v T'.heap L ∧ ∀ t, Steps p.tables e below (T'.setTop { g with pc := g.pc + 3, stack := v.toList ++ rest }) t → Steps p.tables e below (T.setTop g) t := by
  obtain ⟨v, vm1, ⟨T', L', k', n'⟩, -, X', ⟨L, hQ, hl', hk', hn'⟩, st⟩ := X.specialBack hx (y := y) hy1 hown (mvT hZ w1) (mvT hZ w2) (mvT hZ wc) hy (backOf (W := W) hM hZ wc wz hf hl) hg hsize (Steps.refl _) hlen hstack hW hd (fun _ _ => ⟨rfl, eT, hc, hs⟩)
  dsimp only [Pt.U, Pt.locs, Pt.cells, Pt.slots] at X' hl' hk' hn' st hQ
  subst hl' hk' hn'
  exact ⟨v, T', L, X', hQ, fun t k => st.trans k⟩
end Calls
section Words
variable {first : State} {o : Option Outcome} {idx : List Nat} {a b t : Term} {v : Value} {C n d : String}
theorem own_eqI {k : Int32} (hq : (Jvm.Cond.eq a (.int k)).value args first o s idx = some true) : a.eval args first o idx s = some (.int k) := by
  cases ha : a.eval args first o idx s with
  | none => simp [Cond.value, ha] at hq
  | some x => cases x <;> simp [Cond.value, ha, Term.eval] at hq ⊢ <;> exact hq
theorem own_eqR {y : Addr} (hb : b.eval args first o idx s = some (.ref y)) (hq : (Jvm.Cond.eq a b).value args first o s idx = some true) : a.eval args first o idx s = some (.ref y) := by
  cases ha : a.eval args first o idx s with
  | none => simp [Cond.value, ha] at hq
  | some x => cases x <;> simp [Cond.value, ha, hb] at hq ⊢ <;> exact hq
theorem own_fld {x : Addr} (ht : t.eval args Z none [] Z = some (.ref x)) (hq : (Term.field t C n d).eval args Z none [] Z = some v) : Fld Z Z.heap x C n d v := Fld.start ((fld_at ht).symm.trans hq)
/-- an array of a known length -/
def own_Aln (Z : State) (h : Heap) (a : Addr) (ty : FieldType) (n : Int32) : Prop := ∃ c : Cell, Arr Z h a c ty ∧ c.slots.size = n.toNatClampNeg ∧ ¬ n < 0
theorem own_len {a : Addr} {cl : Cell} {ty : FieldType} {k : Int32} (ht : t.eval args Z none [] Z = some (.ref a)) (A : Arr Z Z.heap a cl ty) (hq : (Term.length t).eval args Z none [] Z = some (.int k)) (hk : ¬ k < 0 := by decide) : own_Aln Z Z.heap a ty k := by
  have hc : Z.arrayAt? a = some cl := A.fin (Vm.Alike.refl _)
  simp only [Term.eval, ht, hc, Option.bind_eq_bind, Option.bind_some] at hq
  by_cases hb : cl.slots.size < 2 ^ 31
  · simp only [hb, if_true, Option.pure_def, Option.some.injEq, Value.int.injEq] at hq
    refine ⟨cl, A, ?_, hk⟩
    have h1 := len_toInt hb
    rw [hq] at h1
    have h2 := nat_of hk
    omega
  · simp [hb] at hq
end Words
theorem own_exaStat {a : Addr} {C : String} (F : Exa Z h a C) : ∀ cell : Cell, h[a]? = some cell → cell.vm.isStatics = false := fun cell hc => by
  obtain ⟨c', _, h1, -, -, h4, -⟩ := F
  cases h1.symm.trans hc
  exact h4
theorem own_staKeep {h' : Heap} {C n d : String} {v : Value} {ws : List Addr} (F : Sta Z h C n d v) (K : Keep h h' ws) (q : ∀ x ∈ ws, ∀ cell : Cell, h[x]? = some cell → cell.vm.isStatics = false) : Sta Z h' C n d v := by
  obtain ⟨cf, i, k, f, st, cell, h1, h2, h3, h4, h5, h6, h7⟩ := F
  exact ⟨cf, i, k, f, st, cell, h1, h2, h3, h4, K.2.1 st cell h5 (fun hm => by rw [q st hm cell h5] at h6; cases h6), h6, h7⟩
theorem own_ite {α : Type} (P : Prop) (x y : α) : ∃ z : α, (P → z = x) ∧ (¬ P → z = y) := by
  by_cases hP : P
  · exact ⟨x, fun _ => rfl, fun q => absurd hP q⟩
  · exact ⟨y, fun q => absurd q hP, fun _ => rfl⟩
theorem own_irr (x : Int64) : ¬ x < x := by simp
theorem own_tri (x y : Int64) : x < y ∨ x = y ∨ y < x := by
  simp only [Int64.lt_iff_toInt_lt, ← Int64.toInt_inj]
  omega
theorem own_asym {x y : Int64} (q : x < y) : ¬ y < x := by
  simp only [Int64.lt_iff_toInt_lt] at *
  omega
theorem own_ltne {x y : Int64} (q : x < y) : ¬ x = y := fun u => own_irr _ (u ▸ q)
theorem own_gtne {x y : Int64} (q : y < x) : ¬ x = y := fun u => own_irr _ (u ▸ q)
end OwnKit
theorem d1_0 : decode prog_25_method_1_code 0 = .ok (.aload_n 0, 1) := by decide +kernel
theorem d1_1 : decode prog_25_method_1_code 1 = .ok (.invokespecial 1, 3) := by decide +kernel
theorem d1_4 : decode prog_25_method_1_code 4 = .ok (.aload_n 0, 1) := by decide +kernel
theorem d1_5 : decode prog_25_method_1_code 5 = .ok (.lload_n 1, 1) := by decide +kernel
theorem d1_6 : decode prog_25_method_1_code 6 = .ok (.putfield 7, 3) := by decide +kernel
theorem d1_9 : decode prog_25_method_1_code 9 = .ok (.aload_n 0, 1) := by decide +kernel
theorem d1_10 : decode prog_25_method_1_code 10 = .ok (.lload_n 3, 1) := by decide +kernel
theorem d1_11 : decode prog_25_method_1_code 11 = .ok (.putfield 13, 3) := by decide +kernel
theorem d1_14 : decode prog_25_method_1_code 14 = .ok (.return_, 1) := by decide +kernel
theorem pn_0 : plainName "com/example/leith/leith/migration/PageRange" = true := by first | (simp [plainName, overriddenIn]; done) | decide +kernel
set_option maxRecDepth 65536 in
set_option maxHeartbeats 40000000 in
theorem rmI (l : Launch) (Z : State) (a0 : Array Value) (hw : ∀ d ∈ tables_1, d.before a0 Z = true) (ws : List Jvm.Cond)  (a : Addr) (q1 : Int64) (q2 : Int64) (h0 : Heap) (n0 : Nat) (Z0 : n0 ≤ h0.size) (F1 : Fld Z h0 a "com/example/leith/leith/migration/PageRange" "first" "J" (.long (0 : Int64))) (F2 : Fld Z h0 a "com/example/leith/leith/migration/PageRange" "end" "J" (.long (0 : Int64))) (E : Exa Z h0 a "com/example/leith/leith/migration/PageRange") (g_a : n0 ≤ a) :
    own_Met l (⟨"com/example/leith/leith/migration/PageRange", "<init>", "(JJ)V"⟩ : MethodName) prog_25_method_1_code 5 none ws ({ frames := 1, cells := 0, slots := 0, locals := 12 } : Room) Z #[(.ref a), (.long q1), (.long q2)] h0 (fun v h L => v = none ∧ Fr n0 L ∧ Keep h0 h [a] ∧ Fld Z h a "com/example/leith/leith/migration/PageRange" "first" "J" (.long q1) ∧ Fld Z h a "com/example/leith/leith/migration/PageRange" "end" "J" (.long q2)) := by
  refine own_body (plainFor_of_name pn_0) ?_
  intro p e s m below meth c s₁ X0 hx hby hml hown hnm hret hlk hZ e0
  replace hown : s.vm.findClass "com/example/leith/leith/migration/PageRange" = some m.cls := hown
  replace hml : c.maxLocals = 5 := hml
  replace hret : meth.sig.returnType = none := hret
  have N0 := Fr.nil n0
  have ef : entryFrame m #[(.ref a), (.long q1), (.long q2)] 5 = mkF m 0 #[.val (.ref a), .val (.long q1), .second, .val (.long q2), .second] [] := by first | (simp [entryFrame, mkF, argsToLocals, Value.category]; done) | rfl
  refine own_step (S' := (s₁.setTop (mkF m 0 #[.val (.ref a), .val (.long q1), .second, .val (.long q2), .second] []))) (fun _ k => castTop ef k) ?_
  refine own_step (S' := (s₁.setTop (mkF m 1 #[.val (.ref a), .val (.long q1), .second, .val (.long q2), .second] [(.ref a)]))) (fun _ k => XS.aloadN X0.here hx rfl (hb hby d1_0) rfl rfl k) ?_
  obtain ⟨T1, X1, e1, st1⟩ := initO X0 hx hZ hown (hw _ (List.mem_of_getElem? (i := 6) rfl)) (hw _ (List.mem_of_getElem? (i := 7) rfl)) (hw _ (List.mem_of_getElem? (i := 8) rfl)) e0 (g := (mkF m 1 #[.val (.ref a), .val (.long q1), .second, .val (.long q2), .second] [(.ref a)])) rfl (by rw [hml]; rfl) rfl (hb hby d1_1) (by decide) (W := 0) (by show 2 * 0 + _ ≤ _; exact Nat.le_of_eq rfl) (by decide)
  refine own_step (S' := (T1.setTop (mkF m 4 #[.val (.ref a), .val (.long q1), .second, .val (.long q2), .second] []))) (fun _ k => st1 _ k) ?_
  refine own_step (S' := (T1.setTop (mkF m 5 #[.val (.ref a), .val (.long q1), .second, .val (.long q2), .second] [(.ref a)]))) (fun _ k => XS.aloadN X1.here hx rfl (hb hby d1_4) rfl rfl k) ?_
  refine own_step (S' := (T1.setTop (mkF m 6 #[.val (.ref a), .val (.long q1), .second, .val (.long q2), .second] [(.long q1), (.ref a)]))) (fun _ k => XS.lloadN X1.here hx rfl (hb hby d1_5) rfl k) ?_
  obtain ⟨T2, h2, X2, e2, W2, st2⟩ := putF X1 hx hZ hown (host := "") (Or.inl (hw _ (List.mem_of_getElem? (i := 9) rfl))) Via.refl e1 F1 E (Or.inr ⟨(hw _ (List.mem_of_getElem? (i := 10) rfl)), rfl, hnm⟩) (hw _ (List.mem_of_getElem? (i := 1) rfl)) (ty := .long) (by decide) rfl rfl (g := (mkF m 6 #[.val (.ref a), .val (.long q1), .second, .val (.long q2), .second] [(.long q1), (.ref a)])) rfl rfl (hb hby d1_6)
  have Fw2 := Fld.same W2 F1
  have N2 := Fr.snoc X2 N0 g_a
  refine own_step (S' := (T2.setTop (mkF m 9 #[.val (.ref a), .val (.long q1), .second, .val (.long q2), .second] []))) (fun _ k => st2 _ k) ?_
  refine own_step (S' := (T2.setTop (mkF m 10 #[.val (.ref a), .val (.long q1), .second, .val (.long q2), .second] [(.ref a)]))) (fun _ k => XS.aloadN X2.here hx rfl (hb hby d1_9) rfl rfl k) ?_
  refine own_step (S' := (T2.setTop (mkF m 11 #[.val (.ref a), .val (.long q1), .second, .val (.long q2), .second] [(.long q2), (.ref a)]))) (fun _ k => XS.lloadN X2.here hx rfl (hb hby d1_10) rfl k) ?_
  obtain ⟨T3, h3, X3, e3, W3, st3⟩ := putF X2 hx hZ hown (host := "") (Or.inl (hw _ (List.mem_of_getElem? (i := 11) rfl))) Via.refl e2 (Fld.other W2 F2 (Or.inr (slot_ne (Or.inr (hw _ (List.mem_of_getElem? (i := 12) rfl))) (Or.inr (hw _ (List.mem_of_getElem? (i := 10) rfl))) (by decide) (t := .long) (t' := .long) (by decide) (by decide)))) (Exa.wr W2 E) (Or.inr ⟨(hw _ (List.mem_of_getElem? (i := 12) rfl)), rfl, hnm⟩) (hw _ (List.mem_of_getElem? (i := 1) rfl)) (ty := .long) (by decide) rfl rfl (g := (mkF m 11 #[.val (.ref a), .val (.long q1), .second, .val (.long q2), .second] [(.long q2), (.ref a)])) rfl rfl (hb hby d1_11)
  have Fw3 := Fld.same W3 (Fld.other W2 F2 (Or.inr (slot_ne (Or.inr (hw _ (List.mem_of_getElem? (i := 12) rfl))) (Or.inr (hw _ (List.mem_of_getElem? (i := 10) rfl))) (by decide) (t := .long) (t' := .long) (by decide) (by decide))))
  have N3 := Fr.snoc X3 N2 g_a
  refine own_step (S' := (T3.setTop (mkF m 14 #[.val (.ref a), .val (.long q1), .second, .val (.long q2), .second] []))) (fun _ k => st3 _ k) ?_
  refine own_retV X3 hx hlk hret (hb hby d1_14) (by decide) (by decide) ?_
  try rw [e3]
  exact ⟨rfl, N3, (Keep.wr (Keep.wr (Keep.refl h0 [a]) W2 (Or.inl (List.mem_of_getElem? (i := 0) rfl))) W3 (Or.inl (List.mem_of_getElem? (i := 0) rfl))), (Fld.other W3 Fw2 (Or.inr (slot_ne (Or.inr (hw _ (List.mem_of_getElem? (i := 10) rfl))) (Or.inr (hw _ (List.mem_of_getElem? (i := 12) rfl))) (by decide) (t := .long) (t' := .long) (by decide) (by decide)))), Fw3⟩
theorem d3_0 : decode prog_25_method_4_code 0 = .ok (.aload_n 1, 1) := by decide +kernel
theorem d3_1 : decode prog_25_method_4_code 1 = .ok (.instanceof 8, 3) := by decide +kernel
theorem d3_4 : decode prog_25_method_4_code 4 = .ok (.ifCond .eq 37, 3) := by decide +kernel
theorem d3_7 : decode prog_25_method_4_code 7 = .ok (.aload_n 1, 1) := by decide +kernel
theorem d3_8 : decode prog_25_method_4_code 8 = .ok (.checkcast 8, 3) := by decide +kernel
theorem d3_11 : decode prog_25_method_4_code 11 = .ok (.getfield 7, 3) := by decide +kernel
theorem d3_14 : decode prog_25_method_4_code 14 = .ok (.aload_n 0, 1) := by decide +kernel
theorem d3_15 : decode prog_25_method_4_code 15 = .ok (.getfield 7, 3) := by decide +kernel
theorem d3_18 : decode prog_25_method_4_code 18 = .ok (.lcmp, 1) := by decide +kernel
theorem d3_19 : decode prog_25_method_4_code 19 = .ok (.ifCond .ne 22, 3) := by decide +kernel
theorem d3_22 : decode prog_25_method_4_code 22 = .ok (.aload_n 1, 1) := by decide +kernel
theorem d3_23 : decode prog_25_method_4_code 23 = .ok (.checkcast 8, 3) := by decide +kernel
theorem d3_26 : decode prog_25_method_4_code 26 = .ok (.getfield 13, 3) := by decide +kernel
theorem d3_29 : decode prog_25_method_4_code 29 = .ok (.aload_n 0, 1) := by decide +kernel
theorem d3_30 : decode prog_25_method_4_code 30 = .ok (.getfield 13, 3) := by decide +kernel
theorem d3_33 : decode prog_25_method_4_code 33 = .ok (.lcmp, 1) := by decide +kernel
theorem d3_34 : decode prog_25_method_4_code 34 = .ok (.ifCond .ne 7, 3) := by decide +kernel
theorem d3_37 : decode prog_25_method_4_code 37 = .ok (.iconst 1, 1) := by decide +kernel
theorem d3_38 : decode prog_25_method_4_code 38 = .ok (.goto 4, 3) := by decide +kernel
theorem d3_41 : decode prog_25_method_4_code 41 = .ok (.iconst 0, 1) := by decide +kernel
theorem d3_42 : decode prog_25_method_4_code 42 = .ok (.ireturn, 1) := by decide +kernel
set_option maxRecDepth 65536 in
set_option maxHeartbeats 40000000 in
theorem rmQn (l : Launch) (Z : State) (a0 : Array Value) (hw : ∀ d ∈ tables_1, d.before a0 Z = true) (ws : List Jvm.Cond)  (a : Addr) (h0 : Heap) (n0 : Nat) (Z0 : n0 ≤ h0.size) :
    own_Met l (⟨"com/example/leith/leith/migration/PageRange", "equals", "(Ljava/lang/Object;)Z"⟩ : MethodName) prog_25_method_4_code 2 (some .boolean) ws ({ frames := 0, cells := 0, slots := 0, locals := 0 } : Room) Z #[(.ref a), .null] h0 (fun v h L => v = some (.int 0) ∧ Fr n0 L ∧ h = h0) := by
  refine own_body (plainFor_of_name pn_0) ?_
  intro p e s m below meth c s₁ X0 hx hby hml hown hnm hret hlk hZ e0
  replace hown : s.vm.findClass "com/example/leith/leith/migration/PageRange" = some m.cls := hown
  replace hml : c.maxLocals = 2 := hml
  replace hret : meth.sig.returnType = (some .boolean) := hret
  have N0 := Fr.nil n0
  have ef : entryFrame m #[(.ref a), .null] 2 = mkF m 0 #[.val (.ref a), .val .null] [] := by first | (simp [entryFrame, mkF, argsToLocals, Value.category]; done) | rfl
  refine own_step (S' := (s₁.setTop (mkF m 0 #[.val (.ref a), .val .null] []))) (fun _ k => castTop ef k) ?_
  refine own_step (S' := (s₁.setTop (mkF m 1 #[.val (.ref a), .val .null] [.null]))) (fun _ k => XS.aloadN X0.here hx rfl (hb hby d3_0) rfl rfl k) ?_
  refine own_step (S' := (s₁.setTop (mkF m 4 #[.val (.ref a), .val .null] [(.int (0 : Int32))]))) (fun _ k => X0.instanceofNull hx (g := (mkF m 1 #[.val (.ref a), .val .null] [.null])) rfl rfl (hb hby d3_1) _ k) ?_
  refine own_step (S' := (s₁.setTop (mkF m 41 #[.val (.ref a), .val .null] []))) (fun _ k => XS.ifYes X0.here hx rfl (pc0 := 4) (pc' := 41) rfl (hb hby d3_4) rfl ((if0 _ _).trans (teq (by decide : (0 : Int32) = (0 : Int32))).1) (by decide) (by decide) k) ?_
  refine own_step (S' := (s₁.setTop (mkF m 42 #[.val (.ref a), .val .null] [(.int (0 : Int32))]))) (fun _ k => XS.iconst X0.here hx rfl (hb hby d3_41) k) ?_
  refine own_retN X0 hx hlk hret (by simp) (by decide) (hb hby d3_42) (by decide) (by decide) ?_
  try rw [e0]
  exact ⟨rfl, N0, rfl⟩
set_option maxRecDepth 65536 in
set_option maxHeartbeats 40000000 in
theorem rmQ_1 (l : Launch) (Z : State) (a0 : Array Value) (hw : ∀ d ∈ tables_1, d.before a0 Z = true) (ws : List Jvm.Cond) (a c0 : Addr) (x1 x2 y1 y2 : Int64)  (h0 : Heap) (n0 : Nat) (Z0 : n0 ≤ h0.size) (Fa1 : Fld Z h0 a "com/example/leith/leith/migration/PageRange" "first" "J" (.long x1)) (Fa2 : Fld Z h0 a "com/example/leith/leith/migration/PageRange" "end" "J" (.long x2)) (Ec : Exa Z h0 c0 "com/example/leith/leith/migration/PageRange") (Fc1 : Fld Z h0 c0 "com/example/leith/leith/migration/PageRange" "first" "J" (.long y1)) (Fc2 : Fld Z h0 c0 "com/example/leith/leith/migration/PageRange" "end" "J" (.long y2)) (hq1 : y1 = x1) (hq2 : y2 = x2) :
    own_Met l (⟨"com/example/leith/leith/migration/PageRange", "equals", "(Ljava/lang/Object;)Z"⟩ : MethodName) prog_25_method_4_code 2 (some .boolean) ws ({ frames := 0, cells := 0, slots := 0, locals := 0 } : Room) Z #[(.ref a), (.ref c0)] h0 (fun v h L => v = some (.int 1) ∧ Fr n0 L ∧ h = h0) := by
  refine own_body (plainFor_of_name pn_0) ?_
  intro p e s m below meth c s₁ X0 hx hby hml hown hnm hret hlk hZ e0
  replace hown : s.vm.findClass "com/example/leith/leith/migration/PageRange" = some m.cls := hown
  replace hml : c.maxLocals = 2 := hml
  replace hret : meth.sig.returnType = (some .boolean) := hret
  have N0 := Fr.nil n0
  have ef : entryFrame m #[(.ref a), (.ref c0)] 2 = mkF m 0 #[.val (.ref a), .val (.ref c0)] [] := by first | (simp [entryFrame, mkF, argsToLocals, Value.category]; done) | rfl
  refine own_step (S' := (s₁.setTop (mkF m 0 #[.val (.ref a), .val (.ref c0)] []))) (fun _ k => castTop ef k) ?_
  refine own_step (S' := (s₁.setTop (mkF m 1 #[.val (.ref a), .val (.ref c0)] [(.ref c0)]))) (fun _ k => XS.aloadN X0.here hx rfl (hb hby d3_0) rfl rfl k) ?_
  obtain ⟨T4, X4, e4, st4⟩ := instY X0 hx hZ hown (hw _ (List.mem_of_getElem? (i := 18) rfl)) e0 (Ins.self Ec) (g := (mkF m 1 #[.val (.ref a), .val (.ref c0)] [(.ref c0)])) rfl rfl (hb hby d3_1)
  refine own_step (S' := (T4.setTop (mkF m 4 #[.val (.ref a), .val (.ref c0)] [(.int (1 : Int32))]))) (fun _ k => st4 _ k) ?_
  refine own_step (S' := (T4.setTop (mkF m 7 #[.val (.ref a), .val (.ref c0)] []))) (fun _ k => XS.ifNo X4.here hx rfl (hb hby d3_4) rfl ((if0 _ _).trans (feq (by decide : ¬ ((1 : Int32) = (0 : Int32)))).1) k) ?_
  refine own_step (S' := (T4.setTop (mkF m 8 #[.val (.ref a), .val (.ref c0)] [(.ref c0)]))) (fun _ k => XS.aloadN X4.here hx rfl (hb hby d3_7) rfl rfl k) ?_
  obtain ⟨T5, X5, e5, st5⟩ := castY X4 hx hZ hown (hw _ (List.mem_of_getElem? (i := 18) rfl)) e4 (Ins.self Ec) (g := (mkF m 8 #[.val (.ref a), .val (.ref c0)] [(.ref c0)])) rfl rfl (hb hby d3_8)
  refine own_step (S' := (T5.setTop (mkF m 11 #[.val (.ref a), .val (.ref c0)] [(.ref c0)]))) (fun _ k => st5 _ k) ?_
  obtain ⟨T6, X6, e6, st6⟩ := getF X5 hx hZ hown (host := "") (Or.inl (hw _ (List.mem_of_getElem? (i := 9) rfl))) Via.refl e5 Fc1 (g := (mkF m 11 #[.val (.ref a), .val (.ref c0)] [(.ref c0)])) rfl rfl (hb hby d3_11)
  refine own_step (S' := (T6.setTop (mkF m 14 #[.val (.ref a), .val (.ref c0)] [(.long y1)]))) (fun _ k => st6 _ k) ?_
  refine own_step (S' := (T6.setTop (mkF m 15 #[.val (.ref a), .val (.ref c0)] [(.ref a), (.long y1)]))) (fun _ k => XS.aloadN X6.here hx rfl (hb hby d3_14) rfl rfl k) ?_
  obtain ⟨T7, X7, e7, st7⟩ := getF X6 hx hZ hown (host := "") (Or.inl (hw _ (List.mem_of_getElem? (i := 9) rfl))) Via.refl e6 Fa1 (g := (mkF m 15 #[.val (.ref a), .val (.ref c0)] [(.ref a), (.long y1)])) rfl rfl (hb hby d3_15)
  refine own_step (S' := (T7.setTop (mkF m 18 #[.val (.ref a), .val (.ref c0)] [(.long x1), (.long y1)]))) (fun _ k => st7 _ k) ?_
  refine own_step (S' := (T7.setTop (mkF m 19 #[.val (.ref a), .val (.ref c0)] [(.int (lcmpW y1 x1))]))) (fun _ k => XS.lcmp X7.here hx rfl (hb hby d3_18) rfl k) ?_
  refine own_step (S' := (T7.setTop (mkF m 22 #[.val (.ref a), .val (.ref c0)] []))) (fun _ k => XS.ifNo X7.here hx rfl (hb hby d3_19) rfl ((if0 _ _).trans (teq ((lw_eq y1 x1).mpr hq1)).2) k) ?_
  refine own_step (S' := (T7.setTop (mkF m 23 #[.val (.ref a), .val (.ref c0)] [(.ref c0)]))) (fun _ k => XS.aloadN X7.here hx rfl (hb hby d3_22) rfl rfl k) ?_
  obtain ⟨T8, X8, e8, st8⟩ := castY X7 hx hZ hown (hw _ (List.mem_of_getElem? (i := 18) rfl)) e7 (Ins.self Ec) (g := (mkF m 23 #[.val (.ref a), .val (.ref c0)] [(.ref c0)])) rfl rfl (hb hby d3_23)
  refine own_step (S' := (T8.setTop (mkF m 26 #[.val (.ref a), .val (.ref c0)] [(.ref c0)]))) (fun _ k => st8 _ k) ?_
  obtain ⟨T9, X9, e9, st9⟩ := getF X8 hx hZ hown (host := "") (Or.inl (hw _ (List.mem_of_getElem? (i := 11) rfl))) Via.refl e8 Fc2 (g := (mkF m 26 #[.val (.ref a), .val (.ref c0)] [(.ref c0)])) rfl rfl (hb hby d3_26)
  refine own_step (S' := (T9.setTop (mkF m 29 #[.val (.ref a), .val (.ref c0)] [(.long y2)]))) (fun _ k => st9 _ k) ?_
  refine own_step (S' := (T9.setTop (mkF m 30 #[.val (.ref a), .val (.ref c0)] [(.ref a), (.long y2)]))) (fun _ k => XS.aloadN X9.here hx rfl (hb hby d3_29) rfl rfl k) ?_
  obtain ⟨T10, X10, e10, st10⟩ := getF X9 hx hZ hown (host := "") (Or.inl (hw _ (List.mem_of_getElem? (i := 11) rfl))) Via.refl e9 Fa2 (g := (mkF m 30 #[.val (.ref a), .val (.ref c0)] [(.ref a), (.long y2)])) rfl rfl (hb hby d3_30)
  refine own_step (S' := (T10.setTop (mkF m 33 #[.val (.ref a), .val (.ref c0)] [(.long x2), (.long y2)]))) (fun _ k => st10 _ k) ?_
  refine own_step (S' := (T10.setTop (mkF m 34 #[.val (.ref a), .val (.ref c0)] [(.int (lcmpW y2 x2))]))) (fun _ k => XS.lcmp X10.here hx rfl (hb hby d3_33) rfl k) ?_
  refine own_step (S' := (T10.setTop (mkF m 37 #[.val (.ref a), .val (.ref c0)] []))) (fun _ k => XS.ifNo X10.here hx rfl (hb hby d3_34) rfl ((if0 _ _).trans (teq ((lw_eq y2 x2).mpr hq2)).2) k) ?_
  refine own_step (S' := (T10.setTop (mkF m 38 #[.val (.ref a), .val (.ref c0)] [(.int (1 : Int32))]))) (fun _ k => XS.iconst X10.here hx rfl (hb hby d3_37) k) ?_
  refine own_step (S' := (T10.setTop (mkF m 42 #[.val (.ref a), .val (.ref c0)] [(.int (1 : Int32))]))) (fun _ k => XS.goto X10.here hx rfl (pc0 := 38) (pc' := 42) rfl (hb hby d3_38) (by decide) (by decide) k) ?_
  refine own_retN X10 hx hlk hret (by simp) (by decide) (hb hby d3_42) (by decide) (by decide) ?_
  try rw [e10]
  exact ⟨rfl, N0, rfl⟩
set_option maxRecDepth 65536 in
set_option maxHeartbeats 40000000 in
theorem rmQ_f (l : Launch) (Z : State) (a0 : Array Value) (hw : ∀ d ∈ tables_1, d.before a0 Z = true) (ws : List Jvm.Cond) (a c0 : Addr) (x1 x2 y1 y2 : Int64)  (h0 : Heap) (n0 : Nat) (Z0 : n0 ≤ h0.size) (Fa1 : Fld Z h0 a "com/example/leith/leith/migration/PageRange" "first" "J" (.long x1)) (Fa2 : Fld Z h0 a "com/example/leith/leith/migration/PageRange" "end" "J" (.long x2)) (Ec : Exa Z h0 c0 "com/example/leith/leith/migration/PageRange") (Fc1 : Fld Z h0 c0 "com/example/leith/leith/migration/PageRange" "first" "J" (.long y1)) (Fc2 : Fld Z h0 c0 "com/example/leith/leith/migration/PageRange" "end" "J" (.long y2)) (hq1 : ¬ (y1 = x1)) :
    own_Met l (⟨"com/example/leith/leith/migration/PageRange", "equals", "(Ljava/lang/Object;)Z"⟩ : MethodName) prog_25_method_4_code 2 (some .boolean) ws ({ frames := 0, cells := 0, slots := 0, locals := 0 } : Room) Z #[(.ref a), (.ref c0)] h0 (fun v h L => v = some (.int 0) ∧ Fr n0 L ∧ h = h0) := by
  refine own_body (plainFor_of_name pn_0) ?_
  intro p e s m below meth c s₁ X0 hx hby hml hown hnm hret hlk hZ e0
  replace hown : s.vm.findClass "com/example/leith/leith/migration/PageRange" = some m.cls := hown
  replace hml : c.maxLocals = 2 := hml
  replace hret : meth.sig.returnType = (some .boolean) := hret
  have N0 := Fr.nil n0
  have ef : entryFrame m #[(.ref a), (.ref c0)] 2 = mkF m 0 #[.val (.ref a), .val (.ref c0)] [] := by first | (simp [entryFrame, mkF, argsToLocals, Value.category]; done) | rfl
  refine own_step (S' := (s₁.setTop (mkF m 0 #[.val (.ref a), .val (.ref c0)] []))) (fun _ k => castTop ef k) ?_
  refine own_step (S' := (s₁.setTop (mkF m 1 #[.val (.ref a), .val (.ref c0)] [(.ref c0)]))) (fun _ k => XS.aloadN X0.here hx rfl (hb hby d3_0) rfl rfl k) ?_
  obtain ⟨T11, X11, e11, st11⟩ := instY X0 hx hZ hown (hw _ (List.mem_of_getElem? (i := 18) rfl)) e0 (Ins.self Ec) (g := (mkF m 1 #[.val (.ref a), .val (.ref c0)] [(.ref c0)])) rfl rfl (hb hby d3_1)
  refine own_step (S' := (T11.setTop (mkF m 4 #[.val (.ref a), .val (.ref c0)] [(.int (1 : Int32))]))) (fun _ k => st11 _ k) ?_
  refine own_step (S' := (T11.setTop (mkF m 7 #[.val (.ref a), .val (.ref c0)] []))) (fun _ k => XS.ifNo X11.here hx rfl (hb hby d3_4) rfl ((if0 _ _).trans (feq (by decide : ¬ ((1 : Int32) = (0 : Int32)))).1) k) ?_
  refine own_step (S' := (T11.setTop (mkF m 8 #[.val (.ref a), .val (.ref c0)] [(.ref c0)]))) (fun _ k => XS.aloadN X11.here hx rfl (hb hby d3_7) rfl rfl k) ?_
  obtain ⟨T12, X12, e12, st12⟩ := castY X11 hx hZ hown (hw _ (List.mem_of_getElem? (i := 18) rfl)) e11 (Ins.self Ec) (g := (mkF m 8 #[.val (.ref a), .val (.ref c0)] [(.ref c0)])) rfl rfl (hb hby d3_8)
  refine own_step (S' := (T12.setTop (mkF m 11 #[.val (.ref a), .val (.ref c0)] [(.ref c0)]))) (fun _ k => st12 _ k) ?_
  obtain ⟨T13, X13, e13, st13⟩ := getF X12 hx hZ hown (host := "") (Or.inl (hw _ (List.mem_of_getElem? (i := 9) rfl))) Via.refl e12 Fc1 (g := (mkF m 11 #[.val (.ref a), .val (.ref c0)] [(.ref c0)])) rfl rfl (hb hby d3_11)
  refine own_step (S' := (T13.setTop (mkF m 14 #[.val (.ref a), .val (.ref c0)] [(.long y1)]))) (fun _ k => st13 _ k) ?_
  refine own_step (S' := (T13.setTop (mkF m 15 #[.val (.ref a), .val (.ref c0)] [(.ref a), (.long y1)]))) (fun _ k => XS.aloadN X13.here hx rfl (hb hby d3_14) rfl rfl k) ?_
  obtain ⟨T14, X14, e14, st14⟩ := getF X13 hx hZ hown (host := "") (Or.inl (hw _ (List.mem_of_getElem? (i := 9) rfl))) Via.refl e13 Fa1 (g := (mkF m 15 #[.val (.ref a), .val (.ref c0)] [(.ref a), (.long y1)])) rfl rfl (hb hby d3_15)
  refine own_step (S' := (T14.setTop (mkF m 18 #[.val (.ref a), .val (.ref c0)] [(.long x1), (.long y1)]))) (fun _ k => st14 _ k) ?_
  refine own_step (S' := (T14.setTop (mkF m 19 #[.val (.ref a), .val (.ref c0)] [(.int (lcmpW y1 x1))]))) (fun _ k => XS.lcmp X14.here hx rfl (hb hby d3_18) rfl k) ?_
  refine own_step (S' := (T14.setTop (mkF m 41 #[.val (.ref a), .val (.ref c0)] []))) (fun _ k => XS.ifYes X14.here hx rfl (pc0 := 19) (pc' := 41) rfl (hb hby d3_19) rfl ((if0 _ _).trans (feq (fun q => hq1 ((lw_eq y1 x1).mp q))).2) (by decide) (by decide) k) ?_
  refine own_step (S' := (T14.setTop (mkF m 42 #[.val (.ref a), .val (.ref c0)] [(.int (0 : Int32))]))) (fun _ k => XS.iconst X14.here hx rfl (hb hby d3_41) k) ?_
  refine own_retN X14 hx hlk hret (by simp) (by decide) (hb hby d3_42) (by decide) (by decide) ?_
  try rw [e14]
  exact ⟨rfl, N0, rfl⟩
set_option maxRecDepth 65536 in
set_option maxHeartbeats 40000000 in
theorem rmQ_e (l : Launch) (Z : State) (a0 : Array Value) (hw : ∀ d ∈ tables_1, d.before a0 Z = true) (ws : List Jvm.Cond) (a c0 : Addr) (x1 x2 y1 y2 : Int64)  (h0 : Heap) (n0 : Nat) (Z0 : n0 ≤ h0.size) (Fa1 : Fld Z h0 a "com/example/leith/leith/migration/PageRange" "first" "J" (.long x1)) (Fa2 : Fld Z h0 a "com/example/leith/leith/migration/PageRange" "end" "J" (.long x2)) (Ec : Exa Z h0 c0 "com/example/leith/leith/migration/PageRange") (Fc1 : Fld Z h0 c0 "com/example/leith/leith/migration/PageRange" "first" "J" (.long y1)) (Fc2 : Fld Z h0 c0 "com/example/leith/leith/migration/PageRange" "end" "J" (.long y2)) (hq1 : y1 = x1) (hq2 : ¬ (y2 = x2)) :
    own_Met l (⟨"com/example/leith/leith/migration/PageRange", "equals", "(Ljava/lang/Object;)Z"⟩ : MethodName) prog_25_method_4_code 2 (some .boolean) ws ({ frames := 0, cells := 0, slots := 0, locals := 0 } : Room) Z #[(.ref a), (.ref c0)] h0 (fun v h L => v = some (.int 0) ∧ Fr n0 L ∧ h = h0) := by
  refine own_body (plainFor_of_name pn_0) ?_
  intro p e s m below meth c s₁ X0 hx hby hml hown hnm hret hlk hZ e0
  replace hown : s.vm.findClass "com/example/leith/leith/migration/PageRange" = some m.cls := hown
  replace hml : c.maxLocals = 2 := hml
  replace hret : meth.sig.returnType = (some .boolean) := hret
  have N0 := Fr.nil n0
  have ef : entryFrame m #[(.ref a), (.ref c0)] 2 = mkF m 0 #[.val (.ref a), .val (.ref c0)] [] := by first | (simp [entryFrame, mkF, argsToLocals, Value.category]; done) | rfl
  refine own_step (S' := (s₁.setTop (mkF m 0 #[.val (.ref a), .val (.ref c0)] []))) (fun _ k => castTop ef k) ?_
  refine own_step (S' := (s₁.setTop (mkF m 1 #[.val (.ref a), .val (.ref c0)] [(.ref c0)]))) (fun _ k => XS.aloadN X0.here hx rfl (hb hby d3_0) rfl rfl k) ?_
  obtain ⟨T15, X15, e15, st15⟩ := instY X0 hx hZ hown (hw _ (List.mem_of_getElem? (i := 18) rfl)) e0 (Ins.self Ec) (g := (mkF m 1 #[.val (.ref a), .val (.ref c0)] [(.ref c0)])) rfl rfl (hb hby d3_1)
  refine own_step (S' := (T15.setTop (mkF m 4 #[.val (.ref a), .val (.ref c0)] [(.int (1 : Int32))]))) (fun _ k => st15 _ k) ?_
  refine own_step (S' := (T15.setTop (mkF m 7 #[.val (.ref a), .val (.ref c0)] []))) (fun _ k => XS.ifNo X15.here hx rfl (hb hby d3_4) rfl ((if0 _ _).trans (feq (by decide : ¬ ((1 : Int32) = (0 : Int32)))).1) k) ?_
  refine own_step (S' := (T15.setTop (mkF m 8 #[.val (.ref a), .val (.ref c0)] [(.ref c0)]))) (fun _ k => XS.aloadN X15.here hx rfl (hb hby d3_7) rfl rfl k) ?_
  obtain ⟨T16, X16, e16, st16⟩ := castY X15 hx hZ hown (hw _ (List.mem_of_getElem? (i := 18) rfl)) e15 (Ins.self Ec) (g := (mkF m 8 #[.val (.ref a), .val (.ref c0)] [(.ref c0)])) rfl rfl (hb hby d3_8)
  refine own_step (S' := (T16.setTop (mkF m 11 #[.val (.ref a), .val (.ref c0)] [(.ref c0)]))) (fun _ k => st16 _ k) ?_
  obtain ⟨T17, X17, e17, st17⟩ := getF X16 hx hZ hown (host := "") (Or.inl (hw _ (List.mem_of_getElem? (i := 9) rfl))) Via.refl e16 Fc1 (g := (mkF m 11 #[.val (.ref a), .val (.ref c0)] [(.ref c0)])) rfl rfl (hb hby d3_11)
  refine own_step (S' := (T17.setTop (mkF m 14 #[.val (.ref a), .val (.ref c0)] [(.long y1)]))) (fun _ k => st17 _ k) ?_
  refine own_step (S' := (T17.setTop (mkF m 15 #[.val (.ref a), .val (.ref c0)] [(.ref a), (.long y1)]))) (fun _ k => XS.aloadN X17.here hx rfl (hb hby d3_14) rfl rfl k) ?_
  obtain ⟨T18, X18, e18, st18⟩ := getF X17 hx hZ hown (host := "") (Or.inl (hw _ (List.mem_of_getElem? (i := 9) rfl))) Via.refl e17 Fa1 (g := (mkF m 15 #[.val (.ref a), .val (.ref c0)] [(.ref a), (.long y1)])) rfl rfl (hb hby d3_15)
  refine own_step (S' := (T18.setTop (mkF m 18 #[.val (.ref a), .val (.ref c0)] [(.long x1), (.long y1)]))) (fun _ k => st18 _ k) ?_
  refine own_step (S' := (T18.setTop (mkF m 19 #[.val (.ref a), .val (.ref c0)] [(.int (lcmpW y1 x1))]))) (fun _ k => XS.lcmp X18.here hx rfl (hb hby d3_18) rfl k) ?_
  refine own_step (S' := (T18.setTop (mkF m 22 #[.val (.ref a), .val (.ref c0)] []))) (fun _ k => XS.ifNo X18.here hx rfl (hb hby d3_19) rfl ((if0 _ _).trans (teq ((lw_eq y1 x1).mpr hq1)).2) k) ?_
  refine own_step (S' := (T18.setTop (mkF m 23 #[.val (.ref a), .val (.ref c0)] [(.ref c0)]))) (fun _ k => XS.aloadN X18.here hx rfl (hb hby d3_22) rfl rfl k) ?_
  obtain ⟨T19, X19, e19, st19⟩ := castY X18 hx hZ hown (hw _ (List.mem_of_getElem? (i := 18) rfl)) e18 (Ins.self Ec) (g := (mkF m 23 #[.val (.ref a), .val (.ref c0)] [(.ref c0)])) rfl rfl (hb hby d3_23)
  refine own_step (S' := (T19.setTop (mkF m 26 #[.val (.ref a), .val (.ref c0)] [(.ref c0)]))) (fun _ k => st19 _ k) ?_
  obtain ⟨T20, X20, e20, st20⟩ := getF X19 hx hZ hown (host := "") (Or.inl (hw _ (List.mem_of_getElem? (i := 11) rfl))) Via.refl e19 Fc2 (g := (mkF m 26 #[.val (.ref a), .val (.ref c0)] [(.ref c0)])) rfl rfl (hb hby d3_26)
  refine own_step (S' := (T20.setTop (mkF m 29 #[.val (.ref a), .val (.ref c0)] [(.long y2)]))) (fun _ k => st20 _ k) ?_
  refine own_step (S' := (T20.setTop (mkF m 30 #[.val (.ref a), .val (.ref c0)] [(.ref a), (.long y2)]))) (fun _ k => XS.aloadN X20.here hx rfl (hb hby d3_29) rfl rfl k) ?_
  obtain ⟨T21, X21, e21, st21⟩ := getF X20 hx hZ hown (host := "") (Or.inl (hw _ (List.mem_of_getElem? (i := 11) rfl))) Via.refl e20 Fa2 (g := (mkF m 30 #[.val (.ref a), .val (.ref c0)] [(.ref a), (.long y2)])) rfl rfl (hb hby d3_30)
  refine own_step (S' := (T21.setTop (mkF m 33 #[.val (.ref a), .val (.ref c0)] [(.long x2), (.long y2)]))) (fun _ k => st21 _ k) ?_
  refine own_step (S' := (T21.setTop (mkF m 34 #[.val (.ref a), .val (.ref c0)] [(.int (lcmpW y2 x2))]))) (fun _ k => XS.lcmp X21.here hx rfl (hb hby d3_33) rfl k) ?_
  refine own_step (S' := (T21.setTop (mkF m 41 #[.val (.ref a), .val (.ref c0)] []))) (fun _ k => XS.ifYes X21.here hx rfl (pc0 := 34) (pc' := 41) rfl (hb hby d3_34) rfl ((if0 _ _).trans (feq (fun q => hq2 ((lw_eq y2 x2).mp q))).2) (by decide) (by decide) k) ?_
  refine own_step (S' := (T21.setTop (mkF m 42 #[.val (.ref a), .val (.ref c0)] [(.int (0 : Int32))]))) (fun _ k => XS.iconst X21.here hx rfl (hb hby d3_41) k) ?_
  refine own_retN X21 hx hlk hret (by simp) (by decide) (hb hby d3_42) (by decide) (by decide) ?_
  try rw [e21]
  exact ⟨rfl, N0, rfl⟩
theorem own_noLong {Z : State} {a0 : Array Value} (hw : ∀ d ∈ tables_1, d.before a0 Z = true) : ∃ c t, Z.vm.findClass "java/lang/Long" = some c ∧ Z.vm.findClass "com/example/leith/leith/migration/PageRange" = some t ∧ Z.vm.assignable c t = false := by
  have w1 := (hw _ (List.mem_of_getElem? (i := 40) rfl))
  have w2 := (hw _ (List.mem_of_getElem? (i := 41) rfl))
  have w3 := (hw _ (List.mem_of_getElem? (i := 42) rfl))
  have wi := (hw _ (List.mem_of_getElem? (i := 1) rfl))
  obtain ⟨t, kt, g1, g2, g5, gi, -⟩ := Cond.instantiable_spec wi
  have gi' : kt.isInterface = false := by simpa using (Bool.or_eq_false_iff.mp gi).1
  have n0 : NS Z "java/lang/Object" "com/example/leith/leith/migration/PageRange" := by
    obtain ⟨c, k, h1, h2, h3, -, -⟩ := Cond.noSuperclass_spec w3
    have ne := ids_ne h1 g1 (by decide)
    refine ⟨c, t, h1, g1, fun fuel => ?_⟩
    cases fuel with
    | zero => rfl
    | succ f => simp [Vm.isSubclassAux, ne, h2, h3]
  obtain ⟨c, t', h0, g0, n3⟩ := NS.step w1 (NS.step w2 n0 (by decide)) (by decide)
  cases g1.symm.trans g0
  obtain ⟨p, k, kp, h1, h2, h3, h4, h5, -, h7⟩ := Cond.superclass_spec h0 w1
  have ne := ids_ne h0 g0 (by decide)
  refine ⟨c, t, h0, g0, ?_⟩
  show Z.vm.assignableAux (255 + 1) c t = false
  simp [Vm.assignableAux, ne, h2, g2, h5, g5, gi', Vm.isSubclass, n3]
set_option maxRecDepth 65536 in
set_option maxHeartbeats 40000000 in
theorem rmQl (l : Launch) (Z : State) (a0 : Array Value) (hw : ∀ d ∈ tables_1, d.before a0 Z = true) (ws : List Jvm.Cond)  (a : Addr) (c0 : Addr) (h0 : Heap) (n0 : Nat) (Z0 : n0 ≤ h0.size) (Ec : Exa Z h0 c0 "java/lang/Long") :
    own_Met l (⟨"com/example/leith/leith/migration/PageRange", "equals", "(Ljava/lang/Object;)Z"⟩ : MethodName) prog_25_method_4_code 2 (some .boolean) ws ({ frames := 0, cells := 0, slots := 0, locals := 0 } : Room) Z #[(.ref a), (.ref c0)] h0 (fun v h L => v = some (.int 0) ∧ Fr n0 L ∧ h = h0) := by
  refine own_body (plainFor_of_name pn_0) ?_
  intro p e s m below meth c s₁ X0 hx hby hml hown hnm hret hlk hZ e0
  replace hown : s.vm.findClass "com/example/leith/leith/migration/PageRange" = some m.cls := hown
  replace hml : c.maxLocals = 2 := hml
  replace hret : meth.sig.returnType = (some .boolean) := hret
  have N0 := Fr.nil n0
  have ef : entryFrame m #[(.ref a), (.ref c0)] 2 = mkF m 0 #[.val (.ref a), .val (.ref c0)] [] := by first | (simp [entryFrame, mkF, argsToLocals, Value.category]; done) | rfl
  refine own_step (S' := (s₁.setTop (mkF m 0 #[.val (.ref a), .val (.ref c0)] []))) (fun _ k => castTop ef k) ?_
  refine own_step (S' := (s₁.setTop (mkF m 1 #[.val (.ref a), .val (.ref c0)] [(.ref c0)]))) (fun _ k => XS.aloadN X0.here hx rfl (hb hby d3_0) rfl rfl k) ?_
  obtain ⟨T22, X22, e22, st22⟩ := instNo X0 hx hZ hown (hw _ (List.mem_of_getElem? (i := 18) rfl)) e0 Ec (own_noLong hw) (g := (mkF m 1 #[.val (.ref a), .val (.ref c0)] [(.ref c0)])) rfl rfl (hb hby d3_1)
  refine own_step (S' := (T22.setTop (mkF m 4 #[.val (.ref a), .val (.ref c0)] [(.int (0 : Int32))]))) (fun _ k => st22 _ k) ?_
  refine own_step (S' := (T22.setTop (mkF m 41 #[.val (.ref a), .val (.ref c0)] []))) (fun _ k => XS.ifYes X22.here hx rfl (pc0 := 4) (pc' := 41) rfl (hb hby d3_4) rfl ((if0 _ _).trans (teq (by decide : (0 : Int32) = (0 : Int32))).1) (by decide) (by decide) k) ?_
  refine own_step (S' := (T22.setTop (mkF m 42 #[.val (.ref a), .val (.ref c0)] [(.int (0 : Int32))]))) (fun _ k => XS.iconst X22.here hx rfl (hb hby d3_41) k) ?_
  refine own_retN X22 hx hlk hret (by simp) (by decide) (hb hby d3_42) (by decide) (by decide) ?_
  try rw [e22]
  exact ⟨rfl, N0, rfl⟩
theorem d6_0 : decode jdk_18_method_1_code 0 = .ok (.aload_n 0, 1) := by decide +kernel
theorem d6_1 : decode jdk_18_method_1_code 1 = .ok (.invokespecial 1, 3) := by decide +kernel
theorem d6_4 : decode jdk_18_method_1_code 4 = .ok (.return_, 1) := by decide +kernel
theorem pn_1 : plainName "java/lang/Number" = true := by first | (simp [plainName, overriddenIn]; done) | decide +kernel
set_option maxRecDepth 65536 in
set_option maxHeartbeats 40000000 in
theorem rmN (l : Launch) (Z : State) (a0 : Array Value) (hw : ∀ d ∈ tables_1, d.before a0 Z = true) (ws : List Jvm.Cond)  (a : Addr) (h0 : Heap) (n0 : Nat) (Z0 : n0 ≤ h0.size) :
    own_Met l (⟨"java/lang/Number", "<init>", "()V"⟩ : MethodName) jdk_18_method_1_code 1 none ws ({ frames := 1, cells := 0, slots := 0, locals := 12 } : Room) Z #[(.ref a)] h0 (fun v h L => v = none ∧ Fr n0 L ∧ h = h0) := by
  refine own_body (plainFor_of_name pn_1) ?_
  intro p e s m below meth c s₁ X0 hx hby hml hown hnm hret hlk hZ e0
  replace hown : s.vm.findClass "java/lang/Number" = some m.cls := hown
  replace hml : c.maxLocals = 1 := hml
  replace hret : meth.sig.returnType = none := hret
  have N0 := Fr.nil n0
  have ef : entryFrame m #[(.ref a)] 1 = mkF m 0 #[.val (.ref a)] [] := by first | (simp [entryFrame, mkF, argsToLocals, Value.category]; done) | rfl
  refine own_step (S' := (s₁.setTop (mkF m 0 #[.val (.ref a)] []))) (fun _ k => castTop ef k) ?_
  refine own_step (S' := (s₁.setTop (mkF m 1 #[.val (.ref a)] [(.ref a)]))) (fun _ k => XS.aloadN X0.here hx rfl (hb hby d6_0) rfl rfl k) ?_
  obtain ⟨T23, X23, e23, st23⟩ := initO X0 hx hZ hown (hw _ (List.mem_of_getElem? (i := 37) rfl)) (hw _ (List.mem_of_getElem? (i := 7) rfl)) (hw _ (List.mem_of_getElem? (i := 8) rfl)) e0 (g := (mkF m 1 #[.val (.ref a)] [(.ref a)])) rfl (by rw [hml]; rfl) rfl (hb hby d6_1) (by decide) (W := 0) (by show 2 * 0 + _ ≤ _; exact Nat.le_of_eq rfl) (by decide)
  refine own_step (S' := (T23.setTop (mkF m 4 #[.val (.ref a)] []))) (fun _ k => st23 _ k) ?_
  refine own_retV X23 hx hlk hret (hb hby d6_4) (by decide) (by decide) ?_
  try rw [e23]
  exact ⟨rfl, N0, rfl⟩
theorem d5_0 : decode jdk_35_method_26_code 0 = .ok (.aload_n 0, 1) := by decide +kernel
theorem d5_1 : decode jdk_35_method_26_code 1 = .ok (.invokespecial 270, 3) := by decide +kernel
theorem d5_4 : decode jdk_35_method_26_code 4 = .ok (.aload_n 0, 1) := by decide +kernel
theorem d5_5 : decode jdk_35_method_26_code 5 = .ok (.lload_n 1, 1) := by decide +kernel
theorem d5_6 : decode jdk_35_method_26_code 6 = .ok (.putfield 273, 3) := by decide +kernel
theorem d5_9 : decode jdk_35_method_26_code 9 = .ok (.return_, 1) := by decide +kernel
theorem pn_2 : plainName "java/lang/Long" = true := by first | (simp [plainName, overriddenIn]; done) | decide +kernel
theorem pd_0 : parseMethodDescriptor "()V" = some ⟨[], none⟩ := by decide +kernel
set_option maxRecDepth 65536 in
set_option maxHeartbeats 40000000 in
theorem rmLI (l : Launch) (Z : State) (a0 : Array Value) (hw : ∀ d ∈ tables_1, d.before a0 Z = true) (ws : List Jvm.Cond)  (a : Addr) (q1 : Int64) (h0 : Heap) (n0 : Nat) (Z0 : n0 ≤ h0.size) (F1 : Fld Z h0 a "java/lang/Long" "value" "J" (.long (0 : Int64))) (E : Exa Z h0 a "java/lang/Long") (g_a : n0 ≤ a) :
    own_Met l (⟨"java/lang/Long", "<init>", "(J)V"⟩ : MethodName) jdk_35_method_26_code 3 none ws ({ frames := 2, cells := 0, slots := 0, locals := 24 } : Room) Z #[(.ref a), (.long q1)] h0 (fun v h L => v = none ∧ Fr n0 L ∧ Keep h0 h [a]) := by
  refine own_body (plainFor_of_name pn_2) ?_
  intro p e s m below meth c s₁ X0 hx hby hml hown hnm hret hlk hZ e0
  replace hown : s.vm.findClass "java/lang/Long" = some m.cls := hown
  replace hml : c.maxLocals = 3 := hml
  replace hret : meth.sig.returnType = none := hret
  have N0 := Fr.nil n0
  have ef : entryFrame m #[(.ref a), (.long q1)] 3 = mkF m 0 #[.val (.ref a), .val (.long q1), .second] [] := by first | (simp [entryFrame, mkF, argsToLocals, Value.category]; done) | rfl
  refine own_step (S' := (s₁.setTop (mkF m 0 #[.val (.ref a), .val (.long q1), .second] []))) (fun _ k => castTop ef k) ?_
  refine own_step (S' := (s₁.setTop (mkF m 1 #[.val (.ref a), .val (.long q1), .second] [(.ref a)]))) (fun _ k => XS.aloadN X0.here hx rfl (hb hby d5_0) rfl rfl k) ?_
  obtain ⟨_, T24, L24, X24, ⟨rfl, N24q, e24⟩, st24⟩ := own_spec (b := a) (argsL := []) (rest := []) X0 hx hZ rfl hown (hw _ (List.mem_of_getElem? (i := 31) rfl)) (hw _ (List.mem_of_getElem? (i := 32) rfl)) (by decide) (hw _ (List.mem_of_getElem? (i := 36) rfl)) (hw _ (List.mem_of_getElem? (i := 35) rfl)) e0 (hM := rmN l Z a0 hw [] a h0 n0 Z0) (g := (mkF m 1 #[.val (.ref a), .val (.long q1), .second] [(.ref a)])) (hg := rfl) (hsize := by rw [hml]; rfl) (hlen := lenOf pd_0 rfl) (hstack := rfl) (W := 0) (hW := by show 2 * 0 + _ ≤ _; exact Nat.le_of_eq rfl) (hd := (hb hby d5_1)) (hf := by decide) (hl := by decide) (hc := by decide) (hs := by decide)
  have N24 := Fr.app N0 N24q
  refine own_step (S' := (T24.setTop (mkF m 4 #[.val (.ref a), .val (.long q1), .second] []))) (fun _ k => st24 _ k) ?_
  refine own_step (S' := (T24.setTop (mkF m 5 #[.val (.ref a), .val (.long q1), .second] [(.ref a)]))) (fun _ k => XS.aloadN X24.here hx rfl (hb hby d5_4) rfl rfl k) ?_
  refine own_step (S' := (T24.setTop (mkF m 6 #[.val (.ref a), .val (.long q1), .second] [(.long q1), (.ref a)]))) (fun _ k => XS.lloadN X24.here hx rfl (hb hby d5_5) rfl k) ?_
  obtain ⟨T25, h25, X25, e25, W25, st25⟩ := putF X24 hx hZ hown (host := "") (Or.inl (hw _ (List.mem_of_getElem? (i := 38) rfl))) Via.refl e24 F1 E (Or.inr ⟨(hw _ (List.mem_of_getElem? (i := 39) rfl)), rfl, hnm⟩) (hw _ (List.mem_of_getElem? (i := 26) rfl)) (ty := .long) (by decide) rfl rfl (g := (mkF m 6 #[.val (.ref a), .val (.long q1), .second] [(.long q1), (.ref a)])) rfl rfl (hb hby d5_6)
  have Fw25 := Fld.same W25 F1
  have N25 := Fr.snoc X25 N24 g_a
  refine own_step (S' := (T25.setTop (mkF m 9 #[.val (.ref a), .val (.long q1), .second] []))) (fun _ k => st25 _ k) ?_
  refine own_retV X25 hx hlk hret (hb hby d5_9) (by decide) (by decide) ?_
  try rw [e25]
  exact ⟨rfl, N25, (Keep.wr (Keep.refl h0 [a]) W25 (Or.inl (List.mem_of_getElem? (i := 0) rfl)))⟩
/-- the cache of java.lang.Long: an array of 256, a Long in each place -/
def own_Cache (Z : State) (h : Heap) (ca : Addr) : Prop := Sta Z h "java/lang/Long$LongCache" "cache" "[Ljava/lang/Long;" (.ref ca) ∧ ∃ cl : Cell, Arr Z h ca cl (.object "java/lang/Long") ∧ cl.slots.size = 256 ∧ ∀ j : Int32, ¬ (j < 0 ∨ cl.slots.size ≤ j.toNatClampNeg) → ∃ y, cl.slots[j.toNatClampNeg]? = some (.ref y) ∧ Exa Z h y "java/lang/Long"
theorem own_cacheStart {s : State} {args : Array Value} {a : Addr} {cl : Cell} (ev : (Term.static "java/lang/Long$LongCache" "cache" "[Ljava/lang/Long;").eval args s none [] s = some (.ref a)) (A : Arr s s.heap a cl (.object "java/lang/Long")) (Sc : Sta s s.heap "java/lang/Long$LongCache" "cache" "[Ljava/lang/Long;" (.ref a)) (Ln : own_Aln s s.heap a (.object "java/lang/Long") (256 : Int32))
    (hall : (Jvm.Cond.all (Jvm.Term.static "java/lang/Long$LongCache" "cache" "[Ljava/lang/Long;") (Jvm.Cond.and (Jvm.Cond.exactly (Jvm.Term.elem (Jvm.Term.static "java/lang/Long$LongCache" "cache" "[Ljava/lang/Long;") (Jvm.Term.index (0 : Nat))) "java/lang/Long") (Jvm.Cond.eq (Jvm.Term.field (Jvm.Term.elem (Jvm.Term.static "java/lang/Long$LongCache" "cache" "[Ljava/lang/Long;") (Jvm.Term.index (0 : Nat))) "java/lang/Long" "value" "J") (Jvm.Term.op1 Jvm.Unary.i2l (Jvm.Term.sub (Jvm.Term.index (0 : Nat)) (Jvm.Term.int (128 : Int32))))))).value args s none s [] = some true) : own_Cache s s.heap a := by
  obtain ⟨cl', A', S, N⟩ := Ln
  cases A.1.symm.trans A'.1
  have S' : cl.slots.size = 256 := by rw [S]; rfl
  have B := Bxs.start (val := fun j => .long (j - (128 : Int32)).toInt64) (fun _ => ev) A (by rw [S']; decide) (z := 256) (by rw [S']; rfl) (by decide) hall (fun X j hj h => eqv_l (i2l_at (by simp [Term.eval, (back32 hj).1] : (Term.sub (.index 0) (.int 128)).eval args s none [j.toNatClampNeg] s = some (.int (j - 128)))) h)
  exact ⟨Sc, cl, A, S', fun j hj => (B.2.2.2 j hj).imp fun y h => ⟨h.1, h.2.1⟩⟩
theorem own_inCache {q : Int64} (h1 : ¬ q < (-128 : Int64)) (h2 : ¬ (127 : Int64) < q) : ¬ (q.toInt32 + (128 : Int32)) < 0 ∧ (q.toInt32 + (128 : Int32)).toNatClampNeg < 256 := by
  have e1 := c_iadd q.toInt32 128
  have e2 := c_l2i q
  have r1 := rng32 (q.toInt32 + (128 : Int32))
  have r2 := rng32 q.toInt32
  simp only [Int64.lt_iff_toInt_lt] at h1 h2
  have k1 : (-128 : Int64).toInt = -128 := by decide
  have k2 : (127 : Int64).toInt = 127 := by decide
  have k3 : (128 : Int32).toInt = 128 := by decide
  have k4 : (0 : Int32).toInt = 0 := by decide
  rw [k1] at h1; rw [k2] at h2; rw [k3] at e1
  have a1 : ¬ (q.toInt32 + (128 : Int32)) < 0 := by
    simp only [Int32.lt_iff_toInt_lt, k4]; omega
  have a2 := nat_of a1
  exact ⟨a1, by omega⟩
theorem d4_0 : decode jdk_35_method_24_code 0 = .ok (.sipush 128, 3) := by decide +kernel
theorem d4_3 : decode jdk_35_method_24_code 3 = .ok (.istore_n 2, 1) := by decide +kernel
theorem d4_4 : decode jdk_35_method_24_code 4 = .ok (.lload_n 0, 1) := by decide +kernel
theorem d4_5 : decode jdk_35_method_24_code 5 = .ok (.ldc2_w 230, 3) := by decide +kernel
theorem d4_8 : decode jdk_35_method_24_code 8 = .ok (.lcmp, 1) := by decide +kernel
theorem d4_9 : decode jdk_35_method_24_code 9 = .ok (.ifCond .lt 22, 3) := by decide +kernel
theorem d4_12 : decode jdk_35_method_24_code 12 = .ok (.lload_n 0, 1) := by decide +kernel
theorem d4_13 : decode jdk_35_method_24_code 13 = .ok (.ldc2_w 232, 3) := by decide +kernel
theorem d4_16 : decode jdk_35_method_24_code 16 = .ok (.lcmp, 1) := by decide +kernel
theorem d4_17 : decode jdk_35_method_24_code 17 = .ok (.ifCond .gt 14, 3) := by decide +kernel
theorem d4_20 : decode jdk_35_method_24_code 20 = .ok (.getstatic 234, 3) := by decide +kernel
theorem d4_23 : decode jdk_35_method_24_code 23 = .ok (.lload_n 0, 1) := by decide +kernel
theorem d4_24 : decode jdk_35_method_24_code 24 = .ok (.l2i, 1) := by decide +kernel
theorem d4_25 : decode jdk_35_method_24_code 25 = .ok (.sipush 128, 3) := by decide +kernel
theorem d4_28 : decode jdk_35_method_24_code 28 = .ok (.iadd, 1) := by decide +kernel
theorem d4_29 : decode jdk_35_method_24_code 29 = .ok (.aaload, 1) := by decide +kernel
theorem d4_30 : decode jdk_35_method_24_code 30 = .ok (.areturn, 1) := by decide +kernel
theorem d4_31 : decode jdk_35_method_24_code 31 = .ok (.new 1, 3) := by decide +kernel
theorem d4_34 : decode jdk_35_method_24_code 34 = .ok (.dup, 1) := by decide +kernel
theorem d4_35 : decode jdk_35_method_24_code 35 = .ok (.lload_n 0, 1) := by decide +kernel
theorem d4_36 : decode jdk_35_method_24_code 36 = .ok (.invokespecial 240, 3) := by decide +kernel
theorem d4_39 : decode jdk_35_method_24_code 39 = .ok (.areturn, 1) := by decide +kernel
theorem pd_1 : parseMethodDescriptor "(J)V" = some ⟨[.long], none⟩ := by decide +kernel
set_option maxRecDepth 65536 in
set_option maxHeartbeats 40000000 in
theorem rmVO (l : Launch) (Z : State) (a0 : Array Value) (hw : ∀ d ∈ tables_1, d.before a0 Z = true) (ws : List Jvm.Cond) (ca : Addr) (q1 : Int64) (h0 : Heap) (n0 : Nat) (Z0 : n0 ≤ h0.size) (C : own_Cache Z h0 ca) :
    own_Met l (⟨"java/lang/Long", "valueOf", "(J)Ljava/lang/Long;"⟩ : MethodName) jdk_35_method_24_code 3 (some (.object "java/lang/Long")) ws ({ frames := 3, cells := 1, slots := 1, locals := 39 } : Room) Z #[(.long q1)] h0 (fun v h L => ∃ y, v = some (.ref y) ∧ Fr n0 L ∧ Keep h0 h [] ∧ Exa Z h y "java/lang/Long") := by
  refine own_body (plainFor_of_name pn_2) ?_
  intro p e s m below meth c s₁ X0 hx hby hml hown hnm hret hlk hZ e0
  replace hown : s.vm.findClass "java/lang/Long" = some m.cls := hown
  replace hml : c.maxLocals = 3 := hml
  replace hret : meth.sig.returnType = (some (.object "java/lang/Long")) := hret
  have N0 := Fr.nil n0
  have ef : entryFrame m #[(.long q1)] 3 = mkF m 0 #[.val (.long q1), .second, .unset] [] := by first | (simp [entryFrame, mkF, argsToLocals, Value.category]; done) | rfl
  refine own_step (S' := (s₁.setTop (mkF m 0 #[.val (.long q1), .second, .unset] []))) (fun _ k => castTop ef k) ?_
  refine own_step (S' := (s₁.setTop (mkF m 3 #[.val (.long q1), .second, .unset] [(.int (128 : Int32))]))) (fun _ k => XS.sipush X0.here hx rfl (hb hby d4_0) k) ?_
  refine own_step (S' := (s₁.setTop (mkF m 4 #[.val (.long q1), .second, .val (.int (128 : Int32))] []))) (fun _ k => XS.istoreN X0.here hx rfl (hb hby d4_3) rfl (l' := #[.val (.long q1), .second, .val (.int (128 : Int32))]) rfl k) ?_
  refine own_step (S' := (s₁.setTop (mkF m 5 #[.val (.long q1), .second, .val (.int (128 : Int32))] [(.long q1)]))) (fun _ k => XS.lloadN X0.here hx rfl (hb hby d4_4) rfl k) ?_
  refine own_step (S' := (s₁.setTop (mkF m 8 #[.val (.long q1), .second, .val (.int (128 : Int32))] [(.long (-128 : Int64)), (.long q1)]))) (fun _ k => X0.ldc2Long hx hown (mvT hZ (hw _ (List.mem_of_getElem? (i := 24) rfl))) (g := (mkF m 5 #[.val (.long q1), .second, .val (.int (128 : Int32))] [(.long q1)])) rfl (hb hby d4_5) _ k) ?_
  refine own_step (S' := (s₁.setTop (mkF m 9 #[.val (.long q1), .second, .val (.int (128 : Int32))] [(.int (lcmpW q1 (-128 : Int64)))]))) (fun _ k => XS.lcmp X0.here hx rfl (hb hby d4_8) rfl k) ?_
  by_cases hc26 : q1 < (-128 : Int64)
  · refine own_step (S' := (s₁.setTop (mkF m 31 #[.val (.long q1), .second, .val (.int (128 : Int32))] []))) (fun _ k => XS.ifYes X0.here hx rfl (pc0 := 9) (pc' := 31) rfl (hb hby d4_9) rfl ((if0 _ _).trans (tlt ((lw_lt q1 (-128 : Int64)).mpr hc26)).1) (by decide) (by decide) k) ?_
    obtain ⟨T27, h27, X27, e27, E27, A27, D27, -, st27⟩ := newO X0 hx hZ hown (hw _ (List.mem_of_getElem? (i := 25) rfl)) (hw _ (List.mem_of_getElem? (i := 26) rfl)) (hw _ (List.mem_of_getElem? (i := 22) rfl)) e0 (g := (mkF m 31 #[.val (.long q1), .second, .val (.int (128 : Int32))] [])) rfl (hb hby d4_31) (by decide) (by decide)
    obtain ⟨b27, g27⟩ : ∃ z, z = h0.size := ⟨_, rfl⟩
    rw [← g27] at A27 D27 st27
    have g_b27 : n0 ≤ b27 := Nat.le_trans Z0 (Nat.le_of_eq g27.symm)
    have szo_b27 : h0.size ≤ b27 := Nat.le_trans (Nat.le_refl h0.size) (Nat.le_of_eq g27.symm)
    have F_value_b27 : Fld Z h27 b27 "java/lang/Long" "value" "J" (.long (0 : Int64)) := D27 (Or.inr (hw _ (List.mem_of_getElem? (i := 39) rfl))) (ty := .long) (by decide)
    refine own_step (S' := (T27.setTop (mkF m 34 #[.val (.long q1), .second, .val (.int (128 : Int32))] [(.ref b27)]))) (fun _ k => st27 _ k) ?_
    refine own_step (S' := (T27.setTop (mkF m 35 #[.val (.long q1), .second, .val (.int (128 : Int32))] [(.ref b27), (.ref b27)]))) (fun _ k => XS.dup X27.here hx rfl (hb hby d4_34) rfl rfl k) ?_
    refine own_step (S' := (T27.setTop (mkF m 36 #[.val (.long q1), .second, .val (.int (128 : Int32))] [(.long q1), (.ref b27), (.ref b27)]))) (fun _ k => XS.lloadN X27.here hx rfl (hb hby d4_35) rfl k) ?_
    obtain ⟨_, T28, L28, X28, ⟨rfl, N28q, K28⟩, st28⟩ := own_spec (b := b27) (argsL := [(.long q1)]) (rest := [(.ref b27)]) X27 hx hZ rfl hown (hw _ (List.mem_of_getElem? (i := 27) rfl)) (hw _ (List.mem_of_getElem? (i := 28) rfl)) (by decide) (hw _ (List.mem_of_getElem? (i := 30) rfl)) (hw _ (List.mem_of_getElem? (i := 22) rfl)) e27 (hM := rmLI l Z a0 hw [] b27 q1 h27 n0 (Nat.le_trans Z0 E27.1) F_value_b27 A27 g_b27) (g := (mkF m 36 #[.val (.long q1), .second, .val (.int (128 : Int32))] [(.long q1), (.ref b27), (.ref b27)])) (hg := rfl) (hsize := by rw [hml]; rfl) (hlen := lenOf pd_1 rfl) (hstack := rfl) (W := 1) (hW := by show 2 * 0 + _ ≤ _; exact Nat.le_of_eq rfl) (hd := (hb hby d4_36)) (hf := by decide) (hl := by decide) (hc := by decide) (hs := by decide)
    have N28 := Fr.app N0 N28q
    refine own_step (S' := (T28.setTop (mkF m 39 #[.val (.long q1), .second, .val (.int (128 : Int32))] [(.ref b27)]))) (fun _ k => st28 _ k) ?_
    refine own_retA X28 hx hlk hret rfl rfl rfl (hb hby d4_39) (by decide) (by decide) ?_
    exact ⟨b27, rfl, N28, (Keep.trans (Keep.ext (Keep.refl h0 []) E27) K28 (allS (Or.inr szo_b27) all0)), (Exa.keep A27 K28)⟩
  · refine own_step (S' := (s₁.setTop (mkF m 12 #[.val (.long q1), .second, .val (.int (128 : Int32))] []))) (fun _ k => XS.ifNo X0.here hx rfl (hb hby d4_9) rfl ((if0 _ _).trans (flt (fun q => hc26 ((lw_lt q1 (-128 : Int64)).mp q))).1) k) ?_
    refine own_step (S' := (s₁.setTop (mkF m 13 #[.val (.long q1), .second, .val (.int (128 : Int32))] [(.long q1)]))) (fun _ k => XS.lloadN X0.here hx rfl (hb hby d4_12) rfl k) ?_
    refine own_step (S' := (s₁.setTop (mkF m 16 #[.val (.long q1), .second, .val (.int (128 : Int32))] [(.long (127 : Int64)), (.long q1)]))) (fun _ k => X0.ldc2Long hx hown (mvT hZ (hw _ (List.mem_of_getElem? (i := 43) rfl))) (g := (mkF m 13 #[.val (.long q1), .second, .val (.int (128 : Int32))] [(.long q1)])) rfl (hb hby d4_13) _ k) ?_
    refine own_step (S' := (s₁.setTop (mkF m 17 #[.val (.long q1), .second, .val (.int (128 : Int32))] [(.int (lcmpW q1 (127 : Int64)))]))) (fun _ k => XS.lcmp X0.here hx rfl (hb hby d4_16) rfl k) ?_
    by_cases hc29 : (127 : Int64) < q1
    · refine own_step (S' := (s₁.setTop (mkF m 31 #[.val (.long q1), .second, .val (.int (128 : Int32))] []))) (fun _ k => XS.ifYes X0.here hx rfl (pc0 := 17) (pc' := 31) rfl (hb hby d4_17) rfl ((if0 _ _).trans (tlt ((lw_gt q1 (127 : Int64)).mpr hc29)).2.2.1) (by decide) (by decide) k) ?_
      obtain ⟨T30, h30, X30, e30, E30, A30, D30, -, st30⟩ := newO X0 hx hZ hown (hw _ (List.mem_of_getElem? (i := 25) rfl)) (hw _ (List.mem_of_getElem? (i := 26) rfl)) (hw _ (List.mem_of_getElem? (i := 22) rfl)) e0 (g := (mkF m 31 #[.val (.long q1), .second, .val (.int (128 : Int32))] [])) rfl (hb hby d4_31) (by decide) (by decide)
      obtain ⟨b30, g30⟩ : ∃ z, z = h0.size := ⟨_, rfl⟩
      rw [← g30] at A30 D30 st30
      have g_b30 : n0 ≤ b30 := Nat.le_trans Z0 (Nat.le_of_eq g30.symm)
      have szo_b30 : h0.size ≤ b30 := Nat.le_trans (Nat.le_refl h0.size) (Nat.le_of_eq g30.symm)
      have F_value_b30 : Fld Z h30 b30 "java/lang/Long" "value" "J" (.long (0 : Int64)) := D30 (Or.inr (hw _ (List.mem_of_getElem? (i := 39) rfl))) (ty := .long) (by decide)
      refine own_step (S' := (T30.setTop (mkF m 34 #[.val (.long q1), .second, .val (.int (128 : Int32))] [(.ref b30)]))) (fun _ k => st30 _ k) ?_
      refine own_step (S' := (T30.setTop (mkF m 35 #[.val (.long q1), .second, .val (.int (128 : Int32))] [(.ref b30), (.ref b30)]))) (fun _ k => XS.dup X30.here hx rfl (hb hby d4_34) rfl rfl k) ?_
      refine own_step (S' := (T30.setTop (mkF m 36 #[.val (.long q1), .second, .val (.int (128 : Int32))] [(.long q1), (.ref b30), (.ref b30)]))) (fun _ k => XS.lloadN X30.here hx rfl (hb hby d4_35) rfl k) ?_
      obtain ⟨_, T31, L31, X31, ⟨rfl, N31q, K31⟩, st31⟩ := own_spec (b := b30) (argsL := [(.long q1)]) (rest := [(.ref b30)]) X30 hx hZ rfl hown (hw _ (List.mem_of_getElem? (i := 27) rfl)) (hw _ (List.mem_of_getElem? (i := 28) rfl)) (by decide) (hw _ (List.mem_of_getElem? (i := 30) rfl)) (hw _ (List.mem_of_getElem? (i := 22) rfl)) e30 (hM := rmLI l Z a0 hw [] b30 q1 h30 n0 (Nat.le_trans Z0 E30.1) F_value_b30 A30 g_b30) (g := (mkF m 36 #[.val (.long q1), .second, .val (.int (128 : Int32))] [(.long q1), (.ref b30), (.ref b30)])) (hg := rfl) (hsize := by rw [hml]; rfl) (hlen := lenOf pd_1 rfl) (hstack := rfl) (W := 1) (hW := by show 2 * 0 + _ ≤ _; exact Nat.le_of_eq rfl) (hd := (hb hby d4_36)) (hf := by decide) (hl := by decide) (hc := by decide) (hs := by decide)
      have N31 := Fr.app N0 N31q
      refine own_step (S' := (T31.setTop (mkF m 39 #[.val (.long q1), .second, .val (.int (128 : Int32))] [(.ref b30)]))) (fun _ k => st31 _ k) ?_
      refine own_retA X31 hx hlk hret rfl rfl rfl (hb hby d4_39) (by decide) (by decide) ?_
      exact ⟨b30, rfl, N31, (Keep.trans (Keep.ext (Keep.refl h0 []) E30) K31 (allS (Or.inr szo_b30) all0)), (Exa.keep A30 K31)⟩
    · refine own_step (S' := (s₁.setTop (mkF m 20 #[.val (.long q1), .second, .val (.int (128 : Int32))] []))) (fun _ k => XS.ifNo X0.here hx rfl (hb hby d4_17) rfl ((if0 _ _).trans (flt (fun q => hc29 ((lw_gt q1 (127 : Int64)).mp q))).2.2.1) k) ?_
      obtain ⟨T32, X32, e32, st32⟩ := getS2 X0 hx hZ hown (host := "") (Or.inl (hw _ (List.mem_of_getElem? (i := 44) rfl))) Via.refl e0 C.1 (g := (mkF m 20 #[.val (.long q1), .second, .val (.int (128 : Int32))] [])) rfl (hb hby d4_20)
      refine own_step (S' := (T32.setTop (mkF m 23 #[.val (.long q1), .second, .val (.int (128 : Int32))] [(.ref ca)]))) (fun _ k => st32 _ k) ?_
      refine own_step (S' := (T32.setTop (mkF m 24 #[.val (.long q1), .second, .val (.int (128 : Int32))] [(.long q1), (.ref ca)]))) (fun _ k => XS.lloadN X32.here hx rfl (hb hby d4_23) rfl k) ?_
      refine own_step (S' := (T32.setTop (mkF m 25 #[.val (.long q1), .second, .val (.int (128 : Int32))] [(.int (q1.toInt32)), (.ref ca)]))) (fun _ k => XS.l2i X32.here hx rfl (hb hby d4_24) rfl k) ?_
      refine own_step (S' := (T32.setTop (mkF m 28 #[.val (.long q1), .second, .val (.int (128 : Int32))] [(.int (128 : Int32)), (.int (q1.toInt32)), (.ref ca)]))) (fun _ k => XS.sipush X32.here hx rfl (hb hby d4_25) k) ?_
      refine own_step (S' := (T32.setTop (mkF m 29 #[.val (.long q1), .second, .val (.int (128 : Int32))] [(.int ((q1.toInt32) + (128 : Int32))), (.ref ca)]))) (fun _ k => XS.iadd X32.here hx rfl (hb hby d4_28) rfl k) ?_
      obtain ⟨Sc, cl, Ar, hsz, hall⟩ := C
      obtain ⟨hneg, hlt⟩ := own_inCache hc26 hc29
      have hin : ¬ (((q1.toInt32) + (128 : Int32)) < 0 ∨ cl.slots.size ≤ (((q1.toInt32) + (128 : Int32))).toNatClampNeg) := by rw [hsz]; exact fun q => q.elim hneg (fun u => absurd hlt (Nat.not_lt.mpr u))
      obtain ⟨y, hat, Ey⟩ := hall _ hin
      refine own_step (S' := (T32.setTop (mkF m 30 #[.val (.long q1), .second, .val (.int (128 : Int32))] [(.ref y)]))) (fun _ k => X32.aaload hx (j := ((q1.toInt32) + (128 : Int32))) (v := (.ref y)) (by rw [e32]; exact Ar.1) (State.isArrayOf_alike hZ.alike Ar.2.1) rfl Ar.2.2 hin hat (g := (mkF m 29 #[.val (.long q1), .second, .val (.int (128 : Int32))] [(.int ((q1.toInt32) + (128 : Int32))), (.ref ca)])) rfl rfl (hb hby d4_29) _ k) ?_
      refine own_retA X32 hx hlk hret rfl rfl rfl (hb hby d4_30) (by decide) (by decide) ?_
      try rw [e32]
      exact ⟨y, rfl, N0, Keep.refl h0 [], Ey⟩
theorem own_cacheKeep {Z : State} {h h' : Heap} {ca : Addr} (C : own_Cache Z h ca) (K : Keep h h' []) : own_Cache Z h' ca := by
  obtain ⟨S, cl, A, hs, hall⟩ := C
  refine ⟨own_staKeep S K all0, cl, ⟨K.2.1 _ _ A.1 nin0, A.2⟩, hs, fun i hi => ?_⟩
  obtain ⟨y, h1, h2⟩ := hall i hi
  exact ⟨y, h1, h2.keep K⟩
theorem own_m4 (p5 : Int32) : (((p5.toUInt32 >>> ((2 : Int32) &&& 31).toUInt32).toInt32) &&& (3 : Int32)) = (0 : Int32) ∨ (((p5.toUInt32 >>> ((2 : Int32) &&& 31).toUInt32).toInt32) &&& (3 : Int32)) = (1 : Int32) ∨ (((p5.toUInt32 >>> ((2 : Int32) &&& 31).toUInt32).toInt32) &&& (3 : Int32)) = (2 : Int32) ∨ (((p5.toUInt32 >>> ((2 : Int32) &&& 31).toUInt32).toInt32) &&& (3 : Int32)) = (3 : Int32) := by
  have h1 := c_mask ((p5.toUInt32 >>> ((2 : Int32) &&& 31).toUInt32).toInt32) 3 2 (by decide) (by decide)
  simp only [← Int32.toInt_inj]
  have e0 : (0 : Int32).toInt = 0 := by decide
  have e1 : (1 : Int32).toInt = 1 := by decide
  have e2 : (2 : Int32).toInt = 2 := by decide
  have e3 : (3 : Int32).toInt = 3 := by decide
  rw [e0, e1, e2, e3]
  omega
theorem pn_3 : plainName "com/example/leith/leith/migration/PageRangeEqualsPinLaw" = true := by first | (simp [plainName, overriddenIn]; done) | decide +kernel
theorem pd_2 : parseMethodDescriptor "(JJ)V" = some ⟨[.long, .long], none⟩ := by decide +kernel
theorem pd_3 : parseMethodDescriptor "(Ljava/lang/Object;)Z" = some ⟨[(.object "java/lang/Object")], some .boolean⟩ := by decide +kernel
theorem pd_4 : parseMethodDescriptor "(J)Ljava/lang/Long;" = some ⟨[.long], some (.object "java/lang/Long")⟩ := by decide +kernel
set_option maxRecDepth 65536 in
set_option maxHeartbeats 40000000 in
theorem rm0 (l : Launch) (Z : State) (a0 : Array Value) (hw : ∀ d ∈ tables_1, d.before a0 Z = true) (ws : List Jvm.Cond) (ca : Addr) (q1 : Int64) (q2 : Int64) (q3 : Int64) (q4 : Int64) (p5 : Int32) (h0 : Heap) (n0 : Nat) (Z0 : n0 ≤ h0.size) (C : own_Cache Z h0 ca) :
    own_Met l x code maxLocals ret ws room_1 Z #[(.long q1), (.long q2), (.long q3), (.long q4), (.int p5)] h0 (fun v h L => v = some (.int 1) ∧ Fr n0 L) := by
  refine own_body (plainFor_of_name pn_3) ?_
  intro p e s m below meth c s₁ X0 hx hby hml hown hnm hret hlk hZ e0
  replace hown : s.vm.findClass "com/example/leith/leith/migration/PageRangeEqualsPinLaw" = some m.cls := hown
  replace hml : c.maxLocals = 20 := hml
  replace hret : meth.sig.returnType = (some .boolean) := hret
  have N0 := Fr.nil n0
  have ef : entryFrame m #[(.long q1), (.long q2), (.long q3), (.long q4), (.int p5)] maxLocals = mkF m 0 #[.val (.long q1), .second, .val (.long q2), .second, .val (.long q3), .second, .val (.long q4), .second, .val (.int p5), .unset, .unset, .unset, .unset, .unset, .unset, .unset, .unset, .unset, .unset, .unset] [] := by first | (simp [entryFrame, mkF, argsToLocals, Value.category, maxLocals]; done) | rfl
  refine own_step (S' := (s₁.setTop (mkF m 0 #[.val (.long q1), .second, .val (.long q2), .second, .val (.long q3), .second, .val (.long q4), .second, .val (.int p5), .unset, .unset, .unset, .unset, .unset, .unset, .unset, .unset, .unset, .unset, .unset] []))) (fun _ k => castTop ef k) ?_
  obtain ⟨g, g_y, g_n⟩ : ∃ z : Int64, ((p5 &&& (1 : Int32)) = (0 : Int32) → z = q3) ∧ (¬ ((p5 &&& (1 : Int32)) = (0 : Int32)) → z = q1) := own_ite _ _ _
  refine own_step (S' := (s₁.setTop (mkF m 13 #[.val (.long q1), .second, .val (.long q2), .second, .val (.long q3), .second, .val (.long q4), .second, .val (.int p5), .unset, .unset, .unset, .unset, .unset, .unset, .unset, .unset, .unset, .unset, .unset] [(.long g)]))) (fun _ k => ?_) ?_
  · show Steps p.tables e below (s₁.setTop (mkF m 0 #[.val (.long q1), .second, .val (.long q2), .second, .val (.long q3), .second, .val (.long q4), .second, .val (.int p5), .unset, .unset, .unset, .unset, .unset, .unset, .unset, .unset, .unset, .unset, .unset] [])) _
    refine XS.iload X0.here hx rfl (hb hby at_0) rfl ?_
    show Steps p.tables e below (s₁.setTop (mkF m 2 #[.val (.long q1), .second, .val (.long q2), .second, .val (.long q3), .second, .val (.long q4), .second, .val (.int p5), .unset, .unset, .unset, .unset, .unset, .unset, .unset, .unset, .unset, .unset, .unset] [(.int p5)])) _
    refine XS.iconst X0.here hx rfl (hb hby at_2) ?_
    show Steps p.tables e below (s₁.setTop (mkF m 3 #[.val (.long q1), .second, .val (.long q2), .second, .val (.long q3), .second, .val (.long q4), .second, .val (.int p5), .unset, .unset, .unset, .unset, .unset, .unset, .unset, .unset, .unset, .unset, .unset] [(.int (1 : Int32)), (.int p5)])) _
    refine XS.iand X0.here hx rfl (hb hby at_3) rfl ?_
    show Steps p.tables e below (s₁.setTop (mkF m 4 #[.val (.long q1), .second, .val (.long q2), .second, .val (.long q3), .second, .val (.long q4), .second, .val (.int p5), .unset, .unset, .unset, .unset, .unset, .unset, .unset, .unset, .unset, .unset, .unset] [(.int (p5 &&& (1 : Int32)))])) _
    by_cases hc33 : (p5 &&& (1 : Int32)) = (0 : Int32)
    · refine XS.ifYes X0.here hx rfl (pc0 := 4) (pc' := 11) rfl (hb hby at_4) rfl ((if0 _ _).trans (teq hc33).1) (by decide) (by decide) ?_
      show Steps p.tables e below (s₁.setTop (mkF m 11 #[.val (.long q1), .second, .val (.long q2), .second, .val (.long q3), .second, .val (.long q4), .second, .val (.int p5), .unset, .unset, .unset, .unset, .unset, .unset, .unset, .unset, .unset, .unset, .unset] [])) _
      refine XS.lload X0.here hx rfl (hb hby at_11) rfl ?_
      show Steps p.tables e below (s₁.setTop (mkF m 13 #[.val (.long q1), .second, .val (.long q2), .second, .val (.long q3), .second, .val (.long q4), .second, .val (.int p5), .unset, .unset, .unset, .unset, .unset, .unset, .unset, .unset, .unset, .unset, .unset] [(.long q3)])) _
      rw [g_y hc33] at k
      exact k
    · refine XS.ifNo X0.here hx rfl (hb hby at_4) rfl ((if0 _ _).trans (feq hc33).1) ?_
      show Steps p.tables e below (s₁.setTop (mkF m 7 #[.val (.long q1), .second, .val (.long q2), .second, .val (.long q3), .second, .val (.long q4), .second, .val (.int p5), .unset, .unset, .unset, .unset, .unset, .unset, .unset, .unset, .unset, .unset, .unset] [])) _
      refine XS.lloadN X0.here hx rfl (hb hby at_7) rfl ?_
      show Steps p.tables e below (s₁.setTop (mkF m 8 #[.val (.long q1), .second, .val (.long q2), .second, .val (.long q3), .second, .val (.long q4), .second, .val (.int p5), .unset, .unset, .unset, .unset, .unset, .unset, .unset, .unset, .unset, .unset, .unset] [(.long q1)])) _
      refine XS.goto X0.here hx rfl (pc0 := 8) (pc' := 13) rfl (hb hby at_8) (by decide) (by decide) ?_
      show Steps p.tables e below (s₁.setTop (mkF m 13 #[.val (.long q1), .second, .val (.long q2), .second, .val (.long q3), .second, .val (.long q4), .second, .val (.int p5), .unset, .unset, .unset, .unset, .unset, .unset, .unset, .unset, .unset, .unset, .unset] [(.long q1)])) _
      rw [g_n hc33] at k
      exact k
  refine own_step (S' := (s₁.setTop (mkF m 15 #[.val (.long q1), .second, .val (.long q2), .second, .val (.long q3), .second, .val (.long q4), .second, .val (.int p5), .val (.long g), .second, .unset, .unset, .unset, .unset, .unset, .unset, .unset, .unset, .unset] []))) (fun _ k => XS.lstore X0.here hx rfl (hb hby at_13) rfl (l' := #[.val (.long q1), .second, .val (.long q2), .second, .val (.long q3), .second, .val (.long q4), .second, .val (.int p5), .val (.long g), .second, .unset, .unset, .unset, .unset, .unset, .unset, .unset, .unset, .unset]) rfl k) ?_
  obtain ⟨e2, e2_y, e2_n⟩ : ∃ z : Int64, ((p5 &&& (2 : Int32)) = (0 : Int32) → z = q4) ∧ (¬ ((p5 &&& (2 : Int32)) = (0 : Int32)) → z = q2) := own_ite _ _ _
  refine own_step (S' := (s₁.setTop (mkF m 28 #[.val (.long q1), .second, .val (.long q2), .second, .val (.long q3), .second, .val (.long q4), .second, .val (.int p5), .val (.long g), .second, .unset, .unset, .unset, .unset, .unset, .unset, .unset, .unset, .unset] [(.long e2)]))) (fun _ k => ?_) ?_
  · show Steps p.tables e below (s₁.setTop (mkF m 15 #[.val (.long q1), .second, .val (.long q2), .second, .val (.long q3), .second, .val (.long q4), .second, .val (.int p5), .val (.long g), .second, .unset, .unset, .unset, .unset, .unset, .unset, .unset, .unset, .unset] [])) _
    refine XS.iload X0.here hx rfl (hb hby at_15) rfl ?_
    show Steps p.tables e below (s₁.setTop (mkF m 17 #[.val (.long q1), .second, .val (.long q2), .second, .val (.long q3), .second, .val (.long q4), .second, .val (.int p5), .val (.long g), .second, .unset, .unset, .unset, .unset, .unset, .unset, .unset, .unset, .unset] [(.int p5)])) _
    refine XS.iconst X0.here hx rfl (hb hby at_17) ?_
    show Steps p.tables e below (s₁.setTop (mkF m 18 #[.val (.long q1), .second, .val (.long q2), .second, .val (.long q3), .second, .val (.long q4), .second, .val (.int p5), .val (.long g), .second, .unset, .unset, .unset, .unset, .unset, .unset, .unset, .unset, .unset] [(.int (2 : Int32)), (.int p5)])) _
    refine XS.iand X0.here hx rfl (hb hby at_18) rfl ?_
    show Steps p.tables e below (s₁.setTop (mkF m 19 #[.val (.long q1), .second, .val (.long q2), .second, .val (.long q3), .second, .val (.long q4), .second, .val (.int p5), .val (.long g), .second, .unset, .unset, .unset, .unset, .unset, .unset, .unset, .unset, .unset] [(.int (p5 &&& (2 : Int32)))])) _
    by_cases hc34 : (p5 &&& (2 : Int32)) = (0 : Int32)
    · refine XS.ifYes X0.here hx rfl (pc0 := 19) (pc' := 26) rfl (hb hby at_19) rfl ((if0 _ _).trans (teq hc34).1) (by decide) (by decide) ?_
      show Steps p.tables e below (s₁.setTop (mkF m 26 #[.val (.long q1), .second, .val (.long q2), .second, .val (.long q3), .second, .val (.long q4), .second, .val (.int p5), .val (.long g), .second, .unset, .unset, .unset, .unset, .unset, .unset, .unset, .unset, .unset] [])) _
      refine XS.lload X0.here hx rfl (hb hby at_26) rfl ?_
      show Steps p.tables e below (s₁.setTop (mkF m 28 #[.val (.long q1), .second, .val (.long q2), .second, .val (.long q3), .second, .val (.long q4), .second, .val (.int p5), .val (.long g), .second, .unset, .unset, .unset, .unset, .unset, .unset, .unset, .unset, .unset] [(.long q4)])) _
      rw [e2_y hc34] at k
      exact k
    · refine XS.ifNo X0.here hx rfl (hb hby at_19) rfl ((if0 _ _).trans (feq hc34).1) ?_
      show Steps p.tables e below (s₁.setTop (mkF m 22 #[.val (.long q1), .second, .val (.long q2), .second, .val (.long q3), .second, .val (.long q4), .second, .val (.int p5), .val (.long g), .second, .unset, .unset, .unset, .unset, .unset, .unset, .unset, .unset, .unset] [])) _
      refine XS.lloadN X0.here hx rfl (hb hby at_22) rfl ?_
      show Steps p.tables e below (s₁.setTop (mkF m 23 #[.val (.long q1), .second, .val (.long q2), .second, .val (.long q3), .second, .val (.long q4), .second, .val (.int p5), .val (.long g), .second, .unset, .unset, .unset, .unset, .unset, .unset, .unset, .unset, .unset] [(.long q2)])) _
      refine XS.goto X0.here hx rfl (pc0 := 23) (pc' := 28) rfl (hb hby at_23) (by decide) (by decide) ?_
      show Steps p.tables e below (s₁.setTop (mkF m 28 #[.val (.long q1), .second, .val (.long q2), .second, .val (.long q3), .second, .val (.long q4), .second, .val (.int p5), .val (.long g), .second, .unset, .unset, .unset, .unset, .unset, .unset, .unset, .unset, .unset] [(.long q2)])) _
      rw [e2_n hc34] at k
      exact k
  refine own_step (S' := (s₁.setTop (mkF m 30 #[.val (.long q1), .second, .val (.long q2), .second, .val (.long q3), .second, .val (.long q4), .second, .val (.int p5), .val (.long g), .second, .val (.long e2), .second, .unset, .unset, .unset, .unset, .unset, .unset, .unset] []))) (fun _ k => XS.lstore X0.here hx rfl (hb hby at_28) rfl (l' := #[.val (.long q1), .second, .val (.long q2), .second, .val (.long q3), .second, .val (.long q4), .second, .val (.int p5), .val (.long g), .second, .val (.long e2), .second, .unset, .unset, .unset, .unset, .unset, .unset, .unset]) rfl k) ?_
  obtain ⟨T35, h35, X35, e35, E35, A35, D35, -, st35⟩ := newO X0 hx hZ hown (hw _ (List.mem_of_getElem? (i := 0) rfl)) (hw _ (List.mem_of_getElem? (i := 1) rfl)) (hw _ (List.mem_of_getElem? (i := 2) rfl)) e0 (g := (mkF m 30 #[.val (.long q1), .second, .val (.long q2), .second, .val (.long q3), .second, .val (.long q4), .second, .val (.int p5), .val (.long g), .second, .val (.long e2), .second, .unset, .unset, .unset, .unset, .unset, .unset, .unset] [])) rfl (hb hby at_30) (by decide) (by decide)
  obtain ⟨b35, g35⟩ : ∃ z, z = h0.size := ⟨_, rfl⟩
  rw [← g35] at A35 D35 st35
  have g_b35 : n0 ≤ b35 := Nat.le_trans Z0 (Nat.le_of_eq g35.symm)
  have szo_b35 : h0.size ≤ b35 := Nat.le_trans (Nat.le_refl h0.size) (Nat.le_of_eq g35.symm)
  have F_first_b35 : Fld Z h35 b35 "com/example/leith/leith/migration/PageRange" "first" "J" (.long (0 : Int64)) := D35 (Or.inr (hw _ (List.mem_of_getElem? (i := 10) rfl))) (ty := .long) (by decide)
  have F_end_b35 : Fld Z h35 b35 "com/example/leith/leith/migration/PageRange" "end" "J" (.long (0 : Int64)) := D35 (Or.inr (hw _ (List.mem_of_getElem? (i := 12) rfl))) (ty := .long) (by decide)
  refine own_step (S' := (T35.setTop (mkF m 33 #[.val (.long q1), .second, .val (.long q2), .second, .val (.long q3), .second, .val (.long q4), .second, .val (.int p5), .val (.long g), .second, .val (.long e2), .second, .unset, .unset, .unset, .unset, .unset, .unset, .unset] [(.ref b35)]))) (fun _ k => st35 _ k) ?_
  refine own_step (S' := (T35.setTop (mkF m 34 #[.val (.long q1), .second, .val (.long q2), .second, .val (.long q3), .second, .val (.long q4), .second, .val (.int p5), .val (.long g), .second, .val (.long e2), .second, .unset, .unset, .unset, .unset, .unset, .unset, .unset] [(.ref b35), (.ref b35)]))) (fun _ k => XS.dup X35.here hx rfl (hb hby at_33) rfl rfl k) ?_
  refine own_step (S' := (T35.setTop (mkF m 35 #[.val (.long q1), .second, .val (.long q2), .second, .val (.long q3), .second, .val (.long q4), .second, .val (.int p5), .val (.long g), .second, .val (.long e2), .second, .unset, .unset, .unset, .unset, .unset, .unset, .unset] [(.long q1), (.ref b35), (.ref b35)]))) (fun _ k => XS.lloadN X35.here hx rfl (hb hby at_34) rfl k) ?_
  refine own_step (S' := (T35.setTop (mkF m 36 #[.val (.long q1), .second, .val (.long q2), .second, .val (.long q3), .second, .val (.long q4), .second, .val (.int p5), .val (.long g), .second, .val (.long e2), .second, .unset, .unset, .unset, .unset, .unset, .unset, .unset] [(.long q2), (.long q1), (.ref b35), (.ref b35)]))) (fun _ k => XS.lloadN X35.here hx rfl (hb hby at_35) rfl k) ?_
  obtain ⟨_, T36, L36, X36, ⟨rfl, N36q, K36, Ff36, Fe36⟩, st36⟩ := own_spec (b := b35) (argsL := [(.long q1), (.long q2)]) (rest := [(.ref b35)]) X35 hx hZ rfl hown (hw _ (List.mem_of_getElem? (i := 3) rfl)) (hw _ (List.mem_of_getElem? (i := 4) rfl)) (by decide) (hw _ (List.mem_of_getElem? (i := 5) rfl)) (hw _ (List.mem_of_getElem? (i := 2) rfl)) e35 (hM := rmI l Z a0 hw [] b35 q1 q2 h35 n0 (Nat.le_trans Z0 E35.1) F_first_b35 F_end_b35 A35 g_b35) (g := (mkF m 36 #[.val (.long q1), .second, .val (.long q2), .second, .val (.long q3), .second, .val (.long q4), .second, .val (.int p5), .val (.long g), .second, .val (.long e2), .second, .unset, .unset, .unset, .unset, .unset, .unset, .unset] [(.long q2), (.long q1), (.ref b35), (.ref b35)])) (hg := rfl) (hsize := by rw [hml]; rfl) (hlen := lenOf pd_2 rfl) (hstack := rfl) (W := 1) (hW := by show 2 * 0 + _ ≤ _; exact Nat.le_of_eq rfl) (hd := (hb hby at_36)) (hf := by decide) (hl := by decide) (hc := by decide) (hs := by decide)
  have N36 := Fr.app N0 N36q
  refine own_step (S' := (T36.setTop (mkF m 39 #[.val (.long q1), .second, .val (.long q2), .second, .val (.long q3), .second, .val (.long q4), .second, .val (.int p5), .val (.long g), .second, .val (.long e2), .second, .unset, .unset, .unset, .unset, .unset, .unset, .unset] [(.ref b35)]))) (fun _ k => st36 _ k) ?_
  refine own_step (S' := (T36.setTop (mkF m 41 #[.val (.long q1), .second, .val (.long q2), .second, .val (.long q3), .second, .val (.long q4), .second, .val (.int p5), .val (.long g), .second, .val (.long e2), .second, .val (.ref b35), .unset, .unset, .unset, .unset, .unset, .unset] []))) (fun _ k => XS.astore X36.here hx rfl (hb hby at_39) rfl rfl (l' := #[.val (.long q1), .second, .val (.long q2), .second, .val (.long q3), .second, .val (.long q4), .second, .val (.int p5), .val (.long g), .second, .val (.long e2), .second, .val (.ref b35), .unset, .unset, .unset, .unset, .unset, .unset]) rfl k) ?_
  obtain ⟨T37, h37, X37, e37, E37, A37, D37, -, st37⟩ := newO X36 hx hZ hown (hw _ (List.mem_of_getElem? (i := 0) rfl)) (hw _ (List.mem_of_getElem? (i := 1) rfl)) (hw _ (List.mem_of_getElem? (i := 2) rfl)) rfl (g := (mkF m 41 #[.val (.long q1), .second, .val (.long q2), .second, .val (.long q3), .second, .val (.long q4), .second, .val (.int p5), .val (.long g), .second, .val (.long e2), .second, .val (.ref b35), .unset, .unset, .unset, .unset, .unset, .unset] [])) rfl (hb hby at_41) (by decide) (by decide)
  obtain ⟨b37, g37⟩ : ∃ z, z = T36.heap.size := ⟨_, rfl⟩
  rw [← g37] at A37 D37 st37
  have g_b37 : n0 ≤ b37 := Nat.le_trans (Nat.le_trans (Nat.le_trans Z0 E35.1) K36.1) (Nat.le_of_eq g37.symm)
  have szo_b37 : h0.size ≤ b37 := Nat.le_trans (Nat.le_trans (Nat.le_trans (Nat.le_refl h0.size) E35.1) K36.1) (Nat.le_of_eq g37.symm)
  have F_first_b37 : Fld Z h37 b37 "com/example/leith/leith/migration/PageRange" "first" "J" (.long (0 : Int64)) := D37 (Or.inr (hw _ (List.mem_of_getElem? (i := 10) rfl))) (ty := .long) (by decide)
  have F_end_b37 : Fld Z h37 b37 "com/example/leith/leith/migration/PageRange" "end" "J" (.long (0 : Int64)) := D37 (Or.inr (hw _ (List.mem_of_getElem? (i := 12) rfl))) (ty := .long) (by decide)
  refine own_step (S' := (T37.setTop (mkF m 44 #[.val (.long q1), .second, .val (.long q2), .second, .val (.long q3), .second, .val (.long q4), .second, .val (.int p5), .val (.long g), .second, .val (.long e2), .second, .val (.ref b35), .unset, .unset, .unset, .unset, .unset, .unset] [(.ref b37)]))) (fun _ k => st37 _ k) ?_
  refine own_step (S' := (T37.setTop (mkF m 45 #[.val (.long q1), .second, .val (.long q2), .second, .val (.long q3), .second, .val (.long q4), .second, .val (.int p5), .val (.long g), .second, .val (.long e2), .second, .val (.ref b35), .unset, .unset, .unset, .unset, .unset, .unset] [(.ref b37), (.ref b37)]))) (fun _ k => XS.dup X37.here hx rfl (hb hby at_44) rfl rfl k) ?_
  refine own_step (S' := (T37.setTop (mkF m 47 #[.val (.long q1), .second, .val (.long q2), .second, .val (.long q3), .second, .val (.long q4), .second, .val (.int p5), .val (.long g), .second, .val (.long e2), .second, .val (.ref b35), .unset, .unset, .unset, .unset, .unset, .unset] [(.long g), (.ref b37), (.ref b37)]))) (fun _ k => XS.lload X37.here hx rfl (hb hby at_45) rfl k) ?_
  refine own_step (S' := (T37.setTop (mkF m 49 #[.val (.long q1), .second, .val (.long q2), .second, .val (.long q3), .second, .val (.long q4), .second, .val (.int p5), .val (.long g), .second, .val (.long e2), .second, .val (.ref b35), .unset, .unset, .unset, .unset, .unset, .unset] [(.long e2), (.long g), (.ref b37), (.ref b37)]))) (fun _ k => XS.lload X37.here hx rfl (hb hby at_47) rfl k) ?_
  obtain ⟨_, T38, L38, X38, ⟨rfl, N38q, K38, Ff38, Fe38⟩, st38⟩ := own_spec (b := b37) (argsL := [(.long g), (.long e2)]) (rest := [(.ref b37)]) X37 hx hZ rfl hown (hw _ (List.mem_of_getElem? (i := 3) rfl)) (hw _ (List.mem_of_getElem? (i := 4) rfl)) (by decide) (hw _ (List.mem_of_getElem? (i := 5) rfl)) (hw _ (List.mem_of_getElem? (i := 2) rfl)) e37 (hM := rmI l Z a0 hw [] b37 g e2 h37 n0 (Nat.le_trans (Nat.le_trans (Nat.le_trans Z0 E35.1) K36.1) E37.1) F_first_b37 F_end_b37 A37 g_b37) (g := (mkF m 49 #[.val (.long q1), .second, .val (.long q2), .second, .val (.long q3), .second, .val (.long q4), .second, .val (.int p5), .val (.long g), .second, .val (.long e2), .second, .val (.ref b35), .unset, .unset, .unset, .unset, .unset, .unset] [(.long e2), (.long g), (.ref b37), (.ref b37)])) (hg := rfl) (hsize := by rw [hml]; rfl) (hlen := lenOf pd_2 rfl) (hstack := rfl) (W := 1) (hW := by show 2 * 0 + _ ≤ _; exact Nat.le_of_eq rfl) (hd := (hb hby at_49)) (hf := by decide) (hl := by decide) (hc := by decide) (hs := by decide)
  have N38 := Fr.app N36 N38q
  refine own_step (S' := (T38.setTop (mkF m 52 #[.val (.long q1), .second, .val (.long q2), .second, .val (.long q3), .second, .val (.long q4), .second, .val (.int p5), .val (.long g), .second, .val (.long e2), .second, .val (.ref b35), .unset, .unset, .unset, .unset, .unset, .unset] [(.ref b37)]))) (fun _ k => st38 _ k) ?_
  refine own_step (S' := (T38.setTop (mkF m 54 #[.val (.long q1), .second, .val (.long q2), .second, .val (.long q3), .second, .val (.long q4), .second, .val (.int p5), .val (.long g), .second, .val (.long e2), .second, .val (.ref b35), .val (.ref b37), .unset, .unset, .unset, .unset, .unset] []))) (fun _ k => XS.astore X38.here hx rfl (hb hby at_52) rfl rfl (l' := #[.val (.long q1), .second, .val (.long q2), .second, .val (.long q3), .second, .val (.long q4), .second, .val (.int p5), .val (.long g), .second, .val (.long e2), .second, .val (.ref b35), .val (.ref b37), .unset, .unset, .unset, .unset, .unset]) rfl k) ?_
  refine own_step (S' := (T38.setTop (mkF m 55 #[.val (.long q1), .second, .val (.long q2), .second, .val (.long q3), .second, .val (.long q4), .second, .val (.int p5), .val (.long g), .second, .val (.long e2), .second, .val (.ref b35), .val (.ref b37), .unset, .unset, .unset, .unset, .unset] [(.long q1)]))) (fun _ k => XS.lloadN X38.here hx rfl (hb hby at_54) rfl k) ?_
  refine own_step (S' := (T38.setTop (mkF m 57 #[.val (.long q1), .second, .val (.long q2), .second, .val (.long q3), .second, .val (.long q4), .second, .val (.int p5), .val (.long g), .second, .val (.long e2), .second, .val (.ref b35), .val (.ref b37), .unset, .unset, .unset, .unset, .unset] [(.long g), (.long q1)]))) (fun _ k => XS.lload X38.here hx rfl (hb hby at_55) rfl k) ?_
  refine own_step (S' := (T38.setTop (mkF m 58 #[.val (.long q1), .second, .val (.long q2), .second, .val (.long q3), .second, .val (.long q4), .second, .val (.int p5), .val (.long g), .second, .val (.long e2), .second, .val (.ref b35), .val (.ref b37), .unset, .unset, .unset, .unset, .unset] [(.int (lcmpW q1 g))]))) (fun _ k => XS.lcmp X38.here hx rfl (hb hby at_57) rfl k) ?_
  by_cases hc39 : q1 = g
  · refine own_step (S' := (T38.setTop (mkF m 61 #[.val (.long q1), .second, .val (.long q2), .second, .val (.long q3), .second, .val (.long q4), .second, .val (.int p5), .val (.long g), .second, .val (.long e2), .second, .val (.ref b35), .val (.ref b37), .unset, .unset, .unset, .unset, .unset] []))) (fun _ k => XS.ifNo X38.here hx rfl (hb hby at_58) rfl ((if0 _ _).trans (teq ((lw_eq q1 g).mpr hc39)).2) k) ?_
    refine own_step (S' := (T38.setTop (mkF m 62 #[.val (.long q1), .second, .val (.long q2), .second, .val (.long q3), .second, .val (.long q4), .second, .val (.int p5), .val (.long g), .second, .val (.long e2), .second, .val (.ref b35), .val (.ref b37), .unset, .unset, .unset, .unset, .unset] [(.long q2)]))) (fun _ k => XS.lloadN X38.here hx rfl (hb hby at_61) rfl k) ?_
    refine own_step (S' := (T38.setTop (mkF m 64 #[.val (.long q1), .second, .val (.long q2), .second, .val (.long q3), .second, .val (.long q4), .second, .val (.int p5), .val (.long g), .second, .val (.long e2), .second, .val (.ref b35), .val (.ref b37), .unset, .unset, .unset, .unset, .unset] [(.long e2), (.long q2)]))) (fun _ k => XS.lload X38.here hx rfl (hb hby at_62) rfl k) ?_
    refine own_step (S' := (T38.setTop (mkF m 65 #[.val (.long q1), .second, .val (.long q2), .second, .val (.long q3), .second, .val (.long q4), .second, .val (.int p5), .val (.long g), .second, .val (.long e2), .second, .val (.ref b35), .val (.ref b37), .unset, .unset, .unset, .unset, .unset] [(.int (lcmpW q2 e2))]))) (fun _ k => XS.lcmp X38.here hx rfl (hb hby at_64) rfl k) ?_
    by_cases hc40 : q2 = e2
    · refine own_step (S' := (T38.setTop (mkF m 68 #[.val (.long q1), .second, .val (.long q2), .second, .val (.long q3), .second, .val (.long q4), .second, .val (.int p5), .val (.long g), .second, .val (.long e2), .second, .val (.ref b35), .val (.ref b37), .unset, .unset, .unset, .unset, .unset] []))) (fun _ k => XS.ifNo X38.here hx rfl (hb hby at_65) rfl ((if0 _ _).trans (teq ((lw_eq q2 e2).mpr hc40)).2) k) ?_
      refine own_step (S' := (T38.setTop (mkF m 69 #[.val (.long q1), .second, .val (.long q2), .second, .val (.long q3), .second, .val (.long q4), .second, .val (.int p5), .val (.long g), .second, .val (.long e2), .second, .val (.ref b35), .val (.ref b37), .unset, .unset, .unset, .unset, .unset] [(.int (1 : Int32))]))) (fun _ k => XS.iconst X38.here hx rfl (hb hby at_68) k) ?_
      refine own_step (S' := (T38.setTop (mkF m 73 #[.val (.long q1), .second, .val (.long q2), .second, .val (.long q3), .second, .val (.long q4), .second, .val (.int p5), .val (.long g), .second, .val (.long e2), .second, .val (.ref b35), .val (.ref b37), .unset, .unset, .unset, .unset, .unset] [(.int (1 : Int32))]))) (fun _ k => XS.goto X38.here hx rfl (pc0 := 69) (pc' := 73) rfl (hb hby at_69) (by decide) (by decide) k) ?_
      refine own_step (S' := (T38.setTop (mkF m 75 #[.val (.long q1), .second, .val (.long q2), .second, .val (.long q3), .second, .val (.long q4), .second, .val (.int p5), .val (.long g), .second, .val (.long e2), .second, .val (.ref b35), .val (.ref b37), .val (.int (1 : Int32)), .unset, .unset, .unset, .unset] []))) (fun _ k => XS.istore X38.here hx rfl (hb hby at_73) rfl (l' := #[.val (.long q1), .second, .val (.long q2), .second, .val (.long q3), .second, .val (.long q4), .second, .val (.int p5), .val (.long g), .second, .val (.long e2), .second, .val (.ref b35), .val (.ref b37), .val (.int (1 : Int32)), .unset, .unset, .unset, .unset]) rfl k) ?_
      refine own_step (S' := (T38.setTop (mkF m 77 #[.val (.long q1), .second, .val (.long q2), .second, .val (.long q3), .second, .val (.long q4), .second, .val (.int p5), .val (.long g), .second, .val (.long e2), .second, .val (.ref b35), .val (.ref b37), .val (.int (1 : Int32)), .unset, .unset, .unset, .unset] [(.int p5)]))) (fun _ k => XS.iload X38.here hx rfl (hb hby at_75) rfl k) ?_
      refine own_step (S' := (T38.setTop (mkF m 78 #[.val (.long q1), .second, .val (.long q2), .second, .val (.long q3), .second, .val (.long q4), .second, .val (.int p5), .val (.long g), .second, .val (.long e2), .second, .val (.ref b35), .val (.ref b37), .val (.int (1 : Int32)), .unset, .unset, .unset, .unset] [(.int (2 : Int32)), (.int p5)]))) (fun _ k => XS.iconst X38.here hx rfl (hb hby at_77) k) ?_
      refine own_step (S' := (T38.setTop (mkF m 79 #[.val (.long q1), .second, .val (.long q2), .second, .val (.long q3), .second, .val (.long q4), .second, .val (.int p5), .val (.long g), .second, .val (.long e2), .second, .val (.ref b35), .val (.ref b37), .val (.int (1 : Int32)), .unset, .unset, .unset, .unset] [(.int ((p5.toUInt32 >>> ((2 : Int32) &&& 31).toUInt32).toInt32))]))) (fun _ k => XS.iushr X38.here hx rfl (hb hby at_78) rfl k) ?_
      refine own_step (S' := (T38.setTop (mkF m 80 #[.val (.long q1), .second, .val (.long q2), .second, .val (.long q3), .second, .val (.long q4), .second, .val (.int p5), .val (.long g), .second, .val (.long e2), .second, .val (.ref b35), .val (.ref b37), .val (.int (1 : Int32)), .unset, .unset, .unset, .unset] [(.int (3 : Int32)), (.int ((p5.toUInt32 >>> ((2 : Int32) &&& 31).toUInt32).toInt32))]))) (fun _ k => XS.iconst X38.here hx rfl (hb hby at_79) k) ?_
      refine own_step (S' := (T38.setTop (mkF m 81 #[.val (.long q1), .second, .val (.long q2), .second, .val (.long q3), .second, .val (.long q4), .second, .val (.int p5), .val (.long g), .second, .val (.long e2), .second, .val (.ref b35), .val (.ref b37), .val (.int (1 : Int32)), .unset, .unset, .unset, .unset] [(.int (((p5.toUInt32 >>> ((2 : Int32) &&& 31).toUInt32).toInt32) &&& (3 : Int32)))]))) (fun _ k => XS.iand X38.here hx rfl (hb hby at_80) rfl k) ?_
      have f41 := (Exa.keep (Exa.ext E37 (Exa.keep A35 K36)) K38)
      have f42 := (Fld.keep (Fld.ext E37 Ff36) K38 (ninS (Nat.ne_of_lt (Nat.lt_of_lt_of_le Ff36.lt (Nat.le_of_eq g37.symm))) nin0))
      have f43 := (Fld.keep (Fld.ext E37 Fe36) K38 (ninS (Nat.ne_of_lt (Nat.lt_of_lt_of_le Fe36.lt (Nat.le_of_eq g37.symm))) nin0))
      have f44 := (Exa.keep A37 K38)
      have Zs45 : n0 ≤ T38.heap.size := (Nat.le_trans (Nat.le_trans (Nat.le_trans (Nat.le_trans Z0 E35.1) K36.1) E37.1) K38.1)
      rcases own_m4 p5 with hr46 | hr46 | hr46 | hr46
      · rw [hr46]
        refine own_step (S' := (T38.setTop (mkF m 83 #[.val (.long q1), .second, .val (.long q2), .second, .val (.long q3), .second, .val (.long q4), .second, .val (.int p5), .val (.long g), .second, .val (.long e2), .second, .val (.ref b35), .val (.ref b37), .val (.int (1 : Int32)), .val (.int (0 : Int32)), .unset, .unset, .unset] []))) (fun _ k => XS.istore X38.here hx rfl (hb hby at_81) rfl (l' := #[.val (.long q1), .second, .val (.long q2), .second, .val (.long q3), .second, .val (.long q4), .second, .val (.int p5), .val (.long g), .second, .val (.long e2), .second, .val (.ref b35), .val (.ref b37), .val (.int (1 : Int32)), .val (.int (0 : Int32)), .unset, .unset, .unset]) rfl k) ?_
        refine own_step (S' := (T38.setTop (mkF m 85 #[.val (.long q1), .second, .val (.long q2), .second, .val (.long q3), .second, .val (.long q4), .second, .val (.int p5), .val (.long g), .second, .val (.long e2), .second, .val (.ref b35), .val (.ref b37), .val (.int (1 : Int32)), .val (.int (0 : Int32)), .unset, .unset, .unset] [(.int (0 : Int32))]))) (fun _ k => XS.iload X38.here hx rfl (hb hby at_83) rfl k) ?_
        refine own_step (S' := (T38.setTop (mkF m 88 #[.val (.long q1), .second, .val (.long q2), .second, .val (.long q3), .second, .val (.long q4), .second, .val (.int p5), .val (.long g), .second, .val (.long e2), .second, .val (.ref b35), .val (.ref b37), .val (.int (1 : Int32)), .val (.int (0 : Int32)), .unset, .unset, .unset] []))) (fun _ k => XS.ifNo X38.here hx rfl (hb hby at_85) rfl ((if0 _ _).trans (teq (by decide : (0 : Int32) = (0 : Int32))).2) k) ?_
        refine own_step (S' := (T38.setTop (mkF m 90 #[.val (.long q1), .second, .val (.long q2), .second, .val (.long q3), .second, .val (.long q4), .second, .val (.int p5), .val (.long g), .second, .val (.long e2), .second, .val (.ref b35), .val (.ref b37), .val (.int (1 : Int32)), .val (.int (0 : Int32)), .unset, .unset, .unset] [(.ref b37)]))) (fun _ k => XS.aload X38.here hx rfl (hb hby at_88) rfl rfl k) ?_
        refine own_step (S' := (T38.setTop (mkF m 92 #[.val (.long q1), .second, .val (.long q2), .second, .val (.long q3), .second, .val (.long q4), .second, .val (.int p5), .val (.long g), .second, .val (.long e2), .second, .val (.ref b35), .val (.ref b37), .val (.int (1 : Int32)), .val (.int (0 : Int32)), .val (.ref b37), .unset, .unset] []))) (fun _ k => XS.astore X38.here hx rfl (hb hby at_90) rfl rfl (l' := #[.val (.long q1), .second, .val (.long q2), .second, .val (.long q3), .second, .val (.long q4), .second, .val (.int p5), .val (.long g), .second, .val (.long e2), .second, .val (.ref b35), .val (.ref b37), .val (.int (1 : Int32)), .val (.int (0 : Int32)), .val (.ref b37), .unset, .unset]) rfl k) ?_
        refine own_step (S' := (T38.setTop (mkF m 94 #[.val (.long q1), .second, .val (.long q2), .second, .val (.long q3), .second, .val (.long q4), .second, .val (.int p5), .val (.long g), .second, .val (.long e2), .second, .val (.ref b35), .val (.ref b37), .val (.int (1 : Int32)), .val (.int (0 : Int32)), .val (.ref b37), .unset, .unset] [(.int (1 : Int32))]))) (fun _ k => XS.iload X38.here hx rfl (hb hby at_92) rfl k) ?_
        refine own_step (S' := (T38.setTop (mkF m 96 #[.val (.long q1), .second, .val (.long q2), .second, .val (.long q3), .second, .val (.long q4), .second, .val (.int p5), .val (.long g), .second, .val (.long e2), .second, .val (.ref b35), .val (.ref b37), .val (.int (1 : Int32)), .val (.int (0 : Int32)), .val (.ref b37), .val (.int (1 : Int32)), .unset] []))) (fun _ k => XS.istore X38.here hx rfl (hb hby at_94) rfl (l' := #[.val (.long q1), .second, .val (.long q2), .second, .val (.long q3), .second, .val (.long q4), .second, .val (.int p5), .val (.long g), .second, .val (.long e2), .second, .val (.ref b35), .val (.ref b37), .val (.int (1 : Int32)), .val (.int (0 : Int32)), .val (.ref b37), .val (.int (1 : Int32)), .unset]) rfl k) ?_
        refine own_step (S' := (T38.setTop (mkF m 139 #[.val (.long q1), .second, .val (.long q2), .second, .val (.long q3), .second, .val (.long q4), .second, .val (.int p5), .val (.long g), .second, .val (.long e2), .second, .val (.ref b35), .val (.ref b37), .val (.int (1 : Int32)), .val (.int (0 : Int32)), .val (.ref b37), .val (.int (1 : Int32)), .unset] []))) (fun _ k => XS.goto X38.here hx rfl (pc0 := 96) (pc' := 139) rfl (hb hby at_96) (by decide) (by decide) k) ?_
        refine own_step (S' := (T38.setTop (mkF m 141 #[.val (.long q1), .second, .val (.long q2), .second, .val (.long q3), .second, .val (.long q4), .second, .val (.int p5), .val (.long g), .second, .val (.long e2), .second, .val (.ref b35), .val (.ref b37), .val (.int (1 : Int32)), .val (.int (0 : Int32)), .val (.ref b37), .val (.int (1 : Int32)), .unset] [(.ref b35)]))) (fun _ k => XS.aload X38.here hx rfl (hb hby at_139) rfl rfl k) ?_
        refine own_step (S' := (T38.setTop (mkF m 143 #[.val (.long q1), .second, .val (.long q2), .second, .val (.long q3), .second, .val (.long q4), .second, .val (.int p5), .val (.long g), .second, .val (.long e2), .second, .val (.ref b35), .val (.ref b37), .val (.int (1 : Int32)), .val (.int (0 : Int32)), .val (.ref b37), .val (.int (1 : Int32)), .unset] [(.ref b37), (.ref b35)]))) (fun _ k => XS.aload X38.here hx rfl (hb hby at_141) rfl rfl k) ?_
        obtain ⟨_, T47, L47, X47, ⟨rfl, N47q, e47⟩, st47⟩ := own_virt (argsL := [(.ref b37)]) (rest := []) X38 hx hZ hown (hw _ (List.mem_of_getElem? (i := 13) rfl)) (hw _ (List.mem_of_getElem? (i := 14) rfl)) (notFace_of_selects (args := #[]) (mvT hZ (hw _ (List.mem_of_getElem? (i := 16) rfl)))) (hw _ (List.mem_of_getElem? (i := 16) rfl)) (hw _ (List.mem_of_getElem? (i := 15) rfl)) (by decide) (hw _ (List.mem_of_getElem? (i := 17) rfl)) (hw _ (List.mem_of_getElem? (i := 2) rfl)) rfl f41 (hM := rmQ_1 l Z a0 hw [] b35 b37 q1 q2 g e2 T38.heap n0 Zs45 f42 f43 f44 Ff38 Fe38 (Eq.symm hc39) (Eq.symm hc40)) (g := (mkF m 143 #[.val (.long q1), .second, .val (.long q2), .second, .val (.long q3), .second, .val (.long q4), .second, .val (.int p5), .val (.long g), .second, .val (.long e2), .second, .val (.ref b35), .val (.ref b37), .val (.int (1 : Int32)), .val (.int (0 : Int32)), .val (.ref b37), .val (.int (1 : Int32)), .unset] [(.ref b37), (.ref b35)])) (hg := rfl) (hsize := by rw [hml]; rfl) (hlen := lenOf pd_3 rfl) (hstack := rfl) (W := 0) (hW := by show 2 * 0 + _ ≤ _; exact Nat.le_of_eq rfl) (hd := (hb hby at_143)) (hf := by decide) (hl := by decide) (hc := by decide) (hs := by decide)
        have N47 := Fr.app N38 N47q
        refine own_step (S' := (T47.setTop (mkF m 146 #[.val (.long q1), .second, .val (.long q2), .second, .val (.long q3), .second, .val (.long q4), .second, .val (.int p5), .val (.long g), .second, .val (.long e2), .second, .val (.ref b35), .val (.ref b37), .val (.int (1 : Int32)), .val (.int (0 : Int32)), .val (.ref b37), .val (.int (1 : Int32)), .unset] [(.int (1 : Int32))]))) (fun _ k => st47 _ k) ?_
        refine own_step (S' := (T47.setTop (mkF m 148 #[.val (.long q1), .second, .val (.long q2), .second, .val (.long q3), .second, .val (.long q4), .second, .val (.int p5), .val (.long g), .second, .val (.long e2), .second, .val (.ref b35), .val (.ref b37), .val (.int (1 : Int32)), .val (.int (0 : Int32)), .val (.ref b37), .val (.int (1 : Int32)), .unset] [(.int (1 : Int32)), (.int (1 : Int32))]))) (fun _ k => XS.iload X47.here hx rfl (hb hby at_146) rfl k) ?_
        refine own_step (S' := (T47.setTop (mkF m 151 #[.val (.long q1), .second, .val (.long q2), .second, .val (.long q3), .second, .val (.long q4), .second, .val (.int p5), .val (.long g), .second, .val (.long e2), .second, .val (.ref b35), .val (.ref b37), .val (.int (1 : Int32)), .val (.int (0 : Int32)), .val (.ref b37), .val (.int (1 : Int32)), .unset] []))) (fun _ k => XS.icmpNo X47.here hx rfl (hb hby at_148) rfl (teq (by decide : (1 : Int32) = (1 : Int32))).2 k) ?_
        refine own_step (S' := (T47.setTop (mkF m 152 #[.val (.long q1), .second, .val (.long q2), .second, .val (.long q3), .second, .val (.long q4), .second, .val (.int p5), .val (.long g), .second, .val (.long e2), .second, .val (.ref b35), .val (.ref b37), .val (.int (1 : Int32)), .val (.int (0 : Int32)), .val (.ref b37), .val (.int (1 : Int32)), .unset] [(.int (1 : Int32))]))) (fun _ k => XS.iconst X47.here hx rfl (hb hby at_151) k) ?_
        refine own_step (S' := (T47.setTop (mkF m 156 #[.val (.long q1), .second, .val (.long q2), .second, .val (.long q3), .second, .val (.long q4), .second, .val (.int p5), .val (.long g), .second, .val (.long e2), .second, .val (.ref b35), .val (.ref b37), .val (.int (1 : Int32)), .val (.int (0 : Int32)), .val (.ref b37), .val (.int (1 : Int32)), .unset] [(.int (1 : Int32))]))) (fun _ k => XS.goto X47.here hx rfl (pc0 := 152) (pc' := 156) rfl (hb hby at_152) (by decide) (by decide) k) ?_
        refine own_step (S' := (T47.setTop (mkF m 158 #[.val (.long q1), .second, .val (.long q2), .second, .val (.long q3), .second, .val (.long q4), .second, .val (.int p5), .val (.long g), .second, .val (.long e2), .second, .val (.ref b35), .val (.ref b37), .val (.int (1 : Int32)), .val (.int (0 : Int32)), .val (.ref b37), .val (.int (1 : Int32)), .val (.int (1 : Int32))] []))) (fun _ k => XS.istore X47.here hx rfl (hb hby at_156) rfl (l' := #[.val (.long q1), .second, .val (.long q2), .second, .val (.long q3), .second, .val (.long q4), .second, .val (.int p5), .val (.long g), .second, .val (.long e2), .second, .val (.ref b35), .val (.ref b37), .val (.int (1 : Int32)), .val (.int (0 : Int32)), .val (.ref b37), .val (.int (1 : Int32)), .val (.int (1 : Int32))]) rfl k) ?_
        refine own_step (S' := (T47.setTop (mkF m 160 #[.val (.long q1), .second, .val (.long q2), .second, .val (.long q3), .second, .val (.long q4), .second, .val (.int p5), .val (.long g), .second, .val (.long e2), .second, .val (.ref b35), .val (.ref b37), .val (.int (1 : Int32)), .val (.int (0 : Int32)), .val (.ref b37), .val (.int (1 : Int32)), .val (.int (1 : Int32))] [(.int (0 : Int32))]))) (fun _ k => XS.iload X47.here hx rfl (hb hby at_158) rfl k) ?_
        refine own_step (S' := (T47.setTop (mkF m 163 #[.val (.long q1), .second, .val (.long q2), .second, .val (.long q3), .second, .val (.long q4), .second, .val (.int p5), .val (.long g), .second, .val (.long e2), .second, .val (.ref b35), .val (.ref b37), .val (.int (1 : Int32)), .val (.int (0 : Int32)), .val (.ref b37), .val (.int (1 : Int32)), .val (.int (1 : Int32))] []))) (fun _ k => XS.ifNo X47.here hx rfl (hb hby at_160) rfl ((if0 _ _).trans (teq (by decide : (0 : Int32) = (0 : Int32))).2) k) ?_
        refine own_step (S' := (T47.setTop (mkF m 165 #[.val (.long q1), .second, .val (.long q2), .second, .val (.long q3), .second, .val (.long q4), .second, .val (.int p5), .val (.long g), .second, .val (.long e2), .second, .val (.ref b35), .val (.ref b37), .val (.int (1 : Int32)), .val (.int (0 : Int32)), .val (.ref b37), .val (.int (1 : Int32)), .val (.int (1 : Int32))] [(.int (1 : Int32))]))) (fun _ k => XS.iload X47.here hx rfl (hb hby at_163) rfl k) ?_
        refine own_step (S' := (T47.setTop (mkF m 168 #[.val (.long q1), .second, .val (.long q2), .second, .val (.long q3), .second, .val (.long q4), .second, .val (.int p5), .val (.long g), .second, .val (.long e2), .second, .val (.ref b35), .val (.ref b37), .val (.int (1 : Int32)), .val (.int (0 : Int32)), .val (.ref b37), .val (.int (1 : Int32)), .val (.int (1 : Int32))] []))) (fun _ k => XS.ifNo X47.here hx rfl (hb hby at_165) rfl ((if0 _ _).trans (feq (by decide : ¬ ((1 : Int32) = (0 : Int32)))).1) k) ?_
        refine own_step (S' := (T47.setTop (mkF m 170 #[.val (.long q1), .second, .val (.long q2), .second, .val (.long q3), .second, .val (.long q4), .second, .val (.int p5), .val (.long g), .second, .val (.long e2), .second, .val (.ref b35), .val (.ref b37), .val (.int (1 : Int32)), .val (.int (0 : Int32)), .val (.ref b37), .val (.int (1 : Int32)), .val (.int (1 : Int32))] [(.ref b37)]))) (fun _ k => XS.aload X47.here hx rfl (hb hby at_168) rfl rfl k) ?_
        refine own_step (S' := (T47.setTop (mkF m 172 #[.val (.long q1), .second, .val (.long q2), .second, .val (.long q3), .second, .val (.long q4), .second, .val (.int p5), .val (.long g), .second, .val (.long e2), .second, .val (.ref b35), .val (.ref b37), .val (.int (1 : Int32)), .val (.int (0 : Int32)), .val (.ref b37), .val (.int (1 : Int32)), .val (.int (1 : Int32))] [(.ref b35), (.ref b37)]))) (fun _ k => XS.aload X47.here hx rfl (hb hby at_170) rfl rfl k) ?_
        obtain ⟨_, T48, L48, X48, ⟨rfl, N48q, e48⟩, st48⟩ := own_virt (argsL := [(.ref b35)]) (rest := []) X47 hx hZ hown (hw _ (List.mem_of_getElem? (i := 13) rfl)) (hw _ (List.mem_of_getElem? (i := 14) rfl)) (notFace_of_selects (args := #[]) (mvT hZ (hw _ (List.mem_of_getElem? (i := 16) rfl)))) (hw _ (List.mem_of_getElem? (i := 16) rfl)) (hw _ (List.mem_of_getElem? (i := 15) rfl)) (by decide) (hw _ (List.mem_of_getElem? (i := 17) rfl)) (hw _ (List.mem_of_getElem? (i := 2) rfl)) e47 f44 (hM := rmQ_1 l Z a0 hw [] b37 b35 g e2 q1 q2 T38.heap n0 Zs45 Ff38 Fe38 f41 f42 f43 hc39 hc40) (g := (mkF m 172 #[.val (.long q1), .second, .val (.long q2), .second, .val (.long q3), .second, .val (.long q4), .second, .val (.int p5), .val (.long g), .second, .val (.long e2), .second, .val (.ref b35), .val (.ref b37), .val (.int (1 : Int32)), .val (.int (0 : Int32)), .val (.ref b37), .val (.int (1 : Int32)), .val (.int (1 : Int32))] [(.ref b35), (.ref b37)])) (hg := rfl) (hsize := by rw [hml]; rfl) (hlen := lenOf pd_3 rfl) (hstack := rfl) (W := 0) (hW := by show 2 * 0 + _ ≤ _; exact Nat.le_of_eq rfl) (hd := (hb hby at_172)) (hf := by decide) (hl := by decide) (hc := by decide) (hs := by decide)
        have N48 := Fr.app N47 N48q
        refine own_step (S' := (T48.setTop (mkF m 175 #[.val (.long q1), .second, .val (.long q2), .second, .val (.long q3), .second, .val (.long q4), .second, .val (.int p5), .val (.long g), .second, .val (.long e2), .second, .val (.ref b35), .val (.ref b37), .val (.int (1 : Int32)), .val (.int (0 : Int32)), .val (.ref b37), .val (.int (1 : Int32)), .val (.int (1 : Int32))] [(.int (1 : Int32))]))) (fun _ k => st48 _ k) ?_
        refine own_step (S' := (T48.setTop (mkF m 177 #[.val (.long q1), .second, .val (.long q2), .second, .val (.long q3), .second, .val (.long q4), .second, .val (.int p5), .val (.long g), .second, .val (.long e2), .second, .val (.ref b35), .val (.ref b37), .val (.int (1 : Int32)), .val (.int (0 : Int32)), .val (.ref b37), .val (.int (1 : Int32)), .val (.int (1 : Int32))] [(.int (1 : Int32)), (.int (1 : Int32))]))) (fun _ k => XS.iload X48.here hx rfl (hb hby at_175) rfl k) ?_
        refine own_step (S' := (T48.setTop (mkF m 180 #[.val (.long q1), .second, .val (.long q2), .second, .val (.long q3), .second, .val (.long q4), .second, .val (.int p5), .val (.long g), .second, .val (.long e2), .second, .val (.ref b35), .val (.ref b37), .val (.int (1 : Int32)), .val (.int (0 : Int32)), .val (.ref b37), .val (.int (1 : Int32)), .val (.int (1 : Int32))] []))) (fun _ k => XS.icmpNo X48.here hx rfl (hb hby at_177) rfl (teq (by decide : (1 : Int32) = (1 : Int32))).2 k) ?_
        refine own_step (S' := (T48.setTop (mkF m 181 #[.val (.long q1), .second, .val (.long q2), .second, .val (.long q3), .second, .val (.long q4), .second, .val (.int p5), .val (.long g), .second, .val (.long e2), .second, .val (.ref b35), .val (.ref b37), .val (.int (1 : Int32)), .val (.int (0 : Int32)), .val (.ref b37), .val (.int (1 : Int32)), .val (.int (1 : Int32))] [(.int (1 : Int32))]))) (fun _ k => XS.iconst X48.here hx rfl (hb hby at_180) k) ?_
        refine own_step (S' := (T48.setTop (mkF m 185 #[.val (.long q1), .second, .val (.long q2), .second, .val (.long q3), .second, .val (.long q4), .second, .val (.int p5), .val (.long g), .second, .val (.long e2), .second, .val (.ref b35), .val (.ref b37), .val (.int (1 : Int32)), .val (.int (0 : Int32)), .val (.ref b37), .val (.int (1 : Int32)), .val (.int (1 : Int32))] [(.int (1 : Int32))]))) (fun _ k => XS.goto X48.here hx rfl (pc0 := 181) (pc' := 185) rfl (hb hby at_181) (by decide) (by decide) k) ?_
        refine own_step (S' := (T48.setTop (mkF m 187 #[.val (.long q1), .second, .val (.long q2), .second, .val (.long q3), .second, .val (.long q4), .second, .val (.int p5), .val (.long g), .second, .val (.long e2), .second, .val (.ref b35), .val (.ref b37), .val (.int (1 : Int32)), .val (.int (0 : Int32)), .val (.ref b37), .val (.int (1 : Int32)), .val (.int (1 : Int32))] []))) (fun _ k => XS.istore X48.here hx rfl (hb hby at_185) rfl (l' := #[.val (.long q1), .second, .val (.long q2), .second, .val (.long q3), .second, .val (.long q4), .second, .val (.int p5), .val (.long g), .second, .val (.long e2), .second, .val (.ref b35), .val (.ref b37), .val (.int (1 : Int32)), .val (.int (0 : Int32)), .val (.ref b37), .val (.int (1 : Int32)), .val (.int (1 : Int32))]) rfl k) ?_
        refine own_step (S' := (T48.setTop (mkF m 189 #[.val (.long q1), .second, .val (.long q2), .second, .val (.long q3), .second, .val (.long q4), .second, .val (.int p5), .val (.long g), .second, .val (.long e2), .second, .val (.ref b35), .val (.ref b37), .val (.int (1 : Int32)), .val (.int (0 : Int32)), .val (.ref b37), .val (.int (1 : Int32)), .val (.int (1 : Int32))] [(.int (1 : Int32))]))) (fun _ k => XS.iload X48.here hx rfl (hb hby at_187) rfl k) ?_
        refine own_retN X48 hx hlk hret (by simp) (by decide) (hb hby at_189) (by decide) (by decide) ?_
        try rw [e48]
        exact ⟨rfl, N48⟩
      · rw [hr46]
        refine own_step (S' := (T38.setTop (mkF m 83 #[.val (.long q1), .second, .val (.long q2), .second, .val (.long q3), .second, .val (.long q4), .second, .val (.int p5), .val (.long g), .second, .val (.long e2), .second, .val (.ref b35), .val (.ref b37), .val (.int (1 : Int32)), .val (.int (1 : Int32)), .unset, .unset, .unset] []))) (fun _ k => XS.istore X38.here hx rfl (hb hby at_81) rfl (l' := #[.val (.long q1), .second, .val (.long q2), .second, .val (.long q3), .second, .val (.long q4), .second, .val (.int p5), .val (.long g), .second, .val (.long e2), .second, .val (.ref b35), .val (.ref b37), .val (.int (1 : Int32)), .val (.int (1 : Int32)), .unset, .unset, .unset]) rfl k) ?_
        refine own_step (S' := (T38.setTop (mkF m 85 #[.val (.long q1), .second, .val (.long q2), .second, .val (.long q3), .second, .val (.long q4), .second, .val (.int p5), .val (.long g), .second, .val (.long e2), .second, .val (.ref b35), .val (.ref b37), .val (.int (1 : Int32)), .val (.int (1 : Int32)), .unset, .unset, .unset] [(.int (1 : Int32))]))) (fun _ k => XS.iload X38.here hx rfl (hb hby at_83) rfl k) ?_
        refine own_step (S' := (T38.setTop (mkF m 99 #[.val (.long q1), .second, .val (.long q2), .second, .val (.long q3), .second, .val (.long q4), .second, .val (.int p5), .val (.long g), .second, .val (.long e2), .second, .val (.ref b35), .val (.ref b37), .val (.int (1 : Int32)), .val (.int (1 : Int32)), .unset, .unset, .unset] []))) (fun _ k => XS.ifYes X38.here hx rfl (pc0 := 85) (pc' := 99) rfl (hb hby at_85) rfl ((if0 _ _).trans (feq (by decide : ¬ ((1 : Int32) = (0 : Int32)))).2) (by decide) (by decide) k) ?_
        refine own_step (S' := (T38.setTop (mkF m 101 #[.val (.long q1), .second, .val (.long q2), .second, .val (.long q3), .second, .val (.long q4), .second, .val (.int p5), .val (.long g), .second, .val (.long e2), .second, .val (.ref b35), .val (.ref b37), .val (.int (1 : Int32)), .val (.int (1 : Int32)), .unset, .unset, .unset] [(.int (1 : Int32))]))) (fun _ k => XS.iload X38.here hx rfl (hb hby at_99) rfl k) ?_
        refine own_step (S' := (T38.setTop (mkF m 102 #[.val (.long q1), .second, .val (.long q2), .second, .val (.long q3), .second, .val (.long q4), .second, .val (.int p5), .val (.long g), .second, .val (.long e2), .second, .val (.ref b35), .val (.ref b37), .val (.int (1 : Int32)), .val (.int (1 : Int32)), .unset, .unset, .unset] [(.int (1 : Int32)), (.int (1 : Int32))]))) (fun _ k => XS.iconst X38.here hx rfl (hb hby at_101) k) ?_
        refine own_step (S' := (T38.setTop (mkF m 105 #[.val (.long q1), .second, .val (.long q2), .second, .val (.long q3), .second, .val (.long q4), .second, .val (.int p5), .val (.long g), .second, .val (.long e2), .second, .val (.ref b35), .val (.ref b37), .val (.int (1 : Int32)), .val (.int (1 : Int32)), .unset, .unset, .unset] []))) (fun _ k => XS.icmpNo X38.here hx rfl (hb hby at_102) rfl (teq (by decide : (1 : Int32) = (1 : Int32))).2 k) ?_
        refine own_step (S' := (T38.setTop (mkF m 106 #[.val (.long q1), .second, .val (.long q2), .second, .val (.long q3), .second, .val (.long q4), .second, .val (.int p5), .val (.long g), .second, .val (.long e2), .second, .val (.ref b35), .val (.ref b37), .val (.int (1 : Int32)), .val (.int (1 : Int32)), .unset, .unset, .unset] [.null]))) (fun _ k => XS.aconstNull X38.here hx rfl (hb hby at_105) k) ?_
        refine own_step (S' := (T38.setTop (mkF m 108 #[.val (.long q1), .second, .val (.long q2), .second, .val (.long q3), .second, .val (.long q4), .second, .val (.int p5), .val (.long g), .second, .val (.long e2), .second, .val (.ref b35), .val (.ref b37), .val (.int (1 : Int32)), .val (.int (1 : Int32)), .val .null, .unset, .unset] []))) (fun _ k => XS.astore X38.here hx rfl (hb hby at_106) rfl rfl (l' := #[.val (.long q1), .second, .val (.long q2), .second, .val (.long q3), .second, .val (.long q4), .second, .val (.int p5), .val (.long g), .second, .val (.long e2), .second, .val (.ref b35), .val (.ref b37), .val (.int (1 : Int32)), .val (.int (1 : Int32)), .val .null, .unset, .unset]) rfl k) ?_
        refine own_step (S' := (T38.setTop (mkF m 109 #[.val (.long q1), .second, .val (.long q2), .second, .val (.long q3), .second, .val (.long q4), .second, .val (.int p5), .val (.long g), .second, .val (.long e2), .second, .val (.ref b35), .val (.ref b37), .val (.int (1 : Int32)), .val (.int (1 : Int32)), .val .null, .unset, .unset] [(.int (0 : Int32))]))) (fun _ k => XS.iconst X38.here hx rfl (hb hby at_108) k) ?_
        refine own_step (S' := (T38.setTop (mkF m 111 #[.val (.long q1), .second, .val (.long q2), .second, .val (.long q3), .second, .val (.long q4), .second, .val (.int p5), .val (.long g), .second, .val (.long e2), .second, .val (.ref b35), .val (.ref b37), .val (.int (1 : Int32)), .val (.int (1 : Int32)), .val .null, .val (.int (0 : Int32)), .unset] []))) (fun _ k => XS.istore X38.here hx rfl (hb hby at_109) rfl (l' := #[.val (.long q1), .second, .val (.long q2), .second, .val (.long q3), .second, .val (.long q4), .second, .val (.int p5), .val (.long g), .second, .val (.long e2), .second, .val (.ref b35), .val (.ref b37), .val (.int (1 : Int32)), .val (.int (1 : Int32)), .val .null, .val (.int (0 : Int32)), .unset]) rfl k) ?_
        refine own_step (S' := (T38.setTop (mkF m 139 #[.val (.long q1), .second, .val (.long q2), .second, .val (.long q3), .second, .val (.long q4), .second, .val (.int p5), .val (.long g), .second, .val (.long e2), .second, .val (.ref b35), .val (.ref b37), .val (.int (1 : Int32)), .val (.int (1 : Int32)), .val .null, .val (.int (0 : Int32)), .unset] []))) (fun _ k => XS.goto X38.here hx rfl (pc0 := 111) (pc' := 139) rfl (hb hby at_111) (by decide) (by decide) k) ?_
        refine own_step (S' := (T38.setTop (mkF m 141 #[.val (.long q1), .second, .val (.long q2), .second, .val (.long q3), .second, .val (.long q4), .second, .val (.int p5), .val (.long g), .second, .val (.long e2), .second, .val (.ref b35), .val (.ref b37), .val (.int (1 : Int32)), .val (.int (1 : Int32)), .val .null, .val (.int (0 : Int32)), .unset] [(.ref b35)]))) (fun _ k => XS.aload X38.here hx rfl (hb hby at_139) rfl rfl k) ?_
        refine own_step (S' := (T38.setTop (mkF m 143 #[.val (.long q1), .second, .val (.long q2), .second, .val (.long q3), .second, .val (.long q4), .second, .val (.int p5), .val (.long g), .second, .val (.long e2), .second, .val (.ref b35), .val (.ref b37), .val (.int (1 : Int32)), .val (.int (1 : Int32)), .val .null, .val (.int (0 : Int32)), .unset] [.null, (.ref b35)]))) (fun _ k => XS.aload X38.here hx rfl (hb hby at_141) rfl rfl k) ?_
        obtain ⟨_, T49, L49, X49, ⟨rfl, N49q, e49⟩, st49⟩ := own_virt (argsL := [.null]) (rest := []) X38 hx hZ hown (hw _ (List.mem_of_getElem? (i := 13) rfl)) (hw _ (List.mem_of_getElem? (i := 14) rfl)) (notFace_of_selects (args := #[]) (mvT hZ (hw _ (List.mem_of_getElem? (i := 16) rfl)))) (hw _ (List.mem_of_getElem? (i := 16) rfl)) (hw _ (List.mem_of_getElem? (i := 15) rfl)) (by decide) (hw _ (List.mem_of_getElem? (i := 17) rfl)) (hw _ (List.mem_of_getElem? (i := 2) rfl)) rfl f41 (hM := rmQn l Z a0 hw [] b35 T38.heap n0 Zs45) (g := (mkF m 143 #[.val (.long q1), .second, .val (.long q2), .second, .val (.long q3), .second, .val (.long q4), .second, .val (.int p5), .val (.long g), .second, .val (.long e2), .second, .val (.ref b35), .val (.ref b37), .val (.int (1 : Int32)), .val (.int (1 : Int32)), .val .null, .val (.int (0 : Int32)), .unset] [.null, (.ref b35)])) (hg := rfl) (hsize := by rw [hml]; rfl) (hlen := lenOf pd_3 rfl) (hstack := rfl) (W := 0) (hW := by show 2 * 0 + _ ≤ _; exact Nat.le_of_eq rfl) (hd := (hb hby at_143)) (hf := by decide) (hl := by decide) (hc := by decide) (hs := by decide)
        have N49 := Fr.app N38 N49q
        refine own_step (S' := (T49.setTop (mkF m 146 #[.val (.long q1), .second, .val (.long q2), .second, .val (.long q3), .second, .val (.long q4), .second, .val (.int p5), .val (.long g), .second, .val (.long e2), .second, .val (.ref b35), .val (.ref b37), .val (.int (1 : Int32)), .val (.int (1 : Int32)), .val .null, .val (.int (0 : Int32)), .unset] [(.int (0 : Int32))]))) (fun _ k => st49 _ k) ?_
        refine own_step (S' := (T49.setTop (mkF m 148 #[.val (.long q1), .second, .val (.long q2), .second, .val (.long q3), .second, .val (.long q4), .second, .val (.int p5), .val (.long g), .second, .val (.long e2), .second, .val (.ref b35), .val (.ref b37), .val (.int (1 : Int32)), .val (.int (1 : Int32)), .val .null, .val (.int (0 : Int32)), .unset] [(.int (0 : Int32)), (.int (0 : Int32))]))) (fun _ k => XS.iload X49.here hx rfl (hb hby at_146) rfl k) ?_
        refine own_step (S' := (T49.setTop (mkF m 151 #[.val (.long q1), .second, .val (.long q2), .second, .val (.long q3), .second, .val (.long q4), .second, .val (.int p5), .val (.long g), .second, .val (.long e2), .second, .val (.ref b35), .val (.ref b37), .val (.int (1 : Int32)), .val (.int (1 : Int32)), .val .null, .val (.int (0 : Int32)), .unset] []))) (fun _ k => XS.icmpNo X49.here hx rfl (hb hby at_148) rfl (teq (by decide : (0 : Int32) = (0 : Int32))).2 k) ?_
        refine own_step (S' := (T49.setTop (mkF m 152 #[.val (.long q1), .second, .val (.long q2), .second, .val (.long q3), .second, .val (.long q4), .second, .val (.int p5), .val (.long g), .second, .val (.long e2), .second, .val (.ref b35), .val (.ref b37), .val (.int (1 : Int32)), .val (.int (1 : Int32)), .val .null, .val (.int (0 : Int32)), .unset] [(.int (1 : Int32))]))) (fun _ k => XS.iconst X49.here hx rfl (hb hby at_151) k) ?_
        refine own_step (S' := (T49.setTop (mkF m 156 #[.val (.long q1), .second, .val (.long q2), .second, .val (.long q3), .second, .val (.long q4), .second, .val (.int p5), .val (.long g), .second, .val (.long e2), .second, .val (.ref b35), .val (.ref b37), .val (.int (1 : Int32)), .val (.int (1 : Int32)), .val .null, .val (.int (0 : Int32)), .unset] [(.int (1 : Int32))]))) (fun _ k => XS.goto X49.here hx rfl (pc0 := 152) (pc' := 156) rfl (hb hby at_152) (by decide) (by decide) k) ?_
        refine own_step (S' := (T49.setTop (mkF m 158 #[.val (.long q1), .second, .val (.long q2), .second, .val (.long q3), .second, .val (.long q4), .second, .val (.int p5), .val (.long g), .second, .val (.long e2), .second, .val (.ref b35), .val (.ref b37), .val (.int (1 : Int32)), .val (.int (1 : Int32)), .val .null, .val (.int (0 : Int32)), .val (.int (1 : Int32))] []))) (fun _ k => XS.istore X49.here hx rfl (hb hby at_156) rfl (l' := #[.val (.long q1), .second, .val (.long q2), .second, .val (.long q3), .second, .val (.long q4), .second, .val (.int p5), .val (.long g), .second, .val (.long e2), .second, .val (.ref b35), .val (.ref b37), .val (.int (1 : Int32)), .val (.int (1 : Int32)), .val .null, .val (.int (0 : Int32)), .val (.int (1 : Int32))]) rfl k) ?_
        refine own_step (S' := (T49.setTop (mkF m 160 #[.val (.long q1), .second, .val (.long q2), .second, .val (.long q3), .second, .val (.long q4), .second, .val (.int p5), .val (.long g), .second, .val (.long e2), .second, .val (.ref b35), .val (.ref b37), .val (.int (1 : Int32)), .val (.int (1 : Int32)), .val .null, .val (.int (0 : Int32)), .val (.int (1 : Int32))] [(.int (1 : Int32))]))) (fun _ k => XS.iload X49.here hx rfl (hb hby at_158) rfl k) ?_
        refine own_step (S' := (T49.setTop (mkF m 187 #[.val (.long q1), .second, .val (.long q2), .second, .val (.long q3), .second, .val (.long q4), .second, .val (.int p5), .val (.long g), .second, .val (.long e2), .second, .val (.ref b35), .val (.ref b37), .val (.int (1 : Int32)), .val (.int (1 : Int32)), .val .null, .val (.int (0 : Int32)), .val (.int (1 : Int32))] []))) (fun _ k => XS.ifYes X49.here hx rfl (pc0 := 160) (pc' := 187) rfl (hb hby at_160) rfl ((if0 _ _).trans (feq (by decide : ¬ ((1 : Int32) = (0 : Int32)))).2) (by decide) (by decide) k) ?_
        refine own_step (S' := (T49.setTop (mkF m 189 #[.val (.long q1), .second, .val (.long q2), .second, .val (.long q3), .second, .val (.long q4), .second, .val (.int p5), .val (.long g), .second, .val (.long e2), .second, .val (.ref b35), .val (.ref b37), .val (.int (1 : Int32)), .val (.int (1 : Int32)), .val .null, .val (.int (0 : Int32)), .val (.int (1 : Int32))] [(.int (1 : Int32))]))) (fun _ k => XS.iload X49.here hx rfl (hb hby at_187) rfl k) ?_
        refine own_retN X49 hx hlk hret (by simp) (by decide) (hb hby at_189) (by decide) (by decide) ?_
        try rw [e49]
        exact ⟨rfl, N49⟩
      · rw [hr46]
        refine own_step (S' := (T38.setTop (mkF m 83 #[.val (.long q1), .second, .val (.long q2), .second, .val (.long q3), .second, .val (.long q4), .second, .val (.int p5), .val (.long g), .second, .val (.long e2), .second, .val (.ref b35), .val (.ref b37), .val (.int (1 : Int32)), .val (.int (2 : Int32)), .unset, .unset, .unset] []))) (fun _ k => XS.istore X38.here hx rfl (hb hby at_81) rfl (l' := #[.val (.long q1), .second, .val (.long q2), .second, .val (.long q3), .second, .val (.long q4), .second, .val (.int p5), .val (.long g), .second, .val (.long e2), .second, .val (.ref b35), .val (.ref b37), .val (.int (1 : Int32)), .val (.int (2 : Int32)), .unset, .unset, .unset]) rfl k) ?_
        refine own_step (S' := (T38.setTop (mkF m 85 #[.val (.long q1), .second, .val (.long q2), .second, .val (.long q3), .second, .val (.long q4), .second, .val (.int p5), .val (.long g), .second, .val (.long e2), .second, .val (.ref b35), .val (.ref b37), .val (.int (1 : Int32)), .val (.int (2 : Int32)), .unset, .unset, .unset] [(.int (2 : Int32))]))) (fun _ k => XS.iload X38.here hx rfl (hb hby at_83) rfl k) ?_
        refine own_step (S' := (T38.setTop (mkF m 99 #[.val (.long q1), .second, .val (.long q2), .second, .val (.long q3), .second, .val (.long q4), .second, .val (.int p5), .val (.long g), .second, .val (.long e2), .second, .val (.ref b35), .val (.ref b37), .val (.int (1 : Int32)), .val (.int (2 : Int32)), .unset, .unset, .unset] []))) (fun _ k => XS.ifYes X38.here hx rfl (pc0 := 85) (pc' := 99) rfl (hb hby at_85) rfl ((if0 _ _).trans (feq (by decide : ¬ ((2 : Int32) = (0 : Int32)))).2) (by decide) (by decide) k) ?_
        refine own_step (S' := (T38.setTop (mkF m 101 #[.val (.long q1), .second, .val (.long q2), .second, .val (.long q3), .second, .val (.long q4), .second, .val (.int p5), .val (.long g), .second, .val (.long e2), .second, .val (.ref b35), .val (.ref b37), .val (.int (1 : Int32)), .val (.int (2 : Int32)), .unset, .unset, .unset] [(.int (2 : Int32))]))) (fun _ k => XS.iload X38.here hx rfl (hb hby at_99) rfl k) ?_
        refine own_step (S' := (T38.setTop (mkF m 102 #[.val (.long q1), .second, .val (.long q2), .second, .val (.long q3), .second, .val (.long q4), .second, .val (.int p5), .val (.long g), .second, .val (.long e2), .second, .val (.ref b35), .val (.ref b37), .val (.int (1 : Int32)), .val (.int (2 : Int32)), .unset, .unset, .unset] [(.int (1 : Int32)), (.int (2 : Int32))]))) (fun _ k => XS.iconst X38.here hx rfl (hb hby at_101) k) ?_
        refine own_step (S' := (T38.setTop (mkF m 114 #[.val (.long q1), .second, .val (.long q2), .second, .val (.long q3), .second, .val (.long q4), .second, .val (.int p5), .val (.long g), .second, .val (.long e2), .second, .val (.ref b35), .val (.ref b37), .val (.int (1 : Int32)), .val (.int (2 : Int32)), .unset, .unset, .unset] []))) (fun _ k => XS.icmpYes X38.here hx rfl (pc0 := 102) (pc' := 114) rfl (hb hby at_102) rfl (feq (by decide : ¬ ((2 : Int32) = (1 : Int32)))).2 (by decide) (by decide) k) ?_
        refine own_step (S' := (T38.setTop (mkF m 116 #[.val (.long q1), .second, .val (.long q2), .second, .val (.long q3), .second, .val (.long q4), .second, .val (.int p5), .val (.long g), .second, .val (.long e2), .second, .val (.ref b35), .val (.ref b37), .val (.int (1 : Int32)), .val (.int (2 : Int32)), .unset, .unset, .unset] [(.int (2 : Int32))]))) (fun _ k => XS.iload X38.here hx rfl (hb hby at_114) rfl k) ?_
        refine own_step (S' := (T38.setTop (mkF m 117 #[.val (.long q1), .second, .val (.long q2), .second, .val (.long q3), .second, .val (.long q4), .second, .val (.int p5), .val (.long g), .second, .val (.long e2), .second, .val (.ref b35), .val (.ref b37), .val (.int (1 : Int32)), .val (.int (2 : Int32)), .unset, .unset, .unset] [(.int (2 : Int32)), (.int (2 : Int32))]))) (fun _ k => XS.iconst X38.here hx rfl (hb hby at_116) k) ?_
        refine own_step (S' := (T38.setTop (mkF m 120 #[.val (.long q1), .second, .val (.long q2), .second, .val (.long q3), .second, .val (.long q4), .second, .val (.int p5), .val (.long g), .second, .val (.long e2), .second, .val (.ref b35), .val (.ref b37), .val (.int (1 : Int32)), .val (.int (2 : Int32)), .unset, .unset, .unset] []))) (fun _ k => XS.icmpNo X38.here hx rfl (hb hby at_117) rfl (teq (by decide : (2 : Int32) = (2 : Int32))).2 k) ?_
        refine own_step (S' := (T38.setTop (mkF m 121 #[.val (.long q1), .second, .val (.long q2), .second, .val (.long q3), .second, .val (.long q4), .second, .val (.int p5), .val (.long g), .second, .val (.long e2), .second, .val (.ref b35), .val (.ref b37), .val (.int (1 : Int32)), .val (.int (2 : Int32)), .unset, .unset, .unset] [(.long q1)]))) (fun _ k => XS.lloadN X38.here hx rfl (hb hby at_120) rfl k) ?_
        have Cn : own_Cache Z T38.heap ca := own_cacheKeep C (Keep.trans (Keep.ext (Keep.trans (Keep.ext (Keep.refl h0 []) E35) K36 (allS (Or.inr szo_b35) all0)) E37) K38 (allS (Or.inr szo_b37) all0))
        obtain ⟨_, T50, L50, X50, ⟨y50, rfl, N50q, K50, Ey50⟩, st50⟩ := own_stat (argsL := [(.long q1)]) (rest := []) X38 hx hZ hown (hw _ (List.mem_of_getElem? (i := 20) rfl)) (hw _ (List.mem_of_getElem? (i := 21) rfl)) (by decide) (hw _ (List.mem_of_getElem? (i := 23) rfl)) (hw _ (List.mem_of_getElem? (i := 22) rfl)) rfl (hM := rmVO l Z a0 hw [] ca q1 T38.heap n0 Zs45 Cn) (g := (mkF m 121 #[.val (.long q1), .second, .val (.long q2), .second, .val (.long q3), .second, .val (.long q4), .second, .val (.int p5), .val (.long g), .second, .val (.long e2), .second, .val (.ref b35), .val (.ref b37), .val (.int (1 : Int32)), .val (.int (2 : Int32)), .unset, .unset, .unset] [(.long q1)])) (hg := rfl) (hsize := by rw [hml]; rfl) (hlen := lenOf pd_4 rfl) (hstack := rfl) (W := 0) (hW := by show 2 * 0 + _ ≤ _; exact Nat.le_of_eq rfl) (hd := (hb hby at_121)) (hf := by decide) (hl := by decide) (hc := by decide) (hs := by decide)
        have N50 := Fr.app N38 N50q
        refine own_step (S' := (T50.setTop (mkF m 124 #[.val (.long q1), .second, .val (.long q2), .second, .val (.long q3), .second, .val (.long q4), .second, .val (.int p5), .val (.long g), .second, .val (.long e2), .second, .val (.ref b35), .val (.ref b37), .val (.int (1 : Int32)), .val (.int (2 : Int32)), .unset, .unset, .unset] [(.ref y50)]))) (fun _ k => st50 _ k) ?_
        refine own_step (S' := (T50.setTop (mkF m 126 #[.val (.long q1), .second, .val (.long q2), .second, .val (.long q3), .second, .val (.long q4), .second, .val (.int p5), .val (.long g), .second, .val (.long e2), .second, .val (.ref b35), .val (.ref b37), .val (.int (1 : Int32)), .val (.int (2 : Int32)), .val (.ref y50), .unset, .unset] []))) (fun _ k => XS.astore X50.here hx rfl (hb hby at_124) rfl rfl (l' := #[.val (.long q1), .second, .val (.long q2), .second, .val (.long q3), .second, .val (.long q4), .second, .val (.int p5), .val (.long g), .second, .val (.long e2), .second, .val (.ref b35), .val (.ref b37), .val (.int (1 : Int32)), .val (.int (2 : Int32)), .val (.ref y50), .unset, .unset]) rfl k) ?_
        refine own_step (S' := (T50.setTop (mkF m 127 #[.val (.long q1), .second, .val (.long q2), .second, .val (.long q3), .second, .val (.long q4), .second, .val (.int p5), .val (.long g), .second, .val (.long e2), .second, .val (.ref b35), .val (.ref b37), .val (.int (1 : Int32)), .val (.int (2 : Int32)), .val (.ref y50), .unset, .unset] [(.int (0 : Int32))]))) (fun _ k => XS.iconst X50.here hx rfl (hb hby at_126) k) ?_
        refine own_step (S' := (T50.setTop (mkF m 129 #[.val (.long q1), .second, .val (.long q2), .second, .val (.long q3), .second, .val (.long q4), .second, .val (.int p5), .val (.long g), .second, .val (.long e2), .second, .val (.ref b35), .val (.ref b37), .val (.int (1 : Int32)), .val (.int (2 : Int32)), .val (.ref y50), .val (.int (0 : Int32)), .unset] []))) (fun _ k => XS.istore X50.here hx rfl (hb hby at_127) rfl (l' := #[.val (.long q1), .second, .val (.long q2), .second, .val (.long q3), .second, .val (.long q4), .second, .val (.int p5), .val (.long g), .second, .val (.long e2), .second, .val (.ref b35), .val (.ref b37), .val (.int (1 : Int32)), .val (.int (2 : Int32)), .val (.ref y50), .val (.int (0 : Int32)), .unset]) rfl k) ?_
        refine own_step (S' := (T50.setTop (mkF m 139 #[.val (.long q1), .second, .val (.long q2), .second, .val (.long q3), .second, .val (.long q4), .second, .val (.int p5), .val (.long g), .second, .val (.long e2), .second, .val (.ref b35), .val (.ref b37), .val (.int (1 : Int32)), .val (.int (2 : Int32)), .val (.ref y50), .val (.int (0 : Int32)), .unset] []))) (fun _ k => XS.goto X50.here hx rfl (pc0 := 129) (pc' := 139) rfl (hb hby at_129) (by decide) (by decide) k) ?_
        refine own_step (S' := (T50.setTop (mkF m 141 #[.val (.long q1), .second, .val (.long q2), .second, .val (.long q3), .second, .val (.long q4), .second, .val (.int p5), .val (.long g), .second, .val (.long e2), .second, .val (.ref b35), .val (.ref b37), .val (.int (1 : Int32)), .val (.int (2 : Int32)), .val (.ref y50), .val (.int (0 : Int32)), .unset] [(.ref b35)]))) (fun _ k => XS.aload X50.here hx rfl (hb hby at_139) rfl rfl k) ?_
        refine own_step (S' := (T50.setTop (mkF m 143 #[.val (.long q1), .second, .val (.long q2), .second, .val (.long q3), .second, .val (.long q4), .second, .val (.int p5), .val (.long g), .second, .val (.long e2), .second, .val (.ref b35), .val (.ref b37), .val (.int (1 : Int32)), .val (.int (2 : Int32)), .val (.ref y50), .val (.int (0 : Int32)), .unset] [(.ref y50), (.ref b35)]))) (fun _ k => XS.aload X50.here hx rfl (hb hby at_141) rfl rfl k) ?_
        obtain ⟨_, T51, L51, X51, ⟨rfl, N51q, e51⟩, st51⟩ := own_virt (argsL := [(.ref y50)]) (rest := []) X50 hx hZ hown (hw _ (List.mem_of_getElem? (i := 13) rfl)) (hw _ (List.mem_of_getElem? (i := 14) rfl)) (notFace_of_selects (args := #[]) (mvT hZ (hw _ (List.mem_of_getElem? (i := 16) rfl)))) (hw _ (List.mem_of_getElem? (i := 16) rfl)) (hw _ (List.mem_of_getElem? (i := 15) rfl)) (by decide) (hw _ (List.mem_of_getElem? (i := 17) rfl)) (hw _ (List.mem_of_getElem? (i := 2) rfl)) rfl (Exa.keep f41 K50) (hM := rmQl l Z a0 hw [] b35 y50 T50.heap n0 (Nat.le_trans Zs45 K50.1) Ey50) (g := (mkF m 143 #[.val (.long q1), .second, .val (.long q2), .second, .val (.long q3), .second, .val (.long q4), .second, .val (.int p5), .val (.long g), .second, .val (.long e2), .second, .val (.ref b35), .val (.ref b37), .val (.int (1 : Int32)), .val (.int (2 : Int32)), .val (.ref y50), .val (.int (0 : Int32)), .unset] [(.ref y50), (.ref b35)])) (hg := rfl) (hsize := by rw [hml]; rfl) (hlen := lenOf pd_3 rfl) (hstack := rfl) (W := 0) (hW := by show 2 * 0 + _ ≤ _; exact Nat.le_of_eq rfl) (hd := (hb hby at_143)) (hf := by decide) (hl := by decide) (hc := by decide) (hs := by decide)
        have N51 := Fr.app N50 N51q
        refine own_step (S' := (T51.setTop (mkF m 146 #[.val (.long q1), .second, .val (.long q2), .second, .val (.long q3), .second, .val (.long q4), .second, .val (.int p5), .val (.long g), .second, .val (.long e2), .second, .val (.ref b35), .val (.ref b37), .val (.int (1 : Int32)), .val (.int (2 : Int32)), .val (.ref y50), .val (.int (0 : Int32)), .unset] [(.int (0 : Int32))]))) (fun _ k => st51 _ k) ?_
        refine own_step (S' := (T51.setTop (mkF m 148 #[.val (.long q1), .second, .val (.long q2), .second, .val (.long q3), .second, .val (.long q4), .second, .val (.int p5), .val (.long g), .second, .val (.long e2), .second, .val (.ref b35), .val (.ref b37), .val (.int (1 : Int32)), .val (.int (2 : Int32)), .val (.ref y50), .val (.int (0 : Int32)), .unset] [(.int (0 : Int32)), (.int (0 : Int32))]))) (fun _ k => XS.iload X51.here hx rfl (hb hby at_146) rfl k) ?_
        refine own_step (S' := (T51.setTop (mkF m 151 #[.val (.long q1), .second, .val (.long q2), .second, .val (.long q3), .second, .val (.long q4), .second, .val (.int p5), .val (.long g), .second, .val (.long e2), .second, .val (.ref b35), .val (.ref b37), .val (.int (1 : Int32)), .val (.int (2 : Int32)), .val (.ref y50), .val (.int (0 : Int32)), .unset] []))) (fun _ k => XS.icmpNo X51.here hx rfl (hb hby at_148) rfl (teq (by decide : (0 : Int32) = (0 : Int32))).2 k) ?_
        refine own_step (S' := (T51.setTop (mkF m 152 #[.val (.long q1), .second, .val (.long q2), .second, .val (.long q3), .second, .val (.long q4), .second, .val (.int p5), .val (.long g), .second, .val (.long e2), .second, .val (.ref b35), .val (.ref b37), .val (.int (1 : Int32)), .val (.int (2 : Int32)), .val (.ref y50), .val (.int (0 : Int32)), .unset] [(.int (1 : Int32))]))) (fun _ k => XS.iconst X51.here hx rfl (hb hby at_151) k) ?_
        refine own_step (S' := (T51.setTop (mkF m 156 #[.val (.long q1), .second, .val (.long q2), .second, .val (.long q3), .second, .val (.long q4), .second, .val (.int p5), .val (.long g), .second, .val (.long e2), .second, .val (.ref b35), .val (.ref b37), .val (.int (1 : Int32)), .val (.int (2 : Int32)), .val (.ref y50), .val (.int (0 : Int32)), .unset] [(.int (1 : Int32))]))) (fun _ k => XS.goto X51.here hx rfl (pc0 := 152) (pc' := 156) rfl (hb hby at_152) (by decide) (by decide) k) ?_
        refine own_step (S' := (T51.setTop (mkF m 158 #[.val (.long q1), .second, .val (.long q2), .second, .val (.long q3), .second, .val (.long q4), .second, .val (.int p5), .val (.long g), .second, .val (.long e2), .second, .val (.ref b35), .val (.ref b37), .val (.int (1 : Int32)), .val (.int (2 : Int32)), .val (.ref y50), .val (.int (0 : Int32)), .val (.int (1 : Int32))] []))) (fun _ k => XS.istore X51.here hx rfl (hb hby at_156) rfl (l' := #[.val (.long q1), .second, .val (.long q2), .second, .val (.long q3), .second, .val (.long q4), .second, .val (.int p5), .val (.long g), .second, .val (.long e2), .second, .val (.ref b35), .val (.ref b37), .val (.int (1 : Int32)), .val (.int (2 : Int32)), .val (.ref y50), .val (.int (0 : Int32)), .val (.int (1 : Int32))]) rfl k) ?_
        refine own_step (S' := (T51.setTop (mkF m 160 #[.val (.long q1), .second, .val (.long q2), .second, .val (.long q3), .second, .val (.long q4), .second, .val (.int p5), .val (.long g), .second, .val (.long e2), .second, .val (.ref b35), .val (.ref b37), .val (.int (1 : Int32)), .val (.int (2 : Int32)), .val (.ref y50), .val (.int (0 : Int32)), .val (.int (1 : Int32))] [(.int (2 : Int32))]))) (fun _ k => XS.iload X51.here hx rfl (hb hby at_158) rfl k) ?_
        refine own_step (S' := (T51.setTop (mkF m 187 #[.val (.long q1), .second, .val (.long q2), .second, .val (.long q3), .second, .val (.long q4), .second, .val (.int p5), .val (.long g), .second, .val (.long e2), .second, .val (.ref b35), .val (.ref b37), .val (.int (1 : Int32)), .val (.int (2 : Int32)), .val (.ref y50), .val (.int (0 : Int32)), .val (.int (1 : Int32))] []))) (fun _ k => XS.ifYes X51.here hx rfl (pc0 := 160) (pc' := 187) rfl (hb hby at_160) rfl ((if0 _ _).trans (feq (by decide : ¬ ((2 : Int32) = (0 : Int32)))).2) (by decide) (by decide) k) ?_
        refine own_step (S' := (T51.setTop (mkF m 189 #[.val (.long q1), .second, .val (.long q2), .second, .val (.long q3), .second, .val (.long q4), .second, .val (.int p5), .val (.long g), .second, .val (.long e2), .second, .val (.ref b35), .val (.ref b37), .val (.int (1 : Int32)), .val (.int (2 : Int32)), .val (.ref y50), .val (.int (0 : Int32)), .val (.int (1 : Int32))] [(.int (1 : Int32))]))) (fun _ k => XS.iload X51.here hx rfl (hb hby at_187) rfl k) ?_
        refine own_retN X51 hx hlk hret (by simp) (by decide) (hb hby at_189) (by decide) (by decide) ?_
        try rw [e51]
        exact ⟨rfl, N51⟩
      · rw [hr46]
        refine own_step (S' := (T38.setTop (mkF m 83 #[.val (.long q1), .second, .val (.long q2), .second, .val (.long q3), .second, .val (.long q4), .second, .val (.int p5), .val (.long g), .second, .val (.long e2), .second, .val (.ref b35), .val (.ref b37), .val (.int (1 : Int32)), .val (.int (3 : Int32)), .unset, .unset, .unset] []))) (fun _ k => XS.istore X38.here hx rfl (hb hby at_81) rfl (l' := #[.val (.long q1), .second, .val (.long q2), .second, .val (.long q3), .second, .val (.long q4), .second, .val (.int p5), .val (.long g), .second, .val (.long e2), .second, .val (.ref b35), .val (.ref b37), .val (.int (1 : Int32)), .val (.int (3 : Int32)), .unset, .unset, .unset]) rfl k) ?_
        refine own_step (S' := (T38.setTop (mkF m 85 #[.val (.long q1), .second, .val (.long q2), .second, .val (.long q3), .second, .val (.long q4), .second, .val (.int p5), .val (.long g), .second, .val (.long e2), .second, .val (.ref b35), .val (.ref b37), .val (.int (1 : Int32)), .val (.int (3 : Int32)), .unset, .unset, .unset] [(.int (3 : Int32))]))) (fun _ k => XS.iload X38.here hx rfl (hb hby at_83) rfl k) ?_
        refine own_step (S' := (T38.setTop (mkF m 99 #[.val (.long q1), .second, .val (.long q2), .second, .val (.long q3), .second, .val (.long q4), .second, .val (.int p5), .val (.long g), .second, .val (.long e2), .second, .val (.ref b35), .val (.ref b37), .val (.int (1 : Int32)), .val (.int (3 : Int32)), .unset, .unset, .unset] []))) (fun _ k => XS.ifYes X38.here hx rfl (pc0 := 85) (pc' := 99) rfl (hb hby at_85) rfl ((if0 _ _).trans (feq (by decide : ¬ ((3 : Int32) = (0 : Int32)))).2) (by decide) (by decide) k) ?_
        refine own_step (S' := (T38.setTop (mkF m 101 #[.val (.long q1), .second, .val (.long q2), .second, .val (.long q3), .second, .val (.long q4), .second, .val (.int p5), .val (.long g), .second, .val (.long e2), .second, .val (.ref b35), .val (.ref b37), .val (.int (1 : Int32)), .val (.int (3 : Int32)), .unset, .unset, .unset] [(.int (3 : Int32))]))) (fun _ k => XS.iload X38.here hx rfl (hb hby at_99) rfl k) ?_
        refine own_step (S' := (T38.setTop (mkF m 102 #[.val (.long q1), .second, .val (.long q2), .second, .val (.long q3), .second, .val (.long q4), .second, .val (.int p5), .val (.long g), .second, .val (.long e2), .second, .val (.ref b35), .val (.ref b37), .val (.int (1 : Int32)), .val (.int (3 : Int32)), .unset, .unset, .unset] [(.int (1 : Int32)), (.int (3 : Int32))]))) (fun _ k => XS.iconst X38.here hx rfl (hb hby at_101) k) ?_
        refine own_step (S' := (T38.setTop (mkF m 114 #[.val (.long q1), .second, .val (.long q2), .second, .val (.long q3), .second, .val (.long q4), .second, .val (.int p5), .val (.long g), .second, .val (.long e2), .second, .val (.ref b35), .val (.ref b37), .val (.int (1 : Int32)), .val (.int (3 : Int32)), .unset, .unset, .unset] []))) (fun _ k => XS.icmpYes X38.here hx rfl (pc0 := 102) (pc' := 114) rfl (hb hby at_102) rfl (feq (by decide : ¬ ((3 : Int32) = (1 : Int32)))).2 (by decide) (by decide) k) ?_
        refine own_step (S' := (T38.setTop (mkF m 116 #[.val (.long q1), .second, .val (.long q2), .second, .val (.long q3), .second, .val (.long q4), .second, .val (.int p5), .val (.long g), .second, .val (.long e2), .second, .val (.ref b35), .val (.ref b37), .val (.int (1 : Int32)), .val (.int (3 : Int32)), .unset, .unset, .unset] [(.int (3 : Int32))]))) (fun _ k => XS.iload X38.here hx rfl (hb hby at_114) rfl k) ?_
        refine own_step (S' := (T38.setTop (mkF m 117 #[.val (.long q1), .second, .val (.long q2), .second, .val (.long q3), .second, .val (.long q4), .second, .val (.int p5), .val (.long g), .second, .val (.long e2), .second, .val (.ref b35), .val (.ref b37), .val (.int (1 : Int32)), .val (.int (3 : Int32)), .unset, .unset, .unset] [(.int (2 : Int32)), (.int (3 : Int32))]))) (fun _ k => XS.iconst X38.here hx rfl (hb hby at_116) k) ?_
        refine own_step (S' := (T38.setTop (mkF m 132 #[.val (.long q1), .second, .val (.long q2), .second, .val (.long q3), .second, .val (.long q4), .second, .val (.int p5), .val (.long g), .second, .val (.long e2), .second, .val (.ref b35), .val (.ref b37), .val (.int (1 : Int32)), .val (.int (3 : Int32)), .unset, .unset, .unset] []))) (fun _ k => XS.icmpYes X38.here hx rfl (pc0 := 117) (pc' := 132) rfl (hb hby at_117) rfl (feq (by decide : ¬ ((3 : Int32) = (2 : Int32)))).2 (by decide) (by decide) k) ?_
        refine own_step (S' := (T38.setTop (mkF m 134 #[.val (.long q1), .second, .val (.long q2), .second, .val (.long q3), .second, .val (.long q4), .second, .val (.int p5), .val (.long g), .second, .val (.long e2), .second, .val (.ref b35), .val (.ref b37), .val (.int (1 : Int32)), .val (.int (3 : Int32)), .unset, .unset, .unset] [(.ref b35)]))) (fun _ k => XS.aload X38.here hx rfl (hb hby at_132) rfl rfl k) ?_
        refine own_step (S' := (T38.setTop (mkF m 136 #[.val (.long q1), .second, .val (.long q2), .second, .val (.long q3), .second, .val (.long q4), .second, .val (.int p5), .val (.long g), .second, .val (.long e2), .second, .val (.ref b35), .val (.ref b37), .val (.int (1 : Int32)), .val (.int (3 : Int32)), .val (.ref b35), .unset, .unset] []))) (fun _ k => XS.astore X38.here hx rfl (hb hby at_134) rfl rfl (l' := #[.val (.long q1), .second, .val (.long q2), .second, .val (.long q3), .second, .val (.long q4), .second, .val (.int p5), .val (.long g), .second, .val (.long e2), .second, .val (.ref b35), .val (.ref b37), .val (.int (1 : Int32)), .val (.int (3 : Int32)), .val (.ref b35), .unset, .unset]) rfl k) ?_
        refine own_step (S' := (T38.setTop (mkF m 137 #[.val (.long q1), .second, .val (.long q2), .second, .val (.long q3), .second, .val (.long q4), .second, .val (.int p5), .val (.long g), .second, .val (.long e2), .second, .val (.ref b35), .val (.ref b37), .val (.int (1 : Int32)), .val (.int (3 : Int32)), .val (.ref b35), .unset, .unset] [(.int (1 : Int32))]))) (fun _ k => XS.iconst X38.here hx rfl (hb hby at_136) k) ?_
        refine own_step (S' := (T38.setTop (mkF m 139 #[.val (.long q1), .second, .val (.long q2), .second, .val (.long q3), .second, .val (.long q4), .second, .val (.int p5), .val (.long g), .second, .val (.long e2), .second, .val (.ref b35), .val (.ref b37), .val (.int (1 : Int32)), .val (.int (3 : Int32)), .val (.ref b35), .val (.int (1 : Int32)), .unset] []))) (fun _ k => XS.istore X38.here hx rfl (hb hby at_137) rfl (l' := #[.val (.long q1), .second, .val (.long q2), .second, .val (.long q3), .second, .val (.long q4), .second, .val (.int p5), .val (.long g), .second, .val (.long e2), .second, .val (.ref b35), .val (.ref b37), .val (.int (1 : Int32)), .val (.int (3 : Int32)), .val (.ref b35), .val (.int (1 : Int32)), .unset]) rfl k) ?_
        refine own_step (S' := (T38.setTop (mkF m 141 #[.val (.long q1), .second, .val (.long q2), .second, .val (.long q3), .second, .val (.long q4), .second, .val (.int p5), .val (.long g), .second, .val (.long e2), .second, .val (.ref b35), .val (.ref b37), .val (.int (1 : Int32)), .val (.int (3 : Int32)), .val (.ref b35), .val (.int (1 : Int32)), .unset] [(.ref b35)]))) (fun _ k => XS.aload X38.here hx rfl (hb hby at_139) rfl rfl k) ?_
        refine own_step (S' := (T38.setTop (mkF m 143 #[.val (.long q1), .second, .val (.long q2), .second, .val (.long q3), .second, .val (.long q4), .second, .val (.int p5), .val (.long g), .second, .val (.long e2), .second, .val (.ref b35), .val (.ref b37), .val (.int (1 : Int32)), .val (.int (3 : Int32)), .val (.ref b35), .val (.int (1 : Int32)), .unset] [(.ref b35), (.ref b35)]))) (fun _ k => XS.aload X38.here hx rfl (hb hby at_141) rfl rfl k) ?_
        obtain ⟨_, T52, L52, X52, ⟨rfl, N52q, e52⟩, st52⟩ := own_virt (argsL := [(.ref b35)]) (rest := []) X38 hx hZ hown (hw _ (List.mem_of_getElem? (i := 13) rfl)) (hw _ (List.mem_of_getElem? (i := 14) rfl)) (notFace_of_selects (args := #[]) (mvT hZ (hw _ (List.mem_of_getElem? (i := 16) rfl)))) (hw _ (List.mem_of_getElem? (i := 16) rfl)) (hw _ (List.mem_of_getElem? (i := 15) rfl)) (by decide) (hw _ (List.mem_of_getElem? (i := 17) rfl)) (hw _ (List.mem_of_getElem? (i := 2) rfl)) rfl f41 (hM := rmQ_1 l Z a0 hw [] b35 b35 q1 q2 q1 q2 T38.heap n0 Zs45 f42 f43 f41 f42 f43 rfl rfl) (g := (mkF m 143 #[.val (.long q1), .second, .val (.long q2), .second, .val (.long q3), .second, .val (.long q4), .second, .val (.int p5), .val (.long g), .second, .val (.long e2), .second, .val (.ref b35), .val (.ref b37), .val (.int (1 : Int32)), .val (.int (3 : Int32)), .val (.ref b35), .val (.int (1 : Int32)), .unset] [(.ref b35), (.ref b35)])) (hg := rfl) (hsize := by rw [hml]; rfl) (hlen := lenOf pd_3 rfl) (hstack := rfl) (W := 0) (hW := by show 2 * 0 + _ ≤ _; exact Nat.le_of_eq rfl) (hd := (hb hby at_143)) (hf := by decide) (hl := by decide) (hc := by decide) (hs := by decide)
        have N52 := Fr.app N38 N52q
        refine own_step (S' := (T52.setTop (mkF m 146 #[.val (.long q1), .second, .val (.long q2), .second, .val (.long q3), .second, .val (.long q4), .second, .val (.int p5), .val (.long g), .second, .val (.long e2), .second, .val (.ref b35), .val (.ref b37), .val (.int (1 : Int32)), .val (.int (3 : Int32)), .val (.ref b35), .val (.int (1 : Int32)), .unset] [(.int (1 : Int32))]))) (fun _ k => st52 _ k) ?_
        refine own_step (S' := (T52.setTop (mkF m 148 #[.val (.long q1), .second, .val (.long q2), .second, .val (.long q3), .second, .val (.long q4), .second, .val (.int p5), .val (.long g), .second, .val (.long e2), .second, .val (.ref b35), .val (.ref b37), .val (.int (1 : Int32)), .val (.int (3 : Int32)), .val (.ref b35), .val (.int (1 : Int32)), .unset] [(.int (1 : Int32)), (.int (1 : Int32))]))) (fun _ k => XS.iload X52.here hx rfl (hb hby at_146) rfl k) ?_
        refine own_step (S' := (T52.setTop (mkF m 151 #[.val (.long q1), .second, .val (.long q2), .second, .val (.long q3), .second, .val (.long q4), .second, .val (.int p5), .val (.long g), .second, .val (.long e2), .second, .val (.ref b35), .val (.ref b37), .val (.int (1 : Int32)), .val (.int (3 : Int32)), .val (.ref b35), .val (.int (1 : Int32)), .unset] []))) (fun _ k => XS.icmpNo X52.here hx rfl (hb hby at_148) rfl (teq (by decide : (1 : Int32) = (1 : Int32))).2 k) ?_
        refine own_step (S' := (T52.setTop (mkF m 152 #[.val (.long q1), .second, .val (.long q2), .second, .val (.long q3), .second, .val (.long q4), .second, .val (.int p5), .val (.long g), .second, .val (.long e2), .second, .val (.ref b35), .val (.ref b37), .val (.int (1 : Int32)), .val (.int (3 : Int32)), .val (.ref b35), .val (.int (1 : Int32)), .unset] [(.int (1 : Int32))]))) (fun _ k => XS.iconst X52.here hx rfl (hb hby at_151) k) ?_
        refine own_step (S' := (T52.setTop (mkF m 156 #[.val (.long q1), .second, .val (.long q2), .second, .val (.long q3), .second, .val (.long q4), .second, .val (.int p5), .val (.long g), .second, .val (.long e2), .second, .val (.ref b35), .val (.ref b37), .val (.int (1 : Int32)), .val (.int (3 : Int32)), .val (.ref b35), .val (.int (1 : Int32)), .unset] [(.int (1 : Int32))]))) (fun _ k => XS.goto X52.here hx rfl (pc0 := 152) (pc' := 156) rfl (hb hby at_152) (by decide) (by decide) k) ?_
        refine own_step (S' := (T52.setTop (mkF m 158 #[.val (.long q1), .second, .val (.long q2), .second, .val (.long q3), .second, .val (.long q4), .second, .val (.int p5), .val (.long g), .second, .val (.long e2), .second, .val (.ref b35), .val (.ref b37), .val (.int (1 : Int32)), .val (.int (3 : Int32)), .val (.ref b35), .val (.int (1 : Int32)), .val (.int (1 : Int32))] []))) (fun _ k => XS.istore X52.here hx rfl (hb hby at_156) rfl (l' := #[.val (.long q1), .second, .val (.long q2), .second, .val (.long q3), .second, .val (.long q4), .second, .val (.int p5), .val (.long g), .second, .val (.long e2), .second, .val (.ref b35), .val (.ref b37), .val (.int (1 : Int32)), .val (.int (3 : Int32)), .val (.ref b35), .val (.int (1 : Int32)), .val (.int (1 : Int32))]) rfl k) ?_
        refine own_step (S' := (T52.setTop (mkF m 160 #[.val (.long q1), .second, .val (.long q2), .second, .val (.long q3), .second, .val (.long q4), .second, .val (.int p5), .val (.long g), .second, .val (.long e2), .second, .val (.ref b35), .val (.ref b37), .val (.int (1 : Int32)), .val (.int (3 : Int32)), .val (.ref b35), .val (.int (1 : Int32)), .val (.int (1 : Int32))] [(.int (3 : Int32))]))) (fun _ k => XS.iload X52.here hx rfl (hb hby at_158) rfl k) ?_
        refine own_step (S' := (T52.setTop (mkF m 187 #[.val (.long q1), .second, .val (.long q2), .second, .val (.long q3), .second, .val (.long q4), .second, .val (.int p5), .val (.long g), .second, .val (.long e2), .second, .val (.ref b35), .val (.ref b37), .val (.int (1 : Int32)), .val (.int (3 : Int32)), .val (.ref b35), .val (.int (1 : Int32)), .val (.int (1 : Int32))] []))) (fun _ k => XS.ifYes X52.here hx rfl (pc0 := 160) (pc' := 187) rfl (hb hby at_160) rfl ((if0 _ _).trans (feq (by decide : ¬ ((3 : Int32) = (0 : Int32)))).2) (by decide) (by decide) k) ?_
        refine own_step (S' := (T52.setTop (mkF m 189 #[.val (.long q1), .second, .val (.long q2), .second, .val (.long q3), .second, .val (.long q4), .second, .val (.int p5), .val (.long g), .second, .val (.long e2), .second, .val (.ref b35), .val (.ref b37), .val (.int (1 : Int32)), .val (.int (3 : Int32)), .val (.ref b35), .val (.int (1 : Int32)), .val (.int (1 : Int32))] [(.int (1 : Int32))]))) (fun _ k => XS.iload X52.here hx rfl (hb hby at_187) rfl k) ?_
        refine own_retN X52 hx hlk hret (by simp) (by decide) (hb hby at_189) (by decide) (by decide) ?_
        try rw [e52]
        exact ⟨rfl, N52⟩
    · refine own_step (S' := (T38.setTop (mkF m 72 #[.val (.long q1), .second, .val (.long q2), .second, .val (.long q3), .second, .val (.long q4), .second, .val (.int p5), .val (.long g), .second, .val (.long e2), .second, .val (.ref b35), .val (.ref b37), .unset, .unset, .unset, .unset, .unset] []))) (fun _ k => XS.ifYes X38.here hx rfl (pc0 := 65) (pc' := 72) rfl (hb hby at_65) rfl ((if0 _ _).trans (feq (fun q => hc40 ((lw_eq q2 e2).mp q))).2) (by decide) (by decide) k) ?_
      refine own_step (S' := (T38.setTop (mkF m 73 #[.val (.long q1), .second, .val (.long q2), .second, .val (.long q3), .second, .val (.long q4), .second, .val (.int p5), .val (.long g), .second, .val (.long e2), .second, .val (.ref b35), .val (.ref b37), .unset, .unset, .unset, .unset, .unset] [(.int (0 : Int32))]))) (fun _ k => XS.iconst X38.here hx rfl (hb hby at_72) k) ?_
      refine own_step (S' := (T38.setTop (mkF m 75 #[.val (.long q1), .second, .val (.long q2), .second, .val (.long q3), .second, .val (.long q4), .second, .val (.int p5), .val (.long g), .second, .val (.long e2), .second, .val (.ref b35), .val (.ref b37), .val (.int (0 : Int32)), .unset, .unset, .unset, .unset] []))) (fun _ k => XS.istore X38.here hx rfl (hb hby at_73) rfl (l' := #[.val (.long q1), .second, .val (.long q2), .second, .val (.long q3), .second, .val (.long q4), .second, .val (.int p5), .val (.long g), .second, .val (.long e2), .second, .val (.ref b35), .val (.ref b37), .val (.int (0 : Int32)), .unset, .unset, .unset, .unset]) rfl k) ?_
      refine own_step (S' := (T38.setTop (mkF m 77 #[.val (.long q1), .second, .val (.long q2), .second, .val (.long q3), .second, .val (.long q4), .second, .val (.int p5), .val (.long g), .second, .val (.long e2), .second, .val (.ref b35), .val (.ref b37), .val (.int (0 : Int32)), .unset, .unset, .unset, .unset] [(.int p5)]))) (fun _ k => XS.iload X38.here hx rfl (hb hby at_75) rfl k) ?_
      refine own_step (S' := (T38.setTop (mkF m 78 #[.val (.long q1), .second, .val (.long q2), .second, .val (.long q3), .second, .val (.long q4), .second, .val (.int p5), .val (.long g), .second, .val (.long e2), .second, .val (.ref b35), .val (.ref b37), .val (.int (0 : Int32)), .unset, .unset, .unset, .unset] [(.int (2 : Int32)), (.int p5)]))) (fun _ k => XS.iconst X38.here hx rfl (hb hby at_77) k) ?_
      refine own_step (S' := (T38.setTop (mkF m 79 #[.val (.long q1), .second, .val (.long q2), .second, .val (.long q3), .second, .val (.long q4), .second, .val (.int p5), .val (.long g), .second, .val (.long e2), .second, .val (.ref b35), .val (.ref b37), .val (.int (0 : Int32)), .unset, .unset, .unset, .unset] [(.int ((p5.toUInt32 >>> ((2 : Int32) &&& 31).toUInt32).toInt32))]))) (fun _ k => XS.iushr X38.here hx rfl (hb hby at_78) rfl k) ?_
      refine own_step (S' := (T38.setTop (mkF m 80 #[.val (.long q1), .second, .val (.long q2), .second, .val (.long q3), .second, .val (.long q4), .second, .val (.int p5), .val (.long g), .second, .val (.long e2), .second, .val (.ref b35), .val (.ref b37), .val (.int (0 : Int32)), .unset, .unset, .unset, .unset] [(.int (3 : Int32)), (.int ((p5.toUInt32 >>> ((2 : Int32) &&& 31).toUInt32).toInt32))]))) (fun _ k => XS.iconst X38.here hx rfl (hb hby at_79) k) ?_
      refine own_step (S' := (T38.setTop (mkF m 81 #[.val (.long q1), .second, .val (.long q2), .second, .val (.long q3), .second, .val (.long q4), .second, .val (.int p5), .val (.long g), .second, .val (.long e2), .second, .val (.ref b35), .val (.ref b37), .val (.int (0 : Int32)), .unset, .unset, .unset, .unset] [(.int (((p5.toUInt32 >>> ((2 : Int32) &&& 31).toUInt32).toInt32) &&& (3 : Int32)))]))) (fun _ k => XS.iand X38.here hx rfl (hb hby at_80) rfl k) ?_
      have f53 := (Exa.keep (Exa.ext E37 (Exa.keep A35 K36)) K38)
      have f54 := (Fld.keep (Fld.ext E37 Ff36) K38 (ninS (Nat.ne_of_lt (Nat.lt_of_lt_of_le Ff36.lt (Nat.le_of_eq g37.symm))) nin0))
      have f55 := (Fld.keep (Fld.ext E37 Fe36) K38 (ninS (Nat.ne_of_lt (Nat.lt_of_lt_of_le Fe36.lt (Nat.le_of_eq g37.symm))) nin0))
      have f56 := (Exa.keep A37 K38)
      have Zs57 : n0 ≤ T38.heap.size := (Nat.le_trans (Nat.le_trans (Nat.le_trans (Nat.le_trans Z0 E35.1) K36.1) E37.1) K38.1)
      rcases own_m4 p5 with hr58 | hr58 | hr58 | hr58
      · rw [hr58]
        refine own_step (S' := (T38.setTop (mkF m 83 #[.val (.long q1), .second, .val (.long q2), .second, .val (.long q3), .second, .val (.long q4), .second, .val (.int p5), .val (.long g), .second, .val (.long e2), .second, .val (.ref b35), .val (.ref b37), .val (.int (0 : Int32)), .val (.int (0 : Int32)), .unset, .unset, .unset] []))) (fun _ k => XS.istore X38.here hx rfl (hb hby at_81) rfl (l' := #[.val (.long q1), .second, .val (.long q2), .second, .val (.long q3), .second, .val (.long q4), .second, .val (.int p5), .val (.long g), .second, .val (.long e2), .second, .val (.ref b35), .val (.ref b37), .val (.int (0 : Int32)), .val (.int (0 : Int32)), .unset, .unset, .unset]) rfl k) ?_
        refine own_step (S' := (T38.setTop (mkF m 85 #[.val (.long q1), .second, .val (.long q2), .second, .val (.long q3), .second, .val (.long q4), .second, .val (.int p5), .val (.long g), .second, .val (.long e2), .second, .val (.ref b35), .val (.ref b37), .val (.int (0 : Int32)), .val (.int (0 : Int32)), .unset, .unset, .unset] [(.int (0 : Int32))]))) (fun _ k => XS.iload X38.here hx rfl (hb hby at_83) rfl k) ?_
        refine own_step (S' := (T38.setTop (mkF m 88 #[.val (.long q1), .second, .val (.long q2), .second, .val (.long q3), .second, .val (.long q4), .second, .val (.int p5), .val (.long g), .second, .val (.long e2), .second, .val (.ref b35), .val (.ref b37), .val (.int (0 : Int32)), .val (.int (0 : Int32)), .unset, .unset, .unset] []))) (fun _ k => XS.ifNo X38.here hx rfl (hb hby at_85) rfl ((if0 _ _).trans (teq (by decide : (0 : Int32) = (0 : Int32))).2) k) ?_
        refine own_step (S' := (T38.setTop (mkF m 90 #[.val (.long q1), .second, .val (.long q2), .second, .val (.long q3), .second, .val (.long q4), .second, .val (.int p5), .val (.long g), .second, .val (.long e2), .second, .val (.ref b35), .val (.ref b37), .val (.int (0 : Int32)), .val (.int (0 : Int32)), .unset, .unset, .unset] [(.ref b37)]))) (fun _ k => XS.aload X38.here hx rfl (hb hby at_88) rfl rfl k) ?_
        refine own_step (S' := (T38.setTop (mkF m 92 #[.val (.long q1), .second, .val (.long q2), .second, .val (.long q3), .second, .val (.long q4), .second, .val (.int p5), .val (.long g), .second, .val (.long e2), .second, .val (.ref b35), .val (.ref b37), .val (.int (0 : Int32)), .val (.int (0 : Int32)), .val (.ref b37), .unset, .unset] []))) (fun _ k => XS.astore X38.here hx rfl (hb hby at_90) rfl rfl (l' := #[.val (.long q1), .second, .val (.long q2), .second, .val (.long q3), .second, .val (.long q4), .second, .val (.int p5), .val (.long g), .second, .val (.long e2), .second, .val (.ref b35), .val (.ref b37), .val (.int (0 : Int32)), .val (.int (0 : Int32)), .val (.ref b37), .unset, .unset]) rfl k) ?_
        refine own_step (S' := (T38.setTop (mkF m 94 #[.val (.long q1), .second, .val (.long q2), .second, .val (.long q3), .second, .val (.long q4), .second, .val (.int p5), .val (.long g), .second, .val (.long e2), .second, .val (.ref b35), .val (.ref b37), .val (.int (0 : Int32)), .val (.int (0 : Int32)), .val (.ref b37), .unset, .unset] [(.int (0 : Int32))]))) (fun _ k => XS.iload X38.here hx rfl (hb hby at_92) rfl k) ?_
        refine own_step (S' := (T38.setTop (mkF m 96 #[.val (.long q1), .second, .val (.long q2), .second, .val (.long q3), .second, .val (.long q4), .second, .val (.int p5), .val (.long g), .second, .val (.long e2), .second, .val (.ref b35), .val (.ref b37), .val (.int (0 : Int32)), .val (.int (0 : Int32)), .val (.ref b37), .val (.int (0 : Int32)), .unset] []))) (fun _ k => XS.istore X38.here hx rfl (hb hby at_94) rfl (l' := #[.val (.long q1), .second, .val (.long q2), .second, .val (.long q3), .second, .val (.long q4), .second, .val (.int p5), .val (.long g), .second, .val (.long e2), .second, .val (.ref b35), .val (.ref b37), .val (.int (0 : Int32)), .val (.int (0 : Int32)), .val (.ref b37), .val (.int (0 : Int32)), .unset]) rfl k) ?_
        refine own_step (S' := (T38.setTop (mkF m 139 #[.val (.long q1), .second, .val (.long q2), .second, .val (.long q3), .second, .val (.long q4), .second, .val (.int p5), .val (.long g), .second, .val (.long e2), .second, .val (.ref b35), .val (.ref b37), .val (.int (0 : Int32)), .val (.int (0 : Int32)), .val (.ref b37), .val (.int (0 : Int32)), .unset] []))) (fun _ k => XS.goto X38.here hx rfl (pc0 := 96) (pc' := 139) rfl (hb hby at_96) (by decide) (by decide) k) ?_
        refine own_step (S' := (T38.setTop (mkF m 141 #[.val (.long q1), .second, .val (.long q2), .second, .val (.long q3), .second, .val (.long q4), .second, .val (.int p5), .val (.long g), .second, .val (.long e2), .second, .val (.ref b35), .val (.ref b37), .val (.int (0 : Int32)), .val (.int (0 : Int32)), .val (.ref b37), .val (.int (0 : Int32)), .unset] [(.ref b35)]))) (fun _ k => XS.aload X38.here hx rfl (hb hby at_139) rfl rfl k) ?_
        refine own_step (S' := (T38.setTop (mkF m 143 #[.val (.long q1), .second, .val (.long q2), .second, .val (.long q3), .second, .val (.long q4), .second, .val (.int p5), .val (.long g), .second, .val (.long e2), .second, .val (.ref b35), .val (.ref b37), .val (.int (0 : Int32)), .val (.int (0 : Int32)), .val (.ref b37), .val (.int (0 : Int32)), .unset] [(.ref b37), (.ref b35)]))) (fun _ k => XS.aload X38.here hx rfl (hb hby at_141) rfl rfl k) ?_
        obtain ⟨_, T59, L59, X59, ⟨rfl, N59q, e59⟩, st59⟩ := own_virt (argsL := [(.ref b37)]) (rest := []) X38 hx hZ hown (hw _ (List.mem_of_getElem? (i := 13) rfl)) (hw _ (List.mem_of_getElem? (i := 14) rfl)) (notFace_of_selects (args := #[]) (mvT hZ (hw _ (List.mem_of_getElem? (i := 16) rfl)))) (hw _ (List.mem_of_getElem? (i := 16) rfl)) (hw _ (List.mem_of_getElem? (i := 15) rfl)) (by decide) (hw _ (List.mem_of_getElem? (i := 17) rfl)) (hw _ (List.mem_of_getElem? (i := 2) rfl)) rfl f53 (hM := rmQ_e l Z a0 hw [] b35 b37 q1 q2 g e2 T38.heap n0 Zs57 f54 f55 f56 Ff38 Fe38 (Eq.symm hc39) (Ne.symm hc40)) (g := (mkF m 143 #[.val (.long q1), .second, .val (.long q2), .second, .val (.long q3), .second, .val (.long q4), .second, .val (.int p5), .val (.long g), .second, .val (.long e2), .second, .val (.ref b35), .val (.ref b37), .val (.int (0 : Int32)), .val (.int (0 : Int32)), .val (.ref b37), .val (.int (0 : Int32)), .unset] [(.ref b37), (.ref b35)])) (hg := rfl) (hsize := by rw [hml]; rfl) (hlen := lenOf pd_3 rfl) (hstack := rfl) (W := 0) (hW := by show 2 * 0 + _ ≤ _; exact Nat.le_of_eq rfl) (hd := (hb hby at_143)) (hf := by decide) (hl := by decide) (hc := by decide) (hs := by decide)
        have N59 := Fr.app N38 N59q
        refine own_step (S' := (T59.setTop (mkF m 146 #[.val (.long q1), .second, .val (.long q2), .second, .val (.long q3), .second, .val (.long q4), .second, .val (.int p5), .val (.long g), .second, .val (.long e2), .second, .val (.ref b35), .val (.ref b37), .val (.int (0 : Int32)), .val (.int (0 : Int32)), .val (.ref b37), .val (.int (0 : Int32)), .unset] [(.int (0 : Int32))]))) (fun _ k => st59 _ k) ?_
        refine own_step (S' := (T59.setTop (mkF m 148 #[.val (.long q1), .second, .val (.long q2), .second, .val (.long q3), .second, .val (.long q4), .second, .val (.int p5), .val (.long g), .second, .val (.long e2), .second, .val (.ref b35), .val (.ref b37), .val (.int (0 : Int32)), .val (.int (0 : Int32)), .val (.ref b37), .val (.int (0 : Int32)), .unset] [(.int (0 : Int32)), (.int (0 : Int32))]))) (fun _ k => XS.iload X59.here hx rfl (hb hby at_146) rfl k) ?_
        refine own_step (S' := (T59.setTop (mkF m 151 #[.val (.long q1), .second, .val (.long q2), .second, .val (.long q3), .second, .val (.long q4), .second, .val (.int p5), .val (.long g), .second, .val (.long e2), .second, .val (.ref b35), .val (.ref b37), .val (.int (0 : Int32)), .val (.int (0 : Int32)), .val (.ref b37), .val (.int (0 : Int32)), .unset] []))) (fun _ k => XS.icmpNo X59.here hx rfl (hb hby at_148) rfl (teq (by decide : (0 : Int32) = (0 : Int32))).2 k) ?_
        refine own_step (S' := (T59.setTop (mkF m 152 #[.val (.long q1), .second, .val (.long q2), .second, .val (.long q3), .second, .val (.long q4), .second, .val (.int p5), .val (.long g), .second, .val (.long e2), .second, .val (.ref b35), .val (.ref b37), .val (.int (0 : Int32)), .val (.int (0 : Int32)), .val (.ref b37), .val (.int (0 : Int32)), .unset] [(.int (1 : Int32))]))) (fun _ k => XS.iconst X59.here hx rfl (hb hby at_151) k) ?_
        refine own_step (S' := (T59.setTop (mkF m 156 #[.val (.long q1), .second, .val (.long q2), .second, .val (.long q3), .second, .val (.long q4), .second, .val (.int p5), .val (.long g), .second, .val (.long e2), .second, .val (.ref b35), .val (.ref b37), .val (.int (0 : Int32)), .val (.int (0 : Int32)), .val (.ref b37), .val (.int (0 : Int32)), .unset] [(.int (1 : Int32))]))) (fun _ k => XS.goto X59.here hx rfl (pc0 := 152) (pc' := 156) rfl (hb hby at_152) (by decide) (by decide) k) ?_
        refine own_step (S' := (T59.setTop (mkF m 158 #[.val (.long q1), .second, .val (.long q2), .second, .val (.long q3), .second, .val (.long q4), .second, .val (.int p5), .val (.long g), .second, .val (.long e2), .second, .val (.ref b35), .val (.ref b37), .val (.int (0 : Int32)), .val (.int (0 : Int32)), .val (.ref b37), .val (.int (0 : Int32)), .val (.int (1 : Int32))] []))) (fun _ k => XS.istore X59.here hx rfl (hb hby at_156) rfl (l' := #[.val (.long q1), .second, .val (.long q2), .second, .val (.long q3), .second, .val (.long q4), .second, .val (.int p5), .val (.long g), .second, .val (.long e2), .second, .val (.ref b35), .val (.ref b37), .val (.int (0 : Int32)), .val (.int (0 : Int32)), .val (.ref b37), .val (.int (0 : Int32)), .val (.int (1 : Int32))]) rfl k) ?_
        refine own_step (S' := (T59.setTop (mkF m 160 #[.val (.long q1), .second, .val (.long q2), .second, .val (.long q3), .second, .val (.long q4), .second, .val (.int p5), .val (.long g), .second, .val (.long e2), .second, .val (.ref b35), .val (.ref b37), .val (.int (0 : Int32)), .val (.int (0 : Int32)), .val (.ref b37), .val (.int (0 : Int32)), .val (.int (1 : Int32))] [(.int (0 : Int32))]))) (fun _ k => XS.iload X59.here hx rfl (hb hby at_158) rfl k) ?_
        refine own_step (S' := (T59.setTop (mkF m 163 #[.val (.long q1), .second, .val (.long q2), .second, .val (.long q3), .second, .val (.long q4), .second, .val (.int p5), .val (.long g), .second, .val (.long e2), .second, .val (.ref b35), .val (.ref b37), .val (.int (0 : Int32)), .val (.int (0 : Int32)), .val (.ref b37), .val (.int (0 : Int32)), .val (.int (1 : Int32))] []))) (fun _ k => XS.ifNo X59.here hx rfl (hb hby at_160) rfl ((if0 _ _).trans (teq (by decide : (0 : Int32) = (0 : Int32))).2) k) ?_
        refine own_step (S' := (T59.setTop (mkF m 165 #[.val (.long q1), .second, .val (.long q2), .second, .val (.long q3), .second, .val (.long q4), .second, .val (.int p5), .val (.long g), .second, .val (.long e2), .second, .val (.ref b35), .val (.ref b37), .val (.int (0 : Int32)), .val (.int (0 : Int32)), .val (.ref b37), .val (.int (0 : Int32)), .val (.int (1 : Int32))] [(.int (1 : Int32))]))) (fun _ k => XS.iload X59.here hx rfl (hb hby at_163) rfl k) ?_
        refine own_step (S' := (T59.setTop (mkF m 168 #[.val (.long q1), .second, .val (.long q2), .second, .val (.long q3), .second, .val (.long q4), .second, .val (.int p5), .val (.long g), .second, .val (.long e2), .second, .val (.ref b35), .val (.ref b37), .val (.int (0 : Int32)), .val (.int (0 : Int32)), .val (.ref b37), .val (.int (0 : Int32)), .val (.int (1 : Int32))] []))) (fun _ k => XS.ifNo X59.here hx rfl (hb hby at_165) rfl ((if0 _ _).trans (feq (by decide : ¬ ((1 : Int32) = (0 : Int32)))).1) k) ?_
        refine own_step (S' := (T59.setTop (mkF m 170 #[.val (.long q1), .second, .val (.long q2), .second, .val (.long q3), .second, .val (.long q4), .second, .val (.int p5), .val (.long g), .second, .val (.long e2), .second, .val (.ref b35), .val (.ref b37), .val (.int (0 : Int32)), .val (.int (0 : Int32)), .val (.ref b37), .val (.int (0 : Int32)), .val (.int (1 : Int32))] [(.ref b37)]))) (fun _ k => XS.aload X59.here hx rfl (hb hby at_168) rfl rfl k) ?_
        refine own_step (S' := (T59.setTop (mkF m 172 #[.val (.long q1), .second, .val (.long q2), .second, .val (.long q3), .second, .val (.long q4), .second, .val (.int p5), .val (.long g), .second, .val (.long e2), .second, .val (.ref b35), .val (.ref b37), .val (.int (0 : Int32)), .val (.int (0 : Int32)), .val (.ref b37), .val (.int (0 : Int32)), .val (.int (1 : Int32))] [(.ref b35), (.ref b37)]))) (fun _ k => XS.aload X59.here hx rfl (hb hby at_170) rfl rfl k) ?_
        obtain ⟨_, T60, L60, X60, ⟨rfl, N60q, e60⟩, st60⟩ := own_virt (argsL := [(.ref b35)]) (rest := []) X59 hx hZ hown (hw _ (List.mem_of_getElem? (i := 13) rfl)) (hw _ (List.mem_of_getElem? (i := 14) rfl)) (notFace_of_selects (args := #[]) (mvT hZ (hw _ (List.mem_of_getElem? (i := 16) rfl)))) (hw _ (List.mem_of_getElem? (i := 16) rfl)) (hw _ (List.mem_of_getElem? (i := 15) rfl)) (by decide) (hw _ (List.mem_of_getElem? (i := 17) rfl)) (hw _ (List.mem_of_getElem? (i := 2) rfl)) e59 f56 (hM := rmQ_e l Z a0 hw [] b37 b35 g e2 q1 q2 T38.heap n0 Zs57 Ff38 Fe38 f53 f54 f55 hc39 hc40) (g := (mkF m 172 #[.val (.long q1), .second, .val (.long q2), .second, .val (.long q3), .second, .val (.long q4), .second, .val (.int p5), .val (.long g), .second, .val (.long e2), .second, .val (.ref b35), .val (.ref b37), .val (.int (0 : Int32)), .val (.int (0 : Int32)), .val (.ref b37), .val (.int (0 : Int32)), .val (.int (1 : Int32))] [(.ref b35), (.ref b37)])) (hg := rfl) (hsize := by rw [hml]; rfl) (hlen := lenOf pd_3 rfl) (hstack := rfl) (W := 0) (hW := by show 2 * 0 + _ ≤ _; exact Nat.le_of_eq rfl) (hd := (hb hby at_172)) (hf := by decide) (hl := by decide) (hc := by decide) (hs := by decide)
        have N60 := Fr.app N59 N60q
        refine own_step (S' := (T60.setTop (mkF m 175 #[.val (.long q1), .second, .val (.long q2), .second, .val (.long q3), .second, .val (.long q4), .second, .val (.int p5), .val (.long g), .second, .val (.long e2), .second, .val (.ref b35), .val (.ref b37), .val (.int (0 : Int32)), .val (.int (0 : Int32)), .val (.ref b37), .val (.int (0 : Int32)), .val (.int (1 : Int32))] [(.int (0 : Int32))]))) (fun _ k => st60 _ k) ?_
        refine own_step (S' := (T60.setTop (mkF m 177 #[.val (.long q1), .second, .val (.long q2), .second, .val (.long q3), .second, .val (.long q4), .second, .val (.int p5), .val (.long g), .second, .val (.long e2), .second, .val (.ref b35), .val (.ref b37), .val (.int (0 : Int32)), .val (.int (0 : Int32)), .val (.ref b37), .val (.int (0 : Int32)), .val (.int (1 : Int32))] [(.int (0 : Int32)), (.int (0 : Int32))]))) (fun _ k => XS.iload X60.here hx rfl (hb hby at_175) rfl k) ?_
        refine own_step (S' := (T60.setTop (mkF m 180 #[.val (.long q1), .second, .val (.long q2), .second, .val (.long q3), .second, .val (.long q4), .second, .val (.int p5), .val (.long g), .second, .val (.long e2), .second, .val (.ref b35), .val (.ref b37), .val (.int (0 : Int32)), .val (.int (0 : Int32)), .val (.ref b37), .val (.int (0 : Int32)), .val (.int (1 : Int32))] []))) (fun _ k => XS.icmpNo X60.here hx rfl (hb hby at_177) rfl (teq (by decide : (0 : Int32) = (0 : Int32))).2 k) ?_
        refine own_step (S' := (T60.setTop (mkF m 181 #[.val (.long q1), .second, .val (.long q2), .second, .val (.long q3), .second, .val (.long q4), .second, .val (.int p5), .val (.long g), .second, .val (.long e2), .second, .val (.ref b35), .val (.ref b37), .val (.int (0 : Int32)), .val (.int (0 : Int32)), .val (.ref b37), .val (.int (0 : Int32)), .val (.int (1 : Int32))] [(.int (1 : Int32))]))) (fun _ k => XS.iconst X60.here hx rfl (hb hby at_180) k) ?_
        refine own_step (S' := (T60.setTop (mkF m 185 #[.val (.long q1), .second, .val (.long q2), .second, .val (.long q3), .second, .val (.long q4), .second, .val (.int p5), .val (.long g), .second, .val (.long e2), .second, .val (.ref b35), .val (.ref b37), .val (.int (0 : Int32)), .val (.int (0 : Int32)), .val (.ref b37), .val (.int (0 : Int32)), .val (.int (1 : Int32))] [(.int (1 : Int32))]))) (fun _ k => XS.goto X60.here hx rfl (pc0 := 181) (pc' := 185) rfl (hb hby at_181) (by decide) (by decide) k) ?_
        refine own_step (S' := (T60.setTop (mkF m 187 #[.val (.long q1), .second, .val (.long q2), .second, .val (.long q3), .second, .val (.long q4), .second, .val (.int p5), .val (.long g), .second, .val (.long e2), .second, .val (.ref b35), .val (.ref b37), .val (.int (0 : Int32)), .val (.int (0 : Int32)), .val (.ref b37), .val (.int (0 : Int32)), .val (.int (1 : Int32))] []))) (fun _ k => XS.istore X60.here hx rfl (hb hby at_185) rfl (l' := #[.val (.long q1), .second, .val (.long q2), .second, .val (.long q3), .second, .val (.long q4), .second, .val (.int p5), .val (.long g), .second, .val (.long e2), .second, .val (.ref b35), .val (.ref b37), .val (.int (0 : Int32)), .val (.int (0 : Int32)), .val (.ref b37), .val (.int (0 : Int32)), .val (.int (1 : Int32))]) rfl k) ?_
        refine own_step (S' := (T60.setTop (mkF m 189 #[.val (.long q1), .second, .val (.long q2), .second, .val (.long q3), .second, .val (.long q4), .second, .val (.int p5), .val (.long g), .second, .val (.long e2), .second, .val (.ref b35), .val (.ref b37), .val (.int (0 : Int32)), .val (.int (0 : Int32)), .val (.ref b37), .val (.int (0 : Int32)), .val (.int (1 : Int32))] [(.int (1 : Int32))]))) (fun _ k => XS.iload X60.here hx rfl (hb hby at_187) rfl k) ?_
        refine own_retN X60 hx hlk hret (by simp) (by decide) (hb hby at_189) (by decide) (by decide) ?_
        try rw [e60]
        exact ⟨rfl, N60⟩
      · rw [hr58]
        refine own_step (S' := (T38.setTop (mkF m 83 #[.val (.long q1), .second, .val (.long q2), .second, .val (.long q3), .second, .val (.long q4), .second, .val (.int p5), .val (.long g), .second, .val (.long e2), .second, .val (.ref b35), .val (.ref b37), .val (.int (0 : Int32)), .val (.int (1 : Int32)), .unset, .unset, .unset] []))) (fun _ k => XS.istore X38.here hx rfl (hb hby at_81) rfl (l' := #[.val (.long q1), .second, .val (.long q2), .second, .val (.long q3), .second, .val (.long q4), .second, .val (.int p5), .val (.long g), .second, .val (.long e2), .second, .val (.ref b35), .val (.ref b37), .val (.int (0 : Int32)), .val (.int (1 : Int32)), .unset, .unset, .unset]) rfl k) ?_
        refine own_step (S' := (T38.setTop (mkF m 85 #[.val (.long q1), .second, .val (.long q2), .second, .val (.long q3), .second, .val (.long q4), .second, .val (.int p5), .val (.long g), .second, .val (.long e2), .second, .val (.ref b35), .val (.ref b37), .val (.int (0 : Int32)), .val (.int (1 : Int32)), .unset, .unset, .unset] [(.int (1 : Int32))]))) (fun _ k => XS.iload X38.here hx rfl (hb hby at_83) rfl k) ?_
        refine own_step (S' := (T38.setTop (mkF m 99 #[.val (.long q1), .second, .val (.long q2), .second, .val (.long q3), .second, .val (.long q4), .second, .val (.int p5), .val (.long g), .second, .val (.long e2), .second, .val (.ref b35), .val (.ref b37), .val (.int (0 : Int32)), .val (.int (1 : Int32)), .unset, .unset, .unset] []))) (fun _ k => XS.ifYes X38.here hx rfl (pc0 := 85) (pc' := 99) rfl (hb hby at_85) rfl ((if0 _ _).trans (feq (by decide : ¬ ((1 : Int32) = (0 : Int32)))).2) (by decide) (by decide) k) ?_
        refine own_step (S' := (T38.setTop (mkF m 101 #[.val (.long q1), .second, .val (.long q2), .second, .val (.long q3), .second, .val (.long q4), .second, .val (.int p5), .val (.long g), .second, .val (.long e2), .second, .val (.ref b35), .val (.ref b37), .val (.int (0 : Int32)), .val (.int (1 : Int32)), .unset, .unset, .unset] [(.int (1 : Int32))]))) (fun _ k => XS.iload X38.here hx rfl (hb hby at_99) rfl k) ?_
        refine own_step (S' := (T38.setTop (mkF m 102 #[.val (.long q1), .second, .val (.long q2), .second, .val (.long q3), .second, .val (.long q4), .second, .val (.int p5), .val (.long g), .second, .val (.long e2), .second, .val (.ref b35), .val (.ref b37), .val (.int (0 : Int32)), .val (.int (1 : Int32)), .unset, .unset, .unset] [(.int (1 : Int32)), (.int (1 : Int32))]))) (fun _ k => XS.iconst X38.here hx rfl (hb hby at_101) k) ?_
        refine own_step (S' := (T38.setTop (mkF m 105 #[.val (.long q1), .second, .val (.long q2), .second, .val (.long q3), .second, .val (.long q4), .second, .val (.int p5), .val (.long g), .second, .val (.long e2), .second, .val (.ref b35), .val (.ref b37), .val (.int (0 : Int32)), .val (.int (1 : Int32)), .unset, .unset, .unset] []))) (fun _ k => XS.icmpNo X38.here hx rfl (hb hby at_102) rfl (teq (by decide : (1 : Int32) = (1 : Int32))).2 k) ?_
        refine own_step (S' := (T38.setTop (mkF m 106 #[.val (.long q1), .second, .val (.long q2), .second, .val (.long q3), .second, .val (.long q4), .second, .val (.int p5), .val (.long g), .second, .val (.long e2), .second, .val (.ref b35), .val (.ref b37), .val (.int (0 : Int32)), .val (.int (1 : Int32)), .unset, .unset, .unset] [.null]))) (fun _ k => XS.aconstNull X38.here hx rfl (hb hby at_105) k) ?_
        refine own_step (S' := (T38.setTop (mkF m 108 #[.val (.long q1), .second, .val (.long q2), .second, .val (.long q3), .second, .val (.long q4), .second, .val (.int p5), .val (.long g), .second, .val (.long e2), .second, .val (.ref b35), .val (.ref b37), .val (.int (0 : Int32)), .val (.int (1 : Int32)), .val .null, .unset, .unset] []))) (fun _ k => XS.astore X38.here hx rfl (hb hby at_106) rfl rfl (l' := #[.val (.long q1), .second, .val (.long q2), .second, .val (.long q3), .second, .val (.long q4), .second, .val (.int p5), .val (.long g), .second, .val (.long e2), .second, .val (.ref b35), .val (.ref b37), .val (.int (0 : Int32)), .val (.int (1 : Int32)), .val .null, .unset, .unset]) rfl k) ?_
        refine own_step (S' := (T38.setTop (mkF m 109 #[.val (.long q1), .second, .val (.long q2), .second, .val (.long q3), .second, .val (.long q4), .second, .val (.int p5), .val (.long g), .second, .val (.long e2), .second, .val (.ref b35), .val (.ref b37), .val (.int (0 : Int32)), .val (.int (1 : Int32)), .val .null, .unset, .unset] [(.int (0 : Int32))]))) (fun _ k => XS.iconst X38.here hx rfl (hb hby at_108) k) ?_
        refine own_step (S' := (T38.setTop (mkF m 111 #[.val (.long q1), .second, .val (.long q2), .second, .val (.long q3), .second, .val (.long q4), .second, .val (.int p5), .val (.long g), .second, .val (.long e2), .second, .val (.ref b35), .val (.ref b37), .val (.int (0 : Int32)), .val (.int (1 : Int32)), .val .null, .val (.int (0 : Int32)), .unset] []))) (fun _ k => XS.istore X38.here hx rfl (hb hby at_109) rfl (l' := #[.val (.long q1), .second, .val (.long q2), .second, .val (.long q3), .second, .val (.long q4), .second, .val (.int p5), .val (.long g), .second, .val (.long e2), .second, .val (.ref b35), .val (.ref b37), .val (.int (0 : Int32)), .val (.int (1 : Int32)), .val .null, .val (.int (0 : Int32)), .unset]) rfl k) ?_
        refine own_step (S' := (T38.setTop (mkF m 139 #[.val (.long q1), .second, .val (.long q2), .second, .val (.long q3), .second, .val (.long q4), .second, .val (.int p5), .val (.long g), .second, .val (.long e2), .second, .val (.ref b35), .val (.ref b37), .val (.int (0 : Int32)), .val (.int (1 : Int32)), .val .null, .val (.int (0 : Int32)), .unset] []))) (fun _ k => XS.goto X38.here hx rfl (pc0 := 111) (pc' := 139) rfl (hb hby at_111) (by decide) (by decide) k) ?_
        refine own_step (S' := (T38.setTop (mkF m 141 #[.val (.long q1), .second, .val (.long q2), .second, .val (.long q3), .second, .val (.long q4), .second, .val (.int p5), .val (.long g), .second, .val (.long e2), .second, .val (.ref b35), .val (.ref b37), .val (.int (0 : Int32)), .val (.int (1 : Int32)), .val .null, .val (.int (0 : Int32)), .unset] [(.ref b35)]))) (fun _ k => XS.aload X38.here hx rfl (hb hby at_139) rfl rfl k) ?_
        refine own_step (S' := (T38.setTop (mkF m 143 #[.val (.long q1), .second, .val (.long q2), .second, .val (.long q3), .second, .val (.long q4), .second, .val (.int p5), .val (.long g), .second, .val (.long e2), .second, .val (.ref b35), .val (.ref b37), .val (.int (0 : Int32)), .val (.int (1 : Int32)), .val .null, .val (.int (0 : Int32)), .unset] [.null, (.ref b35)]))) (fun _ k => XS.aload X38.here hx rfl (hb hby at_141) rfl rfl k) ?_
        obtain ⟨_, T61, L61, X61, ⟨rfl, N61q, e61⟩, st61⟩ := own_virt (argsL := [.null]) (rest := []) X38 hx hZ hown (hw _ (List.mem_of_getElem? (i := 13) rfl)) (hw _ (List.mem_of_getElem? (i := 14) rfl)) (notFace_of_selects (args := #[]) (mvT hZ (hw _ (List.mem_of_getElem? (i := 16) rfl)))) (hw _ (List.mem_of_getElem? (i := 16) rfl)) (hw _ (List.mem_of_getElem? (i := 15) rfl)) (by decide) (hw _ (List.mem_of_getElem? (i := 17) rfl)) (hw _ (List.mem_of_getElem? (i := 2) rfl)) rfl f53 (hM := rmQn l Z a0 hw [] b35 T38.heap n0 Zs57) (g := (mkF m 143 #[.val (.long q1), .second, .val (.long q2), .second, .val (.long q3), .second, .val (.long q4), .second, .val (.int p5), .val (.long g), .second, .val (.long e2), .second, .val (.ref b35), .val (.ref b37), .val (.int (0 : Int32)), .val (.int (1 : Int32)), .val .null, .val (.int (0 : Int32)), .unset] [.null, (.ref b35)])) (hg := rfl) (hsize := by rw [hml]; rfl) (hlen := lenOf pd_3 rfl) (hstack := rfl) (W := 0) (hW := by show 2 * 0 + _ ≤ _; exact Nat.le_of_eq rfl) (hd := (hb hby at_143)) (hf := by decide) (hl := by decide) (hc := by decide) (hs := by decide)
        have N61 := Fr.app N38 N61q
        refine own_step (S' := (T61.setTop (mkF m 146 #[.val (.long q1), .second, .val (.long q2), .second, .val (.long q3), .second, .val (.long q4), .second, .val (.int p5), .val (.long g), .second, .val (.long e2), .second, .val (.ref b35), .val (.ref b37), .val (.int (0 : Int32)), .val (.int (1 : Int32)), .val .null, .val (.int (0 : Int32)), .unset] [(.int (0 : Int32))]))) (fun _ k => st61 _ k) ?_
        refine own_step (S' := (T61.setTop (mkF m 148 #[.val (.long q1), .second, .val (.long q2), .second, .val (.long q3), .second, .val (.long q4), .second, .val (.int p5), .val (.long g), .second, .val (.long e2), .second, .val (.ref b35), .val (.ref b37), .val (.int (0 : Int32)), .val (.int (1 : Int32)), .val .null, .val (.int (0 : Int32)), .unset] [(.int (0 : Int32)), (.int (0 : Int32))]))) (fun _ k => XS.iload X61.here hx rfl (hb hby at_146) rfl k) ?_
        refine own_step (S' := (T61.setTop (mkF m 151 #[.val (.long q1), .second, .val (.long q2), .second, .val (.long q3), .second, .val (.long q4), .second, .val (.int p5), .val (.long g), .second, .val (.long e2), .second, .val (.ref b35), .val (.ref b37), .val (.int (0 : Int32)), .val (.int (1 : Int32)), .val .null, .val (.int (0 : Int32)), .unset] []))) (fun _ k => XS.icmpNo X61.here hx rfl (hb hby at_148) rfl (teq (by decide : (0 : Int32) = (0 : Int32))).2 k) ?_
        refine own_step (S' := (T61.setTop (mkF m 152 #[.val (.long q1), .second, .val (.long q2), .second, .val (.long q3), .second, .val (.long q4), .second, .val (.int p5), .val (.long g), .second, .val (.long e2), .second, .val (.ref b35), .val (.ref b37), .val (.int (0 : Int32)), .val (.int (1 : Int32)), .val .null, .val (.int (0 : Int32)), .unset] [(.int (1 : Int32))]))) (fun _ k => XS.iconst X61.here hx rfl (hb hby at_151) k) ?_
        refine own_step (S' := (T61.setTop (mkF m 156 #[.val (.long q1), .second, .val (.long q2), .second, .val (.long q3), .second, .val (.long q4), .second, .val (.int p5), .val (.long g), .second, .val (.long e2), .second, .val (.ref b35), .val (.ref b37), .val (.int (0 : Int32)), .val (.int (1 : Int32)), .val .null, .val (.int (0 : Int32)), .unset] [(.int (1 : Int32))]))) (fun _ k => XS.goto X61.here hx rfl (pc0 := 152) (pc' := 156) rfl (hb hby at_152) (by decide) (by decide) k) ?_
        refine own_step (S' := (T61.setTop (mkF m 158 #[.val (.long q1), .second, .val (.long q2), .second, .val (.long q3), .second, .val (.long q4), .second, .val (.int p5), .val (.long g), .second, .val (.long e2), .second, .val (.ref b35), .val (.ref b37), .val (.int (0 : Int32)), .val (.int (1 : Int32)), .val .null, .val (.int (0 : Int32)), .val (.int (1 : Int32))] []))) (fun _ k => XS.istore X61.here hx rfl (hb hby at_156) rfl (l' := #[.val (.long q1), .second, .val (.long q2), .second, .val (.long q3), .second, .val (.long q4), .second, .val (.int p5), .val (.long g), .second, .val (.long e2), .second, .val (.ref b35), .val (.ref b37), .val (.int (0 : Int32)), .val (.int (1 : Int32)), .val .null, .val (.int (0 : Int32)), .val (.int (1 : Int32))]) rfl k) ?_
        refine own_step (S' := (T61.setTop (mkF m 160 #[.val (.long q1), .second, .val (.long q2), .second, .val (.long q3), .second, .val (.long q4), .second, .val (.int p5), .val (.long g), .second, .val (.long e2), .second, .val (.ref b35), .val (.ref b37), .val (.int (0 : Int32)), .val (.int (1 : Int32)), .val .null, .val (.int (0 : Int32)), .val (.int (1 : Int32))] [(.int (1 : Int32))]))) (fun _ k => XS.iload X61.here hx rfl (hb hby at_158) rfl k) ?_
        refine own_step (S' := (T61.setTop (mkF m 187 #[.val (.long q1), .second, .val (.long q2), .second, .val (.long q3), .second, .val (.long q4), .second, .val (.int p5), .val (.long g), .second, .val (.long e2), .second, .val (.ref b35), .val (.ref b37), .val (.int (0 : Int32)), .val (.int (1 : Int32)), .val .null, .val (.int (0 : Int32)), .val (.int (1 : Int32))] []))) (fun _ k => XS.ifYes X61.here hx rfl (pc0 := 160) (pc' := 187) rfl (hb hby at_160) rfl ((if0 _ _).trans (feq (by decide : ¬ ((1 : Int32) = (0 : Int32)))).2) (by decide) (by decide) k) ?_
        refine own_step (S' := (T61.setTop (mkF m 189 #[.val (.long q1), .second, .val (.long q2), .second, .val (.long q3), .second, .val (.long q4), .second, .val (.int p5), .val (.long g), .second, .val (.long e2), .second, .val (.ref b35), .val (.ref b37), .val (.int (0 : Int32)), .val (.int (1 : Int32)), .val .null, .val (.int (0 : Int32)), .val (.int (1 : Int32))] [(.int (1 : Int32))]))) (fun _ k => XS.iload X61.here hx rfl (hb hby at_187) rfl k) ?_
        refine own_retN X61 hx hlk hret (by simp) (by decide) (hb hby at_189) (by decide) (by decide) ?_
        try rw [e61]
        exact ⟨rfl, N61⟩
      · rw [hr58]
        refine own_step (S' := (T38.setTop (mkF m 83 #[.val (.long q1), .second, .val (.long q2), .second, .val (.long q3), .second, .val (.long q4), .second, .val (.int p5), .val (.long g), .second, .val (.long e2), .second, .val (.ref b35), .val (.ref b37), .val (.int (0 : Int32)), .val (.int (2 : Int32)), .unset, .unset, .unset] []))) (fun _ k => XS.istore X38.here hx rfl (hb hby at_81) rfl (l' := #[.val (.long q1), .second, .val (.long q2), .second, .val (.long q3), .second, .val (.long q4), .second, .val (.int p5), .val (.long g), .second, .val (.long e2), .second, .val (.ref b35), .val (.ref b37), .val (.int (0 : Int32)), .val (.int (2 : Int32)), .unset, .unset, .unset]) rfl k) ?_
        refine own_step (S' := (T38.setTop (mkF m 85 #[.val (.long q1), .second, .val (.long q2), .second, .val (.long q3), .second, .val (.long q4), .second, .val (.int p5), .val (.long g), .second, .val (.long e2), .second, .val (.ref b35), .val (.ref b37), .val (.int (0 : Int32)), .val (.int (2 : Int32)), .unset, .unset, .unset] [(.int (2 : Int32))]))) (fun _ k => XS.iload X38.here hx rfl (hb hby at_83) rfl k) ?_
        refine own_step (S' := (T38.setTop (mkF m 99 #[.val (.long q1), .second, .val (.long q2), .second, .val (.long q3), .second, .val (.long q4), .second, .val (.int p5), .val (.long g), .second, .val (.long e2), .second, .val (.ref b35), .val (.ref b37), .val (.int (0 : Int32)), .val (.int (2 : Int32)), .unset, .unset, .unset] []))) (fun _ k => XS.ifYes X38.here hx rfl (pc0 := 85) (pc' := 99) rfl (hb hby at_85) rfl ((if0 _ _).trans (feq (by decide : ¬ ((2 : Int32) = (0 : Int32)))).2) (by decide) (by decide) k) ?_
        refine own_step (S' := (T38.setTop (mkF m 101 #[.val (.long q1), .second, .val (.long q2), .second, .val (.long q3), .second, .val (.long q4), .second, .val (.int p5), .val (.long g), .second, .val (.long e2), .second, .val (.ref b35), .val (.ref b37), .val (.int (0 : Int32)), .val (.int (2 : Int32)), .unset, .unset, .unset] [(.int (2 : Int32))]))) (fun _ k => XS.iload X38.here hx rfl (hb hby at_99) rfl k) ?_
        refine own_step (S' := (T38.setTop (mkF m 102 #[.val (.long q1), .second, .val (.long q2), .second, .val (.long q3), .second, .val (.long q4), .second, .val (.int p5), .val (.long g), .second, .val (.long e2), .second, .val (.ref b35), .val (.ref b37), .val (.int (0 : Int32)), .val (.int (2 : Int32)), .unset, .unset, .unset] [(.int (1 : Int32)), (.int (2 : Int32))]))) (fun _ k => XS.iconst X38.here hx rfl (hb hby at_101) k) ?_
        refine own_step (S' := (T38.setTop (mkF m 114 #[.val (.long q1), .second, .val (.long q2), .second, .val (.long q3), .second, .val (.long q4), .second, .val (.int p5), .val (.long g), .second, .val (.long e2), .second, .val (.ref b35), .val (.ref b37), .val (.int (0 : Int32)), .val (.int (2 : Int32)), .unset, .unset, .unset] []))) (fun _ k => XS.icmpYes X38.here hx rfl (pc0 := 102) (pc' := 114) rfl (hb hby at_102) rfl (feq (by decide : ¬ ((2 : Int32) = (1 : Int32)))).2 (by decide) (by decide) k) ?_
        refine own_step (S' := (T38.setTop (mkF m 116 #[.val (.long q1), .second, .val (.long q2), .second, .val (.long q3), .second, .val (.long q4), .second, .val (.int p5), .val (.long g), .second, .val (.long e2), .second, .val (.ref b35), .val (.ref b37), .val (.int (0 : Int32)), .val (.int (2 : Int32)), .unset, .unset, .unset] [(.int (2 : Int32))]))) (fun _ k => XS.iload X38.here hx rfl (hb hby at_114) rfl k) ?_
        refine own_step (S' := (T38.setTop (mkF m 117 #[.val (.long q1), .second, .val (.long q2), .second, .val (.long q3), .second, .val (.long q4), .second, .val (.int p5), .val (.long g), .second, .val (.long e2), .second, .val (.ref b35), .val (.ref b37), .val (.int (0 : Int32)), .val (.int (2 : Int32)), .unset, .unset, .unset] [(.int (2 : Int32)), (.int (2 : Int32))]))) (fun _ k => XS.iconst X38.here hx rfl (hb hby at_116) k) ?_
        refine own_step (S' := (T38.setTop (mkF m 120 #[.val (.long q1), .second, .val (.long q2), .second, .val (.long q3), .second, .val (.long q4), .second, .val (.int p5), .val (.long g), .second, .val (.long e2), .second, .val (.ref b35), .val (.ref b37), .val (.int (0 : Int32)), .val (.int (2 : Int32)), .unset, .unset, .unset] []))) (fun _ k => XS.icmpNo X38.here hx rfl (hb hby at_117) rfl (teq (by decide : (2 : Int32) = (2 : Int32))).2 k) ?_
        refine own_step (S' := (T38.setTop (mkF m 121 #[.val (.long q1), .second, .val (.long q2), .second, .val (.long q3), .second, .val (.long q4), .second, .val (.int p5), .val (.long g), .second, .val (.long e2), .second, .val (.ref b35), .val (.ref b37), .val (.int (0 : Int32)), .val (.int (2 : Int32)), .unset, .unset, .unset] [(.long q1)]))) (fun _ k => XS.lloadN X38.here hx rfl (hb hby at_120) rfl k) ?_
        have Cn : own_Cache Z T38.heap ca := own_cacheKeep C (Keep.trans (Keep.ext (Keep.trans (Keep.ext (Keep.refl h0 []) E35) K36 (allS (Or.inr szo_b35) all0)) E37) K38 (allS (Or.inr szo_b37) all0))
        obtain ⟨_, T62, L62, X62, ⟨y62, rfl, N62q, K62, Ey62⟩, st62⟩ := own_stat (argsL := [(.long q1)]) (rest := []) X38 hx hZ hown (hw _ (List.mem_of_getElem? (i := 20) rfl)) (hw _ (List.mem_of_getElem? (i := 21) rfl)) (by decide) (hw _ (List.mem_of_getElem? (i := 23) rfl)) (hw _ (List.mem_of_getElem? (i := 22) rfl)) rfl (hM := rmVO l Z a0 hw [] ca q1 T38.heap n0 Zs57 Cn) (g := (mkF m 121 #[.val (.long q1), .second, .val (.long q2), .second, .val (.long q3), .second, .val (.long q4), .second, .val (.int p5), .val (.long g), .second, .val (.long e2), .second, .val (.ref b35), .val (.ref b37), .val (.int (0 : Int32)), .val (.int (2 : Int32)), .unset, .unset, .unset] [(.long q1)])) (hg := rfl) (hsize := by rw [hml]; rfl) (hlen := lenOf pd_4 rfl) (hstack := rfl) (W := 0) (hW := by show 2 * 0 + _ ≤ _; exact Nat.le_of_eq rfl) (hd := (hb hby at_121)) (hf := by decide) (hl := by decide) (hc := by decide) (hs := by decide)
        have N62 := Fr.app N38 N62q
        refine own_step (S' := (T62.setTop (mkF m 124 #[.val (.long q1), .second, .val (.long q2), .second, .val (.long q3), .second, .val (.long q4), .second, .val (.int p5), .val (.long g), .second, .val (.long e2), .second, .val (.ref b35), .val (.ref b37), .val (.int (0 : Int32)), .val (.int (2 : Int32)), .unset, .unset, .unset] [(.ref y62)]))) (fun _ k => st62 _ k) ?_
        refine own_step (S' := (T62.setTop (mkF m 126 #[.val (.long q1), .second, .val (.long q2), .second, .val (.long q3), .second, .val (.long q4), .second, .val (.int p5), .val (.long g), .second, .val (.long e2), .second, .val (.ref b35), .val (.ref b37), .val (.int (0 : Int32)), .val (.int (2 : Int32)), .val (.ref y62), .unset, .unset] []))) (fun _ k => XS.astore X62.here hx rfl (hb hby at_124) rfl rfl (l' := #[.val (.long q1), .second, .val (.long q2), .second, .val (.long q3), .second, .val (.long q4), .second, .val (.int p5), .val (.long g), .second, .val (.long e2), .second, .val (.ref b35), .val (.ref b37), .val (.int (0 : Int32)), .val (.int (2 : Int32)), .val (.ref y62), .unset, .unset]) rfl k) ?_
        refine own_step (S' := (T62.setTop (mkF m 127 #[.val (.long q1), .second, .val (.long q2), .second, .val (.long q3), .second, .val (.long q4), .second, .val (.int p5), .val (.long g), .second, .val (.long e2), .second, .val (.ref b35), .val (.ref b37), .val (.int (0 : Int32)), .val (.int (2 : Int32)), .val (.ref y62), .unset, .unset] [(.int (0 : Int32))]))) (fun _ k => XS.iconst X62.here hx rfl (hb hby at_126) k) ?_
        refine own_step (S' := (T62.setTop (mkF m 129 #[.val (.long q1), .second, .val (.long q2), .second, .val (.long q3), .second, .val (.long q4), .second, .val (.int p5), .val (.long g), .second, .val (.long e2), .second, .val (.ref b35), .val (.ref b37), .val (.int (0 : Int32)), .val (.int (2 : Int32)), .val (.ref y62), .val (.int (0 : Int32)), .unset] []))) (fun _ k => XS.istore X62.here hx rfl (hb hby at_127) rfl (l' := #[.val (.long q1), .second, .val (.long q2), .second, .val (.long q3), .second, .val (.long q4), .second, .val (.int p5), .val (.long g), .second, .val (.long e2), .second, .val (.ref b35), .val (.ref b37), .val (.int (0 : Int32)), .val (.int (2 : Int32)), .val (.ref y62), .val (.int (0 : Int32)), .unset]) rfl k) ?_
        refine own_step (S' := (T62.setTop (mkF m 139 #[.val (.long q1), .second, .val (.long q2), .second, .val (.long q3), .second, .val (.long q4), .second, .val (.int p5), .val (.long g), .second, .val (.long e2), .second, .val (.ref b35), .val (.ref b37), .val (.int (0 : Int32)), .val (.int (2 : Int32)), .val (.ref y62), .val (.int (0 : Int32)), .unset] []))) (fun _ k => XS.goto X62.here hx rfl (pc0 := 129) (pc' := 139) rfl (hb hby at_129) (by decide) (by decide) k) ?_
        refine own_step (S' := (T62.setTop (mkF m 141 #[.val (.long q1), .second, .val (.long q2), .second, .val (.long q3), .second, .val (.long q4), .second, .val (.int p5), .val (.long g), .second, .val (.long e2), .second, .val (.ref b35), .val (.ref b37), .val (.int (0 : Int32)), .val (.int (2 : Int32)), .val (.ref y62), .val (.int (0 : Int32)), .unset] [(.ref b35)]))) (fun _ k => XS.aload X62.here hx rfl (hb hby at_139) rfl rfl k) ?_
        refine own_step (S' := (T62.setTop (mkF m 143 #[.val (.long q1), .second, .val (.long q2), .second, .val (.long q3), .second, .val (.long q4), .second, .val (.int p5), .val (.long g), .second, .val (.long e2), .second, .val (.ref b35), .val (.ref b37), .val (.int (0 : Int32)), .val (.int (2 : Int32)), .val (.ref y62), .val (.int (0 : Int32)), .unset] [(.ref y62), (.ref b35)]))) (fun _ k => XS.aload X62.here hx rfl (hb hby at_141) rfl rfl k) ?_
        obtain ⟨_, T63, L63, X63, ⟨rfl, N63q, e63⟩, st63⟩ := own_virt (argsL := [(.ref y62)]) (rest := []) X62 hx hZ hown (hw _ (List.mem_of_getElem? (i := 13) rfl)) (hw _ (List.mem_of_getElem? (i := 14) rfl)) (notFace_of_selects (args := #[]) (mvT hZ (hw _ (List.mem_of_getElem? (i := 16) rfl)))) (hw _ (List.mem_of_getElem? (i := 16) rfl)) (hw _ (List.mem_of_getElem? (i := 15) rfl)) (by decide) (hw _ (List.mem_of_getElem? (i := 17) rfl)) (hw _ (List.mem_of_getElem? (i := 2) rfl)) rfl (Exa.keep f53 K62) (hM := rmQl l Z a0 hw [] b35 y62 T62.heap n0 (Nat.le_trans Zs57 K62.1) Ey62) (g := (mkF m 143 #[.val (.long q1), .second, .val (.long q2), .second, .val (.long q3), .second, .val (.long q4), .second, .val (.int p5), .val (.long g), .second, .val (.long e2), .second, .val (.ref b35), .val (.ref b37), .val (.int (0 : Int32)), .val (.int (2 : Int32)), .val (.ref y62), .val (.int (0 : Int32)), .unset] [(.ref y62), (.ref b35)])) (hg := rfl) (hsize := by rw [hml]; rfl) (hlen := lenOf pd_3 rfl) (hstack := rfl) (W := 0) (hW := by show 2 * 0 + _ ≤ _; exact Nat.le_of_eq rfl) (hd := (hb hby at_143)) (hf := by decide) (hl := by decide) (hc := by decide) (hs := by decide)
        have N63 := Fr.app N62 N63q
        refine own_step (S' := (T63.setTop (mkF m 146 #[.val (.long q1), .second, .val (.long q2), .second, .val (.long q3), .second, .val (.long q4), .second, .val (.int p5), .val (.long g), .second, .val (.long e2), .second, .val (.ref b35), .val (.ref b37), .val (.int (0 : Int32)), .val (.int (2 : Int32)), .val (.ref y62), .val (.int (0 : Int32)), .unset] [(.int (0 : Int32))]))) (fun _ k => st63 _ k) ?_
        refine own_step (S' := (T63.setTop (mkF m 148 #[.val (.long q1), .second, .val (.long q2), .second, .val (.long q3), .second, .val (.long q4), .second, .val (.int p5), .val (.long g), .second, .val (.long e2), .second, .val (.ref b35), .val (.ref b37), .val (.int (0 : Int32)), .val (.int (2 : Int32)), .val (.ref y62), .val (.int (0 : Int32)), .unset] [(.int (0 : Int32)), (.int (0 : Int32))]))) (fun _ k => XS.iload X63.here hx rfl (hb hby at_146) rfl k) ?_
        refine own_step (S' := (T63.setTop (mkF m 151 #[.val (.long q1), .second, .val (.long q2), .second, .val (.long q3), .second, .val (.long q4), .second, .val (.int p5), .val (.long g), .second, .val (.long e2), .second, .val (.ref b35), .val (.ref b37), .val (.int (0 : Int32)), .val (.int (2 : Int32)), .val (.ref y62), .val (.int (0 : Int32)), .unset] []))) (fun _ k => XS.icmpNo X63.here hx rfl (hb hby at_148) rfl (teq (by decide : (0 : Int32) = (0 : Int32))).2 k) ?_
        refine own_step (S' := (T63.setTop (mkF m 152 #[.val (.long q1), .second, .val (.long q2), .second, .val (.long q3), .second, .val (.long q4), .second, .val (.int p5), .val (.long g), .second, .val (.long e2), .second, .val (.ref b35), .val (.ref b37), .val (.int (0 : Int32)), .val (.int (2 : Int32)), .val (.ref y62), .val (.int (0 : Int32)), .unset] [(.int (1 : Int32))]))) (fun _ k => XS.iconst X63.here hx rfl (hb hby at_151) k) ?_
        refine own_step (S' := (T63.setTop (mkF m 156 #[.val (.long q1), .second, .val (.long q2), .second, .val (.long q3), .second, .val (.long q4), .second, .val (.int p5), .val (.long g), .second, .val (.long e2), .second, .val (.ref b35), .val (.ref b37), .val (.int (0 : Int32)), .val (.int (2 : Int32)), .val (.ref y62), .val (.int (0 : Int32)), .unset] [(.int (1 : Int32))]))) (fun _ k => XS.goto X63.here hx rfl (pc0 := 152) (pc' := 156) rfl (hb hby at_152) (by decide) (by decide) k) ?_
        refine own_step (S' := (T63.setTop (mkF m 158 #[.val (.long q1), .second, .val (.long q2), .second, .val (.long q3), .second, .val (.long q4), .second, .val (.int p5), .val (.long g), .second, .val (.long e2), .second, .val (.ref b35), .val (.ref b37), .val (.int (0 : Int32)), .val (.int (2 : Int32)), .val (.ref y62), .val (.int (0 : Int32)), .val (.int (1 : Int32))] []))) (fun _ k => XS.istore X63.here hx rfl (hb hby at_156) rfl (l' := #[.val (.long q1), .second, .val (.long q2), .second, .val (.long q3), .second, .val (.long q4), .second, .val (.int p5), .val (.long g), .second, .val (.long e2), .second, .val (.ref b35), .val (.ref b37), .val (.int (0 : Int32)), .val (.int (2 : Int32)), .val (.ref y62), .val (.int (0 : Int32)), .val (.int (1 : Int32))]) rfl k) ?_
        refine own_step (S' := (T63.setTop (mkF m 160 #[.val (.long q1), .second, .val (.long q2), .second, .val (.long q3), .second, .val (.long q4), .second, .val (.int p5), .val (.long g), .second, .val (.long e2), .second, .val (.ref b35), .val (.ref b37), .val (.int (0 : Int32)), .val (.int (2 : Int32)), .val (.ref y62), .val (.int (0 : Int32)), .val (.int (1 : Int32))] [(.int (2 : Int32))]))) (fun _ k => XS.iload X63.here hx rfl (hb hby at_158) rfl k) ?_
        refine own_step (S' := (T63.setTop (mkF m 187 #[.val (.long q1), .second, .val (.long q2), .second, .val (.long q3), .second, .val (.long q4), .second, .val (.int p5), .val (.long g), .second, .val (.long e2), .second, .val (.ref b35), .val (.ref b37), .val (.int (0 : Int32)), .val (.int (2 : Int32)), .val (.ref y62), .val (.int (0 : Int32)), .val (.int (1 : Int32))] []))) (fun _ k => XS.ifYes X63.here hx rfl (pc0 := 160) (pc' := 187) rfl (hb hby at_160) rfl ((if0 _ _).trans (feq (by decide : ¬ ((2 : Int32) = (0 : Int32)))).2) (by decide) (by decide) k) ?_
        refine own_step (S' := (T63.setTop (mkF m 189 #[.val (.long q1), .second, .val (.long q2), .second, .val (.long q3), .second, .val (.long q4), .second, .val (.int p5), .val (.long g), .second, .val (.long e2), .second, .val (.ref b35), .val (.ref b37), .val (.int (0 : Int32)), .val (.int (2 : Int32)), .val (.ref y62), .val (.int (0 : Int32)), .val (.int (1 : Int32))] [(.int (1 : Int32))]))) (fun _ k => XS.iload X63.here hx rfl (hb hby at_187) rfl k) ?_
        refine own_retN X63 hx hlk hret (by simp) (by decide) (hb hby at_189) (by decide) (by decide) ?_
        try rw [e63]
        exact ⟨rfl, N63⟩
      · rw [hr58]
        refine own_step (S' := (T38.setTop (mkF m 83 #[.val (.long q1), .second, .val (.long q2), .second, .val (.long q3), .second, .val (.long q4), .second, .val (.int p5), .val (.long g), .second, .val (.long e2), .second, .val (.ref b35), .val (.ref b37), .val (.int (0 : Int32)), .val (.int (3 : Int32)), .unset, .unset, .unset] []))) (fun _ k => XS.istore X38.here hx rfl (hb hby at_81) rfl (l' := #[.val (.long q1), .second, .val (.long q2), .second, .val (.long q3), .second, .val (.long q4), .second, .val (.int p5), .val (.long g), .second, .val (.long e2), .second, .val (.ref b35), .val (.ref b37), .val (.int (0 : Int32)), .val (.int (3 : Int32)), .unset, .unset, .unset]) rfl k) ?_
        refine own_step (S' := (T38.setTop (mkF m 85 #[.val (.long q1), .second, .val (.long q2), .second, .val (.long q3), .second, .val (.long q4), .second, .val (.int p5), .val (.long g), .second, .val (.long e2), .second, .val (.ref b35), .val (.ref b37), .val (.int (0 : Int32)), .val (.int (3 : Int32)), .unset, .unset, .unset] [(.int (3 : Int32))]))) (fun _ k => XS.iload X38.here hx rfl (hb hby at_83) rfl k) ?_
        refine own_step (S' := (T38.setTop (mkF m 99 #[.val (.long q1), .second, .val (.long q2), .second, .val (.long q3), .second, .val (.long q4), .second, .val (.int p5), .val (.long g), .second, .val (.long e2), .second, .val (.ref b35), .val (.ref b37), .val (.int (0 : Int32)), .val (.int (3 : Int32)), .unset, .unset, .unset] []))) (fun _ k => XS.ifYes X38.here hx rfl (pc0 := 85) (pc' := 99) rfl (hb hby at_85) rfl ((if0 _ _).trans (feq (by decide : ¬ ((3 : Int32) = (0 : Int32)))).2) (by decide) (by decide) k) ?_
        refine own_step (S' := (T38.setTop (mkF m 101 #[.val (.long q1), .second, .val (.long q2), .second, .val (.long q3), .second, .val (.long q4), .second, .val (.int p5), .val (.long g), .second, .val (.long e2), .second, .val (.ref b35), .val (.ref b37), .val (.int (0 : Int32)), .val (.int (3 : Int32)), .unset, .unset, .unset] [(.int (3 : Int32))]))) (fun _ k => XS.iload X38.here hx rfl (hb hby at_99) rfl k) ?_
        refine own_step (S' := (T38.setTop (mkF m 102 #[.val (.long q1), .second, .val (.long q2), .second, .val (.long q3), .second, .val (.long q4), .second, .val (.int p5), .val (.long g), .second, .val (.long e2), .second, .val (.ref b35), .val (.ref b37), .val (.int (0 : Int32)), .val (.int (3 : Int32)), .unset, .unset, .unset] [(.int (1 : Int32)), (.int (3 : Int32))]))) (fun _ k => XS.iconst X38.here hx rfl (hb hby at_101) k) ?_
        refine own_step (S' := (T38.setTop (mkF m 114 #[.val (.long q1), .second, .val (.long q2), .second, .val (.long q3), .second, .val (.long q4), .second, .val (.int p5), .val (.long g), .second, .val (.long e2), .second, .val (.ref b35), .val (.ref b37), .val (.int (0 : Int32)), .val (.int (3 : Int32)), .unset, .unset, .unset] []))) (fun _ k => XS.icmpYes X38.here hx rfl (pc0 := 102) (pc' := 114) rfl (hb hby at_102) rfl (feq (by decide : ¬ ((3 : Int32) = (1 : Int32)))).2 (by decide) (by decide) k) ?_
        refine own_step (S' := (T38.setTop (mkF m 116 #[.val (.long q1), .second, .val (.long q2), .second, .val (.long q3), .second, .val (.long q4), .second, .val (.int p5), .val (.long g), .second, .val (.long e2), .second, .val (.ref b35), .val (.ref b37), .val (.int (0 : Int32)), .val (.int (3 : Int32)), .unset, .unset, .unset] [(.int (3 : Int32))]))) (fun _ k => XS.iload X38.here hx rfl (hb hby at_114) rfl k) ?_
        refine own_step (S' := (T38.setTop (mkF m 117 #[.val (.long q1), .second, .val (.long q2), .second, .val (.long q3), .second, .val (.long q4), .second, .val (.int p5), .val (.long g), .second, .val (.long e2), .second, .val (.ref b35), .val (.ref b37), .val (.int (0 : Int32)), .val (.int (3 : Int32)), .unset, .unset, .unset] [(.int (2 : Int32)), (.int (3 : Int32))]))) (fun _ k => XS.iconst X38.here hx rfl (hb hby at_116) k) ?_
        refine own_step (S' := (T38.setTop (mkF m 132 #[.val (.long q1), .second, .val (.long q2), .second, .val (.long q3), .second, .val (.long q4), .second, .val (.int p5), .val (.long g), .second, .val (.long e2), .second, .val (.ref b35), .val (.ref b37), .val (.int (0 : Int32)), .val (.int (3 : Int32)), .unset, .unset, .unset] []))) (fun _ k => XS.icmpYes X38.here hx rfl (pc0 := 117) (pc' := 132) rfl (hb hby at_117) rfl (feq (by decide : ¬ ((3 : Int32) = (2 : Int32)))).2 (by decide) (by decide) k) ?_
        refine own_step (S' := (T38.setTop (mkF m 134 #[.val (.long q1), .second, .val (.long q2), .second, .val (.long q3), .second, .val (.long q4), .second, .val (.int p5), .val (.long g), .second, .val (.long e2), .second, .val (.ref b35), .val (.ref b37), .val (.int (0 : Int32)), .val (.int (3 : Int32)), .unset, .unset, .unset] [(.ref b35)]))) (fun _ k => XS.aload X38.here hx rfl (hb hby at_132) rfl rfl k) ?_
        refine own_step (S' := (T38.setTop (mkF m 136 #[.val (.long q1), .second, .val (.long q2), .second, .val (.long q3), .second, .val (.long q4), .second, .val (.int p5), .val (.long g), .second, .val (.long e2), .second, .val (.ref b35), .val (.ref b37), .val (.int (0 : Int32)), .val (.int (3 : Int32)), .val (.ref b35), .unset, .unset] []))) (fun _ k => XS.astore X38.here hx rfl (hb hby at_134) rfl rfl (l' := #[.val (.long q1), .second, .val (.long q2), .second, .val (.long q3), .second, .val (.long q4), .second, .val (.int p5), .val (.long g), .second, .val (.long e2), .second, .val (.ref b35), .val (.ref b37), .val (.int (0 : Int32)), .val (.int (3 : Int32)), .val (.ref b35), .unset, .unset]) rfl k) ?_
        refine own_step (S' := (T38.setTop (mkF m 137 #[.val (.long q1), .second, .val (.long q2), .second, .val (.long q3), .second, .val (.long q4), .second, .val (.int p5), .val (.long g), .second, .val (.long e2), .second, .val (.ref b35), .val (.ref b37), .val (.int (0 : Int32)), .val (.int (3 : Int32)), .val (.ref b35), .unset, .unset] [(.int (1 : Int32))]))) (fun _ k => XS.iconst X38.here hx rfl (hb hby at_136) k) ?_
        refine own_step (S' := (T38.setTop (mkF m 139 #[.val (.long q1), .second, .val (.long q2), .second, .val (.long q3), .second, .val (.long q4), .second, .val (.int p5), .val (.long g), .second, .val (.long e2), .second, .val (.ref b35), .val (.ref b37), .val (.int (0 : Int32)), .val (.int (3 : Int32)), .val (.ref b35), .val (.int (1 : Int32)), .unset] []))) (fun _ k => XS.istore X38.here hx rfl (hb hby at_137) rfl (l' := #[.val (.long q1), .second, .val (.long q2), .second, .val (.long q3), .second, .val (.long q4), .second, .val (.int p5), .val (.long g), .second, .val (.long e2), .second, .val (.ref b35), .val (.ref b37), .val (.int (0 : Int32)), .val (.int (3 : Int32)), .val (.ref b35), .val (.int (1 : Int32)), .unset]) rfl k) ?_
        refine own_step (S' := (T38.setTop (mkF m 141 #[.val (.long q1), .second, .val (.long q2), .second, .val (.long q3), .second, .val (.long q4), .second, .val (.int p5), .val (.long g), .second, .val (.long e2), .second, .val (.ref b35), .val (.ref b37), .val (.int (0 : Int32)), .val (.int (3 : Int32)), .val (.ref b35), .val (.int (1 : Int32)), .unset] [(.ref b35)]))) (fun _ k => XS.aload X38.here hx rfl (hb hby at_139) rfl rfl k) ?_
        refine own_step (S' := (T38.setTop (mkF m 143 #[.val (.long q1), .second, .val (.long q2), .second, .val (.long q3), .second, .val (.long q4), .second, .val (.int p5), .val (.long g), .second, .val (.long e2), .second, .val (.ref b35), .val (.ref b37), .val (.int (0 : Int32)), .val (.int (3 : Int32)), .val (.ref b35), .val (.int (1 : Int32)), .unset] [(.ref b35), (.ref b35)]))) (fun _ k => XS.aload X38.here hx rfl (hb hby at_141) rfl rfl k) ?_
        obtain ⟨_, T64, L64, X64, ⟨rfl, N64q, e64⟩, st64⟩ := own_virt (argsL := [(.ref b35)]) (rest := []) X38 hx hZ hown (hw _ (List.mem_of_getElem? (i := 13) rfl)) (hw _ (List.mem_of_getElem? (i := 14) rfl)) (notFace_of_selects (args := #[]) (mvT hZ (hw _ (List.mem_of_getElem? (i := 16) rfl)))) (hw _ (List.mem_of_getElem? (i := 16) rfl)) (hw _ (List.mem_of_getElem? (i := 15) rfl)) (by decide) (hw _ (List.mem_of_getElem? (i := 17) rfl)) (hw _ (List.mem_of_getElem? (i := 2) rfl)) rfl f53 (hM := rmQ_1 l Z a0 hw [] b35 b35 q1 q2 q1 q2 T38.heap n0 Zs57 f54 f55 f53 f54 f55 rfl rfl) (g := (mkF m 143 #[.val (.long q1), .second, .val (.long q2), .second, .val (.long q3), .second, .val (.long q4), .second, .val (.int p5), .val (.long g), .second, .val (.long e2), .second, .val (.ref b35), .val (.ref b37), .val (.int (0 : Int32)), .val (.int (3 : Int32)), .val (.ref b35), .val (.int (1 : Int32)), .unset] [(.ref b35), (.ref b35)])) (hg := rfl) (hsize := by rw [hml]; rfl) (hlen := lenOf pd_3 rfl) (hstack := rfl) (W := 0) (hW := by show 2 * 0 + _ ≤ _; exact Nat.le_of_eq rfl) (hd := (hb hby at_143)) (hf := by decide) (hl := by decide) (hc := by decide) (hs := by decide)
        have N64 := Fr.app N38 N64q
        refine own_step (S' := (T64.setTop (mkF m 146 #[.val (.long q1), .second, .val (.long q2), .second, .val (.long q3), .second, .val (.long q4), .second, .val (.int p5), .val (.long g), .second, .val (.long e2), .second, .val (.ref b35), .val (.ref b37), .val (.int (0 : Int32)), .val (.int (3 : Int32)), .val (.ref b35), .val (.int (1 : Int32)), .unset] [(.int (1 : Int32))]))) (fun _ k => st64 _ k) ?_
        refine own_step (S' := (T64.setTop (mkF m 148 #[.val (.long q1), .second, .val (.long q2), .second, .val (.long q3), .second, .val (.long q4), .second, .val (.int p5), .val (.long g), .second, .val (.long e2), .second, .val (.ref b35), .val (.ref b37), .val (.int (0 : Int32)), .val (.int (3 : Int32)), .val (.ref b35), .val (.int (1 : Int32)), .unset] [(.int (1 : Int32)), (.int (1 : Int32))]))) (fun _ k => XS.iload X64.here hx rfl (hb hby at_146) rfl k) ?_
        refine own_step (S' := (T64.setTop (mkF m 151 #[.val (.long q1), .second, .val (.long q2), .second, .val (.long q3), .second, .val (.long q4), .second, .val (.int p5), .val (.long g), .second, .val (.long e2), .second, .val (.ref b35), .val (.ref b37), .val (.int (0 : Int32)), .val (.int (3 : Int32)), .val (.ref b35), .val (.int (1 : Int32)), .unset] []))) (fun _ k => XS.icmpNo X64.here hx rfl (hb hby at_148) rfl (teq (by decide : (1 : Int32) = (1 : Int32))).2 k) ?_
        refine own_step (S' := (T64.setTop (mkF m 152 #[.val (.long q1), .second, .val (.long q2), .second, .val (.long q3), .second, .val (.long q4), .second, .val (.int p5), .val (.long g), .second, .val (.long e2), .second, .val (.ref b35), .val (.ref b37), .val (.int (0 : Int32)), .val (.int (3 : Int32)), .val (.ref b35), .val (.int (1 : Int32)), .unset] [(.int (1 : Int32))]))) (fun _ k => XS.iconst X64.here hx rfl (hb hby at_151) k) ?_
        refine own_step (S' := (T64.setTop (mkF m 156 #[.val (.long q1), .second, .val (.long q2), .second, .val (.long q3), .second, .val (.long q4), .second, .val (.int p5), .val (.long g), .second, .val (.long e2), .second, .val (.ref b35), .val (.ref b37), .val (.int (0 : Int32)), .val (.int (3 : Int32)), .val (.ref b35), .val (.int (1 : Int32)), .unset] [(.int (1 : Int32))]))) (fun _ k => XS.goto X64.here hx rfl (pc0 := 152) (pc' := 156) rfl (hb hby at_152) (by decide) (by decide) k) ?_
        refine own_step (S' := (T64.setTop (mkF m 158 #[.val (.long q1), .second, .val (.long q2), .second, .val (.long q3), .second, .val (.long q4), .second, .val (.int p5), .val (.long g), .second, .val (.long e2), .second, .val (.ref b35), .val (.ref b37), .val (.int (0 : Int32)), .val (.int (3 : Int32)), .val (.ref b35), .val (.int (1 : Int32)), .val (.int (1 : Int32))] []))) (fun _ k => XS.istore X64.here hx rfl (hb hby at_156) rfl (l' := #[.val (.long q1), .second, .val (.long q2), .second, .val (.long q3), .second, .val (.long q4), .second, .val (.int p5), .val (.long g), .second, .val (.long e2), .second, .val (.ref b35), .val (.ref b37), .val (.int (0 : Int32)), .val (.int (3 : Int32)), .val (.ref b35), .val (.int (1 : Int32)), .val (.int (1 : Int32))]) rfl k) ?_
        refine own_step (S' := (T64.setTop (mkF m 160 #[.val (.long q1), .second, .val (.long q2), .second, .val (.long q3), .second, .val (.long q4), .second, .val (.int p5), .val (.long g), .second, .val (.long e2), .second, .val (.ref b35), .val (.ref b37), .val (.int (0 : Int32)), .val (.int (3 : Int32)), .val (.ref b35), .val (.int (1 : Int32)), .val (.int (1 : Int32))] [(.int (3 : Int32))]))) (fun _ k => XS.iload X64.here hx rfl (hb hby at_158) rfl k) ?_
        refine own_step (S' := (T64.setTop (mkF m 187 #[.val (.long q1), .second, .val (.long q2), .second, .val (.long q3), .second, .val (.long q4), .second, .val (.int p5), .val (.long g), .second, .val (.long e2), .second, .val (.ref b35), .val (.ref b37), .val (.int (0 : Int32)), .val (.int (3 : Int32)), .val (.ref b35), .val (.int (1 : Int32)), .val (.int (1 : Int32))] []))) (fun _ k => XS.ifYes X64.here hx rfl (pc0 := 160) (pc' := 187) rfl (hb hby at_160) rfl ((if0 _ _).trans (feq (by decide : ¬ ((3 : Int32) = (0 : Int32)))).2) (by decide) (by decide) k) ?_
        refine own_step (S' := (T64.setTop (mkF m 189 #[.val (.long q1), .second, .val (.long q2), .second, .val (.long q3), .second, .val (.long q4), .second, .val (.int p5), .val (.long g), .second, .val (.long e2), .second, .val (.ref b35), .val (.ref b37), .val (.int (0 : Int32)), .val (.int (3 : Int32)), .val (.ref b35), .val (.int (1 : Int32)), .val (.int (1 : Int32))] [(.int (1 : Int32))]))) (fun _ k => XS.iload X64.here hx rfl (hb hby at_187) rfl k) ?_
        refine own_retN X64 hx hlk hret (by simp) (by decide) (hb hby at_189) (by decide) (by decide) ?_
        try rw [e64]
        exact ⟨rfl, N64⟩
  · refine own_step (S' := (T38.setTop (mkF m 72 #[.val (.long q1), .second, .val (.long q2), .second, .val (.long q3), .second, .val (.long q4), .second, .val (.int p5), .val (.long g), .second, .val (.long e2), .second, .val (.ref b35), .val (.ref b37), .unset, .unset, .unset, .unset, .unset] []))) (fun _ k => XS.ifYes X38.here hx rfl (pc0 := 58) (pc' := 72) rfl (hb hby at_58) rfl ((if0 _ _).trans (feq (fun q => hc39 ((lw_eq q1 g).mp q))).2) (by decide) (by decide) k) ?_
    refine own_step (S' := (T38.setTop (mkF m 73 #[.val (.long q1), .second, .val (.long q2), .second, .val (.long q3), .second, .val (.long q4), .second, .val (.int p5), .val (.long g), .second, .val (.long e2), .second, .val (.ref b35), .val (.ref b37), .unset, .unset, .unset, .unset, .unset] [(.int (0 : Int32))]))) (fun _ k => XS.iconst X38.here hx rfl (hb hby at_72) k) ?_
    refine own_step (S' := (T38.setTop (mkF m 75 #[.val (.long q1), .second, .val (.long q2), .second, .val (.long q3), .second, .val (.long q4), .second, .val (.int p5), .val (.long g), .second, .val (.long e2), .second, .val (.ref b35), .val (.ref b37), .val (.int (0 : Int32)), .unset, .unset, .unset, .unset] []))) (fun _ k => XS.istore X38.here hx rfl (hb hby at_73) rfl (l' := #[.val (.long q1), .second, .val (.long q2), .second, .val (.long q3), .second, .val (.long q4), .second, .val (.int p5), .val (.long g), .second, .val (.long e2), .second, .val (.ref b35), .val (.ref b37), .val (.int (0 : Int32)), .unset, .unset, .unset, .unset]) rfl k) ?_
    refine own_step (S' := (T38.setTop (mkF m 77 #[.val (.long q1), .second, .val (.long q2), .second, .val (.long q3), .second, .val (.long q4), .second, .val (.int p5), .val (.long g), .second, .val (.long e2), .second, .val (.ref b35), .val (.ref b37), .val (.int (0 : Int32)), .unset, .unset, .unset, .unset] [(.int p5)]))) (fun _ k => XS.iload X38.here hx rfl (hb hby at_75) rfl k) ?_
    refine own_step (S' := (T38.setTop (mkF m 78 #[.val (.long q1), .second, .val (.long q2), .second, .val (.long q3), .second, .val (.long q4), .second, .val (.int p5), .val (.long g), .second, .val (.long e2), .second, .val (.ref b35), .val (.ref b37), .val (.int (0 : Int32)), .unset, .unset, .unset, .unset] [(.int (2 : Int32)), (.int p5)]))) (fun _ k => XS.iconst X38.here hx rfl (hb hby at_77) k) ?_
    refine own_step (S' := (T38.setTop (mkF m 79 #[.val (.long q1), .second, .val (.long q2), .second, .val (.long q3), .second, .val (.long q4), .second, .val (.int p5), .val (.long g), .second, .val (.long e2), .second, .val (.ref b35), .val (.ref b37), .val (.int (0 : Int32)), .unset, .unset, .unset, .unset] [(.int ((p5.toUInt32 >>> ((2 : Int32) &&& 31).toUInt32).toInt32))]))) (fun _ k => XS.iushr X38.here hx rfl (hb hby at_78) rfl k) ?_
    refine own_step (S' := (T38.setTop (mkF m 80 #[.val (.long q1), .second, .val (.long q2), .second, .val (.long q3), .second, .val (.long q4), .second, .val (.int p5), .val (.long g), .second, .val (.long e2), .second, .val (.ref b35), .val (.ref b37), .val (.int (0 : Int32)), .unset, .unset, .unset, .unset] [(.int (3 : Int32)), (.int ((p5.toUInt32 >>> ((2 : Int32) &&& 31).toUInt32).toInt32))]))) (fun _ k => XS.iconst X38.here hx rfl (hb hby at_79) k) ?_
    refine own_step (S' := (T38.setTop (mkF m 81 #[.val (.long q1), .second, .val (.long q2), .second, .val (.long q3), .second, .val (.long q4), .second, .val (.int p5), .val (.long g), .second, .val (.long e2), .second, .val (.ref b35), .val (.ref b37), .val (.int (0 : Int32)), .unset, .unset, .unset, .unset] [(.int (((p5.toUInt32 >>> ((2 : Int32) &&& 31).toUInt32).toInt32) &&& (3 : Int32)))]))) (fun _ k => XS.iand X38.here hx rfl (hb hby at_80) rfl k) ?_
    have f65 := (Exa.keep (Exa.ext E37 (Exa.keep A35 K36)) K38)
    have f66 := (Fld.keep (Fld.ext E37 Ff36) K38 (ninS (Nat.ne_of_lt (Nat.lt_of_lt_of_le Ff36.lt (Nat.le_of_eq g37.symm))) nin0))
    have f67 := (Fld.keep (Fld.ext E37 Fe36) K38 (ninS (Nat.ne_of_lt (Nat.lt_of_lt_of_le Fe36.lt (Nat.le_of_eq g37.symm))) nin0))
    have f68 := (Exa.keep A37 K38)
    have Zs69 : n0 ≤ T38.heap.size := (Nat.le_trans (Nat.le_trans (Nat.le_trans (Nat.le_trans Z0 E35.1) K36.1) E37.1) K38.1)
    rcases own_m4 p5 with hr70 | hr70 | hr70 | hr70
    · rw [hr70]
      refine own_step (S' := (T38.setTop (mkF m 83 #[.val (.long q1), .second, .val (.long q2), .second, .val (.long q3), .second, .val (.long q4), .second, .val (.int p5), .val (.long g), .second, .val (.long e2), .second, .val (.ref b35), .val (.ref b37), .val (.int (0 : Int32)), .val (.int (0 : Int32)), .unset, .unset, .unset] []))) (fun _ k => XS.istore X38.here hx rfl (hb hby at_81) rfl (l' := #[.val (.long q1), .second, .val (.long q2), .second, .val (.long q3), .second, .val (.long q4), .second, .val (.int p5), .val (.long g), .second, .val (.long e2), .second, .val (.ref b35), .val (.ref b37), .val (.int (0 : Int32)), .val (.int (0 : Int32)), .unset, .unset, .unset]) rfl k) ?_
      refine own_step (S' := (T38.setTop (mkF m 85 #[.val (.long q1), .second, .val (.long q2), .second, .val (.long q3), .second, .val (.long q4), .second, .val (.int p5), .val (.long g), .second, .val (.long e2), .second, .val (.ref b35), .val (.ref b37), .val (.int (0 : Int32)), .val (.int (0 : Int32)), .unset, .unset, .unset] [(.int (0 : Int32))]))) (fun _ k => XS.iload X38.here hx rfl (hb hby at_83) rfl k) ?_
      refine own_step (S' := (T38.setTop (mkF m 88 #[.val (.long q1), .second, .val (.long q2), .second, .val (.long q3), .second, .val (.long q4), .second, .val (.int p5), .val (.long g), .second, .val (.long e2), .second, .val (.ref b35), .val (.ref b37), .val (.int (0 : Int32)), .val (.int (0 : Int32)), .unset, .unset, .unset] []))) (fun _ k => XS.ifNo X38.here hx rfl (hb hby at_85) rfl ((if0 _ _).trans (teq (by decide : (0 : Int32) = (0 : Int32))).2) k) ?_
      refine own_step (S' := (T38.setTop (mkF m 90 #[.val (.long q1), .second, .val (.long q2), .second, .val (.long q3), .second, .val (.long q4), .second, .val (.int p5), .val (.long g), .second, .val (.long e2), .second, .val (.ref b35), .val (.ref b37), .val (.int (0 : Int32)), .val (.int (0 : Int32)), .unset, .unset, .unset] [(.ref b37)]))) (fun _ k => XS.aload X38.here hx rfl (hb hby at_88) rfl rfl k) ?_
      refine own_step (S' := (T38.setTop (mkF m 92 #[.val (.long q1), .second, .val (.long q2), .second, .val (.long q3), .second, .val (.long q4), .second, .val (.int p5), .val (.long g), .second, .val (.long e2), .second, .val (.ref b35), .val (.ref b37), .val (.int (0 : Int32)), .val (.int (0 : Int32)), .val (.ref b37), .unset, .unset] []))) (fun _ k => XS.astore X38.here hx rfl (hb hby at_90) rfl rfl (l' := #[.val (.long q1), .second, .val (.long q2), .second, .val (.long q3), .second, .val (.long q4), .second, .val (.int p5), .val (.long g), .second, .val (.long e2), .second, .val (.ref b35), .val (.ref b37), .val (.int (0 : Int32)), .val (.int (0 : Int32)), .val (.ref b37), .unset, .unset]) rfl k) ?_
      refine own_step (S' := (T38.setTop (mkF m 94 #[.val (.long q1), .second, .val (.long q2), .second, .val (.long q3), .second, .val (.long q4), .second, .val (.int p5), .val (.long g), .second, .val (.long e2), .second, .val (.ref b35), .val (.ref b37), .val (.int (0 : Int32)), .val (.int (0 : Int32)), .val (.ref b37), .unset, .unset] [(.int (0 : Int32))]))) (fun _ k => XS.iload X38.here hx rfl (hb hby at_92) rfl k) ?_
      refine own_step (S' := (T38.setTop (mkF m 96 #[.val (.long q1), .second, .val (.long q2), .second, .val (.long q3), .second, .val (.long q4), .second, .val (.int p5), .val (.long g), .second, .val (.long e2), .second, .val (.ref b35), .val (.ref b37), .val (.int (0 : Int32)), .val (.int (0 : Int32)), .val (.ref b37), .val (.int (0 : Int32)), .unset] []))) (fun _ k => XS.istore X38.here hx rfl (hb hby at_94) rfl (l' := #[.val (.long q1), .second, .val (.long q2), .second, .val (.long q3), .second, .val (.long q4), .second, .val (.int p5), .val (.long g), .second, .val (.long e2), .second, .val (.ref b35), .val (.ref b37), .val (.int (0 : Int32)), .val (.int (0 : Int32)), .val (.ref b37), .val (.int (0 : Int32)), .unset]) rfl k) ?_
      refine own_step (S' := (T38.setTop (mkF m 139 #[.val (.long q1), .second, .val (.long q2), .second, .val (.long q3), .second, .val (.long q4), .second, .val (.int p5), .val (.long g), .second, .val (.long e2), .second, .val (.ref b35), .val (.ref b37), .val (.int (0 : Int32)), .val (.int (0 : Int32)), .val (.ref b37), .val (.int (0 : Int32)), .unset] []))) (fun _ k => XS.goto X38.here hx rfl (pc0 := 96) (pc' := 139) rfl (hb hby at_96) (by decide) (by decide) k) ?_
      refine own_step (S' := (T38.setTop (mkF m 141 #[.val (.long q1), .second, .val (.long q2), .second, .val (.long q3), .second, .val (.long q4), .second, .val (.int p5), .val (.long g), .second, .val (.long e2), .second, .val (.ref b35), .val (.ref b37), .val (.int (0 : Int32)), .val (.int (0 : Int32)), .val (.ref b37), .val (.int (0 : Int32)), .unset] [(.ref b35)]))) (fun _ k => XS.aload X38.here hx rfl (hb hby at_139) rfl rfl k) ?_
      refine own_step (S' := (T38.setTop (mkF m 143 #[.val (.long q1), .second, .val (.long q2), .second, .val (.long q3), .second, .val (.long q4), .second, .val (.int p5), .val (.long g), .second, .val (.long e2), .second, .val (.ref b35), .val (.ref b37), .val (.int (0 : Int32)), .val (.int (0 : Int32)), .val (.ref b37), .val (.int (0 : Int32)), .unset] [(.ref b37), (.ref b35)]))) (fun _ k => XS.aload X38.here hx rfl (hb hby at_141) rfl rfl k) ?_
      obtain ⟨_, T71, L71, X71, ⟨rfl, N71q, e71⟩, st71⟩ := own_virt (argsL := [(.ref b37)]) (rest := []) X38 hx hZ hown (hw _ (List.mem_of_getElem? (i := 13) rfl)) (hw _ (List.mem_of_getElem? (i := 14) rfl)) (notFace_of_selects (args := #[]) (mvT hZ (hw _ (List.mem_of_getElem? (i := 16) rfl)))) (hw _ (List.mem_of_getElem? (i := 16) rfl)) (hw _ (List.mem_of_getElem? (i := 15) rfl)) (by decide) (hw _ (List.mem_of_getElem? (i := 17) rfl)) (hw _ (List.mem_of_getElem? (i := 2) rfl)) rfl f65 (hM := rmQ_f l Z a0 hw [] b35 b37 q1 q2 g e2 T38.heap n0 Zs69 f66 f67 f68 Ff38 Fe38 (Ne.symm hc39)) (g := (mkF m 143 #[.val (.long q1), .second, .val (.long q2), .second, .val (.long q3), .second, .val (.long q4), .second, .val (.int p5), .val (.long g), .second, .val (.long e2), .second, .val (.ref b35), .val (.ref b37), .val (.int (0 : Int32)), .val (.int (0 : Int32)), .val (.ref b37), .val (.int (0 : Int32)), .unset] [(.ref b37), (.ref b35)])) (hg := rfl) (hsize := by rw [hml]; rfl) (hlen := lenOf pd_3 rfl) (hstack := rfl) (W := 0) (hW := by show 2 * 0 + _ ≤ _; exact Nat.le_of_eq rfl) (hd := (hb hby at_143)) (hf := by decide) (hl := by decide) (hc := by decide) (hs := by decide)
      have N71 := Fr.app N38 N71q
      refine own_step (S' := (T71.setTop (mkF m 146 #[.val (.long q1), .second, .val (.long q2), .second, .val (.long q3), .second, .val (.long q4), .second, .val (.int p5), .val (.long g), .second, .val (.long e2), .second, .val (.ref b35), .val (.ref b37), .val (.int (0 : Int32)), .val (.int (0 : Int32)), .val (.ref b37), .val (.int (0 : Int32)), .unset] [(.int (0 : Int32))]))) (fun _ k => st71 _ k) ?_
      refine own_step (S' := (T71.setTop (mkF m 148 #[.val (.long q1), .second, .val (.long q2), .second, .val (.long q3), .second, .val (.long q4), .second, .val (.int p5), .val (.long g), .second, .val (.long e2), .second, .val (.ref b35), .val (.ref b37), .val (.int (0 : Int32)), .val (.int (0 : Int32)), .val (.ref b37), .val (.int (0 : Int32)), .unset] [(.int (0 : Int32)), (.int (0 : Int32))]))) (fun _ k => XS.iload X71.here hx rfl (hb hby at_146) rfl k) ?_
      refine own_step (S' := (T71.setTop (mkF m 151 #[.val (.long q1), .second, .val (.long q2), .second, .val (.long q3), .second, .val (.long q4), .second, .val (.int p5), .val (.long g), .second, .val (.long e2), .second, .val (.ref b35), .val (.ref b37), .val (.int (0 : Int32)), .val (.int (0 : Int32)), .val (.ref b37), .val (.int (0 : Int32)), .unset] []))) (fun _ k => XS.icmpNo X71.here hx rfl (hb hby at_148) rfl (teq (by decide : (0 : Int32) = (0 : Int32))).2 k) ?_
      refine own_step (S' := (T71.setTop (mkF m 152 #[.val (.long q1), .second, .val (.long q2), .second, .val (.long q3), .second, .val (.long q4), .second, .val (.int p5), .val (.long g), .second, .val (.long e2), .second, .val (.ref b35), .val (.ref b37), .val (.int (0 : Int32)), .val (.int (0 : Int32)), .val (.ref b37), .val (.int (0 : Int32)), .unset] [(.int (1 : Int32))]))) (fun _ k => XS.iconst X71.here hx rfl (hb hby at_151) k) ?_
      refine own_step (S' := (T71.setTop (mkF m 156 #[.val (.long q1), .second, .val (.long q2), .second, .val (.long q3), .second, .val (.long q4), .second, .val (.int p5), .val (.long g), .second, .val (.long e2), .second, .val (.ref b35), .val (.ref b37), .val (.int (0 : Int32)), .val (.int (0 : Int32)), .val (.ref b37), .val (.int (0 : Int32)), .unset] [(.int (1 : Int32))]))) (fun _ k => XS.goto X71.here hx rfl (pc0 := 152) (pc' := 156) rfl (hb hby at_152) (by decide) (by decide) k) ?_
      refine own_step (S' := (T71.setTop (mkF m 158 #[.val (.long q1), .second, .val (.long q2), .second, .val (.long q3), .second, .val (.long q4), .second, .val (.int p5), .val (.long g), .second, .val (.long e2), .second, .val (.ref b35), .val (.ref b37), .val (.int (0 : Int32)), .val (.int (0 : Int32)), .val (.ref b37), .val (.int (0 : Int32)), .val (.int (1 : Int32))] []))) (fun _ k => XS.istore X71.here hx rfl (hb hby at_156) rfl (l' := #[.val (.long q1), .second, .val (.long q2), .second, .val (.long q3), .second, .val (.long q4), .second, .val (.int p5), .val (.long g), .second, .val (.long e2), .second, .val (.ref b35), .val (.ref b37), .val (.int (0 : Int32)), .val (.int (0 : Int32)), .val (.ref b37), .val (.int (0 : Int32)), .val (.int (1 : Int32))]) rfl k) ?_
      refine own_step (S' := (T71.setTop (mkF m 160 #[.val (.long q1), .second, .val (.long q2), .second, .val (.long q3), .second, .val (.long q4), .second, .val (.int p5), .val (.long g), .second, .val (.long e2), .second, .val (.ref b35), .val (.ref b37), .val (.int (0 : Int32)), .val (.int (0 : Int32)), .val (.ref b37), .val (.int (0 : Int32)), .val (.int (1 : Int32))] [(.int (0 : Int32))]))) (fun _ k => XS.iload X71.here hx rfl (hb hby at_158) rfl k) ?_
      refine own_step (S' := (T71.setTop (mkF m 163 #[.val (.long q1), .second, .val (.long q2), .second, .val (.long q3), .second, .val (.long q4), .second, .val (.int p5), .val (.long g), .second, .val (.long e2), .second, .val (.ref b35), .val (.ref b37), .val (.int (0 : Int32)), .val (.int (0 : Int32)), .val (.ref b37), .val (.int (0 : Int32)), .val (.int (1 : Int32))] []))) (fun _ k => XS.ifNo X71.here hx rfl (hb hby at_160) rfl ((if0 _ _).trans (teq (by decide : (0 : Int32) = (0 : Int32))).2) k) ?_
      refine own_step (S' := (T71.setTop (mkF m 165 #[.val (.long q1), .second, .val (.long q2), .second, .val (.long q3), .second, .val (.long q4), .second, .val (.int p5), .val (.long g), .second, .val (.long e2), .second, .val (.ref b35), .val (.ref b37), .val (.int (0 : Int32)), .val (.int (0 : Int32)), .val (.ref b37), .val (.int (0 : Int32)), .val (.int (1 : Int32))] [(.int (1 : Int32))]))) (fun _ k => XS.iload X71.here hx rfl (hb hby at_163) rfl k) ?_
      refine own_step (S' := (T71.setTop (mkF m 168 #[.val (.long q1), .second, .val (.long q2), .second, .val (.long q3), .second, .val (.long q4), .second, .val (.int p5), .val (.long g), .second, .val (.long e2), .second, .val (.ref b35), .val (.ref b37), .val (.int (0 : Int32)), .val (.int (0 : Int32)), .val (.ref b37), .val (.int (0 : Int32)), .val (.int (1 : Int32))] []))) (fun _ k => XS.ifNo X71.here hx rfl (hb hby at_165) rfl ((if0 _ _).trans (feq (by decide : ¬ ((1 : Int32) = (0 : Int32)))).1) k) ?_
      refine own_step (S' := (T71.setTop (mkF m 170 #[.val (.long q1), .second, .val (.long q2), .second, .val (.long q3), .second, .val (.long q4), .second, .val (.int p5), .val (.long g), .second, .val (.long e2), .second, .val (.ref b35), .val (.ref b37), .val (.int (0 : Int32)), .val (.int (0 : Int32)), .val (.ref b37), .val (.int (0 : Int32)), .val (.int (1 : Int32))] [(.ref b37)]))) (fun _ k => XS.aload X71.here hx rfl (hb hby at_168) rfl rfl k) ?_
      refine own_step (S' := (T71.setTop (mkF m 172 #[.val (.long q1), .second, .val (.long q2), .second, .val (.long q3), .second, .val (.long q4), .second, .val (.int p5), .val (.long g), .second, .val (.long e2), .second, .val (.ref b35), .val (.ref b37), .val (.int (0 : Int32)), .val (.int (0 : Int32)), .val (.ref b37), .val (.int (0 : Int32)), .val (.int (1 : Int32))] [(.ref b35), (.ref b37)]))) (fun _ k => XS.aload X71.here hx rfl (hb hby at_170) rfl rfl k) ?_
      obtain ⟨_, T72, L72, X72, ⟨rfl, N72q, e72⟩, st72⟩ := own_virt (argsL := [(.ref b35)]) (rest := []) X71 hx hZ hown (hw _ (List.mem_of_getElem? (i := 13) rfl)) (hw _ (List.mem_of_getElem? (i := 14) rfl)) (notFace_of_selects (args := #[]) (mvT hZ (hw _ (List.mem_of_getElem? (i := 16) rfl)))) (hw _ (List.mem_of_getElem? (i := 16) rfl)) (hw _ (List.mem_of_getElem? (i := 15) rfl)) (by decide) (hw _ (List.mem_of_getElem? (i := 17) rfl)) (hw _ (List.mem_of_getElem? (i := 2) rfl)) e71 f68 (hM := rmQ_f l Z a0 hw [] b37 b35 g e2 q1 q2 T38.heap n0 Zs69 Ff38 Fe38 f65 f66 f67 hc39) (g := (mkF m 172 #[.val (.long q1), .second, .val (.long q2), .second, .val (.long q3), .second, .val (.long q4), .second, .val (.int p5), .val (.long g), .second, .val (.long e2), .second, .val (.ref b35), .val (.ref b37), .val (.int (0 : Int32)), .val (.int (0 : Int32)), .val (.ref b37), .val (.int (0 : Int32)), .val (.int (1 : Int32))] [(.ref b35), (.ref b37)])) (hg := rfl) (hsize := by rw [hml]; rfl) (hlen := lenOf pd_3 rfl) (hstack := rfl) (W := 0) (hW := by show 2 * 0 + _ ≤ _; exact Nat.le_of_eq rfl) (hd := (hb hby at_172)) (hf := by decide) (hl := by decide) (hc := by decide) (hs := by decide)
      have N72 := Fr.app N71 N72q
      refine own_step (S' := (T72.setTop (mkF m 175 #[.val (.long q1), .second, .val (.long q2), .second, .val (.long q3), .second, .val (.long q4), .second, .val (.int p5), .val (.long g), .second, .val (.long e2), .second, .val (.ref b35), .val (.ref b37), .val (.int (0 : Int32)), .val (.int (0 : Int32)), .val (.ref b37), .val (.int (0 : Int32)), .val (.int (1 : Int32))] [(.int (0 : Int32))]))) (fun _ k => st72 _ k) ?_
      refine own_step (S' := (T72.setTop (mkF m 177 #[.val (.long q1), .second, .val (.long q2), .second, .val (.long q3), .second, .val (.long q4), .second, .val (.int p5), .val (.long g), .second, .val (.long e2), .second, .val (.ref b35), .val (.ref b37), .val (.int (0 : Int32)), .val (.int (0 : Int32)), .val (.ref b37), .val (.int (0 : Int32)), .val (.int (1 : Int32))] [(.int (0 : Int32)), (.int (0 : Int32))]))) (fun _ k => XS.iload X72.here hx rfl (hb hby at_175) rfl k) ?_
      refine own_step (S' := (T72.setTop (mkF m 180 #[.val (.long q1), .second, .val (.long q2), .second, .val (.long q3), .second, .val (.long q4), .second, .val (.int p5), .val (.long g), .second, .val (.long e2), .second, .val (.ref b35), .val (.ref b37), .val (.int (0 : Int32)), .val (.int (0 : Int32)), .val (.ref b37), .val (.int (0 : Int32)), .val (.int (1 : Int32))] []))) (fun _ k => XS.icmpNo X72.here hx rfl (hb hby at_177) rfl (teq (by decide : (0 : Int32) = (0 : Int32))).2 k) ?_
      refine own_step (S' := (T72.setTop (mkF m 181 #[.val (.long q1), .second, .val (.long q2), .second, .val (.long q3), .second, .val (.long q4), .second, .val (.int p5), .val (.long g), .second, .val (.long e2), .second, .val (.ref b35), .val (.ref b37), .val (.int (0 : Int32)), .val (.int (0 : Int32)), .val (.ref b37), .val (.int (0 : Int32)), .val (.int (1 : Int32))] [(.int (1 : Int32))]))) (fun _ k => XS.iconst X72.here hx rfl (hb hby at_180) k) ?_
      refine own_step (S' := (T72.setTop (mkF m 185 #[.val (.long q1), .second, .val (.long q2), .second, .val (.long q3), .second, .val (.long q4), .second, .val (.int p5), .val (.long g), .second, .val (.long e2), .second, .val (.ref b35), .val (.ref b37), .val (.int (0 : Int32)), .val (.int (0 : Int32)), .val (.ref b37), .val (.int (0 : Int32)), .val (.int (1 : Int32))] [(.int (1 : Int32))]))) (fun _ k => XS.goto X72.here hx rfl (pc0 := 181) (pc' := 185) rfl (hb hby at_181) (by decide) (by decide) k) ?_
      refine own_step (S' := (T72.setTop (mkF m 187 #[.val (.long q1), .second, .val (.long q2), .second, .val (.long q3), .second, .val (.long q4), .second, .val (.int p5), .val (.long g), .second, .val (.long e2), .second, .val (.ref b35), .val (.ref b37), .val (.int (0 : Int32)), .val (.int (0 : Int32)), .val (.ref b37), .val (.int (0 : Int32)), .val (.int (1 : Int32))] []))) (fun _ k => XS.istore X72.here hx rfl (hb hby at_185) rfl (l' := #[.val (.long q1), .second, .val (.long q2), .second, .val (.long q3), .second, .val (.long q4), .second, .val (.int p5), .val (.long g), .second, .val (.long e2), .second, .val (.ref b35), .val (.ref b37), .val (.int (0 : Int32)), .val (.int (0 : Int32)), .val (.ref b37), .val (.int (0 : Int32)), .val (.int (1 : Int32))]) rfl k) ?_
      refine own_step (S' := (T72.setTop (mkF m 189 #[.val (.long q1), .second, .val (.long q2), .second, .val (.long q3), .second, .val (.long q4), .second, .val (.int p5), .val (.long g), .second, .val (.long e2), .second, .val (.ref b35), .val (.ref b37), .val (.int (0 : Int32)), .val (.int (0 : Int32)), .val (.ref b37), .val (.int (0 : Int32)), .val (.int (1 : Int32))] [(.int (1 : Int32))]))) (fun _ k => XS.iload X72.here hx rfl (hb hby at_187) rfl k) ?_
      refine own_retN X72 hx hlk hret (by simp) (by decide) (hb hby at_189) (by decide) (by decide) ?_
      try rw [e72]
      exact ⟨rfl, N72⟩
    · rw [hr70]
      refine own_step (S' := (T38.setTop (mkF m 83 #[.val (.long q1), .second, .val (.long q2), .second, .val (.long q3), .second, .val (.long q4), .second, .val (.int p5), .val (.long g), .second, .val (.long e2), .second, .val (.ref b35), .val (.ref b37), .val (.int (0 : Int32)), .val (.int (1 : Int32)), .unset, .unset, .unset] []))) (fun _ k => XS.istore X38.here hx rfl (hb hby at_81) rfl (l' := #[.val (.long q1), .second, .val (.long q2), .second, .val (.long q3), .second, .val (.long q4), .second, .val (.int p5), .val (.long g), .second, .val (.long e2), .second, .val (.ref b35), .val (.ref b37), .val (.int (0 : Int32)), .val (.int (1 : Int32)), .unset, .unset, .unset]) rfl k) ?_
      refine own_step (S' := (T38.setTop (mkF m 85 #[.val (.long q1), .second, .val (.long q2), .second, .val (.long q3), .second, .val (.long q4), .second, .val (.int p5), .val (.long g), .second, .val (.long e2), .second, .val (.ref b35), .val (.ref b37), .val (.int (0 : Int32)), .val (.int (1 : Int32)), .unset, .unset, .unset] [(.int (1 : Int32))]))) (fun _ k => XS.iload X38.here hx rfl (hb hby at_83) rfl k) ?_
      refine own_step (S' := (T38.setTop (mkF m 99 #[.val (.long q1), .second, .val (.long q2), .second, .val (.long q3), .second, .val (.long q4), .second, .val (.int p5), .val (.long g), .second, .val (.long e2), .second, .val (.ref b35), .val (.ref b37), .val (.int (0 : Int32)), .val (.int (1 : Int32)), .unset, .unset, .unset] []))) (fun _ k => XS.ifYes X38.here hx rfl (pc0 := 85) (pc' := 99) rfl (hb hby at_85) rfl ((if0 _ _).trans (feq (by decide : ¬ ((1 : Int32) = (0 : Int32)))).2) (by decide) (by decide) k) ?_
      refine own_step (S' := (T38.setTop (mkF m 101 #[.val (.long q1), .second, .val (.long q2), .second, .val (.long q3), .second, .val (.long q4), .second, .val (.int p5), .val (.long g), .second, .val (.long e2), .second, .val (.ref b35), .val (.ref b37), .val (.int (0 : Int32)), .val (.int (1 : Int32)), .unset, .unset, .unset] [(.int (1 : Int32))]))) (fun _ k => XS.iload X38.here hx rfl (hb hby at_99) rfl k) ?_
      refine own_step (S' := (T38.setTop (mkF m 102 #[.val (.long q1), .second, .val (.long q2), .second, .val (.long q3), .second, .val (.long q4), .second, .val (.int p5), .val (.long g), .second, .val (.long e2), .second, .val (.ref b35), .val (.ref b37), .val (.int (0 : Int32)), .val (.int (1 : Int32)), .unset, .unset, .unset] [(.int (1 : Int32)), (.int (1 : Int32))]))) (fun _ k => XS.iconst X38.here hx rfl (hb hby at_101) k) ?_
      refine own_step (S' := (T38.setTop (mkF m 105 #[.val (.long q1), .second, .val (.long q2), .second, .val (.long q3), .second, .val (.long q4), .second, .val (.int p5), .val (.long g), .second, .val (.long e2), .second, .val (.ref b35), .val (.ref b37), .val (.int (0 : Int32)), .val (.int (1 : Int32)), .unset, .unset, .unset] []))) (fun _ k => XS.icmpNo X38.here hx rfl (hb hby at_102) rfl (teq (by decide : (1 : Int32) = (1 : Int32))).2 k) ?_
      refine own_step (S' := (T38.setTop (mkF m 106 #[.val (.long q1), .second, .val (.long q2), .second, .val (.long q3), .second, .val (.long q4), .second, .val (.int p5), .val (.long g), .second, .val (.long e2), .second, .val (.ref b35), .val (.ref b37), .val (.int (0 : Int32)), .val (.int (1 : Int32)), .unset, .unset, .unset] [.null]))) (fun _ k => XS.aconstNull X38.here hx rfl (hb hby at_105) k) ?_
      refine own_step (S' := (T38.setTop (mkF m 108 #[.val (.long q1), .second, .val (.long q2), .second, .val (.long q3), .second, .val (.long q4), .second, .val (.int p5), .val (.long g), .second, .val (.long e2), .second, .val (.ref b35), .val (.ref b37), .val (.int (0 : Int32)), .val (.int (1 : Int32)), .val .null, .unset, .unset] []))) (fun _ k => XS.astore X38.here hx rfl (hb hby at_106) rfl rfl (l' := #[.val (.long q1), .second, .val (.long q2), .second, .val (.long q3), .second, .val (.long q4), .second, .val (.int p5), .val (.long g), .second, .val (.long e2), .second, .val (.ref b35), .val (.ref b37), .val (.int (0 : Int32)), .val (.int (1 : Int32)), .val .null, .unset, .unset]) rfl k) ?_
      refine own_step (S' := (T38.setTop (mkF m 109 #[.val (.long q1), .second, .val (.long q2), .second, .val (.long q3), .second, .val (.long q4), .second, .val (.int p5), .val (.long g), .second, .val (.long e2), .second, .val (.ref b35), .val (.ref b37), .val (.int (0 : Int32)), .val (.int (1 : Int32)), .val .null, .unset, .unset] [(.int (0 : Int32))]))) (fun _ k => XS.iconst X38.here hx rfl (hb hby at_108) k) ?_
      refine own_step (S' := (T38.setTop (mkF m 111 #[.val (.long q1), .second, .val (.long q2), .second, .val (.long q3), .second, .val (.long q4), .second, .val (.int p5), .val (.long g), .second, .val (.long e2), .second, .val (.ref b35), .val (.ref b37), .val (.int (0 : Int32)), .val (.int (1 : Int32)), .val .null, .val (.int (0 : Int32)), .unset] []))) (fun _ k => XS.istore X38.here hx rfl (hb hby at_109) rfl (l' := #[.val (.long q1), .second, .val (.long q2), .second, .val (.long q3), .second, .val (.long q4), .second, .val (.int p5), .val (.long g), .second, .val (.long e2), .second, .val (.ref b35), .val (.ref b37), .val (.int (0 : Int32)), .val (.int (1 : Int32)), .val .null, .val (.int (0 : Int32)), .unset]) rfl k) ?_
      refine own_step (S' := (T38.setTop (mkF m 139 #[.val (.long q1), .second, .val (.long q2), .second, .val (.long q3), .second, .val (.long q4), .second, .val (.int p5), .val (.long g), .second, .val (.long e2), .second, .val (.ref b35), .val (.ref b37), .val (.int (0 : Int32)), .val (.int (1 : Int32)), .val .null, .val (.int (0 : Int32)), .unset] []))) (fun _ k => XS.goto X38.here hx rfl (pc0 := 111) (pc' := 139) rfl (hb hby at_111) (by decide) (by decide) k) ?_
      refine own_step (S' := (T38.setTop (mkF m 141 #[.val (.long q1), .second, .val (.long q2), .second, .val (.long q3), .second, .val (.long q4), .second, .val (.int p5), .val (.long g), .second, .val (.long e2), .second, .val (.ref b35), .val (.ref b37), .val (.int (0 : Int32)), .val (.int (1 : Int32)), .val .null, .val (.int (0 : Int32)), .unset] [(.ref b35)]))) (fun _ k => XS.aload X38.here hx rfl (hb hby at_139) rfl rfl k) ?_
      refine own_step (S' := (T38.setTop (mkF m 143 #[.val (.long q1), .second, .val (.long q2), .second, .val (.long q3), .second, .val (.long q4), .second, .val (.int p5), .val (.long g), .second, .val (.long e2), .second, .val (.ref b35), .val (.ref b37), .val (.int (0 : Int32)), .val (.int (1 : Int32)), .val .null, .val (.int (0 : Int32)), .unset] [.null, (.ref b35)]))) (fun _ k => XS.aload X38.here hx rfl (hb hby at_141) rfl rfl k) ?_
      obtain ⟨_, T73, L73, X73, ⟨rfl, N73q, e73⟩, st73⟩ := own_virt (argsL := [.null]) (rest := []) X38 hx hZ hown (hw _ (List.mem_of_getElem? (i := 13) rfl)) (hw _ (List.mem_of_getElem? (i := 14) rfl)) (notFace_of_selects (args := #[]) (mvT hZ (hw _ (List.mem_of_getElem? (i := 16) rfl)))) (hw _ (List.mem_of_getElem? (i := 16) rfl)) (hw _ (List.mem_of_getElem? (i := 15) rfl)) (by decide) (hw _ (List.mem_of_getElem? (i := 17) rfl)) (hw _ (List.mem_of_getElem? (i := 2) rfl)) rfl f65 (hM := rmQn l Z a0 hw [] b35 T38.heap n0 Zs69) (g := (mkF m 143 #[.val (.long q1), .second, .val (.long q2), .second, .val (.long q3), .second, .val (.long q4), .second, .val (.int p5), .val (.long g), .second, .val (.long e2), .second, .val (.ref b35), .val (.ref b37), .val (.int (0 : Int32)), .val (.int (1 : Int32)), .val .null, .val (.int (0 : Int32)), .unset] [.null, (.ref b35)])) (hg := rfl) (hsize := by rw [hml]; rfl) (hlen := lenOf pd_3 rfl) (hstack := rfl) (W := 0) (hW := by show 2 * 0 + _ ≤ _; exact Nat.le_of_eq rfl) (hd := (hb hby at_143)) (hf := by decide) (hl := by decide) (hc := by decide) (hs := by decide)
      have N73 := Fr.app N38 N73q
      refine own_step (S' := (T73.setTop (mkF m 146 #[.val (.long q1), .second, .val (.long q2), .second, .val (.long q3), .second, .val (.long q4), .second, .val (.int p5), .val (.long g), .second, .val (.long e2), .second, .val (.ref b35), .val (.ref b37), .val (.int (0 : Int32)), .val (.int (1 : Int32)), .val .null, .val (.int (0 : Int32)), .unset] [(.int (0 : Int32))]))) (fun _ k => st73 _ k) ?_
      refine own_step (S' := (T73.setTop (mkF m 148 #[.val (.long q1), .second, .val (.long q2), .second, .val (.long q3), .second, .val (.long q4), .second, .val (.int p5), .val (.long g), .second, .val (.long e2), .second, .val (.ref b35), .val (.ref b37), .val (.int (0 : Int32)), .val (.int (1 : Int32)), .val .null, .val (.int (0 : Int32)), .unset] [(.int (0 : Int32)), (.int (0 : Int32))]))) (fun _ k => XS.iload X73.here hx rfl (hb hby at_146) rfl k) ?_
      refine own_step (S' := (T73.setTop (mkF m 151 #[.val (.long q1), .second, .val (.long q2), .second, .val (.long q3), .second, .val (.long q4), .second, .val (.int p5), .val (.long g), .second, .val (.long e2), .second, .val (.ref b35), .val (.ref b37), .val (.int (0 : Int32)), .val (.int (1 : Int32)), .val .null, .val (.int (0 : Int32)), .unset] []))) (fun _ k => XS.icmpNo X73.here hx rfl (hb hby at_148) rfl (teq (by decide : (0 : Int32) = (0 : Int32))).2 k) ?_
      refine own_step (S' := (T73.setTop (mkF m 152 #[.val (.long q1), .second, .val (.long q2), .second, .val (.long q3), .second, .val (.long q4), .second, .val (.int p5), .val (.long g), .second, .val (.long e2), .second, .val (.ref b35), .val (.ref b37), .val (.int (0 : Int32)), .val (.int (1 : Int32)), .val .null, .val (.int (0 : Int32)), .unset] [(.int (1 : Int32))]))) (fun _ k => XS.iconst X73.here hx rfl (hb hby at_151) k) ?_
      refine own_step (S' := (T73.setTop (mkF m 156 #[.val (.long q1), .second, .val (.long q2), .second, .val (.long q3), .second, .val (.long q4), .second, .val (.int p5), .val (.long g), .second, .val (.long e2), .second, .val (.ref b35), .val (.ref b37), .val (.int (0 : Int32)), .val (.int (1 : Int32)), .val .null, .val (.int (0 : Int32)), .unset] [(.int (1 : Int32))]))) (fun _ k => XS.goto X73.here hx rfl (pc0 := 152) (pc' := 156) rfl (hb hby at_152) (by decide) (by decide) k) ?_
      refine own_step (S' := (T73.setTop (mkF m 158 #[.val (.long q1), .second, .val (.long q2), .second, .val (.long q3), .second, .val (.long q4), .second, .val (.int p5), .val (.long g), .second, .val (.long e2), .second, .val (.ref b35), .val (.ref b37), .val (.int (0 : Int32)), .val (.int (1 : Int32)), .val .null, .val (.int (0 : Int32)), .val (.int (1 : Int32))] []))) (fun _ k => XS.istore X73.here hx rfl (hb hby at_156) rfl (l' := #[.val (.long q1), .second, .val (.long q2), .second, .val (.long q3), .second, .val (.long q4), .second, .val (.int p5), .val (.long g), .second, .val (.long e2), .second, .val (.ref b35), .val (.ref b37), .val (.int (0 : Int32)), .val (.int (1 : Int32)), .val .null, .val (.int (0 : Int32)), .val (.int (1 : Int32))]) rfl k) ?_
      refine own_step (S' := (T73.setTop (mkF m 160 #[.val (.long q1), .second, .val (.long q2), .second, .val (.long q3), .second, .val (.long q4), .second, .val (.int p5), .val (.long g), .second, .val (.long e2), .second, .val (.ref b35), .val (.ref b37), .val (.int (0 : Int32)), .val (.int (1 : Int32)), .val .null, .val (.int (0 : Int32)), .val (.int (1 : Int32))] [(.int (1 : Int32))]))) (fun _ k => XS.iload X73.here hx rfl (hb hby at_158) rfl k) ?_
      refine own_step (S' := (T73.setTop (mkF m 187 #[.val (.long q1), .second, .val (.long q2), .second, .val (.long q3), .second, .val (.long q4), .second, .val (.int p5), .val (.long g), .second, .val (.long e2), .second, .val (.ref b35), .val (.ref b37), .val (.int (0 : Int32)), .val (.int (1 : Int32)), .val .null, .val (.int (0 : Int32)), .val (.int (1 : Int32))] []))) (fun _ k => XS.ifYes X73.here hx rfl (pc0 := 160) (pc' := 187) rfl (hb hby at_160) rfl ((if0 _ _).trans (feq (by decide : ¬ ((1 : Int32) = (0 : Int32)))).2) (by decide) (by decide) k) ?_
      refine own_step (S' := (T73.setTop (mkF m 189 #[.val (.long q1), .second, .val (.long q2), .second, .val (.long q3), .second, .val (.long q4), .second, .val (.int p5), .val (.long g), .second, .val (.long e2), .second, .val (.ref b35), .val (.ref b37), .val (.int (0 : Int32)), .val (.int (1 : Int32)), .val .null, .val (.int (0 : Int32)), .val (.int (1 : Int32))] [(.int (1 : Int32))]))) (fun _ k => XS.iload X73.here hx rfl (hb hby at_187) rfl k) ?_
      refine own_retN X73 hx hlk hret (by simp) (by decide) (hb hby at_189) (by decide) (by decide) ?_
      try rw [e73]
      exact ⟨rfl, N73⟩
    · rw [hr70]
      refine own_step (S' := (T38.setTop (mkF m 83 #[.val (.long q1), .second, .val (.long q2), .second, .val (.long q3), .second, .val (.long q4), .second, .val (.int p5), .val (.long g), .second, .val (.long e2), .second, .val (.ref b35), .val (.ref b37), .val (.int (0 : Int32)), .val (.int (2 : Int32)), .unset, .unset, .unset] []))) (fun _ k => XS.istore X38.here hx rfl (hb hby at_81) rfl (l' := #[.val (.long q1), .second, .val (.long q2), .second, .val (.long q3), .second, .val (.long q4), .second, .val (.int p5), .val (.long g), .second, .val (.long e2), .second, .val (.ref b35), .val (.ref b37), .val (.int (0 : Int32)), .val (.int (2 : Int32)), .unset, .unset, .unset]) rfl k) ?_
      refine own_step (S' := (T38.setTop (mkF m 85 #[.val (.long q1), .second, .val (.long q2), .second, .val (.long q3), .second, .val (.long q4), .second, .val (.int p5), .val (.long g), .second, .val (.long e2), .second, .val (.ref b35), .val (.ref b37), .val (.int (0 : Int32)), .val (.int (2 : Int32)), .unset, .unset, .unset] [(.int (2 : Int32))]))) (fun _ k => XS.iload X38.here hx rfl (hb hby at_83) rfl k) ?_
      refine own_step (S' := (T38.setTop (mkF m 99 #[.val (.long q1), .second, .val (.long q2), .second, .val (.long q3), .second, .val (.long q4), .second, .val (.int p5), .val (.long g), .second, .val (.long e2), .second, .val (.ref b35), .val (.ref b37), .val (.int (0 : Int32)), .val (.int (2 : Int32)), .unset, .unset, .unset] []))) (fun _ k => XS.ifYes X38.here hx rfl (pc0 := 85) (pc' := 99) rfl (hb hby at_85) rfl ((if0 _ _).trans (feq (by decide : ¬ ((2 : Int32) = (0 : Int32)))).2) (by decide) (by decide) k) ?_
      refine own_step (S' := (T38.setTop (mkF m 101 #[.val (.long q1), .second, .val (.long q2), .second, .val (.long q3), .second, .val (.long q4), .second, .val (.int p5), .val (.long g), .second, .val (.long e2), .second, .val (.ref b35), .val (.ref b37), .val (.int (0 : Int32)), .val (.int (2 : Int32)), .unset, .unset, .unset] [(.int (2 : Int32))]))) (fun _ k => XS.iload X38.here hx rfl (hb hby at_99) rfl k) ?_
      refine own_step (S' := (T38.setTop (mkF m 102 #[.val (.long q1), .second, .val (.long q2), .second, .val (.long q3), .second, .val (.long q4), .second, .val (.int p5), .val (.long g), .second, .val (.long e2), .second, .val (.ref b35), .val (.ref b37), .val (.int (0 : Int32)), .val (.int (2 : Int32)), .unset, .unset, .unset] [(.int (1 : Int32)), (.int (2 : Int32))]))) (fun _ k => XS.iconst X38.here hx rfl (hb hby at_101) k) ?_
      refine own_step (S' := (T38.setTop (mkF m 114 #[.val (.long q1), .second, .val (.long q2), .second, .val (.long q3), .second, .val (.long q4), .second, .val (.int p5), .val (.long g), .second, .val (.long e2), .second, .val (.ref b35), .val (.ref b37), .val (.int (0 : Int32)), .val (.int (2 : Int32)), .unset, .unset, .unset] []))) (fun _ k => XS.icmpYes X38.here hx rfl (pc0 := 102) (pc' := 114) rfl (hb hby at_102) rfl (feq (by decide : ¬ ((2 : Int32) = (1 : Int32)))).2 (by decide) (by decide) k) ?_
      refine own_step (S' := (T38.setTop (mkF m 116 #[.val (.long q1), .second, .val (.long q2), .second, .val (.long q3), .second, .val (.long q4), .second, .val (.int p5), .val (.long g), .second, .val (.long e2), .second, .val (.ref b35), .val (.ref b37), .val (.int (0 : Int32)), .val (.int (2 : Int32)), .unset, .unset, .unset] [(.int (2 : Int32))]))) (fun _ k => XS.iload X38.here hx rfl (hb hby at_114) rfl k) ?_
      refine own_step (S' := (T38.setTop (mkF m 117 #[.val (.long q1), .second, .val (.long q2), .second, .val (.long q3), .second, .val (.long q4), .second, .val (.int p5), .val (.long g), .second, .val (.long e2), .second, .val (.ref b35), .val (.ref b37), .val (.int (0 : Int32)), .val (.int (2 : Int32)), .unset, .unset, .unset] [(.int (2 : Int32)), (.int (2 : Int32))]))) (fun _ k => XS.iconst X38.here hx rfl (hb hby at_116) k) ?_
      refine own_step (S' := (T38.setTop (mkF m 120 #[.val (.long q1), .second, .val (.long q2), .second, .val (.long q3), .second, .val (.long q4), .second, .val (.int p5), .val (.long g), .second, .val (.long e2), .second, .val (.ref b35), .val (.ref b37), .val (.int (0 : Int32)), .val (.int (2 : Int32)), .unset, .unset, .unset] []))) (fun _ k => XS.icmpNo X38.here hx rfl (hb hby at_117) rfl (teq (by decide : (2 : Int32) = (2 : Int32))).2 k) ?_
      refine own_step (S' := (T38.setTop (mkF m 121 #[.val (.long q1), .second, .val (.long q2), .second, .val (.long q3), .second, .val (.long q4), .second, .val (.int p5), .val (.long g), .second, .val (.long e2), .second, .val (.ref b35), .val (.ref b37), .val (.int (0 : Int32)), .val (.int (2 : Int32)), .unset, .unset, .unset] [(.long q1)]))) (fun _ k => XS.lloadN X38.here hx rfl (hb hby at_120) rfl k) ?_
      have Cn : own_Cache Z T38.heap ca := own_cacheKeep C (Keep.trans (Keep.ext (Keep.trans (Keep.ext (Keep.refl h0 []) E35) K36 (allS (Or.inr szo_b35) all0)) E37) K38 (allS (Or.inr szo_b37) all0))
      obtain ⟨_, T74, L74, X74, ⟨y74, rfl, N74q, K74, Ey74⟩, st74⟩ := own_stat (argsL := [(.long q1)]) (rest := []) X38 hx hZ hown (hw _ (List.mem_of_getElem? (i := 20) rfl)) (hw _ (List.mem_of_getElem? (i := 21) rfl)) (by decide) (hw _ (List.mem_of_getElem? (i := 23) rfl)) (hw _ (List.mem_of_getElem? (i := 22) rfl)) rfl (hM := rmVO l Z a0 hw [] ca q1 T38.heap n0 Zs69 Cn) (g := (mkF m 121 #[.val (.long q1), .second, .val (.long q2), .second, .val (.long q3), .second, .val (.long q4), .second, .val (.int p5), .val (.long g), .second, .val (.long e2), .second, .val (.ref b35), .val (.ref b37), .val (.int (0 : Int32)), .val (.int (2 : Int32)), .unset, .unset, .unset] [(.long q1)])) (hg := rfl) (hsize := by rw [hml]; rfl) (hlen := lenOf pd_4 rfl) (hstack := rfl) (W := 0) (hW := by show 2 * 0 + _ ≤ _; exact Nat.le_of_eq rfl) (hd := (hb hby at_121)) (hf := by decide) (hl := by decide) (hc := by decide) (hs := by decide)
      have N74 := Fr.app N38 N74q
      refine own_step (S' := (T74.setTop (mkF m 124 #[.val (.long q1), .second, .val (.long q2), .second, .val (.long q3), .second, .val (.long q4), .second, .val (.int p5), .val (.long g), .second, .val (.long e2), .second, .val (.ref b35), .val (.ref b37), .val (.int (0 : Int32)), .val (.int (2 : Int32)), .unset, .unset, .unset] [(.ref y74)]))) (fun _ k => st74 _ k) ?_
      refine own_step (S' := (T74.setTop (mkF m 126 #[.val (.long q1), .second, .val (.long q2), .second, .val (.long q3), .second, .val (.long q4), .second, .val (.int p5), .val (.long g), .second, .val (.long e2), .second, .val (.ref b35), .val (.ref b37), .val (.int (0 : Int32)), .val (.int (2 : Int32)), .val (.ref y74), .unset, .unset] []))) (fun _ k => XS.astore X74.here hx rfl (hb hby at_124) rfl rfl (l' := #[.val (.long q1), .second, .val (.long q2), .second, .val (.long q3), .second, .val (.long q4), .second, .val (.int p5), .val (.long g), .second, .val (.long e2), .second, .val (.ref b35), .val (.ref b37), .val (.int (0 : Int32)), .val (.int (2 : Int32)), .val (.ref y74), .unset, .unset]) rfl k) ?_
      refine own_step (S' := (T74.setTop (mkF m 127 #[.val (.long q1), .second, .val (.long q2), .second, .val (.long q3), .second, .val (.long q4), .second, .val (.int p5), .val (.long g), .second, .val (.long e2), .second, .val (.ref b35), .val (.ref b37), .val (.int (0 : Int32)), .val (.int (2 : Int32)), .val (.ref y74), .unset, .unset] [(.int (0 : Int32))]))) (fun _ k => XS.iconst X74.here hx rfl (hb hby at_126) k) ?_
      refine own_step (S' := (T74.setTop (mkF m 129 #[.val (.long q1), .second, .val (.long q2), .second, .val (.long q3), .second, .val (.long q4), .second, .val (.int p5), .val (.long g), .second, .val (.long e2), .second, .val (.ref b35), .val (.ref b37), .val (.int (0 : Int32)), .val (.int (2 : Int32)), .val (.ref y74), .val (.int (0 : Int32)), .unset] []))) (fun _ k => XS.istore X74.here hx rfl (hb hby at_127) rfl (l' := #[.val (.long q1), .second, .val (.long q2), .second, .val (.long q3), .second, .val (.long q4), .second, .val (.int p5), .val (.long g), .second, .val (.long e2), .second, .val (.ref b35), .val (.ref b37), .val (.int (0 : Int32)), .val (.int (2 : Int32)), .val (.ref y74), .val (.int (0 : Int32)), .unset]) rfl k) ?_
      refine own_step (S' := (T74.setTop (mkF m 139 #[.val (.long q1), .second, .val (.long q2), .second, .val (.long q3), .second, .val (.long q4), .second, .val (.int p5), .val (.long g), .second, .val (.long e2), .second, .val (.ref b35), .val (.ref b37), .val (.int (0 : Int32)), .val (.int (2 : Int32)), .val (.ref y74), .val (.int (0 : Int32)), .unset] []))) (fun _ k => XS.goto X74.here hx rfl (pc0 := 129) (pc' := 139) rfl (hb hby at_129) (by decide) (by decide) k) ?_
      refine own_step (S' := (T74.setTop (mkF m 141 #[.val (.long q1), .second, .val (.long q2), .second, .val (.long q3), .second, .val (.long q4), .second, .val (.int p5), .val (.long g), .second, .val (.long e2), .second, .val (.ref b35), .val (.ref b37), .val (.int (0 : Int32)), .val (.int (2 : Int32)), .val (.ref y74), .val (.int (0 : Int32)), .unset] [(.ref b35)]))) (fun _ k => XS.aload X74.here hx rfl (hb hby at_139) rfl rfl k) ?_
      refine own_step (S' := (T74.setTop (mkF m 143 #[.val (.long q1), .second, .val (.long q2), .second, .val (.long q3), .second, .val (.long q4), .second, .val (.int p5), .val (.long g), .second, .val (.long e2), .second, .val (.ref b35), .val (.ref b37), .val (.int (0 : Int32)), .val (.int (2 : Int32)), .val (.ref y74), .val (.int (0 : Int32)), .unset] [(.ref y74), (.ref b35)]))) (fun _ k => XS.aload X74.here hx rfl (hb hby at_141) rfl rfl k) ?_
      obtain ⟨_, T75, L75, X75, ⟨rfl, N75q, e75⟩, st75⟩ := own_virt (argsL := [(.ref y74)]) (rest := []) X74 hx hZ hown (hw _ (List.mem_of_getElem? (i := 13) rfl)) (hw _ (List.mem_of_getElem? (i := 14) rfl)) (notFace_of_selects (args := #[]) (mvT hZ (hw _ (List.mem_of_getElem? (i := 16) rfl)))) (hw _ (List.mem_of_getElem? (i := 16) rfl)) (hw _ (List.mem_of_getElem? (i := 15) rfl)) (by decide) (hw _ (List.mem_of_getElem? (i := 17) rfl)) (hw _ (List.mem_of_getElem? (i := 2) rfl)) rfl (Exa.keep f65 K74) (hM := rmQl l Z a0 hw [] b35 y74 T74.heap n0 (Nat.le_trans Zs69 K74.1) Ey74) (g := (mkF m 143 #[.val (.long q1), .second, .val (.long q2), .second, .val (.long q3), .second, .val (.long q4), .second, .val (.int p5), .val (.long g), .second, .val (.long e2), .second, .val (.ref b35), .val (.ref b37), .val (.int (0 : Int32)), .val (.int (2 : Int32)), .val (.ref y74), .val (.int (0 : Int32)), .unset] [(.ref y74), (.ref b35)])) (hg := rfl) (hsize := by rw [hml]; rfl) (hlen := lenOf pd_3 rfl) (hstack := rfl) (W := 0) (hW := by show 2 * 0 + _ ≤ _; exact Nat.le_of_eq rfl) (hd := (hb hby at_143)) (hf := by decide) (hl := by decide) (hc := by decide) (hs := by decide)
      have N75 := Fr.app N74 N75q
      refine own_step (S' := (T75.setTop (mkF m 146 #[.val (.long q1), .second, .val (.long q2), .second, .val (.long q3), .second, .val (.long q4), .second, .val (.int p5), .val (.long g), .second, .val (.long e2), .second, .val (.ref b35), .val (.ref b37), .val (.int (0 : Int32)), .val (.int (2 : Int32)), .val (.ref y74), .val (.int (0 : Int32)), .unset] [(.int (0 : Int32))]))) (fun _ k => st75 _ k) ?_
      refine own_step (S' := (T75.setTop (mkF m 148 #[.val (.long q1), .second, .val (.long q2), .second, .val (.long q3), .second, .val (.long q4), .second, .val (.int p5), .val (.long g), .second, .val (.long e2), .second, .val (.ref b35), .val (.ref b37), .val (.int (0 : Int32)), .val (.int (2 : Int32)), .val (.ref y74), .val (.int (0 : Int32)), .unset] [(.int (0 : Int32)), (.int (0 : Int32))]))) (fun _ k => XS.iload X75.here hx rfl (hb hby at_146) rfl k) ?_
      refine own_step (S' := (T75.setTop (mkF m 151 #[.val (.long q1), .second, .val (.long q2), .second, .val (.long q3), .second, .val (.long q4), .second, .val (.int p5), .val (.long g), .second, .val (.long e2), .second, .val (.ref b35), .val (.ref b37), .val (.int (0 : Int32)), .val (.int (2 : Int32)), .val (.ref y74), .val (.int (0 : Int32)), .unset] []))) (fun _ k => XS.icmpNo X75.here hx rfl (hb hby at_148) rfl (teq (by decide : (0 : Int32) = (0 : Int32))).2 k) ?_
      refine own_step (S' := (T75.setTop (mkF m 152 #[.val (.long q1), .second, .val (.long q2), .second, .val (.long q3), .second, .val (.long q4), .second, .val (.int p5), .val (.long g), .second, .val (.long e2), .second, .val (.ref b35), .val (.ref b37), .val (.int (0 : Int32)), .val (.int (2 : Int32)), .val (.ref y74), .val (.int (0 : Int32)), .unset] [(.int (1 : Int32))]))) (fun _ k => XS.iconst X75.here hx rfl (hb hby at_151) k) ?_
      refine own_step (S' := (T75.setTop (mkF m 156 #[.val (.long q1), .second, .val (.long q2), .second, .val (.long q3), .second, .val (.long q4), .second, .val (.int p5), .val (.long g), .second, .val (.long e2), .second, .val (.ref b35), .val (.ref b37), .val (.int (0 : Int32)), .val (.int (2 : Int32)), .val (.ref y74), .val (.int (0 : Int32)), .unset] [(.int (1 : Int32))]))) (fun _ k => XS.goto X75.here hx rfl (pc0 := 152) (pc' := 156) rfl (hb hby at_152) (by decide) (by decide) k) ?_
      refine own_step (S' := (T75.setTop (mkF m 158 #[.val (.long q1), .second, .val (.long q2), .second, .val (.long q3), .second, .val (.long q4), .second, .val (.int p5), .val (.long g), .second, .val (.long e2), .second, .val (.ref b35), .val (.ref b37), .val (.int (0 : Int32)), .val (.int (2 : Int32)), .val (.ref y74), .val (.int (0 : Int32)), .val (.int (1 : Int32))] []))) (fun _ k => XS.istore X75.here hx rfl (hb hby at_156) rfl (l' := #[.val (.long q1), .second, .val (.long q2), .second, .val (.long q3), .second, .val (.long q4), .second, .val (.int p5), .val (.long g), .second, .val (.long e2), .second, .val (.ref b35), .val (.ref b37), .val (.int (0 : Int32)), .val (.int (2 : Int32)), .val (.ref y74), .val (.int (0 : Int32)), .val (.int (1 : Int32))]) rfl k) ?_
      refine own_step (S' := (T75.setTop (mkF m 160 #[.val (.long q1), .second, .val (.long q2), .second, .val (.long q3), .second, .val (.long q4), .second, .val (.int p5), .val (.long g), .second, .val (.long e2), .second, .val (.ref b35), .val (.ref b37), .val (.int (0 : Int32)), .val (.int (2 : Int32)), .val (.ref y74), .val (.int (0 : Int32)), .val (.int (1 : Int32))] [(.int (2 : Int32))]))) (fun _ k => XS.iload X75.here hx rfl (hb hby at_158) rfl k) ?_
      refine own_step (S' := (T75.setTop (mkF m 187 #[.val (.long q1), .second, .val (.long q2), .second, .val (.long q3), .second, .val (.long q4), .second, .val (.int p5), .val (.long g), .second, .val (.long e2), .second, .val (.ref b35), .val (.ref b37), .val (.int (0 : Int32)), .val (.int (2 : Int32)), .val (.ref y74), .val (.int (0 : Int32)), .val (.int (1 : Int32))] []))) (fun _ k => XS.ifYes X75.here hx rfl (pc0 := 160) (pc' := 187) rfl (hb hby at_160) rfl ((if0 _ _).trans (feq (by decide : ¬ ((2 : Int32) = (0 : Int32)))).2) (by decide) (by decide) k) ?_
      refine own_step (S' := (T75.setTop (mkF m 189 #[.val (.long q1), .second, .val (.long q2), .second, .val (.long q3), .second, .val (.long q4), .second, .val (.int p5), .val (.long g), .second, .val (.long e2), .second, .val (.ref b35), .val (.ref b37), .val (.int (0 : Int32)), .val (.int (2 : Int32)), .val (.ref y74), .val (.int (0 : Int32)), .val (.int (1 : Int32))] [(.int (1 : Int32))]))) (fun _ k => XS.iload X75.here hx rfl (hb hby at_187) rfl k) ?_
      refine own_retN X75 hx hlk hret (by simp) (by decide) (hb hby at_189) (by decide) (by decide) ?_
      try rw [e75]
      exact ⟨rfl, N75⟩
    · rw [hr70]
      refine own_step (S' := (T38.setTop (mkF m 83 #[.val (.long q1), .second, .val (.long q2), .second, .val (.long q3), .second, .val (.long q4), .second, .val (.int p5), .val (.long g), .second, .val (.long e2), .second, .val (.ref b35), .val (.ref b37), .val (.int (0 : Int32)), .val (.int (3 : Int32)), .unset, .unset, .unset] []))) (fun _ k => XS.istore X38.here hx rfl (hb hby at_81) rfl (l' := #[.val (.long q1), .second, .val (.long q2), .second, .val (.long q3), .second, .val (.long q4), .second, .val (.int p5), .val (.long g), .second, .val (.long e2), .second, .val (.ref b35), .val (.ref b37), .val (.int (0 : Int32)), .val (.int (3 : Int32)), .unset, .unset, .unset]) rfl k) ?_
      refine own_step (S' := (T38.setTop (mkF m 85 #[.val (.long q1), .second, .val (.long q2), .second, .val (.long q3), .second, .val (.long q4), .second, .val (.int p5), .val (.long g), .second, .val (.long e2), .second, .val (.ref b35), .val (.ref b37), .val (.int (0 : Int32)), .val (.int (3 : Int32)), .unset, .unset, .unset] [(.int (3 : Int32))]))) (fun _ k => XS.iload X38.here hx rfl (hb hby at_83) rfl k) ?_
      refine own_step (S' := (T38.setTop (mkF m 99 #[.val (.long q1), .second, .val (.long q2), .second, .val (.long q3), .second, .val (.long q4), .second, .val (.int p5), .val (.long g), .second, .val (.long e2), .second, .val (.ref b35), .val (.ref b37), .val (.int (0 : Int32)), .val (.int (3 : Int32)), .unset, .unset, .unset] []))) (fun _ k => XS.ifYes X38.here hx rfl (pc0 := 85) (pc' := 99) rfl (hb hby at_85) rfl ((if0 _ _).trans (feq (by decide : ¬ ((3 : Int32) = (0 : Int32)))).2) (by decide) (by decide) k) ?_
      refine own_step (S' := (T38.setTop (mkF m 101 #[.val (.long q1), .second, .val (.long q2), .second, .val (.long q3), .second, .val (.long q4), .second, .val (.int p5), .val (.long g), .second, .val (.long e2), .second, .val (.ref b35), .val (.ref b37), .val (.int (0 : Int32)), .val (.int (3 : Int32)), .unset, .unset, .unset] [(.int (3 : Int32))]))) (fun _ k => XS.iload X38.here hx rfl (hb hby at_99) rfl k) ?_
      refine own_step (S' := (T38.setTop (mkF m 102 #[.val (.long q1), .second, .val (.long q2), .second, .val (.long q3), .second, .val (.long q4), .second, .val (.int p5), .val (.long g), .second, .val (.long e2), .second, .val (.ref b35), .val (.ref b37), .val (.int (0 : Int32)), .val (.int (3 : Int32)), .unset, .unset, .unset] [(.int (1 : Int32)), (.int (3 : Int32))]))) (fun _ k => XS.iconst X38.here hx rfl (hb hby at_101) k) ?_
      refine own_step (S' := (T38.setTop (mkF m 114 #[.val (.long q1), .second, .val (.long q2), .second, .val (.long q3), .second, .val (.long q4), .second, .val (.int p5), .val (.long g), .second, .val (.long e2), .second, .val (.ref b35), .val (.ref b37), .val (.int (0 : Int32)), .val (.int (3 : Int32)), .unset, .unset, .unset] []))) (fun _ k => XS.icmpYes X38.here hx rfl (pc0 := 102) (pc' := 114) rfl (hb hby at_102) rfl (feq (by decide : ¬ ((3 : Int32) = (1 : Int32)))).2 (by decide) (by decide) k) ?_
      refine own_step (S' := (T38.setTop (mkF m 116 #[.val (.long q1), .second, .val (.long q2), .second, .val (.long q3), .second, .val (.long q4), .second, .val (.int p5), .val (.long g), .second, .val (.long e2), .second, .val (.ref b35), .val (.ref b37), .val (.int (0 : Int32)), .val (.int (3 : Int32)), .unset, .unset, .unset] [(.int (3 : Int32))]))) (fun _ k => XS.iload X38.here hx rfl (hb hby at_114) rfl k) ?_
      refine own_step (S' := (T38.setTop (mkF m 117 #[.val (.long q1), .second, .val (.long q2), .second, .val (.long q3), .second, .val (.long q4), .second, .val (.int p5), .val (.long g), .second, .val (.long e2), .second, .val (.ref b35), .val (.ref b37), .val (.int (0 : Int32)), .val (.int (3 : Int32)), .unset, .unset, .unset] [(.int (2 : Int32)), (.int (3 : Int32))]))) (fun _ k => XS.iconst X38.here hx rfl (hb hby at_116) k) ?_
      refine own_step (S' := (T38.setTop (mkF m 132 #[.val (.long q1), .second, .val (.long q2), .second, .val (.long q3), .second, .val (.long q4), .second, .val (.int p5), .val (.long g), .second, .val (.long e2), .second, .val (.ref b35), .val (.ref b37), .val (.int (0 : Int32)), .val (.int (3 : Int32)), .unset, .unset, .unset] []))) (fun _ k => XS.icmpYes X38.here hx rfl (pc0 := 117) (pc' := 132) rfl (hb hby at_117) rfl (feq (by decide : ¬ ((3 : Int32) = (2 : Int32)))).2 (by decide) (by decide) k) ?_
      refine own_step (S' := (T38.setTop (mkF m 134 #[.val (.long q1), .second, .val (.long q2), .second, .val (.long q3), .second, .val (.long q4), .second, .val (.int p5), .val (.long g), .second, .val (.long e2), .second, .val (.ref b35), .val (.ref b37), .val (.int (0 : Int32)), .val (.int (3 : Int32)), .unset, .unset, .unset] [(.ref b35)]))) (fun _ k => XS.aload X38.here hx rfl (hb hby at_132) rfl rfl k) ?_
      refine own_step (S' := (T38.setTop (mkF m 136 #[.val (.long q1), .second, .val (.long q2), .second, .val (.long q3), .second, .val (.long q4), .second, .val (.int p5), .val (.long g), .second, .val (.long e2), .second, .val (.ref b35), .val (.ref b37), .val (.int (0 : Int32)), .val (.int (3 : Int32)), .val (.ref b35), .unset, .unset] []))) (fun _ k => XS.astore X38.here hx rfl (hb hby at_134) rfl rfl (l' := #[.val (.long q1), .second, .val (.long q2), .second, .val (.long q3), .second, .val (.long q4), .second, .val (.int p5), .val (.long g), .second, .val (.long e2), .second, .val (.ref b35), .val (.ref b37), .val (.int (0 : Int32)), .val (.int (3 : Int32)), .val (.ref b35), .unset, .unset]) rfl k) ?_
      refine own_step (S' := (T38.setTop (mkF m 137 #[.val (.long q1), .second, .val (.long q2), .second, .val (.long q3), .second, .val (.long q4), .second, .val (.int p5), .val (.long g), .second, .val (.long e2), .second, .val (.ref b35), .val (.ref b37), .val (.int (0 : Int32)), .val (.int (3 : Int32)), .val (.ref b35), .unset, .unset] [(.int (1 : Int32))]))) (fun _ k => XS.iconst X38.here hx rfl (hb hby at_136) k) ?_
      refine own_step (S' := (T38.setTop (mkF m 139 #[.val (.long q1), .second, .val (.long q2), .second, .val (.long q3), .second, .val (.long q4), .second, .val (.int p5), .val (.long g), .second, .val (.long e2), .second, .val (.ref b35), .val (.ref b37), .val (.int (0 : Int32)), .val (.int (3 : Int32)), .val (.ref b35), .val (.int (1 : Int32)), .unset] []))) (fun _ k => XS.istore X38.here hx rfl (hb hby at_137) rfl (l' := #[.val (.long q1), .second, .val (.long q2), .second, .val (.long q3), .second, .val (.long q4), .second, .val (.int p5), .val (.long g), .second, .val (.long e2), .second, .val (.ref b35), .val (.ref b37), .val (.int (0 : Int32)), .val (.int (3 : Int32)), .val (.ref b35), .val (.int (1 : Int32)), .unset]) rfl k) ?_
      refine own_step (S' := (T38.setTop (mkF m 141 #[.val (.long q1), .second, .val (.long q2), .second, .val (.long q3), .second, .val (.long q4), .second, .val (.int p5), .val (.long g), .second, .val (.long e2), .second, .val (.ref b35), .val (.ref b37), .val (.int (0 : Int32)), .val (.int (3 : Int32)), .val (.ref b35), .val (.int (1 : Int32)), .unset] [(.ref b35)]))) (fun _ k => XS.aload X38.here hx rfl (hb hby at_139) rfl rfl k) ?_
      refine own_step (S' := (T38.setTop (mkF m 143 #[.val (.long q1), .second, .val (.long q2), .second, .val (.long q3), .second, .val (.long q4), .second, .val (.int p5), .val (.long g), .second, .val (.long e2), .second, .val (.ref b35), .val (.ref b37), .val (.int (0 : Int32)), .val (.int (3 : Int32)), .val (.ref b35), .val (.int (1 : Int32)), .unset] [(.ref b35), (.ref b35)]))) (fun _ k => XS.aload X38.here hx rfl (hb hby at_141) rfl rfl k) ?_
      obtain ⟨_, T76, L76, X76, ⟨rfl, N76q, e76⟩, st76⟩ := own_virt (argsL := [(.ref b35)]) (rest := []) X38 hx hZ hown (hw _ (List.mem_of_getElem? (i := 13) rfl)) (hw _ (List.mem_of_getElem? (i := 14) rfl)) (notFace_of_selects (args := #[]) (mvT hZ (hw _ (List.mem_of_getElem? (i := 16) rfl)))) (hw _ (List.mem_of_getElem? (i := 16) rfl)) (hw _ (List.mem_of_getElem? (i := 15) rfl)) (by decide) (hw _ (List.mem_of_getElem? (i := 17) rfl)) (hw _ (List.mem_of_getElem? (i := 2) rfl)) rfl f65 (hM := rmQ_1 l Z a0 hw [] b35 b35 q1 q2 q1 q2 T38.heap n0 Zs69 f66 f67 f65 f66 f67 rfl rfl) (g := (mkF m 143 #[.val (.long q1), .second, .val (.long q2), .second, .val (.long q3), .second, .val (.long q4), .second, .val (.int p5), .val (.long g), .second, .val (.long e2), .second, .val (.ref b35), .val (.ref b37), .val (.int (0 : Int32)), .val (.int (3 : Int32)), .val (.ref b35), .val (.int (1 : Int32)), .unset] [(.ref b35), (.ref b35)])) (hg := rfl) (hsize := by rw [hml]; rfl) (hlen := lenOf pd_3 rfl) (hstack := rfl) (W := 0) (hW := by show 2 * 0 + _ ≤ _; exact Nat.le_of_eq rfl) (hd := (hb hby at_143)) (hf := by decide) (hl := by decide) (hc := by decide) (hs := by decide)
      have N76 := Fr.app N38 N76q
      refine own_step (S' := (T76.setTop (mkF m 146 #[.val (.long q1), .second, .val (.long q2), .second, .val (.long q3), .second, .val (.long q4), .second, .val (.int p5), .val (.long g), .second, .val (.long e2), .second, .val (.ref b35), .val (.ref b37), .val (.int (0 : Int32)), .val (.int (3 : Int32)), .val (.ref b35), .val (.int (1 : Int32)), .unset] [(.int (1 : Int32))]))) (fun _ k => st76 _ k) ?_
      refine own_step (S' := (T76.setTop (mkF m 148 #[.val (.long q1), .second, .val (.long q2), .second, .val (.long q3), .second, .val (.long q4), .second, .val (.int p5), .val (.long g), .second, .val (.long e2), .second, .val (.ref b35), .val (.ref b37), .val (.int (0 : Int32)), .val (.int (3 : Int32)), .val (.ref b35), .val (.int (1 : Int32)), .unset] [(.int (1 : Int32)), (.int (1 : Int32))]))) (fun _ k => XS.iload X76.here hx rfl (hb hby at_146) rfl k) ?_
      refine own_step (S' := (T76.setTop (mkF m 151 #[.val (.long q1), .second, .val (.long q2), .second, .val (.long q3), .second, .val (.long q4), .second, .val (.int p5), .val (.long g), .second, .val (.long e2), .second, .val (.ref b35), .val (.ref b37), .val (.int (0 : Int32)), .val (.int (3 : Int32)), .val (.ref b35), .val (.int (1 : Int32)), .unset] []))) (fun _ k => XS.icmpNo X76.here hx rfl (hb hby at_148) rfl (teq (by decide : (1 : Int32) = (1 : Int32))).2 k) ?_
      refine own_step (S' := (T76.setTop (mkF m 152 #[.val (.long q1), .second, .val (.long q2), .second, .val (.long q3), .second, .val (.long q4), .second, .val (.int p5), .val (.long g), .second, .val (.long e2), .second, .val (.ref b35), .val (.ref b37), .val (.int (0 : Int32)), .val (.int (3 : Int32)), .val (.ref b35), .val (.int (1 : Int32)), .unset] [(.int (1 : Int32))]))) (fun _ k => XS.iconst X76.here hx rfl (hb hby at_151) k) ?_
      refine own_step (S' := (T76.setTop (mkF m 156 #[.val (.long q1), .second, .val (.long q2), .second, .val (.long q3), .second, .val (.long q4), .second, .val (.int p5), .val (.long g), .second, .val (.long e2), .second, .val (.ref b35), .val (.ref b37), .val (.int (0 : Int32)), .val (.int (3 : Int32)), .val (.ref b35), .val (.int (1 : Int32)), .unset] [(.int (1 : Int32))]))) (fun _ k => XS.goto X76.here hx rfl (pc0 := 152) (pc' := 156) rfl (hb hby at_152) (by decide) (by decide) k) ?_
      refine own_step (S' := (T76.setTop (mkF m 158 #[.val (.long q1), .second, .val (.long q2), .second, .val (.long q3), .second, .val (.long q4), .second, .val (.int p5), .val (.long g), .second, .val (.long e2), .second, .val (.ref b35), .val (.ref b37), .val (.int (0 : Int32)), .val (.int (3 : Int32)), .val (.ref b35), .val (.int (1 : Int32)), .val (.int (1 : Int32))] []))) (fun _ k => XS.istore X76.here hx rfl (hb hby at_156) rfl (l' := #[.val (.long q1), .second, .val (.long q2), .second, .val (.long q3), .second, .val (.long q4), .second, .val (.int p5), .val (.long g), .second, .val (.long e2), .second, .val (.ref b35), .val (.ref b37), .val (.int (0 : Int32)), .val (.int (3 : Int32)), .val (.ref b35), .val (.int (1 : Int32)), .val (.int (1 : Int32))]) rfl k) ?_
      refine own_step (S' := (T76.setTop (mkF m 160 #[.val (.long q1), .second, .val (.long q2), .second, .val (.long q3), .second, .val (.long q4), .second, .val (.int p5), .val (.long g), .second, .val (.long e2), .second, .val (.ref b35), .val (.ref b37), .val (.int (0 : Int32)), .val (.int (3 : Int32)), .val (.ref b35), .val (.int (1 : Int32)), .val (.int (1 : Int32))] [(.int (3 : Int32))]))) (fun _ k => XS.iload X76.here hx rfl (hb hby at_158) rfl k) ?_
      refine own_step (S' := (T76.setTop (mkF m 187 #[.val (.long q1), .second, .val (.long q2), .second, .val (.long q3), .second, .val (.long q4), .second, .val (.int p5), .val (.long g), .second, .val (.long e2), .second, .val (.ref b35), .val (.ref b37), .val (.int (0 : Int32)), .val (.int (3 : Int32)), .val (.ref b35), .val (.int (1 : Int32)), .val (.int (1 : Int32))] []))) (fun _ k => XS.ifYes X76.here hx rfl (pc0 := 160) (pc' := 187) rfl (hb hby at_160) rfl ((if0 _ _).trans (feq (by decide : ¬ ((3 : Int32) = (0 : Int32)))).2) (by decide) (by decide) k) ?_
      refine own_step (S' := (T76.setTop (mkF m 189 #[.val (.long q1), .second, .val (.long q2), .second, .val (.long q3), .second, .val (.long q4), .second, .val (.int p5), .val (.long g), .second, .val (.long e2), .second, .val (.ref b35), .val (.ref b37), .val (.int (0 : Int32)), .val (.int (3 : Int32)), .val (.ref b35), .val (.int (1 : Int32)), .val (.int (1 : Int32))] [(.int (1 : Int32))]))) (fun _ k => XS.iload X76.here hx rfl (hb hby at_187) rfl k) ?_
      refine own_retN X76 hx hlk hret (by simp) (by decide) (hb hby at_189) (by decide) (by decide) ?_
      try rw [e76]
      exact ⟨rfl, N76⟩
set_option maxRecDepth 65536 in
set_option maxHeartbeats 40000000 in
theorem comes_1 {Post : Tables → Env → Array Value → State → Outcome → State → Prop} (hpost : ∀ tb e args s v u, (limb_1_1.after args s (.returned v) u = true ∧ limb_1_2.after args s (.returned v) u = true ∧ True) → FrameEnd s (.returned v) u (Jvm.fieldLocs frame_1_writes args s ++ Jvm.arrayLocs frame_1_arrays args s ++ Jvm.staticLocs frame_1_statics s) 16 128 → Post tb e args s (.returned v) u) :
    ArmFor flags0 classFile x code maxLocals ret World_1 tables_1 room_1 Calls_1 rest_1 Pre_1 Post := by
  intro l hfl _ _ p e ha hc hk s m args below hf hA hF happ hP
  obtain ⟨hcalls, hrest, hpre⟩ := hP
  obtain ⟨-, -, -, hnamed, -, -, -, hat⟩ := (Spec.applies_iff hf).mp happ
  obtain ⟨hg, hn⟩ := and_e (Cond.before_iff.mp (show (Jvm.Cond.and given_1 narrow_1).before args s = true from hpre))
  obtain ⟨g0a, g0b⟩ := and_e hg
  obtain ⟨g1a, g1b⟩ := and_e g0b
  obtain ⟨g2a, g2b⟩ := and_e g1b
  obtain ⟨g3a, g3b⟩ := and_e g2b
  obtain ⟨g4a, g4b⟩ := and_e g3b
  obtain ⟨w0, w1, w2, w3, w4, rfl⟩ : ∃ w0 w1 w2 w3 w4 : Value, args = #[w0, w1, w2, w3, w4] := by
    have hs : args.size = 5 := by simpa [Cond.value, given_1] using g0a
    obtain ⟨L⟩ := args
    match L, hs with
    | [w0, w1, w2, w3, w4], _ => exact ⟨w0, w1, w2, w3, w4, rfl⟩
  have hw := fun d (hd : d ∈ tables_1) => atoms_spec (ws := Jvm.Cond.code x code maxLocals ret :: tables_1) hat d (List.mem_cons_of_mem _ hd)
  have hfit : Fit s := fun {y c} hc i hi => by
    obtain ⟨ha, rfl⟩ := Array.getElem?_eq_some_iff.mp hc
    have q := List.all_eq_true.mp ((Array.all_eq_true_iff_forall_mem.mp hF) _ (Array.getElem_mem ha)) i (List.mem_range.mpr hi)
    simpa [Array.getElem?_eq_getElem hi] using q
  obtain ⟨hsets, hown0⟩ := atoms_of _ (rest_1_c_eq ▸ (show rest_1_c.before _ s = true from hrest))
  have hr0 := Cond.before_iff.mp hown0
  obtain ⟨i0, ei0⟩ := isL_v g1a
  obtain rfl : w0 = (.long i0) := Option.some.inj ei0
  obtain ⟨i1, ei1⟩ := isL_v g2a
  obtain rfl : w1 = (.long i1) := Option.some.inj ei1
  obtain ⟨i2, ei2⟩ := isL_v g3a
  obtain rfl : w2 = (.long i2) := Option.some.inj ei2
  obtain ⟨i3, ei3⟩ := isL_v g4a
  obtain rfl : w3 = (.long i3) := Option.some.inj ei3
  obtain ⟨i4, ei4⟩ := is_v g4b
  obtain rfl : w4 = (.int i4) := Option.some.inj ei4
  obtain ⟨a_cache, ev0⟩ := exa_v (Cond.before_iff.mp (hsets _ (List.mem_of_getElem? (i := 3) rfl)))
  obtain ⟨cl, A⟩ := Arr.start ev0 (Cond.before_iff.mp (hsets _ (List.mem_of_getElem? (i := 2) rfl)))
  have Sc := Sta.start ev0 (Or.inl (hsets _ (List.mem_of_getElem? (i := 1) rfl)))
  have Ln := own_len ev0 A (own_eqI (Cond.before_iff.mp (hsets _ (List.mem_of_getElem? (i := 4) rfl))))
  have Cc : own_Cache s s.heap a_cache := own_cacheStart ev0 A Sc Ln (Cond.before_iff.mp (hsets _ (List.mem_of_getElem? (i := 5) rfl)))
  obtain ⟨n, o, h1, h2, h3, _, L, rfl, ⟨rfl, N⟩, hq⟩ := (rm0 l s _ hw tables_1 a_cache i0 i1 i2 i3 i4 s.heap s.heap.size (Nat.le_refl _) Cc) p e ha hc hk s m _ below hf ((Spec.applies_iff_loose hf).mp happ).1 ⟨rfl, State.Warmed39.refl s, rfl⟩ trivial
  refine ⟨n, _, h1, h2, h3, hpost _ _ _ _ _ _ ⟨Cond.after_iff.mpr rfl, Cond.after_iff.mpr (eq_i res_at (Term.int_eval (1)) rfl), trivial⟩ ⟨hq.1, hq.2.1, (hq.2.2.sift fun y hy => Or.inr (N y hy)).mono (by decide) (by decide)⟩⟩
theorem main_1_1 : Claimed_1_1 := comes_1 fun _ _ _ _ _ _ h hF => ⟨h.1, hF⟩
theorem main_1_2 : Claimed_1_2 := comes_1 fun _ _ _ _ _ _ h hF => ⟨h.2.1, hF⟩
end Jvm.Pilot.@@N@@
namespace Jvm.Pilot.@@N@@
open Jvm Jvm.ClassFile Sem Op Lib Jvm.Free Jvm.Stand Jvm.Pilot.@@N@@.Jvm.D
/-! MADE BY PROGRAM (witnessworld.py) out of the Statement's table words and the real class files: 16 classes; the members and pool entries that the words name. The judged class is class 1, her method 1. -/
namespace start1
open Jvm.ClassFile
def u (s : String) : CpInfo := .utf8 (stringToUtf16 s)
/-- a pool by its gaps: so many unusable entries, then the entry; so many at the end -/
def gap : Nat → List CpInfo → List CpInfo
  | 0, r => r
  | n + 1, r => .unusable :: gap n r
def poolList (es : List (Nat × CpInfo)) (last : Nat) : List CpInfo := es.foldr (fun e r => gap e.1 (e.2 :: r)) (gap last [])
def pool (es : List (Nat × CpInfo)) (last : Nat) : Array CpInfo := ⟨poolList es last⟩
def fileOf (pool : Array CpInfo) (this : Nat) (attrs : Array Attribute := #[]) (ms : Array MethodInfo := #[]) (fl : Nat := 33) (sup : Nat := 0) (ifs : Array Nat := #[]) (fds : Array FieldInfo := #[]) : ClassFile where
  minorVersion := 0
  majorVersion := 65
  constantPool := pool
  accessFlags := fl
  thisClass := this
  superClass := sup
  interfaces := ifs
  fields := fds
  methods := ms
  attributes := attrs
def plain (name : String) (sup : Option ClassId) : Class where
  name := name
  kind := .ordinary
  loader := none
  accessFlags := 33
  super := sup
  interfaces := #[]
  cf := none
  fields := #[]
  methods := #[]
  instanceTypes := #[]
  staticTypes := #[]
  resolved := #[]
  callSites := []
  init := .initialized
  statics := none
  mirror := none

def pool0 : Array CpInfo := pool [(5, u "<init>"), (0, u "()V"), (1, .class_ 10), (1, u "java/lang/Object")] 113

def k0c0 : Code := { maxStack := 0, maxLocals := 1, code := object_method_1_code, exceptionTable := #[], attributes := #[] }
def k0m0 : Method := { name := "<init>", desc := "()V", sig := { parameters := [], returnType := none }, accessFlags := 1, code := some k0c0 }
/-- java/lang/Object -/
def k0 : Class := { plain "java/lang/Object" none with
  accessFlags := 33
  interfaces := #[]
  cf := some (fileOf pool0 8 #[] #[{ accessFlags := 1, nameIndex := 5, descriptorIndex := 6, attributes := #[] }] 33 0 #[] #[])
  fields := #[]
  methods := #[k0m0]
  instanceTypes := #[]
  staticTypes := #[]
  resolved := Array.replicate 124 none
  statics := none }

def pool1 : Array CpInfo := pool [(2, .class_ 4), (1, u "java/lang/Object"), (0, u "<init>"), (0, u "()V"), (0, .class_ 8), (0, u "com/example/leith/leith/migration/PageRange"), (0, .methodref 7 10), (0, .nameAndType 5 11), (0, u "(JJ)V"), (0, .methodref 13 14), (0, .class_ 15), (0, .nameAndType 16 17), (0, u "java/lang/Long"), (0, u "valueOf"), (0, u "(J)Ljava/lang/Long;"), (0, .methodref 7 19), (0, .nameAndType 20 21), (0, u "equals"), (0, u "(Ljava/lang/Object;)Z"), (0, .class_ 23), (0, u "com/example/leith/leith/migration/PageRangeEqualsPinLaw"), (2, u "law"), (0, u "(JJJJI)Z")] 3

def k1m0 : Method := { name := "<init>", desc := "()V", sig := { parameters := [], returnType := none }, accessFlags := 2, code := none }
def k1c1 : Code := { maxStack := 6, maxLocals := 20, code := code, exceptionTable := #[], attributes := #[] }
def k1m1 : Method := { name := "law", desc := "(JJJJI)Z", sig := { parameters := [.long, .long, .long, .long, .int], returnType := some .boolean }, accessFlags := 9, code := some k1c1 }
/-- com/example/leith/leith/migration/PageRangeEqualsPinLaw -/
def k1 : Class := { plain "com/example/leith/leith/migration/PageRangeEqualsPinLaw" (some 0) with
  accessFlags := 49
  interfaces := #[]
  cf := some (fileOf pool1 22 #[] #[{ accessFlags := 2, nameIndex := 5, descriptorIndex := 6, attributes := #[] }, { accessFlags := 9, nameIndex := 26, descriptorIndex := 27, attributes := #[] }] 49 2 #[] #[])
  fields := #[]
  methods := #[k1m0, k1m1]
  instanceTypes := #[]
  staticTypes := #[]
  resolved := Array.replicate 31 none
  statics := none }

def pool2 : Array CpInfo := pool [(1, .methodref 2 3), (0, .class_ 4), (0, .nameAndType 5 6), (0, u "java/lang/Object"), (0, u "<init>"), (0, u "()V"), (0, .fieldref 8 9), (0, .class_ 10), (0, .nameAndType 11 12), (0, u "com/example/leith/leith/migration/PageRange"), (0, u "first"), (0, u "J"), (0, .fieldref 8 14), (0, .nameAndType 15 12), (0, u "end"), (10, u "(JJ)V"), (3, u "equals"), (0, u "(Ljava/lang/Object;)Z")] 21

def k2c0 : Code := { maxStack := 3, maxLocals := 5, code := prog_25_method_1_code, exceptionTable := #[], attributes := #[] }
def k2m0 : Method := { name := "<init>", desc := "(JJ)V", sig := { parameters := [.long, .long], returnType := none }, accessFlags := 0, code := some k2c0 }
def k2c1 : Code := { maxStack := 4, maxLocals := 2, code := prog_25_method_4_code, exceptionTable := #[], attributes := #[] }
def k2m1 : Method := { name := "equals", desc := "(Ljava/lang/Object;)Z", sig := { parameters := [(.object "java/lang/Object")], returnType := some .boolean }, accessFlags := 1, code := some k2c1 }
/-- com/example/leith/leith/migration/PageRange -/
def k2 : Class := { plain "com/example/leith/leith/migration/PageRange" (some 0) with
  accessFlags := 48
  interfaces := #[]
  cf := some (fileOf pool2 8 #[] #[{ accessFlags := 0, nameIndex := 5, descriptorIndex := 26, attributes := #[] }, { accessFlags := 1, nameIndex := 30, descriptorIndex := 31, attributes := #[] }] 48 2 #[] #[{ accessFlags := 18, nameIndex := 11, descriptorIndex := 12, attributes := #[] }, { accessFlags := 18, nameIndex := 15, descriptorIndex := 12, attributes := #[] }])
  fields := #[{ name := "first", type := .long, accessFlags := 18, slot := 0, constantValue := 0 }, { name := "end", type := .long, accessFlags := 18, slot := 1, constantValue := 0 }]
  methods := #[k2m0, k2m1]
  instanceTypes := #[.long, .long]
  staticTypes := #[]
  resolved := Array.replicate 53 none
  statics := none }

def pool3 : Array CpInfo := pool [(1, .class_ 2), (0, u "java/io/Serializable"), (0, .class_ 4), (0, u "java/lang/Object")] 2

/-- java/io/Serializable -/
def k3 : Class := { plain "java/io/Serializable" (some 0) with
  accessFlags := 1537
  interfaces := #[]
  cf := some (fileOf pool3 1 #[] #[] 1537 3 #[] #[])
  fields := #[]
  methods := #[]
  instanceTypes := #[]
  staticTypes := #[]
  resolved := Array.replicate 7 none
  statics := none }

def pool4 : Array CpInfo := pool [(1, .methodref 2 3), (0, .class_ 4), (0, .nameAndType 5 6), (0, u "java/lang/Object"), (0, u "<init>"), (0, u "()V"), (1, .class_ 10), (1, u "java/lang/Number"), (2, .class_ 14), (0, u "java/io/Serializable"), (0, u "serialVersionUID"), (0, u "J")] 20

def k4c0 : Code := { maxStack := 1, maxLocals := 1, code := jdk_18_method_1_code, exceptionTable := #[], attributes := #[] }
def k4m0 : Method := { name := "<init>", desc := "()V", sig := { parameters := [], returnType := none }, accessFlags := 1, code := some k4c0 }
/-- java/lang/Number -/
def k4 : Class := { plain "java/lang/Number" (some 0) with
  accessFlags := 1057
  interfaces := #[3]
  cf := some (fileOf pool4 8 #[] #[{ accessFlags := 1, nameIndex := 5, descriptorIndex := 6, attributes := #[] }] 1057 2 #[13] #[{ accessFlags := 26, nameIndex := 15, descriptorIndex := 16, attributes := #[] }])
  fields := #[{ name := "serialVersionUID", type := .long, accessFlags := 26, slot := 0, constantValue := 0 }]
  methods := #[k4m0]
  instanceTypes := #[]
  staticTypes := #[.long]
  resolved := Array.replicate 37 none
  statics := none }

def pool5 : Array CpInfo := pool [(1, .class_ 2), (0, u "java/lang/Comparable"), (0, .class_ 4), (0, u "java/lang/Object")] 7

/-- java/lang/Comparable -/
def k5 : Class := { plain "java/lang/Comparable" (some 0) with
  accessFlags := 1537
  interfaces := #[]
  cf := some (fileOf pool5 1 #[] #[] 1537 3 #[] #[])
  fields := #[]
  methods := #[]
  instanceTypes := #[]
  staticTypes := #[]
  resolved := Array.replicate 12 none
  statics := none }

def pool6 : Array CpInfo := pool [(1, .class_ 2), (0, u "java/lang/constant/Constable"), (0, .class_ 4), (0, u "java/lang/Object")] 6

/-- java/lang/constant/Constable -/
def k6 : Class := { plain "java/lang/constant/Constable" (some 0) with
  accessFlags := 1537
  interfaces := #[]
  cf := some (fileOf pool6 1 #[] #[] 1537 3 #[] #[])
  fields := #[]
  methods := #[]
  instanceTypes := #[]
  staticTypes := #[]
  resolved := Array.replicate 11 none
  statics := none }

def pool7 : Array CpInfo := pool [(1, .class_ 2), (0, u "java/lang/constant/ConstantDesc"), (0, .class_ 4), (0, u "java/lang/Object")] 32

/-- java/lang/constant/ConstantDesc -/
def k7 : Class := { plain "java/lang/constant/ConstantDesc" (some 0) with
  accessFlags := 1537
  interfaces := #[]
  cf := some (fileOf pool7 1 #[] #[] 1537 3 #[] #[])
  fields := #[]
  methods := #[]
  instanceTypes := #[]
  staticTypes := #[]
  resolved := Array.replicate 37 none
  statics := none }

def pool8 : Array CpInfo := pool [(1, .class_ 2), (0, u "java/lang/Long"), (55, .nameAndType 59 60), (0, u "<init>"), (0, u "()V"), (24, u "valueOf"), (143, u "(J)Ljava/lang/Long;"), (0, .long 18446744073709551488), (1, .long 127), (1, .fieldref 235 236), (0, .class_ 237), (0, .nameAndType 238 239), (0, u "java/lang/Long$LongCache"), (0, u "cache"), (0, u "[Ljava/lang/Long;"), (0, .methodref 1 241), (0, .nameAndType 59 242), (0, u "(J)V"), (27, .methodref 271 58), (0, .class_ 272), (0, u "java/lang/Number"), (0, .fieldref 1 274), (0, .nameAndType 275 276), (0, u "value"), (0, u "J"), (84, u "TYPE"), (0, u "Ljava/lang/Class;"), (0, .class_ 364), (0, u "java/lang/Comparable"), (0, .class_ 366), (0, u "java/lang/constant/Constable"), (0, .class_ 368), (0, u "java/lang/constant/ConstantDesc"), (0, u "MIN_VALUE"), (1, u "MAX_VALUE"), (4, u "SIZE"), (0, u "I"), (1, u "BYTES"), (1, u "serialVersionUID")] 142

def k8c0 : Code := { maxStack := 4, maxLocals := 3, code := jdk_35_method_24_code, exceptionTable := #[], attributes := #[] }
def k8m0 : Method := { name := "valueOf", desc := "(J)Ljava/lang/Long;", sig := { parameters := [.long], returnType := some (.object "java/lang/Long") }, accessFlags := 9, code := some k8c0 }
def k8c1 : Code := { maxStack := 3, maxLocals := 3, code := jdk_35_method_26_code, exceptionTable := #[], attributes := #[] }
def k8m1 : Method := { name := "<init>", desc := "(J)V", sig := { parameters := [.long], returnType := none }, accessFlags := 1, code := some k8c1 }
/-- java/lang/Long -/
def k8 : Class := { plain "java/lang/Long" (some 4) with
  accessFlags := 49
  interfaces := #[5, 6, 7]
  cf := some (fileOf pool8 1 #[.nestMembers #[235]] #[{ accessFlags := 9, nameIndex := 85, descriptorIndex := 229, attributes := #[] }, { accessFlags := 1, nameIndex := 59, descriptorIndex := 242, attributes := #[] }] 49 271 #[363, 365, 367] #[{ accessFlags := 25, nameIndex := 369, descriptorIndex := 276, attributes := #[] }, { accessFlags := 25, nameIndex := 371, descriptorIndex := 276, attributes := #[] }, { accessFlags := 25, nameIndex := 361, descriptorIndex := 362, attributes := #[] }, { accessFlags := 18, nameIndex := 275, descriptorIndex := 276, attributes := #[] }, { accessFlags := 25, nameIndex := 376, descriptorIndex := 377, attributes := #[] }, { accessFlags := 25, nameIndex := 379, descriptorIndex := 377, attributes := #[] }, { accessFlags := 26, nameIndex := 381, descriptorIndex := 276, attributes := #[] }])
  fields := #[{ name := "MIN_VALUE", type := .long, accessFlags := 25, slot := 0, constantValue := 0 }, { name := "MAX_VALUE", type := .long, accessFlags := 25, slot := 1, constantValue := 0 }, { name := "TYPE", type := (.object "java/lang/Class"), accessFlags := 25, slot := 2, constantValue := 0 }, { name := "value", type := .long, accessFlags := 18, slot := 0, constantValue := 0 }, { name := "SIZE", type := .int, accessFlags := 25, slot := 3, constantValue := 0 }, { name := "BYTES", type := .int, accessFlags := 25, slot := 4, constantValue := 0 }, { name := "serialVersionUID", type := .long, accessFlags := 26, slot := 5, constantValue := 0 }]
  methods := #[k8m0, k8m1]
  instanceTypes := #[.long]
  staticTypes := #[.long, .long, (.object "java/lang/Class"), .int, .int, .long]
  resolved := Array.replicate 524 none
  statics := none }

def pool9 : Array CpInfo := pool [(2, .class_ 4), (1, u "java/lang/Object"), (0, u "<init>"), (0, u "()V"), (0, .class_ 8), (0, u "java/lang/Long"), (7, .class_ 18), (1, u "java/lang/Long$LongCache"), (0, u "$assertionsDisabled"), (0, u "Z"), (8, u "archivedCache"), (0, u "[Ljava/lang/Long;"), (7, u "cache")] 24

def k9m0 : Method := { name := "<init>", desc := "()V", sig := { parameters := [], returnType := none }, accessFlags := 2, code := none }
/-- java/lang/Long$LongCache -/
def k9 : Class := { plain "java/lang/Long$LongCache" (some 0) with
  accessFlags := 48
  interfaces := #[]
  cf := some (fileOf pool9 16 #[.nestHost 7] #[{ accessFlags := 2, nameIndex := 5, descriptorIndex := 6, attributes := #[] }] 48 2 #[] #[{ accessFlags := 24, nameIndex := 38, descriptorIndex := 30, attributes := #[] }, { accessFlags := 8, nameIndex := 29, descriptorIndex := 30, attributes := #[] }, { accessFlags := 4120, nameIndex := 19, descriptorIndex := 20, attributes := #[] }])
  fields := #[{ name := "cache", type := (.array (.object "java/lang/Long")), accessFlags := 24, slot := 0, constantValue := 0 }, { name := "archivedCache", type := (.array (.object "java/lang/Long")), accessFlags := 8, slot := 1, constantValue := 0 }, { name := "$assertionsDisabled", type := .boolean, accessFlags := 4120, slot := 2, constantValue := 0 }]
  methods := #[k9m0]
  instanceTypes := #[]
  staticTypes := #[(.array (.object "java/lang/Long")), (.array (.object "java/lang/Long")), .boolean]
  resolved := Array.replicate 63 none
  statics := some 0 }

def pool10 : Array CpInfo := pool [(1, u "java/lang/Cloneable"), (0, .class_ 1), (0, u "java/lang/Object"), (0, .class_ 3)] 3

/-- java/lang/Cloneable -/
def k10 : Class := { plain "java/lang/Cloneable" (some 0) with
  accessFlags := 1537
  interfaces := #[]
  cf := some (fileOf pool10 2 #[] #[] 1537 4 #[] #[])
  fields := #[]
  methods := #[]
  instanceTypes := #[]
  staticTypes := #[]
  resolved := Array.replicate 8 none
  statics := none }

/-- the primitive byte -/
def k11 : Class := { plain "byte" none with kind := .primitive 'B', accessFlags := 0x411 }
/-- [B -/
def k12 : Class := { plain "[B" (some 0) with kind := .array 11 .byte, interfaces := #[10, 3], accessFlags := 1041 }

/-- the primitive int -/
def k13 : Class := { plain "int" none with kind := .primitive 'I', accessFlags := 0x411 }
/-- [I -/
def k14 : Class := { plain "[I" (some 0) with kind := .array 13 .int, interfaces := #[10, 3], accessFlags := 1041 }

/-- [Ljava/lang/Long; -/
def k15 : Class := { plain "[Ljava/lang/Long;" (some 0) with kind := .array 8 (.object "java/lang/Long"), interfaces := #[10, 3], accessFlags := 1041 }

def heap : Heap := #[{ cls := 9, slots := #[.ref 1, .null, .int 0], vm := .statics 9 },
  { cls := 15, slots := #[.ref 2, .ref 3, .ref 4, .ref 5, .ref 6, .ref 7, .ref 8, .ref 9, .ref 10, .ref 11, .ref 12, .ref 13, .ref 14, .ref 15, .ref 16, .ref 17, .ref 18, .ref 19, .ref 20, .ref 21, .ref 22, .ref 23, .ref 24, .ref 25, .ref 26, .ref 27, .ref 28, .ref 29, .ref 30, .ref 31, .ref 32, .ref 33, .ref 34, .ref 35, .ref 36, .ref 37, .ref 38, .ref 39, .ref 40, .ref 41, .ref 42, .ref 43, .ref 44, .ref 45, .ref 46, .ref 47, .ref 48, .ref 49, .ref 50, .ref 51, .ref 52, .ref 53, .ref 54, .ref 55, .ref 56, .ref 57, .ref 58, .ref 59, .ref 60, .ref 61, .ref 62, .ref 63, .ref 64, .ref 65, .ref 66, .ref 67, .ref 68, .ref 69, .ref 70, .ref 71, .ref 72, .ref 73, .ref 74, .ref 75, .ref 76, .ref 77, .ref 78, .ref 79, .ref 80, .ref 81, .ref 82, .ref 83, .ref 84, .ref 85, .ref 86, .ref 87, .ref 88, .ref 89, .ref 90, .ref 91, .ref 92, .ref 93, .ref 94, .ref 95, .ref 96, .ref 97, .ref 98, .ref 99, .ref 100, .ref 101, .ref 102, .ref 103, .ref 104, .ref 105, .ref 106, .ref 107, .ref 108, .ref 109, .ref 110, .ref 111, .ref 112, .ref 113, .ref 114, .ref 115, .ref 116, .ref 117, .ref 118, .ref 119, .ref 120, .ref 121, .ref 122, .ref 123, .ref 124, .ref 125, .ref 126, .ref 127, .ref 128, .ref 129, .ref 130, .ref 131, .ref 132, .ref 133, .ref 134, .ref 135, .ref 136, .ref 137, .ref 138, .ref 139, .ref 140, .ref 141, .ref 142, .ref 143, .ref 144, .ref 145, .ref 146, .ref 147, .ref 148, .ref 149, .ref 150, .ref 151, .ref 152, .ref 153, .ref 154, .ref 155, .ref 156, .ref 157, .ref 158, .ref 159, .ref 160, .ref 161, .ref 162, .ref 163, .ref 164, .ref 165, .ref 166, .ref 167, .ref 168, .ref 169, .ref 170, .ref 171, .ref 172, .ref 173, .ref 174, .ref 175, .ref 176, .ref 177, .ref 178, .ref 179, .ref 180, .ref 181, .ref 182, .ref 183, .ref 184, .ref 185, .ref 186, .ref 187, .ref 188, .ref 189, .ref 190, .ref 191, .ref 192, .ref 193, .ref 194, .ref 195, .ref 196, .ref 197, .ref 198, .ref 199, .ref 200, .ref 201, .ref 202, .ref 203, .ref 204, .ref 205, .ref 206, .ref 207, .ref 208, .ref 209, .ref 210, .ref 211, .ref 212, .ref 213, .ref 214, .ref 215, .ref 216, .ref 217, .ref 218, .ref 219, .ref 220, .ref 221, .ref 222, .ref 223, .ref 224, .ref 225, .ref 226, .ref 227, .ref 228, .ref 229, .ref 230, .ref 231, .ref 232, .ref 233, .ref 234, .ref 235, .ref 236, .ref 237, .ref 238, .ref 239, .ref 240, .ref 241, .ref 242, .ref 243, .ref 244, .ref 245, .ref 246, .ref 247, .ref 248, .ref 249, .ref 250, .ref 251, .ref 252, .ref 253, .ref 254, .ref 255, .ref 256, .ref 257], vm := .none },
  { cls := 8, slots := #[.long (-128)], vm := .none },
  { cls := 8, slots := #[.long (-127)], vm := .none },
  { cls := 8, slots := #[.long (-126)], vm := .none },
  { cls := 8, slots := #[.long (-125)], vm := .none },
  { cls := 8, slots := #[.long (-124)], vm := .none },
  { cls := 8, slots := #[.long (-123)], vm := .none },
  { cls := 8, slots := #[.long (-122)], vm := .none },
  { cls := 8, slots := #[.long (-121)], vm := .none },
  { cls := 8, slots := #[.long (-120)], vm := .none },
  { cls := 8, slots := #[.long (-119)], vm := .none },
  { cls := 8, slots := #[.long (-118)], vm := .none },
  { cls := 8, slots := #[.long (-117)], vm := .none },
  { cls := 8, slots := #[.long (-116)], vm := .none },
  { cls := 8, slots := #[.long (-115)], vm := .none },
  { cls := 8, slots := #[.long (-114)], vm := .none },
  { cls := 8, slots := #[.long (-113)], vm := .none },
  { cls := 8, slots := #[.long (-112)], vm := .none },
  { cls := 8, slots := #[.long (-111)], vm := .none },
  { cls := 8, slots := #[.long (-110)], vm := .none },
  { cls := 8, slots := #[.long (-109)], vm := .none },
  { cls := 8, slots := #[.long (-108)], vm := .none },
  { cls := 8, slots := #[.long (-107)], vm := .none },
  { cls := 8, slots := #[.long (-106)], vm := .none },
  { cls := 8, slots := #[.long (-105)], vm := .none },
  { cls := 8, slots := #[.long (-104)], vm := .none },
  { cls := 8, slots := #[.long (-103)], vm := .none },
  { cls := 8, slots := #[.long (-102)], vm := .none },
  { cls := 8, slots := #[.long (-101)], vm := .none },
  { cls := 8, slots := #[.long (-100)], vm := .none },
  { cls := 8, slots := #[.long (-99)], vm := .none },
  { cls := 8, slots := #[.long (-98)], vm := .none },
  { cls := 8, slots := #[.long (-97)], vm := .none },
  { cls := 8, slots := #[.long (-96)], vm := .none },
  { cls := 8, slots := #[.long (-95)], vm := .none },
  { cls := 8, slots := #[.long (-94)], vm := .none },
  { cls := 8, slots := #[.long (-93)], vm := .none },
  { cls := 8, slots := #[.long (-92)], vm := .none },
  { cls := 8, slots := #[.long (-91)], vm := .none },
  { cls := 8, slots := #[.long (-90)], vm := .none },
  { cls := 8, slots := #[.long (-89)], vm := .none },
  { cls := 8, slots := #[.long (-88)], vm := .none },
  { cls := 8, slots := #[.long (-87)], vm := .none },
  { cls := 8, slots := #[.long (-86)], vm := .none },
  { cls := 8, slots := #[.long (-85)], vm := .none },
  { cls := 8, slots := #[.long (-84)], vm := .none },
  { cls := 8, slots := #[.long (-83)], vm := .none },
  { cls := 8, slots := #[.long (-82)], vm := .none },
  { cls := 8, slots := #[.long (-81)], vm := .none },
  { cls := 8, slots := #[.long (-80)], vm := .none },
  { cls := 8, slots := #[.long (-79)], vm := .none },
  { cls := 8, slots := #[.long (-78)], vm := .none },
  { cls := 8, slots := #[.long (-77)], vm := .none },
  { cls := 8, slots := #[.long (-76)], vm := .none },
  { cls := 8, slots := #[.long (-75)], vm := .none },
  { cls := 8, slots := #[.long (-74)], vm := .none },
  { cls := 8, slots := #[.long (-73)], vm := .none },
  { cls := 8, slots := #[.long (-72)], vm := .none },
  { cls := 8, slots := #[.long (-71)], vm := .none },
  { cls := 8, slots := #[.long (-70)], vm := .none },
  { cls := 8, slots := #[.long (-69)], vm := .none },
  { cls := 8, slots := #[.long (-68)], vm := .none },
  { cls := 8, slots := #[.long (-67)], vm := .none },
  { cls := 8, slots := #[.long (-66)], vm := .none },
  { cls := 8, slots := #[.long (-65)], vm := .none },
  { cls := 8, slots := #[.long (-64)], vm := .none },
  { cls := 8, slots := #[.long (-63)], vm := .none },
  { cls := 8, slots := #[.long (-62)], vm := .none },
  { cls := 8, slots := #[.long (-61)], vm := .none },
  { cls := 8, slots := #[.long (-60)], vm := .none },
  { cls := 8, slots := #[.long (-59)], vm := .none },
  { cls := 8, slots := #[.long (-58)], vm := .none },
  { cls := 8, slots := #[.long (-57)], vm := .none },
  { cls := 8, slots := #[.long (-56)], vm := .none },
  { cls := 8, slots := #[.long (-55)], vm := .none },
  { cls := 8, slots := #[.long (-54)], vm := .none },
  { cls := 8, slots := #[.long (-53)], vm := .none },
  { cls := 8, slots := #[.long (-52)], vm := .none },
  { cls := 8, slots := #[.long (-51)], vm := .none },
  { cls := 8, slots := #[.long (-50)], vm := .none },
  { cls := 8, slots := #[.long (-49)], vm := .none },
  { cls := 8, slots := #[.long (-48)], vm := .none },
  { cls := 8, slots := #[.long (-47)], vm := .none },
  { cls := 8, slots := #[.long (-46)], vm := .none },
  { cls := 8, slots := #[.long (-45)], vm := .none },
  { cls := 8, slots := #[.long (-44)], vm := .none },
  { cls := 8, slots := #[.long (-43)], vm := .none },
  { cls := 8, slots := #[.long (-42)], vm := .none },
  { cls := 8, slots := #[.long (-41)], vm := .none },
  { cls := 8, slots := #[.long (-40)], vm := .none },
  { cls := 8, slots := #[.long (-39)], vm := .none },
  { cls := 8, slots := #[.long (-38)], vm := .none },
  { cls := 8, slots := #[.long (-37)], vm := .none },
  { cls := 8, slots := #[.long (-36)], vm := .none },
  { cls := 8, slots := #[.long (-35)], vm := .none },
  { cls := 8, slots := #[.long (-34)], vm := .none },
  { cls := 8, slots := #[.long (-33)], vm := .none },
  { cls := 8, slots := #[.long (-32)], vm := .none },
  { cls := 8, slots := #[.long (-31)], vm := .none },
  { cls := 8, slots := #[.long (-30)], vm := .none },
  { cls := 8, slots := #[.long (-29)], vm := .none },
  { cls := 8, slots := #[.long (-28)], vm := .none },
  { cls := 8, slots := #[.long (-27)], vm := .none },
  { cls := 8, slots := #[.long (-26)], vm := .none },
  { cls := 8, slots := #[.long (-25)], vm := .none },
  { cls := 8, slots := #[.long (-24)], vm := .none },
  { cls := 8, slots := #[.long (-23)], vm := .none },
  { cls := 8, slots := #[.long (-22)], vm := .none },
  { cls := 8, slots := #[.long (-21)], vm := .none },
  { cls := 8, slots := #[.long (-20)], vm := .none },
  { cls := 8, slots := #[.long (-19)], vm := .none },
  { cls := 8, slots := #[.long (-18)], vm := .none },
  { cls := 8, slots := #[.long (-17)], vm := .none },
  { cls := 8, slots := #[.long (-16)], vm := .none },
  { cls := 8, slots := #[.long (-15)], vm := .none },
  { cls := 8, slots := #[.long (-14)], vm := .none },
  { cls := 8, slots := #[.long (-13)], vm := .none },
  { cls := 8, slots := #[.long (-12)], vm := .none },
  { cls := 8, slots := #[.long (-11)], vm := .none },
  { cls := 8, slots := #[.long (-10)], vm := .none },
  { cls := 8, slots := #[.long (-9)], vm := .none },
  { cls := 8, slots := #[.long (-8)], vm := .none },
  { cls := 8, slots := #[.long (-7)], vm := .none },
  { cls := 8, slots := #[.long (-6)], vm := .none },
  { cls := 8, slots := #[.long (-5)], vm := .none },
  { cls := 8, slots := #[.long (-4)], vm := .none },
  { cls := 8, slots := #[.long (-3)], vm := .none },
  { cls := 8, slots := #[.long (-2)], vm := .none },
  { cls := 8, slots := #[.long (-1)], vm := .none },
  { cls := 8, slots := #[.long (0)], vm := .none },
  { cls := 8, slots := #[.long (1)], vm := .none },
  { cls := 8, slots := #[.long (2)], vm := .none },
  { cls := 8, slots := #[.long (3)], vm := .none },
  { cls := 8, slots := #[.long (4)], vm := .none },
  { cls := 8, slots := #[.long (5)], vm := .none },
  { cls := 8, slots := #[.long (6)], vm := .none },
  { cls := 8, slots := #[.long (7)], vm := .none },
  { cls := 8, slots := #[.long (8)], vm := .none },
  { cls := 8, slots := #[.long (9)], vm := .none },
  { cls := 8, slots := #[.long (10)], vm := .none },
  { cls := 8, slots := #[.long (11)], vm := .none },
  { cls := 8, slots := #[.long (12)], vm := .none },
  { cls := 8, slots := #[.long (13)], vm := .none },
  { cls := 8, slots := #[.long (14)], vm := .none },
  { cls := 8, slots := #[.long (15)], vm := .none },
  { cls := 8, slots := #[.long (16)], vm := .none },
  { cls := 8, slots := #[.long (17)], vm := .none },
  { cls := 8, slots := #[.long (18)], vm := .none },
  { cls := 8, slots := #[.long (19)], vm := .none },
  { cls := 8, slots := #[.long (20)], vm := .none },
  { cls := 8, slots := #[.long (21)], vm := .none },
  { cls := 8, slots := #[.long (22)], vm := .none },
  { cls := 8, slots := #[.long (23)], vm := .none },
  { cls := 8, slots := #[.long (24)], vm := .none },
  { cls := 8, slots := #[.long (25)], vm := .none },
  { cls := 8, slots := #[.long (26)], vm := .none },
  { cls := 8, slots := #[.long (27)], vm := .none },
  { cls := 8, slots := #[.long (28)], vm := .none },
  { cls := 8, slots := #[.long (29)], vm := .none },
  { cls := 8, slots := #[.long (30)], vm := .none },
  { cls := 8, slots := #[.long (31)], vm := .none },
  { cls := 8, slots := #[.long (32)], vm := .none },
  { cls := 8, slots := #[.long (33)], vm := .none },
  { cls := 8, slots := #[.long (34)], vm := .none },
  { cls := 8, slots := #[.long (35)], vm := .none },
  { cls := 8, slots := #[.long (36)], vm := .none },
  { cls := 8, slots := #[.long (37)], vm := .none },
  { cls := 8, slots := #[.long (38)], vm := .none },
  { cls := 8, slots := #[.long (39)], vm := .none },
  { cls := 8, slots := #[.long (40)], vm := .none },
  { cls := 8, slots := #[.long (41)], vm := .none },
  { cls := 8, slots := #[.long (42)], vm := .none },
  { cls := 8, slots := #[.long (43)], vm := .none },
  { cls := 8, slots := #[.long (44)], vm := .none },
  { cls := 8, slots := #[.long (45)], vm := .none },
  { cls := 8, slots := #[.long (46)], vm := .none },
  { cls := 8, slots := #[.long (47)], vm := .none },
  { cls := 8, slots := #[.long (48)], vm := .none },
  { cls := 8, slots := #[.long (49)], vm := .none },
  { cls := 8, slots := #[.long (50)], vm := .none },
  { cls := 8, slots := #[.long (51)], vm := .none },
  { cls := 8, slots := #[.long (52)], vm := .none },
  { cls := 8, slots := #[.long (53)], vm := .none },
  { cls := 8, slots := #[.long (54)], vm := .none },
  { cls := 8, slots := #[.long (55)], vm := .none },
  { cls := 8, slots := #[.long (56)], vm := .none },
  { cls := 8, slots := #[.long (57)], vm := .none },
  { cls := 8, slots := #[.long (58)], vm := .none },
  { cls := 8, slots := #[.long (59)], vm := .none },
  { cls := 8, slots := #[.long (60)], vm := .none },
  { cls := 8, slots := #[.long (61)], vm := .none },
  { cls := 8, slots := #[.long (62)], vm := .none },
  { cls := 8, slots := #[.long (63)], vm := .none },
  { cls := 8, slots := #[.long (64)], vm := .none },
  { cls := 8, slots := #[.long (65)], vm := .none },
  { cls := 8, slots := #[.long (66)], vm := .none },
  { cls := 8, slots := #[.long (67)], vm := .none },
  { cls := 8, slots := #[.long (68)], vm := .none },
  { cls := 8, slots := #[.long (69)], vm := .none },
  { cls := 8, slots := #[.long (70)], vm := .none },
  { cls := 8, slots := #[.long (71)], vm := .none },
  { cls := 8, slots := #[.long (72)], vm := .none },
  { cls := 8, slots := #[.long (73)], vm := .none },
  { cls := 8, slots := #[.long (74)], vm := .none },
  { cls := 8, slots := #[.long (75)], vm := .none },
  { cls := 8, slots := #[.long (76)], vm := .none },
  { cls := 8, slots := #[.long (77)], vm := .none },
  { cls := 8, slots := #[.long (78)], vm := .none },
  { cls := 8, slots := #[.long (79)], vm := .none },
  { cls := 8, slots := #[.long (80)], vm := .none },
  { cls := 8, slots := #[.long (81)], vm := .none },
  { cls := 8, slots := #[.long (82)], vm := .none },
  { cls := 8, slots := #[.long (83)], vm := .none },
  { cls := 8, slots := #[.long (84)], vm := .none },
  { cls := 8, slots := #[.long (85)], vm := .none },
  { cls := 8, slots := #[.long (86)], vm := .none },
  { cls := 8, slots := #[.long (87)], vm := .none },
  { cls := 8, slots := #[.long (88)], vm := .none },
  { cls := 8, slots := #[.long (89)], vm := .none },
  { cls := 8, slots := #[.long (90)], vm := .none },
  { cls := 8, slots := #[.long (91)], vm := .none },
  { cls := 8, slots := #[.long (92)], vm := .none },
  { cls := 8, slots := #[.long (93)], vm := .none },
  { cls := 8, slots := #[.long (94)], vm := .none },
  { cls := 8, slots := #[.long (95)], vm := .none },
  { cls := 8, slots := #[.long (96)], vm := .none },
  { cls := 8, slots := #[.long (97)], vm := .none },
  { cls := 8, slots := #[.long (98)], vm := .none },
  { cls := 8, slots := #[.long (99)], vm := .none },
  { cls := 8, slots := #[.long (100)], vm := .none },
  { cls := 8, slots := #[.long (101)], vm := .none },
  { cls := 8, slots := #[.long (102)], vm := .none },
  { cls := 8, slots := #[.long (103)], vm := .none },
  { cls := 8, slots := #[.long (104)], vm := .none },
  { cls := 8, slots := #[.long (105)], vm := .none },
  { cls := 8, slots := #[.long (106)], vm := .none },
  { cls := 8, slots := #[.long (107)], vm := .none },
  { cls := 8, slots := #[.long (108)], vm := .none },
  { cls := 8, slots := #[.long (109)], vm := .none },
  { cls := 8, slots := #[.long (110)], vm := .none },
  { cls := 8, slots := #[.long (111)], vm := .none },
  { cls := 8, slots := #[.long (112)], vm := .none },
  { cls := 8, slots := #[.long (113)], vm := .none },
  { cls := 8, slots := #[.long (114)], vm := .none },
  { cls := 8, slots := #[.long (115)], vm := .none },
  { cls := 8, slots := #[.long (116)], vm := .none },
  { cls := 8, slots := #[.long (117)], vm := .none },
  { cls := 8, slots := #[.long (118)], vm := .none },
  { cls := 8, slots := #[.long (119)], vm := .none },
  { cls := 8, slots := #[.long (120)], vm := .none },
  { cls := 8, slots := #[.long (121)], vm := .none },
  { cls := 8, slots := #[.long (122)], vm := .none },
  { cls := 8, slots := #[.long (123)], vm := .none },
  { cls := 8, slots := #[.long (124)], vm := .none },
  { cls := 8, slots := #[.long (125)], vm := .none },
  { cls := 8, slots := #[.long (126)], vm := .none },
  { cls := 8, slots := #[.long (127)], vm := .none }]
def classes : Array Class := #[k0, k1, k2, k3, k4, k5, k6, k7, k8, k9, k10, k11, k12, k13, k14, k15]
def interned : List (Array UInt16 × Addr) := []
def slotsUsed : Nat := 515
def theMethod : MethodId := ⟨1, 1⟩
def args0 : Array Value := #[.long 5, .long 6, .long 7, .long 8, .int 8]
def aboutOver (below : List Frame) : State where
  vm := { classes := classes, interned := interned.toArray }
  heap := heap
  slotsUsed := slotsUsed
  threads := #[{ frames := .invoking theMethod args0 :: below }]
def below0 : List Frame := [.native { method := ⟨0, 0⟩, args := #[] }]
def about1 : State := aboutOver below0
def p0 : Program := .bare "" "" ""
def e0 : Env := launch0.env 0 0 0
theorem w_frames : about1.frames = Frame.invoking theMethod args0 :: below0 := rfl
set_option maxRecDepth 65536 in
theorem w_args : argsFit about1.vm theMethod args0 = true := by decide +kernel
set_option maxRecDepth 65536 in
theorem w_heap : heapFits about1 = true := by decide +kernel
set_option maxRecDepth 65536 in
theorem w_runnable : about1.curStatus? = some .runnable := by decide +kernel
set_option maxRecDepth 65536 in
theorem w_alone : about1.alone = true := by decide +kernel
set_option maxRecDepth 65536 in
theorem w_named : about1.methodNamed? x = some theMethod := by decide +kernel
set_option maxRecDepth 65536 in
theorem w_hears : about1.hears theMethod below0 = true := by decide +kernel
set_option maxRecDepth 65536 in
theorem w_ripe : about1.ripe theMethod args0 below0 = true := by decide +kernel
theorem w_running : about1.status = .running := rfl
set_option maxRecDepth 65536 in
theorem w_room : about1.hasRoom e0.platform room_1 = true :=
  launch0.hasRoom_least _ room_1 (by decide +kernel) (by decide +kernel) (by decide +kernel) (by decide +kernel) (by decide +kernel) (by decide +kernel)
theorem allAtoms_all (ts : List Jvm.Cond) (a : Array Jvm.Value) (st : Jvm.State) : (allAtoms ts).before a st = ts.all (fun c => c.before a st) := by
  induction ts with
  | nil => rfl
  | cons c t ih =>
    show (Jvm.Cond.and c (allAtoms t)).before a st = _
    rw [Jvm.Cond.before_and, ih, List.all_cons]
def words1 : List Jvm.Cond := Jvm.Cond.code x code maxLocals ret :: tables_1
/-- a 'code' word, met by the world's own term for the bytes: nothing is compared byte by byte -/
theorem code_word {y : MethodName} {bytes : ByteArray} {mx : Nat} {rt : Option FieldType} {a : Array Value} {s : State} {m : MethodId} {meth : Method} {c : Code} (h1 : s.methodNamed? y = some m) (h2 : s.vm.method? m = some meth) (h3 : meth.code = some c) (h4 : c.code = bytes)
    (h5 : (c.maxLocals == mx && c.exceptionTable.isEmpty && decide (c.maxStack ≤ mostOperands) && decide (meth.sig.returnType = rt) && !meth.locks && decide (parseMethodDescriptor y.desc = some meth.sig)) = true) : (Jvm.Cond.code y bytes mx rt).before a s = true := by
  simp only [Bool.and_eq_true, beq_iff_eq, Bool.not_eq_true', decide_eq_true_eq] at h5
  obtain ⟨⟨⟨⟨⟨g1, g2⟩, g3⟩, g4⟩, g5⟩, g6⟩ := h5
  simp [Cond.before, Cond.holds, Cond.value, h1, h2, h3, h4, g1, g2, g3, g4, g5, g6]
def isCode : Jvm.Cond → Bool
  | .code _ _ _ _ => true
  | _ => false
theorem all_split {L : List Jvm.Cond} {P : Jvm.Cond → Bool} (h1 : L.all (fun c => isCode c || P c) = true) (h2 : ∀ c ∈ L.filter isCode, P c = true) : L.all P = true := by
  refine List.all_eq_true.mpr fun c hc => ?_
  have h := List.all_eq_true.mp h1 c hc
  rcases Bool.eq_false_or_eq_true (isCode c) with hi | hi
  · exact h2 c (List.mem_filter.mpr ⟨hc, hi⟩)
  · simpa [hi] using h
set_option maxRecDepth 65536 in
theorem w_c0 : (Jvm.Cond.code x code maxLocals ret).before args0 about1 = true := code_word (m := ⟨1, 1⟩) (meth := k1m1) (c := k1c1) (by decide +kernel) rfl rfl rfl (by decide +kernel)
set_option maxRecDepth 65536 in
theorem w_c1 : (Jvm.Cond.code ({ cls := "com/example/leith/leith/migration/PageRange", name := "<init>", desc := "(JJ)V" } : Jvm.MethodName) prog_25_method_1_code (5 : Nat) (Option.none : Option Jvm.ClassFile.FieldType)).before args0 about1 = true := code_word (m := ⟨2, 0⟩) (meth := k2m0) (c := k2c0) (by decide +kernel) rfl rfl rfl (by decide +kernel)
set_option maxRecDepth 65536 in
theorem w_c2 : (Jvm.Cond.code ({ cls := "java/lang/Object", name := "<init>", desc := "()V" } : Jvm.MethodName) object_method_1_code (1 : Nat) (Option.none : Option Jvm.ClassFile.FieldType)).before args0 about1 = true := code_word (m := ⟨0, 0⟩) (meth := k0m0) (c := k0c0) (by decide +kernel) rfl rfl rfl (by decide +kernel)
set_option maxRecDepth 65536 in
theorem w_c3 : (Jvm.Cond.code ({ cls := "com/example/leith/leith/migration/PageRange", name := "equals", desc := "(Ljava/lang/Object;)Z" } : Jvm.MethodName) prog_25_method_4_code (2 : Nat) (Option.some Jvm.ClassFile.FieldType.boolean)).before args0 about1 = true := code_word (m := ⟨2, 1⟩) (meth := k2m1) (c := k2c1) (by decide +kernel) rfl rfl rfl (by decide +kernel)
set_option maxRecDepth 65536 in
theorem w_c4 : (Jvm.Cond.code ({ cls := "java/lang/Long", name := "valueOf", desc := "(J)Ljava/lang/Long;" } : Jvm.MethodName) jdk_35_method_24_code (3 : Nat) (Option.some (Jvm.ClassFile.FieldType.object "java/lang/Long"))).before args0 about1 = true := code_word (m := ⟨8, 0⟩) (meth := k8m0) (c := k8c0) (by decide +kernel) rfl rfl rfl (by decide +kernel)
set_option maxRecDepth 65536 in
theorem w_c5 : (Jvm.Cond.code ({ cls := "java/lang/Long", name := "<init>", desc := "(J)V" } : Jvm.MethodName) jdk_35_method_26_code (3 : Nat) (Option.none : Option Jvm.ClassFile.FieldType)).before args0 about1 = true := code_word (m := ⟨8, 1⟩) (meth := k8m1) (c := k8c1) (by decide +kernel) rfl rfl rfl (by decide +kernel)
set_option maxRecDepth 65536 in
theorem w_c6 : (Jvm.Cond.code ({ cls := "java/lang/Number", name := "<init>", desc := "()V" } : Jvm.MethodName) jdk_18_method_1_code (1 : Nat) (Option.none : Option Jvm.ClassFile.FieldType)).before args0 about1 = true := code_word (m := ⟨4, 0⟩) (meth := k4m0) (c := k4c0) (by decide +kernel) rfl rfl rfl (by decide +kernel)
def codes1 : List Jvm.Cond := [Jvm.Cond.code x code maxLocals ret, Jvm.Cond.code ({ cls := "com/example/leith/leith/migration/PageRange", name := "<init>", desc := "(JJ)V" } : Jvm.MethodName) prog_25_method_1_code (5 : Nat) (Option.none : Option Jvm.ClassFile.FieldType), Jvm.Cond.code ({ cls := "java/lang/Object", name := "<init>", desc := "()V" } : Jvm.MethodName) object_method_1_code (1 : Nat) (Option.none : Option Jvm.ClassFile.FieldType), Jvm.Cond.code ({ cls := "com/example/leith/leith/migration/PageRange", name := "equals", desc := "(Ljava/lang/Object;)Z" } : Jvm.MethodName) prog_25_method_4_code (2 : Nat) (Option.some Jvm.ClassFile.FieldType.boolean), Jvm.Cond.code ({ cls := "java/lang/Long", name := "valueOf", desc := "(J)Ljava/lang/Long;" } : Jvm.MethodName) jdk_35_method_24_code (3 : Nat) (Option.some (Jvm.ClassFile.FieldType.object "java/lang/Long")), Jvm.Cond.code ({ cls := "java/lang/Long", name := "<init>", desc := "(J)V" } : Jvm.MethodName) jdk_35_method_26_code (3 : Nat) (Option.none : Option Jvm.ClassFile.FieldType), Jvm.Cond.code ({ cls := "java/lang/Number", name := "<init>", desc := "()V" } : Jvm.MethodName) jdk_18_method_1_code (1 : Nat) (Option.none : Option Jvm.ClassFile.FieldType)]
set_option maxRecDepth 65536 in
theorem codes_eq : words1.filter isCode = codes1 := rfl
theorem w_codes : ∀ c ∈ words1.filter isCode, c.before args0 about1 = true := by
  rw [codes_eq]
  intro c hc
  simp only [codes1, List.mem_cons, List.not_mem_nil, or_false] at hc
  rcases hc with rfl | rfl | rfl | rfl | rfl | rfl | rfl
  · exact w_c0
  · exact w_c1
  · exact w_c2
  · exact w_c3
  · exact w_c4
  · exact w_c5
  · exact w_c6
set_option maxRecDepth 65536 in
theorem w_t1 : (words1.take 24).all (fun c => isCode c || c.before args0 about1) = true := by decide +kernel
set_option maxRecDepth 65536 in
theorem w_t2 : (words1.drop 24).all (fun c => isCode c || c.before args0 about1) = true := by decide +kernel
theorem w_tables : (allAtoms (Jvm.Cond.code x code maxLocals ret :: tables_1)).before args0 about1 = true := by
  rw [allAtoms_all]
  show words1.all (fun c => c.before args0 about1) = true
  refine all_split ?_ w_codes
  rw [← List.take_append_drop 24 words1, List.all_append, w_t1, w_t2]
  rfl
set_option maxRecDepth 65536 in
theorem w_rest : rest_1_c.before args0 about1 = true := by decide +kernel
set_option maxRecDepth 65536 in
theorem w_case : (Jvm.Cond.and given_1 narrow_1).before args0 about1 = true := by decide +kernel
theorem w_applies : (headSpec (Jvm.Cond.code x code maxLocals ret :: tables_1) room_1).applies x e0.platform about1 = true :=
  (Spec.applies_iff w_frames).mpr ⟨w_running, w_runnable, w_alone, w_named, w_hears, w_ripe, w_room, w_tables⟩
theorem atStart : AtStart classFile x code maxLocals ret World_1 tables_1 room_1 Calls_1 rest_1 Pre_1 launch0 p0 e0 about1 theMethod args0 below0 :=
  ⟨lists_1, trivial, launch0.admits_env _ _ _, launch0.least_env, fairChoices_fair.cas, fairChoices_fair.clock, w_frames, w_args, w_heap, w_applies, trivial, w_rest, w_case⟩
end start1
theorem witness_1 : WitnessClaimed_1 := ⟨start1.p0, start1.e0, start1.about1, start1.theMethod, start1.args0, start1.below0, start1.atStart⟩
end Jvm.Pilot.@@N@@
