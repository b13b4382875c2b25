import JvmDerived
import JvmDerived.Pilot.@@N@@Statement
import JvmDerived.Pilot.@@N@@Code
set_option linter.unusedVariables false
set_option linter.unusedSimpArgs false
namespace Jvm.Pilot.@@N@@
open Jvm Jvm.ClassFile Sem Op Lib Jvm.Free Jvm.Stand Jvm.LawKit Jvm.RoadKit Bundle Jvm.Pilot.@@N@@.Jvm.D
section OwnKit
variable {p : Program} {l : Launch} {e : Env} {R : Room} {s : State} {m : MethodId} {args : Array Value} {below : List Frame} {meth : Method} {c : Code} {T : State} {locs : List Loc} {cells slots : Nat} {Z : State} {a0 : Array Value} {h : Heap}
/-- from S on the run comes to the method's end, and there Q holds -/
def own_Fin (p : Program) (e : Env) (below : List Frame) (s : State) (Q : Option Value → Heap → List Loc → Prop) (rc rs : Nat) (S : State) : Prop :=
  ∃ s₂ o, Steps p.tables e below S s₂ ∧ s₂.status = .running ∧ Ended s₂ below o ∧ ∃ v L, o = .returned v ∧ Q v s₂.heap L ∧ FrameEnd s o s₂ L rc rs
theorem own_step {Q : Option Value → Heap → List Loc → Prop} {rc rs : Nat} {S S' : State} (k : ∀ t, Steps p.tables e below S' t → Steps p.tables e below S t) (hF : own_Fin p e below s Q rc rs S') : own_Fin p e below s Q rc rs S := by
  obtain ⟨s₂, o, h1, r⟩ := hF
  exact ⟨s₂, o, k _ h1, r⟩
abbrev own_Met (l : Launch) (y : MethodName) (bytes : ByteArray) (maxL : Nat) (ret : Option FieldType) (ws : List Jvm.Cond) (rm : Room) (Z : State) (as' : Array Value) (h0 : Heap) (Q : Option Value → Heap → List Loc → Prop) : Prop :=
  MetFree l y (head1 (Jvm.Cond.code y bytes maxL ret :: ws) rm) (fun a U => a = as' ∧ Z.Warmed39 U.vm ∧ U.heap = h0) (fun _ _ _ _ _ => True) (fun _ U o U' => ∃ v L, o = .returned v ∧ Q v U'.heap L ∧ FrameEnd U o U' L rm.cells rm.slots)
theorem own_body {y : MethodName} {bytes : ByteArray} {maxL : Nat} {ret : Option FieldType} {ws : List Jvm.Cond} {rm : Room} {as' : Array Value} {h0 : Heap} {Q : Option Value → Heap → List Loc → Prop} (hy : plainFor y = true)
    (hB : ∀ (p : Program) (e : Env) (s : State) (m : MethodId) (below : List Frame) (meth : Method) (c : Code) (s₁ : State), Stand p l e rm s m as' below meth c s₁ [] 0 0 → p.tables.exec = Jvm.exec → c.code = bytes → c.maxLocals = maxL → s.vm.findClass y.cls = some m.cls → meth.name = y.name → meth.sig.returnType = ret → meth.locks = false → Z.Warmed39 s.vm → s₁.heap = h0 →
      own_Fin p e below s Q rm.cells rm.slots (s₁.setTop (entryFrame m as' maxL))) : own_Met l y bytes maxL ret ws rm Z as' h0 Q := by
  refine MetFree.of_bodySF hy hisR ?_
  intro p e s m args below meth c s₁ Bd hml0 hP hK
  obtain ⟨rfl, hZ, hh⟩ := hP
  exact hB p e s m below meth c s₁ (Stand.of_body Bd) Bd.exec Bd.bytes hml0 (findClass_of_methodNamed Bd.named) (name_of_methodNamed Bd.named Bd.method).1 Bd.returns Bd.notSynchronized hZ (by rw [← hh, Bd.state]; rfl)
theorem own_ret {Q : Option Value → Heap → List Loc → Prop} {rc rs : Nat} {S : State} {v : Option Value} (X : Stand p l e R s m args below meth c T locs cells slots) (hlk : meth.locks = false) (hv : meth.sig.returnType = none → v = none)
    (hst : ∀ fs, (∀ (f : JFrame) (acts : List Action), f.method = m → f.locked = none → f.entered = [] → (doReturn e (T.setTop f) acts v).1 = T.setFrames fs) → Steps p.tables e below S (T.setFrames fs))
    (hc : cells ≤ rc) (hs : slots ≤ rs) (hQ : Q v T.heap locs) : own_Fin p e below s Q rc rs S := by
  obtain ⟨fs, hr, hrun, hended, hW, hsame⟩ := X.leave (v := v) hv hlk
  exact ⟨_, _, hst fs hr, hrun, hended, _, _, rfl, hQ, ⟨_, rfl⟩, hW, hsame.mono hc hs⟩
theorem own_retV {Q : Option Value → Heap → List Loc → Prop} {rc rs : Nat} {pc : Nat} {Ls : Array Slot} (X : Stand p l e R s m args below meth c T locs cells slots) (hx : p.tables.exec = Jvm.exec) (hlk : meth.locks = false) (hret : meth.sig.returnType = none) (hd : decode c.code pc = .ok (.return_, 1))
    (hc : cells ≤ rc) (hs : slots ≤ rs) (hQ : Q none T.heap locs) : own_Fin p e below s Q rc rs (T.setTop (mkF m pc Ls [])) :=
  own_ret X hlk (fun _ => rfl) (fun fs hr => X.returnOut hx hret hd hr) hc hs hQ
theorem own_retI {Q : Option Value → Heap → List Loc → Prop} {rc rs : Nat} {pc : Nat} {Ls : Array Slot} {z : Int32} (X : Stand p l e R s m args below meth c T locs cells slots) (hx : p.tables.exec = Jvm.exec) (hlk : meth.locks = false) (hret : meth.sig.returnType = some .int) (hd : decode c.code pc = .ok (.ireturn, 1))
    (hc : cells ≤ rc) (hs : slots ≤ rs) (hQ : Q (some (.int z)) T.heap locs) : own_Fin p e below s Q rc rs (T.setTop (mkF m pc Ls [.int z])) :=
  own_ret X hlk (fun q => by rw [hret] at q; cases q) (fun fs hr => retOut X hx hret rfl (Or.inl ⟨rfl, Or.inl rfl, z, rfl⟩) hd hr) hc hs hQ
theorem own_retL {Q : Option Value → Heap → List Loc → Prop} {rc rs : Nat} {pc : Nat} {Ls : Array Slot} {z : Int64} (X : Stand p l e R s m args below meth c T locs cells slots) (hx : p.tables.exec = Jvm.exec) (hlk : meth.locks = false) (hret : meth.sig.returnType = some .long) (hd : decode c.code pc = .ok (.lreturn, 1))
    (hc : cells ≤ rc) (hs : slots ≤ rs) (hQ : Q (some (.long z)) T.heap locs) : own_Fin p e below s Q rc rs (T.setTop (mkF m pc Ls [.long z])) :=
  own_ret X hlk (fun q => by rw [hret] at q; cases q) (fun fs hr => retOut X hx hret rfl (Or.inr (Or.inl ⟨rfl, rfl, z, rfl⟩)) hd hr) hc hs hQ
theorem own_retA {Q : Option Value → Heap → List Loc → Prop} {rc rs : Nat} {pc : Nat} {Ls : Array Slot} {w : Value} {t : FieldType} (X : Stand p l e R s m args below meth c T locs cells slots) (hx : p.tables.exec = Jvm.exec) (hlk : meth.locks = false) (hret : meth.sig.returnType = some t) (ht : t.isReference = true) (hn : narrow t w = w) (hw : w.isRef = true) (hd : decode c.code pc = .ok (.areturn, 1))
    (hc : cells ≤ rc) (hs : slots ≤ rs) (hQ : Q (some w) T.heap locs) : own_Fin p e below s Q rc rs (T.setTop (mkF m pc Ls [w])) :=
  own_ret X hlk (fun q => by rw [hret] at q; cases q) (fun fs hr => retOut X hx hret hn (Or.inr (Or.inr (Or.inr (Or.inr ⟨rfl, ht, hw⟩)))) hd hr) hc hs hQ
/-- a boolean, byte, char or short that already fits -/
theorem own_retN {Q : Option Value → Heap → List Loc → Prop} {rc rs : Nat} {pc : Nat} {Ls : Array Slot} {z : Int32} {t : FieldType} (X : Stand p l e R s m args below meth c T locs cells slots) (hx : p.tables.exec = Jvm.exec) (hlk : meth.locks = false) (hret : meth.sig.returnType = some t) (ht : t = .boolean ∨ t = .byte ∨ t = .char ∨ t = .short) (hn : nar t z = z) (hd : decode c.code pc = .ok (.ireturn, 1))
    (hc : cells ≤ rc) (hs : slots ≤ rs) (hQ : Q (some (.int z)) T.heap locs) : own_Fin p e below s Q rc rs (T.setTop (mkF m pc Ls [.int z])) :=
  own_ret X hlk (fun q => by rw [hret] at q; cases q) (fun fs hr => retN X hx hret ht hd (by rw [hn]; exact hr)) hc hs hQ
section Calls
variable {y z : MethodName} {bytes : ByteArray} {maxL W : Nat} {ret : Option FieldType} {rm : Room} {Q : Option Value → Heap → List Loc → Prop} {own C : String} {index : Nat} {b : Addr} {argsL rest : List Value} {g : JFrame}
theorem own_virt (X : Stand p l e R s m args below meth c T locs cells slots) (hx : p.tables.exec = Jvm.exec) (hZ : Z.Warmed39 s.vm) (hown : s.vm.findClass own = some m.cls) (w1 : (Jvm.Cond.methodLink own index y).before a0 Z = true) (w2 : (Jvm.Cond.declares y).before a0 Z = true) (nf : NotFace s y) (w3 : (Jvm.Cond.selects C y z).before a0 Z = true) (w4 : (Jvm.Cond.instanceMethod z).before a0 Z = true) (hy : y.cls ≠ "java/lang/invoke/MethodHandle" ∧ y.cls ≠ "java/lang/invoke/VarHandle")
    (wc : (Jvm.Cond.code z bytes maxL ret).before a0 Z = true) (wz : (Jvm.Cond.initialized z.cls).before a0 Z = true) (eT : T.heap = h) (E : Exa Z h b C) (hM : own_Met l z bytes maxL ret [] rm Z (.ref b :: argsL).toArray h Q) (hg : g.method = m) (hsize : g.locals.size = c.maxLocals) (hlen : ∀ sig, parseMethodDescriptor y.desc = some sig → argsL.length = sig.parameters.length)
    (hstack : g.stack = argsL.reverse ++ .ref b :: rest) (hW : 2 * g.monitorRoom + (rest.map fun v => v.category).sum ≤ W) (hd : decode c.code g.pc = .ok (.invokevirtual index, 3)) (hf : rm.frames + 1 ≤ R.frames) (hl : W + (maxL + 11) + rm.locals ≤ R.locals) (hc : cells + rm.cells ≤ R.cells) (hs : slots + rm.slots ≤ R.slots) :
    ∃ (v : Option Value) (T' : State) (L : List Loc), Stand p l e R s m args below meth c T' (locs ++ L) (cells + rm.cells) (slots + rm.slots) ∧ Q v T'.heap L ∧ ∀ t, Steps p.tables e below (T'.setTop { g with pc := g.pc + 3, stack := v.toList ++ rest }) t → Steps p.tables e below (T.setTop g) t := by
  obtain ⟨cq, kq, qa, qb, qc⟩ := isOf hZ eT E
  obtain ⟨v, vm1, ⟨T', L', k', n'⟩, -, X', ⟨L, hQ, hl', hk', hn'⟩, st⟩ := X.virtualBack hx (y := y) (z := z) hown (mvT hZ w1) (mvT hZ w2) nf (mvT hZ w3) (mvT hZ w4) hy (backOf (W := W) hM hZ wc wz hf hl) qa qc hg hsize (Steps.refl _) hlen hstack hW hd (fun _ _ => ⟨rfl, eT, hc, hs⟩)
  dsimp only [Pt.U, Pt.locs, Pt.cells, Pt.slots] at X' hl' hk' hn' st hQ
  subst hl' hk' hn'
  exact ⟨v, T', L, X', hQ, fun t k => st.trans k⟩
/-- a method that a superclass declares, named through the subclass -/
theorem own_virtUp {owner : String} (X : Stand p l e R s m args below meth c T locs cells slots) (hx : p.tables.exec = Jvm.exec) (hZ : Z.Warmed39 s.vm) (hown : s.vm.findClass own = some m.cls) (w1 : (Jvm.Cond.methodLink own index y).before a0 Z = true) (ws : (Jvm.Cond.sameMethod y.cls owner y.name y.desc).before a0 Z = true) (w2 : (Jvm.Cond.declares ⟨owner, y.name, y.desc⟩).before a0 Z = true) (ho : owner ≠ "java/lang/invoke/MethodHandle" ∧ owner ≠ "java/lang/invoke/VarHandle") (w3 : (Jvm.Cond.selects C y z).before a0 Z = true) (w4 : (Jvm.Cond.instanceMethod z).before a0 Z = true)
    (wc : (Jvm.Cond.code z bytes maxL ret).before a0 Z = true) (wz : (Jvm.Cond.initialized z.cls).before a0 Z = true) (eT : T.heap = h) (E : Exa Z h b C) (hM : own_Met l z bytes maxL ret [] rm Z (.ref b :: argsL).toArray h Q) (hg : g.method = m) (hsize : g.locals.size = c.maxLocals) (hlen : ∀ sig, parseMethodDescriptor y.desc = some sig → argsL.length = sig.parameters.length)
    (hstack : g.stack = argsL.reverse ++ .ref b :: rest) (hW : 2 * g.monitorRoom + (rest.map fun v => v.category).sum ≤ W) (hd : decode c.code g.pc = .ok (.invokevirtual index, 3)) (hf : rm.frames + 1 ≤ R.frames) (hl : W + (maxL + 11) + rm.locals ≤ R.locals) (hc : cells + rm.cells ≤ R.cells) (hs : slots + rm.slots ≤ R.slots) :
    ∃ (v : Option Value) (T' : State) (L : List Loc), Stand p l e R s m args below meth c T' (locs ++ L) (cells + rm.cells) (slots + rm.slots) ∧ Q v T'.heap L ∧ ∀ t, Steps p.tables e below (T'.setTop { g with pc := g.pc + 3, stack := v.toList ++ rest }) t → Steps p.tables e below (T.setTop g) t := by
  obtain ⟨cq, kq, qa, qb, qc⟩ := isOf hZ eT E
  obtain ⟨v, vm1, ⟨T', L', k', n'⟩, -, X', ⟨L, hQ, hl', hk', hn'⟩, st⟩ := X.virtualBackUp hx (x := y) (y := z) hown (mvT hZ w1) (mvT hZ ws) (mvT hZ w2) ho (mvT hZ w3) (mvT hZ w4) (backOf (W := W) hM hZ wc wz hf hl) qa qc hg hsize (Steps.refl _) hlen hstack hW hd (fun _ _ => ⟨rfl, eT, hc, hs⟩)
  dsimp only [Pt.U, Pt.locs, Pt.cells, Pt.slots] at X' hl' hk' hn' st hQ
  subst hl' hk' hn'
  exact ⟨v, T', L, X', hQ, fun t k => st.trans k⟩
theorem own_stat (X : Stand p l e R s m args below meth c T locs cells slots) (hx : p.tables.exec = Jvm.exec) (hZ : Z.Warmed39 s.vm) (hown : s.vm.findClass own = some m.cls) (w1 : (Jvm.Cond.methodLink own index y).before a0 Z = true) (w2 : (Jvm.Cond.static y).before a0 Z = true) (hy : y.cls ≠ "java/lang/invoke/MethodHandle" ∧ y.cls ≠ "java/lang/invoke/VarHandle")
    (wc : (Jvm.Cond.code y bytes maxL ret).before a0 Z = true) (wz : (Jvm.Cond.initialized y.cls).before a0 Z = true) (eT : T.heap = h) (hM : own_Met l y bytes maxL ret [] rm Z argsL.toArray h Q) (hg : g.method = m) (hsize : g.locals.size = c.maxLocals) (hlen : ∀ sig, parseMethodDescriptor y.desc = some sig → argsL.length = sig.parameters.length)
    (hstack : g.stack = argsL.reverse ++ rest) (hW : 2 * g.monitorRoom + (rest.map fun v => v.category).sum ≤ W) (hd : decode c.code g.pc = .ok (.invokestatic index, 3)) (hf : rm.frames + 1 ≤ R.frames) (hl : W + (maxL + 11) + rm.locals ≤ R.locals) (hc : cells + rm.cells ≤ R.cells) (hs : slots + rm.slots ≤ R.slots) :
    ∃ (v : Option Value) (T' : State) (L : List Loc), Stand p l e R s m args below meth c T' (locs ++ L) (cells + rm.cells) (slots + rm.slots) ∧ Q v T'.heap L ∧ ∀ t, Steps p.tables e below (T'.setTop { g with pc := g.pc + 3, stack := v.toList ++ rest }) t → Steps p.tables e below (T.setTop g) t := by
  obtain ⟨v, vm1, ⟨T', L', k', n'⟩, -, X', ⟨L, hQ, hl', hk', hn'⟩, st⟩ := Jvm.LawKit.callS X hx (y := y) hown (mvT hZ w1) (mvT hZ w2) (mvT hZ wz) (mvT hZ wc) hy (backOf (W := W) hM hZ wc wz hf hl) hg hsize hlen hstack hW hd (fun _ _ => ⟨rfl, eT, hc, hs⟩)
  dsimp only [Pt.U, Pt.locs, Pt.cells, Pt.slots] at X' hl' hk' hn' st hQ
  subst hl' hk' hn'
  exact ⟨v, T', L, X', hQ, st⟩
theorem own_spec {bytes : ByteArray} {maxL : Nat} (X : Stand p l e R s m args below meth c T locs cells slots) (hx : p.tables.exec = Jvm.exec) (hZ : Z.Warmed39 s.vm) (hy1 : y.name = "<init>") (hown : s.vm.findClass own = some m.cls) (w1 : (Jvm.Cond.methodLink own index y).before a0 Z = true) (w2 : (Jvm.Cond.instanceMethod y).before a0 Z = true) (hy : y.cls ≠ "java/lang/invoke/MethodHandle" ∧ y.cls ≠ "java/lang/invoke/VarHandle")
    (wc : (Jvm.Cond.code y bytes maxL none).before a0 Z = true) (wz : (Jvm.Cond.initialized y.cls).before a0 Z = true) (eT : T.heap = h) (hM : own_Met l y bytes maxL none [] rm Z (.ref b :: argsL).toArray h Q) (hg : g.method = m) (hsize : g.locals.size = c.maxLocals) (hlen : ∀ sig, parseMethodDescriptor y.desc = some sig → argsL.length = sig.parameters.length)
    (hstack : g.stack = argsL.reverse ++ .ref b :: rest) (hW : 2 * g.monitorRoom + (rest.map fun v => v.category).sum ≤ W) (hd : decode c.code g.pc = .ok (.invokespecial index, 3)) (hf : rm.frames + 1 ≤ R.frames) (hl : W + (maxL + 11) + rm.locals ≤ R.locals) (hc : cells + rm.cells ≤ R.cells) (hs : slots + rm.slots ≤ R.slots) :
    ∃ (v : Option Value) (T' : State) (L : List Loc), Stand p l e R s m args below meth c T' (locs ++ L) (cells + rm.cells) (slots + rm.slots) ∧ Q v T'.heap L ∧ ∀ t, Steps p.tables e below (T'.setTop { g with pc := g.pc + 3, stack := v.toList ++ rest }) t → Steps p.tables e below (T.setTop g) t := by
  obtain ⟨v, vm1, ⟨T', L', k', n'⟩, -, X', ⟨L, hQ, hl', hk', hn'⟩, st⟩ := X.specialBack hx (y := y) hy1 hown (mvT hZ w1) (mvT hZ w2) (mvT hZ wc) hy (backOf (W := W) hM hZ wc wz hf hl) hg hsize (Steps.refl _) hlen hstack hW hd (fun _ _ => ⟨rfl, eT, hc, hs⟩)
  dsimp only [Pt.U, Pt.locs, Pt.cells, Pt.slots] at X' hl' hk' hn' st hQ
  subst hl' hk' hn'
  exact ⟨v, T', L, X', hQ, fun t k => st.trans k⟩
end Calls
section Words
variable {first : State} {o : Option Outcome} {idx : List Nat} {a b t : Term} {v : Value} {C n d : String}
theorem own_eqI {k : Int32} (hq : (Jvm.Cond.eq a (.int k)).value args first o s idx = some true) : a.eval args first o idx s = some (.int k) := by
  cases ha : a.eval args first o idx s with
  | none => simp [Cond.value, ha] at hq
  | some x => cases x <;> simp [Cond.value, ha, Term.eval] at hq ⊢ <;> exact hq
theorem own_eqR {y : Addr} (hb : b.eval args first o idx s = some (.ref y)) (hq : (Jvm.Cond.eq a b).value args first o s idx = some true) : a.eval args first o idx s = some (.ref y) := by
  cases ha : a.eval args first o idx s with
  | none => simp [Cond.value, ha] at hq
  | some x => cases x <;> simp [Cond.value, ha, hb] at hq ⊢ <;> exact hq
theorem own_fld {x : Addr} (ht : t.eval args Z none [] Z = some (.ref x)) (hq : (Term.field t C n d).eval args Z none [] Z = some v) : Fld Z Z.heap x C n d v := Fld.start ((fld_at ht).symm.trans hq)
/-- an array of a known length -/
def own_Aln (Z : State) (h : Heap) (a : Addr) (ty : FieldType) (n : Int32) : Prop := ∃ c : Cell, Arr Z h a c ty ∧ c.slots.size = n.toNatClampNeg ∧ ¬ n < 0
theorem own_len {a : Addr} {cl : Cell} {ty : FieldType} {k : Int32} (ht : t.eval args Z none [] Z = some (.ref a)) (A : Arr Z Z.heap a cl ty) (hq : (Term.length t).eval args Z none [] Z = some (.int k)) (hk : ¬ k < 0 := by decide) : own_Aln Z Z.heap a ty k := by
  have hc : Z.arrayAt? a = some cl := A.fin (Vm.Alike.refl _)
  simp only [Term.eval, ht, hc, Option.bind_eq_bind, Option.bind_some] at hq
  by_cases hb : cl.slots.size < 2 ^ 31
  · simp only [hb, if_true, Option.pure_def, Option.some.injEq, Value.int.injEq] at hq
    refine ⟨cl, A, ?_, hk⟩
    have h1 := len_toInt hb
    rw [hq] at h1
    have h2 := nat_of hk
    omega
  · simp [hb] at hq
end Words
theorem own_exaStat {a : Addr} {C : String} (F : Exa Z h a C) : ∀ cell : Cell, h[a]? = some cell → cell.vm.isStatics = false := fun cell hc => by
  obtain ⟨c', _, h1, -, -, h4, -⟩ := F
  cases h1.symm.trans hc
  exact h4
theorem own_staKeep {h' : Heap} {C n d : String} {v : Value} {ws : List Addr} (F : Sta Z h C n d v) (K : Keep h h' ws) (q : ∀ x ∈ ws, ∀ cell : Cell, h[x]? = some cell → cell.vm.isStatics = false) : Sta Z h' C n d v := by
  obtain ⟨cf, i, k, f, st, cell, h1, h2, h3, h4, h5, h6, h7⟩ := F
  exact ⟨cf, i, k, f, st, cell, h1, h2, h3, h4, K.2.1 st cell h5 (fun hm => by rw [q st hm cell h5] at h6; cases h6), h6, h7⟩
theorem own_ite {α : Type} (P : Prop) (x y : α) : ∃ z : α, (P → z = x) ∧ (¬ P → z = y) := by
  by_cases hP : P
  · exact ⟨x, fun _ => rfl, fun q => absurd hP q⟩
  · exact ⟨y, fun q => absurd q hP, fun _ => rfl⟩
theorem own_irr (x : Int64) : ¬ x < x := by simp
theorem own_tri (x y : Int64) : x < y ∨ x = y ∨ y < x := by
  simp only [Int64.lt_iff_toInt_lt, ← Int64.toInt_inj]
  omega
theorem own_asym {x y : Int64} (q : x < y) : ¬ y < x := by
  simp only [Int64.lt_iff_toInt_lt] at *
  omega
theorem own_ltne {x y : Int64} (q : x < y) : ¬ x = y := fun u => own_irr _ (u ▸ q)
theorem own_gtne {x y : Int64} (q : y < x) : ¬ x = y := fun u => own_irr _ (u ▸ q)
end OwnKit
theorem d1_0 : decode method_2_code 0 = .ok (.iload_n 0, 1) := by decide +kernel
theorem d1_1 : decode method_2_code 1 = .ok (.ifCond .ne 7, 3) := by decide +kernel
theorem d1_4 : decode method_2_code 4 = .ok (.getstatic 7, 3) := by decide +kernel
theorem d1_7 : decode method_2_code 7 = .ok (.areturn, 1) := by decide +kernel
theorem d1_8 : decode method_2_code 8 = .ok (.iload_n 0, 1) := by decide +kernel
theorem d1_9 : decode method_2_code 9 = .ok (.iconst 1, 1) := by decide +kernel
theorem d1_10 : decode method_2_code 10 = .ok (.if_icmp .ne 7, 3) := by decide +kernel
theorem d1_13 : decode method_2_code 13 = .ok (.getstatic 13, 3) := by decide +kernel
theorem d1_16 : decode method_2_code 16 = .ok (.areturn, 1) := by decide +kernel
theorem d1_17 : decode method_2_code 17 = .ok (.iload_n 0, 1) := by decide +kernel
theorem d1_18 : decode method_2_code 18 = .ok (.iconst 2, 1) := by decide +kernel
theorem d1_19 : decode method_2_code 19 = .ok (.if_icmp .ne 7, 3) := by decide +kernel
theorem d1_22 : decode method_2_code 22 = .ok (.getstatic 16, 3) := by decide +kernel
theorem d1_25 : decode method_2_code 25 = .ok (.areturn, 1) := by decide +kernel
theorem d1_26 : decode method_2_code 26 = .ok (.iload_n 0, 1) := by decide +kernel
theorem d1_27 : decode method_2_code 27 = .ok (.iconst 3, 1) := by decide +kernel
theorem d1_28 : decode method_2_code 28 = .ok (.if_icmp .ne 7, 3) := by decide +kernel
theorem d1_31 : decode method_2_code 31 = .ok (.getstatic 19, 3) := by decide +kernel
theorem d1_34 : decode method_2_code 34 = .ok (.areturn, 1) := by decide +kernel
theorem d1_35 : decode method_2_code 35 = .ok (.iload_n 0, 1) := by decide +kernel
theorem d1_36 : decode method_2_code 36 = .ok (.iconst 4, 1) := by decide +kernel
theorem d1_37 : decode method_2_code 37 = .ok (.if_icmp .ne 7, 3) := by decide +kernel
theorem d1_40 : decode method_2_code 40 = .ok (.getstatic 22, 3) := by decide +kernel
theorem d1_43 : decode method_2_code 43 = .ok (.areturn, 1) := by decide +kernel
theorem d1_44 : decode method_2_code 44 = .ok (.getstatic 25, 3) := by decide +kernel
theorem d1_47 : decode method_2_code 47 = .ok (.areturn, 1) := by decide +kernel
theorem pn_0 : plainName "com/example/ratatoskr/ratatoskr/CanonicalizationWithoutCommentsPinLaw" = true := by first | (simp [plainName, overriddenIn]; done) | decide +kernel
set_option maxRecDepth 65536 in
set_option maxHeartbeats 40000000 in
theorem rmP_0 (l : Launch) (Z : State) (a0 : Array Value) (hw : ∀ d ∈ tables_1, d.before a0 Z = true) (ws : List Jvm.Cond) (w : Addr)  (h0 : Heap) (n0 : Nat) (Z0 : n0 ≤ h0.size) (S : Sta Z h0 "com/example/ratatoskr/ratatoskr/Canonicalization" "INCLUSIVE" "Lcom/example/ratatoskr/ratatoskr/Canonicalization;" (.ref w)) :
    own_Met l (⟨"com/example/ratatoskr/ratatoskr/CanonicalizationWithoutCommentsPinLaw", "pick", "(I)Lcom/example/ratatoskr/ratatoskr/Canonicalization;"⟩ : MethodName) method_2_code 1 (some (.object "com/example/ratatoskr/ratatoskr/Canonicalization")) ws ({ frames := 0, cells := 0, slots := 0, locals := 0 } : Room) Z #[(.int (0 : Int32))] h0 (fun v h L => v = some (.ref w) ∧ Fr n0 L ∧ h = h0) := by
  refine own_body (plainFor_of_name pn_0) ?_
  intro p e s m below meth c s₁ X0 hx hby hml hown hnm hret hlk hZ e0
  replace hown : s.vm.findClass "com/example/ratatoskr/ratatoskr/CanonicalizationWithoutCommentsPinLaw" = some m.cls := hown
  replace hml : c.maxLocals = 1 := hml
  replace hret : meth.sig.returnType = (some (.object "com/example/ratatoskr/ratatoskr/Canonicalization")) := hret
  have N0 := Fr.nil n0
  have ef : entryFrame m #[(.int (0 : Int32))] 1 = mkF m 0 #[.val (.int (0 : Int32))] [] := by first | (simp [entryFrame, mkF, argsToLocals, Value.category]; done) | rfl
  refine own_step (S' := (s₁.setTop (mkF m 0 #[.val (.int (0 : Int32))] []))) (fun _ k => castTop ef k) ?_
  refine own_step (S' := (s₁.setTop (mkF m 1 #[.val (.int (0 : Int32))] [(.int (0 : Int32))]))) (fun _ k => XS.iloadN X0.here hx rfl (hb hby d1_0) rfl k) ?_
  refine own_step (S' := (s₁.setTop (mkF m 4 #[.val (.int (0 : Int32))] []))) (fun _ k => XS.ifNo X0.here hx rfl (hb hby d1_1) rfl ((if0 _ _).trans (teq (by decide : (0 : Int32) = (0 : Int32))).2) k) ?_
  obtain ⟨T1, X1, e1, st1⟩ := getS2 X0 hx hZ hown (host := "") (Or.inl (hw _ (List.mem_of_getElem? (i := 5) rfl))) Via.refl e0 S (g := (mkF m 4 #[.val (.int (0 : Int32))] [])) rfl (hb hby d1_4)
  refine own_step (S' := (T1.setTop (mkF m 7 #[.val (.int (0 : Int32))] [(.ref w)]))) (fun _ k => st1 _ k) ?_
  refine own_retA X1 hx hlk hret rfl rfl rfl (hb hby d1_7) (by decide) (by decide) ?_
  try rw [e1]
  exact ⟨rfl, N0, rfl⟩
set_option maxRecDepth 65536 in
set_option maxHeartbeats 40000000 in
theorem rmP_1 (l : Launch) (Z : State) (a0 : Array Value) (hw : ∀ d ∈ tables_1, d.before a0 Z = true) (ws : List Jvm.Cond) (w : Addr)  (h0 : Heap) (n0 : Nat) (Z0 : n0 ≤ h0.size) (S : Sta Z h0 "com/example/ratatoskr/ratatoskr/Canonicalization" "INCLUSIVE_WITH_COMMENTS" "Lcom/example/ratatoskr/ratatoskr/Canonicalization;" (.ref w)) :
    own_Met l (⟨"com/example/ratatoskr/ratatoskr/CanonicalizationWithoutCommentsPinLaw", "pick", "(I)Lcom/example/ratatoskr/ratatoskr/Canonicalization;"⟩ : MethodName) method_2_code 1 (some (.object "com/example/ratatoskr/ratatoskr/Canonicalization")) ws ({ frames := 0, cells := 0, slots := 0, locals := 0 } : Room) Z #[(.int (1 : Int32))] h0 (fun v h L => v = some (.ref w) ∧ Fr n0 L ∧ h = h0) := by
  refine own_body (plainFor_of_name pn_0) ?_
  intro p e s m below meth c s₁ X0 hx hby hml hown hnm hret hlk hZ e0
  replace hown : s.vm.findClass "com/example/ratatoskr/ratatoskr/CanonicalizationWithoutCommentsPinLaw" = some m.cls := hown
  replace hml : c.maxLocals = 1 := hml
  replace hret : meth.sig.returnType = (some (.object "com/example/ratatoskr/ratatoskr/Canonicalization")) := hret
  have N0 := Fr.nil n0
  have ef : entryFrame m #[(.int (1 : Int32))] 1 = mkF m 0 #[.val (.int (1 : Int32))] [] := by first | (simp [entryFrame, mkF, argsToLocals, Value.category]; done) | rfl
  refine own_step (S' := (s₁.setTop (mkF m 0 #[.val (.int (1 : Int32))] []))) (fun _ k => castTop ef k) ?_
  refine own_step (S' := (s₁.setTop (mkF m 1 #[.val (.int (1 : Int32))] [(.int (1 : Int32))]))) (fun _ k => XS.iloadN X0.here hx rfl (hb hby d1_0) rfl k) ?_
  refine own_step (S' := (s₁.setTop (mkF m 8 #[.val (.int (1 : Int32))] []))) (fun _ k => XS.ifYes X0.here hx rfl (pc0 := 1) (pc' := 8) rfl (hb hby d1_1) rfl ((if0 _ _).trans (feq (by decide : ¬ ((1 : Int32) = (0 : Int32)))).2) (by decide) (by decide) k) ?_
  refine own_step (S' := (s₁.setTop (mkF m 9 #[.val (.int (1 : Int32))] [(.int (1 : Int32))]))) (fun _ k => XS.iloadN X0.here hx rfl (hb hby d1_8) rfl k) ?_
  refine own_step (S' := (s₁.setTop (mkF m 10 #[.val (.int (1 : Int32))] [(.int (1 : Int32)), (.int (1 : Int32))]))) (fun _ k => XS.iconst X0.here hx rfl (hb hby d1_9) k) ?_
  refine own_step (S' := (s₁.setTop (mkF m 13 #[.val (.int (1 : Int32))] []))) (fun _ k => XS.icmpNo X0.here hx rfl (hb hby d1_10) rfl (teq (by decide : (1 : Int32) = (1 : Int32))).2 k) ?_
  obtain ⟨T2, X2, e2, st2⟩ := getS2 X0 hx hZ hown (host := "") (Or.inl (hw _ (List.mem_of_getElem? (i := 45) rfl))) Via.refl e0 S (g := (mkF m 13 #[.val (.int (1 : Int32))] [])) rfl (hb hby d1_13)
  refine own_step (S' := (T2.setTop (mkF m 16 #[.val (.int (1 : Int32))] [(.ref w)]))) (fun _ k => st2 _ k) ?_
  refine own_retA X2 hx hlk hret rfl rfl rfl (hb hby d1_16) (by decide) (by decide) ?_
  try rw [e2]
  exact ⟨rfl, N0, rfl⟩
set_option maxRecDepth 65536 in
set_option maxHeartbeats 40000000 in
theorem rmP_2 (l : Launch) (Z : State) (a0 : Array Value) (hw : ∀ d ∈ tables_1, d.before a0 Z = true) (ws : List Jvm.Cond) (w : Addr)  (h0 : Heap) (n0 : Nat) (Z0 : n0 ≤ h0.size) (S : Sta Z h0 "com/example/ratatoskr/ratatoskr/Canonicalization" "INCLUSIVE_11" "Lcom/example/ratatoskr/ratatoskr/Canonicalization;" (.ref w)) :
    own_Met l (⟨"com/example/ratatoskr/ratatoskr/CanonicalizationWithoutCommentsPinLaw", "pick", "(I)Lcom/example/ratatoskr/ratatoskr/Canonicalization;"⟩ : MethodName) method_2_code 1 (some (.object "com/example/ratatoskr/ratatoskr/Canonicalization")) ws ({ frames := 0, cells := 0, slots := 0, locals := 0 } : Room) Z #[(.int (2 : Int32))] h0 (fun v h L => v = some (.ref w) ∧ Fr n0 L ∧ h = h0) := by
  refine own_body (plainFor_of_name pn_0) ?_
  intro p e s m below meth c s₁ X0 hx hby hml hown hnm hret hlk hZ e0
  replace hown : s.vm.findClass "com/example/ratatoskr/ratatoskr/CanonicalizationWithoutCommentsPinLaw" = some m.cls := hown
  replace hml : c.maxLocals = 1 := hml
  replace hret : meth.sig.returnType = (some (.object "com/example/ratatoskr/ratatoskr/Canonicalization")) := hret
  have N0 := Fr.nil n0
  have ef : entryFrame m #[(.int (2 : Int32))] 1 = mkF m 0 #[.val (.int (2 : Int32))] [] := by first | (simp [entryFrame, mkF, argsToLocals, Value.category]; done) | rfl
  refine own_step (S' := (s₁.setTop (mkF m 0 #[.val (.int (2 : Int32))] []))) (fun _ k => castTop ef k) ?_
  refine own_step (S' := (s₁.setTop (mkF m 1 #[.val (.int (2 : Int32))] [(.int (2 : Int32))]))) (fun _ k => XS.iloadN X0.here hx rfl (hb hby d1_0) rfl k) ?_
  refine own_step (S' := (s₁.setTop (mkF m 8 #[.val (.int (2 : Int32))] []))) (fun _ k => XS.ifYes X0.here hx rfl (pc0 := 1) (pc' := 8) rfl (hb hby d1_1) rfl ((if0 _ _).trans (feq (by decide : ¬ ((2 : Int32) = (0 : Int32)))).2) (by decide) (by decide) k) ?_
  refine own_step (S' := (s₁.setTop (mkF m 9 #[.val (.int (2 : Int32))] [(.int (2 : Int32))]))) (fun _ k => XS.iloadN X0.here hx rfl (hb hby d1_8) rfl k) ?_
  refine own_step (S' := (s₁.setTop (mkF m 10 #[.val (.int (2 : Int32))] [(.int (1 : Int32)), (.int (2 : Int32))]))) (fun _ k => XS.iconst X0.here hx rfl (hb hby d1_9) k) ?_
  refine own_step (S' := (s₁.setTop (mkF m 17 #[.val (.int (2 : Int32))] []))) (fun _ k => XS.icmpYes X0.here hx rfl (pc0 := 10) (pc' := 17) rfl (hb hby d1_10) rfl (feq (by decide : ¬ ((2 : Int32) = (1 : Int32)))).2 (by decide) (by decide) k) ?_
  refine own_step (S' := (s₁.setTop (mkF m 18 #[.val (.int (2 : Int32))] [(.int (2 : Int32))]))) (fun _ k => XS.iloadN X0.here hx rfl (hb hby d1_17) rfl k) ?_
  refine own_step (S' := (s₁.setTop (mkF m 19 #[.val (.int (2 : Int32))] [(.int (2 : Int32)), (.int (2 : Int32))]))) (fun _ k => XS.iconst X0.here hx rfl (hb hby d1_18) k) ?_
  refine own_step (S' := (s₁.setTop (mkF m 22 #[.val (.int (2 : Int32))] []))) (fun _ k => XS.icmpNo X0.here hx rfl (hb hby d1_19) rfl (teq (by decide : (2 : Int32) = (2 : Int32))).2 k) ?_
  obtain ⟨T3, X3, e3, st3⟩ := getS2 X0 hx hZ hown (host := "") (Or.inl (hw _ (List.mem_of_getElem? (i := 44) rfl))) Via.refl e0 S (g := (mkF m 22 #[.val (.int (2 : Int32))] [])) rfl (hb hby d1_22)
  refine own_step (S' := (T3.setTop (mkF m 25 #[.val (.int (2 : Int32))] [(.ref w)]))) (fun _ k => st3 _ k) ?_
  refine own_retA X3 hx hlk hret rfl rfl rfl (hb hby d1_25) (by decide) (by decide) ?_
  try rw [e3]
  exact ⟨rfl, N0, rfl⟩
set_option maxRecDepth 65536 in
set_option maxHeartbeats 40000000 in
theorem rmP_3 (l : Launch) (Z : State) (a0 : Array Value) (hw : ∀ d ∈ tables_1, d.before a0 Z = true) (ws : List Jvm.Cond) (w : Addr)  (h0 : Heap) (n0 : Nat) (Z0 : n0 ≤ h0.size) (S : Sta Z h0 "com/example/ratatoskr/ratatoskr/Canonicalization" "INCLUSIVE_11_WITH_COMMENTS" "Lcom/example/ratatoskr/ratatoskr/Canonicalization;" (.ref w)) :
    own_Met l (⟨"com/example/ratatoskr/ratatoskr/CanonicalizationWithoutCommentsPinLaw", "pick", "(I)Lcom/example/ratatoskr/ratatoskr/Canonicalization;"⟩ : MethodName) method_2_code 1 (some (.object "com/example/ratatoskr/ratatoskr/Canonicalization")) ws ({ frames := 0, cells := 0, slots := 0, locals := 0 } : Room) Z #[(.int (3 : Int32))] h0 (fun v h L => v = some (.ref w) ∧ Fr n0 L ∧ h = h0) := by
  refine own_body (plainFor_of_name pn_0) ?_
  intro p e s m below meth c s₁ X0 hx hby hml hown hnm hret hlk hZ e0
  replace hown : s.vm.findClass "com/example/ratatoskr/ratatoskr/CanonicalizationWithoutCommentsPinLaw" = some m.cls := hown
  replace hml : c.maxLocals = 1 := hml
  replace hret : meth.sig.returnType = (some (.object "com/example/ratatoskr/ratatoskr/Canonicalization")) := hret
  have N0 := Fr.nil n0
  have ef : entryFrame m #[(.int (3 : Int32))] 1 = mkF m 0 #[.val (.int (3 : Int32))] [] := by first | (simp [entryFrame, mkF, argsToLocals, Value.category]; done) | rfl
  refine own_step (S' := (s₁.setTop (mkF m 0 #[.val (.int (3 : Int32))] []))) (fun _ k => castTop ef k) ?_
  refine own_step (S' := (s₁.setTop (mkF m 1 #[.val (.int (3 : Int32))] [(.int (3 : Int32))]))) (fun _ k => XS.iloadN X0.here hx rfl (hb hby d1_0) rfl k) ?_
  refine own_step (S' := (s₁.setTop (mkF m 8 #[.val (.int (3 : Int32))] []))) (fun _ k => XS.ifYes X0.here hx rfl (pc0 := 1) (pc' := 8) rfl (hb hby d1_1) rfl ((if0 _ _).trans (feq (by decide : ¬ ((3 : Int32) = (0 : Int32)))).2) (by decide) (by decide) k) ?_
  refine own_step (S' := (s₁.setTop (mkF m 9 #[.val (.int (3 : Int32))] [(.int (3 : Int32))]))) (fun _ k => XS.iloadN X0.here hx rfl (hb hby d1_8) rfl k) ?_
  refine own_step (S' := (s₁.setTop (mkF m 10 #[.val (.int (3 : Int32))] [(.int (1 : Int32)), (.int (3 : Int32))]))) (fun _ k => XS.iconst X0.here hx rfl (hb hby d1_9) k) ?_
  refine own_step (S' := (s₁.setTop (mkF m 17 #[.val (.int (3 : Int32))] []))) (fun _ k => XS.icmpYes X0.here hx rfl (pc0 := 10) (pc' := 17) rfl (hb hby d1_10) rfl (feq (by decide : ¬ ((3 : Int32) = (1 : Int32)))).2 (by decide) (by decide) k) ?_
  refine own_step (S' := (s₁.setTop (mkF m 18 #[.val (.int (3 : Int32))] [(.int (3 : Int32))]))) (fun _ k => XS.iloadN X0.here hx rfl (hb hby d1_17) rfl k) ?_
  refine own_step (S' := (s₁.setTop (mkF m 19 #[.val (.int (3 : Int32))] [(.int (2 : Int32)), (.int (3 : Int32))]))) (fun _ k => XS.iconst X0.here hx rfl (hb hby d1_18) k) ?_
  refine own_step (S' := (s₁.setTop (mkF m 26 #[.val (.int (3 : Int32))] []))) (fun _ k => XS.icmpYes X0.here hx rfl (pc0 := 19) (pc' := 26) rfl (hb hby d1_19) rfl (feq (by decide : ¬ ((3 : Int32) = (2 : Int32)))).2 (by decide) (by decide) k) ?_
  refine own_step (S' := (s₁.setTop (mkF m 27 #[.val (.int (3 : Int32))] [(.int (3 : Int32))]))) (fun _ k => XS.iloadN X0.here hx rfl (hb hby d1_26) rfl k) ?_
  refine own_step (S' := (s₁.setTop (mkF m 28 #[.val (.int (3 : Int32))] [(.int (3 : Int32)), (.int (3 : Int32))]))) (fun _ k => XS.iconst X0.here hx rfl (hb hby d1_27) k) ?_
  refine own_step (S' := (s₁.setTop (mkF m 31 #[.val (.int (3 : Int32))] []))) (fun _ k => XS.icmpNo X0.here hx rfl (hb hby d1_28) rfl (teq (by decide : (3 : Int32) = (3 : Int32))).2 k) ?_
  obtain ⟨T4, X4, e4, st4⟩ := getS2 X0 hx hZ hown (host := "") (Or.inl (hw _ (List.mem_of_getElem? (i := 40) rfl))) Via.refl e0 S (g := (mkF m 31 #[.val (.int (3 : Int32))] [])) rfl (hb hby d1_31)
  refine own_step (S' := (T4.setTop (mkF m 34 #[.val (.int (3 : Int32))] [(.ref w)]))) (fun _ k => st4 _ k) ?_
  refine own_retA X4 hx hlk hret rfl rfl rfl (hb hby d1_34) (by decide) (by decide) ?_
  try rw [e4]
  exact ⟨rfl, N0, rfl⟩
set_option maxRecDepth 65536 in
set_option maxHeartbeats 40000000 in
theorem rmP_4 (l : Launch) (Z : State) (a0 : Array Value) (hw : ∀ d ∈ tables_1, d.before a0 Z = true) (ws : List Jvm.Cond) (w : Addr)  (h0 : Heap) (n0 : Nat) (Z0 : n0 ≤ h0.size) (S : Sta Z h0 "com/example/ratatoskr/ratatoskr/Canonicalization" "EXCLUSIVE" "Lcom/example/ratatoskr/ratatoskr/Canonicalization;" (.ref w)) :
    own_Met l (⟨"com/example/ratatoskr/ratatoskr/CanonicalizationWithoutCommentsPinLaw", "pick", "(I)Lcom/example/ratatoskr/ratatoskr/Canonicalization;"⟩ : MethodName) method_2_code 1 (some (.object "com/example/ratatoskr/ratatoskr/Canonicalization")) ws ({ frames := 0, cells := 0, slots := 0, locals := 0 } : Room) Z #[(.int (4 : Int32))] h0 (fun v h L => v = some (.ref w) ∧ Fr n0 L ∧ h = h0) := by
  refine own_body (plainFor_of_name pn_0) ?_
  intro p e s m below meth c s₁ X0 hx hby hml hown hnm hret hlk hZ e0
  replace hown : s.vm.findClass "com/example/ratatoskr/ratatoskr/CanonicalizationWithoutCommentsPinLaw" = some m.cls := hown
  replace hml : c.maxLocals = 1 := hml
  replace hret : meth.sig.returnType = (some (.object "com/example/ratatoskr/ratatoskr/Canonicalization")) := hret
  have N0 := Fr.nil n0
  have ef : entryFrame m #[(.int (4 : Int32))] 1 = mkF m 0 #[.val (.int (4 : Int32))] [] := by first | (simp [entryFrame, mkF, argsToLocals, Value.category]; done) | rfl
  refine own_step (S' := (s₁.setTop (mkF m 0 #[.val (.int (4 : Int32))] []))) (fun _ k => castTop ef k) ?_
  refine own_step (S' := (s₁.setTop (mkF m 1 #[.val (.int (4 : Int32))] [(.int (4 : Int32))]))) (fun _ k => XS.iloadN X0.here hx rfl (hb hby d1_0) rfl k) ?_
  refine own_step (S' := (s₁.setTop (mkF m 8 #[.val (.int (4 : Int32))] []))) (fun _ k => XS.ifYes X0.here hx rfl (pc0 := 1) (pc' := 8) rfl (hb hby d1_1) rfl ((if0 _ _).trans (feq (by decide : ¬ ((4 : Int32) = (0 : Int32)))).2) (by decide) (by decide) k) ?_
  refine own_step (S' := (s₁.setTop (mkF m 9 #[.val (.int (4 : Int32))] [(.int (4 : Int32))]))) (fun _ k => XS.iloadN X0.here hx rfl (hb hby d1_8) rfl k) ?_
  refine own_step (S' := (s₁.setTop (mkF m 10 #[.val (.int (4 : Int32))] [(.int (1 : Int32)), (.int (4 : Int32))]))) (fun _ k => XS.iconst X0.here hx rfl (hb hby d1_9) k) ?_
  refine own_step (S' := (s₁.setTop (mkF m 17 #[.val (.int (4 : Int32))] []))) (fun _ k => XS.icmpYes X0.here hx rfl (pc0 := 10) (pc' := 17) rfl (hb hby d1_10) rfl (feq (by decide : ¬ ((4 : Int32) = (1 : Int32)))).2 (by decide) (by decide) k) ?_
  refine own_step (S' := (s₁.setTop (mkF m 18 #[.val (.int (4 : Int32))] [(.int (4 : Int32))]))) (fun _ k => XS.iloadN X0.here hx rfl (hb hby d1_17) rfl k) ?_
  refine own_step (S' := (s₁.setTop (mkF m 19 #[.val (.int (4 : Int32))] [(.int (2 : Int32)), (.int (4 : Int32))]))) (fun _ k => XS.iconst X0.here hx rfl (hb hby d1_18) k) ?_
  refine own_step (S' := (s₁.setTop (mkF m 26 #[.val (.int (4 : Int32))] []))) (fun _ k => XS.icmpYes X0.here hx rfl (pc0 := 19) (pc' := 26) rfl (hb hby d1_19) rfl (feq (by decide : ¬ ((4 : Int32) = (2 : Int32)))).2 (by decide) (by decide) k) ?_
  refine own_step (S' := (s₁.setTop (mkF m 27 #[.val (.int (4 : Int32))] [(.int (4 : Int32))]))) (fun _ k => XS.iloadN X0.here hx rfl (hb hby d1_26) rfl k) ?_
  refine own_step (S' := (s₁.setTop (mkF m 28 #[.val (.int (4 : Int32))] [(.int (3 : Int32)), (.int (4 : Int32))]))) (fun _ k => XS.iconst X0.here hx rfl (hb hby d1_27) k) ?_
  refine own_step (S' := (s₁.setTop (mkF m 35 #[.val (.int (4 : Int32))] []))) (fun _ k => XS.icmpYes X0.here hx rfl (pc0 := 28) (pc' := 35) rfl (hb hby d1_28) rfl (feq (by decide : ¬ ((4 : Int32) = (3 : Int32)))).2 (by decide) (by decide) k) ?_
  refine own_step (S' := (s₁.setTop (mkF m 36 #[.val (.int (4 : Int32))] [(.int (4 : Int32))]))) (fun _ k => XS.iloadN X0.here hx rfl (hb hby d1_35) rfl k) ?_
  refine own_step (S' := (s₁.setTop (mkF m 37 #[.val (.int (4 : Int32))] [(.int (4 : Int32)), (.int (4 : Int32))]))) (fun _ k => XS.iconst X0.here hx rfl (hb hby d1_36) k) ?_
  refine own_step (S' := (s₁.setTop (mkF m 40 #[.val (.int (4 : Int32))] []))) (fun _ k => XS.icmpNo X0.here hx rfl (hb hby d1_37) rfl (teq (by decide : (4 : Int32) = (4 : Int32))).2 k) ?_
  obtain ⟨T5, X5, e5, st5⟩ := getS2 X0 hx hZ hown (host := "") (Or.inl (hw _ (List.mem_of_getElem? (i := 52) rfl))) Via.refl e0 S (g := (mkF m 40 #[.val (.int (4 : Int32))] [])) rfl (hb hby d1_40)
  refine own_step (S' := (T5.setTop (mkF m 43 #[.val (.int (4 : Int32))] [(.ref w)]))) (fun _ k => st5 _ k) ?_
  refine own_retA X5 hx hlk hret rfl rfl rfl (hb hby d1_43) (by decide) (by decide) ?_
  try rw [e5]
  exact ⟨rfl, N0, rfl⟩
set_option maxRecDepth 65536 in
set_option maxHeartbeats 40000000 in
theorem rmP_5 (l : Launch) (Z : State) (a0 : Array Value) (hw : ∀ d ∈ tables_1, d.before a0 Z = true) (ws : List Jvm.Cond) (w : Addr)  (h0 : Heap) (n0 : Nat) (Z0 : n0 ≤ h0.size) (S : Sta Z h0 "com/example/ratatoskr/ratatoskr/Canonicalization" "EXCLUSIVE_WITH_COMMENTS" "Lcom/example/ratatoskr/ratatoskr/Canonicalization;" (.ref w)) :
    own_Met l (⟨"com/example/ratatoskr/ratatoskr/CanonicalizationWithoutCommentsPinLaw", "pick", "(I)Lcom/example/ratatoskr/ratatoskr/Canonicalization;"⟩ : MethodName) method_2_code 1 (some (.object "com/example/ratatoskr/ratatoskr/Canonicalization")) ws ({ frames := 0, cells := 0, slots := 0, locals := 0 } : Room) Z #[(.int (5 : Int32))] h0 (fun v h L => v = some (.ref w) ∧ Fr n0 L ∧ h = h0) := by
  refine own_body (plainFor_of_name pn_0) ?_
  intro p e s m below meth c s₁ X0 hx hby hml hown hnm hret hlk hZ e0
  replace hown : s.vm.findClass "com/example/ratatoskr/ratatoskr/CanonicalizationWithoutCommentsPinLaw" = some m.cls := hown
  replace hml : c.maxLocals = 1 := hml
  replace hret : meth.sig.returnType = (some (.object "com/example/ratatoskr/ratatoskr/Canonicalization")) := hret
  have N0 := Fr.nil n0
  have ef : entryFrame m #[(.int (5 : Int32))] 1 = mkF m 0 #[.val (.int (5 : Int32))] [] := by first | (simp [entryFrame, mkF, argsToLocals, Value.category]; done) | rfl
  refine own_step (S' := (s₁.setTop (mkF m 0 #[.val (.int (5 : Int32))] []))) (fun _ k => castTop ef k) ?_
  refine own_step (S' := (s₁.setTop (mkF m 1 #[.val (.int (5 : Int32))] [(.int (5 : Int32))]))) (fun _ k => XS.iloadN X0.here hx rfl (hb hby d1_0) rfl k) ?_
  refine own_step (S' := (s₁.setTop (mkF m 8 #[.val (.int (5 : Int32))] []))) (fun _ k => XS.ifYes X0.here hx rfl (pc0 := 1) (pc' := 8) rfl (hb hby d1_1) rfl ((if0 _ _).trans (feq (by decide : ¬ ((5 : Int32) = (0 : Int32)))).2) (by decide) (by decide) k) ?_
  refine own_step (S' := (s₁.setTop (mkF m 9 #[.val (.int (5 : Int32))] [(.int (5 : Int32))]))) (fun _ k => XS.iloadN X0.here hx rfl (hb hby d1_8) rfl k) ?_
  refine own_step (S' := (s₁.setTop (mkF m 10 #[.val (.int (5 : Int32))] [(.int (1 : Int32)), (.int (5 : Int32))]))) (fun _ k => XS.iconst X0.here hx rfl (hb hby d1_9) k) ?_
  refine own_step (S' := (s₁.setTop (mkF m 17 #[.val (.int (5 : Int32))] []))) (fun _ k => XS.icmpYes X0.here hx rfl (pc0 := 10) (pc' := 17) rfl (hb hby d1_10) rfl (feq (by decide : ¬ ((5 : Int32) = (1 : Int32)))).2 (by decide) (by decide) k) ?_
  refine own_step (S' := (s₁.setTop (mkF m 18 #[.val (.int (5 : Int32))] [(.int (5 : Int32))]))) (fun _ k => XS.iloadN X0.here hx rfl (hb hby d1_17) rfl k) ?_
  refine own_step (S' := (s₁.setTop (mkF m 19 #[.val (.int (5 : Int32))] [(.int (2 : Int32)), (.int (5 : Int32))]))) (fun _ k => XS.iconst X0.here hx rfl (hb hby d1_18) k) ?_
  refine own_step (S' := (s₁.setTop (mkF m 26 #[.val (.int (5 : Int32))] []))) (fun _ k => XS.icmpYes X0.here hx rfl (pc0 := 19) (pc' := 26) rfl (hb hby d1_19) rfl (feq (by decide : ¬ ((5 : Int32) = (2 : Int32)))).2 (by decide) (by decide) k) ?_
  refine own_step (S' := (s₁.setTop (mkF m 27 #[.val (.int (5 : Int32))] [(.int (5 : Int32))]))) (fun _ k => XS.iloadN X0.here hx rfl (hb hby d1_26) rfl k) ?_
  refine own_step (S' := (s₁.setTop (mkF m 28 #[.val (.int (5 : Int32))] [(.int (3 : Int32)), (.int (5 : Int32))]))) (fun _ k => XS.iconst X0.here hx rfl (hb hby d1_27) k) ?_
  refine own_step (S' := (s₁.setTop (mkF m 35 #[.val (.int (5 : Int32))] []))) (fun _ k => XS.icmpYes X0.here hx rfl (pc0 := 28) (pc' := 35) rfl (hb hby d1_28) rfl (feq (by decide : ¬ ((5 : Int32) = (3 : Int32)))).2 (by decide) (by decide) k) ?_
  refine own_step (S' := (s₁.setTop (mkF m 36 #[.val (.int (5 : Int32))] [(.int (5 : Int32))]))) (fun _ k => XS.iloadN X0.here hx rfl (hb hby d1_35) rfl k) ?_
  refine own_step (S' := (s₁.setTop (mkF m 37 #[.val (.int (5 : Int32))] [(.int (4 : Int32)), (.int (5 : Int32))]))) (fun _ k => XS.iconst X0.here hx rfl (hb hby d1_36) k) ?_
  refine own_step (S' := (s₁.setTop (mkF m 44 #[.val (.int (5 : Int32))] []))) (fun _ k => XS.icmpYes X0.here hx rfl (pc0 := 37) (pc' := 44) rfl (hb hby d1_37) rfl (feq (by decide : ¬ ((5 : Int32) = (4 : Int32)))).2 (by decide) (by decide) k) ?_
  obtain ⟨T6, X6, e6, st6⟩ := getS2 X0 hx hZ hown (host := "") (Or.inl (hw _ (List.mem_of_getElem? (i := 48) rfl))) Via.refl e0 S (g := (mkF m 44 #[.val (.int (5 : Int32))] [])) rfl (hb hby d1_44)
  refine own_step (S' := (T6.setTop (mkF m 47 #[.val (.int (5 : Int32))] [(.ref w)]))) (fun _ k => st6 _ k) ?_
  refine own_retA X6 hx hlk hret rfl rfl rfl (hb hby d1_47) (by decide) (by decide) ?_
  try rw [e6]
  exact ⟨rfl, N0, rfl⟩
theorem d4_0 : decode prog_2_method_6_code 0 = .ok (.aload_n 0, 1) := by decide +kernel
theorem d4_1 : decode prog_2_method_6_code 1 = .ok (.getfield 45, 3) := by decide +kernel
theorem d4_4 : decode prog_2_method_6_code 4 = .ok (.getstatic 73, 3) := by decide +kernel
theorem d4_7 : decode prog_2_method_6_code 7 = .ok (.if_acmp .ne 7, 3) := by decide +kernel
theorem d4_10 : decode prog_2_method_6_code 10 = .ok (.iconst 1, 1) := by decide +kernel
theorem d4_11 : decode prog_2_method_6_code 11 = .ok (.goto 4, 3) := by decide +kernel
theorem d4_14 : decode prog_2_method_6_code 14 = .ok (.iconst 0, 1) := by decide +kernel
theorem d4_15 : decode prog_2_method_6_code 15 = .ok (.ireturn, 1) := by decide +kernel
theorem pn_1 : plainName "com/example/ratatoskr/ratatoskr/Canonicalization" = true := by first | (simp [plainName, overriddenIn]; done) | decide +kernel
set_option maxRecDepth 65536 in
set_option maxHeartbeats 40000000 in
theorem rmX_0 (l : Launch) (Z : State) (a0 : Array Value) (hw : ∀ d ∈ tables_1, d.before a0 Z = true) (ws : List Jvm.Cond) (a kd w : Addr)  (h0 : Heap) (n0 : Nat) (Z0 : n0 ≤ h0.size) (F : Fld Z h0 a "com/example/ratatoskr/ratatoskr/Canonicalization" "kind" "Lcom/example/ratatoskr/ratatoskr/Canonicalization$Kind;" (.ref kd)) (S : Sta Z h0 "com/example/ratatoskr/ratatoskr/Canonicalization$Kind" "EXCLUSIVE" "Lcom/example/ratatoskr/ratatoskr/Canonicalization$Kind;" (.ref w)) (hq : kd ≠ w) :
    own_Met l (⟨"com/example/ratatoskr/ratatoskr/Canonicalization", "exclusive", "()Z"⟩ : MethodName) prog_2_method_6_code 1 (some .boolean) ws ({ frames := 0, cells := 0, slots := 0, locals := 0 } : Room) Z #[(.ref a)] h0 (fun v h L => v = some (.int 0) ∧ Fr n0 L ∧ h = h0) := by
  refine own_body (plainFor_of_name pn_1) ?_
  intro p e s m below meth c s₁ X0 hx hby hml hown hnm hret hlk hZ e0
  replace hown : s.vm.findClass "com/example/ratatoskr/ratatoskr/Canonicalization" = some m.cls := hown
  replace hml : c.maxLocals = 1 := hml
  replace hret : meth.sig.returnType = (some .boolean) := hret
  have N0 := Fr.nil n0
  have ef : entryFrame m #[(.ref a)] 1 = mkF m 0 #[.val (.ref a)] [] := by first | (simp [entryFrame, mkF, argsToLocals, Value.category]; done) | rfl
  refine own_step (S' := (s₁.setTop (mkF m 0 #[.val (.ref a)] []))) (fun _ k => castTop ef k) ?_
  refine own_step (S' := (s₁.setTop (mkF m 1 #[.val (.ref a)] [(.ref a)]))) (fun _ k => XS.aloadN X0.here hx rfl (hb hby d4_0) rfl rfl k) ?_
  obtain ⟨T7, X7, e7, st7⟩ := getF X0 hx hZ hown (host := "") (Or.inl (hw _ (List.mem_of_getElem? (i := 27) rfl))) Via.refl e0 F (g := (mkF m 1 #[.val (.ref a)] [(.ref a)])) rfl rfl (hb hby d4_1)
  refine own_step (S' := (T7.setTop (mkF m 4 #[.val (.ref a)] [(.ref kd)]))) (fun _ k => st7 _ k) ?_
  obtain ⟨T8, X8, e8, st8⟩ := getS2 X7 hx hZ hown (host := "") (Or.inl (hw _ (List.mem_of_getElem? (i := 31) rfl))) Via.refl e7 S (g := (mkF m 4 #[.val (.ref a)] [(.ref kd)])) rfl (hb hby d4_4)
  refine own_step (S' := (T8.setTop (mkF m 7 #[.val (.ref a)] [(.ref w), (.ref kd)]))) (fun _ k => st8 _ k) ?_
  refine own_step (S' := (T8.setTop (mkF m 14 #[.val (.ref a)] []))) (fun _ k => Jvm.RoadKit.acmp (g := (mkF m 7 #[.val (.ref a)] [(.ref w), (.ref kd)])) X8 hx rfl rfl rfl (pc0 := 7) (pc' := 14) (same := false) rfl (hb hby d4_7) rfl (decide_eq_false fun q => hq (Value.ref.inj q)) (by decide) (by decide) k) ?_
  refine own_step (S' := (T8.setTop (mkF m 15 #[.val (.ref a)] [(.int (0 : Int32))]))) (fun _ k => XS.iconst X8.here hx rfl (hb hby d4_14) k) ?_
  refine own_retN X8 hx hlk hret (by simp) (by decide) (hb hby d4_15) (by decide) (by decide) ?_
  try rw [e8]
  exact ⟨rfl, N0, rfl⟩
set_option maxRecDepth 65536 in
set_option maxHeartbeats 40000000 in
theorem rmX_1 (l : Launch) (Z : State) (a0 : Array Value) (hw : ∀ d ∈ tables_1, d.before a0 Z = true) (ws : List Jvm.Cond) (a kd w : Addr)  (h0 : Heap) (n0 : Nat) (Z0 : n0 ≤ h0.size) (F : Fld Z h0 a "com/example/ratatoskr/ratatoskr/Canonicalization" "kind" "Lcom/example/ratatoskr/ratatoskr/Canonicalization$Kind;" (.ref kd)) (S : Sta Z h0 "com/example/ratatoskr/ratatoskr/Canonicalization$Kind" "EXCLUSIVE" "Lcom/example/ratatoskr/ratatoskr/Canonicalization$Kind;" (.ref w)) (hq : kd = w) :
    own_Met l (⟨"com/example/ratatoskr/ratatoskr/Canonicalization", "exclusive", "()Z"⟩ : MethodName) prog_2_method_6_code 1 (some .boolean) ws ({ frames := 0, cells := 0, slots := 0, locals := 0 } : Room) Z #[(.ref a)] h0 (fun v h L => v = some (.int 1) ∧ Fr n0 L ∧ h = h0) := by
  refine own_body (plainFor_of_name pn_1) ?_
  intro p e s m below meth c s₁ X0 hx hby hml hown hnm hret hlk hZ e0
  replace hown : s.vm.findClass "com/example/ratatoskr/ratatoskr/Canonicalization" = some m.cls := hown
  replace hml : c.maxLocals = 1 := hml
  replace hret : meth.sig.returnType = (some .boolean) := hret
  have N0 := Fr.nil n0
  have ef : entryFrame m #[(.ref a)] 1 = mkF m 0 #[.val (.ref a)] [] := by first | (simp [entryFrame, mkF, argsToLocals, Value.category]; done) | rfl
  refine own_step (S' := (s₁.setTop (mkF m 0 #[.val (.ref a)] []))) (fun _ k => castTop ef k) ?_
  refine own_step (S' := (s₁.setTop (mkF m 1 #[.val (.ref a)] [(.ref a)]))) (fun _ k => XS.aloadN X0.here hx rfl (hb hby d4_0) rfl rfl k) ?_
  obtain ⟨T9, X9, e9, st9⟩ := getF X0 hx hZ hown (host := "") (Or.inl (hw _ (List.mem_of_getElem? (i := 27) rfl))) Via.refl e0 F (g := (mkF m 1 #[.val (.ref a)] [(.ref a)])) rfl rfl (hb hby d4_1)
  refine own_step (S' := (T9.setTop (mkF m 4 #[.val (.ref a)] [(.ref kd)]))) (fun _ k => st9 _ k) ?_
  obtain ⟨T10, X10, e10, st10⟩ := getS2 X9 hx hZ hown (host := "") (Or.inl (hw _ (List.mem_of_getElem? (i := 31) rfl))) Via.refl e9 S (g := (mkF m 4 #[.val (.ref a)] [(.ref kd)])) rfl (hb hby d4_4)
  refine own_step (S' := (T10.setTop (mkF m 7 #[.val (.ref a)] [(.ref w), (.ref kd)]))) (fun _ k => st10 _ k) ?_
  refine own_step (S' := (T10.setTop (mkF m 10 #[.val (.ref a)] []))) (fun _ k => Jvm.RoadKit.acmp (g := (mkF m 7 #[.val (.ref a)] [(.ref w), (.ref kd)])) X10 hx rfl rfl rfl (pc0 := 7) (pc' := 10) (same := true) rfl (hb hby d4_7) rfl (decide_eq_true (congrArg Value.ref hq)) (by decide) (by decide) k) ?_
  refine own_step (S' := (T10.setTop (mkF m 11 #[.val (.ref a)] [(.int (1 : Int32))]))) (fun _ k => XS.iconst X10.here hx rfl (hb hby d4_10) k) ?_
  refine own_step (S' := (T10.setTop (mkF m 15 #[.val (.ref a)] [(.int (1 : Int32))]))) (fun _ k => XS.goto X10.here hx rfl (pc0 := 11) (pc' := 15) rfl (hb hby d4_11) (by decide) (by decide) k) ?_
  refine own_retN X10 hx hlk hret (by simp) (by decide) (hb hby d4_15) (by decide) (by decide) ?_
  try rw [e10]
  exact ⟨rfl, N0, rfl⟩
theorem d5_0 : decode prog_2_method_7_code 0 = .ok (.aload_n 0, 1) := by decide +kernel
theorem d5_1 : decode prog_2_method_7_code 1 = .ok (.getfield 45, 3) := by decide +kernel
theorem d5_4 : decode prog_2_method_7_code 4 = .ok (.getstatic 77, 3) := by decide +kernel
theorem d5_7 : decode prog_2_method_7_code 7 = .ok (.if_acmp .eq 7, 3) := by decide +kernel
theorem d5_10 : decode prog_2_method_7_code 10 = .ok (.iconst 1, 1) := by decide +kernel
theorem d5_11 : decode prog_2_method_7_code 11 = .ok (.goto 4, 3) := by decide +kernel
theorem d5_14 : decode prog_2_method_7_code 14 = .ok (.iconst 0, 1) := by decide +kernel
theorem d5_15 : decode prog_2_method_7_code 15 = .ok (.ireturn, 1) := by decide +kernel
set_option maxRecDepth 65536 in
set_option maxHeartbeats 40000000 in
theorem rmS_0 (l : Launch) (Z : State) (a0 : Array Value) (hw : ∀ d ∈ tables_1, d.before a0 Z = true) (ws : List Jvm.Cond) (a kd w : Addr)  (h0 : Heap) (n0 : Nat) (Z0 : n0 ≤ h0.size) (F : Fld Z h0 a "com/example/ratatoskr/ratatoskr/Canonicalization" "kind" "Lcom/example/ratatoskr/ratatoskr/Canonicalization$Kind;" (.ref kd)) (S : Sta Z h0 "com/example/ratatoskr/ratatoskr/Canonicalization$Kind" "INCLUSIVE_11" "Lcom/example/ratatoskr/ratatoskr/Canonicalization$Kind;" (.ref w)) (hq : kd = w) :
    own_Met l (⟨"com/example/ratatoskr/ratatoskr/Canonicalization", "ofXmlSignature10", "()Z"⟩ : MethodName) prog_2_method_7_code 1 (some .boolean) ws ({ frames := 0, cells := 0, slots := 0, locals := 0 } : Room) Z #[(.ref a)] h0 (fun v h L => v = some (.int 0) ∧ Fr n0 L ∧ h = h0) := by
  refine own_body (plainFor_of_name pn_1) ?_
  intro p e s m below meth c s₁ X0 hx hby hml hown hnm hret hlk hZ e0
  replace hown : s.vm.findClass "com/example/ratatoskr/ratatoskr/Canonicalization" = some m.cls := hown
  replace hml : c.maxLocals = 1 := hml
  replace hret : meth.sig.returnType = (some .boolean) := hret
  have N0 := Fr.nil n0
  have ef : entryFrame m #[(.ref a)] 1 = mkF m 0 #[.val (.ref a)] [] := by first | (simp [entryFrame, mkF, argsToLocals, Value.category]; done) | rfl
  refine own_step (S' := (s₁.setTop (mkF m 0 #[.val (.ref a)] []))) (fun _ k => castTop ef k) ?_
  refine own_step (S' := (s₁.setTop (mkF m 1 #[.val (.ref a)] [(.ref a)]))) (fun _ k => XS.aloadN X0.here hx rfl (hb hby d5_0) rfl rfl k) ?_
  obtain ⟨T11, X11, e11, st11⟩ := getF X0 hx hZ hown (host := "") (Or.inl (hw _ (List.mem_of_getElem? (i := 27) rfl))) Via.refl e0 F (g := (mkF m 1 #[.val (.ref a)] [(.ref a)])) rfl rfl (hb hby d5_1)
  refine own_step (S' := (T11.setTop (mkF m 4 #[.val (.ref a)] [(.ref kd)]))) (fun _ k => st11 _ k) ?_
  obtain ⟨T12, X12, e12, st12⟩ := getS2 X11 hx hZ hown (host := "") (Or.inl (hw _ (List.mem_of_getElem? (i := 38) rfl))) Via.refl e11 S (g := (mkF m 4 #[.val (.ref a)] [(.ref kd)])) rfl (hb hby d5_4)
  refine own_step (S' := (T12.setTop (mkF m 7 #[.val (.ref a)] [(.ref w), (.ref kd)]))) (fun _ k => st12 _ k) ?_
  refine own_step (S' := (T12.setTop (mkF m 14 #[.val (.ref a)] []))) (fun _ k => Jvm.RoadKit.acmp (g := (mkF m 7 #[.val (.ref a)] [(.ref w), (.ref kd)])) X12 hx rfl rfl rfl (pc0 := 7) (pc' := 14) (same := true) rfl (hb hby d5_7) rfl (decide_eq_true (congrArg Value.ref hq)) (by decide) (by decide) k) ?_
  refine own_step (S' := (T12.setTop (mkF m 15 #[.val (.ref a)] [(.int (0 : Int32))]))) (fun _ k => XS.iconst X12.here hx rfl (hb hby d5_14) k) ?_
  refine own_retN X12 hx hlk hret (by simp) (by decide) (hb hby d5_15) (by decide) (by decide) ?_
  try rw [e12]
  exact ⟨rfl, N0, rfl⟩
set_option maxRecDepth 65536 in
set_option maxHeartbeats 40000000 in
theorem rmS_1 (l : Launch) (Z : State) (a0 : Array Value) (hw : ∀ d ∈ tables_1, d.before a0 Z = true) (ws : List Jvm.Cond) (a kd w : Addr)  (h0 : Heap) (n0 : Nat) (Z0 : n0 ≤ h0.size) (F : Fld Z h0 a "com/example/ratatoskr/ratatoskr/Canonicalization" "kind" "Lcom/example/ratatoskr/ratatoskr/Canonicalization$Kind;" (.ref kd)) (S : Sta Z h0 "com/example/ratatoskr/ratatoskr/Canonicalization$Kind" "INCLUSIVE_11" "Lcom/example/ratatoskr/ratatoskr/Canonicalization$Kind;" (.ref w)) (hq : kd ≠ w) :
    own_Met l (⟨"com/example/ratatoskr/ratatoskr/Canonicalization", "ofXmlSignature10", "()Z"⟩ : MethodName) prog_2_method_7_code 1 (some .boolean) ws ({ frames := 0, cells := 0, slots := 0, locals := 0 } : Room) Z #[(.ref a)] h0 (fun v h L => v = some (.int 1) ∧ Fr n0 L ∧ h = h0) := by
  refine own_body (plainFor_of_name pn_1) ?_
  intro p e s m below meth c s₁ X0 hx hby hml hown hnm hret hlk hZ e0
  replace hown : s.vm.findClass "com/example/ratatoskr/ratatoskr/Canonicalization" = some m.cls := hown
  replace hml : c.maxLocals = 1 := hml
  replace hret : meth.sig.returnType = (some .boolean) := hret
  have N0 := Fr.nil n0
  have ef : entryFrame m #[(.ref a)] 1 = mkF m 0 #[.val (.ref a)] [] := by first | (simp [entryFrame, mkF, argsToLocals, Value.category]; done) | rfl
  refine own_step (S' := (s₁.setTop (mkF m 0 #[.val (.ref a)] []))) (fun _ k => castTop ef k) ?_
  refine own_step (S' := (s₁.setTop (mkF m 1 #[.val (.ref a)] [(.ref a)]))) (fun _ k => XS.aloadN X0.here hx rfl (hb hby d5_0) rfl rfl k) ?_
  obtain ⟨T13, X13, e13, st13⟩ := getF X0 hx hZ hown (host := "") (Or.inl (hw _ (List.mem_of_getElem? (i := 27) rfl))) Via.refl e0 F (g := (mkF m 1 #[.val (.ref a)] [(.ref a)])) rfl rfl (hb hby d5_1)
  refine own_step (S' := (T13.setTop (mkF m 4 #[.val (.ref a)] [(.ref kd)]))) (fun _ k => st13 _ k) ?_
  obtain ⟨T14, X14, e14, st14⟩ := getS2 X13 hx hZ hown (host := "") (Or.inl (hw _ (List.mem_of_getElem? (i := 38) rfl))) Via.refl e13 S (g := (mkF m 4 #[.val (.ref a)] [(.ref kd)])) rfl (hb hby d5_4)
  refine own_step (S' := (T14.setTop (mkF m 7 #[.val (.ref a)] [(.ref w), (.ref kd)]))) (fun _ k => st14 _ k) ?_
  refine own_step (S' := (T14.setTop (mkF m 10 #[.val (.ref a)] []))) (fun _ k => Jvm.RoadKit.acmp (g := (mkF m 7 #[.val (.ref a)] [(.ref w), (.ref kd)])) X14 hx rfl rfl rfl (pc0 := 7) (pc' := 10) (same := false) rfl (hb hby d5_7) rfl (decide_eq_false fun q => hq (Value.ref.inj q)) (by decide) (by decide) k) ?_
  refine own_step (S' := (T14.setTop (mkF m 11 #[.val (.ref a)] [(.int (1 : Int32))]))) (fun _ k => XS.iconst X14.here hx rfl (hb hby d5_10) k) ?_
  refine own_step (S' := (T14.setTop (mkF m 15 #[.val (.ref a)] [(.int (1 : Int32))]))) (fun _ k => XS.goto X14.here hx rfl (pc0 := 11) (pc' := 15) rfl (hb hby d5_11) (by decide) (by decide) k) ?_
  refine own_retN X14 hx hlk hret (by simp) (by decide) (hb hby d5_15) (by decide) (by decide) ?_
  try rw [e14]
  exact ⟨rfl, N0, rfl⟩
theorem d3_0 : decode jdk_37_method_2_code 0 = .ok (.aload_n 0, 1) := by decide +kernel
theorem d3_1 : decode jdk_37_method_2_code 1 = .ok (.getfield 7, 3) := by decide +kernel
theorem d3_4 : decode jdk_37_method_2_code 4 = .ok (.ireturn, 1) := by decide +kernel
theorem pn_2 : plainName "java/lang/Enum" = true := by first | (simp [plainName, overriddenIn]; done) | decide +kernel
set_option maxRecDepth 65536 in
set_option maxHeartbeats 40000000 in
theorem rmO (l : Launch) (Z : State) (a0 : Array Value) (hw : ∀ d ∈ tables_1, d.before a0 Z = true) (ws : List Jvm.Cond) (a : Addr) (i : Int32)  (h0 : Heap) (n0 : Nat) (Z0 : n0 ≤ h0.size) (F : Fld Z h0 a "java/lang/Enum" "ordinal" "I" (.int i)) :
    own_Met l (⟨"java/lang/Enum", "ordinal", "()I"⟩ : MethodName) jdk_37_method_2_code 1 (some .int) ws ({ frames := 0, cells := 0, slots := 0, locals := 0 } : Room) Z #[(.ref a)] h0 (fun v h L => v = some (.int i) ∧ Fr n0 L ∧ h = h0) := by
  refine own_body (plainFor_of_name pn_2) ?_
  intro p e s m below meth c s₁ X0 hx hby hml hown hnm hret hlk hZ e0
  replace hown : s.vm.findClass "java/lang/Enum" = some m.cls := hown
  replace hml : c.maxLocals = 1 := hml
  replace hret : meth.sig.returnType = (some .int) := hret
  have N0 := Fr.nil n0
  have ef : entryFrame m #[(.ref a)] 1 = mkF m 0 #[.val (.ref a)] [] := by first | (simp [entryFrame, mkF, argsToLocals, Value.category]; done) | rfl
  refine own_step (S' := (s₁.setTop (mkF m 0 #[.val (.ref a)] []))) (fun _ k => castTop ef k) ?_
  refine own_step (S' := (s₁.setTop (mkF m 1 #[.val (.ref a)] [(.ref a)]))) (fun _ k => XS.aloadN X0.here hx rfl (hb hby d3_0) rfl rfl k) ?_
  obtain ⟨T15, X15, e15, st15⟩ := getF X0 hx hZ hown (host := "") (Or.inl (hw _ (List.mem_of_getElem? (i := 20) rfl))) Via.refl e0 F (g := (mkF m 1 #[.val (.ref a)] [(.ref a)])) rfl rfl (hb hby d3_1)
  refine own_step (S' := (T15.setTop (mkF m 4 #[.val (.ref a)] [(.int i)]))) (fun _ k => st15 _ k) ?_
  refine own_retI X15 hx hlk hret (hb hby d3_4) (by decide) (by decide) ?_
  try rw [e15]
  exact ⟨rfl, N0, rfl⟩
theorem d2_0 : decode prog_2_method_8_code 0 = .ok (.aload_n 0, 1) := by decide +kernel
theorem d2_1 : decode prog_2_method_8_code 1 = .ok (.invokevirtual 79, 3) := by decide +kernel
theorem d2_4 : decode prog_2_method_8_code 4 = .ok (.tableswitch 54 1 5 #[36, 54, 42, 54, 48], 36) := by decide +kernel
theorem d2_40 : decode prog_2_method_8_code 40 = .ok (.getstatic 3, 3) := by decide +kernel
theorem d2_43 : decode prog_2_method_8_code 43 = .ok (.goto 16, 3) := by decide +kernel
theorem d2_46 : decode prog_2_method_8_code 46 = .ok (.getstatic 10, 3) := by decide +kernel
theorem d2_49 : decode prog_2_method_8_code 49 = .ok (.goto 10, 3) := by decide +kernel
theorem d2_52 : decode prog_2_method_8_code 52 = .ok (.getstatic 16, 3) := by decide +kernel
theorem d2_55 : decode prog_2_method_8_code 55 = .ok (.goto 4, 3) := by decide +kernel
theorem d2_58 : decode prog_2_method_8_code 58 = .ok (.aload_n 0, 1) := by decide +kernel
theorem d2_59 : decode prog_2_method_8_code 59 = .ok (.areturn, 1) := by decide +kernel
theorem pd_0 : parseMethodDescriptor "()I" = some ⟨[], some .int⟩ := by decide +kernel
set_option maxRecDepth 65536 in
set_option maxHeartbeats 40000000 in
theorem rmW_0 (l : Launch) (Z : State) (a0 : Array Value) (hw : ∀ d ∈ tables_1, d.before a0 Z = true) (ws : List Jvm.Cond) (a : Addr)  (h0 : Heap) (n0 : Nat) (Z0 : n0 ≤ h0.size) (F : Fld Z h0 a "java/lang/Enum" "ordinal" "I" (.int (0 : Int32))) (E : Exa Z h0 a "com/example/ratatoskr/ratatoskr/Canonicalization") :
    own_Met l (⟨"com/example/ratatoskr/ratatoskr/Canonicalization", "withoutComments", "()Lcom/example/ratatoskr/ratatoskr/Canonicalization;"⟩ : MethodName) prog_2_method_8_code 1 (some (.object "com/example/ratatoskr/ratatoskr/Canonicalization")) ws ({ frames := 1, cells := 0, slots := 0, locals := 12 } : Room) Z #[(.ref a)] h0 (fun v h L => v = some (.ref a) ∧ Fr n0 L ∧ h = h0) := by
  refine own_body (plainFor_of_name pn_1) ?_
  intro p e s m below meth c s₁ X0 hx hby hml hown hnm hret hlk hZ e0
  replace hown : s.vm.findClass "com/example/ratatoskr/ratatoskr/Canonicalization" = some m.cls := hown
  replace hml : c.maxLocals = 1 := hml
  replace hret : meth.sig.returnType = (some (.object "com/example/ratatoskr/ratatoskr/Canonicalization")) := hret
  have N0 := Fr.nil n0
  have ef : entryFrame m #[(.ref a)] 1 = mkF m 0 #[.val (.ref a)] [] := by first | (simp [entryFrame, mkF, argsToLocals, Value.category]; done) | rfl
  refine own_step (S' := (s₁.setTop (mkF m 0 #[.val (.ref a)] []))) (fun _ k => castTop ef k) ?_
  refine own_step (S' := (s₁.setTop (mkF m 1 #[.val (.ref a)] [(.ref a)]))) (fun _ k => XS.aloadN X0.here hx rfl (hb hby d2_0) rfl rfl k) ?_
  obtain ⟨_, T16, L16, X16, ⟨rfl, N16q, e16⟩, st16⟩ := own_virtUp (owner := "java/lang/Enum") (argsL := []) (rest := []) X0 hx hZ hown (hw _ (List.mem_of_getElem? (i := 13) rfl)) (hw _ (List.mem_of_getElem? (i := 14) rfl)) (hw _ (List.mem_of_getElem? (i := 15) rfl)) (by decide) (hw _ (List.mem_of_getElem? (i := 17) rfl)) (hw _ (List.mem_of_getElem? (i := 16) rfl)) (hw _ (List.mem_of_getElem? (i := 19) rfl)) (hw _ (List.mem_of_getElem? (i := 18) rfl)) e0 E (hM := rmO l Z a0 hw [] a (0 : Int32) h0 n0 Z0 F) (g := (mkF m 1 #[.val (.ref a)] [(.ref a)])) (hg := rfl) (hsize := by rw [hml]; rfl) (hlen := lenOf pd_0 rfl) (hstack := rfl) (W := 0) (hW := by show 2 * 0 + _ ≤ _; exact Nat.le_of_eq rfl) (hd := (hb hby d2_1)) (hf := by decide) (hl := by decide) (hc := by decide) (hs := by decide)
  have N16 := Fr.app N0 N16q
  refine own_step (S' := (T16.setTop (mkF m 4 #[.val (.ref a)] [(.int (0 : Int32))]))) (fun _ k => st16 _ k) ?_
  refine own_step (S' := (T16.setTop (mkF m 58 #[.val (.ref a)] []))) (fun _ k => XS.tswOut X16.here hx rfl (pc0 := 4) (pc' := 58) rfl (hb hby d2_4) rfl (by decide) (by decide) (by decide) k) ?_
  refine own_step (S' := (T16.setTop (mkF m 59 #[.val (.ref a)] [(.ref a)]))) (fun _ k => XS.aloadN X16.here hx rfl (hb hby d2_58) rfl rfl k) ?_
  refine own_retA X16 hx hlk hret rfl rfl rfl (hb hby d2_59) (by decide) (by decide) ?_
  try rw [e16]
  exact ⟨rfl, N16, rfl⟩
set_option maxRecDepth 65536 in
set_option maxHeartbeats 40000000 in
theorem rmW_1 (l : Launch) (Z : State) (a0 : Array Value) (hw : ∀ d ∈ tables_1, d.before a0 Z = true) (ws : List Jvm.Cond) (a w : Addr)  (h0 : Heap) (n0 : Nat) (Z0 : n0 ≤ h0.size) (F : Fld Z h0 a "java/lang/Enum" "ordinal" "I" (.int (1 : Int32))) (E : Exa Z h0 a "com/example/ratatoskr/ratatoskr/Canonicalization") (S : Sta Z h0 "com/example/ratatoskr/ratatoskr/Canonicalization" "INCLUSIVE" "Lcom/example/ratatoskr/ratatoskr/Canonicalization;" (.ref w)) :
    own_Met l (⟨"com/example/ratatoskr/ratatoskr/Canonicalization", "withoutComments", "()Lcom/example/ratatoskr/ratatoskr/Canonicalization;"⟩ : MethodName) prog_2_method_8_code 1 (some (.object "com/example/ratatoskr/ratatoskr/Canonicalization")) ws ({ frames := 1, cells := 0, slots := 0, locals := 12 } : Room) Z #[(.ref a)] h0 (fun v h L => v = some (.ref w) ∧ Fr n0 L ∧ h = h0) := by
  refine own_body (plainFor_of_name pn_1) ?_
  intro p e s m below meth c s₁ X0 hx hby hml hown hnm hret hlk hZ e0
  replace hown : s.vm.findClass "com/example/ratatoskr/ratatoskr/Canonicalization" = some m.cls := hown
  replace hml : c.maxLocals = 1 := hml
  replace hret : meth.sig.returnType = (some (.object "com/example/ratatoskr/ratatoskr/Canonicalization")) := hret
  have N0 := Fr.nil n0
  have ef : entryFrame m #[(.ref a)] 1 = mkF m 0 #[.val (.ref a)] [] := by first | (simp [entryFrame, mkF, argsToLocals, Value.category]; done) | rfl
  refine own_step (S' := (s₁.setTop (mkF m 0 #[.val (.ref a)] []))) (fun _ k => castTop ef k) ?_
  refine own_step (S' := (s₁.setTop (mkF m 1 #[.val (.ref a)] [(.ref a)]))) (fun _ k => XS.aloadN X0.here hx rfl (hb hby d2_0) rfl rfl k) ?_
  obtain ⟨_, T17, L17, X17, ⟨rfl, N17q, e17⟩, st17⟩ := own_virtUp (owner := "java/lang/Enum") (argsL := []) (rest := []) X0 hx hZ hown (hw _ (List.mem_of_getElem? (i := 13) rfl)) (hw _ (List.mem_of_getElem? (i := 14) rfl)) (hw _ (List.mem_of_getElem? (i := 15) rfl)) (by decide) (hw _ (List.mem_of_getElem? (i := 17) rfl)) (hw _ (List.mem_of_getElem? (i := 16) rfl)) (hw _ (List.mem_of_getElem? (i := 19) rfl)) (hw _ (List.mem_of_getElem? (i := 18) rfl)) e0 E (hM := rmO l Z a0 hw [] a (1 : Int32) h0 n0 Z0 F) (g := (mkF m 1 #[.val (.ref a)] [(.ref a)])) (hg := rfl) (hsize := by rw [hml]; rfl) (hlen := lenOf pd_0 rfl) (hstack := rfl) (W := 0) (hW := by show 2 * 0 + _ ≤ _; exact Nat.le_of_eq rfl) (hd := (hb hby d2_1)) (hf := by decide) (hl := by decide) (hc := by decide) (hs := by decide)
  have N17 := Fr.app N0 N17q
  refine own_step (S' := (T17.setTop (mkF m 4 #[.val (.ref a)] [(.int (1 : Int32))]))) (fun _ k => st17 _ k) ?_
  refine own_step (S' := (T17.setTop (mkF m 40 #[.val (.ref a)] []))) (fun _ k => XS.tswIn X17.here hx rfl (pc0 := 4) (pc' := 40) (o := 36) rfl (hb hby d2_4) rfl (by decide) (by decide) (by decide) (by decide) k) ?_
  obtain ⟨T18, X18, e18, st18⟩ := getS2 X17 hx hZ hown (host := "") (Or.inl (hw _ (List.mem_of_getElem? (i := 47) rfl))) Via.refl e17 S (g := (mkF m 40 #[.val (.ref a)] [])) rfl (hb hby d2_40)
  refine own_step (S' := (T18.setTop (mkF m 43 #[.val (.ref a)] [(.ref w)]))) (fun _ k => st18 _ k) ?_
  refine own_step (S' := (T18.setTop (mkF m 59 #[.val (.ref a)] [(.ref w)]))) (fun _ k => XS.goto X18.here hx rfl (pc0 := 43) (pc' := 59) rfl (hb hby d2_43) (by decide) (by decide) k) ?_
  refine own_retA X18 hx hlk hret rfl rfl rfl (hb hby d2_59) (by decide) (by decide) ?_
  try rw [e18]
  exact ⟨rfl, N17, rfl⟩
set_option maxRecDepth 65536 in
set_option maxHeartbeats 40000000 in
theorem rmW_2 (l : Launch) (Z : State) (a0 : Array Value) (hw : ∀ d ∈ tables_1, d.before a0 Z = true) (ws : List Jvm.Cond) (a : Addr)  (h0 : Heap) (n0 : Nat) (Z0 : n0 ≤ h0.size) (F : Fld Z h0 a "java/lang/Enum" "ordinal" "I" (.int (2 : Int32))) (E : Exa Z h0 a "com/example/ratatoskr/ratatoskr/Canonicalization") :
    own_Met l (⟨"com/example/ratatoskr/ratatoskr/Canonicalization", "withoutComments", "()Lcom/example/ratatoskr/ratatoskr/Canonicalization;"⟩ : MethodName) prog_2_method_8_code 1 (some (.object "com/example/ratatoskr/ratatoskr/Canonicalization")) ws ({ frames := 1, cells := 0, slots := 0, locals := 12 } : Room) Z #[(.ref a)] h0 (fun v h L => v = some (.ref a) ∧ Fr n0 L ∧ h = h0) := by
  refine own_body (plainFor_of_name pn_1) ?_
  intro p e s m below meth c s₁ X0 hx hby hml hown hnm hret hlk hZ e0
  replace hown : s.vm.findClass "com/example/ratatoskr/ratatoskr/Canonicalization" = some m.cls := hown
  replace hml : c.maxLocals = 1 := hml
  replace hret : meth.sig.returnType = (some (.object "com/example/ratatoskr/ratatoskr/Canonicalization")) := hret
  have N0 := Fr.nil n0
  have ef : entryFrame m #[(.ref a)] 1 = mkF m 0 #[.val (.ref a)] [] := by first | (simp [entryFrame, mkF, argsToLocals, Value.category]; done) | rfl
  refine own_step (S' := (s₁.setTop (mkF m 0 #[.val (.ref a)] []))) (fun _ k => castTop ef k) ?_
  refine own_step (S' := (s₁.setTop (mkF m 1 #[.val (.ref a)] [(.ref a)]))) (fun _ k => XS.aloadN X0.here hx rfl (hb hby d2_0) rfl rfl k) ?_
  obtain ⟨_, T19, L19, X19, ⟨rfl, N19q, e19⟩, st19⟩ := own_virtUp (owner := "java/lang/Enum") (argsL := []) (rest := []) X0 hx hZ hown (hw _ (List.mem_of_getElem? (i := 13) rfl)) (hw _ (List.mem_of_getElem? (i := 14) rfl)) (hw _ (List.mem_of_getElem? (i := 15) rfl)) (by decide) (hw _ (List.mem_of_getElem? (i := 17) rfl)) (hw _ (List.mem_of_getElem? (i := 16) rfl)) (hw _ (List.mem_of_getElem? (i := 19) rfl)) (hw _ (List.mem_of_getElem? (i := 18) rfl)) e0 E (hM := rmO l Z a0 hw [] a (2 : Int32) h0 n0 Z0 F) (g := (mkF m 1 #[.val (.ref a)] [(.ref a)])) (hg := rfl) (hsize := by rw [hml]; rfl) (hlen := lenOf pd_0 rfl) (hstack := rfl) (W := 0) (hW := by show 2 * 0 + _ ≤ _; exact Nat.le_of_eq rfl) (hd := (hb hby d2_1)) (hf := by decide) (hl := by decide) (hc := by decide) (hs := by decide)
  have N19 := Fr.app N0 N19q
  refine own_step (S' := (T19.setTop (mkF m 4 #[.val (.ref a)] [(.int (2 : Int32))]))) (fun _ k => st19 _ k) ?_
  refine own_step (S' := (T19.setTop (mkF m 58 #[.val (.ref a)] []))) (fun _ k => XS.tswIn X19.here hx rfl (pc0 := 4) (pc' := 58) (o := 54) rfl (hb hby d2_4) rfl (by decide) (by decide) (by decide) (by decide) k) ?_
  refine own_step (S' := (T19.setTop (mkF m 59 #[.val (.ref a)] [(.ref a)]))) (fun _ k => XS.aloadN X19.here hx rfl (hb hby d2_58) rfl rfl k) ?_
  refine own_retA X19 hx hlk hret rfl rfl rfl (hb hby d2_59) (by decide) (by decide) ?_
  try rw [e19]
  exact ⟨rfl, N19, rfl⟩
set_option maxRecDepth 65536 in
set_option maxHeartbeats 40000000 in
theorem rmW_3 (l : Launch) (Z : State) (a0 : Array Value) (hw : ∀ d ∈ tables_1, d.before a0 Z = true) (ws : List Jvm.Cond) (a w : Addr)  (h0 : Heap) (n0 : Nat) (Z0 : n0 ≤ h0.size) (F : Fld Z h0 a "java/lang/Enum" "ordinal" "I" (.int (3 : Int32))) (E : Exa Z h0 a "com/example/ratatoskr/ratatoskr/Canonicalization") (S : Sta Z h0 "com/example/ratatoskr/ratatoskr/Canonicalization" "INCLUSIVE_11" "Lcom/example/ratatoskr/ratatoskr/Canonicalization;" (.ref w)) :
    own_Met l (⟨"com/example/ratatoskr/ratatoskr/Canonicalization", "withoutComments", "()Lcom/example/ratatoskr/ratatoskr/Canonicalization;"⟩ : MethodName) prog_2_method_8_code 1 (some (.object "com/example/ratatoskr/ratatoskr/Canonicalization")) ws ({ frames := 1, cells := 0, slots := 0, locals := 12 } : Room) Z #[(.ref a)] h0 (fun v h L => v = some (.ref w) ∧ Fr n0 L ∧ h = h0) := by
  refine own_body (plainFor_of_name pn_1) ?_
  intro p e s m below meth c s₁ X0 hx hby hml hown hnm hret hlk hZ e0
  replace hown : s.vm.findClass "com/example/ratatoskr/ratatoskr/Canonicalization" = some m.cls := hown
  replace hml : c.maxLocals = 1 := hml
  replace hret : meth.sig.returnType = (some (.object "com/example/ratatoskr/ratatoskr/Canonicalization")) := hret
  have N0 := Fr.nil n0
  have ef : entryFrame m #[(.ref a)] 1 = mkF m 0 #[.val (.ref a)] [] := by first | (simp [entryFrame, mkF, argsToLocals, Value.category]; done) | rfl
  refine own_step (S' := (s₁.setTop (mkF m 0 #[.val (.ref a)] []))) (fun _ k => castTop ef k) ?_
  refine own_step (S' := (s₁.setTop (mkF m 1 #[.val (.ref a)] [(.ref a)]))) (fun _ k => XS.aloadN X0.here hx rfl (hb hby d2_0) rfl rfl k) ?_
  obtain ⟨_, T20, L20, X20, ⟨rfl, N20q, e20⟩, st20⟩ := own_virtUp (owner := "java/lang/Enum") (argsL := []) (rest := []) X0 hx hZ hown (hw _ (List.mem_of_getElem? (i := 13) rfl)) (hw _ (List.mem_of_getElem? (i := 14) rfl)) (hw _ (List.mem_of_getElem? (i := 15) rfl)) (by decide) (hw _ (List.mem_of_getElem? (i := 17) rfl)) (hw _ (List.mem_of_getElem? (i := 16) rfl)) (hw _ (List.mem_of_getElem? (i := 19) rfl)) (hw _ (List.mem_of_getElem? (i := 18) rfl)) e0 E (hM := rmO l Z a0 hw [] a (3 : Int32) h0 n0 Z0 F) (g := (mkF m 1 #[.val (.ref a)] [(.ref a)])) (hg := rfl) (hsize := by rw [hml]; rfl) (hlen := lenOf pd_0 rfl) (hstack := rfl) (W := 0) (hW := by show 2 * 0 + _ ≤ _; exact Nat.le_of_eq rfl) (hd := (hb hby d2_1)) (hf := by decide) (hl := by decide) (hc := by decide) (hs := by decide)
  have N20 := Fr.app N0 N20q
  refine own_step (S' := (T20.setTop (mkF m 4 #[.val (.ref a)] [(.int (3 : Int32))]))) (fun _ k => st20 _ k) ?_
  refine own_step (S' := (T20.setTop (mkF m 46 #[.val (.ref a)] []))) (fun _ k => XS.tswIn X20.here hx rfl (pc0 := 4) (pc' := 46) (o := 42) rfl (hb hby d2_4) rfl (by decide) (by decide) (by decide) (by decide) k) ?_
  obtain ⟨T21, X21, e21, st21⟩ := getS2 X20 hx hZ hown (host := "") (Or.inl (hw _ (List.mem_of_getElem? (i := 42) rfl))) Via.refl e20 S (g := (mkF m 46 #[.val (.ref a)] [])) rfl (hb hby d2_46)
  refine own_step (S' := (T21.setTop (mkF m 49 #[.val (.ref a)] [(.ref w)]))) (fun _ k => st21 _ k) ?_
  refine own_step (S' := (T21.setTop (mkF m 59 #[.val (.ref a)] [(.ref w)]))) (fun _ k => XS.goto X21.here hx rfl (pc0 := 49) (pc' := 59) rfl (hb hby d2_49) (by decide) (by decide) k) ?_
  refine own_retA X21 hx hlk hret rfl rfl rfl (hb hby d2_59) (by decide) (by decide) ?_
  try rw [e21]
  exact ⟨rfl, N20, rfl⟩
set_option maxRecDepth 65536 in
set_option maxHeartbeats 40000000 in
theorem rmW_4 (l : Launch) (Z : State) (a0 : Array Value) (hw : ∀ d ∈ tables_1, d.before a0 Z = true) (ws : List Jvm.Cond) (a : Addr)  (h0 : Heap) (n0 : Nat) (Z0 : n0 ≤ h0.size) (F : Fld Z h0 a "java/lang/Enum" "ordinal" "I" (.int (4 : Int32))) (E : Exa Z h0 a "com/example/ratatoskr/ratatoskr/Canonicalization") :
    own_Met l (⟨"com/example/ratatoskr/ratatoskr/Canonicalization", "withoutComments", "()Lcom/example/ratatoskr/ratatoskr/Canonicalization;"⟩ : MethodName) prog_2_method_8_code 1 (some (.object "com/example/ratatoskr/ratatoskr/Canonicalization")) ws ({ frames := 1, cells := 0, slots := 0, locals := 12 } : Room) Z #[(.ref a)] h0 (fun v h L => v = some (.ref a) ∧ Fr n0 L ∧ h = h0) := by
  refine own_body (plainFor_of_name pn_1) ?_
  intro p e s m below meth c s₁ X0 hx hby hml hown hnm hret hlk hZ e0
  replace hown : s.vm.findClass "com/example/ratatoskr/ratatoskr/Canonicalization" = some m.cls := hown
  replace hml : c.maxLocals = 1 := hml
  replace hret : meth.sig.returnType = (some (.object "com/example/ratatoskr/ratatoskr/Canonicalization")) := hret
  have N0 := Fr.nil n0
  have ef : entryFrame m #[(.ref a)] 1 = mkF m 0 #[.val (.ref a)] [] := by first | (simp [entryFrame, mkF, argsToLocals, Value.category]; done) | rfl
  refine own_step (S' := (s₁.setTop (mkF m 0 #[.val (.ref a)] []))) (fun _ k => castTop ef k) ?_
  refine own_step (S' := (s₁.setTop (mkF m 1 #[.val (.ref a)] [(.ref a)]))) (fun _ k => XS.aloadN X0.here hx rfl (hb hby d2_0) rfl rfl k) ?_
  obtain ⟨_, T22, L22, X22, ⟨rfl, N22q, e22⟩, st22⟩ := own_virtUp (owner := "java/lang/Enum") (argsL := []) (rest := []) X0 hx hZ hown (hw _ (List.mem_of_getElem? (i := 13) rfl)) (hw _ (List.mem_of_getElem? (i := 14) rfl)) (hw _ (List.mem_of_getElem? (i := 15) rfl)) (by decide) (hw _ (List.mem_of_getElem? (i := 17) rfl)) (hw _ (List.mem_of_getElem? (i := 16) rfl)) (hw _ (List.mem_of_getElem? (i := 19) rfl)) (hw _ (List.mem_of_getElem? (i := 18) rfl)) e0 E (hM := rmO l Z a0 hw [] a (4 : Int32) h0 n0 Z0 F) (g := (mkF m 1 #[.val (.ref a)] [(.ref a)])) (hg := rfl) (hsize := by rw [hml]; rfl) (hlen := lenOf pd_0 rfl) (hstack := rfl) (W := 0) (hW := by show 2 * 0 + _ ≤ _; exact Nat.le_of_eq rfl) (hd := (hb hby d2_1)) (hf := by decide) (hl := by decide) (hc := by decide) (hs := by decide)
  have N22 := Fr.app N0 N22q
  refine own_step (S' := (T22.setTop (mkF m 4 #[.val (.ref a)] [(.int (4 : Int32))]))) (fun _ k => st22 _ k) ?_
  refine own_step (S' := (T22.setTop (mkF m 58 #[.val (.ref a)] []))) (fun _ k => XS.tswIn X22.here hx rfl (pc0 := 4) (pc' := 58) (o := 54) rfl (hb hby d2_4) rfl (by decide) (by decide) (by decide) (by decide) k) ?_
  refine own_step (S' := (T22.setTop (mkF m 59 #[.val (.ref a)] [(.ref a)]))) (fun _ k => XS.aloadN X22.here hx rfl (hb hby d2_58) rfl rfl k) ?_
  refine own_retA X22 hx hlk hret rfl rfl rfl (hb hby d2_59) (by decide) (by decide) ?_
  try rw [e22]
  exact ⟨rfl, N22, rfl⟩
set_option maxRecDepth 65536 in
set_option maxHeartbeats 40000000 in
theorem rmW_5 (l : Launch) (Z : State) (a0 : Array Value) (hw : ∀ d ∈ tables_1, d.before a0 Z = true) (ws : List Jvm.Cond) (a w : Addr)  (h0 : Heap) (n0 : Nat) (Z0 : n0 ≤ h0.size) (F : Fld Z h0 a "java/lang/Enum" "ordinal" "I" (.int (5 : Int32))) (E : Exa Z h0 a "com/example/ratatoskr/ratatoskr/Canonicalization") (S : Sta Z h0 "com/example/ratatoskr/ratatoskr/Canonicalization" "EXCLUSIVE" "Lcom/example/ratatoskr/ratatoskr/Canonicalization;" (.ref w)) :
    own_Met l (⟨"com/example/ratatoskr/ratatoskr/Canonicalization", "withoutComments", "()Lcom/example/ratatoskr/ratatoskr/Canonicalization;"⟩ : MethodName) prog_2_method_8_code 1 (some (.object "com/example/ratatoskr/ratatoskr/Canonicalization")) ws ({ frames := 1, cells := 0, slots := 0, locals := 12 } : Room) Z #[(.ref a)] h0 (fun v h L => v = some (.ref w) ∧ Fr n0 L ∧ h = h0) := by
  refine own_body (plainFor_of_name pn_1) ?_
  intro p e s m below meth c s₁ X0 hx hby hml hown hnm hret hlk hZ e0
  replace hown : s.vm.findClass "com/example/ratatoskr/ratatoskr/Canonicalization" = some m.cls := hown
  replace hml : c.maxLocals = 1 := hml
  replace hret : meth.sig.returnType = (some (.object "com/example/ratatoskr/ratatoskr/Canonicalization")) := hret
  have N0 := Fr.nil n0
  have ef : entryFrame m #[(.ref a)] 1 = mkF m 0 #[.val (.ref a)] [] := by first | (simp [entryFrame, mkF, argsToLocals, Value.category]; done) | rfl
  refine own_step (S' := (s₁.setTop (mkF m 0 #[.val (.ref a)] []))) (fun _ k => castTop ef k) ?_
  refine own_step (S' := (s₁.setTop (mkF m 1 #[.val (.ref a)] [(.ref a)]))) (fun _ k => XS.aloadN X0.here hx rfl (hb hby d2_0) rfl rfl k) ?_
  obtain ⟨_, T23, L23, X23, ⟨rfl, N23q, e23⟩, st23⟩ := own_virtUp (owner := "java/lang/Enum") (argsL := []) (rest := []) X0 hx hZ hown (hw _ (List.mem_of_getElem? (i := 13) rfl)) (hw _ (List.mem_of_getElem? (i := 14) rfl)) (hw _ (List.mem_of_getElem? (i := 15) rfl)) (by decide) (hw _ (List.mem_of_getElem? (i := 17) rfl)) (hw _ (List.mem_of_getElem? (i := 16) rfl)) (hw _ (List.mem_of_getElem? (i := 19) rfl)) (hw _ (List.mem_of_getElem? (i := 18) rfl)) e0 E (hM := rmO l Z a0 hw [] a (5 : Int32) h0 n0 Z0 F) (g := (mkF m 1 #[.val (.ref a)] [(.ref a)])) (hg := rfl) (hsize := by rw [hml]; rfl) (hlen := lenOf pd_0 rfl) (hstack := rfl) (W := 0) (hW := by show 2 * 0 + _ ≤ _; exact Nat.le_of_eq rfl) (hd := (hb hby d2_1)) (hf := by decide) (hl := by decide) (hc := by decide) (hs := by decide)
  have N23 := Fr.app N0 N23q
  refine own_step (S' := (T23.setTop (mkF m 4 #[.val (.ref a)] [(.int (5 : Int32))]))) (fun _ k => st23 _ k) ?_
  refine own_step (S' := (T23.setTop (mkF m 52 #[.val (.ref a)] []))) (fun _ k => XS.tswIn X23.here hx rfl (pc0 := 4) (pc' := 52) (o := 48) rfl (hb hby d2_4) rfl (by decide) (by decide) (by decide) (by decide) k) ?_
  obtain ⟨T24, X24, e24, st24⟩ := getS2 X23 hx hZ hown (host := "") (Or.inl (hw _ (List.mem_of_getElem? (i := 50) rfl))) Via.refl e23 S (g := (mkF m 52 #[.val (.ref a)] [])) rfl (hb hby d2_52)
  refine own_step (S' := (T24.setTop (mkF m 55 #[.val (.ref a)] [(.ref w)]))) (fun _ k => st24 _ k) ?_
  refine own_step (S' := (T24.setTop (mkF m 59 #[.val (.ref a)] [(.ref w)]))) (fun _ k => XS.goto X24.here hx rfl (pc0 := 55) (pc' := 59) rfl (hb hby d2_55) (by decide) (by decide) k) ?_
  refine own_retA X24 hx hlk hret rfl rfl rfl (hb hby d2_59) (by decide) (by decide) ?_
  try rw [e24]
  exact ⟨rfl, N23, rfl⟩
theorem own_rem6 (p1 : Int32) : ((p1 &&& (2147483647 : Int32)) % (6 : Int32)) = (0 : Int32) ∨ ((p1 &&& (2147483647 : Int32)) % (6 : Int32)) = (1 : Int32) ∨ ((p1 &&& (2147483647 : Int32)) % (6 : Int32)) = (2 : Int32) ∨ ((p1 &&& (2147483647 : Int32)) % (6 : Int32)) = (3 : Int32) ∨ ((p1 &&& (2147483647 : Int32)) % (6 : Int32)) = (4 : Int32) ∨ ((p1 &&& (2147483647 : Int32)) % (6 : Int32)) = (5 : Int32) := by
  have h1 := c_mask p1 2147483647 31 (by decide) (by decide)
  have h2 := (c_irem (p1 &&& (2147483647 : Int32)) 6 6 (by decide)).1
  simp only [← Int32.toInt_inj]
  have e0 : (0 : Int32).toInt = 0 := by decide
  have e1 : (1 : Int32).toInt = 1 := by decide
  have e2 : (2 : Int32).toInt = 2 := by decide
  have e3 : (3 : Int32).toInt = 3 := by decide
  have e4 : (4 : Int32).toInt = 4 := by decide
  have e5 : (5 : Int32).toInt = 5 := by decide
  rw [e0, e1, e2, e3, e4, e5]
  omega
theorem pd_1 : parseMethodDescriptor "(I)Lcom/example/ratatoskr/ratatoskr/Canonicalization;" = some ⟨[.int], some (.object "com/example/ratatoskr/ratatoskr/Canonicalization")⟩ := by decide +kernel
theorem pd_2 : parseMethodDescriptor "()Lcom/example/ratatoskr/ratatoskr/Canonicalization;" = some ⟨[], some (.object "com/example/ratatoskr/ratatoskr/Canonicalization")⟩ := by decide +kernel
theorem pd_3 : parseMethodDescriptor "()Z" = some ⟨[], some .boolean⟩ := by decide +kernel
set_option maxRecDepth 65536 in
set_option maxHeartbeats 40000000 in
theorem rm0 (l : Launch) (Z : State) (a0 : Array Value) (hw : ∀ d ∈ tables_1, d.before a0 Z = true) (ws : List Jvm.Cond) (a_Canonicalization_INCLUSIVE a_Kind_INCLUSIVE a_Kind_EXCLUSIVE a_Kind_INCLUSIVE_11 a_Canonicalization_INCLUSIVE_11_WITH_COMMENTS a_Canonicalization_INCLUSIVE_11 a_Canonicalization_INCLUSIVE_WITH_COMMENTS a_Canonicalization_EXCLUSIVE_WITH_COMMENTS a_Canonicalization_EXCLUSIVE : Addr) (p1 : Int32) (h0 : Heap) (n0 : Nat) (Z0 : n0 ≤ h0.size) (S_Canonicalization_INCLUSIVE : Sta Z h0 "com/example/ratatoskr/ratatoskr/Canonicalization" "INCLUSIVE" "Lcom/example/ratatoskr/ratatoskr/Canonicalization;" (.ref a_Canonicalization_INCLUSIVE)) (E_Canonicalization_INCLUSIVE : Exa Z h0 a_Canonicalization_INCLUSIVE "com/example/ratatoskr/ratatoskr/Canonicalization") (S_Kind_INCLUSIVE : Sta Z h0 "com/example/ratatoskr/ratatoskr/Canonicalization$Kind" "INCLUSIVE" "Lcom/example/ratatoskr/ratatoskr/Canonicalization$Kind;" (.ref a_Kind_INCLUSIVE)) (E_Kind_INCLUSIVE : Exa Z h0 a_Kind_INCLUSIVE "com/example/ratatoskr/ratatoskr/Canonicalization$Kind") (S_Kind_EXCLUSIVE : Sta Z h0 "com/example/ratatoskr/ratatoskr/Canonicalization$Kind" "EXCLUSIVE" "Lcom/example/ratatoskr/ratatoskr/Canonicalization$Kind;" (.ref a_Kind_EXCLUSIVE)) (E_Kind_EXCLUSIVE : Exa Z h0 a_Kind_EXCLUSIVE "com/example/ratatoskr/ratatoskr/Canonicalization$Kind") (S_Kind_INCLUSIVE_11 : Sta Z h0 "com/example/ratatoskr/ratatoskr/Canonicalization$Kind" "INCLUSIVE_11" "Lcom/example/ratatoskr/ratatoskr/Canonicalization$Kind;" (.ref a_Kind_INCLUSIVE_11)) (E_Kind_INCLUSIVE_11 : Exa Z h0 a_Kind_INCLUSIVE_11 "com/example/ratatoskr/ratatoskr/Canonicalization$Kind") (S_Canonicalization_INCLUSIVE_11_WITH_COMMENTS : Sta Z h0 "com/example/ratatoskr/ratatoskr/Canonicalization" "INCLUSIVE_11_WITH_COMMENTS" "Lcom/example/ratatoskr/ratatoskr/Canonicalization;" (.ref a_Canonicalization_INCLUSIVE_11_WITH_COMMENTS)) (E_Canonicalization_INCLUSIVE_11_WITH_COMMENTS : Exa Z h0 a_Canonicalization_INCLUSIVE_11_WITH_COMMENTS "com/example/ratatoskr/ratatoskr/Canonicalization") (S_Canonicalization_INCLUSIVE_11 : Sta Z h0 "com/example/ratatoskr/ratatoskr/Canonicalization" "INCLUSIVE_11" "Lcom/example/ratatoskr/ratatoskr/Canonicalization;" (.ref a_Canonicalization_INCLUSIVE_11)) (E_Canonicalization_INCLUSIVE_11 : Exa Z h0 a_Canonicalization_INCLUSIVE_11 "com/example/ratatoskr/ratatoskr/Canonicalization") (S_Canonicalization_INCLUSIVE_WITH_COMMENTS : Sta Z h0 "com/example/ratatoskr/ratatoskr/Canonicalization" "INCLUSIVE_WITH_COMMENTS" "Lcom/example/ratatoskr/ratatoskr/Canonicalization;" (.ref a_Canonicalization_INCLUSIVE_WITH_COMMENTS)) (E_Canonicalization_INCLUSIVE_WITH_COMMENTS : Exa Z h0 a_Canonicalization_INCLUSIVE_WITH_COMMENTS "com/example/ratatoskr/ratatoskr/Canonicalization") (S_Canonicalization_EXCLUSIVE_WITH_COMMENTS : Sta Z h0 "com/example/ratatoskr/ratatoskr/Canonicalization" "EXCLUSIVE_WITH_COMMENTS" "Lcom/example/ratatoskr/ratatoskr/Canonicalization;" (.ref a_Canonicalization_EXCLUSIVE_WITH_COMMENTS)) (E_Canonicalization_EXCLUSIVE_WITH_COMMENTS : Exa Z h0 a_Canonicalization_EXCLUSIVE_WITH_COMMENTS "com/example/ratatoskr/ratatoskr/Canonicalization") (S_Canonicalization_EXCLUSIVE : Sta Z h0 "com/example/ratatoskr/ratatoskr/Canonicalization" "EXCLUSIVE" "Lcom/example/ratatoskr/ratatoskr/Canonicalization;" (.ref a_Canonicalization_EXCLUSIVE)) (E_Canonicalization_EXCLUSIVE : Exa Z h0 a_Canonicalization_EXCLUSIVE "com/example/ratatoskr/ratatoskr/Canonicalization") (F_Canonicalization_INCLUSIVE_ordinal : Fld Z h0 a_Canonicalization_INCLUSIVE "java/lang/Enum" "ordinal" "I" (.int (0 : Int32))) (F_Canonicalization_INCLUSIVE_kind : Fld Z h0 a_Canonicalization_INCLUSIVE "com/example/ratatoskr/ratatoskr/Canonicalization" "kind" "Lcom/example/ratatoskr/ratatoskr/Canonicalization$Kind;" (.ref a_Kind_INCLUSIVE)) (F_Kind_INCLUSIVE_ordinal : Fld Z h0 a_Kind_INCLUSIVE "java/lang/Enum" "ordinal" "I" (.int (0 : Int32))) (F_Kind_EXCLUSIVE_ordinal : Fld Z h0 a_Kind_EXCLUSIVE "java/lang/Enum" "ordinal" "I" (.int (2 : Int32))) (F_Kind_INCLUSIVE_11_ordinal : Fld Z h0 a_Kind_INCLUSIVE_11 "java/lang/Enum" "ordinal" "I" (.int (1 : Int32))) (F_Canonicalization_INCLUSIVE_11_WITH_COMMENTS_ordinal : Fld Z h0 a_Canonicalization_INCLUSIVE_11_WITH_COMMENTS "java/lang/Enum" "ordinal" "I" (.int (3 : Int32))) (F_Canonicalization_INCLUSIVE_11_ordinal : Fld Z h0 a_Canonicalization_INCLUSIVE_11 "java/lang/Enum" "ordinal" "I" (.int (2 : Int32))) (F_Canonicalization_INCLUSIVE_11_kind : Fld Z h0 a_Canonicalization_INCLUSIVE_11 "com/example/ratatoskr/ratatoskr/Canonicalization" "kind" "Lcom/example/ratatoskr/ratatoskr/Canonicalization$Kind;" (.ref a_Kind_INCLUSIVE_11)) (F_Canonicalization_INCLUSIVE_11_WITH_COMMENTS_kind : Fld Z h0 a_Canonicalization_INCLUSIVE_11_WITH_COMMENTS "com/example/ratatoskr/ratatoskr/Canonicalization" "kind" "Lcom/example/ratatoskr/ratatoskr/Canonicalization$Kind;" (.ref a_Kind_INCLUSIVE_11)) (F_Canonicalization_INCLUSIVE_WITH_COMMENTS_ordinal : Fld Z h0 a_Canonicalization_INCLUSIVE_WITH_COMMENTS "java/lang/Enum" "ordinal" "I" (.int (1 : Int32))) (F_Canonicalization_INCLUSIVE_WITH_COMMENTS_kind : Fld Z h0 a_Canonicalization_INCLUSIVE_WITH_COMMENTS "com/example/ratatoskr/ratatoskr/Canonicalization" "kind" "Lcom/example/ratatoskr/ratatoskr/Canonicalization$Kind;" (.ref a_Kind_INCLUSIVE)) (F_Canonicalization_EXCLUSIVE_WITH_COMMENTS_ordinal : Fld Z h0 a_Canonicalization_EXCLUSIVE_WITH_COMMENTS "java/lang/Enum" "ordinal" "I" (.int (5 : Int32))) (F_Canonicalization_EXCLUSIVE_ordinal : Fld Z h0 a_Canonicalization_EXCLUSIVE "java/lang/Enum" "ordinal" "I" (.int (4 : Int32))) (F_Canonicalization_EXCLUSIVE_kind : Fld Z h0 a_Canonicalization_EXCLUSIVE "com/example/ratatoskr/ratatoskr/Canonicalization" "kind" "Lcom/example/ratatoskr/ratatoskr/Canonicalization$Kind;" (.ref a_Kind_EXCLUSIVE)) (F_Canonicalization_EXCLUSIVE_WITH_COMMENTS_kind : Fld Z h0 a_Canonicalization_EXCLUSIVE_WITH_COMMENTS "com/example/ratatoskr/ratatoskr/Canonicalization" "kind" "Lcom/example/ratatoskr/ratatoskr/Canonicalization$Kind;" (.ref a_Kind_EXCLUSIVE)) :
    own_Met l x code maxLocals ret ws room_1 Z #[(.int p1)] h0 (fun v h L => v = some (.int 1) ∧ Fr n0 L) := by
  refine own_body (plainFor_of_name pn_0) ?_
  intro p e s m below meth c s₁ X0 hx hby hml hown hnm hret hlk hZ e0
  replace hown : s.vm.findClass "com/example/ratatoskr/ratatoskr/CanonicalizationWithoutCommentsPinLaw" = some m.cls := hown
  replace hml : c.maxLocals = 7 := hml
  replace hret : meth.sig.returnType = (some .boolean) := hret
  have N0 := Fr.nil n0
  have ef : entryFrame m #[(.int p1)] maxLocals = mkF m 0 #[.val (.int p1), .unset, .unset, .unset, .unset, .unset, .unset] [] := by first | (simp [entryFrame, mkF, argsToLocals, Value.category, maxLocals]; done) | rfl
  refine own_step (S' := (s₁.setTop (mkF m 0 #[.val (.int p1), .unset, .unset, .unset, .unset, .unset, .unset] []))) (fun _ k => castTop ef k) ?_
  refine own_step (S' := (s₁.setTop (mkF m 1 #[.val (.int p1), .unset, .unset, .unset, .unset, .unset, .unset] [(.int p1)]))) (fun _ k => XS.iloadN X0.here hx rfl (hb hby at_0) rfl k) ?_
  refine own_step (S' := (s₁.setTop (mkF m 3 #[.val (.int p1), .unset, .unset, .unset, .unset, .unset, .unset] [(.int (2147483647 : Int32)), (.int p1)]))) (fun _ k => X0.ldcInt hx hown (mvT hZ (hw _ (List.mem_of_getElem? (i := 0) rfl))) (g := (mkF m 1 #[.val (.int p1), .unset, .unset, .unset, .unset, .unset, .unset] [(.int p1)])) rfl (hb hby at_1) _ k) ?_
  refine own_step (S' := (s₁.setTop (mkF m 4 #[.val (.int p1), .unset, .unset, .unset, .unset, .unset, .unset] [(.int (p1 &&& (2147483647 : Int32)))]))) (fun _ k => XS.iand X0.here hx rfl (hb hby at_3) rfl k) ?_
  refine own_step (S' := (s₁.setTop (mkF m 6 #[.val (.int p1), .unset, .unset, .unset, .unset, .unset, .unset] [(.int (6 : Int32)), (.int (p1 &&& (2147483647 : Int32)))]))) (fun _ k => XS.bipush X0.here hx rfl (hb hby at_4) k) ?_
  refine own_step (S' := (s₁.setTop (mkF m 7 #[.val (.int p1), .unset, .unset, .unset, .unset, .unset, .unset] [(.int ((p1 &&& (2147483647 : Int32)) % (6 : Int32)))]))) (fun _ k => iremM X0 hx rfl (hb hby at_6) rfl (by decide) k) ?_
  rcases own_rem6 p1 with hr25 | hr25 | hr25 | hr25 | hr25 | hr25
  · rw [hr25]
    refine own_step (S' := (s₁.setTop (mkF m 8 #[.val (.int p1), .val (.int (0 : Int32)), .unset, .unset, .unset, .unset, .unset] []))) (fun _ k => XS.istoreN X0.here hx rfl (hb hby at_7) rfl (l' := #[.val (.int p1), .val (.int (0 : Int32)), .unset, .unset, .unset, .unset, .unset]) rfl k) ?_
    refine own_step (S' := (s₁.setTop (mkF m 9 #[.val (.int p1), .val (.int (0 : Int32)), .unset, .unset, .unset, .unset, .unset] [(.int (0 : Int32))]))) (fun _ k => XS.iloadN X0.here hx rfl (hb hby at_8) rfl k) ?_
    obtain ⟨_, T26, L26, X26, ⟨rfl, N26q, e26⟩, st26⟩ := own_stat (argsL := [(.int (0 : Int32))]) (rest := []) X0 hx hZ hown (hw _ (List.mem_of_getElem? (i := 1) rfl)) (hw _ (List.mem_of_getElem? (i := 2) rfl)) (by decide) (hw _ (List.mem_of_getElem? (i := 4) rfl)) (hw _ (List.mem_of_getElem? (i := 3) rfl)) e0 (hM := rmP_0 l Z a0 hw [] a_Canonicalization_INCLUSIVE h0 n0 Z0 S_Canonicalization_INCLUSIVE) (g := (mkF m 9 #[.val (.int p1), .val (.int (0 : Int32)), .unset, .unset, .unset, .unset, .unset] [(.int (0 : Int32))])) (hg := rfl) (hsize := by rw [hml]; rfl) (hlen := lenOf pd_1 rfl) (hstack := rfl) (W := 0) (hW := by show 2 * 0 + _ ≤ _; exact Nat.le_of_eq rfl) (hd := (hb hby at_9)) (hf := by decide) (hl := by decide) (hc := by decide) (hs := by decide)
    have N26 := Fr.app N0 N26q
    refine own_step (S' := (T26.setTop (mkF m 12 #[.val (.int p1), .val (.int (0 : Int32)), .unset, .unset, .unset, .unset, .unset] [(.ref a_Canonicalization_INCLUSIVE)]))) (fun _ k => st26 _ k) ?_
    refine own_step (S' := (T26.setTop (mkF m 13 #[.val (.int p1), .val (.int (0 : Int32)), .val (.ref a_Canonicalization_INCLUSIVE), .unset, .unset, .unset, .unset] []))) (fun _ k => XS.astoreN X26.here hx rfl (hb hby at_12) rfl rfl (l' := #[.val (.int p1), .val (.int (0 : Int32)), .val (.ref a_Canonicalization_INCLUSIVE), .unset, .unset, .unset, .unset]) rfl k) ?_
    refine own_step (S' := (T26.setTop (mkF m 14 #[.val (.int p1), .val (.int (0 : Int32)), .val (.ref a_Canonicalization_INCLUSIVE), .unset, .unset, .unset, .unset] [(.ref a_Canonicalization_INCLUSIVE)]))) (fun _ k => XS.aloadN X26.here hx rfl (hb hby at_13) rfl rfl k) ?_
    obtain ⟨_, T27, L27, X27, ⟨rfl, N27q, e27⟩, st27⟩ := own_virt (argsL := []) (rest := []) X26 hx hZ hown (hw _ (List.mem_of_getElem? (i := 8) rfl)) (hw _ (List.mem_of_getElem? (i := 9) rfl)) (notFace_of_selects (args := #[]) (mvT hZ (hw _ (List.mem_of_getElem? (i := 11) rfl)))) (hw _ (List.mem_of_getElem? (i := 11) rfl)) (hw _ (List.mem_of_getElem? (i := 10) rfl)) (by decide) (hw _ (List.mem_of_getElem? (i := 12) rfl)) (hw _ (List.mem_of_getElem? (i := 6) rfl)) e26 E_Canonicalization_INCLUSIVE (hM := rmW_0 l Z a0 hw [] a_Canonicalization_INCLUSIVE h0 n0 Z0 F_Canonicalization_INCLUSIVE_ordinal E_Canonicalization_INCLUSIVE) (g := (mkF m 14 #[.val (.int p1), .val (.int (0 : Int32)), .val (.ref a_Canonicalization_INCLUSIVE), .unset, .unset, .unset, .unset] [(.ref a_Canonicalization_INCLUSIVE)])) (hg := rfl) (hsize := by rw [hml]; rfl) (hlen := lenOf pd_2 rfl) (hstack := rfl) (W := 0) (hW := by show 2 * 0 + _ ≤ _; exact Nat.le_of_eq rfl) (hd := (hb hby at_14)) (hf := by decide) (hl := by decide) (hc := by decide) (hs := by decide)
    have N27 := Fr.app N26 N27q
    refine own_step (S' := (T27.setTop (mkF m 17 #[.val (.int p1), .val (.int (0 : Int32)), .val (.ref a_Canonicalization_INCLUSIVE), .unset, .unset, .unset, .unset] [(.ref a_Canonicalization_INCLUSIVE)]))) (fun _ k => st27 _ k) ?_
    refine own_step (S' := (T27.setTop (mkF m 18 #[.val (.int p1), .val (.int (0 : Int32)), .val (.ref a_Canonicalization_INCLUSIVE), .val (.ref a_Canonicalization_INCLUSIVE), .unset, .unset, .unset] []))) (fun _ k => XS.astoreN X27.here hx rfl (hb hby at_17) rfl rfl (l' := #[.val (.int p1), .val (.int (0 : Int32)), .val (.ref a_Canonicalization_INCLUSIVE), .val (.ref a_Canonicalization_INCLUSIVE), .unset, .unset, .unset]) rfl k) ?_
    refine own_step (S' := (T27.setTop (mkF m 19 #[.val (.int p1), .val (.int (0 : Int32)), .val (.ref a_Canonicalization_INCLUSIVE), .val (.ref a_Canonicalization_INCLUSIVE), .unset, .unset, .unset] [(.ref a_Canonicalization_INCLUSIVE)]))) (fun _ k => XS.aloadN X27.here hx rfl (hb hby at_18) rfl rfl k) ?_
    refine own_step (S' := (T27.setTop (mkF m 24 #[.val (.int p1), .val (.int (0 : Int32)), .val (.ref a_Canonicalization_INCLUSIVE), .val (.ref a_Canonicalization_INCLUSIVE), .unset, .unset, .unset] []))) (fun _ k => XS.ifnonnullYes X27.here hx rfl (pc0 := 19) (pc' := 24) rfl (hb hby at_19) rfl (by decide) (by decide) k) ?_
    refine own_step (S' := (T27.setTop (mkF m 25 #[.val (.int p1), .val (.int (0 : Int32)), .val (.ref a_Canonicalization_INCLUSIVE), .val (.ref a_Canonicalization_INCLUSIVE), .unset, .unset, .unset] [(.ref a_Canonicalization_INCLUSIVE)]))) (fun _ k => XS.aloadN X27.here hx rfl (hb hby at_24) rfl rfl k) ?_
    obtain ⟨T28, X28, e28, st28⟩ := getS2 X27 hx hZ hown (host := "") (Or.inl (hw _ (List.mem_of_getElem? (i := 5) rfl))) Via.refl e27 S_Canonicalization_INCLUSIVE (g := (mkF m 25 #[.val (.int p1), .val (.int (0 : Int32)), .val (.ref a_Canonicalization_INCLUSIVE), .val (.ref a_Canonicalization_INCLUSIVE), .unset, .unset, .unset] [(.ref a_Canonicalization_INCLUSIVE)])) rfl (hb hby at_25)
    refine own_step (S' := (T28.setTop (mkF m 28 #[.val (.int p1), .val (.int (0 : Int32)), .val (.ref a_Canonicalization_INCLUSIVE), .val (.ref a_Canonicalization_INCLUSIVE), .unset, .unset, .unset] [(.ref a_Canonicalization_INCLUSIVE), (.ref a_Canonicalization_INCLUSIVE)]))) (fun _ k => st28 _ k) ?_
    refine own_step (S' := (T28.setTop (mkF m 45 #[.val (.int p1), .val (.int (0 : Int32)), .val (.ref a_Canonicalization_INCLUSIVE), .val (.ref a_Canonicalization_INCLUSIVE), .unset, .unset, .unset] []))) (fun _ k => Jvm.RoadKit.acmp (g := (mkF m 28 #[.val (.int p1), .val (.int (0 : Int32)), .val (.ref a_Canonicalization_INCLUSIVE), .val (.ref a_Canonicalization_INCLUSIVE), .unset, .unset, .unset] [(.ref a_Canonicalization_INCLUSIVE), (.ref a_Canonicalization_INCLUSIVE)])) X28 hx rfl rfl rfl (pc0 := 28) (pc' := 45) (same := true) rfl (hb hby at_28) rfl (decide_eq_true rfl) (by decide) (by decide) k) ?_
    refine own_step (S' := (T28.setTop (mkF m 46 #[.val (.int p1), .val (.int (0 : Int32)), .val (.ref a_Canonicalization_INCLUSIVE), .val (.ref a_Canonicalization_INCLUSIVE), .unset, .unset, .unset] [(.int (1 : Int32))]))) (fun _ k => XS.iconst X28.here hx rfl (hb hby at_45) k) ?_
    refine own_step (S' := (T28.setTop (mkF m 50 #[.val (.int p1), .val (.int (0 : Int32)), .val (.ref a_Canonicalization_INCLUSIVE), .val (.ref a_Canonicalization_INCLUSIVE), .unset, .unset, .unset] [(.int (1 : Int32))]))) (fun _ k => XS.goto X28.here hx rfl (pc0 := 46) (pc' := 50) rfl (hb hby at_46) (by decide) (by decide) k) ?_
    refine own_step (S' := (T28.setTop (mkF m 52 #[.val (.int p1), .val (.int (0 : Int32)), .val (.ref a_Canonicalization_INCLUSIVE), .val (.ref a_Canonicalization_INCLUSIVE), .val (.int (1 : Int32)), .unset, .unset] []))) (fun _ k => XS.istore X28.here hx rfl (hb hby at_50) rfl (l' := #[.val (.int p1), .val (.int (0 : Int32)), .val (.ref a_Canonicalization_INCLUSIVE), .val (.ref a_Canonicalization_INCLUSIVE), .val (.int (1 : Int32)), .unset, .unset]) rfl k) ?_
    refine own_step (S' := (T28.setTop (mkF m 53 #[.val (.int p1), .val (.int (0 : Int32)), .val (.ref a_Canonicalization_INCLUSIVE), .val (.ref a_Canonicalization_INCLUSIVE), .val (.int (1 : Int32)), .unset, .unset] [(.ref a_Canonicalization_INCLUSIVE)]))) (fun _ k => XS.aloadN X28.here hx rfl (hb hby at_52) rfl rfl k) ?_
    obtain ⟨_, T29, L29, X29, ⟨rfl, N29q, e29⟩, st29⟩ := own_virt (argsL := []) (rest := []) X28 hx hZ hown (hw _ (List.mem_of_getElem? (i := 22) rfl)) (hw _ (List.mem_of_getElem? (i := 23) rfl)) (notFace_of_selects (args := #[]) (mvT hZ (hw _ (List.mem_of_getElem? (i := 25) rfl)))) (hw _ (List.mem_of_getElem? (i := 25) rfl)) (hw _ (List.mem_of_getElem? (i := 24) rfl)) (by decide) (hw _ (List.mem_of_getElem? (i := 26) rfl)) (hw _ (List.mem_of_getElem? (i := 6) rfl)) e28 E_Canonicalization_INCLUSIVE (hM := rmX_0 l Z a0 hw [] a_Canonicalization_INCLUSIVE a_Kind_INCLUSIVE a_Kind_EXCLUSIVE h0 n0 Z0 F_Canonicalization_INCLUSIVE_kind S_Kind_EXCLUSIVE (Fld.ne F_Kind_INCLUSIVE_ordinal F_Kind_EXCLUSIVE_ordinal (by decide))) (g := (mkF m 53 #[.val (.int p1), .val (.int (0 : Int32)), .val (.ref a_Canonicalization_INCLUSIVE), .val (.ref a_Canonicalization_INCLUSIVE), .val (.int (1 : Int32)), .unset, .unset] [(.ref a_Canonicalization_INCLUSIVE)])) (hg := rfl) (hsize := by rw [hml]; rfl) (hlen := lenOf pd_3 rfl) (hstack := rfl) (W := 0) (hW := by show 2 * 0 + _ ≤ _; exact Nat.le_of_eq rfl) (hd := (hb hby at_53)) (hf := by decide) (hl := by decide) (hc := by decide) (hs := by decide)
    have N29 := Fr.app N27 N29q
    refine own_step (S' := (T29.setTop (mkF m 56 #[.val (.int p1), .val (.int (0 : Int32)), .val (.ref a_Canonicalization_INCLUSIVE), .val (.ref a_Canonicalization_INCLUSIVE), .val (.int (1 : Int32)), .unset, .unset] [(.int (0 : Int32))]))) (fun _ k => st29 _ k) ?_
    refine own_step (S' := (T29.setTop (mkF m 57 #[.val (.int p1), .val (.int (0 : Int32)), .val (.ref a_Canonicalization_INCLUSIVE), .val (.ref a_Canonicalization_INCLUSIVE), .val (.int (1 : Int32)), .unset, .unset] [(.ref a_Canonicalization_INCLUSIVE), (.int (0 : Int32))]))) (fun _ k => XS.aloadN X29.here hx rfl (hb hby at_56) rfl rfl k) ?_
    obtain ⟨_, T30, L30, X30, ⟨rfl, N30q, e30⟩, st30⟩ := own_virt (argsL := []) (rest := [(.int (0 : Int32))]) X29 hx hZ hown (hw _ (List.mem_of_getElem? (i := 22) rfl)) (hw _ (List.mem_of_getElem? (i := 23) rfl)) (notFace_of_selects (args := #[]) (mvT hZ (hw _ (List.mem_of_getElem? (i := 25) rfl)))) (hw _ (List.mem_of_getElem? (i := 25) rfl)) (hw _ (List.mem_of_getElem? (i := 24) rfl)) (by decide) (hw _ (List.mem_of_getElem? (i := 26) rfl)) (hw _ (List.mem_of_getElem? (i := 6) rfl)) e29 E_Canonicalization_INCLUSIVE (hM := rmX_0 l Z a0 hw [] a_Canonicalization_INCLUSIVE a_Kind_INCLUSIVE a_Kind_EXCLUSIVE h0 n0 Z0 F_Canonicalization_INCLUSIVE_kind S_Kind_EXCLUSIVE (Fld.ne F_Kind_INCLUSIVE_ordinal F_Kind_EXCLUSIVE_ordinal (by decide))) (g := (mkF m 57 #[.val (.int p1), .val (.int (0 : Int32)), .val (.ref a_Canonicalization_INCLUSIVE), .val (.ref a_Canonicalization_INCLUSIVE), .val (.int (1 : Int32)), .unset, .unset] [(.ref a_Canonicalization_INCLUSIVE), (.int (0 : Int32))])) (hg := rfl) (hsize := by rw [hml]; rfl) (hlen := lenOf pd_3 rfl) (hstack := rfl) (W := 1) (hW := by show 2 * 0 + _ ≤ _; exact Nat.le_of_eq rfl) (hd := (hb hby at_57)) (hf := by decide) (hl := by decide) (hc := by decide) (hs := by decide)
    have N30 := Fr.app N29 N30q
    refine own_step (S' := (T30.setTop (mkF m 60 #[.val (.int p1), .val (.int (0 : Int32)), .val (.ref a_Canonicalization_INCLUSIVE), .val (.ref a_Canonicalization_INCLUSIVE), .val (.int (1 : Int32)), .unset, .unset] [(.int (0 : Int32)), (.int (0 : Int32))]))) (fun _ k => st30 _ k) ?_
    refine own_step (S' := (T30.setTop (mkF m 63 #[.val (.int p1), .val (.int (0 : Int32)), .val (.ref a_Canonicalization_INCLUSIVE), .val (.ref a_Canonicalization_INCLUSIVE), .val (.int (1 : Int32)), .unset, .unset] []))) (fun _ k => XS.icmpNo X30.here hx rfl (hb hby at_60) rfl (teq (by decide : (0 : Int32) = (0 : Int32))).2 k) ?_
    refine own_step (S' := (T30.setTop (mkF m 64 #[.val (.int p1), .val (.int (0 : Int32)), .val (.ref a_Canonicalization_INCLUSIVE), .val (.ref a_Canonicalization_INCLUSIVE), .val (.int (1 : Int32)), .unset, .unset] [(.ref a_Canonicalization_INCLUSIVE)]))) (fun _ k => XS.aloadN X30.here hx rfl (hb hby at_63) rfl rfl k) ?_
    obtain ⟨_, T31, L31, X31, ⟨rfl, N31q, e31⟩, st31⟩ := own_virt (argsL := []) (rest := []) X30 hx hZ hown (hw _ (List.mem_of_getElem? (i := 33) rfl)) (hw _ (List.mem_of_getElem? (i := 34) rfl)) (notFace_of_selects (args := #[]) (mvT hZ (hw _ (List.mem_of_getElem? (i := 36) rfl)))) (hw _ (List.mem_of_getElem? (i := 36) rfl)) (hw _ (List.mem_of_getElem? (i := 35) rfl)) (by decide) (hw _ (List.mem_of_getElem? (i := 37) rfl)) (hw _ (List.mem_of_getElem? (i := 6) rfl)) e30 E_Canonicalization_INCLUSIVE (hM := rmS_1 l Z a0 hw [] a_Canonicalization_INCLUSIVE a_Kind_INCLUSIVE a_Kind_INCLUSIVE_11 h0 n0 Z0 F_Canonicalization_INCLUSIVE_kind S_Kind_INCLUSIVE_11 (Fld.ne F_Kind_INCLUSIVE_ordinal F_Kind_INCLUSIVE_11_ordinal (by decide))) (g := (mkF m 64 #[.val (.int p1), .val (.int (0 : Int32)), .val (.ref a_Canonicalization_INCLUSIVE), .val (.ref a_Canonicalization_INCLUSIVE), .val (.int (1 : Int32)), .unset, .unset] [(.ref a_Canonicalization_INCLUSIVE)])) (hg := rfl) (hsize := by rw [hml]; rfl) (hlen := lenOf pd_3 rfl) (hstack := rfl) (W := 0) (hW := by show 2 * 0 + _ ≤ _; exact Nat.le_of_eq rfl) (hd := (hb hby at_64)) (hf := by decide) (hl := by decide) (hc := by decide) (hs := by decide)
    have N31 := Fr.app N30 N31q
    refine own_step (S' := (T31.setTop (mkF m 67 #[.val (.int p1), .val (.int (0 : Int32)), .val (.ref a_Canonicalization_INCLUSIVE), .val (.ref a_Canonicalization_INCLUSIVE), .val (.int (1 : Int32)), .unset, .unset] [(.int (1 : Int32))]))) (fun _ k => st31 _ k) ?_
    refine own_step (S' := (T31.setTop (mkF m 68 #[.val (.int p1), .val (.int (0 : Int32)), .val (.ref a_Canonicalization_INCLUSIVE), .val (.ref a_Canonicalization_INCLUSIVE), .val (.int (1 : Int32)), .unset, .unset] [(.ref a_Canonicalization_INCLUSIVE), (.int (1 : Int32))]))) (fun _ k => XS.aloadN X31.here hx rfl (hb hby at_67) rfl rfl k) ?_
    obtain ⟨_, T32, L32, X32, ⟨rfl, N32q, e32⟩, st32⟩ := own_virt (argsL := []) (rest := [(.int (1 : Int32))]) X31 hx hZ hown (hw _ (List.mem_of_getElem? (i := 33) rfl)) (hw _ (List.mem_of_getElem? (i := 34) rfl)) (notFace_of_selects (args := #[]) (mvT hZ (hw _ (List.mem_of_getElem? (i := 36) rfl)))) (hw _ (List.mem_of_getElem? (i := 36) rfl)) (hw _ (List.mem_of_getElem? (i := 35) rfl)) (by decide) (hw _ (List.mem_of_getElem? (i := 37) rfl)) (hw _ (List.mem_of_getElem? (i := 6) rfl)) e31 E_Canonicalization_INCLUSIVE (hM := rmS_1 l Z a0 hw [] a_Canonicalization_INCLUSIVE a_Kind_INCLUSIVE a_Kind_INCLUSIVE_11 h0 n0 Z0 F_Canonicalization_INCLUSIVE_kind S_Kind_INCLUSIVE_11 (Fld.ne F_Kind_INCLUSIVE_ordinal F_Kind_INCLUSIVE_11_ordinal (by decide))) (g := (mkF m 68 #[.val (.int p1), .val (.int (0 : Int32)), .val (.ref a_Canonicalization_INCLUSIVE), .val (.ref a_Canonicalization_INCLUSIVE), .val (.int (1 : Int32)), .unset, .unset] [(.ref a_Canonicalization_INCLUSIVE), (.int (1 : Int32))])) (hg := rfl) (hsize := by rw [hml]; rfl) (hlen := lenOf pd_3 rfl) (hstack := rfl) (W := 1) (hW := by show 2 * 0 + _ ≤ _; exact Nat.le_of_eq rfl) (hd := (hb hby at_68)) (hf := by decide) (hl := by decide) (hc := by decide) (hs := by decide)
    have N32 := Fr.app N31 N32q
    refine own_step (S' := (T32.setTop (mkF m 71 #[.val (.int p1), .val (.int (0 : Int32)), .val (.ref a_Canonicalization_INCLUSIVE), .val (.ref a_Canonicalization_INCLUSIVE), .val (.int (1 : Int32)), .unset, .unset] [(.int (1 : Int32)), (.int (1 : Int32))]))) (fun _ k => st32 _ k) ?_
    refine own_step (S' := (T32.setTop (mkF m 74 #[.val (.int p1), .val (.int (0 : Int32)), .val (.ref a_Canonicalization_INCLUSIVE), .val (.ref a_Canonicalization_INCLUSIVE), .val (.int (1 : Int32)), .unset, .unset] []))) (fun _ k => XS.icmpNo X32.here hx rfl (hb hby at_71) rfl (teq (by decide : (1 : Int32) = (1 : Int32))).2 k) ?_
    refine own_step (S' := (T32.setTop (mkF m 75 #[.val (.int p1), .val (.int (0 : Int32)), .val (.ref a_Canonicalization_INCLUSIVE), .val (.ref a_Canonicalization_INCLUSIVE), .val (.int (1 : Int32)), .unset, .unset] [(.int (1 : Int32))]))) (fun _ k => XS.iconst X32.here hx rfl (hb hby at_74) k) ?_
    refine own_step (S' := (T32.setTop (mkF m 79 #[.val (.int p1), .val (.int (0 : Int32)), .val (.ref a_Canonicalization_INCLUSIVE), .val (.ref a_Canonicalization_INCLUSIVE), .val (.int (1 : Int32)), .unset, .unset] [(.int (1 : Int32))]))) (fun _ k => XS.goto X32.here hx rfl (pc0 := 75) (pc' := 79) rfl (hb hby at_75) (by decide) (by decide) k) ?_
    refine own_step (S' := (T32.setTop (mkF m 81 #[.val (.int p1), .val (.int (0 : Int32)), .val (.ref a_Canonicalization_INCLUSIVE), .val (.ref a_Canonicalization_INCLUSIVE), .val (.int (1 : Int32)), .val (.int (1 : Int32)), .unset] []))) (fun _ k => XS.istore X32.here hx rfl (hb hby at_79) rfl (l' := #[.val (.int p1), .val (.int (0 : Int32)), .val (.ref a_Canonicalization_INCLUSIVE), .val (.ref a_Canonicalization_INCLUSIVE), .val (.int (1 : Int32)), .val (.int (1 : Int32)), .unset]) rfl k) ?_
    refine own_step (S' := (T32.setTop (mkF m 82 #[.val (.int p1), .val (.int (0 : Int32)), .val (.ref a_Canonicalization_INCLUSIVE), .val (.ref a_Canonicalization_INCLUSIVE), .val (.int (1 : Int32)), .val (.int (1 : Int32)), .unset] [(.ref a_Canonicalization_INCLUSIVE)]))) (fun _ k => XS.aloadN X32.here hx rfl (hb hby at_81) rfl rfl k) ?_
    obtain ⟨_, T33, L33, X33, ⟨rfl, N33q, e33⟩, st33⟩ := own_virt (argsL := []) (rest := []) X32 hx hZ hown (hw _ (List.mem_of_getElem? (i := 8) rfl)) (hw _ (List.mem_of_getElem? (i := 9) rfl)) (notFace_of_selects (args := #[]) (mvT hZ (hw _ (List.mem_of_getElem? (i := 11) rfl)))) (hw _ (List.mem_of_getElem? (i := 11) rfl)) (hw _ (List.mem_of_getElem? (i := 10) rfl)) (by decide) (hw _ (List.mem_of_getElem? (i := 12) rfl)) (hw _ (List.mem_of_getElem? (i := 6) rfl)) e32 E_Canonicalization_INCLUSIVE (hM := rmW_0 l Z a0 hw [] a_Canonicalization_INCLUSIVE h0 n0 Z0 F_Canonicalization_INCLUSIVE_ordinal E_Canonicalization_INCLUSIVE) (g := (mkF m 82 #[.val (.int p1), .val (.int (0 : Int32)), .val (.ref a_Canonicalization_INCLUSIVE), .val (.ref a_Canonicalization_INCLUSIVE), .val (.int (1 : Int32)), .val (.int (1 : Int32)), .unset] [(.ref a_Canonicalization_INCLUSIVE)])) (hg := rfl) (hsize := by rw [hml]; rfl) (hlen := lenOf pd_2 rfl) (hstack := rfl) (W := 0) (hW := by show 2 * 0 + _ ≤ _; exact Nat.le_of_eq rfl) (hd := (hb hby at_82)) (hf := by decide) (hl := by decide) (hc := by decide) (hs := by decide)
    have N33 := Fr.app N32 N33q
    refine own_step (S' := (T33.setTop (mkF m 85 #[.val (.int p1), .val (.int (0 : Int32)), .val (.ref a_Canonicalization_INCLUSIVE), .val (.ref a_Canonicalization_INCLUSIVE), .val (.int (1 : Int32)), .val (.int (1 : Int32)), .unset] [(.ref a_Canonicalization_INCLUSIVE)]))) (fun _ k => st33 _ k) ?_
    refine own_step (S' := (T33.setTop (mkF m 86 #[.val (.int p1), .val (.int (0 : Int32)), .val (.ref a_Canonicalization_INCLUSIVE), .val (.ref a_Canonicalization_INCLUSIVE), .val (.int (1 : Int32)), .val (.int (1 : Int32)), .unset] [(.ref a_Canonicalization_INCLUSIVE), (.ref a_Canonicalization_INCLUSIVE)]))) (fun _ k => XS.aloadN X33.here hx rfl (hb hby at_85) rfl rfl k) ?_
    refine own_step (S' := (T33.setTop (mkF m 89 #[.val (.int p1), .val (.int (0 : Int32)), .val (.ref a_Canonicalization_INCLUSIVE), .val (.ref a_Canonicalization_INCLUSIVE), .val (.int (1 : Int32)), .val (.int (1 : Int32)), .unset] []))) (fun _ k => Jvm.RoadKit.acmp (g := (mkF m 86 #[.val (.int p1), .val (.int (0 : Int32)), .val (.ref a_Canonicalization_INCLUSIVE), .val (.ref a_Canonicalization_INCLUSIVE), .val (.int (1 : Int32)), .val (.int (1 : Int32)), .unset] [(.ref a_Canonicalization_INCLUSIVE), (.ref a_Canonicalization_INCLUSIVE)])) X33 hx rfl rfl rfl (pc0 := 86) (pc' := 89) (same := true) rfl (hb hby at_86) rfl (decide_eq_true rfl) (by decide) (by decide) k) ?_
    refine own_step (S' := (T33.setTop (mkF m 90 #[.val (.int p1), .val (.int (0 : Int32)), .val (.ref a_Canonicalization_INCLUSIVE), .val (.ref a_Canonicalization_INCLUSIVE), .val (.int (1 : Int32)), .val (.int (1 : Int32)), .unset] [(.int (1 : Int32))]))) (fun _ k => XS.iconst X33.here hx rfl (hb hby at_89) k) ?_
    refine own_step (S' := (T33.setTop (mkF m 94 #[.val (.int p1), .val (.int (0 : Int32)), .val (.ref a_Canonicalization_INCLUSIVE), .val (.ref a_Canonicalization_INCLUSIVE), .val (.int (1 : Int32)), .val (.int (1 : Int32)), .unset] [(.int (1 : Int32))]))) (fun _ k => XS.goto X33.here hx rfl (pc0 := 90) (pc' := 94) rfl (hb hby at_90) (by decide) (by decide) k) ?_
    refine own_step (S' := (T33.setTop (mkF m 96 #[.val (.int p1), .val (.int (0 : Int32)), .val (.ref a_Canonicalization_INCLUSIVE), .val (.ref a_Canonicalization_INCLUSIVE), .val (.int (1 : Int32)), .val (.int (1 : Int32)), .val (.int (1 : Int32))] []))) (fun _ k => XS.istore X33.here hx rfl (hb hby at_94) rfl (l' := #[.val (.int p1), .val (.int (0 : Int32)), .val (.ref a_Canonicalization_INCLUSIVE), .val (.ref a_Canonicalization_INCLUSIVE), .val (.int (1 : Int32)), .val (.int (1 : Int32)), .val (.int (1 : Int32))]) rfl k) ?_
    refine own_step (S' := (T33.setTop (mkF m 98 #[.val (.int p1), .val (.int (0 : Int32)), .val (.ref a_Canonicalization_INCLUSIVE), .val (.ref a_Canonicalization_INCLUSIVE), .val (.int (1 : Int32)), .val (.int (1 : Int32)), .val (.int (1 : Int32))] [(.int (1 : Int32))]))) (fun _ k => XS.iload X33.here hx rfl (hb hby at_96) rfl k) ?_
    refine own_step (S' := (T33.setTop (mkF m 101 #[.val (.int p1), .val (.int (0 : Int32)), .val (.ref a_Canonicalization_INCLUSIVE), .val (.ref a_Canonicalization_INCLUSIVE), .val (.int (1 : Int32)), .val (.int (1 : Int32)), .val (.int (1 : Int32))] []))) (fun _ k => XS.ifNo X33.here hx rfl (hb hby at_98) rfl ((if0 _ _).trans (feq (by decide : ¬ ((1 : Int32) = (0 : Int32)))).1) k) ?_
    refine own_step (S' := (T33.setTop (mkF m 103 #[.val (.int p1), .val (.int (0 : Int32)), .val (.ref a_Canonicalization_INCLUSIVE), .val (.ref a_Canonicalization_INCLUSIVE), .val (.int (1 : Int32)), .val (.int (1 : Int32)), .val (.int (1 : Int32))] [(.int (1 : Int32))]))) (fun _ k => XS.iload X33.here hx rfl (hb hby at_101) rfl k) ?_
    refine own_step (S' := (T33.setTop (mkF m 106 #[.val (.int p1), .val (.int (0 : Int32)), .val (.ref a_Canonicalization_INCLUSIVE), .val (.ref a_Canonicalization_INCLUSIVE), .val (.int (1 : Int32)), .val (.int (1 : Int32)), .val (.int (1 : Int32))] []))) (fun _ k => XS.ifNo X33.here hx rfl (hb hby at_103) rfl ((if0 _ _).trans (feq (by decide : ¬ ((1 : Int32) = (0 : Int32)))).1) k) ?_
    refine own_step (S' := (T33.setTop (mkF m 108 #[.val (.int p1), .val (.int (0 : Int32)), .val (.ref a_Canonicalization_INCLUSIVE), .val (.ref a_Canonicalization_INCLUSIVE), .val (.int (1 : Int32)), .val (.int (1 : Int32)), .val (.int (1 : Int32))] [(.int (1 : Int32))]))) (fun _ k => XS.iload X33.here hx rfl (hb hby at_106) rfl k) ?_
    refine own_step (S' := (T33.setTop (mkF m 111 #[.val (.int p1), .val (.int (0 : Int32)), .val (.ref a_Canonicalization_INCLUSIVE), .val (.ref a_Canonicalization_INCLUSIVE), .val (.int (1 : Int32)), .val (.int (1 : Int32)), .val (.int (1 : Int32))] []))) (fun _ k => XS.ifNo X33.here hx rfl (hb hby at_108) rfl ((if0 _ _).trans (feq (by decide : ¬ ((1 : Int32) = (0 : Int32)))).1) k) ?_
    refine own_step (S' := (T33.setTop (mkF m 112 #[.val (.int p1), .val (.int (0 : Int32)), .val (.ref a_Canonicalization_INCLUSIVE), .val (.ref a_Canonicalization_INCLUSIVE), .val (.int (1 : Int32)), .val (.int (1 : Int32)), .val (.int (1 : Int32))] [(.int (1 : Int32))]))) (fun _ k => XS.iconst X33.here hx rfl (hb hby at_111) k) ?_
    refine own_step (S' := (T33.setTop (mkF m 116 #[.val (.int p1), .val (.int (0 : Int32)), .val (.ref a_Canonicalization_INCLUSIVE), .val (.ref a_Canonicalization_INCLUSIVE), .val (.int (1 : Int32)), .val (.int (1 : Int32)), .val (.int (1 : Int32))] [(.int (1 : Int32))]))) (fun _ k => XS.goto X33.here hx rfl (pc0 := 112) (pc' := 116) rfl (hb hby at_112) (by decide) (by decide) k) ?_
    refine own_retN X33 hx hlk hret (by simp) (by decide) (hb hby at_116) (by decide) (by decide) ?_
    try rw [e33]
    exact ⟨rfl, N33⟩
  · rw [hr25]
    refine own_step (S' := (s₁.setTop (mkF m 8 #[.val (.int p1), .val (.int (1 : Int32)), .unset, .unset, .unset, .unset, .unset] []))) (fun _ k => XS.istoreN X0.here hx rfl (hb hby at_7) rfl (l' := #[.val (.int p1), .val (.int (1 : Int32)), .unset, .unset, .unset, .unset, .unset]) rfl k) ?_
    refine own_step (S' := (s₁.setTop (mkF m 9 #[.val (.int p1), .val (.int (1 : Int32)), .unset, .unset, .unset, .unset, .unset] [(.int (1 : Int32))]))) (fun _ k => XS.iloadN X0.here hx rfl (hb hby at_8) rfl k) ?_
    obtain ⟨_, T34, L34, X34, ⟨rfl, N34q, e34⟩, st34⟩ := own_stat (argsL := [(.int (1 : Int32))]) (rest := []) X0 hx hZ hown (hw _ (List.mem_of_getElem? (i := 1) rfl)) (hw _ (List.mem_of_getElem? (i := 2) rfl)) (by decide) (hw _ (List.mem_of_getElem? (i := 4) rfl)) (hw _ (List.mem_of_getElem? (i := 3) rfl)) e0 (hM := rmP_1 l Z a0 hw [] a_Canonicalization_INCLUSIVE_WITH_COMMENTS h0 n0 Z0 S_Canonicalization_INCLUSIVE_WITH_COMMENTS) (g := (mkF m 9 #[.val (.int p1), .val (.int (1 : Int32)), .unset, .unset, .unset, .unset, .unset] [(.int (1 : Int32))])) (hg := rfl) (hsize := by rw [hml]; rfl) (hlen := lenOf pd_1 rfl) (hstack := rfl) (W := 0) (hW := by show 2 * 0 + _ ≤ _; exact Nat.le_of_eq rfl) (hd := (hb hby at_9)) (hf := by decide) (hl := by decide) (hc := by decide) (hs := by decide)
    have N34 := Fr.app N0 N34q
    refine own_step (S' := (T34.setTop (mkF m 12 #[.val (.int p1), .val (.int (1 : Int32)), .unset, .unset, .unset, .unset, .unset] [(.ref a_Canonicalization_INCLUSIVE_WITH_COMMENTS)]))) (fun _ k => st34 _ k) ?_
    refine own_step (S' := (T34.setTop (mkF m 13 #[.val (.int p1), .val (.int (1 : Int32)), .val (.ref a_Canonicalization_INCLUSIVE_WITH_COMMENTS), .unset, .unset, .unset, .unset] []))) (fun _ k => XS.astoreN X34.here hx rfl (hb hby at_12) rfl rfl (l' := #[.val (.int p1), .val (.int (1 : Int32)), .val (.ref a_Canonicalization_INCLUSIVE_WITH_COMMENTS), .unset, .unset, .unset, .unset]) rfl k) ?_
    refine own_step (S' := (T34.setTop (mkF m 14 #[.val (.int p1), .val (.int (1 : Int32)), .val (.ref a_Canonicalization_INCLUSIVE_WITH_COMMENTS), .unset, .unset, .unset, .unset] [(.ref a_Canonicalization_INCLUSIVE_WITH_COMMENTS)]))) (fun _ k => XS.aloadN X34.here hx rfl (hb hby at_13) rfl rfl k) ?_
    obtain ⟨_, T35, L35, X35, ⟨rfl, N35q, e35⟩, st35⟩ := own_virt (argsL := []) (rest := []) X34 hx hZ hown (hw _ (List.mem_of_getElem? (i := 8) rfl)) (hw _ (List.mem_of_getElem? (i := 9) rfl)) (notFace_of_selects (args := #[]) (mvT hZ (hw _ (List.mem_of_getElem? (i := 11) rfl)))) (hw _ (List.mem_of_getElem? (i := 11) rfl)) (hw _ (List.mem_of_getElem? (i := 10) rfl)) (by decide) (hw _ (List.mem_of_getElem? (i := 12) rfl)) (hw _ (List.mem_of_getElem? (i := 6) rfl)) e34 E_Canonicalization_INCLUSIVE_WITH_COMMENTS (hM := rmW_1 l Z a0 hw [] a_Canonicalization_INCLUSIVE_WITH_COMMENTS a_Canonicalization_INCLUSIVE h0 n0 Z0 F_Canonicalization_INCLUSIVE_WITH_COMMENTS_ordinal E_Canonicalization_INCLUSIVE_WITH_COMMENTS S_Canonicalization_INCLUSIVE) (g := (mkF m 14 #[.val (.int p1), .val (.int (1 : Int32)), .val (.ref a_Canonicalization_INCLUSIVE_WITH_COMMENTS), .unset, .unset, .unset, .unset] [(.ref a_Canonicalization_INCLUSIVE_WITH_COMMENTS)])) (hg := rfl) (hsize := by rw [hml]; rfl) (hlen := lenOf pd_2 rfl) (hstack := rfl) (W := 0) (hW := by show 2 * 0 + _ ≤ _; exact Nat.le_of_eq rfl) (hd := (hb hby at_14)) (hf := by decide) (hl := by decide) (hc := by decide) (hs := by decide)
    have N35 := Fr.app N34 N35q
    refine own_step (S' := (T35.setTop (mkF m 17 #[.val (.int p1), .val (.int (1 : Int32)), .val (.ref a_Canonicalization_INCLUSIVE_WITH_COMMENTS), .unset, .unset, .unset, .unset] [(.ref a_Canonicalization_INCLUSIVE)]))) (fun _ k => st35 _ k) ?_
    refine own_step (S' := (T35.setTop (mkF m 18 #[.val (.int p1), .val (.int (1 : Int32)), .val (.ref a_Canonicalization_INCLUSIVE_WITH_COMMENTS), .val (.ref a_Canonicalization_INCLUSIVE), .unset, .unset, .unset] []))) (fun _ k => XS.astoreN X35.here hx rfl (hb hby at_17) rfl rfl (l' := #[.val (.int p1), .val (.int (1 : Int32)), .val (.ref a_Canonicalization_INCLUSIVE_WITH_COMMENTS), .val (.ref a_Canonicalization_INCLUSIVE), .unset, .unset, .unset]) rfl k) ?_
    refine own_step (S' := (T35.setTop (mkF m 19 #[.val (.int p1), .val (.int (1 : Int32)), .val (.ref a_Canonicalization_INCLUSIVE_WITH_COMMENTS), .val (.ref a_Canonicalization_INCLUSIVE), .unset, .unset, .unset] [(.ref a_Canonicalization_INCLUSIVE)]))) (fun _ k => XS.aloadN X35.here hx rfl (hb hby at_18) rfl rfl k) ?_
    refine own_step (S' := (T35.setTop (mkF m 24 #[.val (.int p1), .val (.int (1 : Int32)), .val (.ref a_Canonicalization_INCLUSIVE_WITH_COMMENTS), .val (.ref a_Canonicalization_INCLUSIVE), .unset, .unset, .unset] []))) (fun _ k => XS.ifnonnullYes X35.here hx rfl (pc0 := 19) (pc' := 24) rfl (hb hby at_19) rfl (by decide) (by decide) k) ?_
    refine own_step (S' := (T35.setTop (mkF m 25 #[.val (.int p1), .val (.int (1 : Int32)), .val (.ref a_Canonicalization_INCLUSIVE_WITH_COMMENTS), .val (.ref a_Canonicalization_INCLUSIVE), .unset, .unset, .unset] [(.ref a_Canonicalization_INCLUSIVE)]))) (fun _ k => XS.aloadN X35.here hx rfl (hb hby at_24) rfl rfl k) ?_
    obtain ⟨T36, X36, e36, st36⟩ := getS2 X35 hx hZ hown (host := "") (Or.inl (hw _ (List.mem_of_getElem? (i := 5) rfl))) Via.refl e35 S_Canonicalization_INCLUSIVE (g := (mkF m 25 #[.val (.int p1), .val (.int (1 : Int32)), .val (.ref a_Canonicalization_INCLUSIVE_WITH_COMMENTS), .val (.ref a_Canonicalization_INCLUSIVE), .unset, .unset, .unset] [(.ref a_Canonicalization_INCLUSIVE)])) rfl (hb hby at_25)
    refine own_step (S' := (T36.setTop (mkF m 28 #[.val (.int p1), .val (.int (1 : Int32)), .val (.ref a_Canonicalization_INCLUSIVE_WITH_COMMENTS), .val (.ref a_Canonicalization_INCLUSIVE), .unset, .unset, .unset] [(.ref a_Canonicalization_INCLUSIVE), (.ref a_Canonicalization_INCLUSIVE)]))) (fun _ k => st36 _ k) ?_
    refine own_step (S' := (T36.setTop (mkF m 45 #[.val (.int p1), .val (.int (1 : Int32)), .val (.ref a_Canonicalization_INCLUSIVE_WITH_COMMENTS), .val (.ref a_Canonicalization_INCLUSIVE), .unset, .unset, .unset] []))) (fun _ k => Jvm.RoadKit.acmp (g := (mkF m 28 #[.val (.int p1), .val (.int (1 : Int32)), .val (.ref a_Canonicalization_INCLUSIVE_WITH_COMMENTS), .val (.ref a_Canonicalization_INCLUSIVE), .unset, .unset, .unset] [(.ref a_Canonicalization_INCLUSIVE), (.ref a_Canonicalization_INCLUSIVE)])) X36 hx rfl rfl rfl (pc0 := 28) (pc' := 45) (same := true) rfl (hb hby at_28) rfl (decide_eq_true rfl) (by decide) (by decide) k) ?_
    refine own_step (S' := (T36.setTop (mkF m 46 #[.val (.int p1), .val (.int (1 : Int32)), .val (.ref a_Canonicalization_INCLUSIVE_WITH_COMMENTS), .val (.ref a_Canonicalization_INCLUSIVE), .unset, .unset, .unset] [(.int (1 : Int32))]))) (fun _ k => XS.iconst X36.here hx rfl (hb hby at_45) k) ?_
    refine own_step (S' := (T36.setTop (mkF m 50 #[.val (.int p1), .val (.int (1 : Int32)), .val (.ref a_Canonicalization_INCLUSIVE_WITH_COMMENTS), .val (.ref a_Canonicalization_INCLUSIVE), .unset, .unset, .unset] [(.int (1 : Int32))]))) (fun _ k => XS.goto X36.here hx rfl (pc0 := 46) (pc' := 50) rfl (hb hby at_46) (by decide) (by decide) k) ?_
    refine own_step (S' := (T36.setTop (mkF m 52 #[.val (.int p1), .val (.int (1 : Int32)), .val (.ref a_Canonicalization_INCLUSIVE_WITH_COMMENTS), .val (.ref a_Canonicalization_INCLUSIVE), .val (.int (1 : Int32)), .unset, .unset] []))) (fun _ k => XS.istore X36.here hx rfl (hb hby at_50) rfl (l' := #[.val (.int p1), .val (.int (1 : Int32)), .val (.ref a_Canonicalization_INCLUSIVE_WITH_COMMENTS), .val (.ref a_Canonicalization_INCLUSIVE), .val (.int (1 : Int32)), .unset, .unset]) rfl k) ?_
    refine own_step (S' := (T36.setTop (mkF m 53 #[.val (.int p1), .val (.int (1 : Int32)), .val (.ref a_Canonicalization_INCLUSIVE_WITH_COMMENTS), .val (.ref a_Canonicalization_INCLUSIVE), .val (.int (1 : Int32)), .unset, .unset] [(.ref a_Canonicalization_INCLUSIVE)]))) (fun _ k => XS.aloadN X36.here hx rfl (hb hby at_52) rfl rfl k) ?_
    obtain ⟨_, T37, L37, X37, ⟨rfl, N37q, e37⟩, st37⟩ := own_virt (argsL := []) (rest := []) X36 hx hZ hown (hw _ (List.mem_of_getElem? (i := 22) rfl)) (hw _ (List.mem_of_getElem? (i := 23) rfl)) (notFace_of_selects (args := #[]) (mvT hZ (hw _ (List.mem_of_getElem? (i := 25) rfl)))) (hw _ (List.mem_of_getElem? (i := 25) rfl)) (hw _ (List.mem_of_getElem? (i := 24) rfl)) (by decide) (hw _ (List.mem_of_getElem? (i := 26) rfl)) (hw _ (List.mem_of_getElem? (i := 6) rfl)) e36 E_Canonicalization_INCLUSIVE (hM := rmX_0 l Z a0 hw [] a_Canonicalization_INCLUSIVE a_Kind_INCLUSIVE a_Kind_EXCLUSIVE h0 n0 Z0 F_Canonicalization_INCLUSIVE_kind S_Kind_EXCLUSIVE (Fld.ne F_Kind_INCLUSIVE_ordinal F_Kind_EXCLUSIVE_ordinal (by decide))) (g := (mkF m 53 #[.val (.int p1), .val (.int (1 : Int32)), .val (.ref a_Canonicalization_INCLUSIVE_WITH_COMMENTS), .val (.ref a_Canonicalization_INCLUSIVE), .val (.int (1 : Int32)), .unset, .unset] [(.ref a_Canonicalization_INCLUSIVE)])) (hg := rfl) (hsize := by rw [hml]; rfl) (hlen := lenOf pd_3 rfl) (hstack := rfl) (W := 0) (hW := by show 2 * 0 + _ ≤ _; exact Nat.le_of_eq rfl) (hd := (hb hby at_53)) (hf := by decide) (hl := by decide) (hc := by decide) (hs := by decide)
    have N37 := Fr.app N35 N37q
    refine own_step (S' := (T37.setTop (mkF m 56 #[.val (.int p1), .val (.int (1 : Int32)), .val (.ref a_Canonicalization_INCLUSIVE_WITH_COMMENTS), .val (.ref a_Canonicalization_INCLUSIVE), .val (.int (1 : Int32)), .unset, .unset] [(.int (0 : Int32))]))) (fun _ k => st37 _ k) ?_
    refine own_step (S' := (T37.setTop (mkF m 57 #[.val (.int p1), .val (.int (1 : Int32)), .val (.ref a_Canonicalization_INCLUSIVE_WITH_COMMENTS), .val (.ref a_Canonicalization_INCLUSIVE), .val (.int (1 : Int32)), .unset, .unset] [(.ref a_Canonicalization_INCLUSIVE_WITH_COMMENTS), (.int (0 : Int32))]))) (fun _ k => XS.aloadN X37.here hx rfl (hb hby at_56) rfl rfl k) ?_
    obtain ⟨_, T38, L38, X38, ⟨rfl, N38q, e38⟩, st38⟩ := own_virt (argsL := []) (rest := [(.int (0 : Int32))]) X37 hx hZ hown (hw _ (List.mem_of_getElem? (i := 22) rfl)) (hw _ (List.mem_of_getElem? (i := 23) rfl)) (notFace_of_selects (args := #[]) (mvT hZ (hw _ (List.mem_of_getElem? (i := 25) rfl)))) (hw _ (List.mem_of_getElem? (i := 25) rfl)) (hw _ (List.mem_of_getElem? (i := 24) rfl)) (by decide) (hw _ (List.mem_of_getElem? (i := 26) rfl)) (hw _ (List.mem_of_getElem? (i := 6) rfl)) e37 E_Canonicalization_INCLUSIVE_WITH_COMMENTS (hM := rmX_0 l Z a0 hw [] a_Canonicalization_INCLUSIVE_WITH_COMMENTS a_Kind_INCLUSIVE a_Kind_EXCLUSIVE h0 n0 Z0 F_Canonicalization_INCLUSIVE_WITH_COMMENTS_kind S_Kind_EXCLUSIVE (Fld.ne F_Kind_INCLUSIVE_ordinal F_Kind_EXCLUSIVE_ordinal (by decide))) (g := (mkF m 57 #[.val (.int p1), .val (.int (1 : Int32)), .val (.ref a_Canonicalization_INCLUSIVE_WITH_COMMENTS), .val (.ref a_Canonicalization_INCLUSIVE), .val (.int (1 : Int32)), .unset, .unset] [(.ref a_Canonicalization_INCLUSIVE_WITH_COMMENTS), (.int (0 : Int32))])) (hg := rfl) (hsize := by rw [hml]; rfl) (hlen := lenOf pd_3 rfl) (hstack := rfl) (W := 1) (hW := by show 2 * 0 + _ ≤ _; exact Nat.le_of_eq rfl) (hd := (hb hby at_57)) (hf := by decide) (hl := by decide) (hc := by decide) (hs := by decide)
    have N38 := Fr.app N37 N38q
    refine own_step (S' := (T38.setTop (mkF m 60 #[.val (.int p1), .val (.int (1 : Int32)), .val (.ref a_Canonicalization_INCLUSIVE_WITH_COMMENTS), .val (.ref a_Canonicalization_INCLUSIVE), .val (.int (1 : Int32)), .unset, .unset] [(.int (0 : Int32)), (.int (0 : Int32))]))) (fun _ k => st38 _ k) ?_
    refine own_step (S' := (T38.setTop (mkF m 63 #[.val (.int p1), .val (.int (1 : Int32)), .val (.ref a_Canonicalization_INCLUSIVE_WITH_COMMENTS), .val (.ref a_Canonicalization_INCLUSIVE), .val (.int (1 : Int32)), .unset, .unset] []))) (fun _ k => XS.icmpNo X38.here hx rfl (hb hby at_60) rfl (teq (by decide : (0 : Int32) = (0 : Int32))).2 k) ?_
    refine own_step (S' := (T38.setTop (mkF m 64 #[.val (.int p1), .val (.int (1 : Int32)), .val (.ref a_Canonicalization_INCLUSIVE_WITH_COMMENTS), .val (.ref a_Canonicalization_INCLUSIVE), .val (.int (1 : Int32)), .unset, .unset] [(.ref a_Canonicalization_INCLUSIVE)]))) (fun _ k => XS.aloadN X38.here hx rfl (hb hby at_63) rfl rfl k) ?_
    obtain ⟨_, T39, L39, X39, ⟨rfl, N39q, e39⟩, st39⟩ := own_virt (argsL := []) (rest := []) X38 hx hZ hown (hw _ (List.mem_of_getElem? (i := 33) rfl)) (hw _ (List.mem_of_getElem? (i := 34) rfl)) (notFace_of_selects (args := #[]) (mvT hZ (hw _ (List.mem_of_getElem? (i := 36) rfl)))) (hw _ (List.mem_of_getElem? (i := 36) rfl)) (hw _ (List.mem_of_getElem? (i := 35) rfl)) (by decide) (hw _ (List.mem_of_getElem? (i := 37) rfl)) (hw _ (List.mem_of_getElem? (i := 6) rfl)) e38 E_Canonicalization_INCLUSIVE (hM := rmS_1 l Z a0 hw [] a_Canonicalization_INCLUSIVE a_Kind_INCLUSIVE a_Kind_INCLUSIVE_11 h0 n0 Z0 F_Canonicalization_INCLUSIVE_kind S_Kind_INCLUSIVE_11 (Fld.ne F_Kind_INCLUSIVE_ordinal F_Kind_INCLUSIVE_11_ordinal (by decide))) (g := (mkF m 64 #[.val (.int p1), .val (.int (1 : Int32)), .val (.ref a_Canonicalization_INCLUSIVE_WITH_COMMENTS), .val (.ref a_Canonicalization_INCLUSIVE), .val (.int (1 : Int32)), .unset, .unset] [(.ref a_Canonicalization_INCLUSIVE)])) (hg := rfl) (hsize := by rw [hml]; rfl) (hlen := lenOf pd_3 rfl) (hstack := rfl) (W := 0) (hW := by show 2 * 0 + _ ≤ _; exact Nat.le_of_eq rfl) (hd := (hb hby at_64)) (hf := by decide) (hl := by decide) (hc := by decide) (hs := by decide)
    have N39 := Fr.app N38 N39q
    refine own_step (S' := (T39.setTop (mkF m 67 #[.val (.int p1), .val (.int (1 : Int32)), .val (.ref a_Canonicalization_INCLUSIVE_WITH_COMMENTS), .val (.ref a_Canonicalization_INCLUSIVE), .val (.int (1 : Int32)), .unset, .unset] [(.int (1 : Int32))]))) (fun _ k => st39 _ k) ?_
    refine own_step (S' := (T39.setTop (mkF m 68 #[.val (.int p1), .val (.int (1 : Int32)), .val (.ref a_Canonicalization_INCLUSIVE_WITH_COMMENTS), .val (.ref a_Canonicalization_INCLUSIVE), .val (.int (1 : Int32)), .unset, .unset] [(.ref a_Canonicalization_INCLUSIVE_WITH_COMMENTS), (.int (1 : Int32))]))) (fun _ k => XS.aloadN X39.here hx rfl (hb hby at_67) rfl rfl k) ?_
    obtain ⟨_, T40, L40, X40, ⟨rfl, N40q, e40⟩, st40⟩ := own_virt (argsL := []) (rest := [(.int (1 : Int32))]) X39 hx hZ hown (hw _ (List.mem_of_getElem? (i := 33) rfl)) (hw _ (List.mem_of_getElem? (i := 34) rfl)) (notFace_of_selects (args := #[]) (mvT hZ (hw _ (List.mem_of_getElem? (i := 36) rfl)))) (hw _ (List.mem_of_getElem? (i := 36) rfl)) (hw _ (List.mem_of_getElem? (i := 35) rfl)) (by decide) (hw _ (List.mem_of_getElem? (i := 37) rfl)) (hw _ (List.mem_of_getElem? (i := 6) rfl)) e39 E_Canonicalization_INCLUSIVE_WITH_COMMENTS (hM := rmS_1 l Z a0 hw [] a_Canonicalization_INCLUSIVE_WITH_COMMENTS a_Kind_INCLUSIVE a_Kind_INCLUSIVE_11 h0 n0 Z0 F_Canonicalization_INCLUSIVE_WITH_COMMENTS_kind S_Kind_INCLUSIVE_11 (Fld.ne F_Kind_INCLUSIVE_ordinal F_Kind_INCLUSIVE_11_ordinal (by decide))) (g := (mkF m 68 #[.val (.int p1), .val (.int (1 : Int32)), .val (.ref a_Canonicalization_INCLUSIVE_WITH_COMMENTS), .val (.ref a_Canonicalization_INCLUSIVE), .val (.int (1 : Int32)), .unset, .unset] [(.ref a_Canonicalization_INCLUSIVE_WITH_COMMENTS), (.int (1 : Int32))])) (hg := rfl) (hsize := by rw [hml]; rfl) (hlen := lenOf pd_3 rfl) (hstack := rfl) (W := 1) (hW := by show 2 * 0 + _ ≤ _; exact Nat.le_of_eq rfl) (hd := (hb hby at_68)) (hf := by decide) (hl := by decide) (hc := by decide) (hs := by decide)
    have N40 := Fr.app N39 N40q
    refine own_step (S' := (T40.setTop (mkF m 71 #[.val (.int p1), .val (.int (1 : Int32)), .val (.ref a_Canonicalization_INCLUSIVE_WITH_COMMENTS), .val (.ref a_Canonicalization_INCLUSIVE), .val (.int (1 : Int32)), .unset, .unset] [(.int (1 : Int32)), (.int (1 : Int32))]))) (fun _ k => st40 _ k) ?_
    refine own_step (S' := (T40.setTop (mkF m 74 #[.val (.int p1), .val (.int (1 : Int32)), .val (.ref a_Canonicalization_INCLUSIVE_WITH_COMMENTS), .val (.ref a_Canonicalization_INCLUSIVE), .val (.int (1 : Int32)), .unset, .unset] []))) (fun _ k => XS.icmpNo X40.here hx rfl (hb hby at_71) rfl (teq (by decide : (1 : Int32) = (1 : Int32))).2 k) ?_
    refine own_step (S' := (T40.setTop (mkF m 75 #[.val (.int p1), .val (.int (1 : Int32)), .val (.ref a_Canonicalization_INCLUSIVE_WITH_COMMENTS), .val (.ref a_Canonicalization_INCLUSIVE), .val (.int (1 : Int32)), .unset, .unset] [(.int (1 : Int32))]))) (fun _ k => XS.iconst X40.here hx rfl (hb hby at_74) k) ?_
    refine own_step (S' := (T40.setTop (mkF m 79 #[.val (.int p1), .val (.int (1 : Int32)), .val (.ref a_Canonicalization_INCLUSIVE_WITH_COMMENTS), .val (.ref a_Canonicalization_INCLUSIVE), .val (.int (1 : Int32)), .unset, .unset] [(.int (1 : Int32))]))) (fun _ k => XS.goto X40.here hx rfl (pc0 := 75) (pc' := 79) rfl (hb hby at_75) (by decide) (by decide) k) ?_
    refine own_step (S' := (T40.setTop (mkF m 81 #[.val (.int p1), .val (.int (1 : Int32)), .val (.ref a_Canonicalization_INCLUSIVE_WITH_COMMENTS), .val (.ref a_Canonicalization_INCLUSIVE), .val (.int (1 : Int32)), .val (.int (1 : Int32)), .unset] []))) (fun _ k => XS.istore X40.here hx rfl (hb hby at_79) rfl (l' := #[.val (.int p1), .val (.int (1 : Int32)), .val (.ref a_Canonicalization_INCLUSIVE_WITH_COMMENTS), .val (.ref a_Canonicalization_INCLUSIVE), .val (.int (1 : Int32)), .val (.int (1 : Int32)), .unset]) rfl k) ?_
    refine own_step (S' := (T40.setTop (mkF m 82 #[.val (.int p1), .val (.int (1 : Int32)), .val (.ref a_Canonicalization_INCLUSIVE_WITH_COMMENTS), .val (.ref a_Canonicalization_INCLUSIVE), .val (.int (1 : Int32)), .val (.int (1 : Int32)), .unset] [(.ref a_Canonicalization_INCLUSIVE)]))) (fun _ k => XS.aloadN X40.here hx rfl (hb hby at_81) rfl rfl k) ?_
    obtain ⟨_, T41, L41, X41, ⟨rfl, N41q, e41⟩, st41⟩ := own_virt (argsL := []) (rest := []) X40 hx hZ hown (hw _ (List.mem_of_getElem? (i := 8) rfl)) (hw _ (List.mem_of_getElem? (i := 9) rfl)) (notFace_of_selects (args := #[]) (mvT hZ (hw _ (List.mem_of_getElem? (i := 11) rfl)))) (hw _ (List.mem_of_getElem? (i := 11) rfl)) (hw _ (List.mem_of_getElem? (i := 10) rfl)) (by decide) (hw _ (List.mem_of_getElem? (i := 12) rfl)) (hw _ (List.mem_of_getElem? (i := 6) rfl)) e40 E_Canonicalization_INCLUSIVE (hM := rmW_0 l Z a0 hw [] a_Canonicalization_INCLUSIVE h0 n0 Z0 F_Canonicalization_INCLUSIVE_ordinal E_Canonicalization_INCLUSIVE) (g := (mkF m 82 #[.val (.int p1), .val (.int (1 : Int32)), .val (.ref a_Canonicalization_INCLUSIVE_WITH_COMMENTS), .val (.ref a_Canonicalization_INCLUSIVE), .val (.int (1 : Int32)), .val (.int (1 : Int32)), .unset] [(.ref a_Canonicalization_INCLUSIVE)])) (hg := rfl) (hsize := by rw [hml]; rfl) (hlen := lenOf pd_2 rfl) (hstack := rfl) (W := 0) (hW := by show 2 * 0 + _ ≤ _; exact Nat.le_of_eq rfl) (hd := (hb hby at_82)) (hf := by decide) (hl := by decide) (hc := by decide) (hs := by decide)
    have N41 := Fr.app N40 N41q
    refine own_step (S' := (T41.setTop (mkF m 85 #[.val (.int p1), .val (.int (1 : Int32)), .val (.ref a_Canonicalization_INCLUSIVE_WITH_COMMENTS), .val (.ref a_Canonicalization_INCLUSIVE), .val (.int (1 : Int32)), .val (.int (1 : Int32)), .unset] [(.ref a_Canonicalization_INCLUSIVE)]))) (fun _ k => st41 _ k) ?_
    refine own_step (S' := (T41.setTop (mkF m 86 #[.val (.int p1), .val (.int (1 : Int32)), .val (.ref a_Canonicalization_INCLUSIVE_WITH_COMMENTS), .val (.ref a_Canonicalization_INCLUSIVE), .val (.int (1 : Int32)), .val (.int (1 : Int32)), .unset] [(.ref a_Canonicalization_INCLUSIVE), (.ref a_Canonicalization_INCLUSIVE)]))) (fun _ k => XS.aloadN X41.here hx rfl (hb hby at_85) rfl rfl k) ?_
    refine own_step (S' := (T41.setTop (mkF m 89 #[.val (.int p1), .val (.int (1 : Int32)), .val (.ref a_Canonicalization_INCLUSIVE_WITH_COMMENTS), .val (.ref a_Canonicalization_INCLUSIVE), .val (.int (1 : Int32)), .val (.int (1 : Int32)), .unset] []))) (fun _ k => Jvm.RoadKit.acmp (g := (mkF m 86 #[.val (.int p1), .val (.int (1 : Int32)), .val (.ref a_Canonicalization_INCLUSIVE_WITH_COMMENTS), .val (.ref a_Canonicalization_INCLUSIVE), .val (.int (1 : Int32)), .val (.int (1 : Int32)), .unset] [(.ref a_Canonicalization_INCLUSIVE), (.ref a_Canonicalization_INCLUSIVE)])) X41 hx rfl rfl rfl (pc0 := 86) (pc' := 89) (same := true) rfl (hb hby at_86) rfl (decide_eq_true rfl) (by decide) (by decide) k) ?_
    refine own_step (S' := (T41.setTop (mkF m 90 #[.val (.int p1), .val (.int (1 : Int32)), .val (.ref a_Canonicalization_INCLUSIVE_WITH_COMMENTS), .val (.ref a_Canonicalization_INCLUSIVE), .val (.int (1 : Int32)), .val (.int (1 : Int32)), .unset] [(.int (1 : Int32))]))) (fun _ k => XS.iconst X41.here hx rfl (hb hby at_89) k) ?_
    refine own_step (S' := (T41.setTop (mkF m 94 #[.val (.int p1), .val (.int (1 : Int32)), .val (.ref a_Canonicalization_INCLUSIVE_WITH_COMMENTS), .val (.ref a_Canonicalization_INCLUSIVE), .val (.int (1 : Int32)), .val (.int (1 : Int32)), .unset] [(.int (1 : Int32))]))) (fun _ k => XS.goto X41.here hx rfl (pc0 := 90) (pc' := 94) rfl (hb hby at_90) (by decide) (by decide) k) ?_
    refine own_step (S' := (T41.setTop (mkF m 96 #[.val (.int p1), .val (.int (1 : Int32)), .val (.ref a_Canonicalization_INCLUSIVE_WITH_COMMENTS), .val (.ref a_Canonicalization_INCLUSIVE), .val (.int (1 : Int32)), .val (.int (1 : Int32)), .val (.int (1 : Int32))] []))) (fun _ k => XS.istore X41.here hx rfl (hb hby at_94) rfl (l' := #[.val (.int p1), .val (.int (1 : Int32)), .val (.ref a_Canonicalization_INCLUSIVE_WITH_COMMENTS), .val (.ref a_Canonicalization_INCLUSIVE), .val (.int (1 : Int32)), .val (.int (1 : Int32)), .val (.int (1 : Int32))]) rfl k) ?_
    refine own_step (S' := (T41.setTop (mkF m 98 #[.val (.int p1), .val (.int (1 : Int32)), .val (.ref a_Canonicalization_INCLUSIVE_WITH_COMMENTS), .val (.ref a_Canonicalization_INCLUSIVE), .val (.int (1 : Int32)), .val (.int (1 : Int32)), .val (.int (1 : Int32))] [(.int (1 : Int32))]))) (fun _ k => XS.iload X41.here hx rfl (hb hby at_96) rfl k) ?_
    refine own_step (S' := (T41.setTop (mkF m 101 #[.val (.int p1), .val (.int (1 : Int32)), .val (.ref a_Canonicalization_INCLUSIVE_WITH_COMMENTS), .val (.ref a_Canonicalization_INCLUSIVE), .val (.int (1 : Int32)), .val (.int (1 : Int32)), .val (.int (1 : Int32))] []))) (fun _ k => XS.ifNo X41.here hx rfl (hb hby at_98) rfl ((if0 _ _).trans (feq (by decide : ¬ ((1 : Int32) = (0 : Int32)))).1) k) ?_
    refine own_step (S' := (T41.setTop (mkF m 103 #[.val (.int p1), .val (.int (1 : Int32)), .val (.ref a_Canonicalization_INCLUSIVE_WITH_COMMENTS), .val (.ref a_Canonicalization_INCLUSIVE), .val (.int (1 : Int32)), .val (.int (1 : Int32)), .val (.int (1 : Int32))] [(.int (1 : Int32))]))) (fun _ k => XS.iload X41.here hx rfl (hb hby at_101) rfl k) ?_
    refine own_step (S' := (T41.setTop (mkF m 106 #[.val (.int p1), .val (.int (1 : Int32)), .val (.ref a_Canonicalization_INCLUSIVE_WITH_COMMENTS), .val (.ref a_Canonicalization_INCLUSIVE), .val (.int (1 : Int32)), .val (.int (1 : Int32)), .val (.int (1 : Int32))] []))) (fun _ k => XS.ifNo X41.here hx rfl (hb hby at_103) rfl ((if0 _ _).trans (feq (by decide : ¬ ((1 : Int32) = (0 : Int32)))).1) k) ?_
    refine own_step (S' := (T41.setTop (mkF m 108 #[.val (.int p1), .val (.int (1 : Int32)), .val (.ref a_Canonicalization_INCLUSIVE_WITH_COMMENTS), .val (.ref a_Canonicalization_INCLUSIVE), .val (.int (1 : Int32)), .val (.int (1 : Int32)), .val (.int (1 : Int32))] [(.int (1 : Int32))]))) (fun _ k => XS.iload X41.here hx rfl (hb hby at_106) rfl k) ?_
    refine own_step (S' := (T41.setTop (mkF m 111 #[.val (.int p1), .val (.int (1 : Int32)), .val (.ref a_Canonicalization_INCLUSIVE_WITH_COMMENTS), .val (.ref a_Canonicalization_INCLUSIVE), .val (.int (1 : Int32)), .val (.int (1 : Int32)), .val (.int (1 : Int32))] []))) (fun _ k => XS.ifNo X41.here hx rfl (hb hby at_108) rfl ((if0 _ _).trans (feq (by decide : ¬ ((1 : Int32) = (0 : Int32)))).1) k) ?_
    refine own_step (S' := (T41.setTop (mkF m 112 #[.val (.int p1), .val (.int (1 : Int32)), .val (.ref a_Canonicalization_INCLUSIVE_WITH_COMMENTS), .val (.ref a_Canonicalization_INCLUSIVE), .val (.int (1 : Int32)), .val (.int (1 : Int32)), .val (.int (1 : Int32))] [(.int (1 : Int32))]))) (fun _ k => XS.iconst X41.here hx rfl (hb hby at_111) k) ?_
    refine own_step (S' := (T41.setTop (mkF m 116 #[.val (.int p1), .val (.int (1 : Int32)), .val (.ref a_Canonicalization_INCLUSIVE_WITH_COMMENTS), .val (.ref a_Canonicalization_INCLUSIVE), .val (.int (1 : Int32)), .val (.int (1 : Int32)), .val (.int (1 : Int32))] [(.int (1 : Int32))]))) (fun _ k => XS.goto X41.here hx rfl (pc0 := 112) (pc' := 116) rfl (hb hby at_112) (by decide) (by decide) k) ?_
    refine own_retN X41 hx hlk hret (by simp) (by decide) (hb hby at_116) (by decide) (by decide) ?_
    try rw [e41]
    exact ⟨rfl, N41⟩
  · rw [hr25]
    refine own_step (S' := (s₁.setTop (mkF m 8 #[.val (.int p1), .val (.int (2 : Int32)), .unset, .unset, .unset, .unset, .unset] []))) (fun _ k => XS.istoreN X0.here hx rfl (hb hby at_7) rfl (l' := #[.val (.int p1), .val (.int (2 : Int32)), .unset, .unset, .unset, .unset, .unset]) rfl k) ?_
    refine own_step (S' := (s₁.setTop (mkF m 9 #[.val (.int p1), .val (.int (2 : Int32)), .unset, .unset, .unset, .unset, .unset] [(.int (2 : Int32))]))) (fun _ k => XS.iloadN X0.here hx rfl (hb hby at_8) rfl k) ?_
    obtain ⟨_, T42, L42, X42, ⟨rfl, N42q, e42⟩, st42⟩ := own_stat (argsL := [(.int (2 : Int32))]) (rest := []) X0 hx hZ hown (hw _ (List.mem_of_getElem? (i := 1) rfl)) (hw _ (List.mem_of_getElem? (i := 2) rfl)) (by decide) (hw _ (List.mem_of_getElem? (i := 4) rfl)) (hw _ (List.mem_of_getElem? (i := 3) rfl)) e0 (hM := rmP_2 l Z a0 hw [] a_Canonicalization_INCLUSIVE_11 h0 n0 Z0 S_Canonicalization_INCLUSIVE_11) (g := (mkF m 9 #[.val (.int p1), .val (.int (2 : Int32)), .unset, .unset, .unset, .unset, .unset] [(.int (2 : Int32))])) (hg := rfl) (hsize := by rw [hml]; rfl) (hlen := lenOf pd_1 rfl) (hstack := rfl) (W := 0) (hW := by show 2 * 0 + _ ≤ _; exact Nat.le_of_eq rfl) (hd := (hb hby at_9)) (hf := by decide) (hl := by decide) (hc := by decide) (hs := by decide)
    have N42 := Fr.app N0 N42q
    refine own_step (S' := (T42.setTop (mkF m 12 #[.val (.int p1), .val (.int (2 : Int32)), .unset, .unset, .unset, .unset, .unset] [(.ref a_Canonicalization_INCLUSIVE_11)]))) (fun _ k => st42 _ k) ?_
    refine own_step (S' := (T42.setTop (mkF m 13 #[.val (.int p1), .val (.int (2 : Int32)), .val (.ref a_Canonicalization_INCLUSIVE_11), .unset, .unset, .unset, .unset] []))) (fun _ k => XS.astoreN X42.here hx rfl (hb hby at_12) rfl rfl (l' := #[.val (.int p1), .val (.int (2 : Int32)), .val (.ref a_Canonicalization_INCLUSIVE_11), .unset, .unset, .unset, .unset]) rfl k) ?_
    refine own_step (S' := (T42.setTop (mkF m 14 #[.val (.int p1), .val (.int (2 : Int32)), .val (.ref a_Canonicalization_INCLUSIVE_11), .unset, .unset, .unset, .unset] [(.ref a_Canonicalization_INCLUSIVE_11)]))) (fun _ k => XS.aloadN X42.here hx rfl (hb hby at_13) rfl rfl k) ?_
    obtain ⟨_, T43, L43, X43, ⟨rfl, N43q, e43⟩, st43⟩ := own_virt (argsL := []) (rest := []) X42 hx hZ hown (hw _ (List.mem_of_getElem? (i := 8) rfl)) (hw _ (List.mem_of_getElem? (i := 9) rfl)) (notFace_of_selects (args := #[]) (mvT hZ (hw _ (List.mem_of_getElem? (i := 11) rfl)))) (hw _ (List.mem_of_getElem? (i := 11) rfl)) (hw _ (List.mem_of_getElem? (i := 10) rfl)) (by decide) (hw _ (List.mem_of_getElem? (i := 12) rfl)) (hw _ (List.mem_of_getElem? (i := 6) rfl)) e42 E_Canonicalization_INCLUSIVE_11 (hM := rmW_2 l Z a0 hw [] a_Canonicalization_INCLUSIVE_11 h0 n0 Z0 F_Canonicalization_INCLUSIVE_11_ordinal E_Canonicalization_INCLUSIVE_11) (g := (mkF m 14 #[.val (.int p1), .val (.int (2 : Int32)), .val (.ref a_Canonicalization_INCLUSIVE_11), .unset, .unset, .unset, .unset] [(.ref a_Canonicalization_INCLUSIVE_11)])) (hg := rfl) (hsize := by rw [hml]; rfl) (hlen := lenOf pd_2 rfl) (hstack := rfl) (W := 0) (hW := by show 2 * 0 + _ ≤ _; exact Nat.le_of_eq rfl) (hd := (hb hby at_14)) (hf := by decide) (hl := by decide) (hc := by decide) (hs := by decide)
    have N43 := Fr.app N42 N43q
    refine own_step (S' := (T43.setTop (mkF m 17 #[.val (.int p1), .val (.int (2 : Int32)), .val (.ref a_Canonicalization_INCLUSIVE_11), .unset, .unset, .unset, .unset] [(.ref a_Canonicalization_INCLUSIVE_11)]))) (fun _ k => st43 _ k) ?_
    refine own_step (S' := (T43.setTop (mkF m 18 #[.val (.int p1), .val (.int (2 : Int32)), .val (.ref a_Canonicalization_INCLUSIVE_11), .val (.ref a_Canonicalization_INCLUSIVE_11), .unset, .unset, .unset] []))) (fun _ k => XS.astoreN X43.here hx rfl (hb hby at_17) rfl rfl (l' := #[.val (.int p1), .val (.int (2 : Int32)), .val (.ref a_Canonicalization_INCLUSIVE_11), .val (.ref a_Canonicalization_INCLUSIVE_11), .unset, .unset, .unset]) rfl k) ?_
    refine own_step (S' := (T43.setTop (mkF m 19 #[.val (.int p1), .val (.int (2 : Int32)), .val (.ref a_Canonicalization_INCLUSIVE_11), .val (.ref a_Canonicalization_INCLUSIVE_11), .unset, .unset, .unset] [(.ref a_Canonicalization_INCLUSIVE_11)]))) (fun _ k => XS.aloadN X43.here hx rfl (hb hby at_18) rfl rfl k) ?_
    refine own_step (S' := (T43.setTop (mkF m 24 #[.val (.int p1), .val (.int (2 : Int32)), .val (.ref a_Canonicalization_INCLUSIVE_11), .val (.ref a_Canonicalization_INCLUSIVE_11), .unset, .unset, .unset] []))) (fun _ k => XS.ifnonnullYes X43.here hx rfl (pc0 := 19) (pc' := 24) rfl (hb hby at_19) rfl (by decide) (by decide) k) ?_
    refine own_step (S' := (T43.setTop (mkF m 25 #[.val (.int p1), .val (.int (2 : Int32)), .val (.ref a_Canonicalization_INCLUSIVE_11), .val (.ref a_Canonicalization_INCLUSIVE_11), .unset, .unset, .unset] [(.ref a_Canonicalization_INCLUSIVE_11)]))) (fun _ k => XS.aloadN X43.here hx rfl (hb hby at_24) rfl rfl k) ?_
    obtain ⟨T44, X44, e44, st44⟩ := getS2 X43 hx hZ hown (host := "") (Or.inl (hw _ (List.mem_of_getElem? (i := 5) rfl))) Via.refl e43 S_Canonicalization_INCLUSIVE (g := (mkF m 25 #[.val (.int p1), .val (.int (2 : Int32)), .val (.ref a_Canonicalization_INCLUSIVE_11), .val (.ref a_Canonicalization_INCLUSIVE_11), .unset, .unset, .unset] [(.ref a_Canonicalization_INCLUSIVE_11)])) rfl (hb hby at_25)
    refine own_step (S' := (T44.setTop (mkF m 28 #[.val (.int p1), .val (.int (2 : Int32)), .val (.ref a_Canonicalization_INCLUSIVE_11), .val (.ref a_Canonicalization_INCLUSIVE_11), .unset, .unset, .unset] [(.ref a_Canonicalization_INCLUSIVE), (.ref a_Canonicalization_INCLUSIVE_11)]))) (fun _ k => st44 _ k) ?_
    refine own_step (S' := (T44.setTop (mkF m 31 #[.val (.int p1), .val (.int (2 : Int32)), .val (.ref a_Canonicalization_INCLUSIVE_11), .val (.ref a_Canonicalization_INCLUSIVE_11), .unset, .unset, .unset] []))) (fun _ k => Jvm.RoadKit.acmp (g := (mkF m 28 #[.val (.int p1), .val (.int (2 : Int32)), .val (.ref a_Canonicalization_INCLUSIVE_11), .val (.ref a_Canonicalization_INCLUSIVE_11), .unset, .unset, .unset] [(.ref a_Canonicalization_INCLUSIVE), (.ref a_Canonicalization_INCLUSIVE_11)])) X44 hx rfl rfl rfl (pc0 := 28) (pc' := 31) (same := false) rfl (hb hby at_28) rfl (decide_eq_false fun q => (Fld.ne F_Canonicalization_INCLUSIVE_11_ordinal F_Canonicalization_INCLUSIVE_ordinal (by decide)) (Value.ref.inj q)) (by decide) (by decide) k) ?_
    refine own_step (S' := (T44.setTop (mkF m 32 #[.val (.int p1), .val (.int (2 : Int32)), .val (.ref a_Canonicalization_INCLUSIVE_11), .val (.ref a_Canonicalization_INCLUSIVE_11), .unset, .unset, .unset] [(.ref a_Canonicalization_INCLUSIVE_11)]))) (fun _ k => XS.aloadN X44.here hx rfl (hb hby at_31) rfl rfl k) ?_
    obtain ⟨T45, X45, e45, st45⟩ := getS2 X44 hx hZ hown (host := "") (Or.inl (hw _ (List.mem_of_getElem? (i := 44) rfl))) Via.refl e44 S_Canonicalization_INCLUSIVE_11 (g := (mkF m 32 #[.val (.int p1), .val (.int (2 : Int32)), .val (.ref a_Canonicalization_INCLUSIVE_11), .val (.ref a_Canonicalization_INCLUSIVE_11), .unset, .unset, .unset] [(.ref a_Canonicalization_INCLUSIVE_11)])) rfl (hb hby at_32)
    refine own_step (S' := (T45.setTop (mkF m 35 #[.val (.int p1), .val (.int (2 : Int32)), .val (.ref a_Canonicalization_INCLUSIVE_11), .val (.ref a_Canonicalization_INCLUSIVE_11), .unset, .unset, .unset] [(.ref a_Canonicalization_INCLUSIVE_11), (.ref a_Canonicalization_INCLUSIVE_11)]))) (fun _ k => st45 _ k) ?_
    refine own_step (S' := (T45.setTop (mkF m 45 #[.val (.int p1), .val (.int (2 : Int32)), .val (.ref a_Canonicalization_INCLUSIVE_11), .val (.ref a_Canonicalization_INCLUSIVE_11), .unset, .unset, .unset] []))) (fun _ k => Jvm.RoadKit.acmp (g := (mkF m 35 #[.val (.int p1), .val (.int (2 : Int32)), .val (.ref a_Canonicalization_INCLUSIVE_11), .val (.ref a_Canonicalization_INCLUSIVE_11), .unset, .unset, .unset] [(.ref a_Canonicalization_INCLUSIVE_11), (.ref a_Canonicalization_INCLUSIVE_11)])) X45 hx rfl rfl rfl (pc0 := 35) (pc' := 45) (same := true) rfl (hb hby at_35) rfl (decide_eq_true rfl) (by decide) (by decide) k) ?_
    refine own_step (S' := (T45.setTop (mkF m 46 #[.val (.int p1), .val (.int (2 : Int32)), .val (.ref a_Canonicalization_INCLUSIVE_11), .val (.ref a_Canonicalization_INCLUSIVE_11), .unset, .unset, .unset] [(.int (1 : Int32))]))) (fun _ k => XS.iconst X45.here hx rfl (hb hby at_45) k) ?_
    refine own_step (S' := (T45.setTop (mkF m 50 #[.val (.int p1), .val (.int (2 : Int32)), .val (.ref a_Canonicalization_INCLUSIVE_11), .val (.ref a_Canonicalization_INCLUSIVE_11), .unset, .unset, .unset] [(.int (1 : Int32))]))) (fun _ k => XS.goto X45.here hx rfl (pc0 := 46) (pc' := 50) rfl (hb hby at_46) (by decide) (by decide) k) ?_
    refine own_step (S' := (T45.setTop (mkF m 52 #[.val (.int p1), .val (.int (2 : Int32)), .val (.ref a_Canonicalization_INCLUSIVE_11), .val (.ref a_Canonicalization_INCLUSIVE_11), .val (.int (1 : Int32)), .unset, .unset] []))) (fun _ k => XS.istore X45.here hx rfl (hb hby at_50) rfl (l' := #[.val (.int p1), .val (.int (2 : Int32)), .val (.ref a_Canonicalization_INCLUSIVE_11), .val (.ref a_Canonicalization_INCLUSIVE_11), .val (.int (1 : Int32)), .unset, .unset]) rfl k) ?_
    refine own_step (S' := (T45.setTop (mkF m 53 #[.val (.int p1), .val (.int (2 : Int32)), .val (.ref a_Canonicalization_INCLUSIVE_11), .val (.ref a_Canonicalization_INCLUSIVE_11), .val (.int (1 : Int32)), .unset, .unset] [(.ref a_Canonicalization_INCLUSIVE_11)]))) (fun _ k => XS.aloadN X45.here hx rfl (hb hby at_52) rfl rfl k) ?_
    obtain ⟨_, T46, L46, X46, ⟨rfl, N46q, e46⟩, st46⟩ := own_virt (argsL := []) (rest := []) X45 hx hZ hown (hw _ (List.mem_of_getElem? (i := 22) rfl)) (hw _ (List.mem_of_getElem? (i := 23) rfl)) (notFace_of_selects (args := #[]) (mvT hZ (hw _ (List.mem_of_getElem? (i := 25) rfl)))) (hw _ (List.mem_of_getElem? (i := 25) rfl)) (hw _ (List.mem_of_getElem? (i := 24) rfl)) (by decide) (hw _ (List.mem_of_getElem? (i := 26) rfl)) (hw _ (List.mem_of_getElem? (i := 6) rfl)) e45 E_Canonicalization_INCLUSIVE_11 (hM := rmX_0 l Z a0 hw [] a_Canonicalization_INCLUSIVE_11 a_Kind_INCLUSIVE_11 a_Kind_EXCLUSIVE h0 n0 Z0 F_Canonicalization_INCLUSIVE_11_kind S_Kind_EXCLUSIVE (Fld.ne F_Kind_INCLUSIVE_11_ordinal F_Kind_EXCLUSIVE_ordinal (by decide))) (g := (mkF m 53 #[.val (.int p1), .val (.int (2 : Int32)), .val (.ref a_Canonicalization_INCLUSIVE_11), .val (.ref a_Canonicalization_INCLUSIVE_11), .val (.int (1 : Int32)), .unset, .unset] [(.ref a_Canonicalization_INCLUSIVE_11)])) (hg := rfl) (hsize := by rw [hml]; rfl) (hlen := lenOf pd_3 rfl) (hstack := rfl) (W := 0) (hW := by show 2 * 0 + _ ≤ _; exact Nat.le_of_eq rfl) (hd := (hb hby at_53)) (hf := by decide) (hl := by decide) (hc := by decide) (hs := by decide)
    have N46 := Fr.app N43 N46q
    refine own_step (S' := (T46.setTop (mkF m 56 #[.val (.int p1), .val (.int (2 : Int32)), .val (.ref a_Canonicalization_INCLUSIVE_11), .val (.ref a_Canonicalization_INCLUSIVE_11), .val (.int (1 : Int32)), .unset, .unset] [(.int (0 : Int32))]))) (fun _ k => st46 _ k) ?_
    refine own_step (S' := (T46.setTop (mkF m 57 #[.val (.int p1), .val (.int (2 : Int32)), .val (.ref a_Canonicalization_INCLUSIVE_11), .val (.ref a_Canonicalization_INCLUSIVE_11), .val (.int (1 : Int32)), .unset, .unset] [(.ref a_Canonicalization_INCLUSIVE_11), (.int (0 : Int32))]))) (fun _ k => XS.aloadN X46.here hx rfl (hb hby at_56) rfl rfl k) ?_
    obtain ⟨_, T47, L47, X47, ⟨rfl, N47q, e47⟩, st47⟩ := own_virt (argsL := []) (rest := [(.int (0 : Int32))]) X46 hx hZ hown (hw _ (List.mem_of_getElem? (i := 22) rfl)) (hw _ (List.mem_of_getElem? (i := 23) rfl)) (notFace_of_selects (args := #[]) (mvT hZ (hw _ (List.mem_of_getElem? (i := 25) rfl)))) (hw _ (List.mem_of_getElem? (i := 25) rfl)) (hw _ (List.mem_of_getElem? (i := 24) rfl)) (by decide) (hw _ (List.mem_of_getElem? (i := 26) rfl)) (hw _ (List.mem_of_getElem? (i := 6) rfl)) e46 E_Canonicalization_INCLUSIVE_11 (hM := rmX_0 l Z a0 hw [] a_Canonicalization_INCLUSIVE_11 a_Kind_INCLUSIVE_11 a_Kind_EXCLUSIVE h0 n0 Z0 F_Canonicalization_INCLUSIVE_11_kind S_Kind_EXCLUSIVE (Fld.ne F_Kind_INCLUSIVE_11_ordinal F_Kind_EXCLUSIVE_ordinal (by decide))) (g := (mkF m 57 #[.val (.int p1), .val (.int (2 : Int32)), .val (.ref a_Canonicalization_INCLUSIVE_11), .val (.ref a_Canonicalization_INCLUSIVE_11), .val (.int (1 : Int32)), .unset, .unset] [(.ref a_Canonicalization_INCLUSIVE_11), (.int (0 : Int32))])) (hg := rfl) (hsize := by rw [hml]; rfl) (hlen := lenOf pd_3 rfl) (hstack := rfl) (W := 1) (hW := by show 2 * 0 + _ ≤ _; exact Nat.le_of_eq rfl) (hd := (hb hby at_57)) (hf := by decide) (hl := by decide) (hc := by decide) (hs := by decide)
    have N47 := Fr.app N46 N47q
    refine own_step (S' := (T47.setTop (mkF m 60 #[.val (.int p1), .val (.int (2 : Int32)), .val (.ref a_Canonicalization_INCLUSIVE_11), .val (.ref a_Canonicalization_INCLUSIVE_11), .val (.int (1 : Int32)), .unset, .unset] [(.int (0 : Int32)), (.int (0 : Int32))]))) (fun _ k => st47 _ k) ?_
    refine own_step (S' := (T47.setTop (mkF m 63 #[.val (.int p1), .val (.int (2 : Int32)), .val (.ref a_Canonicalization_INCLUSIVE_11), .val (.ref a_Canonicalization_INCLUSIVE_11), .val (.int (1 : Int32)), .unset, .unset] []))) (fun _ k => XS.icmpNo X47.here hx rfl (hb hby at_60) rfl (teq (by decide : (0 : Int32) = (0 : Int32))).2 k) ?_
    refine own_step (S' := (T47.setTop (mkF m 64 #[.val (.int p1), .val (.int (2 : Int32)), .val (.ref a_Canonicalization_INCLUSIVE_11), .val (.ref a_Canonicalization_INCLUSIVE_11), .val (.int (1 : Int32)), .unset, .unset] [(.ref a_Canonicalization_INCLUSIVE_11)]))) (fun _ k => XS.aloadN X47.here hx rfl (hb hby at_63) rfl rfl k) ?_
    obtain ⟨_, T48, L48, X48, ⟨rfl, N48q, e48⟩, st48⟩ := own_virt (argsL := []) (rest := []) X47 hx hZ hown (hw _ (List.mem_of_getElem? (i := 33) rfl)) (hw _ (List.mem_of_getElem? (i := 34) rfl)) (notFace_of_selects (args := #[]) (mvT hZ (hw _ (List.mem_of_getElem? (i := 36) rfl)))) (hw _ (List.mem_of_getElem? (i := 36) rfl)) (hw _ (List.mem_of_getElem? (i := 35) rfl)) (by decide) (hw _ (List.mem_of_getElem? (i := 37) rfl)) (hw _ (List.mem_of_getElem? (i := 6) rfl)) e47 E_Canonicalization_INCLUSIVE_11 (hM := rmS_0 l Z a0 hw [] a_Canonicalization_INCLUSIVE_11 a_Kind_INCLUSIVE_11 a_Kind_INCLUSIVE_11 h0 n0 Z0 F_Canonicalization_INCLUSIVE_11_kind S_Kind_INCLUSIVE_11 rfl) (g := (mkF m 64 #[.val (.int p1), .val (.int (2 : Int32)), .val (.ref a_Canonicalization_INCLUSIVE_11), .val (.ref a_Canonicalization_INCLUSIVE_11), .val (.int (1 : Int32)), .unset, .unset] [(.ref a_Canonicalization_INCLUSIVE_11)])) (hg := rfl) (hsize := by rw [hml]; rfl) (hlen := lenOf pd_3 rfl) (hstack := rfl) (W := 0) (hW := by show 2 * 0 + _ ≤ _; exact Nat.le_of_eq rfl) (hd := (hb hby at_64)) (hf := by decide) (hl := by decide) (hc := by decide) (hs := by decide)
    have N48 := Fr.app N47 N48q
    refine own_step (S' := (T48.setTop (mkF m 67 #[.val (.int p1), .val (.int (2 : Int32)), .val (.ref a_Canonicalization_INCLUSIVE_11), .val (.ref a_Canonicalization_INCLUSIVE_11), .val (.int (1 : Int32)), .unset, .unset] [(.int (0 : Int32))]))) (fun _ k => st48 _ k) ?_
    refine own_step (S' := (T48.setTop (mkF m 68 #[.val (.int p1), .val (.int (2 : Int32)), .val (.ref a_Canonicalization_INCLUSIVE_11), .val (.ref a_Canonicalization_INCLUSIVE_11), .val (.int (1 : Int32)), .unset, .unset] [(.ref a_Canonicalization_INCLUSIVE_11), (.int (0 : Int32))]))) (fun _ k => XS.aloadN X48.here hx rfl (hb hby at_67) rfl rfl k) ?_
    obtain ⟨_, T49, L49, X49, ⟨rfl, N49q, e49⟩, st49⟩ := own_virt (argsL := []) (rest := [(.int (0 : Int32))]) X48 hx hZ hown (hw _ (List.mem_of_getElem? (i := 33) rfl)) (hw _ (List.mem_of_getElem? (i := 34) rfl)) (notFace_of_selects (args := #[]) (mvT hZ (hw _ (List.mem_of_getElem? (i := 36) rfl)))) (hw _ (List.mem_of_getElem? (i := 36) rfl)) (hw _ (List.mem_of_getElem? (i := 35) rfl)) (by decide) (hw _ (List.mem_of_getElem? (i := 37) rfl)) (hw _ (List.mem_of_getElem? (i := 6) rfl)) e48 E_Canonicalization_INCLUSIVE_11 (hM := rmS_0 l Z a0 hw [] a_Canonicalization_INCLUSIVE_11 a_Kind_INCLUSIVE_11 a_Kind_INCLUSIVE_11 h0 n0 Z0 F_Canonicalization_INCLUSIVE_11_kind S_Kind_INCLUSIVE_11 rfl) (g := (mkF m 68 #[.val (.int p1), .val (.int (2 : Int32)), .val (.ref a_Canonicalization_INCLUSIVE_11), .val (.ref a_Canonicalization_INCLUSIVE_11), .val (.int (1 : Int32)), .unset, .unset] [(.ref a_Canonicalization_INCLUSIVE_11), (.int (0 : Int32))])) (hg := rfl) (hsize := by rw [hml]; rfl) (hlen := lenOf pd_3 rfl) (hstack := rfl) (W := 1) (hW := by show 2 * 0 + _ ≤ _; exact Nat.le_of_eq rfl) (hd := (hb hby at_68)) (hf := by decide) (hl := by decide) (hc := by decide) (hs := by decide)
    have N49 := Fr.app N48 N49q
    refine own_step (S' := (T49.setTop (mkF m 71 #[.val (.int p1), .val (.int (2 : Int32)), .val (.ref a_Canonicalization_INCLUSIVE_11), .val (.ref a_Canonicalization_INCLUSIVE_11), .val (.int (1 : Int32)), .unset, .unset] [(.int (0 : Int32)), (.int (0 : Int32))]))) (fun _ k => st49 _ k) ?_
    refine own_step (S' := (T49.setTop (mkF m 74 #[.val (.int p1), .val (.int (2 : Int32)), .val (.ref a_Canonicalization_INCLUSIVE_11), .val (.ref a_Canonicalization_INCLUSIVE_11), .val (.int (1 : Int32)), .unset, .unset] []))) (fun _ k => XS.icmpNo X49.here hx rfl (hb hby at_71) rfl (teq (by decide : (0 : Int32) = (0 : Int32))).2 k) ?_
    refine own_step (S' := (T49.setTop (mkF m 75 #[.val (.int p1), .val (.int (2 : Int32)), .val (.ref a_Canonicalization_INCLUSIVE_11), .val (.ref a_Canonicalization_INCLUSIVE_11), .val (.int (1 : Int32)), .unset, .unset] [(.int (1 : Int32))]))) (fun _ k => XS.iconst X49.here hx rfl (hb hby at_74) k) ?_
    refine own_step (S' := (T49.setTop (mkF m 79 #[.val (.int p1), .val (.int (2 : Int32)), .val (.ref a_Canonicalization_INCLUSIVE_11), .val (.ref a_Canonicalization_INCLUSIVE_11), .val (.int (1 : Int32)), .unset, .unset] [(.int (1 : Int32))]))) (fun _ k => XS.goto X49.here hx rfl (pc0 := 75) (pc' := 79) rfl (hb hby at_75) (by decide) (by decide) k) ?_
    refine own_step (S' := (T49.setTop (mkF m 81 #[.val (.int p1), .val (.int (2 : Int32)), .val (.ref a_Canonicalization_INCLUSIVE_11), .val (.ref a_Canonicalization_INCLUSIVE_11), .val (.int (1 : Int32)), .val (.int (1 : Int32)), .unset] []))) (fun _ k => XS.istore X49.here hx rfl (hb hby at_79) rfl (l' := #[.val (.int p1), .val (.int (2 : Int32)), .val (.ref a_Canonicalization_INCLUSIVE_11), .val (.ref a_Canonicalization_INCLUSIVE_11), .val (.int (1 : Int32)), .val (.int (1 : Int32)), .unset]) rfl k) ?_
    refine own_step (S' := (T49.setTop (mkF m 82 #[.val (.int p1), .val (.int (2 : Int32)), .val (.ref a_Canonicalization_INCLUSIVE_11), .val (.ref a_Canonicalization_INCLUSIVE_11), .val (.int (1 : Int32)), .val (.int (1 : Int32)), .unset] [(.ref a_Canonicalization_INCLUSIVE_11)]))) (fun _ k => XS.aloadN X49.here hx rfl (hb hby at_81) rfl rfl k) ?_
    obtain ⟨_, T50, L50, X50, ⟨rfl, N50q, e50⟩, st50⟩ := own_virt (argsL := []) (rest := []) X49 hx hZ hown (hw _ (List.mem_of_getElem? (i := 8) rfl)) (hw _ (List.mem_of_getElem? (i := 9) rfl)) (notFace_of_selects (args := #[]) (mvT hZ (hw _ (List.mem_of_getElem? (i := 11) rfl)))) (hw _ (List.mem_of_getElem? (i := 11) rfl)) (hw _ (List.mem_of_getElem? (i := 10) rfl)) (by decide) (hw _ (List.mem_of_getElem? (i := 12) rfl)) (hw _ (List.mem_of_getElem? (i := 6) rfl)) e49 E_Canonicalization_INCLUSIVE_11 (hM := rmW_2 l Z a0 hw [] a_Canonicalization_INCLUSIVE_11 h0 n0 Z0 F_Canonicalization_INCLUSIVE_11_ordinal E_Canonicalization_INCLUSIVE_11) (g := (mkF m 82 #[.val (.int p1), .val (.int (2 : Int32)), .val (.ref a_Canonicalization_INCLUSIVE_11), .val (.ref a_Canonicalization_INCLUSIVE_11), .val (.int (1 : Int32)), .val (.int (1 : Int32)), .unset] [(.ref a_Canonicalization_INCLUSIVE_11)])) (hg := rfl) (hsize := by rw [hml]; rfl) (hlen := lenOf pd_2 rfl) (hstack := rfl) (W := 0) (hW := by show 2 * 0 + _ ≤ _; exact Nat.le_of_eq rfl) (hd := (hb hby at_82)) (hf := by decide) (hl := by decide) (hc := by decide) (hs := by decide)
    have N50 := Fr.app N49 N50q
    refine own_step (S' := (T50.setTop (mkF m 85 #[.val (.int p1), .val (.int (2 : Int32)), .val (.ref a_Canonicalization_INCLUSIVE_11), .val (.ref a_Canonicalization_INCLUSIVE_11), .val (.int (1 : Int32)), .val (.int (1 : Int32)), .unset] [(.ref a_Canonicalization_INCLUSIVE_11)]))) (fun _ k => st50 _ k) ?_
    refine own_step (S' := (T50.setTop (mkF m 86 #[.val (.int p1), .val (.int (2 : Int32)), .val (.ref a_Canonicalization_INCLUSIVE_11), .val (.ref a_Canonicalization_INCLUSIVE_11), .val (.int (1 : Int32)), .val (.int (1 : Int32)), .unset] [(.ref a_Canonicalization_INCLUSIVE_11), (.ref a_Canonicalization_INCLUSIVE_11)]))) (fun _ k => XS.aloadN X50.here hx rfl (hb hby at_85) rfl rfl k) ?_
    refine own_step (S' := (T50.setTop (mkF m 89 #[.val (.int p1), .val (.int (2 : Int32)), .val (.ref a_Canonicalization_INCLUSIVE_11), .val (.ref a_Canonicalization_INCLUSIVE_11), .val (.int (1 : Int32)), .val (.int (1 : Int32)), .unset] []))) (fun _ k => Jvm.RoadKit.acmp (g := (mkF m 86 #[.val (.int p1), .val (.int (2 : Int32)), .val (.ref a_Canonicalization_INCLUSIVE_11), .val (.ref a_Canonicalization_INCLUSIVE_11), .val (.int (1 : Int32)), .val (.int (1 : Int32)), .unset] [(.ref a_Canonicalization_INCLUSIVE_11), (.ref a_Canonicalization_INCLUSIVE_11)])) X50 hx rfl rfl rfl (pc0 := 86) (pc' := 89) (same := true) rfl (hb hby at_86) rfl (decide_eq_true rfl) (by decide) (by decide) k) ?_
    refine own_step (S' := (T50.setTop (mkF m 90 #[.val (.int p1), .val (.int (2 : Int32)), .val (.ref a_Canonicalization_INCLUSIVE_11), .val (.ref a_Canonicalization_INCLUSIVE_11), .val (.int (1 : Int32)), .val (.int (1 : Int32)), .unset] [(.int (1 : Int32))]))) (fun _ k => XS.iconst X50.here hx rfl (hb hby at_89) k) ?_
    refine own_step (S' := (T50.setTop (mkF m 94 #[.val (.int p1), .val (.int (2 : Int32)), .val (.ref a_Canonicalization_INCLUSIVE_11), .val (.ref a_Canonicalization_INCLUSIVE_11), .val (.int (1 : Int32)), .val (.int (1 : Int32)), .unset] [(.int (1 : Int32))]))) (fun _ k => XS.goto X50.here hx rfl (pc0 := 90) (pc' := 94) rfl (hb hby at_90) (by decide) (by decide) k) ?_
    refine own_step (S' := (T50.setTop (mkF m 96 #[.val (.int p1), .val (.int (2 : Int32)), .val (.ref a_Canonicalization_INCLUSIVE_11), .val (.ref a_Canonicalization_INCLUSIVE_11), .val (.int (1 : Int32)), .val (.int (1 : Int32)), .val (.int (1 : Int32))] []))) (fun _ k => XS.istore X50.here hx rfl (hb hby at_94) rfl (l' := #[.val (.int p1), .val (.int (2 : Int32)), .val (.ref a_Canonicalization_INCLUSIVE_11), .val (.ref a_Canonicalization_INCLUSIVE_11), .val (.int (1 : Int32)), .val (.int (1 : Int32)), .val (.int (1 : Int32))]) rfl k) ?_
    refine own_step (S' := (T50.setTop (mkF m 98 #[.val (.int p1), .val (.int (2 : Int32)), .val (.ref a_Canonicalization_INCLUSIVE_11), .val (.ref a_Canonicalization_INCLUSIVE_11), .val (.int (1 : Int32)), .val (.int (1 : Int32)), .val (.int (1 : Int32))] [(.int (1 : Int32))]))) (fun _ k => XS.iload X50.here hx rfl (hb hby at_96) rfl k) ?_
    refine own_step (S' := (T50.setTop (mkF m 101 #[.val (.int p1), .val (.int (2 : Int32)), .val (.ref a_Canonicalization_INCLUSIVE_11), .val (.ref a_Canonicalization_INCLUSIVE_11), .val (.int (1 : Int32)), .val (.int (1 : Int32)), .val (.int (1 : Int32))] []))) (fun _ k => XS.ifNo X50.here hx rfl (hb hby at_98) rfl ((if0 _ _).trans (feq (by decide : ¬ ((1 : Int32) = (0 : Int32)))).1) k) ?_
    refine own_step (S' := (T50.setTop (mkF m 103 #[.val (.int p1), .val (.int (2 : Int32)), .val (.ref a_Canonicalization_INCLUSIVE_11), .val (.ref a_Canonicalization_INCLUSIVE_11), .val (.int (1 : Int32)), .val (.int (1 : Int32)), .val (.int (1 : Int32))] [(.int (1 : Int32))]))) (fun _ k => XS.iload X50.here hx rfl (hb hby at_101) rfl k) ?_
    refine own_step (S' := (T50.setTop (mkF m 106 #[.val (.int p1), .val (.int (2 : Int32)), .val (.ref a_Canonicalization_INCLUSIVE_11), .val (.ref a_Canonicalization_INCLUSIVE_11), .val (.int (1 : Int32)), .val (.int (1 : Int32)), .val (.int (1 : Int32))] []))) (fun _ k => XS.ifNo X50.here hx rfl (hb hby at_103) rfl ((if0 _ _).trans (feq (by decide : ¬ ((1 : Int32) = (0 : Int32)))).1) k) ?_
    refine own_step (S' := (T50.setTop (mkF m 108 #[.val (.int p1), .val (.int (2 : Int32)), .val (.ref a_Canonicalization_INCLUSIVE_11), .val (.ref a_Canonicalization_INCLUSIVE_11), .val (.int (1 : Int32)), .val (.int (1 : Int32)), .val (.int (1 : Int32))] [(.int (1 : Int32))]))) (fun _ k => XS.iload X50.here hx rfl (hb hby at_106) rfl k) ?_
    refine own_step (S' := (T50.setTop (mkF m 111 #[.val (.int p1), .val (.int (2 : Int32)), .val (.ref a_Canonicalization_INCLUSIVE_11), .val (.ref a_Canonicalization_INCLUSIVE_11), .val (.int (1 : Int32)), .val (.int (1 : Int32)), .val (.int (1 : Int32))] []))) (fun _ k => XS.ifNo X50.here hx rfl (hb hby at_108) rfl ((if0 _ _).trans (feq (by decide : ¬ ((1 : Int32) = (0 : Int32)))).1) k) ?_
    refine own_step (S' := (T50.setTop (mkF m 112 #[.val (.int p1), .val (.int (2 : Int32)), .val (.ref a_Canonicalization_INCLUSIVE_11), .val (.ref a_Canonicalization_INCLUSIVE_11), .val (.int (1 : Int32)), .val (.int (1 : Int32)), .val (.int (1 : Int32))] [(.int (1 : Int32))]))) (fun _ k => XS.iconst X50.here hx rfl (hb hby at_111) k) ?_
    refine own_step (S' := (T50.setTop (mkF m 116 #[.val (.int p1), .val (.int (2 : Int32)), .val (.ref a_Canonicalization_INCLUSIVE_11), .val (.ref a_Canonicalization_INCLUSIVE_11), .val (.int (1 : Int32)), .val (.int (1 : Int32)), .val (.int (1 : Int32))] [(.int (1 : Int32))]))) (fun _ k => XS.goto X50.here hx rfl (pc0 := 112) (pc' := 116) rfl (hb hby at_112) (by decide) (by decide) k) ?_
    refine own_retN X50 hx hlk hret (by simp) (by decide) (hb hby at_116) (by decide) (by decide) ?_
    try rw [e50]
    exact ⟨rfl, N50⟩
  · rw [hr25]
    refine own_step (S' := (s₁.setTop (mkF m 8 #[.val (.int p1), .val (.int (3 : Int32)), .unset, .unset, .unset, .unset, .unset] []))) (fun _ k => XS.istoreN X0.here hx rfl (hb hby at_7) rfl (l' := #[.val (.int p1), .val (.int (3 : Int32)), .unset, .unset, .unset, .unset, .unset]) rfl k) ?_
    refine own_step (S' := (s₁.setTop (mkF m 9 #[.val (.int p1), .val (.int (3 : Int32)), .unset, .unset, .unset, .unset, .unset] [(.int (3 : Int32))]))) (fun _ k => XS.iloadN X0.here hx rfl (hb hby at_8) rfl k) ?_
    obtain ⟨_, T51, L51, X51, ⟨rfl, N51q, e51⟩, st51⟩ := own_stat (argsL := [(.int (3 : Int32))]) (rest := []) X0 hx hZ hown (hw _ (List.mem_of_getElem? (i := 1) rfl)) (hw _ (List.mem_of_getElem? (i := 2) rfl)) (by decide) (hw _ (List.mem_of_getElem? (i := 4) rfl)) (hw _ (List.mem_of_getElem? (i := 3) rfl)) e0 (hM := rmP_3 l Z a0 hw [] a_Canonicalization_INCLUSIVE_11_WITH_COMMENTS h0 n0 Z0 S_Canonicalization_INCLUSIVE_11_WITH_COMMENTS) (g := (mkF m 9 #[.val (.int p1), .val (.int (3 : Int32)), .unset, .unset, .unset, .unset, .unset] [(.int (3 : Int32))])) (hg := rfl) (hsize := by rw [hml]; rfl) (hlen := lenOf pd_1 rfl) (hstack := rfl) (W := 0) (hW := by show 2 * 0 + _ ≤ _; exact Nat.le_of_eq rfl) (hd := (hb hby at_9)) (hf := by decide) (hl := by decide) (hc := by decide) (hs := by decide)
    have N51 := Fr.app N0 N51q
    refine own_step (S' := (T51.setTop (mkF m 12 #[.val (.int p1), .val (.int (3 : Int32)), .unset, .unset, .unset, .unset, .unset] [(.ref a_Canonicalization_INCLUSIVE_11_WITH_COMMENTS)]))) (fun _ k => st51 _ k) ?_
    refine own_step (S' := (T51.setTop (mkF m 13 #[.val (.int p1), .val (.int (3 : Int32)), .val (.ref a_Canonicalization_INCLUSIVE_11_WITH_COMMENTS), .unset, .unset, .unset, .unset] []))) (fun _ k => XS.astoreN X51.here hx rfl (hb hby at_12) rfl rfl (l' := #[.val (.int p1), .val (.int (3 : Int32)), .val (.ref a_Canonicalization_INCLUSIVE_11_WITH_COMMENTS), .unset, .unset, .unset, .unset]) rfl k) ?_
    refine own_step (S' := (T51.setTop (mkF m 14 #[.val (.int p1), .val (.int (3 : Int32)), .val (.ref a_Canonicalization_INCLUSIVE_11_WITH_COMMENTS), .unset, .unset, .unset, .unset] [(.ref a_Canonicalization_INCLUSIVE_11_WITH_COMMENTS)]))) (fun _ k => XS.aloadN X51.here hx rfl (hb hby at_13) rfl rfl k) ?_
    obtain ⟨_, T52, L52, X52, ⟨rfl, N52q, e52⟩, st52⟩ := own_virt (argsL := []) (rest := []) X51 hx hZ hown (hw _ (List.mem_of_getElem? (i := 8) rfl)) (hw _ (List.mem_of_getElem? (i := 9) rfl)) (notFace_of_selects (args := #[]) (mvT hZ (hw _ (List.mem_of_getElem? (i := 11) rfl)))) (hw _ (List.mem_of_getElem? (i := 11) rfl)) (hw _ (List.mem_of_getElem? (i := 10) rfl)) (by decide) (hw _ (List.mem_of_getElem? (i := 12) rfl)) (hw _ (List.mem_of_getElem? (i := 6) rfl)) e51 E_Canonicalization_INCLUSIVE_11_WITH_COMMENTS (hM := rmW_3 l Z a0 hw [] a_Canonicalization_INCLUSIVE_11_WITH_COMMENTS a_Canonicalization_INCLUSIVE_11 h0 n0 Z0 F_Canonicalization_INCLUSIVE_11_WITH_COMMENTS_ordinal E_Canonicalization_INCLUSIVE_11_WITH_COMMENTS S_Canonicalization_INCLUSIVE_11) (g := (mkF m 14 #[.val (.int p1), .val (.int (3 : Int32)), .val (.ref a_Canonicalization_INCLUSIVE_11_WITH_COMMENTS), .unset, .unset, .unset, .unset] [(.ref a_Canonicalization_INCLUSIVE_11_WITH_COMMENTS)])) (hg := rfl) (hsize := by rw [hml]; rfl) (hlen := lenOf pd_2 rfl) (hstack := rfl) (W := 0) (hW := by show 2 * 0 + _ ≤ _; exact Nat.le_of_eq rfl) (hd := (hb hby at_14)) (hf := by decide) (hl := by decide) (hc := by decide) (hs := by decide)
    have N52 := Fr.app N51 N52q
    refine own_step (S' := (T52.setTop (mkF m 17 #[.val (.int p1), .val (.int (3 : Int32)), .val (.ref a_Canonicalization_INCLUSIVE_11_WITH_COMMENTS), .unset, .unset, .unset, .unset] [(.ref a_Canonicalization_INCLUSIVE_11)]))) (fun _ k => st52 _ k) ?_
    refine own_step (S' := (T52.setTop (mkF m 18 #[.val (.int p1), .val (.int (3 : Int32)), .val (.ref a_Canonicalization_INCLUSIVE_11_WITH_COMMENTS), .val (.ref a_Canonicalization_INCLUSIVE_11), .unset, .unset, .unset] []))) (fun _ k => XS.astoreN X52.here hx rfl (hb hby at_17) rfl rfl (l' := #[.val (.int p1), .val (.int (3 : Int32)), .val (.ref a_Canonicalization_INCLUSIVE_11_WITH_COMMENTS), .val (.ref a_Canonicalization_INCLUSIVE_11), .unset, .unset, .unset]) rfl k) ?_
    refine own_step (S' := (T52.setTop (mkF m 19 #[.val (.int p1), .val (.int (3 : Int32)), .val (.ref a_Canonicalization_INCLUSIVE_11_WITH_COMMENTS), .val (.ref a_Canonicalization_INCLUSIVE_11), .unset, .unset, .unset] [(.ref a_Canonicalization_INCLUSIVE_11)]))) (fun _ k => XS.aloadN X52.here hx rfl (hb hby at_18) rfl rfl k) ?_
    refine own_step (S' := (T52.setTop (mkF m 24 #[.val (.int p1), .val (.int (3 : Int32)), .val (.ref a_Canonicalization_INCLUSIVE_11_WITH_COMMENTS), .val (.ref a_Canonicalization_INCLUSIVE_11), .unset, .unset, .unset] []))) (fun _ k => XS.ifnonnullYes X52.here hx rfl (pc0 := 19) (pc' := 24) rfl (hb hby at_19) rfl (by decide) (by decide) k) ?_
    refine own_step (S' := (T52.setTop (mkF m 25 #[.val (.int p1), .val (.int (3 : Int32)), .val (.ref a_Canonicalization_INCLUSIVE_11_WITH_COMMENTS), .val (.ref a_Canonicalization_INCLUSIVE_11), .unset, .unset, .unset] [(.ref a_Canonicalization_INCLUSIVE_11)]))) (fun _ k => XS.aloadN X52.here hx rfl (hb hby at_24) rfl rfl k) ?_
    obtain ⟨T53, X53, e53, st53⟩ := getS2 X52 hx hZ hown (host := "") (Or.inl (hw _ (List.mem_of_getElem? (i := 5) rfl))) Via.refl e52 S_Canonicalization_INCLUSIVE (g := (mkF m 25 #[.val (.int p1), .val (.int (3 : Int32)), .val (.ref a_Canonicalization_INCLUSIVE_11_WITH_COMMENTS), .val (.ref a_Canonicalization_INCLUSIVE_11), .unset, .unset, .unset] [(.ref a_Canonicalization_INCLUSIVE_11)])) rfl (hb hby at_25)
    refine own_step (S' := (T53.setTop (mkF m 28 #[.val (.int p1), .val (.int (3 : Int32)), .val (.ref a_Canonicalization_INCLUSIVE_11_WITH_COMMENTS), .val (.ref a_Canonicalization_INCLUSIVE_11), .unset, .unset, .unset] [(.ref a_Canonicalization_INCLUSIVE), (.ref a_Canonicalization_INCLUSIVE_11)]))) (fun _ k => st53 _ k) ?_
    refine own_step (S' := (T53.setTop (mkF m 31 #[.val (.int p1), .val (.int (3 : Int32)), .val (.ref a_Canonicalization_INCLUSIVE_11_WITH_COMMENTS), .val (.ref a_Canonicalization_INCLUSIVE_11), .unset, .unset, .unset] []))) (fun _ k => Jvm.RoadKit.acmp (g := (mkF m 28 #[.val (.int p1), .val (.int (3 : Int32)), .val (.ref a_Canonicalization_INCLUSIVE_11_WITH_COMMENTS), .val (.ref a_Canonicalization_INCLUSIVE_11), .unset, .unset, .unset] [(.ref a_Canonicalization_INCLUSIVE), (.ref a_Canonicalization_INCLUSIVE_11)])) X53 hx rfl rfl rfl (pc0 := 28) (pc' := 31) (same := false) rfl (hb hby at_28) rfl (decide_eq_false fun q => (Fld.ne F_Canonicalization_INCLUSIVE_11_ordinal F_Canonicalization_INCLUSIVE_ordinal (by decide)) (Value.ref.inj q)) (by decide) (by decide) k) ?_
    refine own_step (S' := (T53.setTop (mkF m 32 #[.val (.int p1), .val (.int (3 : Int32)), .val (.ref a_Canonicalization_INCLUSIVE_11_WITH_COMMENTS), .val (.ref a_Canonicalization_INCLUSIVE_11), .unset, .unset, .unset] [(.ref a_Canonicalization_INCLUSIVE_11)]))) (fun _ k => XS.aloadN X53.here hx rfl (hb hby at_31) rfl rfl k) ?_
    obtain ⟨T54, X54, e54, st54⟩ := getS2 X53 hx hZ hown (host := "") (Or.inl (hw _ (List.mem_of_getElem? (i := 44) rfl))) Via.refl e53 S_Canonicalization_INCLUSIVE_11 (g := (mkF m 32 #[.val (.int p1), .val (.int (3 : Int32)), .val (.ref a_Canonicalization_INCLUSIVE_11_WITH_COMMENTS), .val (.ref a_Canonicalization_INCLUSIVE_11), .unset, .unset, .unset] [(.ref a_Canonicalization_INCLUSIVE_11)])) rfl (hb hby at_32)
    refine own_step (S' := (T54.setTop (mkF m 35 #[.val (.int p1), .val (.int (3 : Int32)), .val (.ref a_Canonicalization_INCLUSIVE_11_WITH_COMMENTS), .val (.ref a_Canonicalization_INCLUSIVE_11), .unset, .unset, .unset] [(.ref a_Canonicalization_INCLUSIVE_11), (.ref a_Canonicalization_INCLUSIVE_11)]))) (fun _ k => st54 _ k) ?_
    refine own_step (S' := (T54.setTop (mkF m 45 #[.val (.int p1), .val (.int (3 : Int32)), .val (.ref a_Canonicalization_INCLUSIVE_11_WITH_COMMENTS), .val (.ref a_Canonicalization_INCLUSIVE_11), .unset, .unset, .unset] []))) (fun _ k => Jvm.RoadKit.acmp (g := (mkF m 35 #[.val (.int p1), .val (.int (3 : Int32)), .val (.ref a_Canonicalization_INCLUSIVE_11_WITH_COMMENTS), .val (.ref a_Canonicalization_INCLUSIVE_11), .unset, .unset, .unset] [(.ref a_Canonicalization_INCLUSIVE_11), (.ref a_Canonicalization_INCLUSIVE_11)])) X54 hx rfl rfl rfl (pc0 := 35) (pc' := 45) (same := true) rfl (hb hby at_35) rfl (decide_eq_true rfl) (by decide) (by decide) k) ?_
    refine own_step (S' := (T54.setTop (mkF m 46 #[.val (.int p1), .val (.int (3 : Int32)), .val (.ref a_Canonicalization_INCLUSIVE_11_WITH_COMMENTS), .val (.ref a_Canonicalization_INCLUSIVE_11), .unset, .unset, .unset] [(.int (1 : Int32))]))) (fun _ k => XS.iconst X54.here hx rfl (hb hby at_45) k) ?_
    refine own_step (S' := (T54.setTop (mkF m 50 #[.val (.int p1), .val (.int (3 : Int32)), .val (.ref a_Canonicalization_INCLUSIVE_11_WITH_COMMENTS), .val (.ref a_Canonicalization_INCLUSIVE_11), .unset, .unset, .unset] [(.int (1 : Int32))]))) (fun _ k => XS.goto X54.here hx rfl (pc0 := 46) (pc' := 50) rfl (hb hby at_46) (by decide) (by decide) k) ?_
    refine own_step (S' := (T54.setTop (mkF m 52 #[.val (.int p1), .val (.int (3 : Int32)), .val (.ref a_Canonicalization_INCLUSIVE_11_WITH_COMMENTS), .val (.ref a_Canonicalization_INCLUSIVE_11), .val (.int (1 : Int32)), .unset, .unset] []))) (fun _ k => XS.istore X54.here hx rfl (hb hby at_50) rfl (l' := #[.val (.int p1), .val (.int (3 : Int32)), .val (.ref a_Canonicalization_INCLUSIVE_11_WITH_COMMENTS), .val (.ref a_Canonicalization_INCLUSIVE_11), .val (.int (1 : Int32)), .unset, .unset]) rfl k) ?_
    refine own_step (S' := (T54.setTop (mkF m 53 #[.val (.int p1), .val (.int (3 : Int32)), .val (.ref a_Canonicalization_INCLUSIVE_11_WITH_COMMENTS), .val (.ref a_Canonicalization_INCLUSIVE_11), .val (.int (1 : Int32)), .unset, .unset] [(.ref a_Canonicalization_INCLUSIVE_11)]))) (fun _ k => XS.aloadN X54.here hx rfl (hb hby at_52) rfl rfl k) ?_
    obtain ⟨_, T55, L55, X55, ⟨rfl, N55q, e55⟩, st55⟩ := own_virt (argsL := []) (rest := []) X54 hx hZ hown (hw _ (List.mem_of_getElem? (i := 22) rfl)) (hw _ (List.mem_of_getElem? (i := 23) rfl)) (notFace_of_selects (args := #[]) (mvT hZ (hw _ (List.mem_of_getElem? (i := 25) rfl)))) (hw _ (List.mem_of_getElem? (i := 25) rfl)) (hw _ (List.mem_of_getElem? (i := 24) rfl)) (by decide) (hw _ (List.mem_of_getElem? (i := 26) rfl)) (hw _ (List.mem_of_getElem? (i := 6) rfl)) e54 E_Canonicalization_INCLUSIVE_11 (hM := rmX_0 l Z a0 hw [] a_Canonicalization_INCLUSIVE_11 a_Kind_INCLUSIVE_11 a_Kind_EXCLUSIVE h0 n0 Z0 F_Canonicalization_INCLUSIVE_11_kind S_Kind_EXCLUSIVE (Fld.ne F_Kind_INCLUSIVE_11_ordinal F_Kind_EXCLUSIVE_ordinal (by decide))) (g := (mkF m 53 #[.val (.int p1), .val (.int (3 : Int32)), .val (.ref a_Canonicalization_INCLUSIVE_11_WITH_COMMENTS), .val (.ref a_Canonicalization_INCLUSIVE_11), .val (.int (1 : Int32)), .unset, .unset] [(.ref a_Canonicalization_INCLUSIVE_11)])) (hg := rfl) (hsize := by rw [hml]; rfl) (hlen := lenOf pd_3 rfl) (hstack := rfl) (W := 0) (hW := by show 2 * 0 + _ ≤ _; exact Nat.le_of_eq rfl) (hd := (hb hby at_53)) (hf := by decide) (hl := by decide) (hc := by decide) (hs := by decide)
    have N55 := Fr.app N52 N55q
    refine own_step (S' := (T55.setTop (mkF m 56 #[.val (.int p1), .val (.int (3 : Int32)), .val (.ref a_Canonicalization_INCLUSIVE_11_WITH_COMMENTS), .val (.ref a_Canonicalization_INCLUSIVE_11), .val (.int (1 : Int32)), .unset, .unset] [(.int (0 : Int32))]))) (fun _ k => st55 _ k) ?_
    refine own_step (S' := (T55.setTop (mkF m 57 #[.val (.int p1), .val (.int (3 : Int32)), .val (.ref a_Canonicalization_INCLUSIVE_11_WITH_COMMENTS), .val (.ref a_Canonicalization_INCLUSIVE_11), .val (.int (1 : Int32)), .unset, .unset] [(.ref a_Canonicalization_INCLUSIVE_11_WITH_COMMENTS), (.int (0 : Int32))]))) (fun _ k => XS.aloadN X55.here hx rfl (hb hby at_56) rfl rfl k) ?_
    obtain ⟨_, T56, L56, X56, ⟨rfl, N56q, e56⟩, st56⟩ := own_virt (argsL := []) (rest := [(.int (0 : Int32))]) X55 hx hZ hown (hw _ (List.mem_of_getElem? (i := 22) rfl)) (hw _ (List.mem_of_getElem? (i := 23) rfl)) (notFace_of_selects (args := #[]) (mvT hZ (hw _ (List.mem_of_getElem? (i := 25) rfl)))) (hw _ (List.mem_of_getElem? (i := 25) rfl)) (hw _ (List.mem_of_getElem? (i := 24) rfl)) (by decide) (hw _ (List.mem_of_getElem? (i := 26) rfl)) (hw _ (List.mem_of_getElem? (i := 6) rfl)) e55 E_Canonicalization_INCLUSIVE_11_WITH_COMMENTS (hM := rmX_0 l Z a0 hw [] a_Canonicalization_INCLUSIVE_11_WITH_COMMENTS a_Kind_INCLUSIVE_11 a_Kind_EXCLUSIVE h0 n0 Z0 F_Canonicalization_INCLUSIVE_11_WITH_COMMENTS_kind S_Kind_EXCLUSIVE (Fld.ne F_Kind_INCLUSIVE_11_ordinal F_Kind_EXCLUSIVE_ordinal (by decide))) (g := (mkF m 57 #[.val (.int p1), .val (.int (3 : Int32)), .val (.ref a_Canonicalization_INCLUSIVE_11_WITH_COMMENTS), .val (.ref a_Canonicalization_INCLUSIVE_11), .val (.int (1 : Int32)), .unset, .unset] [(.ref a_Canonicalization_INCLUSIVE_11_WITH_COMMENTS), (.int (0 : Int32))])) (hg := rfl) (hsize := by rw [hml]; rfl) (hlen := lenOf pd_3 rfl) (hstack := rfl) (W := 1) (hW := by show 2 * 0 + _ ≤ _; exact Nat.le_of_eq rfl) (hd := (hb hby at_57)) (hf := by decide) (hl := by decide) (hc := by decide) (hs := by decide)
    have N56 := Fr.app N55 N56q
    refine own_step (S' := (T56.setTop (mkF m 60 #[.val (.int p1), .val (.int (3 : Int32)), .val (.ref a_Canonicalization_INCLUSIVE_11_WITH_COMMENTS), .val (.ref a_Canonicalization_INCLUSIVE_11), .val (.int (1 : Int32)), .unset, .unset] [(.int (0 : Int32)), (.int (0 : Int32))]))) (fun _ k => st56 _ k) ?_
    refine own_step (S' := (T56.setTop (mkF m 63 #[.val (.int p1), .val (.int (3 : Int32)), .val (.ref a_Canonicalization_INCLUSIVE_11_WITH_COMMENTS), .val (.ref a_Canonicalization_INCLUSIVE_11), .val (.int (1 : Int32)), .unset, .unset] []))) (fun _ k => XS.icmpNo X56.here hx rfl (hb hby at_60) rfl (teq (by decide : (0 : Int32) = (0 : Int32))).2 k) ?_
    refine own_step (S' := (T56.setTop (mkF m 64 #[.val (.int p1), .val (.int (3 : Int32)), .val (.ref a_Canonicalization_INCLUSIVE_11_WITH_COMMENTS), .val (.ref a_Canonicalization_INCLUSIVE_11), .val (.int (1 : Int32)), .unset, .unset] [(.ref a_Canonicalization_INCLUSIVE_11)]))) (fun _ k => XS.aloadN X56.here hx rfl (hb hby at_63) rfl rfl k) ?_
    obtain ⟨_, T57, L57, X57, ⟨rfl, N57q, e57⟩, st57⟩ := own_virt (argsL := []) (rest := []) X56 hx hZ hown (hw _ (List.mem_of_getElem? (i := 33) rfl)) (hw _ (List.mem_of_getElem? (i := 34) rfl)) (notFace_of_selects (args := #[]) (mvT hZ (hw _ (List.mem_of_getElem? (i := 36) rfl)))) (hw _ (List.mem_of_getElem? (i := 36) rfl)) (hw _ (List.mem_of_getElem? (i := 35) rfl)) (by decide) (hw _ (List.mem_of_getElem? (i := 37) rfl)) (hw _ (List.mem_of_getElem? (i := 6) rfl)) e56 E_Canonicalization_INCLUSIVE_11 (hM := rmS_0 l Z a0 hw [] a_Canonicalization_INCLUSIVE_11 a_Kind_INCLUSIVE_11 a_Kind_INCLUSIVE_11 h0 n0 Z0 F_Canonicalization_INCLUSIVE_11_kind S_Kind_INCLUSIVE_11 rfl) (g := (mkF m 64 #[.val (.int p1), .val (.int (3 : Int32)), .val (.ref a_Canonicalization_INCLUSIVE_11_WITH_COMMENTS), .val (.ref a_Canonicalization_INCLUSIVE_11), .val (.int (1 : Int32)), .unset, .unset] [(.ref a_Canonicalization_INCLUSIVE_11)])) (hg := rfl) (hsize := by rw [hml]; rfl) (hlen := lenOf pd_3 rfl) (hstack := rfl) (W := 0) (hW := by show 2 * 0 + _ ≤ _; exact Nat.le_of_eq rfl) (hd := (hb hby at_64)) (hf := by decide) (hl := by decide) (hc := by decide) (hs := by decide)
    have N57 := Fr.app N56 N57q
    refine own_step (S' := (T57.setTop (mkF m 67 #[.val (.int p1), .val (.int (3 : Int32)), .val (.ref a_Canonicalization_INCLUSIVE_11_WITH_COMMENTS), .val (.ref a_Canonicalization_INCLUSIVE_11), .val (.int (1 : Int32)), .unset, .unset] [(.int (0 : Int32))]))) (fun _ k => st57 _ k) ?_
    refine own_step (S' := (T57.setTop (mkF m 68 #[.val (.int p1), .val (.int (3 : Int32)), .val (.ref a_Canonicalization_INCLUSIVE_11_WITH_COMMENTS), .val (.ref a_Canonicalization_INCLUSIVE_11), .val (.int (1 : Int32)), .unset, .unset] [(.ref a_Canonicalization_INCLUSIVE_11_WITH_COMMENTS), (.int (0 : Int32))]))) (fun _ k => XS.aloadN X57.here hx rfl (hb hby at_67) rfl rfl k) ?_
    obtain ⟨_, T58, L58, X58, ⟨rfl, N58q, e58⟩, st58⟩ := own_virt (argsL := []) (rest := [(.int (0 : Int32))]) X57 hx hZ hown (hw _ (List.mem_of_getElem? (i := 33) rfl)) (hw _ (List.mem_of_getElem? (i := 34) rfl)) (notFace_of_selects (args := #[]) (mvT hZ (hw _ (List.mem_of_getElem? (i := 36) rfl)))) (hw _ (List.mem_of_getElem? (i := 36) rfl)) (hw _ (List.mem_of_getElem? (i := 35) rfl)) (by decide) (hw _ (List.mem_of_getElem? (i := 37) rfl)) (hw _ (List.mem_of_getElem? (i := 6) rfl)) e57 E_Canonicalization_INCLUSIVE_11_WITH_COMMENTS (hM := rmS_0 l Z a0 hw [] a_Canonicalization_INCLUSIVE_11_WITH_COMMENTS a_Kind_INCLUSIVE_11 a_Kind_INCLUSIVE_11 h0 n0 Z0 F_Canonicalization_INCLUSIVE_11_WITH_COMMENTS_kind S_Kind_INCLUSIVE_11 rfl) (g := (mkF m 68 #[.val (.int p1), .val (.int (3 : Int32)), .val (.ref a_Canonicalization_INCLUSIVE_11_WITH_COMMENTS), .val (.ref a_Canonicalization_INCLUSIVE_11), .val (.int (1 : Int32)), .unset, .unset] [(.ref a_Canonicalization_INCLUSIVE_11_WITH_COMMENTS), (.int (0 : Int32))])) (hg := rfl) (hsize := by rw [hml]; rfl) (hlen := lenOf pd_3 rfl) (hstack := rfl) (W := 1) (hW := by show 2 * 0 + _ ≤ _; exact Nat.le_of_eq rfl) (hd := (hb hby at_68)) (hf := by decide) (hl := by decide) (hc := by decide) (hs := by decide)
    have N58 := Fr.app N57 N58q
    refine own_step (S' := (T58.setTop (mkF m 71 #[.val (.int p1), .val (.int (3 : Int32)), .val (.ref a_Canonicalization_INCLUSIVE_11_WITH_COMMENTS), .val (.ref a_Canonicalization_INCLUSIVE_11), .val (.int (1 : Int32)), .unset, .unset] [(.int (0 : Int32)), (.int (0 : Int32))]))) (fun _ k => st58 _ k) ?_
    refine own_step (S' := (T58.setTop (mkF m 74 #[.val (.int p1), .val (.int (3 : Int32)), .val (.ref a_Canonicalization_INCLUSIVE_11_WITH_COMMENTS), .val (.ref a_Canonicalization_INCLUSIVE_11), .val (.int (1 : Int32)), .unset, .unset] []))) (fun _ k => XS.icmpNo X58.here hx rfl (hb hby at_71) rfl (teq (by decide : (0 : Int32) = (0 : Int32))).2 k) ?_
    refine own_step (S' := (T58.setTop (mkF m 75 #[.val (.int p1), .val (.int (3 : Int32)), .val (.ref a_Canonicalization_INCLUSIVE_11_WITH_COMMENTS), .val (.ref a_Canonicalization_INCLUSIVE_11), .val (.int (1 : Int32)), .unset, .unset] [(.int (1 : Int32))]))) (fun _ k => XS.iconst X58.here hx rfl (hb hby at_74) k) ?_
    refine own_step (S' := (T58.setTop (mkF m 79 #[.val (.int p1), .val (.int (3 : Int32)), .val (.ref a_Canonicalization_INCLUSIVE_11_WITH_COMMENTS), .val (.ref a_Canonicalization_INCLUSIVE_11), .val (.int (1 : Int32)), .unset, .unset] [(.int (1 : Int32))]))) (fun _ k => XS.goto X58.here hx rfl (pc0 := 75) (pc' := 79) rfl (hb hby at_75) (by decide) (by decide) k) ?_
    refine own_step (S' := (T58.setTop (mkF m 81 #[.val (.int p1), .val (.int (3 : Int32)), .val (.ref a_Canonicalization_INCLUSIVE_11_WITH_COMMENTS), .val (.ref a_Canonicalization_INCLUSIVE_11), .val (.int (1 : Int32)), .val (.int (1 : Int32)), .unset] []))) (fun _ k => XS.istore X58.here hx rfl (hb hby at_79) rfl (l' := #[.val (.int p1), .val (.int (3 : Int32)), .val (.ref a_Canonicalization_INCLUSIVE_11_WITH_COMMENTS), .val (.ref a_Canonicalization_INCLUSIVE_11), .val (.int (1 : Int32)), .val (.int (1 : Int32)), .unset]) rfl k) ?_
    refine own_step (S' := (T58.setTop (mkF m 82 #[.val (.int p1), .val (.int (3 : Int32)), .val (.ref a_Canonicalization_INCLUSIVE_11_WITH_COMMENTS), .val (.ref a_Canonicalization_INCLUSIVE_11), .val (.int (1 : Int32)), .val (.int (1 : Int32)), .unset] [(.ref a_Canonicalization_INCLUSIVE_11)]))) (fun _ k => XS.aloadN X58.here hx rfl (hb hby at_81) rfl rfl k) ?_
    obtain ⟨_, T59, L59, X59, ⟨rfl, N59q, e59⟩, st59⟩ := own_virt (argsL := []) (rest := []) X58 hx hZ hown (hw _ (List.mem_of_getElem? (i := 8) rfl)) (hw _ (List.mem_of_getElem? (i := 9) rfl)) (notFace_of_selects (args := #[]) (mvT hZ (hw _ (List.mem_of_getElem? (i := 11) rfl)))) (hw _ (List.mem_of_getElem? (i := 11) rfl)) (hw _ (List.mem_of_getElem? (i := 10) rfl)) (by decide) (hw _ (List.mem_of_getElem? (i := 12) rfl)) (hw _ (List.mem_of_getElem? (i := 6) rfl)) e58 E_Canonicalization_INCLUSIVE_11 (hM := rmW_2 l Z a0 hw [] a_Canonicalization_INCLUSIVE_11 h0 n0 Z0 F_Canonicalization_INCLUSIVE_11_ordinal E_Canonicalization_INCLUSIVE_11) (g := (mkF m 82 #[.val (.int p1), .val (.int (3 : Int32)), .val (.ref a_Canonicalization_INCLUSIVE_11_WITH_COMMENTS), .val (.ref a_Canonicalization_INCLUSIVE_11), .val (.int (1 : Int32)), .val (.int (1 : Int32)), .unset] [(.ref a_Canonicalization_INCLUSIVE_11)])) (hg := rfl) (hsize := by rw [hml]; rfl) (hlen := lenOf pd_2 rfl) (hstack := rfl) (W := 0) (hW := by show 2 * 0 + _ ≤ _; exact Nat.le_of_eq rfl) (hd := (hb hby at_82)) (hf := by decide) (hl := by decide) (hc := by decide) (hs := by decide)
    have N59 := Fr.app N58 N59q
    refine own_step (S' := (T59.setTop (mkF m 85 #[.val (.int p1), .val (.int (3 : Int32)), .val (.ref a_Canonicalization_INCLUSIVE_11_WITH_COMMENTS), .val (.ref a_Canonicalization_INCLUSIVE_11), .val (.int (1 : Int32)), .val (.int (1 : Int32)), .unset] [(.ref a_Canonicalization_INCLUSIVE_11)]))) (fun _ k => st59 _ k) ?_
    refine own_step (S' := (T59.setTop (mkF m 86 #[.val (.int p1), .val (.int (3 : Int32)), .val (.ref a_Canonicalization_INCLUSIVE_11_WITH_COMMENTS), .val (.ref a_Canonicalization_INCLUSIVE_11), .val (.int (1 : Int32)), .val (.int (1 : Int32)), .unset] [(.ref a_Canonicalization_INCLUSIVE_11), (.ref a_Canonicalization_INCLUSIVE_11)]))) (fun _ k => XS.aloadN X59.here hx rfl (hb hby at_85) rfl rfl k) ?_
    refine own_step (S' := (T59.setTop (mkF m 89 #[.val (.int p1), .val (.int (3 : Int32)), .val (.ref a_Canonicalization_INCLUSIVE_11_WITH_COMMENTS), .val (.ref a_Canonicalization_INCLUSIVE_11), .val (.int (1 : Int32)), .val (.int (1 : Int32)), .unset] []))) (fun _ k => Jvm.RoadKit.acmp (g := (mkF m 86 #[.val (.int p1), .val (.int (3 : Int32)), .val (.ref a_Canonicalization_INCLUSIVE_11_WITH_COMMENTS), .val (.ref a_Canonicalization_INCLUSIVE_11), .val (.int (1 : Int32)), .val (.int (1 : Int32)), .unset] [(.ref a_Canonicalization_INCLUSIVE_11), (.ref a_Canonicalization_INCLUSIVE_11)])) X59 hx rfl rfl rfl (pc0 := 86) (pc' := 89) (same := true) rfl (hb hby at_86) rfl (decide_eq_true rfl) (by decide) (by decide) k) ?_
    refine own_step (S' := (T59.setTop (mkF m 90 #[.val (.int p1), .val (.int (3 : Int32)), .val (.ref a_Canonicalization_INCLUSIVE_11_WITH_COMMENTS), .val (.ref a_Canonicalization_INCLUSIVE_11), .val (.int (1 : Int32)), .val (.int (1 : Int32)), .unset] [(.int (1 : Int32))]))) (fun _ k => XS.iconst X59.here hx rfl (hb hby at_89) k) ?_
    refine own_step (S' := (T59.setTop (mkF m 94 #[.val (.int p1), .val (.int (3 : Int32)), .val (.ref a_Canonicalization_INCLUSIVE_11_WITH_COMMENTS), .val (.ref a_Canonicalization_INCLUSIVE_11), .val (.int (1 : Int32)), .val (.int (1 : Int32)), .unset] [(.int (1 : Int32))]))) (fun _ k => XS.goto X59.here hx rfl (pc0 := 90) (pc' := 94) rfl (hb hby at_90) (by decide) (by decide) k) ?_
    refine own_step (S' := (T59.setTop (mkF m 96 #[.val (.int p1), .val (.int (3 : Int32)), .val (.ref a_Canonicalization_INCLUSIVE_11_WITH_COMMENTS), .val (.ref a_Canonicalization_INCLUSIVE_11), .val (.int (1 : Int32)), .val (.int (1 : Int32)), .val (.int (1 : Int32))] []))) (fun _ k => XS.istore X59.here hx rfl (hb hby at_94) rfl (l' := #[.val (.int p1), .val (.int (3 : Int32)), .val (.ref a_Canonicalization_INCLUSIVE_11_WITH_COMMENTS), .val (.ref a_Canonicalization_INCLUSIVE_11), .val (.int (1 : Int32)), .val (.int (1 : Int32)), .val (.int (1 : Int32))]) rfl k) ?_
    refine own_step (S' := (T59.setTop (mkF m 98 #[.val (.int p1), .val (.int (3 : Int32)), .val (.ref a_Canonicalization_INCLUSIVE_11_WITH_COMMENTS), .val (.ref a_Canonicalization_INCLUSIVE_11), .val (.int (1 : Int32)), .val (.int (1 : Int32)), .val (.int (1 : Int32))] [(.int (1 : Int32))]))) (fun _ k => XS.iload X59.here hx rfl (hb hby at_96) rfl k) ?_
    refine own_step (S' := (T59.setTop (mkF m 101 #[.val (.int p1), .val (.int (3 : Int32)), .val (.ref a_Canonicalization_INCLUSIVE_11_WITH_COMMENTS), .val (.ref a_Canonicalization_INCLUSIVE_11), .val (.int (1 : Int32)), .val (.int (1 : Int32)), .val (.int (1 : Int32))] []))) (fun _ k => XS.ifNo X59.here hx rfl (hb hby at_98) rfl ((if0 _ _).trans (feq (by decide : ¬ ((1 : Int32) = (0 : Int32)))).1) k) ?_
    refine own_step (S' := (T59.setTop (mkF m 103 #[.val (.int p1), .val (.int (3 : Int32)), .val (.ref a_Canonicalization_INCLUSIVE_11_WITH_COMMENTS), .val (.ref a_Canonicalization_INCLUSIVE_11), .val (.int (1 : Int32)), .val (.int (1 : Int32)), .val (.int (1 : Int32))] [(.int (1 : Int32))]))) (fun _ k => XS.iload X59.here hx rfl (hb hby at_101) rfl k) ?_
    refine own_step (S' := (T59.setTop (mkF m 106 #[.val (.int p1), .val (.int (3 : Int32)), .val (.ref a_Canonicalization_INCLUSIVE_11_WITH_COMMENTS), .val (.ref a_Canonicalization_INCLUSIVE_11), .val (.int (1 : Int32)), .val (.int (1 : Int32)), .val (.int (1 : Int32))] []))) (fun _ k => XS.ifNo X59.here hx rfl (hb hby at_103) rfl ((if0 _ _).trans (feq (by decide : ¬ ((1 : Int32) = (0 : Int32)))).1) k) ?_
    refine own_step (S' := (T59.setTop (mkF m 108 #[.val (.int p1), .val (.int (3 : Int32)), .val (.ref a_Canonicalization_INCLUSIVE_11_WITH_COMMENTS), .val (.ref a_Canonicalization_INCLUSIVE_11), .val (.int (1 : Int32)), .val (.int (1 : Int32)), .val (.int (1 : Int32))] [(.int (1 : Int32))]))) (fun _ k => XS.iload X59.here hx rfl (hb hby at_106) rfl k) ?_
    refine own_step (S' := (T59.setTop (mkF m 111 #[.val (.int p1), .val (.int (3 : Int32)), .val (.ref a_Canonicalization_INCLUSIVE_11_WITH_COMMENTS), .val (.ref a_Canonicalization_INCLUSIVE_11), .val (.int (1 : Int32)), .val (.int (1 : Int32)), .val (.int (1 : Int32))] []))) (fun _ k => XS.ifNo X59.here hx rfl (hb hby at_108) rfl ((if0 _ _).trans (feq (by decide : ¬ ((1 : Int32) = (0 : Int32)))).1) k) ?_
    refine own_step (S' := (T59.setTop (mkF m 112 #[.val (.int p1), .val (.int (3 : Int32)), .val (.ref a_Canonicalization_INCLUSIVE_11_WITH_COMMENTS), .val (.ref a_Canonicalization_INCLUSIVE_11), .val (.int (1 : Int32)), .val (.int (1 : Int32)), .val (.int (1 : Int32))] [(.int (1 : Int32))]))) (fun _ k => XS.iconst X59.here hx rfl (hb hby at_111) k) ?_
    refine own_step (S' := (T59.setTop (mkF m 116 #[.val (.int p1), .val (.int (3 : Int32)), .val (.ref a_Canonicalization_INCLUSIVE_11_WITH_COMMENTS), .val (.ref a_Canonicalization_INCLUSIVE_11), .val (.int (1 : Int32)), .val (.int (1 : Int32)), .val (.int (1 : Int32))] [(.int (1 : Int32))]))) (fun _ k => XS.goto X59.here hx rfl (pc0 := 112) (pc' := 116) rfl (hb hby at_112) (by decide) (by decide) k) ?_
    refine own_retN X59 hx hlk hret (by simp) (by decide) (hb hby at_116) (by decide) (by decide) ?_
    try rw [e59]
    exact ⟨rfl, N59⟩
  · rw [hr25]
    refine own_step (S' := (s₁.setTop (mkF m 8 #[.val (.int p1), .val (.int (4 : Int32)), .unset, .unset, .unset, .unset, .unset] []))) (fun _ k => XS.istoreN X0.here hx rfl (hb hby at_7) rfl (l' := #[.val (.int p1), .val (.int (4 : Int32)), .unset, .unset, .unset, .unset, .unset]) rfl k) ?_
    refine own_step (S' := (s₁.setTop (mkF m 9 #[.val (.int p1), .val (.int (4 : Int32)), .unset, .unset, .unset, .unset, .unset] [(.int (4 : Int32))]))) (fun _ k => XS.iloadN X0.here hx rfl (hb hby at_8) rfl k) ?_
    obtain ⟨_, T60, L60, X60, ⟨rfl, N60q, e60⟩, st60⟩ := own_stat (argsL := [(.int (4 : Int32))]) (rest := []) X0 hx hZ hown (hw _ (List.mem_of_getElem? (i := 1) rfl)) (hw _ (List.mem_of_getElem? (i := 2) rfl)) (by decide) (hw _ (List.mem_of_getElem? (i := 4) rfl)) (hw _ (List.mem_of_getElem? (i := 3) rfl)) e0 (hM := rmP_4 l Z a0 hw [] a_Canonicalization_EXCLUSIVE h0 n0 Z0 S_Canonicalization_EXCLUSIVE) (g := (mkF m 9 #[.val (.int p1), .val (.int (4 : Int32)), .unset, .unset, .unset, .unset, .unset] [(.int (4 : Int32))])) (hg := rfl) (hsize := by rw [hml]; rfl) (hlen := lenOf pd_1 rfl) (hstack := rfl) (W := 0) (hW := by show 2 * 0 + _ ≤ _; exact Nat.le_of_eq rfl) (hd := (hb hby at_9)) (hf := by decide) (hl := by decide) (hc := by decide) (hs := by decide)
    have N60 := Fr.app N0 N60q
    refine own_step (S' := (T60.setTop (mkF m 12 #[.val (.int p1), .val (.int (4 : Int32)), .unset, .unset, .unset, .unset, .unset] [(.ref a_Canonicalization_EXCLUSIVE)]))) (fun _ k => st60 _ k) ?_
    refine own_step (S' := (T60.setTop (mkF m 13 #[.val (.int p1), .val (.int (4 : Int32)), .val (.ref a_Canonicalization_EXCLUSIVE), .unset, .unset, .unset, .unset] []))) (fun _ k => XS.astoreN X60.here hx rfl (hb hby at_12) rfl rfl (l' := #[.val (.int p1), .val (.int (4 : Int32)), .val (.ref a_Canonicalization_EXCLUSIVE), .unset, .unset, .unset, .unset]) rfl k) ?_
    refine own_step (S' := (T60.setTop (mkF m 14 #[.val (.int p1), .val (.int (4 : Int32)), .val (.ref a_Canonicalization_EXCLUSIVE), .unset, .unset, .unset, .unset] [(.ref a_Canonicalization_EXCLUSIVE)]))) (fun _ k => XS.aloadN X60.here hx rfl (hb hby at_13) rfl rfl k) ?_
    obtain ⟨_, T61, L61, X61, ⟨rfl, N61q, e61⟩, st61⟩ := own_virt (argsL := []) (rest := []) X60 hx hZ hown (hw _ (List.mem_of_getElem? (i := 8) rfl)) (hw _ (List.mem_of_getElem? (i := 9) rfl)) (notFace_of_selects (args := #[]) (mvT hZ (hw _ (List.mem_of_getElem? (i := 11) rfl)))) (hw _ (List.mem_of_getElem? (i := 11) rfl)) (hw _ (List.mem_of_getElem? (i := 10) rfl)) (by decide) (hw _ (List.mem_of_getElem? (i := 12) rfl)) (hw _ (List.mem_of_getElem? (i := 6) rfl)) e60 E_Canonicalization_EXCLUSIVE (hM := rmW_4 l Z a0 hw [] a_Canonicalization_EXCLUSIVE h0 n0 Z0 F_Canonicalization_EXCLUSIVE_ordinal E_Canonicalization_EXCLUSIVE) (g := (mkF m 14 #[.val (.int p1), .val (.int (4 : Int32)), .val (.ref a_Canonicalization_EXCLUSIVE), .unset, .unset, .unset, .unset] [(.ref a_Canonicalization_EXCLUSIVE)])) (hg := rfl) (hsize := by rw [hml]; rfl) (hlen := lenOf pd_2 rfl) (hstack := rfl) (W := 0) (hW := by show 2 * 0 + _ ≤ _; exact Nat.le_of_eq rfl) (hd := (hb hby at_14)) (hf := by decide) (hl := by decide) (hc := by decide) (hs := by decide)
    have N61 := Fr.app N60 N61q
    refine own_step (S' := (T61.setTop (mkF m 17 #[.val (.int p1), .val (.int (4 : Int32)), .val (.ref a_Canonicalization_EXCLUSIVE), .unset, .unset, .unset, .unset] [(.ref a_Canonicalization_EXCLUSIVE)]))) (fun _ k => st61 _ k) ?_
    refine own_step (S' := (T61.setTop (mkF m 18 #[.val (.int p1), .val (.int (4 : Int32)), .val (.ref a_Canonicalization_EXCLUSIVE), .val (.ref a_Canonicalization_EXCLUSIVE), .unset, .unset, .unset] []))) (fun _ k => XS.astoreN X61.here hx rfl (hb hby at_17) rfl rfl (l' := #[.val (.int p1), .val (.int (4 : Int32)), .val (.ref a_Canonicalization_EXCLUSIVE), .val (.ref a_Canonicalization_EXCLUSIVE), .unset, .unset, .unset]) rfl k) ?_
    refine own_step (S' := (T61.setTop (mkF m 19 #[.val (.int p1), .val (.int (4 : Int32)), .val (.ref a_Canonicalization_EXCLUSIVE), .val (.ref a_Canonicalization_EXCLUSIVE), .unset, .unset, .unset] [(.ref a_Canonicalization_EXCLUSIVE)]))) (fun _ k => XS.aloadN X61.here hx rfl (hb hby at_18) rfl rfl k) ?_
    refine own_step (S' := (T61.setTop (mkF m 24 #[.val (.int p1), .val (.int (4 : Int32)), .val (.ref a_Canonicalization_EXCLUSIVE), .val (.ref a_Canonicalization_EXCLUSIVE), .unset, .unset, .unset] []))) (fun _ k => XS.ifnonnullYes X61.here hx rfl (pc0 := 19) (pc' := 24) rfl (hb hby at_19) rfl (by decide) (by decide) k) ?_
    refine own_step (S' := (T61.setTop (mkF m 25 #[.val (.int p1), .val (.int (4 : Int32)), .val (.ref a_Canonicalization_EXCLUSIVE), .val (.ref a_Canonicalization_EXCLUSIVE), .unset, .unset, .unset] [(.ref a_Canonicalization_EXCLUSIVE)]))) (fun _ k => XS.aloadN X61.here hx rfl (hb hby at_24) rfl rfl k) ?_
    obtain ⟨T62, X62, e62, st62⟩ := getS2 X61 hx hZ hown (host := "") (Or.inl (hw _ (List.mem_of_getElem? (i := 5) rfl))) Via.refl e61 S_Canonicalization_INCLUSIVE (g := (mkF m 25 #[.val (.int p1), .val (.int (4 : Int32)), .val (.ref a_Canonicalization_EXCLUSIVE), .val (.ref a_Canonicalization_EXCLUSIVE), .unset, .unset, .unset] [(.ref a_Canonicalization_EXCLUSIVE)])) rfl (hb hby at_25)
    refine own_step (S' := (T62.setTop (mkF m 28 #[.val (.int p1), .val (.int (4 : Int32)), .val (.ref a_Canonicalization_EXCLUSIVE), .val (.ref a_Canonicalization_EXCLUSIVE), .unset, .unset, .unset] [(.ref a_Canonicalization_INCLUSIVE), (.ref a_Canonicalization_EXCLUSIVE)]))) (fun _ k => st62 _ k) ?_
    refine own_step (S' := (T62.setTop (mkF m 31 #[.val (.int p1), .val (.int (4 : Int32)), .val (.ref a_Canonicalization_EXCLUSIVE), .val (.ref a_Canonicalization_EXCLUSIVE), .unset, .unset, .unset] []))) (fun _ k => Jvm.RoadKit.acmp (g := (mkF m 28 #[.val (.int p1), .val (.int (4 : Int32)), .val (.ref a_Canonicalization_EXCLUSIVE), .val (.ref a_Canonicalization_EXCLUSIVE), .unset, .unset, .unset] [(.ref a_Canonicalization_INCLUSIVE), (.ref a_Canonicalization_EXCLUSIVE)])) X62 hx rfl rfl rfl (pc0 := 28) (pc' := 31) (same := false) rfl (hb hby at_28) rfl (decide_eq_false fun q => (Fld.ne F_Canonicalization_EXCLUSIVE_ordinal F_Canonicalization_INCLUSIVE_ordinal (by decide)) (Value.ref.inj q)) (by decide) (by decide) k) ?_
    refine own_step (S' := (T62.setTop (mkF m 32 #[.val (.int p1), .val (.int (4 : Int32)), .val (.ref a_Canonicalization_EXCLUSIVE), .val (.ref a_Canonicalization_EXCLUSIVE), .unset, .unset, .unset] [(.ref a_Canonicalization_EXCLUSIVE)]))) (fun _ k => XS.aloadN X62.here hx rfl (hb hby at_31) rfl rfl k) ?_
    obtain ⟨T63, X63, e63, st63⟩ := getS2 X62 hx hZ hown (host := "") (Or.inl (hw _ (List.mem_of_getElem? (i := 44) rfl))) Via.refl e62 S_Canonicalization_INCLUSIVE_11 (g := (mkF m 32 #[.val (.int p1), .val (.int (4 : Int32)), .val (.ref a_Canonicalization_EXCLUSIVE), .val (.ref a_Canonicalization_EXCLUSIVE), .unset, .unset, .unset] [(.ref a_Canonicalization_EXCLUSIVE)])) rfl (hb hby at_32)
    refine own_step (S' := (T63.setTop (mkF m 35 #[.val (.int p1), .val (.int (4 : Int32)), .val (.ref a_Canonicalization_EXCLUSIVE), .val (.ref a_Canonicalization_EXCLUSIVE), .unset, .unset, .unset] [(.ref a_Canonicalization_INCLUSIVE_11), (.ref a_Canonicalization_EXCLUSIVE)]))) (fun _ k => st63 _ k) ?_
    refine own_step (S' := (T63.setTop (mkF m 38 #[.val (.int p1), .val (.int (4 : Int32)), .val (.ref a_Canonicalization_EXCLUSIVE), .val (.ref a_Canonicalization_EXCLUSIVE), .unset, .unset, .unset] []))) (fun _ k => Jvm.RoadKit.acmp (g := (mkF m 35 #[.val (.int p1), .val (.int (4 : Int32)), .val (.ref a_Canonicalization_EXCLUSIVE), .val (.ref a_Canonicalization_EXCLUSIVE), .unset, .unset, .unset] [(.ref a_Canonicalization_INCLUSIVE_11), (.ref a_Canonicalization_EXCLUSIVE)])) X63 hx rfl rfl rfl (pc0 := 35) (pc' := 38) (same := false) rfl (hb hby at_35) rfl (decide_eq_false fun q => (Fld.ne F_Canonicalization_EXCLUSIVE_ordinal F_Canonicalization_INCLUSIVE_11_ordinal (by decide)) (Value.ref.inj q)) (by decide) (by decide) k) ?_
    refine own_step (S' := (T63.setTop (mkF m 39 #[.val (.int p1), .val (.int (4 : Int32)), .val (.ref a_Canonicalization_EXCLUSIVE), .val (.ref a_Canonicalization_EXCLUSIVE), .unset, .unset, .unset] [(.ref a_Canonicalization_EXCLUSIVE)]))) (fun _ k => XS.aloadN X63.here hx rfl (hb hby at_38) rfl rfl k) ?_
    obtain ⟨T64, X64, e64, st64⟩ := getS2 X63 hx hZ hown (host := "") (Or.inl (hw _ (List.mem_of_getElem? (i := 52) rfl))) Via.refl e63 S_Canonicalization_EXCLUSIVE (g := (mkF m 39 #[.val (.int p1), .val (.int (4 : Int32)), .val (.ref a_Canonicalization_EXCLUSIVE), .val (.ref a_Canonicalization_EXCLUSIVE), .unset, .unset, .unset] [(.ref a_Canonicalization_EXCLUSIVE)])) rfl (hb hby at_39)
    refine own_step (S' := (T64.setTop (mkF m 42 #[.val (.int p1), .val (.int (4 : Int32)), .val (.ref a_Canonicalization_EXCLUSIVE), .val (.ref a_Canonicalization_EXCLUSIVE), .unset, .unset, .unset] [(.ref a_Canonicalization_EXCLUSIVE), (.ref a_Canonicalization_EXCLUSIVE)]))) (fun _ k => st64 _ k) ?_
    refine own_step (S' := (T64.setTop (mkF m 45 #[.val (.int p1), .val (.int (4 : Int32)), .val (.ref a_Canonicalization_EXCLUSIVE), .val (.ref a_Canonicalization_EXCLUSIVE), .unset, .unset, .unset] []))) (fun _ k => Jvm.RoadKit.acmp (g := (mkF m 42 #[.val (.int p1), .val (.int (4 : Int32)), .val (.ref a_Canonicalization_EXCLUSIVE), .val (.ref a_Canonicalization_EXCLUSIVE), .unset, .unset, .unset] [(.ref a_Canonicalization_EXCLUSIVE), (.ref a_Canonicalization_EXCLUSIVE)])) X64 hx rfl rfl rfl (pc0 := 42) (pc' := 45) (same := true) rfl (hb hby at_42) rfl (decide_eq_true rfl) (by decide) (by decide) k) ?_
    refine own_step (S' := (T64.setTop (mkF m 46 #[.val (.int p1), .val (.int (4 : Int32)), .val (.ref a_Canonicalization_EXCLUSIVE), .val (.ref a_Canonicalization_EXCLUSIVE), .unset, .unset, .unset] [(.int (1 : Int32))]))) (fun _ k => XS.iconst X64.here hx rfl (hb hby at_45) k) ?_
    refine own_step (S' := (T64.setTop (mkF m 50 #[.val (.int p1), .val (.int (4 : Int32)), .val (.ref a_Canonicalization_EXCLUSIVE), .val (.ref a_Canonicalization_EXCLUSIVE), .unset, .unset, .unset] [(.int (1 : Int32))]))) (fun _ k => XS.goto X64.here hx rfl (pc0 := 46) (pc' := 50) rfl (hb hby at_46) (by decide) (by decide) k) ?_
    refine own_step (S' := (T64.setTop (mkF m 52 #[.val (.int p1), .val (.int (4 : Int32)), .val (.ref a_Canonicalization_EXCLUSIVE), .val (.ref a_Canonicalization_EXCLUSIVE), .val (.int (1 : Int32)), .unset, .unset] []))) (fun _ k => XS.istore X64.here hx rfl (hb hby at_50) rfl (l' := #[.val (.int p1), .val (.int (4 : Int32)), .val (.ref a_Canonicalization_EXCLUSIVE), .val (.ref a_Canonicalization_EXCLUSIVE), .val (.int (1 : Int32)), .unset, .unset]) rfl k) ?_
    refine own_step (S' := (T64.setTop (mkF m 53 #[.val (.int p1), .val (.int (4 : Int32)), .val (.ref a_Canonicalization_EXCLUSIVE), .val (.ref a_Canonicalization_EXCLUSIVE), .val (.int (1 : Int32)), .unset, .unset] [(.ref a_Canonicalization_EXCLUSIVE)]))) (fun _ k => XS.aloadN X64.here hx rfl (hb hby at_52) rfl rfl k) ?_
    obtain ⟨_, T65, L65, X65, ⟨rfl, N65q, e65⟩, st65⟩ := own_virt (argsL := []) (rest := []) X64 hx hZ hown (hw _ (List.mem_of_getElem? (i := 22) rfl)) (hw _ (List.mem_of_getElem? (i := 23) rfl)) (notFace_of_selects (args := #[]) (mvT hZ (hw _ (List.mem_of_getElem? (i := 25) rfl)))) (hw _ (List.mem_of_getElem? (i := 25) rfl)) (hw _ (List.mem_of_getElem? (i := 24) rfl)) (by decide) (hw _ (List.mem_of_getElem? (i := 26) rfl)) (hw _ (List.mem_of_getElem? (i := 6) rfl)) e64 E_Canonicalization_EXCLUSIVE (hM := rmX_1 l Z a0 hw [] a_Canonicalization_EXCLUSIVE a_Kind_EXCLUSIVE a_Kind_EXCLUSIVE h0 n0 Z0 F_Canonicalization_EXCLUSIVE_kind S_Kind_EXCLUSIVE rfl) (g := (mkF m 53 #[.val (.int p1), .val (.int (4 : Int32)), .val (.ref a_Canonicalization_EXCLUSIVE), .val (.ref a_Canonicalization_EXCLUSIVE), .val (.int (1 : Int32)), .unset, .unset] [(.ref a_Canonicalization_EXCLUSIVE)])) (hg := rfl) (hsize := by rw [hml]; rfl) (hlen := lenOf pd_3 rfl) (hstack := rfl) (W := 0) (hW := by show 2 * 0 + _ ≤ _; exact Nat.le_of_eq rfl) (hd := (hb hby at_53)) (hf := by decide) (hl := by decide) (hc := by decide) (hs := by decide)
    have N65 := Fr.app N61 N65q
    refine own_step (S' := (T65.setTop (mkF m 56 #[.val (.int p1), .val (.int (4 : Int32)), .val (.ref a_Canonicalization_EXCLUSIVE), .val (.ref a_Canonicalization_EXCLUSIVE), .val (.int (1 : Int32)), .unset, .unset] [(.int (1 : Int32))]))) (fun _ k => st65 _ k) ?_
    refine own_step (S' := (T65.setTop (mkF m 57 #[.val (.int p1), .val (.int (4 : Int32)), .val (.ref a_Canonicalization_EXCLUSIVE), .val (.ref a_Canonicalization_EXCLUSIVE), .val (.int (1 : Int32)), .unset, .unset] [(.ref a_Canonicalization_EXCLUSIVE), (.int (1 : Int32))]))) (fun _ k => XS.aloadN X65.here hx rfl (hb hby at_56) rfl rfl k) ?_
    obtain ⟨_, T66, L66, X66, ⟨rfl, N66q, e66⟩, st66⟩ := own_virt (argsL := []) (rest := [(.int (1 : Int32))]) X65 hx hZ hown (hw _ (List.mem_of_getElem? (i := 22) rfl)) (hw _ (List.mem_of_getElem? (i := 23) rfl)) (notFace_of_selects (args := #[]) (mvT hZ (hw _ (List.mem_of_getElem? (i := 25) rfl)))) (hw _ (List.mem_of_getElem? (i := 25) rfl)) (hw _ (List.mem_of_getElem? (i := 24) rfl)) (by decide) (hw _ (List.mem_of_getElem? (i := 26) rfl)) (hw _ (List.mem_of_getElem? (i := 6) rfl)) e65 E_Canonicalization_EXCLUSIVE (hM := rmX_1 l Z a0 hw [] a_Canonicalization_EXCLUSIVE a_Kind_EXCLUSIVE a_Kind_EXCLUSIVE h0 n0 Z0 F_Canonicalization_EXCLUSIVE_kind S_Kind_EXCLUSIVE rfl) (g := (mkF m 57 #[.val (.int p1), .val (.int (4 : Int32)), .val (.ref a_Canonicalization_EXCLUSIVE), .val (.ref a_Canonicalization_EXCLUSIVE), .val (.int (1 : Int32)), .unset, .unset] [(.ref a_Canonicalization_EXCLUSIVE), (.int (1 : Int32))])) (hg := rfl) (hsize := by rw [hml]; rfl) (hlen := lenOf pd_3 rfl) (hstack := rfl) (W := 1) (hW := by show 2 * 0 + _ ≤ _; exact Nat.le_of_eq rfl) (hd := (hb hby at_57)) (hf := by decide) (hl := by decide) (hc := by decide) (hs := by decide)
    have N66 := Fr.app N65 N66q
    refine own_step (S' := (T66.setTop (mkF m 60 #[.val (.int p1), .val (.int (4 : Int32)), .val (.ref a_Canonicalization_EXCLUSIVE), .val (.ref a_Canonicalization_EXCLUSIVE), .val (.int (1 : Int32)), .unset, .unset] [(.int (1 : Int32)), (.int (1 : Int32))]))) (fun _ k => st66 _ k) ?_
    refine own_step (S' := (T66.setTop (mkF m 63 #[.val (.int p1), .val (.int (4 : Int32)), .val (.ref a_Canonicalization_EXCLUSIVE), .val (.ref a_Canonicalization_EXCLUSIVE), .val (.int (1 : Int32)), .unset, .unset] []))) (fun _ k => XS.icmpNo X66.here hx rfl (hb hby at_60) rfl (teq (by decide : (1 : Int32) = (1 : Int32))).2 k) ?_
    refine own_step (S' := (T66.setTop (mkF m 64 #[.val (.int p1), .val (.int (4 : Int32)), .val (.ref a_Canonicalization_EXCLUSIVE), .val (.ref a_Canonicalization_EXCLUSIVE), .val (.int (1 : Int32)), .unset, .unset] [(.ref a_Canonicalization_EXCLUSIVE)]))) (fun _ k => XS.aloadN X66.here hx rfl (hb hby at_63) rfl rfl k) ?_
    obtain ⟨_, T67, L67, X67, ⟨rfl, N67q, e67⟩, st67⟩ := own_virt (argsL := []) (rest := []) X66 hx hZ hown (hw _ (List.mem_of_getElem? (i := 33) rfl)) (hw _ (List.mem_of_getElem? (i := 34) rfl)) (notFace_of_selects (args := #[]) (mvT hZ (hw _ (List.mem_of_getElem? (i := 36) rfl)))) (hw _ (List.mem_of_getElem? (i := 36) rfl)) (hw _ (List.mem_of_getElem? (i := 35) rfl)) (by decide) (hw _ (List.mem_of_getElem? (i := 37) rfl)) (hw _ (List.mem_of_getElem? (i := 6) rfl)) e66 E_Canonicalization_EXCLUSIVE (hM := rmS_1 l Z a0 hw [] a_Canonicalization_EXCLUSIVE a_Kind_EXCLUSIVE a_Kind_INCLUSIVE_11 h0 n0 Z0 F_Canonicalization_EXCLUSIVE_kind S_Kind_INCLUSIVE_11 (Fld.ne F_Kind_EXCLUSIVE_ordinal F_Kind_INCLUSIVE_11_ordinal (by decide))) (g := (mkF m 64 #[.val (.int p1), .val (.int (4 : Int32)), .val (.ref a_Canonicalization_EXCLUSIVE), .val (.ref a_Canonicalization_EXCLUSIVE), .val (.int (1 : Int32)), .unset, .unset] [(.ref a_Canonicalization_EXCLUSIVE)])) (hg := rfl) (hsize := by rw [hml]; rfl) (hlen := lenOf pd_3 rfl) (hstack := rfl) (W := 0) (hW := by show 2 * 0 + _ ≤ _; exact Nat.le_of_eq rfl) (hd := (hb hby at_64)) (hf := by decide) (hl := by decide) (hc := by decide) (hs := by decide)
    have N67 := Fr.app N66 N67q
    refine own_step (S' := (T67.setTop (mkF m 67 #[.val (.int p1), .val (.int (4 : Int32)), .val (.ref a_Canonicalization_EXCLUSIVE), .val (.ref a_Canonicalization_EXCLUSIVE), .val (.int (1 : Int32)), .unset, .unset] [(.int (1 : Int32))]))) (fun _ k => st67 _ k) ?_
    refine own_step (S' := (T67.setTop (mkF m 68 #[.val (.int p1), .val (.int (4 : Int32)), .val (.ref a_Canonicalization_EXCLUSIVE), .val (.ref a_Canonicalization_EXCLUSIVE), .val (.int (1 : Int32)), .unset, .unset] [(.ref a_Canonicalization_EXCLUSIVE), (.int (1 : Int32))]))) (fun _ k => XS.aloadN X67.here hx rfl (hb hby at_67) rfl rfl k) ?_
    obtain ⟨_, T68, L68, X68, ⟨rfl, N68q, e68⟩, st68⟩ := own_virt (argsL := []) (rest := [(.int (1 : Int32))]) X67 hx hZ hown (hw _ (List.mem_of_getElem? (i := 33) rfl)) (hw _ (List.mem_of_getElem? (i := 34) rfl)) (notFace_of_selects (args := #[]) (mvT hZ (hw _ (List.mem_of_getElem? (i := 36) rfl)))) (hw _ (List.mem_of_getElem? (i := 36) rfl)) (hw _ (List.mem_of_getElem? (i := 35) rfl)) (by decide) (hw _ (List.mem_of_getElem? (i := 37) rfl)) (hw _ (List.mem_of_getElem? (i := 6) rfl)) e67 E_Canonicalization_EXCLUSIVE (hM := rmS_1 l Z a0 hw [] a_Canonicalization_EXCLUSIVE a_Kind_EXCLUSIVE a_Kind_INCLUSIVE_11 h0 n0 Z0 F_Canonicalization_EXCLUSIVE_kind S_Kind_INCLUSIVE_11 (Fld.ne F_Kind_EXCLUSIVE_ordinal F_Kind_INCLUSIVE_11_ordinal (by decide))) (g := (mkF m 68 #[.val (.int p1), .val (.int (4 : Int32)), .val (.ref a_Canonicalization_EXCLUSIVE), .val (.ref a_Canonicalization_EXCLUSIVE), .val (.int (1 : Int32)), .unset, .unset] [(.ref a_Canonicalization_EXCLUSIVE), (.int (1 : Int32))])) (hg := rfl) (hsize := by rw [hml]; rfl) (hlen := lenOf pd_3 rfl) (hstack := rfl) (W := 1) (hW := by show 2 * 0 + _ ≤ _; exact Nat.le_of_eq rfl) (hd := (hb hby at_68)) (hf := by decide) (hl := by decide) (hc := by decide) (hs := by decide)
    have N68 := Fr.app N67 N68q
    refine own_step (S' := (T68.setTop (mkF m 71 #[.val (.int p1), .val (.int (4 : Int32)), .val (.ref a_Canonicalization_EXCLUSIVE), .val (.ref a_Canonicalization_EXCLUSIVE), .val (.int (1 : Int32)), .unset, .unset] [(.int (1 : Int32)), (.int (1 : Int32))]))) (fun _ k => st68 _ k) ?_
    refine own_step (S' := (T68.setTop (mkF m 74 #[.val (.int p1), .val (.int (4 : Int32)), .val (.ref a_Canonicalization_EXCLUSIVE), .val (.ref a_Canonicalization_EXCLUSIVE), .val (.int (1 : Int32)), .unset, .unset] []))) (fun _ k => XS.icmpNo X68.here hx rfl (hb hby at_71) rfl (teq (by decide : (1 : Int32) = (1 : Int32))).2 k) ?_
    refine own_step (S' := (T68.setTop (mkF m 75 #[.val (.int p1), .val (.int (4 : Int32)), .val (.ref a_Canonicalization_EXCLUSIVE), .val (.ref a_Canonicalization_EXCLUSIVE), .val (.int (1 : Int32)), .unset, .unset] [(.int (1 : Int32))]))) (fun _ k => XS.iconst X68.here hx rfl (hb hby at_74) k) ?_
    refine own_step (S' := (T68.setTop (mkF m 79 #[.val (.int p1), .val (.int (4 : Int32)), .val (.ref a_Canonicalization_EXCLUSIVE), .val (.ref a_Canonicalization_EXCLUSIVE), .val (.int (1 : Int32)), .unset, .unset] [(.int (1 : Int32))]))) (fun _ k => XS.goto X68.here hx rfl (pc0 := 75) (pc' := 79) rfl (hb hby at_75) (by decide) (by decide) k) ?_
    refine own_step (S' := (T68.setTop (mkF m 81 #[.val (.int p1), .val (.int (4 : Int32)), .val (.ref a_Canonicalization_EXCLUSIVE), .val (.ref a_Canonicalization_EXCLUSIVE), .val (.int (1 : Int32)), .val (.int (1 : Int32)), .unset] []))) (fun _ k => XS.istore X68.here hx rfl (hb hby at_79) rfl (l' := #[.val (.int p1), .val (.int (4 : Int32)), .val (.ref a_Canonicalization_EXCLUSIVE), .val (.ref a_Canonicalization_EXCLUSIVE), .val (.int (1 : Int32)), .val (.int (1 : Int32)), .unset]) rfl k) ?_
    refine own_step (S' := (T68.setTop (mkF m 82 #[.val (.int p1), .val (.int (4 : Int32)), .val (.ref a_Canonicalization_EXCLUSIVE), .val (.ref a_Canonicalization_EXCLUSIVE), .val (.int (1 : Int32)), .val (.int (1 : Int32)), .unset] [(.ref a_Canonicalization_EXCLUSIVE)]))) (fun _ k => XS.aloadN X68.here hx rfl (hb hby at_81) rfl rfl k) ?_
    obtain ⟨_, T69, L69, X69, ⟨rfl, N69q, e69⟩, st69⟩ := own_virt (argsL := []) (rest := []) X68 hx hZ hown (hw _ (List.mem_of_getElem? (i := 8) rfl)) (hw _ (List.mem_of_getElem? (i := 9) rfl)) (notFace_of_selects (args := #[]) (mvT hZ (hw _ (List.mem_of_getElem? (i := 11) rfl)))) (hw _ (List.mem_of_getElem? (i := 11) rfl)) (hw _ (List.mem_of_getElem? (i := 10) rfl)) (by decide) (hw _ (List.mem_of_getElem? (i := 12) rfl)) (hw _ (List.mem_of_getElem? (i := 6) rfl)) e68 E_Canonicalization_EXCLUSIVE (hM := rmW_4 l Z a0 hw [] a_Canonicalization_EXCLUSIVE h0 n0 Z0 F_Canonicalization_EXCLUSIVE_ordinal E_Canonicalization_EXCLUSIVE) (g := (mkF m 82 #[.val (.int p1), .val (.int (4 : Int32)), .val (.ref a_Canonicalization_EXCLUSIVE), .val (.ref a_Canonicalization_EXCLUSIVE), .val (.int (1 : Int32)), .val (.int (1 : Int32)), .unset] [(.ref a_Canonicalization_EXCLUSIVE)])) (hg := rfl) (hsize := by rw [hml]; rfl) (hlen := lenOf pd_2 rfl) (hstack := rfl) (W := 0) (hW := by show 2 * 0 + _ ≤ _; exact Nat.le_of_eq rfl) (hd := (hb hby at_82)) (hf := by decide) (hl := by decide) (hc := by decide) (hs := by decide)
    have N69 := Fr.app N68 N69q
    refine own_step (S' := (T69.setTop (mkF m 85 #[.val (.int p1), .val (.int (4 : Int32)), .val (.ref a_Canonicalization_EXCLUSIVE), .val (.ref a_Canonicalization_EXCLUSIVE), .val (.int (1 : Int32)), .val (.int (1 : Int32)), .unset] [(.ref a_Canonicalization_EXCLUSIVE)]))) (fun _ k => st69 _ k) ?_
    refine own_step (S' := (T69.setTop (mkF m 86 #[.val (.int p1), .val (.int (4 : Int32)), .val (.ref a_Canonicalization_EXCLUSIVE), .val (.ref a_Canonicalization_EXCLUSIVE), .val (.int (1 : Int32)), .val (.int (1 : Int32)), .unset] [(.ref a_Canonicalization_EXCLUSIVE), (.ref a_Canonicalization_EXCLUSIVE)]))) (fun _ k => XS.aloadN X69.here hx rfl (hb hby at_85) rfl rfl k) ?_
    refine own_step (S' := (T69.setTop (mkF m 89 #[.val (.int p1), .val (.int (4 : Int32)), .val (.ref a_Canonicalization_EXCLUSIVE), .val (.ref a_Canonicalization_EXCLUSIVE), .val (.int (1 : Int32)), .val (.int (1 : Int32)), .unset] []))) (fun _ k => Jvm.RoadKit.acmp (g := (mkF m 86 #[.val (.int p1), .val (.int (4 : Int32)), .val (.ref a_Canonicalization_EXCLUSIVE), .val (.ref a_Canonicalization_EXCLUSIVE), .val (.int (1 : Int32)), .val (.int (1 : Int32)), .unset] [(.ref a_Canonicalization_EXCLUSIVE), (.ref a_Canonicalization_EXCLUSIVE)])) X69 hx rfl rfl rfl (pc0 := 86) (pc' := 89) (same := true) rfl (hb hby at_86) rfl (decide_eq_true rfl) (by decide) (by decide) k) ?_
    refine own_step (S' := (T69.setTop (mkF m 90 #[.val (.int p1), .val (.int (4 : Int32)), .val (.ref a_Canonicalization_EXCLUSIVE), .val (.ref a_Canonicalization_EXCLUSIVE), .val (.int (1 : Int32)), .val (.int (1 : Int32)), .unset] [(.int (1 : Int32))]))) (fun _ k => XS.iconst X69.here hx rfl (hb hby at_89) k) ?_
    refine own_step (S' := (T69.setTop (mkF m 94 #[.val (.int p1), .val (.int (4 : Int32)), .val (.ref a_Canonicalization_EXCLUSIVE), .val (.ref a_Canonicalization_EXCLUSIVE), .val (.int (1 : Int32)), .val (.int (1 : Int32)), .unset] [(.int (1 : Int32))]))) (fun _ k => XS.goto X69.here hx rfl (pc0 := 90) (pc' := 94) rfl (hb hby at_90) (by decide) (by decide) k) ?_
    refine own_step (S' := (T69.setTop (mkF m 96 #[.val (.int p1), .val (.int (4 : Int32)), .val (.ref a_Canonicalization_EXCLUSIVE), .val (.ref a_Canonicalization_EXCLUSIVE), .val (.int (1 : Int32)), .val (.int (1 : Int32)), .val (.int (1 : Int32))] []))) (fun _ k => XS.istore X69.here hx rfl (hb hby at_94) rfl (l' := #[.val (.int p1), .val (.int (4 : Int32)), .val (.ref a_Canonicalization_EXCLUSIVE), .val (.ref a_Canonicalization_EXCLUSIVE), .val (.int (1 : Int32)), .val (.int (1 : Int32)), .val (.int (1 : Int32))]) rfl k) ?_
    refine own_step (S' := (T69.setTop (mkF m 98 #[.val (.int p1), .val (.int (4 : Int32)), .val (.ref a_Canonicalization_EXCLUSIVE), .val (.ref a_Canonicalization_EXCLUSIVE), .val (.int (1 : Int32)), .val (.int (1 : Int32)), .val (.int (1 : Int32))] [(.int (1 : Int32))]))) (fun _ k => XS.iload X69.here hx rfl (hb hby at_96) rfl k) ?_
    refine own_step (S' := (T69.setTop (mkF m 101 #[.val (.int p1), .val (.int (4 : Int32)), .val (.ref a_Canonicalization_EXCLUSIVE), .val (.ref a_Canonicalization_EXCLUSIVE), .val (.int (1 : Int32)), .val (.int (1 : Int32)), .val (.int (1 : Int32))] []))) (fun _ k => XS.ifNo X69.here hx rfl (hb hby at_98) rfl ((if0 _ _).trans (feq (by decide : ¬ ((1 : Int32) = (0 : Int32)))).1) k) ?_
    refine own_step (S' := (T69.setTop (mkF m 103 #[.val (.int p1), .val (.int (4 : Int32)), .val (.ref a_Canonicalization_EXCLUSIVE), .val (.ref a_Canonicalization_EXCLUSIVE), .val (.int (1 : Int32)), .val (.int (1 : Int32)), .val (.int (1 : Int32))] [(.int (1 : Int32))]))) (fun _ k => XS.iload X69.here hx rfl (hb hby at_101) rfl k) ?_
    refine own_step (S' := (T69.setTop (mkF m 106 #[.val (.int p1), .val (.int (4 : Int32)), .val (.ref a_Canonicalization_EXCLUSIVE), .val (.ref a_Canonicalization_EXCLUSIVE), .val (.int (1 : Int32)), .val (.int (1 : Int32)), .val (.int (1 : Int32))] []))) (fun _ k => XS.ifNo X69.here hx rfl (hb hby at_103) rfl ((if0 _ _).trans (feq (by decide : ¬ ((1 : Int32) = (0 : Int32)))).1) k) ?_
    refine own_step (S' := (T69.setTop (mkF m 108 #[.val (.int p1), .val (.int (4 : Int32)), .val (.ref a_Canonicalization_EXCLUSIVE), .val (.ref a_Canonicalization_EXCLUSIVE), .val (.int (1 : Int32)), .val (.int (1 : Int32)), .val (.int (1 : Int32))] [(.int (1 : Int32))]))) (fun _ k => XS.iload X69.here hx rfl (hb hby at_106) rfl k) ?_
    refine own_step (S' := (T69.setTop (mkF m 111 #[.val (.int p1), .val (.int (4 : Int32)), .val (.ref a_Canonicalization_EXCLUSIVE), .val (.ref a_Canonicalization_EXCLUSIVE), .val (.int (1 : Int32)), .val (.int (1 : Int32)), .val (.int (1 : Int32))] []))) (fun _ k => XS.ifNo X69.here hx rfl (hb hby at_108) rfl ((if0 _ _).trans (feq (by decide : ¬ ((1 : Int32) = (0 : Int32)))).1) k) ?_
    refine own_step (S' := (T69.setTop (mkF m 112 #[.val (.int p1), .val (.int (4 : Int32)), .val (.ref a_Canonicalization_EXCLUSIVE), .val (.ref a_Canonicalization_EXCLUSIVE), .val (.int (1 : Int32)), .val (.int (1 : Int32)), .val (.int (1 : Int32))] [(.int (1 : Int32))]))) (fun _ k => XS.iconst X69.here hx rfl (hb hby at_111) k) ?_
    refine own_step (S' := (T69.setTop (mkF m 116 #[.val (.int p1), .val (.int (4 : Int32)), .val (.ref a_Canonicalization_EXCLUSIVE), .val (.ref a_Canonicalization_EXCLUSIVE), .val (.int (1 : Int32)), .val (.int (1 : Int32)), .val (.int (1 : Int32))] [(.int (1 : Int32))]))) (fun _ k => XS.goto X69.here hx rfl (pc0 := 112) (pc' := 116) rfl (hb hby at_112) (by decide) (by decide) k) ?_
    refine own_retN X69 hx hlk hret (by simp) (by decide) (hb hby at_116) (by decide) (by decide) ?_
    try rw [e69]
    exact ⟨rfl, N69⟩
  · rw [hr25]
    refine own_step (S' := (s₁.setTop (mkF m 8 #[.val (.int p1), .val (.int (5 : Int32)), .unset, .unset, .unset, .unset, .unset] []))) (fun _ k => XS.istoreN X0.here hx rfl (hb hby at_7) rfl (l' := #[.val (.int p1), .val (.int (5 : Int32)), .unset, .unset, .unset, .unset, .unset]) rfl k) ?_
    refine own_step (S' := (s₁.setTop (mkF m 9 #[.val (.int p1), .val (.int (5 : Int32)), .unset, .unset, .unset, .unset, .unset] [(.int (5 : Int32))]))) (fun _ k => XS.iloadN X0.here hx rfl (hb hby at_8) rfl k) ?_
    obtain ⟨_, T70, L70, X70, ⟨rfl, N70q, e70⟩, st70⟩ := own_stat (argsL := [(.int (5 : Int32))]) (rest := []) X0 hx hZ hown (hw _ (List.mem_of_getElem? (i := 1) rfl)) (hw _ (List.mem_of_getElem? (i := 2) rfl)) (by decide) (hw _ (List.mem_of_getElem? (i := 4) rfl)) (hw _ (List.mem_of_getElem? (i := 3) rfl)) e0 (hM := rmP_5 l Z a0 hw [] a_Canonicalization_EXCLUSIVE_WITH_COMMENTS h0 n0 Z0 S_Canonicalization_EXCLUSIVE_WITH_COMMENTS) (g := (mkF m 9 #[.val (.int p1), .val (.int (5 : Int32)), .unset, .unset, .unset, .unset, .unset] [(.int (5 : Int32))])) (hg := rfl) (hsize := by rw [hml]; rfl) (hlen := lenOf pd_1 rfl) (hstack := rfl) (W := 0) (hW := by show 2 * 0 + _ ≤ _; exact Nat.le_of_eq rfl) (hd := (hb hby at_9)) (hf := by decide) (hl := by decide) (hc := by decide) (hs := by decide)
    have N70 := Fr.app N0 N70q
    refine own_step (S' := (T70.setTop (mkF m 12 #[.val (.int p1), .val (.int (5 : Int32)), .unset, .unset, .unset, .unset, .unset] [(.ref a_Canonicalization_EXCLUSIVE_WITH_COMMENTS)]))) (fun _ k => st70 _ k) ?_
    refine own_step (S' := (T70.setTop (mkF m 13 #[.val (.int p1), .val (.int (5 : Int32)), .val (.ref a_Canonicalization_EXCLUSIVE_WITH_COMMENTS), .unset, .unset, .unset, .unset] []))) (fun _ k => XS.astoreN X70.here hx rfl (hb hby at_12) rfl rfl (l' := #[.val (.int p1), .val (.int (5 : Int32)), .val (.ref a_Canonicalization_EXCLUSIVE_WITH_COMMENTS), .unset, .unset, .unset, .unset]) rfl k) ?_
    refine own_step (S' := (T70.setTop (mkF m 14 #[.val (.int p1), .val (.int (5 : Int32)), .val (.ref a_Canonicalization_EXCLUSIVE_WITH_COMMENTS), .unset, .unset, .unset, .unset] [(.ref a_Canonicalization_EXCLUSIVE_WITH_COMMENTS)]))) (fun _ k => XS.aloadN X70.here hx rfl (hb hby at_13) rfl rfl k) ?_
    obtain ⟨_, T71, L71, X71, ⟨rfl, N71q, e71⟩, st71⟩ := own_virt (argsL := []) (rest := []) X70 hx hZ hown (hw _ (List.mem_of_getElem? (i := 8) rfl)) (hw _ (List.mem_of_getElem? (i := 9) rfl)) (notFace_of_selects (args := #[]) (mvT hZ (hw _ (List.mem_of_getElem? (i := 11) rfl)))) (hw _ (List.mem_of_getElem? (i := 11) rfl)) (hw _ (List.mem_of_getElem? (i := 10) rfl)) (by decide) (hw _ (List.mem_of_getElem? (i := 12) rfl)) (hw _ (List.mem_of_getElem? (i := 6) rfl)) e70 E_Canonicalization_EXCLUSIVE_WITH_COMMENTS (hM := rmW_5 l Z a0 hw [] a_Canonicalization_EXCLUSIVE_WITH_COMMENTS a_Canonicalization_EXCLUSIVE h0 n0 Z0 F_Canonicalization_EXCLUSIVE_WITH_COMMENTS_ordinal E_Canonicalization_EXCLUSIVE_WITH_COMMENTS S_Canonicalization_EXCLUSIVE) (g := (mkF m 14 #[.val (.int p1), .val (.int (5 : Int32)), .val (.ref a_Canonicalization_EXCLUSIVE_WITH_COMMENTS), .unset, .unset, .unset, .unset] [(.ref a_Canonicalization_EXCLUSIVE_WITH_COMMENTS)])) (hg := rfl) (hsize := by rw [hml]; rfl) (hlen := lenOf pd_2 rfl) (hstack := rfl) (W := 0) (hW := by show 2 * 0 + _ ≤ _; exact Nat.le_of_eq rfl) (hd := (hb hby at_14)) (hf := by decide) (hl := by decide) (hc := by decide) (hs := by decide)
    have N71 := Fr.app N70 N71q
    refine own_step (S' := (T71.setTop (mkF m 17 #[.val (.int p1), .val (.int (5 : Int32)), .val (.ref a_Canonicalization_EXCLUSIVE_WITH_COMMENTS), .unset, .unset, .unset, .unset] [(.ref a_Canonicalization_EXCLUSIVE)]))) (fun _ k => st71 _ k) ?_
    refine own_step (S' := (T71.setTop (mkF m 18 #[.val (.int p1), .val (.int (5 : Int32)), .val (.ref a_Canonicalization_EXCLUSIVE_WITH_COMMENTS), .val (.ref a_Canonicalization_EXCLUSIVE), .unset, .unset, .unset] []))) (fun _ k => XS.astoreN X71.here hx rfl (hb hby at_17) rfl rfl (l' := #[.val (.int p1), .val (.int (5 : Int32)), .val (.ref a_Canonicalization_EXCLUSIVE_WITH_COMMENTS), .val (.ref a_Canonicalization_EXCLUSIVE), .unset, .unset, .unset]) rfl k) ?_
    refine own_step (S' := (T71.setTop (mkF m 19 #[.val (.int p1), .val (.int (5 : Int32)), .val (.ref a_Canonicalization_EXCLUSIVE_WITH_COMMENTS), .val (.ref a_Canonicalization_EXCLUSIVE), .unset, .unset, .unset] [(.ref a_Canonicalization_EXCLUSIVE)]))) (fun _ k => XS.aloadN X71.here hx rfl (hb hby at_18) rfl rfl k) ?_
    refine own_step (S' := (T71.setTop (mkF m 24 #[.val (.int p1), .val (.int (5 : Int32)), .val (.ref a_Canonicalization_EXCLUSIVE_WITH_COMMENTS), .val (.ref a_Canonicalization_EXCLUSIVE), .unset, .unset, .unset] []))) (fun _ k => XS.ifnonnullYes X71.here hx rfl (pc0 := 19) (pc' := 24) rfl (hb hby at_19) rfl (by decide) (by decide) k) ?_
    refine own_step (S' := (T71.setTop (mkF m 25 #[.val (.int p1), .val (.int (5 : Int32)), .val (.ref a_Canonicalization_EXCLUSIVE_WITH_COMMENTS), .val (.ref a_Canonicalization_EXCLUSIVE), .unset, .unset, .unset] [(.ref a_Canonicalization_EXCLUSIVE)]))) (fun _ k => XS.aloadN X71.here hx rfl (hb hby at_24) rfl rfl k) ?_
    obtain ⟨T72, X72, e72, st72⟩ := getS2 X71 hx hZ hown (host := "") (Or.inl (hw _ (List.mem_of_getElem? (i := 5) rfl))) Via.refl e71 S_Canonicalization_INCLUSIVE (g := (mkF m 25 #[.val (.int p1), .val (.int (5 : Int32)), .val (.ref a_Canonicalization_EXCLUSIVE_WITH_COMMENTS), .val (.ref a_Canonicalization_EXCLUSIVE), .unset, .unset, .unset] [(.ref a_Canonicalization_EXCLUSIVE)])) rfl (hb hby at_25)
    refine own_step (S' := (T72.setTop (mkF m 28 #[.val (.int p1), .val (.int (5 : Int32)), .val (.ref a_Canonicalization_EXCLUSIVE_WITH_COMMENTS), .val (.ref a_Canonicalization_EXCLUSIVE), .unset, .unset, .unset] [(.ref a_Canonicalization_INCLUSIVE), (.ref a_Canonicalization_EXCLUSIVE)]))) (fun _ k => st72 _ k) ?_
    refine own_step (S' := (T72.setTop (mkF m 31 #[.val (.int p1), .val (.int (5 : Int32)), .val (.ref a_Canonicalization_EXCLUSIVE_WITH_COMMENTS), .val (.ref a_Canonicalization_EXCLUSIVE), .unset, .unset, .unset] []))) (fun _ k => Jvm.RoadKit.acmp (g := (mkF m 28 #[.val (.int p1), .val (.int (5 : Int32)), .val (.ref a_Canonicalization_EXCLUSIVE_WITH_COMMENTS), .val (.ref a_Canonicalization_EXCLUSIVE), .unset, .unset, .unset] [(.ref a_Canonicalization_INCLUSIVE), (.ref a_Canonicalization_EXCLUSIVE)])) X72 hx rfl rfl rfl (pc0 := 28) (pc' := 31) (same := false) rfl (hb hby at_28) rfl (decide_eq_false fun q => (Fld.ne F_Canonicalization_EXCLUSIVE_ordinal F_Canonicalization_INCLUSIVE_ordinal (by decide)) (Value.ref.inj q)) (by decide) (by decide) k) ?_
    refine own_step (S' := (T72.setTop (mkF m 32 #[.val (.int p1), .val (.int (5 : Int32)), .val (.ref a_Canonicalization_EXCLUSIVE_WITH_COMMENTS), .val (.ref a_Canonicalization_EXCLUSIVE), .unset, .unset, .unset] [(.ref a_Canonicalization_EXCLUSIVE)]))) (fun _ k => XS.aloadN X72.here hx rfl (hb hby at_31) rfl rfl k) ?_
    obtain ⟨T73, X73, e73, st73⟩ := getS2 X72 hx hZ hown (host := "") (Or.inl (hw _ (List.mem_of_getElem? (i := 44) rfl))) Via.refl e72 S_Canonicalization_INCLUSIVE_11 (g := (mkF m 32 #[.val (.int p1), .val (.int (5 : Int32)), .val (.ref a_Canonicalization_EXCLUSIVE_WITH_COMMENTS), .val (.ref a_Canonicalization_EXCLUSIVE), .unset, .unset, .unset] [(.ref a_Canonicalization_EXCLUSIVE)])) rfl (hb hby at_32)
    refine own_step (S' := (T73.setTop (mkF m 35 #[.val (.int p1), .val (.int (5 : Int32)), .val (.ref a_Canonicalization_EXCLUSIVE_WITH_COMMENTS), .val (.ref a_Canonicalization_EXCLUSIVE), .unset, .unset, .unset] [(.ref a_Canonicalization_INCLUSIVE_11), (.ref a_Canonicalization_EXCLUSIVE)]))) (fun _ k => st73 _ k) ?_
    refine own_step (S' := (T73.setTop (mkF m 38 #[.val (.int p1), .val (.int (5 : Int32)), .val (.ref a_Canonicalization_EXCLUSIVE_WITH_COMMENTS), .val (.ref a_Canonicalization_EXCLUSIVE), .unset, .unset, .unset] []))) (fun _ k => Jvm.RoadKit.acmp (g := (mkF m 35 #[.val (.int p1), .val (.int (5 : Int32)), .val (.ref a_Canonicalization_EXCLUSIVE_WITH_COMMENTS), .val (.ref a_Canonicalization_EXCLUSIVE), .unset, .unset, .unset] [(.ref a_Canonicalization_INCLUSIVE_11), (.ref a_Canonicalization_EXCLUSIVE)])) X73 hx rfl rfl rfl (pc0 := 35) (pc' := 38) (same := false) rfl (hb hby at_35) rfl (decide_eq_false fun q => (Fld.ne F_Canonicalization_EXCLUSIVE_ordinal F_Canonicalization_INCLUSIVE_11_ordinal (by decide)) (Value.ref.inj q)) (by decide) (by decide) k) ?_
    refine own_step (S' := (T73.setTop (mkF m 39 #[.val (.int p1), .val (.int (5 : Int32)), .val (.ref a_Canonicalization_EXCLUSIVE_WITH_COMMENTS), .val (.ref a_Canonicalization_EXCLUSIVE), .unset, .unset, .unset] [(.ref a_Canonicalization_EXCLUSIVE)]))) (fun _ k => XS.aloadN X73.here hx rfl (hb hby at_38) rfl rfl k) ?_
    obtain ⟨T74, X74, e74, st74⟩ := getS2 X73 hx hZ hown (host := "") (Or.inl (hw _ (List.mem_of_getElem? (i := 52) rfl))) Via.refl e73 S_Canonicalization_EXCLUSIVE (g := (mkF m 39 #[.val (.int p1), .val (.int (5 : Int32)), .val (.ref a_Canonicalization_EXCLUSIVE_WITH_COMMENTS), .val (.ref a_Canonicalization_EXCLUSIVE), .unset, .unset, .unset] [(.ref a_Canonicalization_EXCLUSIVE)])) rfl (hb hby at_39)
    refine own_step (S' := (T74.setTop (mkF m 42 #[.val (.int p1), .val (.int (5 : Int32)), .val (.ref a_Canonicalization_EXCLUSIVE_WITH_COMMENTS), .val (.ref a_Canonicalization_EXCLUSIVE), .unset, .unset, .unset] [(.ref a_Canonicalization_EXCLUSIVE), (.ref a_Canonicalization_EXCLUSIVE)]))) (fun _ k => st74 _ k) ?_
    refine own_step (S' := (T74.setTop (mkF m 45 #[.val (.int p1), .val (.int (5 : Int32)), .val (.ref a_Canonicalization_EXCLUSIVE_WITH_COMMENTS), .val (.ref a_Canonicalization_EXCLUSIVE), .unset, .unset, .unset] []))) (fun _ k => Jvm.RoadKit.acmp (g := (mkF m 42 #[.val (.int p1), .val (.int (5 : Int32)), .val (.ref a_Canonicalization_EXCLUSIVE_WITH_COMMENTS), .val (.ref a_Canonicalization_EXCLUSIVE), .unset, .unset, .unset] [(.ref a_Canonicalization_EXCLUSIVE), (.ref a_Canonicalization_EXCLUSIVE)])) X74 hx rfl rfl rfl (pc0 := 42) (pc' := 45) (same := true) rfl (hb hby at_42) rfl (decide_eq_true rfl) (by decide) (by decide) k) ?_
    refine own_step (S' := (T74.setTop (mkF m 46 #[.val (.int p1), .val (.int (5 : Int32)), .val (.ref a_Canonicalization_EXCLUSIVE_WITH_COMMENTS), .val (.ref a_Canonicalization_EXCLUSIVE), .unset, .unset, .unset] [(.int (1 : Int32))]))) (fun _ k => XS.iconst X74.here hx rfl (hb hby at_45) k) ?_
    refine own_step (S' := (T74.setTop (mkF m 50 #[.val (.int p1), .val (.int (5 : Int32)), .val (.ref a_Canonicalization_EXCLUSIVE_WITH_COMMENTS), .val (.ref a_Canonicalization_EXCLUSIVE), .unset, .unset, .unset] [(.int (1 : Int32))]))) (fun _ k => XS.goto X74.here hx rfl (pc0 := 46) (pc' := 50) rfl (hb hby at_46) (by decide) (by decide) k) ?_
    refine own_step (S' := (T74.setTop (mkF m 52 #[.val (.int p1), .val (.int (5 : Int32)), .val (.ref a_Canonicalization_EXCLUSIVE_WITH_COMMENTS), .val (.ref a_Canonicalization_EXCLUSIVE), .val (.int (1 : Int32)), .unset, .unset] []))) (fun _ k => XS.istore X74.here hx rfl (hb hby at_50) rfl (l' := #[.val (.int p1), .val (.int (5 : Int32)), .val (.ref a_Canonicalization_EXCLUSIVE_WITH_COMMENTS), .val (.ref a_Canonicalization_EXCLUSIVE), .val (.int (1 : Int32)), .unset, .unset]) rfl k) ?_
    refine own_step (S' := (T74.setTop (mkF m 53 #[.val (.int p1), .val (.int (5 : Int32)), .val (.ref a_Canonicalization_EXCLUSIVE_WITH_COMMENTS), .val (.ref a_Canonicalization_EXCLUSIVE), .val (.int (1 : Int32)), .unset, .unset] [(.ref a_Canonicalization_EXCLUSIVE)]))) (fun _ k => XS.aloadN X74.here hx rfl (hb hby at_52) rfl rfl k) ?_
    obtain ⟨_, T75, L75, X75, ⟨rfl, N75q, e75⟩, st75⟩ := own_virt (argsL := []) (rest := []) X74 hx hZ hown (hw _ (List.mem_of_getElem? (i := 22) rfl)) (hw _ (List.mem_of_getElem? (i := 23) rfl)) (notFace_of_selects (args := #[]) (mvT hZ (hw _ (List.mem_of_getElem? (i := 25) rfl)))) (hw _ (List.mem_of_getElem? (i := 25) rfl)) (hw _ (List.mem_of_getElem? (i := 24) rfl)) (by decide) (hw _ (List.mem_of_getElem? (i := 26) rfl)) (hw _ (List.mem_of_getElem? (i := 6) rfl)) e74 E_Canonicalization_EXCLUSIVE (hM := rmX_1 l Z a0 hw [] a_Canonicalization_EXCLUSIVE a_Kind_EXCLUSIVE a_Kind_EXCLUSIVE h0 n0 Z0 F_Canonicalization_EXCLUSIVE_kind S_Kind_EXCLUSIVE rfl) (g := (mkF m 53 #[.val (.int p1), .val (.int (5 : Int32)), .val (.ref a_Canonicalization_EXCLUSIVE_WITH_COMMENTS), .val (.ref a_Canonicalization_EXCLUSIVE), .val (.int (1 : Int32)), .unset, .unset] [(.ref a_Canonicalization_EXCLUSIVE)])) (hg := rfl) (hsize := by rw [hml]; rfl) (hlen := lenOf pd_3 rfl) (hstack := rfl) (W := 0) (hW := by show 2 * 0 + _ ≤ _; exact Nat.le_of_eq rfl) (hd := (hb hby at_53)) (hf := by decide) (hl := by decide) (hc := by decide) (hs := by decide)
    have N75 := Fr.app N71 N75q
    refine own_step (S' := (T75.setTop (mkF m 56 #[.val (.int p1), .val (.int (5 : Int32)), .val (.ref a_Canonicalization_EXCLUSIVE_WITH_COMMENTS), .val (.ref a_Canonicalization_EXCLUSIVE), .val (.int (1 : Int32)), .unset, .unset] [(.int (1 : Int32))]))) (fun _ k => st75 _ k) ?_
    refine own_step (S' := (T75.setTop (mkF m 57 #[.val (.int p1), .val (.int (5 : Int32)), .val (.ref a_Canonicalization_EXCLUSIVE_WITH_COMMENTS), .val (.ref a_Canonicalization_EXCLUSIVE), .val (.int (1 : Int32)), .unset, .unset] [(.ref a_Canonicalization_EXCLUSIVE_WITH_COMMENTS), (.int (1 : Int32))]))) (fun _ k => XS.aloadN X75.here hx rfl (hb hby at_56) rfl rfl k) ?_
    obtain ⟨_, T76, L76, X76, ⟨rfl, N76q, e76⟩, st76⟩ := own_virt (argsL := []) (rest := [(.int (1 : Int32))]) X75 hx hZ hown (hw _ (List.mem_of_getElem? (i := 22) rfl)) (hw _ (List.mem_of_getElem? (i := 23) rfl)) (notFace_of_selects (args := #[]) (mvT hZ (hw _ (List.mem_of_getElem? (i := 25) rfl)))) (hw _ (List.mem_of_getElem? (i := 25) rfl)) (hw _ (List.mem_of_getElem? (i := 24) rfl)) (by decide) (hw _ (List.mem_of_getElem? (i := 26) rfl)) (hw _ (List.mem_of_getElem? (i := 6) rfl)) e75 E_Canonicalization_EXCLUSIVE_WITH_COMMENTS (hM := rmX_1 l Z a0 hw [] a_Canonicalization_EXCLUSIVE_WITH_COMMENTS a_Kind_EXCLUSIVE a_Kind_EXCLUSIVE h0 n0 Z0 F_Canonicalization_EXCLUSIVE_WITH_COMMENTS_kind S_Kind_EXCLUSIVE rfl) (g := (mkF m 57 #[.val (.int p1), .val (.int (5 : Int32)), .val (.ref a_Canonicalization_EXCLUSIVE_WITH_COMMENTS), .val (.ref a_Canonicalization_EXCLUSIVE), .val (.int (1 : Int32)), .unset, .unset] [(.ref a_Canonicalization_EXCLUSIVE_WITH_COMMENTS), (.int (1 : Int32))])) (hg := rfl) (hsize := by rw [hml]; rfl) (hlen := lenOf pd_3 rfl) (hstack := rfl) (W := 1) (hW := by show 2 * 0 + _ ≤ _; exact Nat.le_of_eq rfl) (hd := (hb hby at_57)) (hf := by decide) (hl := by decide) (hc := by decide) (hs := by decide)
    have N76 := Fr.app N75 N76q
    refine own_step (S' := (T76.setTop (mkF m 60 #[.val (.int p1), .val (.int (5 : Int32)), .val (.ref a_Canonicalization_EXCLUSIVE_WITH_COMMENTS), .val (.ref a_Canonicalization_EXCLUSIVE), .val (.int (1 : Int32)), .unset, .unset] [(.int (1 : Int32)), (.int (1 : Int32))]))) (fun _ k => st76 _ k) ?_
    refine own_step (S' := (T76.setTop (mkF m 63 #[.val (.int p1), .val (.int (5 : Int32)), .val (.ref a_Canonicalization_EXCLUSIVE_WITH_COMMENTS), .val (.ref a_Canonicalization_EXCLUSIVE), .val (.int (1 : Int32)), .unset, .unset] []))) (fun _ k => XS.icmpNo X76.here hx rfl (hb hby at_60) rfl (teq (by decide : (1 : Int32) = (1 : Int32))).2 k) ?_
    refine own_step (S' := (T76.setTop (mkF m 64 #[.val (.int p1), .val (.int (5 : Int32)), .val (.ref a_Canonicalization_EXCLUSIVE_WITH_COMMENTS), .val (.ref a_Canonicalization_EXCLUSIVE), .val (.int (1 : Int32)), .unset, .unset] [(.ref a_Canonicalization_EXCLUSIVE)]))) (fun _ k => XS.aloadN X76.here hx rfl (hb hby at_63) rfl rfl k) ?_
    obtain ⟨_, T77, L77, X77, ⟨rfl, N77q, e77⟩, st77⟩ := own_virt (argsL := []) (rest := []) X76 hx hZ hown (hw _ (List.mem_of_getElem? (i := 33) rfl)) (hw _ (List.mem_of_getElem? (i := 34) rfl)) (notFace_of_selects (args := #[]) (mvT hZ (hw _ (List.mem_of_getElem? (i := 36) rfl)))) (hw _ (List.mem_of_getElem? (i := 36) rfl)) (hw _ (List.mem_of_getElem? (i := 35) rfl)) (by decide) (hw _ (List.mem_of_getElem? (i := 37) rfl)) (hw _ (List.mem_of_getElem? (i := 6) rfl)) e76 E_Canonicalization_EXCLUSIVE (hM := rmS_1 l Z a0 hw [] a_Canonicalization_EXCLUSIVE a_Kind_EXCLUSIVE a_Kind_INCLUSIVE_11 h0 n0 Z0 F_Canonicalization_EXCLUSIVE_kind S_Kind_INCLUSIVE_11 (Fld.ne F_Kind_EXCLUSIVE_ordinal F_Kind_INCLUSIVE_11_ordinal (by decide))) (g := (mkF m 64 #[.val (.int p1), .val (.int (5 : Int32)), .val (.ref a_Canonicalization_EXCLUSIVE_WITH_COMMENTS), .val (.ref a_Canonicalization_EXCLUSIVE), .val (.int (1 : Int32)), .unset, .unset] [(.ref a_Canonicalization_EXCLUSIVE)])) (hg := rfl) (hsize := by rw [hml]; rfl) (hlen := lenOf pd_3 rfl) (hstack := rfl) (W := 0) (hW := by show 2 * 0 + _ ≤ _; exact Nat.le_of_eq rfl) (hd := (hb hby at_64)) (hf := by decide) (hl := by decide) (hc := by decide) (hs := by decide)
    have N77 := Fr.app N76 N77q
    refine own_step (S' := (T77.setTop (mkF m 67 #[.val (.int p1), .val (.int (5 : Int32)), .val (.ref a_Canonicalization_EXCLUSIVE_WITH_COMMENTS), .val (.ref a_Canonicalization_EXCLUSIVE), .val (.int (1 : Int32)), .unset, .unset] [(.int (1 : Int32))]))) (fun _ k => st77 _ k) ?_
    refine own_step (S' := (T77.setTop (mkF m 68 #[.val (.int p1), .val (.int (5 : Int32)), .val (.ref a_Canonicalization_EXCLUSIVE_WITH_COMMENTS), .val (.ref a_Canonicalization_EXCLUSIVE), .val (.int (1 : Int32)), .unset, .unset] [(.ref a_Canonicalization_EXCLUSIVE_WITH_COMMENTS), (.int (1 : Int32))]))) (fun _ k => XS.aloadN X77.here hx rfl (hb hby at_67) rfl rfl k) ?_
    obtain ⟨_, T78, L78, X78, ⟨rfl, N78q, e78⟩, st78⟩ := own_virt (argsL := []) (rest := [(.int (1 : Int32))]) X77 hx hZ hown (hw _ (List.mem_of_getElem? (i := 33) rfl)) (hw _ (List.mem_of_getElem? (i := 34) rfl)) (notFace_of_selects (args := #[]) (mvT hZ (hw _ (List.mem_of_getElem? (i := 36) rfl)))) (hw _ (List.mem_of_getElem? (i := 36) rfl)) (hw _ (List.mem_of_getElem? (i := 35) rfl)) (by decide) (hw _ (List.mem_of_getElem? (i := 37) rfl)) (hw _ (List.mem_of_getElem? (i := 6) rfl)) e77 E_Canonicalization_EXCLUSIVE_WITH_COMMENTS (hM := rmS_1 l Z a0 hw [] a_Canonicalization_EXCLUSIVE_WITH_COMMENTS a_Kind_EXCLUSIVE a_Kind_INCLUSIVE_11 h0 n0 Z0 F_Canonicalization_EXCLUSIVE_WITH_COMMENTS_kind S_Kind_INCLUSIVE_11 (Fld.ne F_Kind_EXCLUSIVE_ordinal F_Kind_INCLUSIVE_11_ordinal (by decide))) (g := (mkF m 68 #[.val (.int p1), .val (.int (5 : Int32)), .val (.ref a_Canonicalization_EXCLUSIVE_WITH_COMMENTS), .val (.ref a_Canonicalization_EXCLUSIVE), .val (.int (1 : Int32)), .unset, .unset] [(.ref a_Canonicalization_EXCLUSIVE_WITH_COMMENTS), (.int (1 : Int32))])) (hg := rfl) (hsize := by rw [hml]; rfl) (hlen := lenOf pd_3 rfl) (hstack := rfl) (W := 1) (hW := by show 2 * 0 + _ ≤ _; exact Nat.le_of_eq rfl) (hd := (hb hby at_68)) (hf := by decide) (hl := by decide) (hc := by decide) (hs := by decide)
    have N78 := Fr.app N77 N78q
    refine own_step (S' := (T78.setTop (mkF m 71 #[.val (.int p1), .val (.int (5 : Int32)), .val (.ref a_Canonicalization_EXCLUSIVE_WITH_COMMENTS), .val (.ref a_Canonicalization_EXCLUSIVE), .val (.int (1 : Int32)), .unset, .unset] [(.int (1 : Int32)), (.int (1 : Int32))]))) (fun _ k => st78 _ k) ?_
    refine own_step (S' := (T78.setTop (mkF m 74 #[.val (.int p1), .val (.int (5 : Int32)), .val (.ref a_Canonicalization_EXCLUSIVE_WITH_COMMENTS), .val (.ref a_Canonicalization_EXCLUSIVE), .val (.int (1 : Int32)), .unset, .unset] []))) (fun _ k => XS.icmpNo X78.here hx rfl (hb hby at_71) rfl (teq (by decide : (1 : Int32) = (1 : Int32))).2 k) ?_
    refine own_step (S' := (T78.setTop (mkF m 75 #[.val (.int p1), .val (.int (5 : Int32)), .val (.ref a_Canonicalization_EXCLUSIVE_WITH_COMMENTS), .val (.ref a_Canonicalization_EXCLUSIVE), .val (.int (1 : Int32)), .unset, .unset] [(.int (1 : Int32))]))) (fun _ k => XS.iconst X78.here hx rfl (hb hby at_74) k) ?_
    refine own_step (S' := (T78.setTop (mkF m 79 #[.val (.int p1), .val (.int (5 : Int32)), .val (.ref a_Canonicalization_EXCLUSIVE_WITH_COMMENTS), .val (.ref a_Canonicalization_EXCLUSIVE), .val (.int (1 : Int32)), .unset, .unset] [(.int (1 : Int32))]))) (fun _ k => XS.goto X78.here hx rfl (pc0 := 75) (pc' := 79) rfl (hb hby at_75) (by decide) (by decide) k) ?_
    refine own_step (S' := (T78.setTop (mkF m 81 #[.val (.int p1), .val (.int (5 : Int32)), .val (.ref a_Canonicalization_EXCLUSIVE_WITH_COMMENTS), .val (.ref a_Canonicalization_EXCLUSIVE), .val (.int (1 : Int32)), .val (.int (1 : Int32)), .unset] []))) (fun _ k => XS.istore X78.here hx rfl (hb hby at_79) rfl (l' := #[.val (.int p1), .val (.int (5 : Int32)), .val (.ref a_Canonicalization_EXCLUSIVE_WITH_COMMENTS), .val (.ref a_Canonicalization_EXCLUSIVE), .val (.int (1 : Int32)), .val (.int (1 : Int32)), .unset]) rfl k) ?_
    refine own_step (S' := (T78.setTop (mkF m 82 #[.val (.int p1), .val (.int (5 : Int32)), .val (.ref a_Canonicalization_EXCLUSIVE_WITH_COMMENTS), .val (.ref a_Canonicalization_EXCLUSIVE), .val (.int (1 : Int32)), .val (.int (1 : Int32)), .unset] [(.ref a_Canonicalization_EXCLUSIVE)]))) (fun _ k => XS.aloadN X78.here hx rfl (hb hby at_81) rfl rfl k) ?_
    obtain ⟨_, T79, L79, X79, ⟨rfl, N79q, e79⟩, st79⟩ := own_virt (argsL := []) (rest := []) X78 hx hZ hown (hw _ (List.mem_of_getElem? (i := 8) rfl)) (hw _ (List.mem_of_getElem? (i := 9) rfl)) (notFace_of_selects (args := #[]) (mvT hZ (hw _ (List.mem_of_getElem? (i := 11) rfl)))) (hw _ (List.mem_of_getElem? (i := 11) rfl)) (hw _ (List.mem_of_getElem? (i := 10) rfl)) (by decide) (hw _ (List.mem_of_getElem? (i := 12) rfl)) (hw _ (List.mem_of_getElem? (i := 6) rfl)) e78 E_Canonicalization_EXCLUSIVE (hM := rmW_4 l Z a0 hw [] a_Canonicalization_EXCLUSIVE h0 n0 Z0 F_Canonicalization_EXCLUSIVE_ordinal E_Canonicalization_EXCLUSIVE) (g := (mkF m 82 #[.val (.int p1), .val (.int (5 : Int32)), .val (.ref a_Canonicalization_EXCLUSIVE_WITH_COMMENTS), .val (.ref a_Canonicalization_EXCLUSIVE), .val (.int (1 : Int32)), .val (.int (1 : Int32)), .unset] [(.ref a_Canonicalization_EXCLUSIVE)])) (hg := rfl) (hsize := by rw [hml]; rfl) (hlen := lenOf pd_2 rfl) (hstack := rfl) (W := 0) (hW := by show 2 * 0 + _ ≤ _; exact Nat.le_of_eq rfl) (hd := (hb hby at_82)) (hf := by decide) (hl := by decide) (hc := by decide) (hs := by decide)
    have N79 := Fr.app N78 N79q
    refine own_step (S' := (T79.setTop (mkF m 85 #[.val (.int p1), .val (.int (5 : Int32)), .val (.ref a_Canonicalization_EXCLUSIVE_WITH_COMMENTS), .val (.ref a_Canonicalization_EXCLUSIVE), .val (.int (1 : Int32)), .val (.int (1 : Int32)), .unset] [(.ref a_Canonicalization_EXCLUSIVE)]))) (fun _ k => st79 _ k) ?_
    refine own_step (S' := (T79.setTop (mkF m 86 #[.val (.int p1), .val (.int (5 : Int32)), .val (.ref a_Canonicalization_EXCLUSIVE_WITH_COMMENTS), .val (.ref a_Canonicalization_EXCLUSIVE), .val (.int (1 : Int32)), .val (.int (1 : Int32)), .unset] [(.ref a_Canonicalization_EXCLUSIVE), (.ref a_Canonicalization_EXCLUSIVE)]))) (fun _ k => XS.aloadN X79.here hx rfl (hb hby at_85) rfl rfl k) ?_
    refine own_step (S' := (T79.setTop (mkF m 89 #[.val (.int p1), .val (.int (5 : Int32)), .val (.ref a_Canonicalization_EXCLUSIVE_WITH_COMMENTS), .val (.ref a_Canonicalization_EXCLUSIVE), .val (.int (1 : Int32)), .val (.int (1 : Int32)), .unset] []))) (fun _ k => Jvm.RoadKit.acmp (g := (mkF m 86 #[.val (.int p1), .val (.int (5 : Int32)), .val (.ref a_Canonicalization_EXCLUSIVE_WITH_COMMENTS), .val (.ref a_Canonicalization_EXCLUSIVE), .val (.int (1 : Int32)), .val (.int (1 : Int32)), .unset] [(.ref a_Canonicalization_EXCLUSIVE), (.ref a_Canonicalization_EXCLUSIVE)])) X79 hx rfl rfl rfl (pc0 := 86) (pc' := 89) (same := true) rfl (hb hby at_86) rfl (decide_eq_true rfl) (by decide) (by decide) k) ?_
    refine own_step (S' := (T79.setTop (mkF m 90 #[.val (.int p1), .val (.int (5 : Int32)), .val (.ref a_Canonicalization_EXCLUSIVE_WITH_COMMENTS), .val (.ref a_Canonicalization_EXCLUSIVE), .val (.int (1 : Int32)), .val (.int (1 : Int32)), .unset] [(.int (1 : Int32))]))) (fun _ k => XS.iconst X79.here hx rfl (hb hby at_89) k) ?_
    refine own_step (S' := (T79.setTop (mkF m 94 #[.val (.int p1), .val (.int (5 : Int32)), .val (.ref a_Canonicalization_EXCLUSIVE_WITH_COMMENTS), .val (.ref a_Canonicalization_EXCLUSIVE), .val (.int (1 : Int32)), .val (.int (1 : Int32)), .unset] [(.int (1 : Int32))]))) (fun _ k => XS.goto X79.here hx rfl (pc0 := 90) (pc' := 94) rfl (hb hby at_90) (by decide) (by decide) k) ?_
    refine own_step (S' := (T79.setTop (mkF m 96 #[.val (.int p1), .val (.int (5 : Int32)), .val (.ref a_Canonicalization_EXCLUSIVE_WITH_COMMENTS), .val (.ref a_Canonicalization_EXCLUSIVE), .val (.int (1 : Int32)), .val (.int (1 : Int32)), .val (.int (1 : Int32))] []))) (fun _ k => XS.istore X79.here hx rfl (hb hby at_94) rfl (l' := #[.val (.int p1), .val (.int (5 : Int32)), .val (.ref a_Canonicalization_EXCLUSIVE_WITH_COMMENTS), .val (.ref a_Canonicalization_EXCLUSIVE), .val (.int (1 : Int32)), .val (.int (1 : Int32)), .val (.int (1 : Int32))]) rfl k) ?_
    refine own_step (S' := (T79.setTop (mkF m 98 #[.val (.int p1), .val (.int (5 : Int32)), .val (.ref a_Canonicalization_EXCLUSIVE_WITH_COMMENTS), .val (.ref a_Canonicalization_EXCLUSIVE), .val (.int (1 : Int32)), .val (.int (1 : Int32)), .val (.int (1 : Int32))] [(.int (1 : Int32))]))) (fun _ k => XS.iload X79.here hx rfl (hb hby at_96) rfl k) ?_
    refine own_step (S' := (T79.setTop (mkF m 101 #[.val (.int p1), .val (.int (5 : Int32)), .val (.ref a_Canonicalization_EXCLUSIVE_WITH_COMMENTS), .val (.ref a_Canonicalization_EXCLUSIVE), .val (.int (1 : Int32)), .val (.int (1 : Int32)), .val (.int (1 : Int32))] []))) (fun _ k => XS.ifNo X79.here hx rfl (hb hby at_98) rfl ((if0 _ _).trans (feq (by decide : ¬ ((1 : Int32) = (0 : Int32)))).1) k) ?_
    refine own_step (S' := (T79.setTop (mkF m 103 #[.val (.int p1), .val (.int (5 : Int32)), .val (.ref a_Canonicalization_EXCLUSIVE_WITH_COMMENTS), .val (.ref a_Canonicalization_EXCLUSIVE), .val (.int (1 : Int32)), .val (.int (1 : Int32)), .val (.int (1 : Int32))] [(.int (1 : Int32))]))) (fun _ k => XS.iload X79.here hx rfl (hb hby at_101) rfl k) ?_
    refine own_step (S' := (T79.setTop (mkF m 106 #[.val (.int p1), .val (.int (5 : Int32)), .val (.ref a_Canonicalization_EXCLUSIVE_WITH_COMMENTS), .val (.ref a_Canonicalization_EXCLUSIVE), .val (.int (1 : Int32)), .val (.int (1 : Int32)), .val (.int (1 : Int32))] []))) (fun _ k => XS.ifNo X79.here hx rfl (hb hby at_103) rfl ((if0 _ _).trans (feq (by decide : ¬ ((1 : Int32) = (0 : Int32)))).1) k) ?_
    refine own_step (S' := (T79.setTop (mkF m 108 #[.val (.int p1), .val (.int (5 : Int32)), .val (.ref a_Canonicalization_EXCLUSIVE_WITH_COMMENTS), .val (.ref a_Canonicalization_EXCLUSIVE), .val (.int (1 : Int32)), .val (.int (1 : Int32)), .val (.int (1 : Int32))] [(.int (1 : Int32))]))) (fun _ k => XS.iload X79.here hx rfl (hb hby at_106) rfl k) ?_
    refine own_step (S' := (T79.setTop (mkF m 111 #[.val (.int p1), .val (.int (5 : Int32)), .val (.ref a_Canonicalization_EXCLUSIVE_WITH_COMMENTS), .val (.ref a_Canonicalization_EXCLUSIVE), .val (.int (1 : Int32)), .val (.int (1 : Int32)), .val (.int (1 : Int32))] []))) (fun _ k => XS.ifNo X79.here hx rfl (hb hby at_108) rfl ((if0 _ _).trans (feq (by decide : ¬ ((1 : Int32) = (0 : Int32)))).1) k) ?_
    refine own_step (S' := (T79.setTop (mkF m 112 #[.val (.int p1), .val (.int (5 : Int32)), .val (.ref a_Canonicalization_EXCLUSIVE_WITH_COMMENTS), .val (.ref a_Canonicalization_EXCLUSIVE), .val (.int (1 : Int32)), .val (.int (1 : Int32)), .val (.int (1 : Int32))] [(.int (1 : Int32))]))) (fun _ k => XS.iconst X79.here hx rfl (hb hby at_111) k) ?_
    refine own_step (S' := (T79.setTop (mkF m 116 #[.val (.int p1), .val (.int (5 : Int32)), .val (.ref a_Canonicalization_EXCLUSIVE_WITH_COMMENTS), .val (.ref a_Canonicalization_EXCLUSIVE), .val (.int (1 : Int32)), .val (.int (1 : Int32)), .val (.int (1 : Int32))] [(.int (1 : Int32))]))) (fun _ k => XS.goto X79.here hx rfl (pc0 := 112) (pc' := 116) rfl (hb hby at_112) (by decide) (by decide) k) ?_
    refine own_retN X79 hx hlk hret (by simp) (by decide) (hb hby at_116) (by decide) (by decide) ?_
    try rw [e79]
    exact ⟨rfl, N79⟩
set_option maxRecDepth 65536 in
set_option maxHeartbeats 40000000 in
theorem comes_1 {Post : Tables → Env → Array Value → State → Outcome → State → Prop} (hpost : ∀ tb e args s v u, (limb_1_1.after args s (.returned v) u = true ∧ limb_1_2.after args s (.returned v) u = true ∧ True) → FrameEnd s (.returned v) u (Jvm.fieldLocs frame_1_writes args s ++ Jvm.arrayLocs frame_1_arrays args s ++ Jvm.staticLocs frame_1_statics s) 0 0 → Post tb e args s (.returned v) u) :
    ArmFor flags0 classFile x code maxLocals ret World_1 tables_1 room_1 Calls_1 rest_1 Pre_1 Post := by
  intro l hfl _ _ p e ha hc hk s m args below hf hA hF happ hP
  obtain ⟨hcalls, hrest, hpre⟩ := hP
  obtain ⟨-, -, -, hnamed, -, -, -, hat⟩ := (Spec.applies_iff hf).mp happ
  obtain ⟨hg, hn⟩ := and_e (Cond.before_iff.mp (show (Jvm.Cond.and given_1 narrow_1).before args s = true from hpre))
  obtain ⟨g0a, g0b⟩ := and_e hg
  obtain ⟨w0, rfl⟩ : ∃ w0 : Value, args = #[w0] := by
    have hs : args.size = 1 := by simpa [Cond.value, given_1] using g0a
    obtain ⟨L⟩ := args
    match L, hs with
    | [w0], _ => exact ⟨w0, rfl⟩
  have hw := fun d (hd : d ∈ tables_1) => atoms_spec (ws := Jvm.Cond.code x code maxLocals ret :: tables_1) hat d (List.mem_cons_of_mem _ hd)
  have hfit : Fit s := fun {y c} hc i hi => by
    obtain ⟨ha, rfl⟩ := Array.getElem?_eq_some_iff.mp hc
    have q := List.all_eq_true.mp ((Array.all_eq_true_iff_forall_mem.mp hF) _ (Array.getElem_mem ha)) i (List.mem_range.mpr hi)
    simpa [Array.getElem?_eq_getElem hi] using q
  obtain ⟨i0, ei0⟩ := is_v g0b
  obtain rfl : w0 = (.int i0) := Option.some.inj ei0
  obtain ⟨n0a, n0b⟩ := and_e hn
  obtain ⟨n1a, n1b⟩ := and_e n0b
  obtain ⟨n2a, n2b⟩ := and_e n1b
  obtain ⟨n3a, n3b⟩ := and_e n2b
  obtain ⟨n4a, n4b⟩ := and_e n3b
  obtain ⟨n5a, n5b⟩ := and_e n4b
  obtain ⟨n6a, n6b⟩ := and_e n5b
  obtain ⟨n7a, n7b⟩ := and_e n6b
  obtain ⟨n8a, n8b⟩ := and_e n7b
  obtain ⟨n9a, n9b⟩ := and_e n8b
  obtain ⟨n10a, n10b⟩ := and_e n9b
  obtain ⟨n11a, n11b⟩ := and_e n10b
  obtain ⟨n12a, n12b⟩ := and_e n11b
  obtain ⟨n13a, n13b⟩ := and_e n12b
  obtain ⟨n14a, n14b⟩ := and_e n13b
  obtain ⟨n15a, n15b⟩ := and_e n14b
  obtain ⟨n16a, n16b⟩ := and_e n15b
  obtain ⟨n17a, n17b⟩ := and_e n16b
  obtain ⟨n18a, n18b⟩ := and_e n17b
  obtain ⟨n19a, n19b⟩ := and_e n18b
  obtain ⟨n20a, n20b⟩ := and_e n19b
  obtain ⟨n21a, n21b⟩ := and_e n20b
  obtain ⟨n22a, n22b⟩ := and_e n21b
  obtain ⟨a_Canonicalization_INCLUSIVE, ev_Canonicalization_INCLUSIVE⟩ := exa_v n0a
  have E_Canonicalization_INCLUSIVE := Exa.start ev_Canonicalization_INCLUSIVE n0a
  have S_Canonicalization_INCLUSIVE := Sta.start ev_Canonicalization_INCLUSIVE (Or.inr ⟨(hw _ (List.mem_of_getElem? (i := 6) rfl)), (hw _ (List.mem_of_getElem? (i := 7) rfl))⟩)
  have F_Canonicalization_INCLUSIVE_ordinal := own_fld ev_Canonicalization_INCLUSIVE (own_eqI n1a)
  obtain ⟨a_Kind_INCLUSIVE, ev_Kind_INCLUSIVE⟩ := exa_v n2a
  have E_Kind_INCLUSIVE := Exa.start ev_Kind_INCLUSIVE n2a
  have S_Kind_INCLUSIVE := Sta.start ev_Kind_INCLUSIVE (Or.inr ⟨(hw _ (List.mem_of_getElem? (i := 29) rfl)), (hw _ (List.mem_of_getElem? (i := 30) rfl))⟩)
  have ev_Canonicalization_INCLUSIVE_kind := own_eqR ev_Kind_INCLUSIVE n3a
  have F_Canonicalization_INCLUSIVE_kind := own_fld ev_Canonicalization_INCLUSIVE ev_Canonicalization_INCLUSIVE_kind
  obtain ⟨a_Kind_EXCLUSIVE, ev_Kind_EXCLUSIVE⟩ := exa_v n4a
  have E_Kind_EXCLUSIVE := Exa.start ev_Kind_EXCLUSIVE n4a
  have S_Kind_EXCLUSIVE := Sta.start ev_Kind_EXCLUSIVE (Or.inr ⟨(hw _ (List.mem_of_getElem? (i := 29) rfl)), (hw _ (List.mem_of_getElem? (i := 32) rfl))⟩)
  have F_Kind_INCLUSIVE_ordinal := own_fld ev_Kind_INCLUSIVE (own_eqI n5a)
  have F_Kind_EXCLUSIVE_ordinal := own_fld ev_Kind_EXCLUSIVE (own_eqI n6a)
  obtain ⟨a_Kind_INCLUSIVE_11, ev_Kind_INCLUSIVE_11⟩ := exa_v n7a
  have E_Kind_INCLUSIVE_11 := Exa.start ev_Kind_INCLUSIVE_11 n7a
  have S_Kind_INCLUSIVE_11 := Sta.start ev_Kind_INCLUSIVE_11 (Or.inr ⟨(hw _ (List.mem_of_getElem? (i := 29) rfl)), (hw _ (List.mem_of_getElem? (i := 39) rfl))⟩)
  have F_Kind_INCLUSIVE_11_ordinal := own_fld ev_Kind_INCLUSIVE_11 (own_eqI n8a)
  obtain ⟨a_Canonicalization_INCLUSIVE_11_WITH_COMMENTS, ev_Canonicalization_INCLUSIVE_11_WITH_COMMENTS⟩ := exa_v n9a
  have E_Canonicalization_INCLUSIVE_11_WITH_COMMENTS := Exa.start ev_Canonicalization_INCLUSIVE_11_WITH_COMMENTS n9a
  have S_Canonicalization_INCLUSIVE_11_WITH_COMMENTS := Sta.start ev_Canonicalization_INCLUSIVE_11_WITH_COMMENTS (Or.inr ⟨(hw _ (List.mem_of_getElem? (i := 6) rfl)), (hw _ (List.mem_of_getElem? (i := 41) rfl))⟩)
  have F_Canonicalization_INCLUSIVE_11_WITH_COMMENTS_ordinal := own_fld ev_Canonicalization_INCLUSIVE_11_WITH_COMMENTS (own_eqI n10a)
  obtain ⟨a_Canonicalization_INCLUSIVE_11, ev_Canonicalization_INCLUSIVE_11⟩ := exa_v n11a
  have E_Canonicalization_INCLUSIVE_11 := Exa.start ev_Canonicalization_INCLUSIVE_11 n11a
  have S_Canonicalization_INCLUSIVE_11 := Sta.start ev_Canonicalization_INCLUSIVE_11 (Or.inr ⟨(hw _ (List.mem_of_getElem? (i := 6) rfl)), (hw _ (List.mem_of_getElem? (i := 43) rfl))⟩)
  have F_Canonicalization_INCLUSIVE_11_ordinal := own_fld ev_Canonicalization_INCLUSIVE_11 (own_eqI n12a)
  have ev_Canonicalization_INCLUSIVE_11_kind := own_eqR ev_Kind_INCLUSIVE_11 n13a
  have F_Canonicalization_INCLUSIVE_11_kind := own_fld ev_Canonicalization_INCLUSIVE_11 ev_Canonicalization_INCLUSIVE_11_kind
  have ev_Canonicalization_INCLUSIVE_11_WITH_COMMENTS_kind := own_eqR ev_Kind_INCLUSIVE_11 n14a
  have F_Canonicalization_INCLUSIVE_11_WITH_COMMENTS_kind := own_fld ev_Canonicalization_INCLUSIVE_11_WITH_COMMENTS ev_Canonicalization_INCLUSIVE_11_WITH_COMMENTS_kind
  obtain ⟨a_Canonicalization_INCLUSIVE_WITH_COMMENTS, ev_Canonicalization_INCLUSIVE_WITH_COMMENTS⟩ := exa_v n15a
  have E_Canonicalization_INCLUSIVE_WITH_COMMENTS := Exa.start ev_Canonicalization_INCLUSIVE_WITH_COMMENTS n15a
  have S_Canonicalization_INCLUSIVE_WITH_COMMENTS := Sta.start ev_Canonicalization_INCLUSIVE_WITH_COMMENTS (Or.inr ⟨(hw _ (List.mem_of_getElem? (i := 6) rfl)), (hw _ (List.mem_of_getElem? (i := 46) rfl))⟩)
  have F_Canonicalization_INCLUSIVE_WITH_COMMENTS_ordinal := own_fld ev_Canonicalization_INCLUSIVE_WITH_COMMENTS (own_eqI n16a)
  have ev_Canonicalization_INCLUSIVE_WITH_COMMENTS_kind := own_eqR ev_Kind_INCLUSIVE n17a
  have F_Canonicalization_INCLUSIVE_WITH_COMMENTS_kind := own_fld ev_Canonicalization_INCLUSIVE_WITH_COMMENTS ev_Canonicalization_INCLUSIVE_WITH_COMMENTS_kind
  obtain ⟨a_Canonicalization_EXCLUSIVE_WITH_COMMENTS, ev_Canonicalization_EXCLUSIVE_WITH_COMMENTS⟩ := exa_v n18a
  have E_Canonicalization_EXCLUSIVE_WITH_COMMENTS := Exa.start ev_Canonicalization_EXCLUSIVE_WITH_COMMENTS n18a
  have S_Canonicalization_EXCLUSIVE_WITH_COMMENTS := Sta.start ev_Canonicalization_EXCLUSIVE_WITH_COMMENTS (Or.inr ⟨(hw _ (List.mem_of_getElem? (i := 6) rfl)), (hw _ (List.mem_of_getElem? (i := 49) rfl))⟩)
  have F_Canonicalization_EXCLUSIVE_WITH_COMMENTS_ordinal := own_fld ev_Canonicalization_EXCLUSIVE_WITH_COMMENTS (own_eqI n19a)
  obtain ⟨a_Canonicalization_EXCLUSIVE, ev_Canonicalization_EXCLUSIVE⟩ := exa_v n20a
  have E_Canonicalization_EXCLUSIVE := Exa.start ev_Canonicalization_EXCLUSIVE n20a
  have S_Canonicalization_EXCLUSIVE := Sta.start ev_Canonicalization_EXCLUSIVE (Or.inr ⟨(hw _ (List.mem_of_getElem? (i := 6) rfl)), (hw _ (List.mem_of_getElem? (i := 51) rfl))⟩)
  have F_Canonicalization_EXCLUSIVE_ordinal := own_fld ev_Canonicalization_EXCLUSIVE (own_eqI n21a)
  have ev_Canonicalization_EXCLUSIVE_kind := own_eqR ev_Kind_EXCLUSIVE n22a
  have F_Canonicalization_EXCLUSIVE_kind := own_fld ev_Canonicalization_EXCLUSIVE ev_Canonicalization_EXCLUSIVE_kind
  have ev_Canonicalization_EXCLUSIVE_WITH_COMMENTS_kind := own_eqR ev_Kind_EXCLUSIVE n22b
  have F_Canonicalization_EXCLUSIVE_WITH_COMMENTS_kind := own_fld ev_Canonicalization_EXCLUSIVE_WITH_COMMENTS ev_Canonicalization_EXCLUSIVE_WITH_COMMENTS_kind
  obtain ⟨n, o, h1, h2, h3, _, L, rfl, ⟨rfl, N⟩, hq⟩ := (rm0 l s _ hw tables_1 a_Canonicalization_INCLUSIVE a_Kind_INCLUSIVE a_Kind_EXCLUSIVE a_Kind_INCLUSIVE_11 a_Canonicalization_INCLUSIVE_11_WITH_COMMENTS a_Canonicalization_INCLUSIVE_11 a_Canonicalization_INCLUSIVE_WITH_COMMENTS a_Canonicalization_EXCLUSIVE_WITH_COMMENTS a_Canonicalization_EXCLUSIVE i0 s.heap s.heap.size (Nat.le_refl _) S_Canonicalization_INCLUSIVE E_Canonicalization_INCLUSIVE S_Kind_INCLUSIVE E_Kind_INCLUSIVE S_Kind_EXCLUSIVE E_Kind_EXCLUSIVE S_Kind_INCLUSIVE_11 E_Kind_INCLUSIVE_11 S_Canonicalization_INCLUSIVE_11_WITH_COMMENTS E_Canonicalization_INCLUSIVE_11_WITH_COMMENTS S_Canonicalization_INCLUSIVE_11 E_Canonicalization_INCLUSIVE_11 S_Canonicalization_INCLUSIVE_WITH_COMMENTS E_Canonicalization_INCLUSIVE_WITH_COMMENTS S_Canonicalization_EXCLUSIVE_WITH_COMMENTS E_Canonicalization_EXCLUSIVE_WITH_COMMENTS S_Canonicalization_EXCLUSIVE E_Canonicalization_EXCLUSIVE F_Canonicalization_INCLUSIVE_ordinal F_Canonicalization_INCLUSIVE_kind F_Kind_INCLUSIVE_ordinal F_Kind_EXCLUSIVE_ordinal F_Kind_INCLUSIVE_11_ordinal F_Canonicalization_INCLUSIVE_11_WITH_COMMENTS_ordinal F_Canonicalization_INCLUSIVE_11_ordinal F_Canonicalization_INCLUSIVE_11_kind F_Canonicalization_INCLUSIVE_11_WITH_COMMENTS_kind F_Canonicalization_INCLUSIVE_WITH_COMMENTS_ordinal F_Canonicalization_INCLUSIVE_WITH_COMMENTS_kind F_Canonicalization_EXCLUSIVE_WITH_COMMENTS_ordinal F_Canonicalization_EXCLUSIVE_ordinal F_Canonicalization_EXCLUSIVE_kind F_Canonicalization_EXCLUSIVE_WITH_COMMENTS_kind) p e ha hc hk s m _ below hf ((Spec.applies_iff_loose hf).mp happ).1 ⟨rfl, State.Warmed39.refl s, rfl⟩ trivial
  refine ⟨n, _, h1, h2, h3, hpost _ _ _ _ _ _ ⟨Cond.after_iff.mpr rfl, Cond.after_iff.mpr (eq_i res_at (Term.int_eval (1)) rfl), trivial⟩ ⟨hq.1, hq.2.1, (hq.2.2.sift fun y hy => Or.inr (N y hy)).mono (by decide) (by decide)⟩⟩
theorem main_1_1 : Claimed_1_1 := comes_1 fun _ _ _ _ _ _ h hF => ⟨h.1, hF⟩
theorem main_1_2 : Claimed_1_2 := comes_1 fun _ _ _ _ _ _ h hF => ⟨h.2.1, hF⟩
end Jvm.Pilot.@@N@@
namespace Jvm.Pilot.@@N@@
open Jvm Jvm.ClassFile Sem Op Lib Jvm.Free Jvm.Stand Jvm.Pilot.@@N@@.Jvm.D
/-! MADE BY PROGRAM (witnessworld.py) out of the Statement's table words and the real class files: 13 classes; the members and pool entries that the words name. The judged class is class 1, her method 2. -/
namespace start1
open Jvm.ClassFile
def u (s : String) : CpInfo := .utf8 (stringToUtf16 s)
/-- a pool by its gaps: so many unusable entries, then the entry; so many at the end -/
def gap : Nat → List CpInfo → List CpInfo
  | 0, r => r
  | n + 1, r => .unusable :: gap n r
def poolList (es : List (Nat × CpInfo)) (last : Nat) : List CpInfo := es.foldr (fun e r => gap e.1 (e.2 :: r)) (gap last [])
def pool (es : List (Nat × CpInfo)) (last : Nat) : Array CpInfo := ⟨poolList es last⟩
def fileOf (pool : Array CpInfo) (this : Nat) (attrs : Array Attribute := #[]) (ms : Array MethodInfo := #[]) (fl : Nat := 33) (sup : Nat := 0) (ifs : Array Nat := #[]) (fds : Array FieldInfo := #[]) : ClassFile where
  minorVersion := 0
  majorVersion := 65
  constantPool := pool
  accessFlags := fl
  thisClass := this
  superClass := sup
  interfaces := ifs
  fields := fds
  methods := ms
  attributes := attrs
def plain (name : String) (sup : Option ClassId) : Class where
  name := name
  kind := .ordinary
  loader := none
  accessFlags := 33
  super := sup
  interfaces := #[]
  cf := none
  fields := #[]
  methods := #[]
  instanceTypes := #[]
  staticTypes := #[]
  resolved := #[]
  callSites := []
  init := .initialized
  statics := none
  mirror := none

def pool0 : Array CpInfo := pool [(5, u "<init>"), (0, u "()V"), (1, .class_ 10), (1, u "java/lang/Object")] 113

def k0m0 : Method := { name := "<init>", desc := "()V", sig := { parameters := [], returnType := none }, accessFlags := 1, code := none }
/-- java/lang/Object -/
def k0 : Class := { plain "java/lang/Object" none with
  accessFlags := 33
  interfaces := #[]
  cf := some (fileOf pool0 8 #[] #[{ accessFlags := 1, nameIndex := 5, descriptorIndex := 6, attributes := #[] }] 33 0 #[] #[])
  fields := #[]
  methods := #[k0m0]
  instanceTypes := #[]
  staticTypes := #[]
  resolved := Array.replicate 124 none
  statics := none }

def pool1 : Array CpInfo := pool [(2, .class_ 4), (1, u "java/lang/Object"), (0, u "<init>"), (0, u "()V"), (0, .fieldref 8 9), (0, .class_ 10), (0, .nameAndType 11 12), (0, u "com/example/ratatoskr/ratatoskr/Canonicalization"), (0, u "INCLUSIVE"), (0, u "Lcom/example/ratatoskr/ratatoskr/Canonicalization;"), (0, .fieldref 8 14), (0, .nameAndType 15 12), (0, u "INCLUSIVE_WITH_COMMENTS"), (0, .fieldref 8 17), (0, .nameAndType 18 12), (0, u "INCLUSIVE_11"), (0, .fieldref 8 20), (0, .nameAndType 21 12), (0, u "INCLUSIVE_11_WITH_COMMENTS"), (0, .fieldref 8 23), (0, .nameAndType 24 12), (0, u "EXCLUSIVE"), (0, .fieldref 8 26), (0, .nameAndType 27 12), (0, u "EXCLUSIVE_WITH_COMMENTS"), (0, .integer 2147483647), (0, .methodref 30 31), (0, .class_ 32), (0, .nameAndType 33 34), (0, u "com/example/ratatoskr/ratatoskr/CanonicalizationWithoutCommentsPinLaw"), (0, u "pick"), (0, u "(I)Lcom/example/ratatoskr/ratatoskr/Canonicalization;"), (0, .methodref 8 36), (0, .nameAndType 37 38), (0, u "withoutComments"), (0, u "()Lcom/example/ratatoskr/ratatoskr/Canonicalization;"), (0, .methodref 8 40), (0, .nameAndType 41 42), (0, u "exclusive"), (0, u "()Z"), (0, .methodref 8 44), (0, .nameAndType 45 42), (0, u "ofXmlSignature10"), (3, u "law"), (0, u "(I)Z")] 2

def k1m0 : Method := { name := "<init>", desc := "()V", sig := { parameters := [], returnType := none }, accessFlags := 1, code := none }
def k1c1 : Code := { maxStack := 2, maxLocals := 1, code := method_2_code, exceptionTable := #[], attributes := #[] }
def k1m1 : Method := { name := "pick", desc := "(I)Lcom/example/ratatoskr/ratatoskr/Canonicalization;", sig := { parameters := [.int], returnType := some (.object "com/example/ratatoskr/ratatoskr/Canonicalization") }, accessFlags := 10, code := some k1c1 }
def k1c2 : Code := { maxStack := 2, maxLocals := 7, code := code, exceptionTable := #[], attributes := #[] }
def k1m2 : Method := { name := "law", desc := "(I)Z", sig := { parameters := [.int], returnType := some .boolean }, accessFlags := 9, code := some k1c2 }
/-- com/example/ratatoskr/ratatoskr/CanonicalizationWithoutCommentsPinLaw -/
def k1 : Class := { plain "com/example/ratatoskr/ratatoskr/CanonicalizationWithoutCommentsPinLaw" (some 0) with
  accessFlags := 49
  interfaces := #[]
  cf := some (fileOf pool1 30 #[] #[{ accessFlags := 1, nameIndex := 5, descriptorIndex := 6, attributes := #[] }, { accessFlags := 10, nameIndex := 33, descriptorIndex := 34, attributes := #[] }, { accessFlags := 9, nameIndex := 49, descriptorIndex := 50, attributes := #[] }] 49 2 #[] #[])
  fields := #[]
  methods := #[k1m0, k1m1, k1m2]
  instanceTypes := #[]
  staticTypes := #[]
  resolved := Array.replicate 53 none
  statics := none }

def pool2 : Array CpInfo := pool [(1, .class_ 2), (0, u "java/lang/constant/Constable"), (0, .class_ 4), (0, u "java/lang/Object")] 6

/-- java/lang/constant/Constable -/
def k2 : Class := { plain "java/lang/constant/Constable" (some 0) with
  accessFlags := 1537
  interfaces := #[]
  cf := some (fileOf pool2 1 #[] #[] 1537 3 #[] #[])
  fields := #[]
  methods := #[]
  instanceTypes := #[]
  staticTypes := #[]
  resolved := Array.replicate 11 none
  statics := none }

def pool3 : Array CpInfo := pool [(1, .class_ 2), (0, u "java/lang/Comparable"), (0, .class_ 4), (0, u "java/lang/Object")] 7

/-- java/lang/Comparable -/
def k3 : Class := { plain "java/lang/Comparable" (some 0) with
  accessFlags := 1537
  interfaces := #[]
  cf := some (fileOf pool3 1 #[] #[] 1537 3 #[] #[])
  fields := #[]
  methods := #[]
  instanceTypes := #[]
  staticTypes := #[]
  resolved := Array.replicate 12 none
  statics := none }

def pool4 : Array CpInfo := pool [(1, .class_ 2), (0, u "java/io/Serializable"), (0, .class_ 4), (0, u "java/lang/Object")] 2

/-- java/io/Serializable -/
def k4 : Class := { plain "java/io/Serializable" (some 0) with
  accessFlags := 1537
  interfaces := #[]
  cf := some (fileOf pool4 1 #[] #[] 1537 3 #[] #[])
  fields := #[]
  methods := #[]
  instanceTypes := #[]
  staticTypes := #[]
  resolved := Array.replicate 7 none
  statics := none }

def pool5 : Array CpInfo := pool [(2, .class_ 4), (1, u "java/lang/Enum"), (0, u "name"), (0, u "Ljava/lang/String;"), (0, .fieldref 2 8), (0, .nameAndType 9 10), (0, u "ordinal"), (0, u "I"), (1, .class_ 14), (1, u "java/lang/Object"), (4, u "hash"), (86, .class_ 108), (1, u "java/lang/Enum$EnumDesc"), (2, .class_ 112), (0, u "java/lang/constant/Constable"), (0, .class_ 114), (0, u "java/lang/Comparable"), (0, .class_ 116), (0, u "java/io/Serializable"), (9, u "()I")] 77

def k5c0 : Code := { maxStack := 1, maxLocals := 1, code := jdk_37_method_2_code, exceptionTable := #[], attributes := #[] }
def k5m0 : Method := { name := "ordinal", desc := "()I", sig := { parameters := [], returnType := some .int }, accessFlags := 17, code := some k5c0 }
/-- java/lang/Enum -/
def k5 : Class := { plain "java/lang/Enum" (some 0) with
  accessFlags := 1057
  interfaces := #[2, 3, 4]
  cf := some (fileOf pool5 2 #[.nestMembers #[106]] #[{ accessFlags := 17, nameIndex := 9, descriptorIndex := 126, attributes := #[] }] 1057 12 #[111, 113, 115] #[{ accessFlags := 18, nameIndex := 5, descriptorIndex := 6, attributes := #[] }, { accessFlags := 18, nameIndex := 9, descriptorIndex := 10, attributes := #[] }, { accessFlags := 2, nameIndex := 19, descriptorIndex := 10, attributes := #[] }])
  fields := #[{ name := "name", type := (.object "java/lang/String"), accessFlags := 18, slot := 0, constantValue := 0 }, { name := "ordinal", type := .int, accessFlags := 18, slot := 1, constantValue := 0 }, { name := "hash", type := .int, accessFlags := 2, slot := 2, constantValue := 0 }]
  methods := #[k5m0]
  instanceTypes := #[(.object "java/lang/String"), .int, .int]
  staticTypes := #[]
  resolved := Array.replicate 204 none
  statics := none }

def pool6 : Array CpInfo := pool [(1, .class_ 2), (0, u "com/example/ratatoskr/ratatoskr/Canonicalization"), (0, .fieldref 1 4), (0, .nameAndType 5 6), (0, u "INCLUSIVE"), (0, u "Lcom/example/ratatoskr/ratatoskr/Canonicalization;"), (2, u "INCLUSIVE_WITH_COMMENTS"), (0, .fieldref 1 11), (0, .nameAndType 12 6), (0, u "INCLUSIVE_11"), (2, u "INCLUSIVE_11_WITH_COMMENTS"), (0, .fieldref 1 17), (0, .nameAndType 18 6), (0, u "EXCLUSIVE"), (2, u "EXCLUSIVE_WITH_COMMENTS"), (2, u "$VALUES"), (0, u "[Lcom/example/ratatoskr/ratatoskr/Canonicalization;"), (6, .class_ 34), (1, u "java/lang/Enum"), (8, u "uri"), (0, u "Ljava/lang/String;"), (0, .fieldref 1 46), (0, .nameAndType 47 48), (0, u "kind"), (0, u "Lcom/example/ratatoskr/ratatoskr/Canonicalization$Kind;"), (2, u "comments"), (0, u "Z"), (20, .fieldref 74 75), (0, .class_ 76), (0, .nameAndType 18 48), (0, u "com/example/ratatoskr/ratatoskr/Canonicalization$Kind"), (0, .fieldref 74 78), (0, .nameAndType 12 48), (0, .methodref 1 80), (0, .nameAndType 81 82), (0, u "ordinal"), (0, u "()I"), (0, .class_ 84), (0, u "com/example/ratatoskr/ratatoskr/Canonicalization$Writer"), (64, u "CODE_POINT_ORDER"), (0, u "Ljava/util/Comparator;"), (12, u "NAMESPACE_ORDER"), (7, u "ATTRIBUTE_ORDER"), (2, u "ESCAPES"), (0, u "[Ljava/lang/String;"), (14, u "DEFAULT_PREFIX"), (3, u "MAX_EXPANSION"), (0, u "I"), (5, u "ESCAPED_IN_TEXT"), (0, u "J"), (2, u "ESCAPED_IN_ATTRIBUTE"), (11, u "exclusive"), (0, u "()Z"), (0, u "ofXmlSignature10"), (0, u "withoutComments"), (0, u "()Lcom/example/ratatoskr/ratatoskr/Canonicalization;"), (3, .class_ 226), (0, u "com/example/ratatoskr/ratatoskr/Canonicalization$TooLongException"), (9, .class_ 237), (0, u "com/example/ratatoskr/ratatoskr/Canonicalization$Writer$Change")] 51

def k6c0 : Code := { maxStack := 2, maxLocals := 1, code := prog_2_method_6_code, exceptionTable := #[], attributes := #[] }
def k6m0 : Method := { name := "exclusive", desc := "()Z", sig := { parameters := [], returnType := some .boolean }, accessFlags := 0, code := some k6c0 }
def k6c1 : Code := { maxStack := 2, maxLocals := 1, code := prog_2_method_7_code, exceptionTable := #[], attributes := #[] }
def k6m1 : Method := { name := "ofXmlSignature10", desc := "()Z", sig := { parameters := [], returnType := some .boolean }, accessFlags := 0, code := some k6c1 }
def k6c2 : Code := { maxStack := 1, maxLocals := 1, code := prog_2_method_8_code, exceptionTable := #[], attributes := #[] }
def k6m2 : Method := { name := "withoutComments", desc := "()Lcom/example/ratatoskr/ratatoskr/Canonicalization;", sig := { parameters := [], returnType := some (.object "com/example/ratatoskr/ratatoskr/Canonicalization") }, accessFlags := 0, code := some k6c2 }
/-- com/example/ratatoskr/ratatoskr/Canonicalization -/
def k6 : Class := { plain "com/example/ratatoskr/ratatoskr/Canonicalization" (some 5) with
  accessFlags := 16432
  interfaces := #[]
  cf := some (fileOf pool6 1 #[.nestMembers #[83, 236, 225, 74]] #[{ accessFlags := 0, nameIndex := 217, descriptorIndex := 218, attributes := #[] }, { accessFlags := 0, nameIndex := 219, descriptorIndex := 218, attributes := #[] }, { accessFlags := 0, nameIndex := 220, descriptorIndex := 221, attributes := #[] }] 16432 32 #[] #[{ accessFlags := 16409, nameIndex := 5, descriptorIndex := 6, attributes := #[] }, { accessFlags := 16409, nameIndex := 9, descriptorIndex := 6, attributes := #[] }, { accessFlags := 16409, nameIndex := 12, descriptorIndex := 6, attributes := #[] }, { accessFlags := 16409, nameIndex := 15, descriptorIndex := 6, attributes := #[] }, { accessFlags := 16409, nameIndex := 18, descriptorIndex := 6, attributes := #[] }, { accessFlags := 16409, nameIndex := 21, descriptorIndex := 6, attributes := #[] }, { accessFlags := 24, nameIndex := 190, descriptorIndex := 44, attributes := #[] }, { accessFlags := 24, nameIndex := 194, descriptorIndex := 195, attributes := #[] }, { accessFlags := 26, nameIndex := 149, descriptorIndex := 150, attributes := #[] }, { accessFlags := 26, nameIndex := 163, descriptorIndex := 150, attributes := #[] }, { accessFlags := 26, nameIndex := 171, descriptorIndex := 150, attributes := #[] }, { accessFlags := 26, nameIndex := 201, descriptorIndex := 202, attributes := #[] }, { accessFlags := 26, nameIndex := 205, descriptorIndex := 202, attributes := #[] }, { accessFlags := 26, nameIndex := 174, descriptorIndex := 175, attributes := #[] }, { accessFlags := 18, nameIndex := 43, descriptorIndex := 44, attributes := #[] }, { accessFlags := 18, nameIndex := 47, descriptorIndex := 48, attributes := #[] }, { accessFlags := 18, nameIndex := 51, descriptorIndex := 52, attributes := #[] }, { accessFlags := 4122, nameIndex := 24, descriptorIndex := 25, attributes := #[] }])
  fields := #[{ name := "INCLUSIVE", type := (.object "com/example/ratatoskr/ratatoskr/Canonicalization"), accessFlags := 16409, slot := 0, constantValue := 0 }, { name := "INCLUSIVE_WITH_COMMENTS", type := (.object "com/example/ratatoskr/ratatoskr/Canonicalization"), accessFlags := 16409, slot := 1, constantValue := 0 }, { name := "INCLUSIVE_11", type := (.object "com/example/ratatoskr/ratatoskr/Canonicalization"), accessFlags := 16409, slot := 2, constantValue := 0 }, { name := "INCLUSIVE_11_WITH_COMMENTS", type := (.object "com/example/ratatoskr/ratatoskr/Canonicalization"), accessFlags := 16409, slot := 3, constantValue := 0 }, { name := "EXCLUSIVE", type := (.object "com/example/ratatoskr/ratatoskr/Canonicalization"), accessFlags := 16409, slot := 4, constantValue := 0 }, { name := "EXCLUSIVE_WITH_COMMENTS", type := (.object "com/example/ratatoskr/ratatoskr/Canonicalization"), accessFlags := 16409, slot := 5, constantValue := 0 }, { name := "DEFAULT_PREFIX", type := (.object "java/lang/String"), accessFlags := 24, slot := 6, constantValue := 0 }, { name := "MAX_EXPANSION", type := .int, accessFlags := 24, slot := 7, constantValue := 0 }, { name := "CODE_POINT_ORDER", type := (.object "java/util/Comparator"), accessFlags := 26, slot := 8, constantValue := 0 }, { name := "NAMESPACE_ORDER", type := (.object "java/util/Comparator"), accessFlags := 26, slot := 9, constantValue := 0 }, { name := "ATTRIBUTE_ORDER", type := (.object "java/util/Comparator"), accessFlags := 26, slot := 10, constantValue := 0 }, { name := "ESCAPED_IN_TEXT", type := .long, accessFlags := 26, slot := 11, constantValue := 0 }, { name := "ESCAPED_IN_ATTRIBUTE", type := .long, accessFlags := 26, slot := 12, constantValue := 0 }, { name := "ESCAPES", type := (.array (.object "java/lang/String")), accessFlags := 26, slot := 13, constantValue := 0 }, { name := "uri", type := (.object "java/lang/String"), accessFlags := 18, slot := 3, constantValue := 0 }, { name := "kind", type := (.object "com/example/ratatoskr/ratatoskr/Canonicalization$Kind"), accessFlags := 18, slot := 4, constantValue := 0 }, { name := "comments", type := .boolean, accessFlags := 18, slot := 5, constantValue := 0 }, { name := "$VALUES", type := (.array (.object "com/example/ratatoskr/ratatoskr/Canonicalization")), accessFlags := 4122, slot := 14, constantValue := 0 }]
  methods := #[k6m0, k6m1, k6m2]
  instanceTypes := #[(.object "java/lang/String"), .int, .int, (.object "java/lang/String"), (.object "com/example/ratatoskr/ratatoskr/Canonicalization$Kind"), .boolean]
  staticTypes := #[(.object "com/example/ratatoskr/ratatoskr/Canonicalization"), (.object "com/example/ratatoskr/ratatoskr/Canonicalization"), (.object "com/example/ratatoskr/ratatoskr/Canonicalization"), (.object "com/example/ratatoskr/ratatoskr/Canonicalization"), (.object "com/example/ratatoskr/ratatoskr/Canonicalization"), (.object "com/example/ratatoskr/ratatoskr/Canonicalization"), (.object "java/lang/String"), .int, (.object "java/util/Comparator"), (.object "java/util/Comparator"), (.object "java/util/Comparator"), .long, .long, (.array (.object "java/lang/String")), (.array (.object "com/example/ratatoskr/ratatoskr/Canonicalization"))]
  resolved := Array.replicate 289 none
  statics := some 0 }

def pool7 : Array CpInfo := pool [(1, .class_ 2), (0, u "com/example/ratatoskr/ratatoskr/Canonicalization$Kind"), (2, u "INCLUSIVE"), (0, u "Lcom/example/ratatoskr/ratatoskr/Canonicalization$Kind;"), (2, u "INCLUSIVE_11"), (2, u "EXCLUSIVE"), (2, u "$VALUES"), (0, u "[Lcom/example/ratatoskr/ratatoskr/Canonicalization$Kind;"), (6, .class_ 25), (1, u "java/lang/Enum"), (26, .class_ 53), (0, u "com/example/ratatoskr/ratatoskr/Canonicalization")] 2

/-- com/example/ratatoskr/ratatoskr/Canonicalization$Kind -/
def k7 : Class := { plain "com/example/ratatoskr/ratatoskr/Canonicalization$Kind" (some 5) with
  accessFlags := 16432
  interfaces := #[]
  cf := some (fileOf pool7 1 #[.nestHost 52] #[] 16432 23 #[] #[{ accessFlags := 16409, nameIndex := 5, descriptorIndex := 6, attributes := #[] }, { accessFlags := 16409, nameIndex := 9, descriptorIndex := 6, attributes := #[] }, { accessFlags := 16409, nameIndex := 12, descriptorIndex := 6, attributes := #[] }, { accessFlags := 4122, nameIndex := 15, descriptorIndex := 16, attributes := #[] }])
  fields := #[{ name := "INCLUSIVE", type := (.object "com/example/ratatoskr/ratatoskr/Canonicalization$Kind"), accessFlags := 16409, slot := 0, constantValue := 0 }, { name := "INCLUSIVE_11", type := (.object "com/example/ratatoskr/ratatoskr/Canonicalization$Kind"), accessFlags := 16409, slot := 1, constantValue := 0 }, { name := "EXCLUSIVE", type := (.object "com/example/ratatoskr/ratatoskr/Canonicalization$Kind"), accessFlags := 16409, slot := 2, constantValue := 0 }, { name := "$VALUES", type := (.array (.object "com/example/ratatoskr/ratatoskr/Canonicalization$Kind")), accessFlags := 4122, slot := 3, constantValue := 0 }]
  methods := #[]
  instanceTypes := #[(.object "java/lang/String"), .int, .int]
  staticTypes := #[(.object "com/example/ratatoskr/ratatoskr/Canonicalization$Kind"), (.object "com/example/ratatoskr/ratatoskr/Canonicalization$Kind"), (.object "com/example/ratatoskr/ratatoskr/Canonicalization$Kind"), (.array (.object "com/example/ratatoskr/ratatoskr/Canonicalization$Kind"))]
  resolved := Array.replicate 56 none
  statics := some 1 }

def pool8 : Array CpInfo := pool [(1, u "java/lang/Cloneable"), (0, .class_ 1), (0, u "java/lang/Object"), (0, .class_ 3)] 3

/-- java/lang/Cloneable -/
def k8 : Class := { plain "java/lang/Cloneable" (some 0) with
  accessFlags := 1537
  interfaces := #[]
  cf := some (fileOf pool8 2 #[] #[] 1537 4 #[] #[])
  fields := #[]
  methods := #[]
  instanceTypes := #[]
  staticTypes := #[]
  resolved := Array.replicate 8 none
  statics := none }

/-- the primitive byte -/
def k9 : Class := { plain "byte" none with kind := .primitive 'B', accessFlags := 0x411 }
/-- [B -/
def k10 : Class := { plain "[B" (some 0) with kind := .array 9 .byte, interfaces := #[8, 4], accessFlags := 1041 }

/-- the primitive int -/
def k11 : Class := { plain "int" none with kind := .primitive 'I', accessFlags := 0x411 }
/-- [I -/
def k12 : Class := { plain "[I" (some 0) with kind := .array 11 .int, interfaces := #[8, 4], accessFlags := 1041 }

def heap : Heap := #[{ cls := 6, slots := #[.ref 2, .ref 8, .ref 7, .ref 6, .ref 10, .ref 9, .null, .int 0, .null, .null, .null, .long 0, .long 0, .null, .null], vm := .statics 6 },
  { cls := 7, slots := #[.ref 3, .ref 5, .ref 4, .null], vm := .statics 7 },
  { cls := 6, slots := #[.null, .int (0), .int 0, .null, .ref 3, .int 0], vm := .none },
  { cls := 7, slots := #[.null, .int (0), .int 0], vm := .none },
  { cls := 7, slots := #[.null, .int (2), .int 0], vm := .none },
  { cls := 7, slots := #[.null, .int (1), .int 0], vm := .none },
  { cls := 6, slots := #[.null, .int (3), .int 0, .null, .ref 5, .int 0], vm := .none },
  { cls := 6, slots := #[.null, .int (2), .int 0, .null, .ref 5, .int 0], vm := .none },
  { cls := 6, slots := #[.null, .int (1), .int 0, .null, .ref 3, .int 0], vm := .none },
  { cls := 6, slots := #[.null, .int (5), .int 0, .null, .ref 4, .int 0], vm := .none },
  { cls := 6, slots := #[.null, .int (4), .int 0, .null, .ref 4, .int 0], vm := .none }]
def classes : Array Class := #[k0, k1, k2, k3, k4, k5, k6, k7, k8, k9, k10, k11, k12]
def interned : List (Array UInt16 × Addr) := []
def slotsUsed : Nat := 64
def theMethod : MethodId := ⟨1, 2⟩
def args0 : Array Value := #[.int 5]
def aboutOver (below : List Frame) : State where
  vm := { classes := classes, interned := interned.toArray }
  heap := heap
  slotsUsed := slotsUsed
  threads := #[{ frames := .invoking theMethod args0 :: below }]
def below0 : List Frame := [.native { method := ⟨0, 0⟩, args := #[] }]
def about1 : State := aboutOver below0
def p0 : Program := .bare "" "" ""
def e0 : Env := launch0.env 0 0 0
theorem w_frames : about1.frames = Frame.invoking theMethod args0 :: below0 := rfl
set_option maxRecDepth 65536 in
theorem w_args : argsFit about1.vm theMethod args0 = true := by decide +kernel
set_option maxRecDepth 65536 in
theorem w_heap : heapFits about1 = true := by decide +kernel
set_option maxRecDepth 65536 in
theorem w_runnable : about1.curStatus? = some .runnable := by decide +kernel
set_option maxRecDepth 65536 in
theorem w_alone : about1.alone = true := by decide +kernel
set_option maxRecDepth 65536 in
theorem w_named : about1.methodNamed? x = some theMethod := by decide +kernel
set_option maxRecDepth 65536 in
theorem w_hears : about1.hears theMethod below0 = true := by decide +kernel
set_option maxRecDepth 65536 in
theorem w_ripe : about1.ripe theMethod args0 below0 = true := by decide +kernel
theorem w_running : about1.status = .running := rfl
set_option maxRecDepth 65536 in
theorem w_room : about1.hasRoom e0.platform room_1 = true :=
  launch0.hasRoom_least _ room_1 (by decide +kernel) (by decide +kernel) (by decide +kernel) (by decide +kernel) (by decide +kernel) (by decide +kernel)
theorem allAtoms_all (ts : List Jvm.Cond) (a : Array Jvm.Value) (st : Jvm.State) : (allAtoms ts).before a st = ts.all (fun c => c.before a st) := by
  induction ts with
  | nil => rfl
  | cons c t ih =>
    show (Jvm.Cond.and c (allAtoms t)).before a st = _
    rw [Jvm.Cond.before_and, ih, List.all_cons]
def words1 : List Jvm.Cond := Jvm.Cond.code x code maxLocals ret :: tables_1
/-- a 'code' word, met by the world's own term for the bytes: nothing is compared byte by byte -/
theorem code_word {y : MethodName} {bytes : ByteArray} {mx : Nat} {rt : Option FieldType} {a : Array Value} {s : State} {m : MethodId} {meth : Method} {c : Code} (h1 : s.methodNamed? y = some m) (h2 : s.vm.method? m = some meth) (h3 : meth.code = some c) (h4 : c.code = bytes)
    (h5 : (c.maxLocals == mx && c.exceptionTable.isEmpty && decide (c.maxStack ≤ mostOperands) && decide (meth.sig.returnType = rt) && !meth.locks && decide (parseMethodDescriptor y.desc = some meth.sig)) = true) : (Jvm.Cond.code y bytes mx rt).before a s = true := by
  simp only [Bool.and_eq_true, beq_iff_eq, Bool.not_eq_true', decide_eq_true_eq] at h5
  obtain ⟨⟨⟨⟨⟨g1, g2⟩, g3⟩, g4⟩, g5⟩, g6⟩ := h5
  simp [Cond.before, Cond.holds, Cond.value, h1, h2, h3, h4, g1, g2, g3, g4, g5, g6]
def isCode : Jvm.Cond → Bool
  | .code _ _ _ _ => true
  | _ => false
theorem all_split {L : List Jvm.Cond} {P : Jvm.Cond → Bool} (h1 : L.all (fun c => isCode c || P c) = true) (h2 : ∀ c ∈ L.filter isCode, P c = true) : L.all P = true := by
  refine List.all_eq_true.mpr fun c hc => ?_
  have h := List.all_eq_true.mp h1 c hc
  rcases Bool.eq_false_or_eq_true (isCode c) with hi | hi
  · exact h2 c (List.mem_filter.mpr ⟨hc, hi⟩)
  · simpa [hi] using h
set_option maxRecDepth 65536 in
theorem w_c0 : (Jvm.Cond.code x code maxLocals ret).before args0 about1 = true := code_word (m := ⟨1, 2⟩) (meth := k1m2) (c := k1c2) (by decide +kernel) rfl rfl rfl (by decide +kernel)
set_option maxRecDepth 65536 in
theorem w_c1 : (Jvm.Cond.code ({ cls := "com/example/ratatoskr/ratatoskr/CanonicalizationWithoutCommentsPinLaw", name := "pick", desc := "(I)Lcom/example/ratatoskr/ratatoskr/Canonicalization;" } : Jvm.MethodName) method_2_code (1 : Nat) (Option.some (Jvm.ClassFile.FieldType.object "com/example/ratatoskr/ratatoskr/Canonicalization"))).before args0 about1 = true := code_word (m := ⟨1, 1⟩) (meth := k1m1) (c := k1c1) (by decide +kernel) rfl rfl rfl (by decide +kernel)
set_option maxRecDepth 65536 in
theorem w_c2 : (Jvm.Cond.code ({ cls := "com/example/ratatoskr/ratatoskr/Canonicalization", name := "withoutComments", desc := "()Lcom/example/ratatoskr/ratatoskr/Canonicalization;" } : Jvm.MethodName) prog_2_method_8_code (1 : Nat) (Option.some (Jvm.ClassFile.FieldType.object "com/example/ratatoskr/ratatoskr/Canonicalization"))).before args0 about1 = true := code_word (m := ⟨6, 2⟩) (meth := k6m2) (c := k6c2) (by decide +kernel) rfl rfl rfl (by decide +kernel)
set_option maxRecDepth 65536 in
theorem w_c3 : (Jvm.Cond.code ({ cls := "java/lang/Enum", name := "ordinal", desc := "()I" } : Jvm.MethodName) jdk_37_method_2_code (1 : Nat) (Option.some Jvm.ClassFile.FieldType.int)).before args0 about1 = true := code_word (m := ⟨5, 0⟩) (meth := k5m0) (c := k5c0) (by decide +kernel) rfl rfl rfl (by decide +kernel)
set_option maxRecDepth 65536 in
theorem w_c4 : (Jvm.Cond.code ({ cls := "com/example/ratatoskr/ratatoskr/Canonicalization", name := "exclusive", desc := "()Z" } : Jvm.MethodName) prog_2_method_6_code (1 : Nat) (Option.some Jvm.ClassFile.FieldType.boolean)).before args0 about1 = true := code_word (m := ⟨6, 0⟩) (meth := k6m0) (c := k6c0) (by decide +kernel) rfl rfl rfl (by decide +kernel)
set_option maxRecDepth 65536 in
theorem w_c5 : (Jvm.Cond.code ({ cls := "com/example/ratatoskr/ratatoskr/Canonicalization", name := "ofXmlSignature10", desc := "()Z" } : Jvm.MethodName) prog_2_method_7_code (1 : Nat) (Option.some Jvm.ClassFile.FieldType.boolean)).before args0 about1 = true := code_word (m := ⟨6, 1⟩) (meth := k6m1) (c := k6c1) (by decide +kernel) rfl rfl rfl (by decide +kernel)
def codes1 : List Jvm.Cond := [Jvm.Cond.code x code maxLocals ret, Jvm.Cond.code ({ cls := "com/example/ratatoskr/ratatoskr/CanonicalizationWithoutCommentsPinLaw", name := "pick", desc := "(I)Lcom/example/ratatoskr/ratatoskr/Canonicalization;" } : Jvm.MethodName) method_2_code (1 : Nat) (Option.some (Jvm.ClassFile.FieldType.object "com/example/ratatoskr/ratatoskr/Canonicalization")), Jvm.Cond.code ({ cls := "com/example/ratatoskr/ratatoskr/Canonicalization", name := "withoutComments", desc := "()Lcom/example/ratatoskr/ratatoskr/Canonicalization;" } : Jvm.MethodName) prog_2_method_8_code (1 : Nat) (Option.some (Jvm.ClassFile.FieldType.object "com/example/ratatoskr/ratatoskr/Canonicalization")), Jvm.Cond.code ({ cls := "java/lang/Enum", name := "ordinal", desc := "()I" } : Jvm.MethodName) jdk_37_method_2_code (1 : Nat) (Option.some Jvm.ClassFile.FieldType.int), Jvm.Cond.code ({ cls := "com/example/ratatoskr/ratatoskr/Canonicalization", name := "exclusive", desc := "()Z" } : Jvm.MethodName) prog_2_method_6_code (1 : Nat) (Option.some Jvm.ClassFile.FieldType.boolean), Jvm.Cond.code ({ cls := "com/example/ratatoskr/ratatoskr/Canonicalization", name := "ofXmlSignature10", desc := "()Z" } : Jvm.MethodName) prog_2_method_7_code (1 : Nat) (Option.some Jvm.ClassFile.FieldType.boolean)]
set_option maxRecDepth 65536 in
theorem codes_eq : words1.filter isCode = codes1 := rfl
theorem w_codes : ∀ c ∈ words1.filter isCode, c.before args0 about1 = true := by
  rw [codes_eq]
  intro c hc
  simp only [codes1, List.mem_cons, List.not_mem_nil, or_false] at hc
  rcases hc with rfl | rfl | rfl | rfl | rfl | rfl
  · exact w_c0
  · exact w_c1
  · exact w_c2
  · exact w_c3
  · exact w_c4
  · exact w_c5
set_option maxRecDepth 65536 in
theorem w_t1 : (words1.take 24).all (fun c => isCode c || c.before args0 about1) = true := by decide +kernel
set_option maxRecDepth 65536 in
theorem w_t2 : ((words1.drop 24).take 24).all (fun c => isCode c || c.before args0 about1) = true := by decide +kernel
set_option maxRecDepth 65536 in
theorem w_t3 : ((words1.drop 24).drop 24).all (fun c => isCode c || c.before args0 about1) = true := by decide +kernel
theorem w_tables : (allAtoms (Jvm.Cond.code x code maxLocals ret :: tables_1)).before args0 about1 = true := by
  rw [allAtoms_all]
  show words1.all (fun c => c.before args0 about1) = true
  refine all_split ?_ w_codes
  rw [← List.take_append_drop 24 words1, List.all_append, w_t1, ← List.take_append_drop 24 (words1.drop 24), List.all_append, w_t2, w_t3]
  rfl
set_option maxRecDepth 65536 in
theorem w_case : (Jvm.Cond.and given_1 narrow_1).before args0 about1 = true := by decide +kernel
theorem w_applies : (headSpec (Jvm.Cond.code x code maxLocals ret :: tables_1) room_1).applies x e0.platform about1 = true :=
  (Spec.applies_iff w_frames).mpr ⟨w_running, w_runnable, w_alone, w_named, w_hears, w_ripe, w_room, w_tables⟩
theorem atStart : AtStart classFile x code maxLocals ret World_1 tables_1 room_1 Calls_1 rest_1 Pre_1 launch0 p0 e0 about1 theMethod args0 below0 :=
  ⟨lists_1, trivial, launch0.admits_env _ _ _, launch0.least_env, fairChoices_fair.cas, fairChoices_fair.clock, w_frames, w_args, w_heap, w_applies, trivial, trivial, w_case⟩
end start1
theorem witness_1 : WitnessClaimed_1 := ⟨start1.p0, start1.e0, start1.about1, start1.theMethod, start1.args0, start1.below0, start1.atStart⟩
end Jvm.Pilot.@@N@@
