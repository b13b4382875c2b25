import JvmDerived
import JvmDerived.Pilot.@@N@@Statement
import JvmDerived.Pilot.@@N@@Code
set_option linter.unusedVariables false
set_option linter.unusedSimpArgs false
namespace Jvm.Pilot.@@N@@
open Jvm Jvm.ClassFile Sem Op Lib Jvm.Free Jvm.Stand Jvm.LawKit Jvm.RoadKit Bundle Jvm.Pilot.@@N@@.Jvm.D
section OwnKit
variable {p : Program} {l : Launch} {e : Env} {R : Room} {s : State} {m : MethodId} {args : Array Value} {below : List Frame} {meth : Method} {c : Code} {T : State} {locs : List Loc} {cells slots : Nat} {Z : State} {a0 : Array Value} {h : Heap}
/-- from S on the run comes to the method's end, and there Q holds -/
def own_Fin (p : Program) (e : Env) (below : List Frame) (s : State) (Q : Option Value → Heap → List Loc → Prop) (rc rs : Nat) (S : State) : Prop :=
  ∃ s₂ o, Steps p.tables e below S s₂ ∧ s₂.status = .running ∧ Ended s₂ below o ∧ ∃ v L, o = .returned v ∧ Q v s₂.heap L ∧ FrameEnd s o s₂ L rc rs
theorem own_step {Q : Option Value → Heap → List Loc → Prop} {rc rs : Nat} {S S' : State} (k : ∀ t, Steps p.tables e below S' t → Steps p.tables e below S t) (hF : own_Fin p e below s Q rc rs S') : own_Fin p e below s Q rc rs S := by
  obtain ⟨s₂, o, h1, r⟩ := hF
  exact ⟨s₂, o, k _ h1, r⟩
abbrev own_Met (l : Launch) (y : MethodName) (bytes : ByteArray) (maxL : Nat) (ret : Option FieldType) (ws : List Jvm.Cond) (rm : Room) (Z : State) (as' : Array Value) (h0 : Heap) (Q : Option Value → Heap → List Loc → Prop) : Prop :=
  MetFree l y (head1 (Jvm.Cond.code y bytes maxL ret :: ws) rm) (fun a U => a = as' ∧ Z.Warmed39 U.vm ∧ U.heap = h0) (fun _ _ _ _ _ => True) (fun _ U o U' => ∃ v L, o = .returned v ∧ Q v U'.heap L ∧ FrameEnd U o U' L rm.cells rm.slots)
theorem own_body {y : MethodName} {bytes : ByteArray} {maxL : Nat} {ret : Option FieldType} {ws : List Jvm.Cond} {rm : Room} {as' : Array Value} {h0 : Heap} {Q : Option Value → Heap → List Loc → Prop} (hy : plainFor y = true)
    (hB : ∀ (p : Program) (e : Env) (s : State) (m : MethodId) (below : List Frame) (meth : Method) (c : Code) (s₁ : State), Stand p l e rm s m as' below meth c s₁ [] 0 0 → p.tables.exec = Jvm.exec → c.code = bytes → c.maxLocals = maxL → s.vm.findClass y.cls = some m.cls → meth.name = y.name → meth.sig.returnType = ret → meth.locks = false → Z.Warmed39 s.vm → s₁.heap = h0 →
      own_Fin p e below s Q rm.cells rm.slots (s₁.setTop (entryFrame m as' maxL))) : own_Met l y bytes maxL ret ws rm Z as' h0 Q := by
  refine MetFree.of_bodySF hy hisR ?_
  intro p e s m args below meth c s₁ Bd hml0 hP hK
  obtain ⟨rfl, hZ, hh⟩ := hP
  exact hB p e s m below meth c s₁ (Stand.of_body Bd) Bd.exec Bd.bytes hml0 (findClass_of_methodNamed Bd.named) (name_of_methodNamed Bd.named Bd.method).1 Bd.returns Bd.notSynchronized hZ (by rw [← hh, Bd.state]; rfl)
theorem own_ret {Q : Option Value → Heap → List Loc → Prop} {rc rs : Nat} {S : State} {v : Option Value} (X : Stand p l e R s m args below meth c T locs cells slots) (hlk : meth.locks = false) (hv : meth.sig.returnType = none → v = none)
    (hst : ∀ fs, (∀ (f : JFrame) (acts : List Action), f.method = m → f.locked = none → f.entered = [] → (doReturn e (T.setTop f) acts v).1 = T.setFrames fs) → Steps p.tables e below S (T.setFrames fs))
    (hc : cells ≤ rc) (hs : slots ≤ rs) (hQ : Q v T.heap locs) : own_Fin p e below s Q rc rs S := by
  obtain ⟨fs, hr, hrun, hended, hW, hsame⟩ := X.leave (v := v) hv hlk
  exact ⟨_, _, hst fs hr, hrun, hended, _, _, rfl, hQ, ⟨_, rfl⟩, hW, hsame.mono hc hs⟩
theorem own_retV {Q : Option Value → Heap → List Loc → Prop} {rc rs : Nat} {pc : Nat} {Ls : Array Slot} (X : Stand p l e R s m args below meth c T locs cells slots) (hx : p.tables.exec = Jvm.exec) (hlk : meth.locks = false) (hret : meth.sig.returnType = none) (hd : decode c.code pc = .ok (.return_, 1))
    (hc : cells ≤ rc) (hs : slots ≤ rs) (hQ : Q none T.heap locs) : own_Fin p e below s Q rc rs (T.setTop (mkF m pc Ls [])) :=
  own_ret X hlk (fun _ => rfl) (fun fs hr => X.returnOut hx hret hd hr) hc hs hQ
theorem own_retI {Q : Option Value → Heap → List Loc → Prop} {rc rs : Nat} {pc : Nat} {Ls : Array Slot} {z : Int32} (X : Stand p l e R s m args below meth c T locs cells slots) (hx : p.tables.exec = Jvm.exec) (hlk : meth.locks = false) (hret : meth.sig.returnType = some .int) (hd : decode c.code pc = .ok (.ireturn, 1))
    (hc : cells ≤ rc) (hs : slots ≤ rs) (hQ : Q (some (.int z)) T.heap locs) : own_Fin p e below s Q rc rs (T.setTop (mkF m pc Ls [.int z])) :=
  own_ret X hlk (fun q => by rw [hret] at q; cases q) (fun fs hr => retOut X hx hret rfl (Or.inl ⟨rfl, Or.inl rfl, z, rfl⟩) hd hr) hc hs hQ
theorem own_retL {Q : Option Value → Heap → List Loc → Prop} {rc rs : Nat} {pc : Nat} {Ls : Array Slot} {z : Int64} (X : Stand p l e R s m args below meth c T locs cells slots) (hx : p.tables.exec = Jvm.exec) (hlk : meth.locks = false) (hret : meth.sig.returnType = some .long) (hd : decode c.code pc = .ok (.lreturn, 1))
    (hc : cells ≤ rc) (hs : slots ≤ rs) (hQ : Q (some (.long z)) T.heap locs) : own_Fin p e below s Q rc rs (T.setTop (mkF m pc Ls [.long z])) :=
  own_ret X hlk (fun q => by rw [hret] at q; cases q) (fun fs hr => retOut X hx hret rfl (Or.inr (Or.inl ⟨rfl, rfl, z, rfl⟩)) hd hr) hc hs hQ
theorem own_retA {Q : Option Value → Heap → List Loc → Prop} {rc rs : Nat} {pc : Nat} {Ls : Array Slot} {w : Value} {t : FieldType} (X : Stand p l e R s m args below meth c T locs cells slots) (hx : p.tables.exec = Jvm.exec) (hlk : meth.locks = false) (hret : meth.sig.returnType = some t) (ht : t.isReference = true) (hn : narrow t w = w) (hw : w.isRef = true) (hd : decode c.code pc = .ok (.areturn, 1))
    (hc : cells ≤ rc) (hs : slots ≤ rs) (hQ : Q (some w) T.heap locs) : own_Fin p e below s Q rc rs (T.setTop (mkF m pc Ls [w])) :=
  own_ret X hlk (fun q => by rw [hret] at q; cases q) (fun fs hr => retOut X hx hret hn (Or.inr (Or.inr (Or.inr (Or.inr ⟨rfl, ht, hw⟩)))) hd hr) hc hs hQ
/-- a boolean, byte, char or short that already fits -/
theorem own_retN {Q : Option Value → Heap → List Loc → Prop} {rc rs : Nat} {pc : Nat} {Ls : Array Slot} {z : Int32} {t : FieldType} (X : Stand p l e R s m args below meth c T locs cells slots) (hx : p.tables.exec = Jvm.exec) (hlk : meth.locks = false) (hret : meth.sig.returnType = some t) (ht : t = .boolean ∨ t = .byte ∨ t = .char ∨ t = .short) (hn : nar t z = z) (hd : decode c.code pc = .ok (.ireturn, 1))
    (hc : cells ≤ rc) (hs : slots ≤ rs) (hQ : Q (some (.int z)) T.heap locs) : own_Fin p e below s Q rc rs (T.setTop (mkF m pc Ls [.int z])) :=
  own_ret X hlk (fun q => by rw [hret] at q; cases q) (fun fs hr => retN X hx hret ht hd (by rw [hn]; exact hr)) hc hs hQ
section Calls
variable {y z : MethodName} {bytes : ByteArray} {maxL W : Nat} {ret : Option FieldType} {rm : Room} {Q : Option Value → Heap → List Loc → Prop} {own C : String} {index : Nat} {b : Addr} {argsL rest : List Value} {g : JFrame}
theorem own_virt (X : Stand p l e R s m args below meth c T locs cells slots) (hx : p.tables.exec = Jvm.exec) (hZ : Z.Warmed39 s.vm) (hown : s.vm.findClass own = some m.cls) (w1 : (Jvm.Cond.methodLink own index y).before a0 Z = true) (w2 : (Jvm.Cond.declares y).before a0 Z = true) (nf : NotFace s y) (w3 : (Jvm.Cond.selects C y z).before a0 Z = true) (w4 : (Jvm.Cond.instanceMethod z).before a0 Z = true) (hy : y.cls ≠ "java/lang/invoke/MethodHandle" ∧ y.cls ≠ "java/lang/invoke/VarHandle")
    (wc : (Jvm.Cond.code z bytes maxL ret).before a0 Z = true) (wz : (Jvm.Cond.initialized z.cls).before a0 Z = true) (eT : T.heap = h) (E : Exa Z h b C) (hM : own_Met l z bytes maxL ret [] rm Z (.ref b :: argsL).toArray h Q) (hg : g.method = m) (hsize : g.locals.size = c.maxLocals) (hlen : ∀ sig, parseMethodDescriptor y.desc = some sig → argsL.length = sig.parameters.length)
    (hstack : g.stack = argsL.reverse ++ .ref b :: rest) (hW : 2 * g.monitorRoom + (rest.map fun v => v.category).sum ≤ W) (hd : decode c.code g.pc = .ok (.invokevirtual index, 3)) (hf : rm.frames + 1 ≤ R.frames) (hl : W + (maxL + 11) + rm.locals ≤ R.locals) (hc : cells + rm.cells ≤ R.cells) (hs : slots + rm.slots ≤ R.slots) :
    ∃ (v : Option Value) (T' : State) (L : List Loc), Stand p l e R s m args below meth c T' (locs ++ L) (cells + rm.cells) (slots + rm.slots) ∧ Q v T'.heap L ∧ ∀ t, Steps p.tables e below (T'.setTop { g with pc := g.pc + 3, stack := v.toList ++ rest }) t → Steps p.tables e below (T.setTop g) t := by
  obtain ⟨cq, kq, qa, qb, qc⟩ := isOf hZ eT E
  obtain ⟨v, vm1, ⟨T', L', k', n'⟩, -, X', ⟨L, hQ, hl', hk', hn'⟩, st⟩ := X.virtualBack hx (y := y) (z := z) hown (mvT hZ w1) (mvT hZ w2) nf (mvT hZ w3) (mvT hZ w4) hy (backOf (W := W) hM hZ wc wz hf hl) qa qc hg hsize (Steps.refl _) hlen hstack hW hd (fun _ _ => ⟨rfl, eT, hc, hs⟩)
  dsimp only [Pt.U, Pt.locs, Pt.cells, Pt.slots] at X' hl' hk' hn' st hQ
  subst hl' hk' hn'
  exact ⟨v, T', L, X', hQ, fun t k => st.trans k⟩
/-- a method that a superclass declares, named through the subclass -/
theorem own_virtUp {owner : String} (X : Stand p l e R s m args below meth c T locs cells slots) (hx : p.tables.exec = Jvm.exec) (hZ : Z.Warmed39 s.vm) (hown : s.vm.findClass own = some m.cls) (w1 : (Jvm.Cond.methodLink own index y).before a0 Z = true) (ws : (Jvm.Cond.sameMethod y.cls owner y.name y.desc).before a0 Z = true) (w2 : (Jvm.Cond.declares ⟨owner, y.name, y.desc⟩).before a0 Z = true) (ho : owner ≠ "java/lang/invoke/MethodHandle" ∧ owner ≠ "java/lang/invoke/VarHandle") (w3 : (Jvm.Cond.selects C y z).before a0 Z = true) (w4 : (Jvm.Cond.instanceMethod z).before a0 Z = true)
    (wc : (Jvm.Cond.code z bytes maxL ret).before a0 Z = true) (wz : (Jvm.Cond.initialized z.cls).before a0 Z = true) (eT : T.heap = h) (E : Exa Z h b C) (hM : own_Met l z bytes maxL ret [] rm Z (.ref b :: argsL).toArray h Q) (hg : g.method = m) (hsize : g.locals.size = c.maxLocals) (hlen : ∀ sig, parseMethodDescriptor y.desc = some sig → argsL.length = sig.parameters.length)
    (hstack : g.stack = argsL.reverse ++ .ref b :: rest) (hW : 2 * g.monitorRoom + (rest.map fun v => v.category).sum ≤ W) (hd : decode c.code g.pc = .ok (.invokevirtual index, 3)) (hf : rm.frames + 1 ≤ R.frames) (hl : W + (maxL + 11) + rm.locals ≤ R.locals) (hc : cells + rm.cells ≤ R.cells) (hs : slots + rm.slots ≤ R.slots) :
    ∃ (v : Option Value) (T' : State) (L : List Loc), Stand p l e R s m args below meth c T' (locs ++ L) (cells + rm.cells) (slots + rm.slots) ∧ Q v T'.heap L ∧ ∀ t, Steps p.tables e below (T'.setTop { g with pc := g.pc + 3, stack := v.toList ++ rest }) t → Steps p.tables e below (T.setTop g) t := by
  obtain ⟨cq, kq, qa, qb, qc⟩ := isOf hZ eT E
  obtain ⟨v, vm1, ⟨T', L', k', n'⟩, -, X', ⟨L, hQ, hl', hk', hn'⟩, st⟩ := X.virtualBackUp hx (x := y) (y := z) hown (mvT hZ w1) (mvT hZ ws) (mvT hZ w2) ho (mvT hZ w3) (mvT hZ w4) (backOf (W := W) hM hZ wc wz hf hl) qa qc hg hsize (Steps.refl _) hlen hstack hW hd (fun _ _ => ⟨rfl, eT, hc, hs⟩)
  dsimp only [Pt.U, Pt.locs, Pt.cells, Pt.slots] at X' hl' hk' hn' st hQ
  subst hl' hk' hn'
  exact ⟨v, T', L, X', hQ, fun t k => st.trans k⟩
theorem own_stat (X : Stand p l e R s m args below meth c T locs cells slots) (hx : p.tables.exec = Jvm.exec) (hZ : Z.Warmed39 s.vm) (hown : s.vm.findClass own = some m.cls) (w1 : (Jvm.Cond.methodLink own index y).before a0 Z = true) (w2 : (Jvm.Cond.static y).before a0 Z = true) (hy : y.cls ≠ "java/lang/invoke/MethodHandle" ∧ y.cls ≠ "java/lang/invoke/VarHandle")
    (wc : (Jvm.Cond.code y bytes maxL ret).before a0 Z = true) (wz : (Jvm.Cond.initialized y.cls).before a0 Z = true) (eT : T.heap = h) (hM : own_Met l y bytes maxL ret [] rm Z argsL.toArray h Q) (hg : g.method = m) (hsize : g.locals.size = c.maxLocals) (hlen : ∀ sig, parseMethodDescriptor y.desc = some sig → argsL.length = sig.parameters.length)
    (hstack : g.stack = argsL.reverse ++ rest) (hW : 2 * g.monitorRoom + (rest.map fun v => v.category).sum ≤ W) (hd : decode c.code g.pc = .ok (.invokestatic index, 3)) (hf : rm.frames + 1 ≤ R.frames) (hl : W + (maxL + 11) + rm.locals ≤ R.locals) (hc : cells + rm.cells ≤ R.cells) (hs : slots + rm.slots ≤ R.slots) :
    ∃ (v : Option Value) (T' : State) (L : List Loc), Stand p l e R s m args below meth c T' (locs ++ L) (cells + rm.cells) (slots + rm.slots) ∧ Q v T'.heap L ∧ ∀ t, Steps p.tables e below (T'.setTop { g with pc := g.pc + 3, stack := v.toList ++ rest }) t → Steps p.tables e below (T.setTop g) t := by
  obtain ⟨v, vm1, ⟨T', L', k', n'⟩, -, X', ⟨L, hQ, hl', hk', hn'⟩, st⟩ := Jvm.LawKit.callS X hx (y := y) hown (mvT hZ w1) (mvT hZ w2) (mvT hZ wz) (mvT hZ wc) hy (backOf (W := W) hM hZ wc wz hf hl) hg hsize hlen hstack hW hd (fun _ _ => ⟨rfl, eT, hc, hs⟩)
  dsimp only [Pt.U, Pt.locs, Pt.cells, Pt.slots] at X' hl' hk' hn' st hQ
  subst hl' hk' hn'
  exact ⟨v, T', L, X', hQ, st⟩
theorem own_spec {bytes : ByteArray} {maxL : Nat} (X : Stand p l e R s m args below meth c T locs cells slots) (hx : p.tables.exec = Jvm.exec) (hZ : Z.Warmed39 s.vm) (hy1 : y.name = "<init>") (hown : s.vm.findClass own = some m.cls) (w1 : (Jvm.Cond.methodLink own index y).before a0 Z = true) (w2 : (Jvm.Cond.instanceMethod y).before a0 Z = true) (hy : y.cls ≠ "java/lang/invoke/MethodHandle" ∧ y.cls ≠ "java/lang/invoke/VarHandle")
    (wc : (Jvm.Cond.code y bytes maxL none).before a0 Z = true) (wz : (Jvm.Cond.initialized y.cls).before a0 Z = true) (eT : T.heap = h) (hM : own_Met l y bytes maxL none [] rm Z (.ref b :: argsL).toArray h Q) (hg : g.method = m) (hsize : g.locals.size = c.maxLocals) (hlen : ∀ sig, parseMethodDescriptor y.desc = some sig → argsL.length = sig.parameters.length)
    (hstack : g.stack = argsL.reverse ++ .ref b :: rest) (hW : 2 * g.monitorRoom + (rest.map fun v => v.category).sum ≤ W) (hd : decode c.code g.pc = .ok (.invokespecial index, 3)) (hf : rm.frames + 1 ≤ R.frames) (hl : W + (maxL + 11) + rm.locals ≤ R.locals) (hc : cells + rm.cells ≤ R.cells) (hs : slots + rm.slots ≤ R.slots) :
    ∃ (v : Option Value) (T' : State) (L : List Loc), Stand p l e R s m args below meth c T' (locs ++ L) (cells + rm.cells) (slots + rm.slots) ∧ Q v T'.heap L ∧ ∀ t, Steps p.tables e below (T'.setTop { g with pc := g.pc + 3, stack := v.toList ++ rest }) t → Steps p.tables e below (T.setTop g) t := by
  obtain ⟨v, vm1, ⟨T', L', k', n'⟩, -, X', ⟨L, hQ, hl', hk', hn'⟩, st⟩ := X.specialBack hx (y := y) hy1 hown (mvT hZ w1) (mvT hZ w2) (mvT hZ wc) hy (backOf (W := W) hM hZ wc wz hf hl) hg hsize (Steps.refl _) hlen hstack hW hd (fun _ _ => ⟨rfl, eT, hc, hs⟩)
  dsimp only [Pt.U, Pt.locs, Pt.cells, Pt.slots] at X' hl' hk' hn' st hQ
  subst hl' hk' hn'
  exact ⟨v, T', L, X', hQ, fun t k => st.trans k⟩
end Calls
section Words
variable {first : State} {o : Option Outcome} {idx : List Nat} {a b t : Term} {v : Value} {C n d : String}
theorem own_eqI {k : Int32} (hq : (Jvm.Cond.eq a (.int k)).value args first o s idx = some true) : a.eval args first o idx s = some (.int k) := by
  cases ha : a.eval args first o idx s with
  | none => simp [Cond.value, ha] at hq
  | some x => cases x <;> simp [Cond.value, ha, Term.eval] at hq ⊢ <;> exact hq
theorem own_eqR {y : Addr} (hb : b.eval args first o idx s = some (.ref y)) (hq : (Jvm.Cond.eq a b).value args first o s idx = some true) : a.eval args first o idx s = some (.ref y) := by
  cases ha : a.eval args first o idx s with
  | none => simp [Cond.value, ha] at hq
  | some x => cases x <;> simp [Cond.value, ha, hb] at hq ⊢ <;> exact hq
theorem own_fld {x : Addr} (ht : t.eval args Z none [] Z = some (.ref x)) (hq : (Term.field t C n d).eval args Z none [] Z = some v) : Fld Z Z.heap x C n d v := Fld.start ((fld_at ht).symm.trans hq)
/-- an array of a known length -/
def own_Aln (Z : State) (h : Heap) (a : Addr) (ty : FieldType) (n : Int32) : Prop := ∃ c : Cell, Arr Z h a c ty ∧ c.slots.size = n.toNatClampNeg ∧ ¬ n < 0
theorem own_len {a : Addr} {cl : Cell} {ty : FieldType} {k : Int32} (ht : t.eval args Z none [] Z = some (.ref a)) (A : Arr Z Z.heap a cl ty) (hq : (Term.length t).eval args Z none [] Z = some (.int k)) (hk : ¬ k < 0 := by decide) : own_Aln Z Z.heap a ty k := by
  have hc : Z.arrayAt? a = some cl := A.fin (Vm.Alike.refl _)
  simp only [Term.eval, ht, hc, Option.bind_eq_bind, Option.bind_some] at hq
  by_cases hb : cl.slots.size < 2 ^ 31
  · simp only [hb, if_true, Option.pure_def, Option.some.injEq, Value.int.injEq] at hq
    refine ⟨cl, A, ?_, hk⟩
    have h1 := len_toInt hb
    rw [hq] at h1
    have h2 := nat_of hk
    omega
  · simp [hb] at hq
end Words
theorem own_exaStat {a : Addr} {C : String} (F : Exa Z h a C) : ∀ cell : Cell, h[a]? = some cell → cell.vm.isStatics = false := fun cell hc => by
  obtain ⟨c', _, h1, -, -, h4, -⟩ := F
  cases h1.symm.trans hc
  exact h4
theorem own_staKeep {h' : Heap} {C n d : String} {v : Value} {ws : List Addr} (F : Sta Z h C n d v) (K : Keep h h' ws) (q : ∀ x ∈ ws, ∀ cell : Cell, h[x]? = some cell → cell.vm.isStatics = false) : Sta Z h' C n d v := by
  obtain ⟨cf, i, k, f, st, cell, h1, h2, h3, h4, h5, h6, h7⟩ := F
  exact ⟨cf, i, k, f, st, cell, h1, h2, h3, h4, K.2.1 st cell h5 (fun hm => by rw [q st hm cell h5] at h6; cases h6), h6, h7⟩
theorem own_ite {α : Type} (P : Prop) (x y : α) : ∃ z : α, (P → z = x) ∧ (¬ P → z = y) := by
  by_cases hP : P
  · exact ⟨x, fun _ => rfl, fun q => absurd hP q⟩
  · exact ⟨y, fun q => absurd q hP, fun _ => rfl⟩
theorem own_irr (x : Int64) : ¬ x < x := by simp
theorem own_tri (x y : Int64) : x < y ∨ x = y ∨ y < x := by
  simp only [Int64.lt_iff_toInt_lt, ← Int64.toInt_inj]
  omega
theorem own_asym {x y : Int64} (q : x < y) : ¬ y < x := by
  simp only [Int64.lt_iff_toInt_lt] at *
  omega
theorem own_ltne {x y : Int64} (q : x < y) : ¬ x = y := fun u => own_irr _ (u ▸ q)
theorem own_gtne {x y : Int64} (q : y < x) : ¬ x = y := fun u => own_irr _ (u ▸ q)
end OwnKit
theorem d1_0 : decode prog_86_method_4_code 0 = .ok (.aload_n 0, 1) := by decide +kernel
theorem d1_1 : decode prog_86_method_4_code 1 = .ok (.getstatic 10, 3) := by decide +kernel
theorem d1_4 : decode prog_86_method_4_code 4 = .ok (.if_acmp .eq 10, 3) := by decide +kernel
theorem d1_7 : decode prog_86_method_4_code 7 = .ok (.aload_n 0, 1) := by decide +kernel
theorem d1_8 : decode prog_86_method_4_code 8 = .ok (.getstatic 19, 3) := by decide +kernel
theorem d1_11 : decode prog_86_method_4_code 11 = .ok (.if_acmp .ne 7, 3) := by decide +kernel
theorem d1_14 : decode prog_86_method_4_code 14 = .ok (.iconst 1, 1) := by decide +kernel
theorem d1_15 : decode prog_86_method_4_code 15 = .ok (.goto 4, 3) := by decide +kernel
theorem d1_18 : decode prog_86_method_4_code 18 = .ok (.iconst 0, 1) := by decide +kernel
theorem d1_19 : decode prog_86_method_4_code 19 = .ok (.ireturn, 1) := by decide +kernel
theorem pn_0 : plainName "com/example/amendtrail/amendtrail/model/WordPlace$Scope" = true := by first | (simp [plainName, overriddenIn]; done) | decide +kernel
set_option maxRecDepth 65536 in
set_option maxHeartbeats 40000000 in
theorem rm1_0 (l : Launch) (Z : State) (a0 : Array Value) (hw : ∀ d ∈ tables_1, d.before a0 Z = true) (ws : List Jvm.Cond) (w_LINE w_SENTENCE a : Addr)  (h0 : Heap) (n0 : Nat) (Z0 : n0 ≤ h0.size) (S_LINE : Sta Z h0 "com/example/amendtrail/amendtrail/model/WordPlace$Scope" "LINE" "Lcom/example/amendtrail/amendtrail/model/WordPlace$Scope;" (.ref w_LINE)) (S_SENTENCE : Sta Z h0 "com/example/amendtrail/amendtrail/model/WordPlace$Scope" "SENTENCE" "Lcom/example/amendtrail/amendtrail/model/WordPlace$Scope;" (.ref w_SENTENCE)) (ne_LINE : a ≠ w_LINE) (ne_SENTENCE : a ≠ w_SENTENCE) :
    own_Met l (⟨"com/example/amendtrail/amendtrail/model/WordPlace$Scope", "numbered", "()Z"⟩ : MethodName) prog_86_method_4_code 1 (some .boolean) ws ({ frames := 0, cells := 0, slots := 0, locals := 0 } : Room) Z #[(.ref a)] h0 (fun v h L => v = some (.int 0) ∧ Fr n0 L ∧ h = h0) := by
  refine own_body (plainFor_of_name pn_0) ?_
  intro p e s m below meth c s₁ X0 hx hby hml hown hnm hret hlk hZ e0
  replace hown : s.vm.findClass "com/example/amendtrail/amendtrail/model/WordPlace$Scope" = some m.cls := hown
  replace hml : c.maxLocals = 1 := hml
  replace hret : meth.sig.returnType = (some .boolean) := hret
  have N0 := Fr.nil n0
  have ef : entryFrame m #[(.ref a)] 1 = mkF m 0 #[.val (.ref a)] [] := by first | (simp [entryFrame, mkF, argsToLocals, Value.category]; done) | rfl
  refine own_step (S' := (s₁.setTop (mkF m 0 #[.val (.ref a)] []))) (fun _ k => castTop ef k) ?_
  refine own_step (S' := (s₁.setTop (mkF m 1 #[.val (.ref a)] [(.ref a)]))) (fun _ k => XS.aloadN X0.here hx rfl (hb hby d1_0) rfl rfl k) ?_
  obtain ⟨T1, X1, e1, st1⟩ := getS2 X0 hx hZ hown (host := "") (Or.inl (hw _ (List.mem_of_getElem? (i := 26) rfl))) Via.refl e0 S_LINE (g := (mkF m 1 #[.val (.ref a)] [(.ref a)])) rfl (hb hby d1_1)
  refine own_step (S' := (T1.setTop (mkF m 4 #[.val (.ref a)] [(.ref w_LINE), (.ref a)]))) (fun _ k => st1 _ k) ?_
  refine own_step (S' := (T1.setTop (mkF m 7 #[.val (.ref a)] []))) (fun _ k => Jvm.RoadKit.acmp (g := (mkF m 4 #[.val (.ref a)] [(.ref w_LINE), (.ref a)])) X1 hx rfl rfl rfl (pc0 := 4) (pc' := 7) (same := false) rfl (hb hby d1_4) rfl (decide_eq_false fun q => ne_LINE (Value.ref.inj q)) (by decide) (by decide) k) ?_
  refine own_step (S' := (T1.setTop (mkF m 8 #[.val (.ref a)] [(.ref a)]))) (fun _ k => XS.aloadN X1.here hx rfl (hb hby d1_7) rfl rfl k) ?_
  obtain ⟨T2, X2, e2, st2⟩ := getS2 X1 hx hZ hown (host := "") (Or.inl (hw _ (List.mem_of_getElem? (i := 27) rfl))) Via.refl e1 S_SENTENCE (g := (mkF m 8 #[.val (.ref a)] [(.ref a)])) rfl (hb hby d1_8)
  refine own_step (S' := (T2.setTop (mkF m 11 #[.val (.ref a)] [(.ref w_SENTENCE), (.ref a)]))) (fun _ k => st2 _ k) ?_
  refine own_step (S' := (T2.setTop (mkF m 18 #[.val (.ref a)] []))) (fun _ k => Jvm.RoadKit.acmp (g := (mkF m 11 #[.val (.ref a)] [(.ref w_SENTENCE), (.ref a)])) X2 hx rfl rfl rfl (pc0 := 11) (pc' := 18) (same := false) rfl (hb hby d1_11) rfl (decide_eq_false fun q => ne_SENTENCE (Value.ref.inj q)) (by decide) (by decide) k) ?_
  refine own_step (S' := (T2.setTop (mkF m 19 #[.val (.ref a)] [(.int (0 : Int32))]))) (fun _ k => XS.iconst X2.here hx rfl (hb hby d1_18) k) ?_
  refine own_retN X2 hx hlk hret (by simp) (by decide) (hb hby d1_19) (by decide) (by decide) ?_
  try rw [e2]
  exact ⟨rfl, N0, rfl⟩
set_option maxRecDepth 65536 in
set_option maxHeartbeats 40000000 in
theorem rm1_1 (l : Launch) (Z : State) (a0 : Array Value) (hw : ∀ d ∈ tables_1, d.before a0 Z = true) (ws : List Jvm.Cond) (w_LINE w_SENTENCE a : Addr)  (h0 : Heap) (n0 : Nat) (Z0 : n0 ≤ h0.size) (S_LINE : Sta Z h0 "com/example/amendtrail/amendtrail/model/WordPlace$Scope" "LINE" "Lcom/example/amendtrail/amendtrail/model/WordPlace$Scope;" (.ref w_LINE)) (S_SENTENCE : Sta Z h0 "com/example/amendtrail/amendtrail/model/WordPlace$Scope" "SENTENCE" "Lcom/example/amendtrail/amendtrail/model/WordPlace$Scope;" (.ref w_SENTENCE)) (ne_LINE : a ≠ w_LINE) (ne_SENTENCE : a ≠ w_SENTENCE) :
    own_Met l (⟨"com/example/amendtrail/amendtrail/model/WordPlace$Scope", "numbered", "()Z"⟩ : MethodName) prog_86_method_4_code 1 (some .boolean) ws ({ frames := 0, cells := 0, slots := 0, locals := 0 } : Room) Z #[(.ref a)] h0 (fun v h L => v = some (.int 0) ∧ Fr n0 L ∧ h = h0) := by
  refine own_body (plainFor_of_name pn_0) ?_
  intro p e s m below meth c s₁ X0 hx hby hml hown hnm hret hlk hZ e0
  replace hown : s.vm.findClass "com/example/amendtrail/amendtrail/model/WordPlace$Scope" = some m.cls := hown
  replace hml : c.maxLocals = 1 := hml
  replace hret : meth.sig.returnType = (some .boolean) := hret
  have N0 := Fr.nil n0
  have ef : entryFrame m #[(.ref a)] 1 = mkF m 0 #[.val (.ref a)] [] := by first | (simp [entryFrame, mkF, argsToLocals, Value.category]; done) | rfl
  refine own_step (S' := (s₁.setTop (mkF m 0 #[.val (.ref a)] []))) (fun _ k => castTop ef k) ?_
  refine own_step (S' := (s₁.setTop (mkF m 1 #[.val (.ref a)] [(.ref a)]))) (fun _ k => XS.aloadN X0.here hx rfl (hb hby d1_0) rfl rfl k) ?_
  obtain ⟨T3, X3, e3, st3⟩ := getS2 X0 hx hZ hown (host := "") (Or.inl (hw _ (List.mem_of_getElem? (i := 26) rfl))) Via.refl e0 S_LINE (g := (mkF m 1 #[.val (.ref a)] [(.ref a)])) rfl (hb hby d1_1)
  refine own_step (S' := (T3.setTop (mkF m 4 #[.val (.ref a)] [(.ref w_LINE), (.ref a)]))) (fun _ k => st3 _ k) ?_
  refine own_step (S' := (T3.setTop (mkF m 7 #[.val (.ref a)] []))) (fun _ k => Jvm.RoadKit.acmp (g := (mkF m 4 #[.val (.ref a)] [(.ref w_LINE), (.ref a)])) X3 hx rfl rfl rfl (pc0 := 4) (pc' := 7) (same := false) rfl (hb hby d1_4) rfl (decide_eq_false fun q => ne_LINE (Value.ref.inj q)) (by decide) (by decide) k) ?_
  refine own_step (S' := (T3.setTop (mkF m 8 #[.val (.ref a)] [(.ref a)]))) (fun _ k => XS.aloadN X3.here hx rfl (hb hby d1_7) rfl rfl k) ?_
  obtain ⟨T4, X4, e4, st4⟩ := getS2 X3 hx hZ hown (host := "") (Or.inl (hw _ (List.mem_of_getElem? (i := 27) rfl))) Via.refl e3 S_SENTENCE (g := (mkF m 8 #[.val (.ref a)] [(.ref a)])) rfl (hb hby d1_8)
  refine own_step (S' := (T4.setTop (mkF m 11 #[.val (.ref a)] [(.ref w_SENTENCE), (.ref a)]))) (fun _ k => st4 _ k) ?_
  refine own_step (S' := (T4.setTop (mkF m 18 #[.val (.ref a)] []))) (fun _ k => Jvm.RoadKit.acmp (g := (mkF m 11 #[.val (.ref a)] [(.ref w_SENTENCE), (.ref a)])) X4 hx rfl rfl rfl (pc0 := 11) (pc' := 18) (same := false) rfl (hb hby d1_11) rfl (decide_eq_false fun q => ne_SENTENCE (Value.ref.inj q)) (by decide) (by decide) k) ?_
  refine own_step (S' := (T4.setTop (mkF m 19 #[.val (.ref a)] [(.int (0 : Int32))]))) (fun _ k => XS.iconst X4.here hx rfl (hb hby d1_18) k) ?_
  refine own_retN X4 hx hlk hret (by simp) (by decide) (hb hby d1_19) (by decide) (by decide) ?_
  try rw [e4]
  exact ⟨rfl, N0, rfl⟩
set_option maxRecDepth 65536 in
set_option maxHeartbeats 40000000 in
theorem rm1_2 (l : Launch) (Z : State) (a0 : Array Value) (hw : ∀ d ∈ tables_1, d.before a0 Z = true) (ws : List Jvm.Cond) (w_LINE w_SENTENCE : Addr)  (h0 : Heap) (n0 : Nat) (Z0 : n0 ≤ h0.size) (S_LINE : Sta Z h0 "com/example/amendtrail/amendtrail/model/WordPlace$Scope" "LINE" "Lcom/example/amendtrail/amendtrail/model/WordPlace$Scope;" (.ref w_LINE)) (S_SENTENCE : Sta Z h0 "com/example/amendtrail/amendtrail/model/WordPlace$Scope" "SENTENCE" "Lcom/example/amendtrail/amendtrail/model/WordPlace$Scope;" (.ref w_SENTENCE)) (ne_SENTENCE : w_LINE ≠ w_SENTENCE) :
    own_Met l (⟨"com/example/amendtrail/amendtrail/model/WordPlace$Scope", "numbered", "()Z"⟩ : MethodName) prog_86_method_4_code 1 (some .boolean) ws ({ frames := 0, cells := 0, slots := 0, locals := 0 } : Room) Z #[(.ref w_LINE)] h0 (fun v h L => v = some (.int 1) ∧ Fr n0 L ∧ h = h0) := by
  refine own_body (plainFor_of_name pn_0) ?_
  intro p e s m below meth c s₁ X0 hx hby hml hown hnm hret hlk hZ e0
  replace hown : s.vm.findClass "com/example/amendtrail/amendtrail/model/WordPlace$Scope" = some m.cls := hown
  replace hml : c.maxLocals = 1 := hml
  replace hret : meth.sig.returnType = (some .boolean) := hret
  have N0 := Fr.nil n0
  have ef : entryFrame m #[(.ref w_LINE)] 1 = mkF m 0 #[.val (.ref w_LINE)] [] := by first | (simp [entryFrame, mkF, argsToLocals, Value.category]; done) | rfl
  refine own_step (S' := (s₁.setTop (mkF m 0 #[.val (.ref w_LINE)] []))) (fun _ k => castTop ef k) ?_
  refine own_step (S' := (s₁.setTop (mkF m 1 #[.val (.ref w_LINE)] [(.ref w_LINE)]))) (fun _ k => XS.aloadN X0.here hx rfl (hb hby d1_0) rfl rfl k) ?_
  obtain ⟨T5, X5, e5, st5⟩ := getS2 X0 hx hZ hown (host := "") (Or.inl (hw _ (List.mem_of_getElem? (i := 26) rfl))) Via.refl e0 S_LINE (g := (mkF m 1 #[.val (.ref w_LINE)] [(.ref w_LINE)])) rfl (hb hby d1_1)
  refine own_step (S' := (T5.setTop (mkF m 4 #[.val (.ref w_LINE)] [(.ref w_LINE), (.ref w_LINE)]))) (fun _ k => st5 _ k) ?_
  refine own_step (S' := (T5.setTop (mkF m 14 #[.val (.ref w_LINE)] []))) (fun _ k => Jvm.RoadKit.acmp (g := (mkF m 4 #[.val (.ref w_LINE)] [(.ref w_LINE), (.ref w_LINE)])) X5 hx rfl rfl rfl (pc0 := 4) (pc' := 14) (same := true) rfl (hb hby d1_4) rfl (decide_eq_true rfl) (by decide) (by decide) k) ?_
  refine own_step (S' := (T5.setTop (mkF m 15 #[.val (.ref w_LINE)] [(.int (1 : Int32))]))) (fun _ k => XS.iconst X5.here hx rfl (hb hby d1_14) k) ?_
  refine own_step (S' := (T5.setTop (mkF m 19 #[.val (.ref w_LINE)] [(.int (1 : Int32))]))) (fun _ k => XS.goto X5.here hx rfl (pc0 := 15) (pc' := 19) rfl (hb hby d1_15) (by decide) (by decide) k) ?_
  refine own_retN X5 hx hlk hret (by simp) (by decide) (hb hby d1_19) (by decide) (by decide) ?_
  try rw [e5]
  exact ⟨rfl, N0, rfl⟩
set_option maxRecDepth 65536 in
set_option maxHeartbeats 40000000 in
theorem rm1_3 (l : Launch) (Z : State) (a0 : Array Value) (hw : ∀ d ∈ tables_1, d.before a0 Z = true) (ws : List Jvm.Cond) (w_LINE w_SENTENCE a : Addr)  (h0 : Heap) (n0 : Nat) (Z0 : n0 ≤ h0.size) (S_LINE : Sta Z h0 "com/example/amendtrail/amendtrail/model/WordPlace$Scope" "LINE" "Lcom/example/amendtrail/amendtrail/model/WordPlace$Scope;" (.ref w_LINE)) (S_SENTENCE : Sta Z h0 "com/example/amendtrail/amendtrail/model/WordPlace$Scope" "SENTENCE" "Lcom/example/amendtrail/amendtrail/model/WordPlace$Scope;" (.ref w_SENTENCE)) (ne_LINE : a ≠ w_LINE) (ne_SENTENCE : a ≠ w_SENTENCE) :
    own_Met l (⟨"com/example/amendtrail/amendtrail/model/WordPlace$Scope", "numbered", "()Z"⟩ : MethodName) prog_86_method_4_code 1 (some .boolean) ws ({ frames := 0, cells := 0, slots := 0, locals := 0 } : Room) Z #[(.ref a)] h0 (fun v h L => v = some (.int 0) ∧ Fr n0 L ∧ h = h0) := by
  refine own_body (plainFor_of_name pn_0) ?_
  intro p e s m below meth c s₁ X0 hx hby hml hown hnm hret hlk hZ e0
  replace hown : s.vm.findClass "com/example/amendtrail/amendtrail/model/WordPlace$Scope" = some m.cls := hown
  replace hml : c.maxLocals = 1 := hml
  replace hret : meth.sig.returnType = (some .boolean) := hret
  have N0 := Fr.nil n0
  have ef : entryFrame m #[(.ref a)] 1 = mkF m 0 #[.val (.ref a)] [] := by first | (simp [entryFrame, mkF, argsToLocals, Value.category]; done) | rfl
  refine own_step (S' := (s₁.setTop (mkF m 0 #[.val (.ref a)] []))) (fun _ k => castTop ef k) ?_
  refine own_step (S' := (s₁.setTop (mkF m 1 #[.val (.ref a)] [(.ref a)]))) (fun _ k => XS.aloadN X0.here hx rfl (hb hby d1_0) rfl rfl k) ?_
  obtain ⟨T6, X6, e6, st6⟩ := getS2 X0 hx hZ hown (host := "") (Or.inl (hw _ (List.mem_of_getElem? (i := 26) rfl))) Via.refl e0 S_LINE (g := (mkF m 1 #[.val (.ref a)] [(.ref a)])) rfl (hb hby d1_1)
  refine own_step (S' := (T6.setTop (mkF m 4 #[.val (.ref a)] [(.ref w_LINE), (.ref a)]))) (fun _ k => st6 _ k) ?_
  refine own_step (S' := (T6.setTop (mkF m 7 #[.val (.ref a)] []))) (fun _ k => Jvm.RoadKit.acmp (g := (mkF m 4 #[.val (.ref a)] [(.ref w_LINE), (.ref a)])) X6 hx rfl rfl rfl (pc0 := 4) (pc' := 7) (same := false) rfl (hb hby d1_4) rfl (decide_eq_false fun q => ne_LINE (Value.ref.inj q)) (by decide) (by decide) k) ?_
  refine own_step (S' := (T6.setTop (mkF m 8 #[.val (.ref a)] [(.ref a)]))) (fun _ k => XS.aloadN X6.here hx rfl (hb hby d1_7) rfl rfl k) ?_
  obtain ⟨T7, X7, e7, st7⟩ := getS2 X6 hx hZ hown (host := "") (Or.inl (hw _ (List.mem_of_getElem? (i := 27) rfl))) Via.refl e6 S_SENTENCE (g := (mkF m 8 #[.val (.ref a)] [(.ref a)])) rfl (hb hby d1_8)
  refine own_step (S' := (T7.setTop (mkF m 11 #[.val (.ref a)] [(.ref w_SENTENCE), (.ref a)]))) (fun _ k => st7 _ k) ?_
  refine own_step (S' := (T7.setTop (mkF m 18 #[.val (.ref a)] []))) (fun _ k => Jvm.RoadKit.acmp (g := (mkF m 11 #[.val (.ref a)] [(.ref w_SENTENCE), (.ref a)])) X7 hx rfl rfl rfl (pc0 := 11) (pc' := 18) (same := false) rfl (hb hby d1_11) rfl (decide_eq_false fun q => ne_SENTENCE (Value.ref.inj q)) (by decide) (by decide) k) ?_
  refine own_step (S' := (T7.setTop (mkF m 19 #[.val (.ref a)] [(.int (0 : Int32))]))) (fun _ k => XS.iconst X7.here hx rfl (hb hby d1_18) k) ?_
  refine own_retN X7 hx hlk hret (by simp) (by decide) (hb hby d1_19) (by decide) (by decide) ?_
  try rw [e7]
  exact ⟨rfl, N0, rfl⟩
set_option maxRecDepth 65536 in
set_option maxHeartbeats 40000000 in
theorem rm1_4 (l : Launch) (Z : State) (a0 : Array Value) (hw : ∀ d ∈ tables_1, d.before a0 Z = true) (ws : List Jvm.Cond) (w_LINE w_SENTENCE a : Addr)  (h0 : Heap) (n0 : Nat) (Z0 : n0 ≤ h0.size) (S_LINE : Sta Z h0 "com/example/amendtrail/amendtrail/model/WordPlace$Scope" "LINE" "Lcom/example/amendtrail/amendtrail/model/WordPlace$Scope;" (.ref w_LINE)) (S_SENTENCE : Sta Z h0 "com/example/amendtrail/amendtrail/model/WordPlace$Scope" "SENTENCE" "Lcom/example/amendtrail/amendtrail/model/WordPlace$Scope;" (.ref w_SENTENCE)) (ne_LINE : a ≠ w_LINE) (ne_SENTENCE : a ≠ w_SENTENCE) :
    own_Met l (⟨"com/example/amendtrail/amendtrail/model/WordPlace$Scope", "numbered", "()Z"⟩ : MethodName) prog_86_method_4_code 1 (some .boolean) ws ({ frames := 0, cells := 0, slots := 0, locals := 0 } : Room) Z #[(.ref a)] h0 (fun v h L => v = some (.int 0) ∧ Fr n0 L ∧ h = h0) := by
  refine own_body (plainFor_of_name pn_0) ?_
  intro p e s m below meth c s₁ X0 hx hby hml hown hnm hret hlk hZ e0
  replace hown : s.vm.findClass "com/example/amendtrail/amendtrail/model/WordPlace$Scope" = some m.cls := hown
  replace hml : c.maxLocals = 1 := hml
  replace hret : meth.sig.returnType = (some .boolean) := hret
  have N0 := Fr.nil n0
  have ef : entryFrame m #[(.ref a)] 1 = mkF m 0 #[.val (.ref a)] [] := by first | (simp [entryFrame, mkF, argsToLocals, Value.category]; done) | rfl
  refine own_step (S' := (s₁.setTop (mkF m 0 #[.val (.ref a)] []))) (fun _ k => castTop ef k) ?_
  refine own_step (S' := (s₁.setTop (mkF m 1 #[.val (.ref a)] [(.ref a)]))) (fun _ k => XS.aloadN X0.here hx rfl (hb hby d1_0) rfl rfl k) ?_
  obtain ⟨T8, X8, e8, st8⟩ := getS2 X0 hx hZ hown (host := "") (Or.inl (hw _ (List.mem_of_getElem? (i := 26) rfl))) Via.refl e0 S_LINE (g := (mkF m 1 #[.val (.ref a)] [(.ref a)])) rfl (hb hby d1_1)
  refine own_step (S' := (T8.setTop (mkF m 4 #[.val (.ref a)] [(.ref w_LINE), (.ref a)]))) (fun _ k => st8 _ k) ?_
  refine own_step (S' := (T8.setTop (mkF m 7 #[.val (.ref a)] []))) (fun _ k => Jvm.RoadKit.acmp (g := (mkF m 4 #[.val (.ref a)] [(.ref w_LINE), (.ref a)])) X8 hx rfl rfl rfl (pc0 := 4) (pc' := 7) (same := false) rfl (hb hby d1_4) rfl (decide_eq_false fun q => ne_LINE (Value.ref.inj q)) (by decide) (by decide) k) ?_
  refine own_step (S' := (T8.setTop (mkF m 8 #[.val (.ref a)] [(.ref a)]))) (fun _ k => XS.aloadN X8.here hx rfl (hb hby d1_7) rfl rfl k) ?_
  obtain ⟨T9, X9, e9, st9⟩ := getS2 X8 hx hZ hown (host := "") (Or.inl (hw _ (List.mem_of_getElem? (i := 27) rfl))) Via.refl e8 S_SENTENCE (g := (mkF m 8 #[.val (.ref a)] [(.ref a)])) rfl (hb hby d1_8)
  refine own_step (S' := (T9.setTop (mkF m 11 #[.val (.ref a)] [(.ref w_SENTENCE), (.ref a)]))) (fun _ k => st9 _ k) ?_
  refine own_step (S' := (T9.setTop (mkF m 18 #[.val (.ref a)] []))) (fun _ k => Jvm.RoadKit.acmp (g := (mkF m 11 #[.val (.ref a)] [(.ref w_SENTENCE), (.ref a)])) X9 hx rfl rfl rfl (pc0 := 11) (pc' := 18) (same := false) rfl (hb hby d1_11) rfl (decide_eq_false fun q => ne_SENTENCE (Value.ref.inj q)) (by decide) (by decide) k) ?_
  refine own_step (S' := (T9.setTop (mkF m 19 #[.val (.ref a)] [(.int (0 : Int32))]))) (fun _ k => XS.iconst X9.here hx rfl (hb hby d1_18) k) ?_
  refine own_retN X9 hx hlk hret (by simp) (by decide) (hb hby d1_19) (by decide) (by decide) ?_
  try rw [e9]
  exact ⟨rfl, N0, rfl⟩
set_option maxRecDepth 65536 in
set_option maxHeartbeats 40000000 in
theorem rm1_5 (l : Launch) (Z : State) (a0 : Array Value) (hw : ∀ d ∈ tables_1, d.before a0 Z = true) (ws : List Jvm.Cond) (w_LINE w_SENTENCE : Addr)  (h0 : Heap) (n0 : Nat) (Z0 : n0 ≤ h0.size) (S_LINE : Sta Z h0 "com/example/amendtrail/amendtrail/model/WordPlace$Scope" "LINE" "Lcom/example/amendtrail/amendtrail/model/WordPlace$Scope;" (.ref w_LINE)) (S_SENTENCE : Sta Z h0 "com/example/amendtrail/amendtrail/model/WordPlace$Scope" "SENTENCE" "Lcom/example/amendtrail/amendtrail/model/WordPlace$Scope;" (.ref w_SENTENCE)) (ne_LINE : w_SENTENCE ≠ w_LINE) :
    own_Met l (⟨"com/example/amendtrail/amendtrail/model/WordPlace$Scope", "numbered", "()Z"⟩ : MethodName) prog_86_method_4_code 1 (some .boolean) ws ({ frames := 0, cells := 0, slots := 0, locals := 0 } : Room) Z #[(.ref w_SENTENCE)] h0 (fun v h L => v = some (.int 1) ∧ Fr n0 L ∧ h = h0) := by
  refine own_body (plainFor_of_name pn_0) ?_
  intro p e s m below meth c s₁ X0 hx hby hml hown hnm hret hlk hZ e0
  replace hown : s.vm.findClass "com/example/amendtrail/amendtrail/model/WordPlace$Scope" = some m.cls := hown
  replace hml : c.maxLocals = 1 := hml
  replace hret : meth.sig.returnType = (some .boolean) := hret
  have N0 := Fr.nil n0
  have ef : entryFrame m #[(.ref w_SENTENCE)] 1 = mkF m 0 #[.val (.ref w_SENTENCE)] [] := by first | (simp [entryFrame, mkF, argsToLocals, Value.category]; done) | rfl
  refine own_step (S' := (s₁.setTop (mkF m 0 #[.val (.ref w_SENTENCE)] []))) (fun _ k => castTop ef k) ?_
  refine own_step (S' := (s₁.setTop (mkF m 1 #[.val (.ref w_SENTENCE)] [(.ref w_SENTENCE)]))) (fun _ k => XS.aloadN X0.here hx rfl (hb hby d1_0) rfl rfl k) ?_
  obtain ⟨T10, X10, e10, st10⟩ := getS2 X0 hx hZ hown (host := "") (Or.inl (hw _ (List.mem_of_getElem? (i := 26) rfl))) Via.refl e0 S_LINE (g := (mkF m 1 #[.val (.ref w_SENTENCE)] [(.ref w_SENTENCE)])) rfl (hb hby d1_1)
  refine own_step (S' := (T10.setTop (mkF m 4 #[.val (.ref w_SENTENCE)] [(.ref w_LINE), (.ref w_SENTENCE)]))) (fun _ k => st10 _ k) ?_
  refine own_step (S' := (T10.setTop (mkF m 7 #[.val (.ref w_SENTENCE)] []))) (fun _ k => Jvm.RoadKit.acmp (g := (mkF m 4 #[.val (.ref w_SENTENCE)] [(.ref w_LINE), (.ref w_SENTENCE)])) X10 hx rfl rfl rfl (pc0 := 4) (pc' := 7) (same := false) rfl (hb hby d1_4) rfl (decide_eq_false fun q => ne_LINE (Value.ref.inj q)) (by decide) (by decide) k) ?_
  refine own_step (S' := (T10.setTop (mkF m 8 #[.val (.ref w_SENTENCE)] [(.ref w_SENTENCE)]))) (fun _ k => XS.aloadN X10.here hx rfl (hb hby d1_7) rfl rfl k) ?_
  obtain ⟨T11, X11, e11, st11⟩ := getS2 X10 hx hZ hown (host := "") (Or.inl (hw _ (List.mem_of_getElem? (i := 27) rfl))) Via.refl e10 S_SENTENCE (g := (mkF m 8 #[.val (.ref w_SENTENCE)] [(.ref w_SENTENCE)])) rfl (hb hby d1_8)
  refine own_step (S' := (T11.setTop (mkF m 11 #[.val (.ref w_SENTENCE)] [(.ref w_SENTENCE), (.ref w_SENTENCE)]))) (fun _ k => st11 _ k) ?_
  refine own_step (S' := (T11.setTop (mkF m 14 #[.val (.ref w_SENTENCE)] []))) (fun _ k => Jvm.RoadKit.acmp (g := (mkF m 11 #[.val (.ref w_SENTENCE)] [(.ref w_SENTENCE), (.ref w_SENTENCE)])) X11 hx rfl rfl rfl (pc0 := 11) (pc' := 14) (same := true) rfl (hb hby d1_11) rfl (decide_eq_true rfl) (by decide) (by decide) k) ?_
  refine own_step (S' := (T11.setTop (mkF m 15 #[.val (.ref w_SENTENCE)] [(.int (1 : Int32))]))) (fun _ k => XS.iconst X11.here hx rfl (hb hby d1_14) k) ?_
  refine own_step (S' := (T11.setTop (mkF m 19 #[.val (.ref w_SENTENCE)] [(.int (1 : Int32))]))) (fun _ k => XS.goto X11.here hx rfl (pc0 := 15) (pc' := 19) rfl (hb hby d1_15) (by decide) (by decide) k) ?_
  refine own_retN X11 hx hlk hret (by simp) (by decide) (hb hby d1_19) (by decide) (by decide) ?_
  try rw [e11]
  exact ⟨rfl, N0, rfl⟩
set_option maxRecDepth 65536 in
set_option maxHeartbeats 40000000 in
theorem rm1_6 (l : Launch) (Z : State) (a0 : Array Value) (hw : ∀ d ∈ tables_1, d.before a0 Z = true) (ws : List Jvm.Cond) (w_LINE w_SENTENCE a : Addr)  (h0 : Heap) (n0 : Nat) (Z0 : n0 ≤ h0.size) (S_LINE : Sta Z h0 "com/example/amendtrail/amendtrail/model/WordPlace$Scope" "LINE" "Lcom/example/amendtrail/amendtrail/model/WordPlace$Scope;" (.ref w_LINE)) (S_SENTENCE : Sta Z h0 "com/example/amendtrail/amendtrail/model/WordPlace$Scope" "SENTENCE" "Lcom/example/amendtrail/amendtrail/model/WordPlace$Scope;" (.ref w_SENTENCE)) (ne_LINE : a ≠ w_LINE) (ne_SENTENCE : a ≠ w_SENTENCE) :
    own_Met l (⟨"com/example/amendtrail/amendtrail/model/WordPlace$Scope", "numbered", "()Z"⟩ : MethodName) prog_86_method_4_code 1 (some .boolean) ws ({ frames := 0, cells := 0, slots := 0, locals := 0 } : Room) Z #[(.ref a)] h0 (fun v h L => v = some (.int 0) ∧ Fr n0 L ∧ h = h0) := by
  refine own_body (plainFor_of_name pn_0) ?_
  intro p e s m below meth c s₁ X0 hx hby hml hown hnm hret hlk hZ e0
  replace hown : s.vm.findClass "com/example/amendtrail/amendtrail/model/WordPlace$Scope" = some m.cls := hown
  replace hml : c.maxLocals = 1 := hml
  replace hret : meth.sig.returnType = (some .boolean) := hret
  have N0 := Fr.nil n0
  have ef : entryFrame m #[(.ref a)] 1 = mkF m 0 #[.val (.ref a)] [] := by first | (simp [entryFrame, mkF, argsToLocals, Value.category]; done) | rfl
  refine own_step (S' := (s₁.setTop (mkF m 0 #[.val (.ref a)] []))) (fun _ k => castTop ef k) ?_
  refine own_step (S' := (s₁.setTop (mkF m 1 #[.val (.ref a)] [(.ref a)]))) (fun _ k => XS.aloadN X0.here hx rfl (hb hby d1_0) rfl rfl k) ?_
  obtain ⟨T12, X12, e12, st12⟩ := getS2 X0 hx hZ hown (host := "") (Or.inl (hw _ (List.mem_of_getElem? (i := 26) rfl))) Via.refl e0 S_LINE (g := (mkF m 1 #[.val (.ref a)] [(.ref a)])) rfl (hb hby d1_1)
  refine own_step (S' := (T12.setTop (mkF m 4 #[.val (.ref a)] [(.ref w_LINE), (.ref a)]))) (fun _ k => st12 _ k) ?_
  refine own_step (S' := (T12.setTop (mkF m 7 #[.val (.ref a)] []))) (fun _ k => Jvm.RoadKit.acmp (g := (mkF m 4 #[.val (.ref a)] [(.ref w_LINE), (.ref a)])) X12 hx rfl rfl rfl (pc0 := 4) (pc' := 7) (same := false) rfl (hb hby d1_4) rfl (decide_eq_false fun q => ne_LINE (Value.ref.inj q)) (by decide) (by decide) k) ?_
  refine own_step (S' := (T12.setTop (mkF m 8 #[.val (.ref a)] [(.ref a)]))) (fun _ k => XS.aloadN X12.here hx rfl (hb hby d1_7) rfl rfl k) ?_
  obtain ⟨T13, X13, e13, st13⟩ := getS2 X12 hx hZ hown (host := "") (Or.inl (hw _ (List.mem_of_getElem? (i := 27) rfl))) Via.refl e12 S_SENTENCE (g := (mkF m 8 #[.val (.ref a)] [(.ref a)])) rfl (hb hby d1_8)
  refine own_step (S' := (T13.setTop (mkF m 11 #[.val (.ref a)] [(.ref w_SENTENCE), (.ref a)]))) (fun _ k => st13 _ k) ?_
  refine own_step (S' := (T13.setTop (mkF m 18 #[.val (.ref a)] []))) (fun _ k => Jvm.RoadKit.acmp (g := (mkF m 11 #[.val (.ref a)] [(.ref w_SENTENCE), (.ref a)])) X13 hx rfl rfl rfl (pc0 := 11) (pc' := 18) (same := false) rfl (hb hby d1_11) rfl (decide_eq_false fun q => ne_SENTENCE (Value.ref.inj q)) (by decide) (by decide) k) ?_
  refine own_step (S' := (T13.setTop (mkF m 19 #[.val (.ref a)] [(.int (0 : Int32))]))) (fun _ k => XS.iconst X13.here hx rfl (hb hby d1_18) k) ?_
  refine own_retN X13 hx hlk hret (by simp) (by decide) (hb hby d1_19) (by decide) (by decide) ?_
  try rw [e13]
  exact ⟨rfl, N0, rfl⟩
set_option maxRecDepth 65536 in
set_option maxHeartbeats 40000000 in
theorem rm1_7 (l : Launch) (Z : State) (a0 : Array Value) (hw : ∀ d ∈ tables_1, d.before a0 Z = true) (ws : List Jvm.Cond) (w_LINE w_SENTENCE a : Addr)  (h0 : Heap) (n0 : Nat) (Z0 : n0 ≤ h0.size) (S_LINE : Sta Z h0 "com/example/amendtrail/amendtrail/model/WordPlace$Scope" "LINE" "Lcom/example/amendtrail/amendtrail/model/WordPlace$Scope;" (.ref w_LINE)) (S_SENTENCE : Sta Z h0 "com/example/amendtrail/amendtrail/model/WordPlace$Scope" "SENTENCE" "Lcom/example/amendtrail/amendtrail/model/WordPlace$Scope;" (.ref w_SENTENCE)) (ne_LINE : a ≠ w_LINE) (ne_SENTENCE : a ≠ w_SENTENCE) :
    own_Met l (⟨"com/example/amendtrail/amendtrail/model/WordPlace$Scope", "numbered", "()Z"⟩ : MethodName) prog_86_method_4_code 1 (some .boolean) ws ({ frames := 0, cells := 0, slots := 0, locals := 0 } : Room) Z #[(.ref a)] h0 (fun v h L => v = some (.int 0) ∧ Fr n0 L ∧ h = h0) := by
  refine own_body (plainFor_of_name pn_0) ?_
  intro p e s m below meth c s₁ X0 hx hby hml hown hnm hret hlk hZ e0
  replace hown : s.vm.findClass "com/example/amendtrail/amendtrail/model/WordPlace$Scope" = some m.cls := hown
  replace hml : c.maxLocals = 1 := hml
  replace hret : meth.sig.returnType = (some .boolean) := hret
  have N0 := Fr.nil n0
  have ef : entryFrame m #[(.ref a)] 1 = mkF m 0 #[.val (.ref a)] [] := by first | (simp [entryFrame, mkF, argsToLocals, Value.category]; done) | rfl
  refine own_step (S' := (s₁.setTop (mkF m 0 #[.val (.ref a)] []))) (fun _ k => castTop ef k) ?_
  refine own_step (S' := (s₁.setTop (mkF m 1 #[.val (.ref a)] [(.ref a)]))) (fun _ k => XS.aloadN X0.here hx rfl (hb hby d1_0) rfl rfl k) ?_
  obtain ⟨T14, X14, e14, st14⟩ := getS2 X0 hx hZ hown (host := "") (Or.inl (hw _ (List.mem_of_getElem? (i := 26) rfl))) Via.refl e0 S_LINE (g := (mkF m 1 #[.val (.ref a)] [(.ref a)])) rfl (hb hby d1_1)
  refine own_step (S' := (T14.setTop (mkF m 4 #[.val (.ref a)] [(.ref w_LINE), (.ref a)]))) (fun _ k => st14 _ k) ?_
  refine own_step (S' := (T14.setTop (mkF m 7 #[.val (.ref a)] []))) (fun _ k => Jvm.RoadKit.acmp (g := (mkF m 4 #[.val (.ref a)] [(.ref w_LINE), (.ref a)])) X14 hx rfl rfl rfl (pc0 := 4) (pc' := 7) (same := false) rfl (hb hby d1_4) rfl (decide_eq_false fun q => ne_LINE (Value.ref.inj q)) (by decide) (by decide) k) ?_
  refine own_step (S' := (T14.setTop (mkF m 8 #[.val (.ref a)] [(.ref a)]))) (fun _ k => XS.aloadN X14.here hx rfl (hb hby d1_7) rfl rfl k) ?_
  obtain ⟨T15, X15, e15, st15⟩ := getS2 X14 hx hZ hown (host := "") (Or.inl (hw _ (List.mem_of_getElem? (i := 27) rfl))) Via.refl e14 S_SENTENCE (g := (mkF m 8 #[.val (.ref a)] [(.ref a)])) rfl (hb hby d1_8)
  refine own_step (S' := (T15.setTop (mkF m 11 #[.val (.ref a)] [(.ref w_SENTENCE), (.ref a)]))) (fun _ k => st15 _ k) ?_
  refine own_step (S' := (T15.setTop (mkF m 18 #[.val (.ref a)] []))) (fun _ k => Jvm.RoadKit.acmp (g := (mkF m 11 #[.val (.ref a)] [(.ref w_SENTENCE), (.ref a)])) X15 hx rfl rfl rfl (pc0 := 11) (pc' := 18) (same := false) rfl (hb hby d1_11) rfl (decide_eq_false fun q => ne_SENTENCE (Value.ref.inj q)) (by decide) (by decide) k) ?_
  refine own_step (S' := (T15.setTop (mkF m 19 #[.val (.ref a)] [(.int (0 : Int32))]))) (fun _ k => XS.iconst X15.here hx rfl (hb hby d1_18) k) ?_
  refine own_retN X15 hx hlk hret (by simp) (by decide) (hb hby d1_19) (by decide) (by decide) ?_
  try rw [e15]
  exact ⟨rfl, N0, rfl⟩
theorem own_m8 (p1 : Int32) : (p1 &&& (7 : Int32)) = (0 : Int32) ∨ (p1 &&& (7 : Int32)) = (1 : Int32) ∨ (p1 &&& (7 : Int32)) = (2 : Int32) ∨ (p1 &&& (7 : Int32)) = (3 : Int32) ∨ (p1 &&& (7 : Int32)) = (4 : Int32) ∨ (p1 &&& (7 : Int32)) = (5 : Int32) ∨ (p1 &&& (7 : Int32)) = (6 : Int32) ∨ (p1 &&& (7 : Int32)) = (7 : Int32) := by
  have h1 := c_mask p1 7 3 (by decide) (by decide)
  simp only [← Int32.toInt_inj]
  have e0 : (0 : Int32).toInt = 0 := by decide
  have e1 : (1 : Int32).toInt = 1 := by decide
  have e2 : (2 : Int32).toInt = 2 := by decide
  have e3 : (3 : Int32).toInt = 3 := by decide
  have e4 : (4 : Int32).toInt = 4 := by decide
  have e5 : (5 : Int32).toInt = 5 := by decide
  have e6 : (6 : Int32).toInt = 6 := by decide
  have e7 : (7 : Int32).toInt = 7 := by decide
  rw [e0, e1, e2, e3, e4, e5, e6, e7]
  omega
theorem pn_1 : plainName "com/example/amendtrail/amendtrail/model/ScopeNumberedPinLaw" = true := by first | (simp [plainName, overriddenIn]; done) | decide +kernel
theorem pd_0 : parseMethodDescriptor "()Z" = some ⟨[], some .boolean⟩ := by decide +kernel
set_option maxRecDepth 65536 in
set_option maxHeartbeats 40000000 in
theorem rm0 (l : Launch) (Z : State) (a0 : Array Value) (hw : ∀ d ∈ tables_1, d.before a0 Z = true) (ws : List Jvm.Cond) (a_Scope_WHOLE a_Scope_EACH a_Scope_LINE a_Scope_LAST_LINE a_Scope_END a_Scope_SENTENCE a_Scope_LAST_SENTENCE a_Scope_CAPTION : Addr) (p1 : Int32) (h0 : Heap) (n0 : Nat) (Z0 : n0 ≤ h0.size) (S_Scope_WHOLE : Sta Z h0 "com/example/amendtrail/amendtrail/model/WordPlace$Scope" "WHOLE" "Lcom/example/amendtrail/amendtrail/model/WordPlace$Scope;" (.ref a_Scope_WHOLE)) (E_Scope_WHOLE : Exa Z h0 a_Scope_WHOLE "com/example/amendtrail/amendtrail/model/WordPlace$Scope") (S_Scope_EACH : Sta Z h0 "com/example/amendtrail/amendtrail/model/WordPlace$Scope" "EACH" "Lcom/example/amendtrail/amendtrail/model/WordPlace$Scope;" (.ref a_Scope_EACH)) (E_Scope_EACH : Exa Z h0 a_Scope_EACH "com/example/amendtrail/amendtrail/model/WordPlace$Scope") (S_Scope_LINE : Sta Z h0 "com/example/amendtrail/amendtrail/model/WordPlace$Scope" "LINE" "Lcom/example/amendtrail/amendtrail/model/WordPlace$Scope;" (.ref a_Scope_LINE)) (E_Scope_LINE : Exa Z h0 a_Scope_LINE "com/example/amendtrail/amendtrail/model/WordPlace$Scope") (S_Scope_LAST_LINE : Sta Z h0 "com/example/amendtrail/amendtrail/model/WordPlace$Scope" "LAST_LINE" "Lcom/example/amendtrail/amendtrail/model/WordPlace$Scope;" (.ref a_Scope_LAST_LINE)) (E_Scope_LAST_LINE : Exa Z h0 a_Scope_LAST_LINE "com/example/amendtrail/amendtrail/model/WordPlace$Scope") (S_Scope_END : Sta Z h0 "com/example/amendtrail/amendtrail/model/WordPlace$Scope" "END" "Lcom/example/amendtrail/amendtrail/model/WordPlace$Scope;" (.ref a_Scope_END)) (E_Scope_END : Exa Z h0 a_Scope_END "com/example/amendtrail/amendtrail/model/WordPlace$Scope") (S_Scope_SENTENCE : Sta Z h0 "com/example/amendtrail/amendtrail/model/WordPlace$Scope" "SENTENCE" "Lcom/example/amendtrail/amendtrail/model/WordPlace$Scope;" (.ref a_Scope_SENTENCE)) (E_Scope_SENTENCE : Exa Z h0 a_Scope_SENTENCE "com/example/amendtrail/amendtrail/model/WordPlace$Scope") (S_Scope_LAST_SENTENCE : Sta Z h0 "com/example/amendtrail/amendtrail/model/WordPlace$Scope" "LAST_SENTENCE" "Lcom/example/amendtrail/amendtrail/model/WordPlace$Scope;" (.ref a_Scope_LAST_SENTENCE)) (E_Scope_LAST_SENTENCE : Exa Z h0 a_Scope_LAST_SENTENCE "com/example/amendtrail/amendtrail/model/WordPlace$Scope") (S_Scope_CAPTION : Sta Z h0 "com/example/amendtrail/amendtrail/model/WordPlace$Scope" "CAPTION" "Lcom/example/amendtrail/amendtrail/model/WordPlace$Scope;" (.ref a_Scope_CAPTION)) (E_Scope_CAPTION : Exa Z h0 a_Scope_CAPTION "com/example/amendtrail/amendtrail/model/WordPlace$Scope") (F_Scope_WHOLE_ordinal : Fld Z h0 a_Scope_WHOLE "java/lang/Enum" "ordinal" "I" (.int (0 : Int32))) (F_Scope_LINE_ordinal : Fld Z h0 a_Scope_LINE "java/lang/Enum" "ordinal" "I" (.int (2 : Int32))) (F_Scope_SENTENCE_ordinal : Fld Z h0 a_Scope_SENTENCE "java/lang/Enum" "ordinal" "I" (.int (5 : Int32))) (F_Scope_LAST_LINE_ordinal : Fld Z h0 a_Scope_LAST_LINE "java/lang/Enum" "ordinal" "I" (.int (3 : Int32))) (F_Scope_LAST_SENTENCE_ordinal : Fld Z h0 a_Scope_LAST_SENTENCE "java/lang/Enum" "ordinal" "I" (.int (6 : Int32))) (F_Scope_CAPTION_ordinal : Fld Z h0 a_Scope_CAPTION "java/lang/Enum" "ordinal" "I" (.int (7 : Int32))) (F_Scope_EACH_ordinal : Fld Z h0 a_Scope_EACH "java/lang/Enum" "ordinal" "I" (.int (1 : Int32))) (F_Scope_END_ordinal : Fld Z h0 a_Scope_END "java/lang/Enum" "ordinal" "I" (.int (4 : Int32))) :
    own_Met l x code maxLocals ret ws room_1 Z #[(.int p1)] h0 (fun v h L => v = some (.int 1) ∧ Fr n0 L) := by
  refine own_body (plainFor_of_name pn_1) ?_
  intro p e s m below meth c s₁ X0 hx hby hml hown hnm hret hlk hZ e0
  replace hown : s.vm.findClass "com/example/amendtrail/amendtrail/model/ScopeNumberedPinLaw" = some m.cls := hown
  replace hml : c.maxLocals = 4 := hml
  replace hret : meth.sig.returnType = (some .boolean) := hret
  have N0 := Fr.nil n0
  have ef : entryFrame m #[(.int p1)] maxLocals = mkF m 0 #[.val (.int p1), .unset, .unset, .unset] [] := by first | (simp [entryFrame, mkF, argsToLocals, Value.category, maxLocals]; done) | rfl
  refine own_step (S' := (s₁.setTop (mkF m 0 #[.val (.int p1), .unset, .unset, .unset] []))) (fun _ k => castTop ef k) ?_
  refine own_step (S' := (s₁.setTop (mkF m 2 #[.val (.int p1), .unset, .unset, .unset] [(.int (8 : Int32))]))) (fun _ k => XS.bipush X0.here hx rfl (hb hby at_0) k) ?_
  obtain ⟨T16, h16, k16, X16, e16, E16, A16, Ex16, O16, st16⟩ := newRE X0 hx hZ hown (hw _ (List.mem_of_getElem? (i := 0) rfl)) (hw _ (List.mem_of_getElem? (i := 1) rfl)) e0 (g := (mkF m 2 #[.val (.int p1), .unset, .unset, .unset] [(.int (8 : Int32))])) rfl (hb hby at_2) rfl (by decide) (cap := 8) (by decide) (by decide) (by decide) (by decide) (ad := "[Lcom/example/amendtrail/amendtrail/model/WordPlace$Scope;") (by decide)
  obtain ⟨b16, g16⟩ : ∃ z, z = h0.size := ⟨_, rfl⟩
  rw [← g16] at A16 Ex16 st16
  have g_b16 : n0 ≤ b16 := Nat.le_trans Z0 (Nat.le_of_eq g16.symm)
  have szo_b16 : h0.size ≤ b16 := Nat.le_trans (Nat.le_refl h0.size) (Nat.le_of_eq g16.symm)
  have V16 : Arv Z h16 b16 k16 (.object "com/example/amendtrail/amendtrail/model/WordPlace$Scope") (8 : Int32) [.null, .null, .null, .null, .null, .null, .null, .null] .null := (Arv.new A16 (by decide)).pad (pad_rep [] .null 8)
  refine own_step (S' := (T16.setTop (mkF m 5 #[.val (.int p1), .unset, .unset, .unset] [(.ref b16)]))) (fun _ k => st16 _ k) ?_
  refine own_step (S' := (T16.setTop (mkF m 6 #[.val (.int p1), .unset, .unset, .unset] [(.ref b16), (.ref b16)]))) (fun _ k => XS.dup X16.here hx rfl (hb hby at_5) rfl rfl k) ?_
  refine own_step (S' := (T16.setTop (mkF m 7 #[.val (.int p1), .unset, .unset, .unset] [(.int (0 : Int32)), (.ref b16), (.ref b16)]))) (fun _ k => XS.iconst X16.here hx rfl (hb hby at_6) k) ?_
  obtain ⟨T17, X17, e17, st17⟩ := getS2 X16 hx hZ hown (host := "") (Or.inl (hw _ (List.mem_of_getElem? (i := 2) rfl))) Via.refl e16 (Sta.ext E16 S_Scope_WHOLE) (g := (mkF m 7 #[.val (.int p1), .unset, .unset, .unset] [(.int (0 : Int32)), (.ref b16), (.ref b16)])) rfl (hb hby at_7)
  refine own_step (S' := (T17.setTop (mkF m 10 #[.val (.int p1), .unset, .unset, .unset] [(.ref a_Scope_WHOLE), (.int (0 : Int32)), (.ref b16), (.ref b16)]))) (fun _ k => st17 _ k) ?_
  obtain ⟨cl18, Ar18, q18, S18, Nn18, H18, G18⟩ := V16
  have hin18 : ¬ ((0 : Int32) < 0 ∨ cl18.slots.size ≤ ((0 : Int32)).toNatClampNeg) := inb_of S18 ⟨by decide, by decide⟩
  obtain ⟨T18, h18, X18, e18, W18, st18⟩ := stR X17 hx hZ e17 Ar18 (j := (0 : Int32)) hin18 rfl (Sto.ofV Ar18 q18 O16 (Ins.self (Exa.ext E16 E_Scope_WHOLE))) (g := (mkF m 10 #[.val (.int p1), .unset, .unset, .unset] [(.ref a_Scope_WHOLE), (.int (0 : Int32)), (.ref b16), (.ref b16)])) rfl rfl (hb hby at_10)
  have V18 : Arv Z h18 b16 k16 (.object "com/example/amendtrail/amendtrail/model/WordPlace$Scope") (8 : Int32) [(.ref a_Scope_WHOLE), .null, .null, .null, .null, .null, .null, .null] .null := Arv.set Ar18 q18 S18 Nn18 H18 G18 rfl W18 0 rfl (Nat.le_of_ble_eq_true rfl)
  have N18 := Fr.snoc X18 N0 g_b16
  refine own_step (S' := (T18.setTop (mkF m 11 #[.val (.int p1), .unset, .unset, .unset] [(.ref b16)]))) (fun _ k => st18 _ k) ?_
  refine own_step (S' := (T18.setTop (mkF m 12 #[.val (.int p1), .unset, .unset, .unset] [(.ref b16), (.ref b16)]))) (fun _ k => XS.dup X18.here hx rfl (hb hby at_11) rfl rfl k) ?_
  refine own_step (S' := (T18.setTop (mkF m 13 #[.val (.int p1), .unset, .unset, .unset] [(.int (1 : Int32)), (.ref b16), (.ref b16)]))) (fun _ k => XS.iconst X18.here hx rfl (hb hby at_12) k) ?_
  obtain ⟨T19, X19, e19, st19⟩ := getS2 X18 hx hZ hown (host := "") (Or.inl (hw _ (List.mem_of_getElem? (i := 6) rfl))) Via.refl e18 (Sta.wr W18 (Sta.ext E16 S_Scope_EACH)) (g := (mkF m 13 #[.val (.int p1), .unset, .unset, .unset] [(.int (1 : Int32)), (.ref b16), (.ref b16)])) rfl (hb hby at_13)
  refine own_step (S' := (T19.setTop (mkF m 16 #[.val (.int p1), .unset, .unset, .unset] [(.ref a_Scope_EACH), (.int (1 : Int32)), (.ref b16), (.ref b16)]))) (fun _ k => st19 _ k) ?_
  obtain ⟨cl20, Ar20, q20, S20, Nn20, H20, G20⟩ := V18
  have hin20 : ¬ ((1 : Int32) < 0 ∨ cl20.slots.size ≤ ((1 : Int32)).toNatClampNeg) := inb_of S20 ⟨by decide, by decide⟩
  obtain ⟨T20, h20, X20, e20, W20, st20⟩ := stR X19 hx hZ e19 Ar20 (j := (1 : Int32)) hin20 rfl (Sto.ofV Ar20 q20 O16 (Ins.self (Exa.wr W18 (Exa.ext E16 E_Scope_EACH)))) (g := (mkF m 16 #[.val (.int p1), .unset, .unset, .unset] [(.ref a_Scope_EACH), (.int (1 : Int32)), (.ref b16), (.ref b16)])) rfl rfl (hb hby at_16)
  have V20 : Arv Z h20 b16 k16 (.object "com/example/amendtrail/amendtrail/model/WordPlace$Scope") (8 : Int32) [(.ref a_Scope_WHOLE), (.ref a_Scope_EACH), .null, .null, .null, .null, .null, .null] .null := Arv.set Ar20 q20 S20 Nn20 H20 G20 rfl W20 1 rfl (Nat.le_of_ble_eq_true rfl)
  have N20 := Fr.snoc X20 N18 g_b16
  refine own_step (S' := (T20.setTop (mkF m 17 #[.val (.int p1), .unset, .unset, .unset] [(.ref b16)]))) (fun _ k => st20 _ k) ?_
  refine own_step (S' := (T20.setTop (mkF m 18 #[.val (.int p1), .unset, .unset, .unset] [(.ref b16), (.ref b16)]))) (fun _ k => XS.dup X20.here hx rfl (hb hby at_17) rfl rfl k) ?_
  refine own_step (S' := (T20.setTop (mkF m 19 #[.val (.int p1), .unset, .unset, .unset] [(.int (2 : Int32)), (.ref b16), (.ref b16)]))) (fun _ k => XS.iconst X20.here hx rfl (hb hby at_18) k) ?_
  obtain ⟨T21, X21, e21, st21⟩ := getS2 X20 hx hZ hown (host := "") (Or.inl (hw _ (List.mem_of_getElem? (i := 8) rfl))) Via.refl e20 (Sta.wr W20 (Sta.wr W18 (Sta.ext E16 S_Scope_LINE))) (g := (mkF m 19 #[.val (.int p1), .unset, .unset, .unset] [(.int (2 : Int32)), (.ref b16), (.ref b16)])) rfl (hb hby at_19)
  refine own_step (S' := (T21.setTop (mkF m 22 #[.val (.int p1), .unset, .unset, .unset] [(.ref a_Scope_LINE), (.int (2 : Int32)), (.ref b16), (.ref b16)]))) (fun _ k => st21 _ k) ?_
  obtain ⟨cl22, Ar22, q22, S22, Nn22, H22, G22⟩ := V20
  have hin22 : ¬ ((2 : Int32) < 0 ∨ cl22.slots.size ≤ ((2 : Int32)).toNatClampNeg) := inb_of S22 ⟨by decide, by decide⟩
  obtain ⟨T22, h22, X22, e22, W22, st22⟩ := stR X21 hx hZ e21 Ar22 (j := (2 : Int32)) hin22 rfl (Sto.ofV Ar22 q22 O16 (Ins.self (Exa.wr W20 (Exa.wr W18 (Exa.ext E16 E_Scope_LINE))))) (g := (mkF m 22 #[.val (.int p1), .unset, .unset, .unset] [(.ref a_Scope_LINE), (.int (2 : Int32)), (.ref b16), (.ref b16)])) rfl rfl (hb hby at_22)
  have V22 : Arv Z h22 b16 k16 (.object "com/example/amendtrail/amendtrail/model/WordPlace$Scope") (8 : Int32) [(.ref a_Scope_WHOLE), (.ref a_Scope_EACH), (.ref a_Scope_LINE), .null, .null, .null, .null, .null] .null := Arv.set Ar22 q22 S22 Nn22 H22 G22 rfl W22 2 rfl (Nat.le_of_ble_eq_true rfl)
  have N22 := Fr.snoc X22 N20 g_b16
  refine own_step (S' := (T22.setTop (mkF m 23 #[.val (.int p1), .unset, .unset, .unset] [(.ref b16)]))) (fun _ k => st22 _ k) ?_
  refine own_step (S' := (T22.setTop (mkF m 24 #[.val (.int p1), .unset, .unset, .unset] [(.ref b16), (.ref b16)]))) (fun _ k => XS.dup X22.here hx rfl (hb hby at_23) rfl rfl k) ?_
  refine own_step (S' := (T22.setTop (mkF m 25 #[.val (.int p1), .unset, .unset, .unset] [(.int (3 : Int32)), (.ref b16), (.ref b16)]))) (fun _ k => XS.iconst X22.here hx rfl (hb hby at_24) k) ?_
  obtain ⟨T23, X23, e23, st23⟩ := getS2 X22 hx hZ hown (host := "") (Or.inl (hw _ (List.mem_of_getElem? (i := 10) rfl))) Via.refl e22 (Sta.wr W22 (Sta.wr W20 (Sta.wr W18 (Sta.ext E16 S_Scope_LAST_LINE)))) (g := (mkF m 25 #[.val (.int p1), .unset, .unset, .unset] [(.int (3 : Int32)), (.ref b16), (.ref b16)])) rfl (hb hby at_25)
  refine own_step (S' := (T23.setTop (mkF m 28 #[.val (.int p1), .unset, .unset, .unset] [(.ref a_Scope_LAST_LINE), (.int (3 : Int32)), (.ref b16), (.ref b16)]))) (fun _ k => st23 _ k) ?_
  obtain ⟨cl24, Ar24, q24, S24, Nn24, H24, G24⟩ := V22
  have hin24 : ¬ ((3 : Int32) < 0 ∨ cl24.slots.size ≤ ((3 : Int32)).toNatClampNeg) := inb_of S24 ⟨by decide, by decide⟩
  obtain ⟨T24, h24, X24, e24, W24, st24⟩ := stR X23 hx hZ e23 Ar24 (j := (3 : Int32)) hin24 rfl (Sto.ofV Ar24 q24 O16 (Ins.self (Exa.wr W22 (Exa.wr W20 (Exa.wr W18 (Exa.ext E16 E_Scope_LAST_LINE)))))) (g := (mkF m 28 #[.val (.int p1), .unset, .unset, .unset] [(.ref a_Scope_LAST_LINE), (.int (3 : Int32)), (.ref b16), (.ref b16)])) rfl rfl (hb hby at_28)
  have V24 : Arv Z h24 b16 k16 (.object "com/example/amendtrail/amendtrail/model/WordPlace$Scope") (8 : Int32) [(.ref a_Scope_WHOLE), (.ref a_Scope_EACH), (.ref a_Scope_LINE), (.ref a_Scope_LAST_LINE), .null, .null, .null, .null] .null := Arv.set Ar24 q24 S24 Nn24 H24 G24 rfl W24 3 rfl (Nat.le_of_ble_eq_true rfl)
  have N24 := Fr.snoc X24 N22 g_b16
  refine own_step (S' := (T24.setTop (mkF m 29 #[.val (.int p1), .unset, .unset, .unset] [(.ref b16)]))) (fun _ k => st24 _ k) ?_
  refine own_step (S' := (T24.setTop (mkF m 30 #[.val (.int p1), .unset, .unset, .unset] [(.ref b16), (.ref b16)]))) (fun _ k => XS.dup X24.here hx rfl (hb hby at_29) rfl rfl k) ?_
  refine own_step (S' := (T24.setTop (mkF m 31 #[.val (.int p1), .unset, .unset, .unset] [(.int (4 : Int32)), (.ref b16), (.ref b16)]))) (fun _ k => XS.iconst X24.here hx rfl (hb hby at_30) k) ?_
  obtain ⟨T25, X25, e25, st25⟩ := getS2 X24 hx hZ hown (host := "") (Or.inl (hw _ (List.mem_of_getElem? (i := 12) rfl))) Via.refl e24 (Sta.wr W24 (Sta.wr W22 (Sta.wr W20 (Sta.wr W18 (Sta.ext E16 S_Scope_END))))) (g := (mkF m 31 #[.val (.int p1), .unset, .unset, .unset] [(.int (4 : Int32)), (.ref b16), (.ref b16)])) rfl (hb hby at_31)
  refine own_step (S' := (T25.setTop (mkF m 34 #[.val (.int p1), .unset, .unset, .unset] [(.ref a_Scope_END), (.int (4 : Int32)), (.ref b16), (.ref b16)]))) (fun _ k => st25 _ k) ?_
  obtain ⟨cl26, Ar26, q26, S26, Nn26, H26, G26⟩ := V24
  have hin26 : ¬ ((4 : Int32) < 0 ∨ cl26.slots.size ≤ ((4 : Int32)).toNatClampNeg) := inb_of S26 ⟨by decide, by decide⟩
  obtain ⟨T26, h26, X26, e26, W26, st26⟩ := stR X25 hx hZ e25 Ar26 (j := (4 : Int32)) hin26 rfl (Sto.ofV Ar26 q26 O16 (Ins.self (Exa.wr W24 (Exa.wr W22 (Exa.wr W20 (Exa.wr W18 (Exa.ext E16 E_Scope_END))))))) (g := (mkF m 34 #[.val (.int p1), .unset, .unset, .unset] [(.ref a_Scope_END), (.int (4 : Int32)), (.ref b16), (.ref b16)])) rfl rfl (hb hby at_34)
  have V26 : Arv Z h26 b16 k16 (.object "com/example/amendtrail/amendtrail/model/WordPlace$Scope") (8 : Int32) [(.ref a_Scope_WHOLE), (.ref a_Scope_EACH), (.ref a_Scope_LINE), (.ref a_Scope_LAST_LINE), (.ref a_Scope_END), .null, .null, .null] .null := Arv.set Ar26 q26 S26 Nn26 H26 G26 rfl W26 4 rfl (Nat.le_of_ble_eq_true rfl)
  have N26 := Fr.snoc X26 N24 g_b16
  refine own_step (S' := (T26.setTop (mkF m 35 #[.val (.int p1), .unset, .unset, .unset] [(.ref b16)]))) (fun _ k => st26 _ k) ?_
  refine own_step (S' := (T26.setTop (mkF m 36 #[.val (.int p1), .unset, .unset, .unset] [(.ref b16), (.ref b16)]))) (fun _ k => XS.dup X26.here hx rfl (hb hby at_35) rfl rfl k) ?_
  refine own_step (S' := (T26.setTop (mkF m 37 #[.val (.int p1), .unset, .unset, .unset] [(.int (5 : Int32)), (.ref b16), (.ref b16)]))) (fun _ k => XS.iconst X26.here hx rfl (hb hby at_36) k) ?_
  obtain ⟨T27, X27, e27, st27⟩ := getS2 X26 hx hZ hown (host := "") (Or.inl (hw _ (List.mem_of_getElem? (i := 14) rfl))) Via.refl e26 (Sta.wr W26 (Sta.wr W24 (Sta.wr W22 (Sta.wr W20 (Sta.wr W18 (Sta.ext E16 S_Scope_SENTENCE)))))) (g := (mkF m 37 #[.val (.int p1), .unset, .unset, .unset] [(.int (5 : Int32)), (.ref b16), (.ref b16)])) rfl (hb hby at_37)
  refine own_step (S' := (T27.setTop (mkF m 40 #[.val (.int p1), .unset, .unset, .unset] [(.ref a_Scope_SENTENCE), (.int (5 : Int32)), (.ref b16), (.ref b16)]))) (fun _ k => st27 _ k) ?_
  obtain ⟨cl28, Ar28, q28, S28, Nn28, H28, G28⟩ := V26
  have hin28 : ¬ ((5 : Int32) < 0 ∨ cl28.slots.size ≤ ((5 : Int32)).toNatClampNeg) := inb_of S28 ⟨by decide, by decide⟩
  obtain ⟨T28, h28, X28, e28, W28, st28⟩ := stR X27 hx hZ e27 Ar28 (j := (5 : Int32)) hin28 rfl (Sto.ofV Ar28 q28 O16 (Ins.self (Exa.wr W26 (Exa.wr W24 (Exa.wr W22 (Exa.wr W20 (Exa.wr W18 (Exa.ext E16 E_Scope_SENTENCE)))))))) (g := (mkF m 40 #[.val (.int p1), .unset, .unset, .unset] [(.ref a_Scope_SENTENCE), (.int (5 : Int32)), (.ref b16), (.ref b16)])) rfl rfl (hb hby at_40)
  have V28 : Arv Z h28 b16 k16 (.object "com/example/amendtrail/amendtrail/model/WordPlace$Scope") (8 : Int32) [(.ref a_Scope_WHOLE), (.ref a_Scope_EACH), (.ref a_Scope_LINE), (.ref a_Scope_LAST_LINE), (.ref a_Scope_END), (.ref a_Scope_SENTENCE), .null, .null] .null := Arv.set Ar28 q28 S28 Nn28 H28 G28 rfl W28 5 rfl (Nat.le_of_ble_eq_true rfl)
  have N28 := Fr.snoc X28 N26 g_b16
  refine own_step (S' := (T28.setTop (mkF m 41 #[.val (.int p1), .unset, .unset, .unset] [(.ref b16)]))) (fun _ k => st28 _ k) ?_
  refine own_step (S' := (T28.setTop (mkF m 42 #[.val (.int p1), .unset, .unset, .unset] [(.ref b16), (.ref b16)]))) (fun _ k => XS.dup X28.here hx rfl (hb hby at_41) rfl rfl k) ?_
  refine own_step (S' := (T28.setTop (mkF m 44 #[.val (.int p1), .unset, .unset, .unset] [(.int (6 : Int32)), (.ref b16), (.ref b16)]))) (fun _ k => XS.bipush X28.here hx rfl (hb hby at_42) k) ?_
  obtain ⟨T29, X29, e29, st29⟩ := getS2 X28 hx hZ hown (host := "") (Or.inl (hw _ (List.mem_of_getElem? (i := 16) rfl))) Via.refl e28 (Sta.wr W28 (Sta.wr W26 (Sta.wr W24 (Sta.wr W22 (Sta.wr W20 (Sta.wr W18 (Sta.ext E16 S_Scope_LAST_SENTENCE))))))) (g := (mkF m 44 #[.val (.int p1), .unset, .unset, .unset] [(.int (6 : Int32)), (.ref b16), (.ref b16)])) rfl (hb hby at_44)
  refine own_step (S' := (T29.setTop (mkF m 47 #[.val (.int p1), .unset, .unset, .unset] [(.ref a_Scope_LAST_SENTENCE), (.int (6 : Int32)), (.ref b16), (.ref b16)]))) (fun _ k => st29 _ k) ?_
  obtain ⟨cl30, Ar30, q30, S30, Nn30, H30, G30⟩ := V28
  have hin30 : ¬ ((6 : Int32) < 0 ∨ cl30.slots.size ≤ ((6 : Int32)).toNatClampNeg) := inb_of S30 ⟨by decide, by decide⟩
  obtain ⟨T30, h30, X30, e30, W30, st30⟩ := stR X29 hx hZ e29 Ar30 (j := (6 : Int32)) hin30 rfl (Sto.ofV Ar30 q30 O16 (Ins.self (Exa.wr W28 (Exa.wr W26 (Exa.wr W24 (Exa.wr W22 (Exa.wr W20 (Exa.wr W18 (Exa.ext E16 E_Scope_LAST_SENTENCE))))))))) (g := (mkF m 47 #[.val (.int p1), .unset, .unset, .unset] [(.ref a_Scope_LAST_SENTENCE), (.int (6 : Int32)), (.ref b16), (.ref b16)])) rfl rfl (hb hby at_47)
  have V30 : Arv Z h30 b16 k16 (.object "com/example/amendtrail/amendtrail/model/WordPlace$Scope") (8 : Int32) [(.ref a_Scope_WHOLE), (.ref a_Scope_EACH), (.ref a_Scope_LINE), (.ref a_Scope_LAST_LINE), (.ref a_Scope_END), (.ref a_Scope_SENTENCE), (.ref a_Scope_LAST_SENTENCE), .null] .null := Arv.set Ar30 q30 S30 Nn30 H30 G30 rfl W30 6 rfl (Nat.le_of_ble_eq_true rfl)
  have N30 := Fr.snoc X30 N28 g_b16
  refine own_step (S' := (T30.setTop (mkF m 48 #[.val (.int p1), .unset, .unset, .unset] [(.ref b16)]))) (fun _ k => st30 _ k) ?_
  refine own_step (S' := (T30.setTop (mkF m 49 #[.val (.int p1), .unset, .unset, .unset] [(.ref b16), (.ref b16)]))) (fun _ k => XS.dup X30.here hx rfl (hb hby at_48) rfl rfl k) ?_
  refine own_step (S' := (T30.setTop (mkF m 51 #[.val (.int p1), .unset, .unset, .unset] [(.int (7 : Int32)), (.ref b16), (.ref b16)]))) (fun _ k => XS.bipush X30.here hx rfl (hb hby at_49) k) ?_
  obtain ⟨T31, X31, e31, st31⟩ := getS2 X30 hx hZ hown (host := "") (Or.inl (hw _ (List.mem_of_getElem? (i := 18) rfl))) Via.refl e30 (Sta.wr W30 (Sta.wr W28 (Sta.wr W26 (Sta.wr W24 (Sta.wr W22 (Sta.wr W20 (Sta.wr W18 (Sta.ext E16 S_Scope_CAPTION)))))))) (g := (mkF m 51 #[.val (.int p1), .unset, .unset, .unset] [(.int (7 : Int32)), (.ref b16), (.ref b16)])) rfl (hb hby at_51)
  refine own_step (S' := (T31.setTop (mkF m 54 #[.val (.int p1), .unset, .unset, .unset] [(.ref a_Scope_CAPTION), (.int (7 : Int32)), (.ref b16), (.ref b16)]))) (fun _ k => st31 _ k) ?_
  obtain ⟨cl32, Ar32, q32, S32, Nn32, H32, G32⟩ := V30
  have hin32 : ¬ ((7 : Int32) < 0 ∨ cl32.slots.size ≤ ((7 : Int32)).toNatClampNeg) := inb_of S32 ⟨by decide, by decide⟩
  obtain ⟨T32, h32, X32, e32, W32, st32⟩ := stR X31 hx hZ e31 Ar32 (j := (7 : Int32)) hin32 rfl (Sto.ofV Ar32 q32 O16 (Ins.self (Exa.wr W30 (Exa.wr W28 (Exa.wr W26 (Exa.wr W24 (Exa.wr W22 (Exa.wr W20 (Exa.wr W18 (Exa.ext E16 E_Scope_CAPTION)))))))))) (g := (mkF m 54 #[.val (.int p1), .unset, .unset, .unset] [(.ref a_Scope_CAPTION), (.int (7 : Int32)), (.ref b16), (.ref b16)])) rfl rfl (hb hby at_54)
  have V32 : Arv Z h32 b16 k16 (.object "com/example/amendtrail/amendtrail/model/WordPlace$Scope") (8 : Int32) [(.ref a_Scope_WHOLE), (.ref a_Scope_EACH), (.ref a_Scope_LINE), (.ref a_Scope_LAST_LINE), (.ref a_Scope_END), (.ref a_Scope_SENTENCE), (.ref a_Scope_LAST_SENTENCE), (.ref a_Scope_CAPTION)] .null := Arv.set Ar32 q32 S32 Nn32 H32 G32 rfl W32 7 rfl (Nat.le_of_ble_eq_true rfl)
  have N32 := Fr.snoc X32 N30 g_b16
  refine own_step (S' := (T32.setTop (mkF m 55 #[.val (.int p1), .unset, .unset, .unset] [(.ref b16)]))) (fun _ k => st32 _ k) ?_
  refine own_step (S' := (T32.setTop (mkF m 56 #[.val (.int p1), .val (.ref b16), .unset, .unset] []))) (fun _ k => XS.astoreN X32.here hx rfl (hb hby at_55) rfl rfl (l' := #[.val (.int p1), .val (.ref b16), .unset, .unset]) rfl k) ?_
  refine own_step (S' := (T32.setTop (mkF m 58 #[.val (.int p1), .val (.ref b16), .unset, .unset] [(.int (8 : Int32))]))) (fun _ k => XS.bipush X32.here hx rfl (hb hby at_56) k) ?_
  obtain ⟨T33, h33, k33, X33, e33, E33, A33, Ex33, st33⟩ := newPE X32 hx hZ (hw _ (List.mem_of_getElem? (i := 20) rfl)) e32 (g := (mkF m 58 #[.val (.int p1), .val (.ref b16), .unset, .unset] [(.int (8 : Int32))])) rfl (hb hby at_58) rfl (by decide) (cap := 8) (by decide) (by decide) (by decide) (by decide) (ad := "[Z") (by decide)
  obtain ⟨b33, g33⟩ : ∃ z, z = h32.size := ⟨_, rfl⟩
  rw [← g33] at A33 Ex33 st33
  have g_b33 : n0 ≤ b33 := Nat.le_trans (Nat.le_trans (Nat.le_trans (Nat.le_trans (Nat.le_trans (Nat.le_trans (Nat.le_trans (Nat.le_trans (Nat.le_trans (Nat.le_trans Z0 E16.1) (Keep.of_wr W18).1) (Keep.of_wr W20).1) (Keep.of_wr W22).1) (Keep.of_wr W24).1) (Keep.of_wr W26).1) (Keep.of_wr W28).1) (Keep.of_wr W30).1) (Keep.of_wr W32).1) (Nat.le_of_eq g33.symm)
  have szo_b33 : h0.size ≤ b33 := Nat.le_trans (Nat.le_trans (Nat.le_trans (Nat.le_trans (Nat.le_trans (Nat.le_trans (Nat.le_trans (Nat.le_trans (Nat.le_trans (Nat.le_trans (Nat.le_refl h0.size) E16.1) (Keep.of_wr W18).1) (Keep.of_wr W20).1) (Keep.of_wr W22).1) (Keep.of_wr W24).1) (Keep.of_wr W26).1) (Keep.of_wr W28).1) (Keep.of_wr W30).1) (Keep.of_wr W32).1) (Nat.le_of_eq g33.symm)
  have V33 : Arv Z h33 b33 k33 .boolean (8 : Int32) [(.int (0 : Int32)), (.int (0 : Int32)), (.int (0 : Int32)), (.int (0 : Int32)), (.int (0 : Int32)), (.int (0 : Int32)), (.int (0 : Int32)), (.int (0 : Int32))] (.int (0 : Int32)) := (Arv.new A33 (by decide)).pad (pad_rep [] (.int (0 : Int32)) 8)
  refine own_step (S' := (T33.setTop (mkF m 60 #[.val (.int p1), .val (.ref b16), .unset, .unset] [(.ref b33)]))) (fun _ k => st33 _ k) ?_
  refine own_step (S' := (T33.setTop (mkF m 61 #[.val (.int p1), .val (.ref b16), .unset, .unset] [(.ref b33), (.ref b33)]))) (fun _ k => XS.dup X33.here hx rfl (hb hby at_60) rfl rfl k) ?_
  refine own_step (S' := (T33.setTop (mkF m 62 #[.val (.int p1), .val (.ref b16), .unset, .unset] [(.int (0 : Int32)), (.ref b33), (.ref b33)]))) (fun _ k => XS.iconst X33.here hx rfl (hb hby at_61) k) ?_
  refine own_step (S' := (T33.setTop (mkF m 63 #[.val (.int p1), .val (.ref b16), .unset, .unset] [(.int (0 : Int32)), (.int (0 : Int32)), (.ref b33), (.ref b33)]))) (fun _ k => XS.iconst X33.here hx rfl (hb hby at_62) k) ?_
  obtain ⟨cl34, Ar34, q34, S34, Nn34, H34, G34⟩ := V33
  have hin34 : ¬ ((0 : Int32) < 0 ∨ cl34.slots.size ≤ ((0 : Int32)).toNatClampNeg) := inb_of S34 ⟨by decide, by decide⟩
  obtain ⟨T34, h34, X34, e34, W34, st34⟩ := stZ X33 hx hZ e33 Ar34 (j := (0 : Int32)) hin34 (g := (mkF m 63 #[.val (.int p1), .val (.ref b16), .unset, .unset] [(.int (0 : Int32)), (.int (0 : Int32)), (.ref b33), (.ref b33)])) rfl rfl (hb hby at_63)
  have V34 : Arv Z h34 b33 k33 .boolean (8 : Int32) [(.int (0 : Int32)), (.int (0 : Int32)), (.int (0 : Int32)), (.int (0 : Int32)), (.int (0 : Int32)), (.int (0 : Int32)), (.int (0 : Int32)), (.int (0 : Int32))] (.int (0 : Int32)) := Arv.set Ar34 q34 S34 Nn34 H34 G34 (fits_nar_bool _) W34 0 rfl (Nat.le_of_ble_eq_true rfl)
  have N34 := Fr.snoc X34 N32 g_b33
  refine own_step (S' := (T34.setTop (mkF m 64 #[.val (.int p1), .val (.ref b16), .unset, .unset] [(.ref b33)]))) (fun _ k => st34 _ k) ?_
  refine own_step (S' := (T34.setTop (mkF m 65 #[.val (.int p1), .val (.ref b16), .unset, .unset] [(.ref b33), (.ref b33)]))) (fun _ k => XS.dup X34.here hx rfl (hb hby at_64) rfl rfl k) ?_
  refine own_step (S' := (T34.setTop (mkF m 66 #[.val (.int p1), .val (.ref b16), .unset, .unset] [(.int (1 : Int32)), (.ref b33), (.ref b33)]))) (fun _ k => XS.iconst X34.here hx rfl (hb hby at_65) k) ?_
  refine own_step (S' := (T34.setTop (mkF m 67 #[.val (.int p1), .val (.ref b16), .unset, .unset] [(.int (0 : Int32)), (.int (1 : Int32)), (.ref b33), (.ref b33)]))) (fun _ k => XS.iconst X34.here hx rfl (hb hby at_66) k) ?_
  obtain ⟨cl35, Ar35, q35, S35, Nn35, H35, G35⟩ := V34
  have hin35 : ¬ ((1 : Int32) < 0 ∨ cl35.slots.size ≤ ((1 : Int32)).toNatClampNeg) := inb_of S35 ⟨by decide, by decide⟩
  obtain ⟨T35, h35, X35, e35, W35, st35⟩ := stZ X34 hx hZ e34 Ar35 (j := (1 : Int32)) hin35 (g := (mkF m 67 #[.val (.int p1), .val (.ref b16), .unset, .unset] [(.int (0 : Int32)), (.int (1 : Int32)), (.ref b33), (.ref b33)])) rfl rfl (hb hby at_67)
  have V35 : Arv Z h35 b33 k33 .boolean (8 : Int32) [(.int (0 : Int32)), (.int (0 : Int32)), (.int (0 : Int32)), (.int (0 : Int32)), (.int (0 : Int32)), (.int (0 : Int32)), (.int (0 : Int32)), (.int (0 : Int32))] (.int (0 : Int32)) := Arv.set Ar35 q35 S35 Nn35 H35 G35 (fits_nar_bool _) W35 1 rfl (Nat.le_of_ble_eq_true rfl)
  have N35 := Fr.snoc X35 N34 g_b33
  refine own_step (S' := (T35.setTop (mkF m 68 #[.val (.int p1), .val (.ref b16), .unset, .unset] [(.ref b33)]))) (fun _ k => st35 _ k) ?_
  refine own_step (S' := (T35.setTop (mkF m 69 #[.val (.int p1), .val (.ref b16), .unset, .unset] [(.ref b33), (.ref b33)]))) (fun _ k => XS.dup X35.here hx rfl (hb hby at_68) rfl rfl k) ?_
  refine own_step (S' := (T35.setTop (mkF m 70 #[.val (.int p1), .val (.ref b16), .unset, .unset] [(.int (2 : Int32)), (.ref b33), (.ref b33)]))) (fun _ k => XS.iconst X35.here hx rfl (hb hby at_69) k) ?_
  refine own_step (S' := (T35.setTop (mkF m 71 #[.val (.int p1), .val (.ref b16), .unset, .unset] [(.int (1 : Int32)), (.int (2 : Int32)), (.ref b33), (.ref b33)]))) (fun _ k => XS.iconst X35.here hx rfl (hb hby at_70) k) ?_
  obtain ⟨cl36, Ar36, q36, S36, Nn36, H36, G36⟩ := V35
  have hin36 : ¬ ((2 : Int32) < 0 ∨ cl36.slots.size ≤ ((2 : Int32)).toNatClampNeg) := inb_of S36 ⟨by decide, by decide⟩
  obtain ⟨T36, h36, X36, e36, W36, st36⟩ := stZ X35 hx hZ e35 Ar36 (j := (2 : Int32)) hin36 (g := (mkF m 71 #[.val (.int p1), .val (.ref b16), .unset, .unset] [(.int (1 : Int32)), (.int (2 : Int32)), (.ref b33), (.ref b33)])) rfl rfl (hb hby at_71)
  have V36 : Arv Z h36 b33 k33 .boolean (8 : Int32) [(.int (0 : Int32)), (.int (0 : Int32)), (.int (1 : Int32)), (.int (0 : Int32)), (.int (0 : Int32)), (.int (0 : Int32)), (.int (0 : Int32)), (.int (0 : Int32))] (.int (0 : Int32)) := Arv.set Ar36 q36 S36 Nn36 H36 G36 (fits_nar_bool _) W36 2 rfl (Nat.le_of_ble_eq_true rfl)
  have N36 := Fr.snoc X36 N35 g_b33
  refine own_step (S' := (T36.setTop (mkF m 72 #[.val (.int p1), .val (.ref b16), .unset, .unset] [(.ref b33)]))) (fun _ k => st36 _ k) ?_
  refine own_step (S' := (T36.setTop (mkF m 73 #[.val (.int p1), .val (.ref b16), .unset, .unset] [(.ref b33), (.ref b33)]))) (fun _ k => XS.dup X36.here hx rfl (hb hby at_72) rfl rfl k) ?_
  refine own_step (S' := (T36.setTop (mkF m 74 #[.val (.int p1), .val (.ref b16), .unset, .unset] [(.int (3 : Int32)), (.ref b33), (.ref b33)]))) (fun _ k => XS.iconst X36.here hx rfl (hb hby at_73) k) ?_
  refine own_step (S' := (T36.setTop (mkF m 75 #[.val (.int p1), .val (.ref b16), .unset, .unset] [(.int (0 : Int32)), (.int (3 : Int32)), (.ref b33), (.ref b33)]))) (fun _ k => XS.iconst X36.here hx rfl (hb hby at_74) k) ?_
  obtain ⟨cl37, Ar37, q37, S37, Nn37, H37, G37⟩ := V36
  have hin37 : ¬ ((3 : Int32) < 0 ∨ cl37.slots.size ≤ ((3 : Int32)).toNatClampNeg) := inb_of S37 ⟨by decide, by decide⟩
  obtain ⟨T37, h37, X37, e37, W37, st37⟩ := stZ X36 hx hZ e36 Ar37 (j := (3 : Int32)) hin37 (g := (mkF m 75 #[.val (.int p1), .val (.ref b16), .unset, .unset] [(.int (0 : Int32)), (.int (3 : Int32)), (.ref b33), (.ref b33)])) rfl rfl (hb hby at_75)
  have V37 : Arv Z h37 b33 k33 .boolean (8 : Int32) [(.int (0 : Int32)), (.int (0 : Int32)), (.int (1 : Int32)), (.int (0 : Int32)), (.int (0 : Int32)), (.int (0 : Int32)), (.int (0 : Int32)), (.int (0 : Int32))] (.int (0 : Int32)) := Arv.set Ar37 q37 S37 Nn37 H37 G37 (fits_nar_bool _) W37 3 rfl (Nat.le_of_ble_eq_true rfl)
  have N37 := Fr.snoc X37 N36 g_b33
  refine own_step (S' := (T37.setTop (mkF m 76 #[.val (.int p1), .val (.ref b16), .unset, .unset] [(.ref b33)]))) (fun _ k => st37 _ k) ?_
  refine own_step (S' := (T37.setTop (mkF m 77 #[.val (.int p1), .val (.ref b16), .unset, .unset] [(.ref b33), (.ref b33)]))) (fun _ k => XS.dup X37.here hx rfl (hb hby at_76) rfl rfl k) ?_
  refine own_step (S' := (T37.setTop (mkF m 78 #[.val (.int p1), .val (.ref b16), .unset, .unset] [(.int (4 : Int32)), (.ref b33), (.ref b33)]))) (fun _ k => XS.iconst X37.here hx rfl (hb hby at_77) k) ?_
  refine own_step (S' := (T37.setTop (mkF m 79 #[.val (.int p1), .val (.ref b16), .unset, .unset] [(.int (0 : Int32)), (.int (4 : Int32)), (.ref b33), (.ref b33)]))) (fun _ k => XS.iconst X37.here hx rfl (hb hby at_78) k) ?_
  obtain ⟨cl38, Ar38, q38, S38, Nn38, H38, G38⟩ := V37
  have hin38 : ¬ ((4 : Int32) < 0 ∨ cl38.slots.size ≤ ((4 : Int32)).toNatClampNeg) := inb_of S38 ⟨by decide, by decide⟩
  obtain ⟨T38, h38, X38, e38, W38, st38⟩ := stZ X37 hx hZ e37 Ar38 (j := (4 : Int32)) hin38 (g := (mkF m 79 #[.val (.int p1), .val (.ref b16), .unset, .unset] [(.int (0 : Int32)), (.int (4 : Int32)), (.ref b33), (.ref b33)])) rfl rfl (hb hby at_79)
  have V38 : Arv Z h38 b33 k33 .boolean (8 : Int32) [(.int (0 : Int32)), (.int (0 : Int32)), (.int (1 : Int32)), (.int (0 : Int32)), (.int (0 : Int32)), (.int (0 : Int32)), (.int (0 : Int32)), (.int (0 : Int32))] (.int (0 : Int32)) := Arv.set Ar38 q38 S38 Nn38 H38 G38 (fits_nar_bool _) W38 4 rfl (Nat.le_of_ble_eq_true rfl)
  have N38 := Fr.snoc X38 N37 g_b33
  refine own_step (S' := (T38.setTop (mkF m 80 #[.val (.int p1), .val (.ref b16), .unset, .unset] [(.ref b33)]))) (fun _ k => st38 _ k) ?_
  refine own_step (S' := (T38.setTop (mkF m 81 #[.val (.int p1), .val (.ref b16), .unset, .unset] [(.ref b33), (.ref b33)]))) (fun _ k => XS.dup X38.here hx rfl (hb hby at_80) rfl rfl k) ?_
  refine own_step (S' := (T38.setTop (mkF m 82 #[.val (.int p1), .val (.ref b16), .unset, .unset] [(.int (5 : Int32)), (.ref b33), (.ref b33)]))) (fun _ k => XS.iconst X38.here hx rfl (hb hby at_81) k) ?_
  refine own_step (S' := (T38.setTop (mkF m 83 #[.val (.int p1), .val (.ref b16), .unset, .unset] [(.int (1 : Int32)), (.int (5 : Int32)), (.ref b33), (.ref b33)]))) (fun _ k => XS.iconst X38.here hx rfl (hb hby at_82) k) ?_
  obtain ⟨cl39, Ar39, q39, S39, Nn39, H39, G39⟩ := V38
  have hin39 : ¬ ((5 : Int32) < 0 ∨ cl39.slots.size ≤ ((5 : Int32)).toNatClampNeg) := inb_of S39 ⟨by decide, by decide⟩
  obtain ⟨T39, h39, X39, e39, W39, st39⟩ := stZ X38 hx hZ e38 Ar39 (j := (5 : Int32)) hin39 (g := (mkF m 83 #[.val (.int p1), .val (.ref b16), .unset, .unset] [(.int (1 : Int32)), (.int (5 : Int32)), (.ref b33), (.ref b33)])) rfl rfl (hb hby at_83)
  have V39 : Arv Z h39 b33 k33 .boolean (8 : Int32) [(.int (0 : Int32)), (.int (0 : Int32)), (.int (1 : Int32)), (.int (0 : Int32)), (.int (0 : Int32)), (.int (1 : Int32)), (.int (0 : Int32)), (.int (0 : Int32))] (.int (0 : Int32)) := Arv.set Ar39 q39 S39 Nn39 H39 G39 (fits_nar_bool _) W39 5 rfl (Nat.le_of_ble_eq_true rfl)
  have N39 := Fr.snoc X39 N38 g_b33
  refine own_step (S' := (T39.setTop (mkF m 84 #[.val (.int p1), .val (.ref b16), .unset, .unset] [(.ref b33)]))) (fun _ k => st39 _ k) ?_
  refine own_step (S' := (T39.setTop (mkF m 85 #[.val (.int p1), .val (.ref b16), .unset, .unset] [(.ref b33), (.ref b33)]))) (fun _ k => XS.dup X39.here hx rfl (hb hby at_84) rfl rfl k) ?_
  refine own_step (S' := (T39.setTop (mkF m 87 #[.val (.int p1), .val (.ref b16), .unset, .unset] [(.int (6 : Int32)), (.ref b33), (.ref b33)]))) (fun _ k => XS.bipush X39.here hx rfl (hb hby at_85) k) ?_
  refine own_step (S' := (T39.setTop (mkF m 88 #[.val (.int p1), .val (.ref b16), .unset, .unset] [(.int (0 : Int32)), (.int (6 : Int32)), (.ref b33), (.ref b33)]))) (fun _ k => XS.iconst X39.here hx rfl (hb hby at_87) k) ?_
  obtain ⟨cl40, Ar40, q40, S40, Nn40, H40, G40⟩ := V39
  have hin40 : ¬ ((6 : Int32) < 0 ∨ cl40.slots.size ≤ ((6 : Int32)).toNatClampNeg) := inb_of S40 ⟨by decide, by decide⟩
  obtain ⟨T40, h40, X40, e40, W40, st40⟩ := stZ X39 hx hZ e39 Ar40 (j := (6 : Int32)) hin40 (g := (mkF m 88 #[.val (.int p1), .val (.ref b16), .unset, .unset] [(.int (0 : Int32)), (.int (6 : Int32)), (.ref b33), (.ref b33)])) rfl rfl (hb hby at_88)
  have V40 : Arv Z h40 b33 k33 .boolean (8 : Int32) [(.int (0 : Int32)), (.int (0 : Int32)), (.int (1 : Int32)), (.int (0 : Int32)), (.int (0 : Int32)), (.int (1 : Int32)), (.int (0 : Int32)), (.int (0 : Int32))] (.int (0 : Int32)) := Arv.set Ar40 q40 S40 Nn40 H40 G40 (fits_nar_bool _) W40 6 rfl (Nat.le_of_ble_eq_true rfl)
  have N40 := Fr.snoc X40 N39 g_b33
  refine own_step (S' := (T40.setTop (mkF m 89 #[.val (.int p1), .val (.ref b16), .unset, .unset] [(.ref b33)]))) (fun _ k => st40 _ k) ?_
  refine own_step (S' := (T40.setTop (mkF m 90 #[.val (.int p1), .val (.ref b16), .unset, .unset] [(.ref b33), (.ref b33)]))) (fun _ k => XS.dup X40.here hx rfl (hb hby at_89) rfl rfl k) ?_
  refine own_step (S' := (T40.setTop (mkF m 92 #[.val (.int p1), .val (.ref b16), .unset, .unset] [(.int (7 : Int32)), (.ref b33), (.ref b33)]))) (fun _ k => XS.bipush X40.here hx rfl (hb hby at_90) k) ?_
  refine own_step (S' := (T40.setTop (mkF m 93 #[.val (.int p1), .val (.ref b16), .unset, .unset] [(.int (0 : Int32)), (.int (7 : Int32)), (.ref b33), (.ref b33)]))) (fun _ k => XS.iconst X40.here hx rfl (hb hby at_92) k) ?_
  obtain ⟨cl41, Ar41, q41, S41, Nn41, H41, G41⟩ := V40
  have hin41 : ¬ ((7 : Int32) < 0 ∨ cl41.slots.size ≤ ((7 : Int32)).toNatClampNeg) := inb_of S41 ⟨by decide, by decide⟩
  obtain ⟨T41, h41, X41, e41, W41, st41⟩ := stZ X40 hx hZ e40 Ar41 (j := (7 : Int32)) hin41 (g := (mkF m 93 #[.val (.int p1), .val (.ref b16), .unset, .unset] [(.int (0 : Int32)), (.int (7 : Int32)), (.ref b33), (.ref b33)])) rfl rfl (hb hby at_93)
  have V41 : Arv Z h41 b33 k33 .boolean (8 : Int32) [(.int (0 : Int32)), (.int (0 : Int32)), (.int (1 : Int32)), (.int (0 : Int32)), (.int (0 : Int32)), (.int (1 : Int32)), (.int (0 : Int32)), (.int (0 : Int32))] (.int (0 : Int32)) := Arv.set Ar41 q41 S41 Nn41 H41 G41 (fits_nar_bool _) W41 7 rfl (Nat.le_of_ble_eq_true rfl)
  have N41 := Fr.snoc X41 N40 g_b33
  refine own_step (S' := (T41.setTop (mkF m 94 #[.val (.int p1), .val (.ref b16), .unset, .unset] [(.ref b33)]))) (fun _ k => st41 _ k) ?_
  refine own_step (S' := (T41.setTop (mkF m 95 #[.val (.int p1), .val (.ref b16), .val (.ref b33), .unset] []))) (fun _ k => XS.astoreN X41.here hx rfl (hb hby at_94) rfl rfl (l' := #[.val (.int p1), .val (.ref b16), .val (.ref b33), .unset]) rfl k) ?_
  refine own_step (S' := (T41.setTop (mkF m 96 #[.val (.int p1), .val (.ref b16), .val (.ref b33), .unset] [(.int p1)]))) (fun _ k => XS.iloadN X41.here hx rfl (hb hby at_95) rfl k) ?_
  refine own_step (S' := (T41.setTop (mkF m 98 #[.val (.int p1), .val (.ref b16), .val (.ref b33), .unset] [(.int (7 : Int32)), (.int p1)]))) (fun _ k => XS.bipush X41.here hx rfl (hb hby at_96) k) ?_
  refine own_step (S' := (T41.setTop (mkF m 99 #[.val (.int p1), .val (.ref b16), .val (.ref b33), .unset] [(.int (p1 &&& (7 : Int32)))]))) (fun _ k => XS.iand X41.here hx rfl (hb hby at_98) rfl k) ?_
  have f42 := (Sta.wr W41 (Sta.wr W40 (Sta.wr W39 (Sta.wr W38 (Sta.wr W37 (Sta.wr W36 (Sta.wr W35 (Sta.wr W34 (Sta.ext E33 (Sta.wr W32 (Sta.wr W30 (Sta.wr W28 (Sta.wr W26 (Sta.wr W24 (Sta.wr W22 (Sta.wr W20 (Sta.wr W18 (Sta.ext E16 S_Scope_WHOLE))))))))))))))))))
  have f43 := (Exa.wr W41 (Exa.wr W40 (Exa.wr W39 (Exa.wr W38 (Exa.wr W37 (Exa.wr W36 (Exa.wr W35 (Exa.wr W34 (Exa.ext E33 (Exa.wr W32 (Exa.wr W30 (Exa.wr W28 (Exa.wr W26 (Exa.wr W24 (Exa.wr W22 (Exa.wr W20 (Exa.wr W18 (Exa.ext E16 E_Scope_WHOLE))))))))))))))))))
  have f44 := (Sta.wr W41 (Sta.wr W40 (Sta.wr W39 (Sta.wr W38 (Sta.wr W37 (Sta.wr W36 (Sta.wr W35 (Sta.wr W34 (Sta.ext E33 (Sta.wr W32 (Sta.wr W30 (Sta.wr W28 (Sta.wr W26 (Sta.wr W24 (Sta.wr W22 (Sta.wr W20 (Sta.wr W18 (Sta.ext E16 S_Scope_EACH))))))))))))))))))
  have f45 := (Exa.wr W41 (Exa.wr W40 (Exa.wr W39 (Exa.wr W38 (Exa.wr W37 (Exa.wr W36 (Exa.wr W35 (Exa.wr W34 (Exa.ext E33 (Exa.wr W32 (Exa.wr W30 (Exa.wr W28 (Exa.wr W26 (Exa.wr W24 (Exa.wr W22 (Exa.wr W20 (Exa.wr W18 (Exa.ext E16 E_Scope_EACH))))))))))))))))))
  have f46 := (Sta.wr W41 (Sta.wr W40 (Sta.wr W39 (Sta.wr W38 (Sta.wr W37 (Sta.wr W36 (Sta.wr W35 (Sta.wr W34 (Sta.ext E33 (Sta.wr W32 (Sta.wr W30 (Sta.wr W28 (Sta.wr W26 (Sta.wr W24 (Sta.wr W22 (Sta.wr W20 (Sta.wr W18 (Sta.ext E16 S_Scope_LINE))))))))))))))))))
  have f47 := (Exa.wr W41 (Exa.wr W40 (Exa.wr W39 (Exa.wr W38 (Exa.wr W37 (Exa.wr W36 (Exa.wr W35 (Exa.wr W34 (Exa.ext E33 (Exa.wr W32 (Exa.wr W30 (Exa.wr W28 (Exa.wr W26 (Exa.wr W24 (Exa.wr W22 (Exa.wr W20 (Exa.wr W18 (Exa.ext E16 E_Scope_LINE))))))))))))))))))
  have f48 := (Sta.wr W41 (Sta.wr W40 (Sta.wr W39 (Sta.wr W38 (Sta.wr W37 (Sta.wr W36 (Sta.wr W35 (Sta.wr W34 (Sta.ext E33 (Sta.wr W32 (Sta.wr W30 (Sta.wr W28 (Sta.wr W26 (Sta.wr W24 (Sta.wr W22 (Sta.wr W20 (Sta.wr W18 (Sta.ext E16 S_Scope_LAST_LINE))))))))))))))))))
  have f49 := (Exa.wr W41 (Exa.wr W40 (Exa.wr W39 (Exa.wr W38 (Exa.wr W37 (Exa.wr W36 (Exa.wr W35 (Exa.wr W34 (Exa.ext E33 (Exa.wr W32 (Exa.wr W30 (Exa.wr W28 (Exa.wr W26 (Exa.wr W24 (Exa.wr W22 (Exa.wr W20 (Exa.wr W18 (Exa.ext E16 E_Scope_LAST_LINE))))))))))))))))))
  have f50 := (Sta.wr W41 (Sta.wr W40 (Sta.wr W39 (Sta.wr W38 (Sta.wr W37 (Sta.wr W36 (Sta.wr W35 (Sta.wr W34 (Sta.ext E33 (Sta.wr W32 (Sta.wr W30 (Sta.wr W28 (Sta.wr W26 (Sta.wr W24 (Sta.wr W22 (Sta.wr W20 (Sta.wr W18 (Sta.ext E16 S_Scope_END))))))))))))))))))
  have f51 := (Exa.wr W41 (Exa.wr W40 (Exa.wr W39 (Exa.wr W38 (Exa.wr W37 (Exa.wr W36 (Exa.wr W35 (Exa.wr W34 (Exa.ext E33 (Exa.wr W32 (Exa.wr W30 (Exa.wr W28 (Exa.wr W26 (Exa.wr W24 (Exa.wr W22 (Exa.wr W20 (Exa.wr W18 (Exa.ext E16 E_Scope_END))))))))))))))))))
  have f52 := (Sta.wr W41 (Sta.wr W40 (Sta.wr W39 (Sta.wr W38 (Sta.wr W37 (Sta.wr W36 (Sta.wr W35 (Sta.wr W34 (Sta.ext E33 (Sta.wr W32 (Sta.wr W30 (Sta.wr W28 (Sta.wr W26 (Sta.wr W24 (Sta.wr W22 (Sta.wr W20 (Sta.wr W18 (Sta.ext E16 S_Scope_SENTENCE))))))))))))))))))
  have f53 := (Exa.wr W41 (Exa.wr W40 (Exa.wr W39 (Exa.wr W38 (Exa.wr W37 (Exa.wr W36 (Exa.wr W35 (Exa.wr W34 (Exa.ext E33 (Exa.wr W32 (Exa.wr W30 (Exa.wr W28 (Exa.wr W26 (Exa.wr W24 (Exa.wr W22 (Exa.wr W20 (Exa.wr W18 (Exa.ext E16 E_Scope_SENTENCE))))))))))))))))))
  have f54 := (Sta.wr W41 (Sta.wr W40 (Sta.wr W39 (Sta.wr W38 (Sta.wr W37 (Sta.wr W36 (Sta.wr W35 (Sta.wr W34 (Sta.ext E33 (Sta.wr W32 (Sta.wr W30 (Sta.wr W28 (Sta.wr W26 (Sta.wr W24 (Sta.wr W22 (Sta.wr W20 (Sta.wr W18 (Sta.ext E16 S_Scope_LAST_SENTENCE))))))))))))))))))
  have f55 := (Exa.wr W41 (Exa.wr W40 (Exa.wr W39 (Exa.wr W38 (Exa.wr W37 (Exa.wr W36 (Exa.wr W35 (Exa.wr W34 (Exa.ext E33 (Exa.wr W32 (Exa.wr W30 (Exa.wr W28 (Exa.wr W26 (Exa.wr W24 (Exa.wr W22 (Exa.wr W20 (Exa.wr W18 (Exa.ext E16 E_Scope_LAST_SENTENCE))))))))))))))))))
  have f56 := (Sta.wr W41 (Sta.wr W40 (Sta.wr W39 (Sta.wr W38 (Sta.wr W37 (Sta.wr W36 (Sta.wr W35 (Sta.wr W34 (Sta.ext E33 (Sta.wr W32 (Sta.wr W30 (Sta.wr W28 (Sta.wr W26 (Sta.wr W24 (Sta.wr W22 (Sta.wr W20 (Sta.wr W18 (Sta.ext E16 S_Scope_CAPTION))))))))))))))))))
  have f57 := (Exa.wr W41 (Exa.wr W40 (Exa.wr W39 (Exa.wr W38 (Exa.wr W37 (Exa.wr W36 (Exa.wr W35 (Exa.wr W34 (Exa.ext E33 (Exa.wr W32 (Exa.wr W30 (Exa.wr W28 (Exa.wr W26 (Exa.wr W24 (Exa.wr W22 (Exa.wr W20 (Exa.wr W18 (Exa.ext E16 E_Scope_CAPTION))))))))))))))))))
  have f58 := (Fld.other W41 (Fld.other W40 (Fld.other W39 (Fld.other W38 (Fld.other W37 (Fld.other W36 (Fld.other W35 (Fld.other W34 (Fld.ext E33 (Fld.other W32 (Fld.other W30 (Fld.other W28 (Fld.other W26 (Fld.other W24 (Fld.other W22 (Fld.other W20 (Fld.other W18 (Fld.ext E16 F_Scope_WHOLE_ordinal) (Or.inl (Nat.ne_of_lt (Nat.lt_of_lt_of_le E_Scope_WHOLE.lt (Nat.le_of_eq g16.symm))))) (Or.inl (Nat.ne_of_lt (Nat.lt_of_lt_of_le E_Scope_WHOLE.lt (Nat.le_of_eq g16.symm))))) (Or.inl (Nat.ne_of_lt (Nat.lt_of_lt_of_le E_Scope_WHOLE.lt (Nat.le_of_eq g16.symm))))) (Or.inl (Nat.ne_of_lt (Nat.lt_of_lt_of_le E_Scope_WHOLE.lt (Nat.le_of_eq g16.symm))))) (Or.inl (Nat.ne_of_lt (Nat.lt_of_lt_of_le E_Scope_WHOLE.lt (Nat.le_of_eq g16.symm))))) (Or.inl (Nat.ne_of_lt (Nat.lt_of_lt_of_le E_Scope_WHOLE.lt (Nat.le_of_eq g16.symm))))) (Or.inl (Nat.ne_of_lt (Nat.lt_of_lt_of_le E_Scope_WHOLE.lt (Nat.le_of_eq g16.symm))))) (Or.inl (Nat.ne_of_lt (Nat.lt_of_lt_of_le E_Scope_WHOLE.lt (Nat.le_of_eq g16.symm)))))) (Or.inl (Nat.ne_of_lt (Nat.lt_of_lt_of_le (Exa.wr W32 (Exa.wr W30 (Exa.wr W28 (Exa.wr W26 (Exa.wr W24 (Exa.wr W22 (Exa.wr W20 (Exa.wr W18 (Exa.ext E16 E_Scope_WHOLE))))))))).lt (Nat.le_of_eq g33.symm))))) (Or.inl (Nat.ne_of_lt (Nat.lt_of_lt_of_le (Exa.wr W32 (Exa.wr W30 (Exa.wr W28 (Exa.wr W26 (Exa.wr W24 (Exa.wr W22 (Exa.wr W20 (Exa.wr W18 (Exa.ext E16 E_Scope_WHOLE))))))))).lt (Nat.le_of_eq g33.symm))))) (Or.inl (Nat.ne_of_lt (Nat.lt_of_lt_of_le (Exa.wr W32 (Exa.wr W30 (Exa.wr W28 (Exa.wr W26 (Exa.wr W24 (Exa.wr W22 (Exa.wr W20 (Exa.wr W18 (Exa.ext E16 E_Scope_WHOLE))))))))).lt (Nat.le_of_eq g33.symm))))) (Or.inl (Nat.ne_of_lt (Nat.lt_of_lt_of_le (Exa.wr W32 (Exa.wr W30 (Exa.wr W28 (Exa.wr W26 (Exa.wr W24 (Exa.wr W22 (Exa.wr W20 (Exa.wr W18 (Exa.ext E16 E_Scope_WHOLE))))))))).lt (Nat.le_of_eq g33.symm))))) (Or.inl (Nat.ne_of_lt (Nat.lt_of_lt_of_le (Exa.wr W32 (Exa.wr W30 (Exa.wr W28 (Exa.wr W26 (Exa.wr W24 (Exa.wr W22 (Exa.wr W20 (Exa.wr W18 (Exa.ext E16 E_Scope_WHOLE))))))))).lt (Nat.le_of_eq g33.symm))))) (Or.inl (Nat.ne_of_lt (Nat.lt_of_lt_of_le (Exa.wr W32 (Exa.wr W30 (Exa.wr W28 (Exa.wr W26 (Exa.wr W24 (Exa.wr W22 (Exa.wr W20 (Exa.wr W18 (Exa.ext E16 E_Scope_WHOLE))))))))).lt (Nat.le_of_eq g33.symm))))) (Or.inl (Nat.ne_of_lt (Nat.lt_of_lt_of_le (Exa.wr W32 (Exa.wr W30 (Exa.wr W28 (Exa.wr W26 (Exa.wr W24 (Exa.wr W22 (Exa.wr W20 (Exa.wr W18 (Exa.ext E16 E_Scope_WHOLE))))))))).lt (Nat.le_of_eq g33.symm))))) (Or.inl (Nat.ne_of_lt (Nat.lt_of_lt_of_le (Exa.wr W32 (Exa.wr W30 (Exa.wr W28 (Exa.wr W26 (Exa.wr W24 (Exa.wr W22 (Exa.wr W20 (Exa.wr W18 (Exa.ext E16 E_Scope_WHOLE))))))))).lt (Nat.le_of_eq g33.symm)))))
  have f59 := (Fld.other W41 (Fld.other W40 (Fld.other W39 (Fld.other W38 (Fld.other W37 (Fld.other W36 (Fld.other W35 (Fld.other W34 (Fld.ext E33 (Fld.other W32 (Fld.other W30 (Fld.other W28 (Fld.other W26 (Fld.other W24 (Fld.other W22 (Fld.other W20 (Fld.other W18 (Fld.ext E16 F_Scope_LINE_ordinal) (Or.inl (Nat.ne_of_lt (Nat.lt_of_lt_of_le E_Scope_LINE.lt (Nat.le_of_eq g16.symm))))) (Or.inl (Nat.ne_of_lt (Nat.lt_of_lt_of_le E_Scope_LINE.lt (Nat.le_of_eq g16.symm))))) (Or.inl (Nat.ne_of_lt (Nat.lt_of_lt_of_le E_Scope_LINE.lt (Nat.le_of_eq g16.symm))))) (Or.inl (Nat.ne_of_lt (Nat.lt_of_lt_of_le E_Scope_LINE.lt (Nat.le_of_eq g16.symm))))) (Or.inl (Nat.ne_of_lt (Nat.lt_of_lt_of_le E_Scope_LINE.lt (Nat.le_of_eq g16.symm))))) (Or.inl (Nat.ne_of_lt (Nat.lt_of_lt_of_le E_Scope_LINE.lt (Nat.le_of_eq g16.symm))))) (Or.inl (Nat.ne_of_lt (Nat.lt_of_lt_of_le E_Scope_LINE.lt (Nat.le_of_eq g16.symm))))) (Or.inl (Nat.ne_of_lt (Nat.lt_of_lt_of_le E_Scope_LINE.lt (Nat.le_of_eq g16.symm)))))) (Or.inl (Nat.ne_of_lt (Nat.lt_of_lt_of_le (Exa.wr W32 (Exa.wr W30 (Exa.wr W28 (Exa.wr W26 (Exa.wr W24 (Exa.wr W22 (Exa.wr W20 (Exa.wr W18 (Exa.ext E16 E_Scope_LINE))))))))).lt (Nat.le_of_eq g33.symm))))) (Or.inl (Nat.ne_of_lt (Nat.lt_of_lt_of_le (Exa.wr W32 (Exa.wr W30 (Exa.wr W28 (Exa.wr W26 (Exa.wr W24 (Exa.wr W22 (Exa.wr W20 (Exa.wr W18 (Exa.ext E16 E_Scope_LINE))))))))).lt (Nat.le_of_eq g33.symm))))) (Or.inl (Nat.ne_of_lt (Nat.lt_of_lt_of_le (Exa.wr W32 (Exa.wr W30 (Exa.wr W28 (Exa.wr W26 (Exa.wr W24 (Exa.wr W22 (Exa.wr W20 (Exa.wr W18 (Exa.ext E16 E_Scope_LINE))))))))).lt (Nat.le_of_eq g33.symm))))) (Or.inl (Nat.ne_of_lt (Nat.lt_of_lt_of_le (Exa.wr W32 (Exa.wr W30 (Exa.wr W28 (Exa.wr W26 (Exa.wr W24 (Exa.wr W22 (Exa.wr W20 (Exa.wr W18 (Exa.ext E16 E_Scope_LINE))))))))).lt (Nat.le_of_eq g33.symm))))) (Or.inl (Nat.ne_of_lt (Nat.lt_of_lt_of_le (Exa.wr W32 (Exa.wr W30 (Exa.wr W28 (Exa.wr W26 (Exa.wr W24 (Exa.wr W22 (Exa.wr W20 (Exa.wr W18 (Exa.ext E16 E_Scope_LINE))))))))).lt (Nat.le_of_eq g33.symm))))) (Or.inl (Nat.ne_of_lt (Nat.lt_of_lt_of_le (Exa.wr W32 (Exa.wr W30 (Exa.wr W28 (Exa.wr W26 (Exa.wr W24 (Exa.wr W22 (Exa.wr W20 (Exa.wr W18 (Exa.ext E16 E_Scope_LINE))))))))).lt (Nat.le_of_eq g33.symm))))) (Or.inl (Nat.ne_of_lt (Nat.lt_of_lt_of_le (Exa.wr W32 (Exa.wr W30 (Exa.wr W28 (Exa.wr W26 (Exa.wr W24 (Exa.wr W22 (Exa.wr W20 (Exa.wr W18 (Exa.ext E16 E_Scope_LINE))))))))).lt (Nat.le_of_eq g33.symm))))) (Or.inl (Nat.ne_of_lt (Nat.lt_of_lt_of_le (Exa.wr W32 (Exa.wr W30 (Exa.wr W28 (Exa.wr W26 (Exa.wr W24 (Exa.wr W22 (Exa.wr W20 (Exa.wr W18 (Exa.ext E16 E_Scope_LINE))))))))).lt (Nat.le_of_eq g33.symm)))))
  have f60 := (Fld.other W41 (Fld.other W40 (Fld.other W39 (Fld.other W38 (Fld.other W37 (Fld.other W36 (Fld.other W35 (Fld.other W34 (Fld.ext E33 (Fld.other W32 (Fld.other W30 (Fld.other W28 (Fld.other W26 (Fld.other W24 (Fld.other W22 (Fld.other W20 (Fld.other W18 (Fld.ext E16 F_Scope_SENTENCE_ordinal) (Or.inl (Nat.ne_of_lt (Nat.lt_of_lt_of_le E_Scope_SENTENCE.lt (Nat.le_of_eq g16.symm))))) (Or.inl (Nat.ne_of_lt (Nat.lt_of_lt_of_le E_Scope_SENTENCE.lt (Nat.le_of_eq g16.symm))))) (Or.inl (Nat.ne_of_lt (Nat.lt_of_lt_of_le E_Scope_SENTENCE.lt (Nat.le_of_eq g16.symm))))) (Or.inl (Nat.ne_of_lt (Nat.lt_of_lt_of_le E_Scope_SENTENCE.lt (Nat.le_of_eq g16.symm))))) (Or.inl (Nat.ne_of_lt (Nat.lt_of_lt_of_le E_Scope_SENTENCE.lt (Nat.le_of_eq g16.symm))))) (Or.inl (Nat.ne_of_lt (Nat.lt_of_lt_of_le E_Scope_SENTENCE.lt (Nat.le_of_eq g16.symm))))) (Or.inl (Nat.ne_of_lt (Nat.lt_of_lt_of_le E_Scope_SENTENCE.lt (Nat.le_of_eq g16.symm))))) (Or.inl (Nat.ne_of_lt (Nat.lt_of_lt_of_le E_Scope_SENTENCE.lt (Nat.le_of_eq g16.symm)))))) (Or.inl (Nat.ne_of_lt (Nat.lt_of_lt_of_le (Exa.wr W32 (Exa.wr W30 (Exa.wr W28 (Exa.wr W26 (Exa.wr W24 (Exa.wr W22 (Exa.wr W20 (Exa.wr W18 (Exa.ext E16 E_Scope_SENTENCE))))))))).lt (Nat.le_of_eq g33.symm))))) (Or.inl (Nat.ne_of_lt (Nat.lt_of_lt_of_le (Exa.wr W32 (Exa.wr W30 (Exa.wr W28 (Exa.wr W26 (Exa.wr W24 (Exa.wr W22 (Exa.wr W20 (Exa.wr W18 (Exa.ext E16 E_Scope_SENTENCE))))))))).lt (Nat.le_of_eq g33.symm))))) (Or.inl (Nat.ne_of_lt (Nat.lt_of_lt_of_le (Exa.wr W32 (Exa.wr W30 (Exa.wr W28 (Exa.wr W26 (Exa.wr W24 (Exa.wr W22 (Exa.wr W20 (Exa.wr W18 (Exa.ext E16 E_Scope_SENTENCE))))))))).lt (Nat.le_of_eq g33.symm))))) (Or.inl (Nat.ne_of_lt (Nat.lt_of_lt_of_le (Exa.wr W32 (Exa.wr W30 (Exa.wr W28 (Exa.wr W26 (Exa.wr W24 (Exa.wr W22 (Exa.wr W20 (Exa.wr W18 (Exa.ext E16 E_Scope_SENTENCE))))))))).lt (Nat.le_of_eq g33.symm))))) (Or.inl (Nat.ne_of_lt (Nat.lt_of_lt_of_le (Exa.wr W32 (Exa.wr W30 (Exa.wr W28 (Exa.wr W26 (Exa.wr W24 (Exa.wr W22 (Exa.wr W20 (Exa.wr W18 (Exa.ext E16 E_Scope_SENTENCE))))))))).lt (Nat.le_of_eq g33.symm))))) (Or.inl (Nat.ne_of_lt (Nat.lt_of_lt_of_le (Exa.wr W32 (Exa.wr W30 (Exa.wr W28 (Exa.wr W26 (Exa.wr W24 (Exa.wr W22 (Exa.wr W20 (Exa.wr W18 (Exa.ext E16 E_Scope_SENTENCE))))))))).lt (Nat.le_of_eq g33.symm))))) (Or.inl (Nat.ne_of_lt (Nat.lt_of_lt_of_le (Exa.wr W32 (Exa.wr W30 (Exa.wr W28 (Exa.wr W26 (Exa.wr W24 (Exa.wr W22 (Exa.wr W20 (Exa.wr W18 (Exa.ext E16 E_Scope_SENTENCE))))))))).lt (Nat.le_of_eq g33.symm))))) (Or.inl (Nat.ne_of_lt (Nat.lt_of_lt_of_le (Exa.wr W32 (Exa.wr W30 (Exa.wr W28 (Exa.wr W26 (Exa.wr W24 (Exa.wr W22 (Exa.wr W20 (Exa.wr W18 (Exa.ext E16 E_Scope_SENTENCE))))))))).lt (Nat.le_of_eq g33.symm)))))
  have f61 := (Fld.other W41 (Fld.other W40 (Fld.other W39 (Fld.other W38 (Fld.other W37 (Fld.other W36 (Fld.other W35 (Fld.other W34 (Fld.ext E33 (Fld.other W32 (Fld.other W30 (Fld.other W28 (Fld.other W26 (Fld.other W24 (Fld.other W22 (Fld.other W20 (Fld.other W18 (Fld.ext E16 F_Scope_LAST_LINE_ordinal) (Or.inl (Nat.ne_of_lt (Nat.lt_of_lt_of_le E_Scope_LAST_LINE.lt (Nat.le_of_eq g16.symm))))) (Or.inl (Nat.ne_of_lt (Nat.lt_of_lt_of_le E_Scope_LAST_LINE.lt (Nat.le_of_eq g16.symm))))) (Or.inl (Nat.ne_of_lt (Nat.lt_of_lt_of_le E_Scope_LAST_LINE.lt (Nat.le_of_eq g16.symm))))) (Or.inl (Nat.ne_of_lt (Nat.lt_of_lt_of_le E_Scope_LAST_LINE.lt (Nat.le_of_eq g16.symm))))) (Or.inl (Nat.ne_of_lt (Nat.lt_of_lt_of_le E_Scope_LAST_LINE.lt (Nat.le_of_eq g16.symm))))) (Or.inl (Nat.ne_of_lt (Nat.lt_of_lt_of_le E_Scope_LAST_LINE.lt (Nat.le_of_eq g16.symm))))) (Or.inl (Nat.ne_of_lt (Nat.lt_of_lt_of_le E_Scope_LAST_LINE.lt (Nat.le_of_eq g16.symm))))) (Or.inl (Nat.ne_of_lt (Nat.lt_of_lt_of_le E_Scope_LAST_LINE.lt (Nat.le_of_eq g16.symm)))))) (Or.inl (Nat.ne_of_lt (Nat.lt_of_lt_of_le (Exa.wr W32 (Exa.wr W30 (Exa.wr W28 (Exa.wr W26 (Exa.wr W24 (Exa.wr W22 (Exa.wr W20 (Exa.wr W18 (Exa.ext E16 E_Scope_LAST_LINE))))))))).lt (Nat.le_of_eq g33.symm))))) (Or.inl (Nat.ne_of_lt (Nat.lt_of_lt_of_le (Exa.wr W32 (Exa.wr W30 (Exa.wr W28 (Exa.wr W26 (Exa.wr W24 (Exa.wr W22 (Exa.wr W20 (Exa.wr W18 (Exa.ext E16 E_Scope_LAST_LINE))))))))).lt (Nat.le_of_eq g33.symm))))) (Or.inl (Nat.ne_of_lt (Nat.lt_of_lt_of_le (Exa.wr W32 (Exa.wr W30 (Exa.wr W28 (Exa.wr W26 (Exa.wr W24 (Exa.wr W22 (Exa.wr W20 (Exa.wr W18 (Exa.ext E16 E_Scope_LAST_LINE))))))))).lt (Nat.le_of_eq g33.symm))))) (Or.inl (Nat.ne_of_lt (Nat.lt_of_lt_of_le (Exa.wr W32 (Exa.wr W30 (Exa.wr W28 (Exa.wr W26 (Exa.wr W24 (Exa.wr W22 (Exa.wr W20 (Exa.wr W18 (Exa.ext E16 E_Scope_LAST_LINE))))))))).lt (Nat.le_of_eq g33.symm))))) (Or.inl (Nat.ne_of_lt (Nat.lt_of_lt_of_le (Exa.wr W32 (Exa.wr W30 (Exa.wr W28 (Exa.wr W26 (Exa.wr W24 (Exa.wr W22 (Exa.wr W20 (Exa.wr W18 (Exa.ext E16 E_Scope_LAST_LINE))))))))).lt (Nat.le_of_eq g33.symm))))) (Or.inl (Nat.ne_of_lt (Nat.lt_of_lt_of_le (Exa.wr W32 (Exa.wr W30 (Exa.wr W28 (Exa.wr W26 (Exa.wr W24 (Exa.wr W22 (Exa.wr W20 (Exa.wr W18 (Exa.ext E16 E_Scope_LAST_LINE))))))))).lt (Nat.le_of_eq g33.symm))))) (Or.inl (Nat.ne_of_lt (Nat.lt_of_lt_of_le (Exa.wr W32 (Exa.wr W30 (Exa.wr W28 (Exa.wr W26 (Exa.wr W24 (Exa.wr W22 (Exa.wr W20 (Exa.wr W18 (Exa.ext E16 E_Scope_LAST_LINE))))))))).lt (Nat.le_of_eq g33.symm))))) (Or.inl (Nat.ne_of_lt (Nat.lt_of_lt_of_le (Exa.wr W32 (Exa.wr W30 (Exa.wr W28 (Exa.wr W26 (Exa.wr W24 (Exa.wr W22 (Exa.wr W20 (Exa.wr W18 (Exa.ext E16 E_Scope_LAST_LINE))))))))).lt (Nat.le_of_eq g33.symm)))))
  have f62 := (Fld.other W41 (Fld.other W40 (Fld.other W39 (Fld.other W38 (Fld.other W37 (Fld.other W36 (Fld.other W35 (Fld.other W34 (Fld.ext E33 (Fld.other W32 (Fld.other W30 (Fld.other W28 (Fld.other W26 (Fld.other W24 (Fld.other W22 (Fld.other W20 (Fld.other W18 (Fld.ext E16 F_Scope_LAST_SENTENCE_ordinal) (Or.inl (Nat.ne_of_lt (Nat.lt_of_lt_of_le E_Scope_LAST_SENTENCE.lt (Nat.le_of_eq g16.symm))))) (Or.inl (Nat.ne_of_lt (Nat.lt_of_lt_of_le E_Scope_LAST_SENTENCE.lt (Nat.le_of_eq g16.symm))))) (Or.inl (Nat.ne_of_lt (Nat.lt_of_lt_of_le E_Scope_LAST_SENTENCE.lt (Nat.le_of_eq g16.symm))))) (Or.inl (Nat.ne_of_lt (Nat.lt_of_lt_of_le E_Scope_LAST_SENTENCE.lt (Nat.le_of_eq g16.symm))))) (Or.inl (Nat.ne_of_lt (Nat.lt_of_lt_of_le E_Scope_LAST_SENTENCE.lt (Nat.le_of_eq g16.symm))))) (Or.inl (Nat.ne_of_lt (Nat.lt_of_lt_of_le E_Scope_LAST_SENTENCE.lt (Nat.le_of_eq g16.symm))))) (Or.inl (Nat.ne_of_lt (Nat.lt_of_lt_of_le E_Scope_LAST_SENTENCE.lt (Nat.le_of_eq g16.symm))))) (Or.inl (Nat.ne_of_lt (Nat.lt_of_lt_of_le E_Scope_LAST_SENTENCE.lt (Nat.le_of_eq g16.symm)))))) (Or.inl (Nat.ne_of_lt (Nat.lt_of_lt_of_le (Exa.wr W32 (Exa.wr W30 (Exa.wr W28 (Exa.wr W26 (Exa.wr W24 (Exa.wr W22 (Exa.wr W20 (Exa.wr W18 (Exa.ext E16 E_Scope_LAST_SENTENCE))))))))).lt (Nat.le_of_eq g33.symm))))) (Or.inl (Nat.ne_of_lt (Nat.lt_of_lt_of_le (Exa.wr W32 (Exa.wr W30 (Exa.wr W28 (Exa.wr W26 (Exa.wr W24 (Exa.wr W22 (Exa.wr W20 (Exa.wr W18 (Exa.ext E16 E_Scope_LAST_SENTENCE))))))))).lt (Nat.le_of_eq g33.symm))))) (Or.inl (Nat.ne_of_lt (Nat.lt_of_lt_of_le (Exa.wr W32 (Exa.wr W30 (Exa.wr W28 (Exa.wr W26 (Exa.wr W24 (Exa.wr W22 (Exa.wr W20 (Exa.wr W18 (Exa.ext E16 E_Scope_LAST_SENTENCE))))))))).lt (Nat.le_of_eq g33.symm))))) (Or.inl (Nat.ne_of_lt (Nat.lt_of_lt_of_le (Exa.wr W32 (Exa.wr W30 (Exa.wr W28 (Exa.wr W26 (Exa.wr W24 (Exa.wr W22 (Exa.wr W20 (Exa.wr W18 (Exa.ext E16 E_Scope_LAST_SENTENCE))))))))).lt (Nat.le_of_eq g33.symm))))) (Or.inl (Nat.ne_of_lt (Nat.lt_of_lt_of_le (Exa.wr W32 (Exa.wr W30 (Exa.wr W28 (Exa.wr W26 (Exa.wr W24 (Exa.wr W22 (Exa.wr W20 (Exa.wr W18 (Exa.ext E16 E_Scope_LAST_SENTENCE))))))))).lt (Nat.le_of_eq g33.symm))))) (Or.inl (Nat.ne_of_lt (Nat.lt_of_lt_of_le (Exa.wr W32 (Exa.wr W30 (Exa.wr W28 (Exa.wr W26 (Exa.wr W24 (Exa.wr W22 (Exa.wr W20 (Exa.wr W18 (Exa.ext E16 E_Scope_LAST_SENTENCE))))))))).lt (Nat.le_of_eq g33.symm))))) (Or.inl (Nat.ne_of_lt (Nat.lt_of_lt_of_le (Exa.wr W32 (Exa.wr W30 (Exa.wr W28 (Exa.wr W26 (Exa.wr W24 (Exa.wr W22 (Exa.wr W20 (Exa.wr W18 (Exa.ext E16 E_Scope_LAST_SENTENCE))))))))).lt (Nat.le_of_eq g33.symm))))) (Or.inl (Nat.ne_of_lt (Nat.lt_of_lt_of_le (Exa.wr W32 (Exa.wr W30 (Exa.wr W28 (Exa.wr W26 (Exa.wr W24 (Exa.wr W22 (Exa.wr W20 (Exa.wr W18 (Exa.ext E16 E_Scope_LAST_SENTENCE))))))))).lt (Nat.le_of_eq g33.symm)))))
  have f63 := (Fld.other W41 (Fld.other W40 (Fld.other W39 (Fld.other W38 (Fld.other W37 (Fld.other W36 (Fld.other W35 (Fld.other W34 (Fld.ext E33 (Fld.other W32 (Fld.other W30 (Fld.other W28 (Fld.other W26 (Fld.other W24 (Fld.other W22 (Fld.other W20 (Fld.other W18 (Fld.ext E16 F_Scope_CAPTION_ordinal) (Or.inl (Nat.ne_of_lt (Nat.lt_of_lt_of_le E_Scope_CAPTION.lt (Nat.le_of_eq g16.symm))))) (Or.inl (Nat.ne_of_lt (Nat.lt_of_lt_of_le E_Scope_CAPTION.lt (Nat.le_of_eq g16.symm))))) (Or.inl (Nat.ne_of_lt (Nat.lt_of_lt_of_le E_Scope_CAPTION.lt (Nat.le_of_eq g16.symm))))) (Or.inl (Nat.ne_of_lt (Nat.lt_of_lt_of_le E_Scope_CAPTION.lt (Nat.le_of_eq g16.symm))))) (Or.inl (Nat.ne_of_lt (Nat.lt_of_lt_of_le E_Scope_CAPTION.lt (Nat.le_of_eq g16.symm))))) (Or.inl (Nat.ne_of_lt (Nat.lt_of_lt_of_le E_Scope_CAPTION.lt (Nat.le_of_eq g16.symm))))) (Or.inl (Nat.ne_of_lt (Nat.lt_of_lt_of_le E_Scope_CAPTION.lt (Nat.le_of_eq g16.symm))))) (Or.inl (Nat.ne_of_lt (Nat.lt_of_lt_of_le E_Scope_CAPTION.lt (Nat.le_of_eq g16.symm)))))) (Or.inl (Nat.ne_of_lt (Nat.lt_of_lt_of_le (Exa.wr W32 (Exa.wr W30 (Exa.wr W28 (Exa.wr W26 (Exa.wr W24 (Exa.wr W22 (Exa.wr W20 (Exa.wr W18 (Exa.ext E16 E_Scope_CAPTION))))))))).lt (Nat.le_of_eq g33.symm))))) (Or.inl (Nat.ne_of_lt (Nat.lt_of_lt_of_le (Exa.wr W32 (Exa.wr W30 (Exa.wr W28 (Exa.wr W26 (Exa.wr W24 (Exa.wr W22 (Exa.wr W20 (Exa.wr W18 (Exa.ext E16 E_Scope_CAPTION))))))))).lt (Nat.le_of_eq g33.symm))))) (Or.inl (Nat.ne_of_lt (Nat.lt_of_lt_of_le (Exa.wr W32 (Exa.wr W30 (Exa.wr W28 (Exa.wr W26 (Exa.wr W24 (Exa.wr W22 (Exa.wr W20 (Exa.wr W18 (Exa.ext E16 E_Scope_CAPTION))))))))).lt (Nat.le_of_eq g33.symm))))) (Or.inl (Nat.ne_of_lt (Nat.lt_of_lt_of_le (Exa.wr W32 (Exa.wr W30 (Exa.wr W28 (Exa.wr W26 (Exa.wr W24 (Exa.wr W22 (Exa.wr W20 (Exa.wr W18 (Exa.ext E16 E_Scope_CAPTION))))))))).lt (Nat.le_of_eq g33.symm))))) (Or.inl (Nat.ne_of_lt (Nat.lt_of_lt_of_le (Exa.wr W32 (Exa.wr W30 (Exa.wr W28 (Exa.wr W26 (Exa.wr W24 (Exa.wr W22 (Exa.wr W20 (Exa.wr W18 (Exa.ext E16 E_Scope_CAPTION))))))))).lt (Nat.le_of_eq g33.symm))))) (Or.inl (Nat.ne_of_lt (Nat.lt_of_lt_of_le (Exa.wr W32 (Exa.wr W30 (Exa.wr W28 (Exa.wr W26 (Exa.wr W24 (Exa.wr W22 (Exa.wr W20 (Exa.wr W18 (Exa.ext E16 E_Scope_CAPTION))))))))).lt (Nat.le_of_eq g33.symm))))) (Or.inl (Nat.ne_of_lt (Nat.lt_of_lt_of_le (Exa.wr W32 (Exa.wr W30 (Exa.wr W28 (Exa.wr W26 (Exa.wr W24 (Exa.wr W22 (Exa.wr W20 (Exa.wr W18 (Exa.ext E16 E_Scope_CAPTION))))))))).lt (Nat.le_of_eq g33.symm))))) (Or.inl (Nat.ne_of_lt (Nat.lt_of_lt_of_le (Exa.wr W32 (Exa.wr W30 (Exa.wr W28 (Exa.wr W26 (Exa.wr W24 (Exa.wr W22 (Exa.wr W20 (Exa.wr W18 (Exa.ext E16 E_Scope_CAPTION))))))))).lt (Nat.le_of_eq g33.symm)))))
  have f64 := (Fld.other W41 (Fld.other W40 (Fld.other W39 (Fld.other W38 (Fld.other W37 (Fld.other W36 (Fld.other W35 (Fld.other W34 (Fld.ext E33 (Fld.other W32 (Fld.other W30 (Fld.other W28 (Fld.other W26 (Fld.other W24 (Fld.other W22 (Fld.other W20 (Fld.other W18 (Fld.ext E16 F_Scope_EACH_ordinal) (Or.inl (Nat.ne_of_lt (Nat.lt_of_lt_of_le E_Scope_EACH.lt (Nat.le_of_eq g16.symm))))) (Or.inl (Nat.ne_of_lt (Nat.lt_of_lt_of_le E_Scope_EACH.lt (Nat.le_of_eq g16.symm))))) (Or.inl (Nat.ne_of_lt (Nat.lt_of_lt_of_le E_Scope_EACH.lt (Nat.le_of_eq g16.symm))))) (Or.inl (Nat.ne_of_lt (Nat.lt_of_lt_of_le E_Scope_EACH.lt (Nat.le_of_eq g16.symm))))) (Or.inl (Nat.ne_of_lt (Nat.lt_of_lt_of_le E_Scope_EACH.lt (Nat.le_of_eq g16.symm))))) (Or.inl (Nat.ne_of_lt (Nat.lt_of_lt_of_le E_Scope_EACH.lt (Nat.le_of_eq g16.symm))))) (Or.inl (Nat.ne_of_lt (Nat.lt_of_lt_of_le E_Scope_EACH.lt (Nat.le_of_eq g16.symm))))) (Or.inl (Nat.ne_of_lt (Nat.lt_of_lt_of_le E_Scope_EACH.lt (Nat.le_of_eq g16.symm)))))) (Or.inl (Nat.ne_of_lt (Nat.lt_of_lt_of_le (Exa.wr W32 (Exa.wr W30 (Exa.wr W28 (Exa.wr W26 (Exa.wr W24 (Exa.wr W22 (Exa.wr W20 (Exa.wr W18 (Exa.ext E16 E_Scope_EACH))))))))).lt (Nat.le_of_eq g33.symm))))) (Or.inl (Nat.ne_of_lt (Nat.lt_of_lt_of_le (Exa.wr W32 (Exa.wr W30 (Exa.wr W28 (Exa.wr W26 (Exa.wr W24 (Exa.wr W22 (Exa.wr W20 (Exa.wr W18 (Exa.ext E16 E_Scope_EACH))))))))).lt (Nat.le_of_eq g33.symm))))) (Or.inl (Nat.ne_of_lt (Nat.lt_of_lt_of_le (Exa.wr W32 (Exa.wr W30 (Exa.wr W28 (Exa.wr W26 (Exa.wr W24 (Exa.wr W22 (Exa.wr W20 (Exa.wr W18 (Exa.ext E16 E_Scope_EACH))))))))).lt (Nat.le_of_eq g33.symm))))) (Or.inl (Nat.ne_of_lt (Nat.lt_of_lt_of_le (Exa.wr W32 (Exa.wr W30 (Exa.wr W28 (Exa.wr W26 (Exa.wr W24 (Exa.wr W22 (Exa.wr W20 (Exa.wr W18 (Exa.ext E16 E_Scope_EACH))))))))).lt (Nat.le_of_eq g33.symm))))) (Or.inl (Nat.ne_of_lt (Nat.lt_of_lt_of_le (Exa.wr W32 (Exa.wr W30 (Exa.wr W28 (Exa.wr W26 (Exa.wr W24 (Exa.wr W22 (Exa.wr W20 (Exa.wr W18 (Exa.ext E16 E_Scope_EACH))))))))).lt (Nat.le_of_eq g33.symm))))) (Or.inl (Nat.ne_of_lt (Nat.lt_of_lt_of_le (Exa.wr W32 (Exa.wr W30 (Exa.wr W28 (Exa.wr W26 (Exa.wr W24 (Exa.wr W22 (Exa.wr W20 (Exa.wr W18 (Exa.ext E16 E_Scope_EACH))))))))).lt (Nat.le_of_eq g33.symm))))) (Or.inl (Nat.ne_of_lt (Nat.lt_of_lt_of_le (Exa.wr W32 (Exa.wr W30 (Exa.wr W28 (Exa.wr W26 (Exa.wr W24 (Exa.wr W22 (Exa.wr W20 (Exa.wr W18 (Exa.ext E16 E_Scope_EACH))))))))).lt (Nat.le_of_eq g33.symm))))) (Or.inl (Nat.ne_of_lt (Nat.lt_of_lt_of_le (Exa.wr W32 (Exa.wr W30 (Exa.wr W28 (Exa.wr W26 (Exa.wr W24 (Exa.wr W22 (Exa.wr W20 (Exa.wr W18 (Exa.ext E16 E_Scope_EACH))))))))).lt (Nat.le_of_eq g33.symm)))))
  have f65 := (Fld.other W41 (Fld.other W40 (Fld.other W39 (Fld.other W38 (Fld.other W37 (Fld.other W36 (Fld.other W35 (Fld.other W34 (Fld.ext E33 (Fld.other W32 (Fld.other W30 (Fld.other W28 (Fld.other W26 (Fld.other W24 (Fld.other W22 (Fld.other W20 (Fld.other W18 (Fld.ext E16 F_Scope_END_ordinal) (Or.inl (Nat.ne_of_lt (Nat.lt_of_lt_of_le E_Scope_END.lt (Nat.le_of_eq g16.symm))))) (Or.inl (Nat.ne_of_lt (Nat.lt_of_lt_of_le E_Scope_END.lt (Nat.le_of_eq g16.symm))))) (Or.inl (Nat.ne_of_lt (Nat.lt_of_lt_of_le E_Scope_END.lt (Nat.le_of_eq g16.symm))))) (Or.inl (Nat.ne_of_lt (Nat.lt_of_lt_of_le E_Scope_END.lt (Nat.le_of_eq g16.symm))))) (Or.inl (Nat.ne_of_lt (Nat.lt_of_lt_of_le E_Scope_END.lt (Nat.le_of_eq g16.symm))))) (Or.inl (Nat.ne_of_lt (Nat.lt_of_lt_of_le E_Scope_END.lt (Nat.le_of_eq g16.symm))))) (Or.inl (Nat.ne_of_lt (Nat.lt_of_lt_of_le E_Scope_END.lt (Nat.le_of_eq g16.symm))))) (Or.inl (Nat.ne_of_lt (Nat.lt_of_lt_of_le E_Scope_END.lt (Nat.le_of_eq g16.symm)))))) (Or.inl (Nat.ne_of_lt (Nat.lt_of_lt_of_le (Exa.wr W32 (Exa.wr W30 (Exa.wr W28 (Exa.wr W26 (Exa.wr W24 (Exa.wr W22 (Exa.wr W20 (Exa.wr W18 (Exa.ext E16 E_Scope_END))))))))).lt (Nat.le_of_eq g33.symm))))) (Or.inl (Nat.ne_of_lt (Nat.lt_of_lt_of_le (Exa.wr W32 (Exa.wr W30 (Exa.wr W28 (Exa.wr W26 (Exa.wr W24 (Exa.wr W22 (Exa.wr W20 (Exa.wr W18 (Exa.ext E16 E_Scope_END))))))))).lt (Nat.le_of_eq g33.symm))))) (Or.inl (Nat.ne_of_lt (Nat.lt_of_lt_of_le (Exa.wr W32 (Exa.wr W30 (Exa.wr W28 (Exa.wr W26 (Exa.wr W24 (Exa.wr W22 (Exa.wr W20 (Exa.wr W18 (Exa.ext E16 E_Scope_END))))))))).lt (Nat.le_of_eq g33.symm))))) (Or.inl (Nat.ne_of_lt (Nat.lt_of_lt_of_le (Exa.wr W32 (Exa.wr W30 (Exa.wr W28 (Exa.wr W26 (Exa.wr W24 (Exa.wr W22 (Exa.wr W20 (Exa.wr W18 (Exa.ext E16 E_Scope_END))))))))).lt (Nat.le_of_eq g33.symm))))) (Or.inl (Nat.ne_of_lt (Nat.lt_of_lt_of_le (Exa.wr W32 (Exa.wr W30 (Exa.wr W28 (Exa.wr W26 (Exa.wr W24 (Exa.wr W22 (Exa.wr W20 (Exa.wr W18 (Exa.ext E16 E_Scope_END))))))))).lt (Nat.le_of_eq g33.symm))))) (Or.inl (Nat.ne_of_lt (Nat.lt_of_lt_of_le (Exa.wr W32 (Exa.wr W30 (Exa.wr W28 (Exa.wr W26 (Exa.wr W24 (Exa.wr W22 (Exa.wr W20 (Exa.wr W18 (Exa.ext E16 E_Scope_END))))))))).lt (Nat.le_of_eq g33.symm))))) (Or.inl (Nat.ne_of_lt (Nat.lt_of_lt_of_le (Exa.wr W32 (Exa.wr W30 (Exa.wr W28 (Exa.wr W26 (Exa.wr W24 (Exa.wr W22 (Exa.wr W20 (Exa.wr W18 (Exa.ext E16 E_Scope_END))))))))).lt (Nat.le_of_eq g33.symm))))) (Or.inl (Nat.ne_of_lt (Nat.lt_of_lt_of_le (Exa.wr W32 (Exa.wr W30 (Exa.wr W28 (Exa.wr W26 (Exa.wr W24 (Exa.wr W22 (Exa.wr W20 (Exa.wr W18 (Exa.ext E16 E_Scope_END))))))))).lt (Nat.le_of_eq g33.symm)))))
  have f66 := (Exa.wr W41 (Exa.wr W40 (Exa.wr W39 (Exa.wr W38 (Exa.wr W37 (Exa.wr W36 (Exa.wr W35 (Exa.wr W34 (Exa.ext E33 (Exa.wr W32 (Exa.wr W30 (Exa.wr W28 (Exa.wr W26 (Exa.wr W24 (Exa.wr W22 (Exa.wr W20 (Exa.wr W18 Ex16)))))))))))))))))
  have f67 := (Arv.other (Arv.other (Arv.other (Arv.other (Arv.other (Arv.other (Arv.other (Arv.other (V32.ext E33) W34 (Nat.ne_of_lt (Nat.lt_of_lt_of_le V32.lt (Nat.le_of_eq g33.symm)))) W35 (Nat.ne_of_lt (Nat.lt_of_lt_of_le V32.lt (Nat.le_of_eq g33.symm)))) W36 (Nat.ne_of_lt (Nat.lt_of_lt_of_le V32.lt (Nat.le_of_eq g33.symm)))) W37 (Nat.ne_of_lt (Nat.lt_of_lt_of_le V32.lt (Nat.le_of_eq g33.symm)))) W38 (Nat.ne_of_lt (Nat.lt_of_lt_of_le V32.lt (Nat.le_of_eq g33.symm)))) W39 (Nat.ne_of_lt (Nat.lt_of_lt_of_le V32.lt (Nat.le_of_eq g33.symm)))) W40 (Nat.ne_of_lt (Nat.lt_of_lt_of_le V32.lt (Nat.le_of_eq g33.symm)))) W41 (Nat.ne_of_lt (Nat.lt_of_lt_of_le V32.lt (Nat.le_of_eq g33.symm))))
  have f68 := (Exa.wr W41 (Exa.wr W40 (Exa.wr W39 (Exa.wr W38 (Exa.wr W37 (Exa.wr W36 (Exa.wr W35 (Exa.wr W34 Ex33))))))))
  have Zs69 : n0 ≤ h41.size := (Nat.le_trans (Nat.le_trans (Nat.le_trans (Nat.le_trans (Nat.le_trans (Nat.le_trans (Nat.le_trans (Nat.le_trans (Nat.le_trans (Nat.le_trans (Nat.le_trans (Nat.le_trans (Nat.le_trans (Nat.le_trans (Nat.le_trans (Nat.le_trans (Nat.le_trans (Nat.le_trans Z0 E16.1) (Keep.of_wr W18).1) (Keep.of_wr W20).1) (Keep.of_wr W22).1) (Keep.of_wr W24).1) (Keep.of_wr W26).1) (Keep.of_wr W28).1) (Keep.of_wr W30).1) (Keep.of_wr W32).1) E33.1) (Keep.of_wr W34).1) (Keep.of_wr W35).1) (Keep.of_wr W36).1) (Keep.of_wr W37).1) (Keep.of_wr W38).1) (Keep.of_wr W39).1) (Keep.of_wr W40).1) (Keep.of_wr W41).1)
  rcases own_m8 p1 with hr70 | hr70 | hr70 | hr70 | hr70 | hr70 | hr70 | hr70
  · rw [hr70]
    refine own_step (S' := (T41.setTop (mkF m 100 #[.val (.int p1), .val (.ref b16), .val (.ref b33), .val (.int (0 : Int32))] []))) (fun _ k => XS.istoreN X41.here hx rfl (hb hby at_99) rfl (l' := #[.val (.int p1), .val (.ref b16), .val (.ref b33), .val (.int (0 : Int32))]) rfl k) ?_
    refine own_step (S' := (T41.setTop (mkF m 101 #[.val (.int p1), .val (.ref b16), .val (.ref b33), .val (.int (0 : Int32))] [(.ref b16)]))) (fun _ k => XS.aloadN X41.here hx rfl (hb hby at_100) rfl rfl k) ?_
    refine own_step (S' := (T41.setTop (mkF m 102 #[.val (.int p1), .val (.ref b16), .val (.ref b33), .val (.int (0 : Int32))] [(.int (0 : Int32)), (.ref b16)]))) (fun _ k => XS.iloadN X41.here hx rfl (hb hby at_101) rfl k) ?_
    obtain ⟨cl71, Ar71, q71, S71, Nn71, H71, G71⟩ := f67
    have hin71 : ¬ ((0 : Int32) < 0 ∨ cl71.slots.size ≤ ((0 : Int32)).toNatClampNeg) := inb_of S71 ⟨by decide, by decide⟩
    have hat71 : cl71.slots[((0 : Int32)).toNatClampNeg]? = some (.ref a_Scope_WHOLE) := Has.at H71 hin71 rfl
    refine own_step (S' := (T41.setTop (mkF m 103 #[.val (.int p1), .val (.ref b16), .val (.ref b33), .val (.int (0 : Int32))] [(.ref a_Scope_WHOLE)]))) (fun _ k => X41.aaload hx (j := (0 : Int32)) (v := (.ref a_Scope_WHOLE)) (by rw [e41]; exact Ar71.1) (State.isArrayOf_alike hZ.alike Ar71.2.1) rfl Ar71.2.2 hin71 hat71 (g := (mkF m 102 #[.val (.int p1), .val (.ref b16), .val (.ref b33), .val (.int (0 : Int32))] [(.int (0 : Int32)), (.ref b16)])) rfl rfl (hb hby at_102) _ k) ?_
    obtain ⟨_, T72, L72, X72, ⟨rfl, N72q, e72⟩, st72⟩ := own_virt (argsL := []) (rest := []) X41 hx hZ hown (hw _ (List.mem_of_getElem? (i := 21) rfl)) (hw _ (List.mem_of_getElem? (i := 22) rfl)) (notFace_of_selects (args := #[]) (mvT hZ (hw _ (List.mem_of_getElem? (i := 24) rfl)))) (hw _ (List.mem_of_getElem? (i := 24) rfl)) (hw _ (List.mem_of_getElem? (i := 23) rfl)) (by decide) (hw _ (List.mem_of_getElem? (i := 25) rfl)) (hw _ (List.mem_of_getElem? (i := 3) rfl)) e41 f43 (hM := rm1_0 l Z a0 hw [] a_Scope_LINE a_Scope_SENTENCE a_Scope_WHOLE h41 n0 Zs69 f46 f52 (Fld.ne f58 f59 (by decide)) (Fld.ne f58 f60 (by decide))) (g := (mkF m 103 #[.val (.int p1), .val (.ref b16), .val (.ref b33), .val (.int (0 : Int32))] [(.ref a_Scope_WHOLE)])) (hg := rfl) (hsize := by rw [hml]; rfl) (hlen := lenOf pd_0 rfl) (hstack := rfl) (W := 0) (hW := by show 2 * 0 + _ ≤ _; exact Nat.le_of_eq rfl) (hd := (hb hby at_103)) (hf := by decide) (hl := by decide) (hc := by decide) (hs := by decide)
    have N72 := Fr.app N41 N72q
    refine own_step (S' := (T72.setTop (mkF m 106 #[.val (.int p1), .val (.ref b16), .val (.ref b33), .val (.int (0 : Int32))] [(.int (0 : Int32))]))) (fun _ k => st72 _ k) ?_
    refine own_step (S' := (T72.setTop (mkF m 107 #[.val (.int p1), .val (.ref b16), .val (.ref b33), .val (.int (0 : Int32))] [(.ref b33), (.int (0 : Int32))]))) (fun _ k => XS.aloadN X72.here hx rfl (hb hby at_106) rfl rfl k) ?_
    refine own_step (S' := (T72.setTop (mkF m 108 #[.val (.int p1), .val (.ref b16), .val (.ref b33), .val (.int (0 : Int32))] [(.int (0 : Int32)), (.ref b33), (.int (0 : Int32))]))) (fun _ k => XS.iloadN X72.here hx rfl (hb hby at_107) rfl k) ?_
    obtain ⟨cl73, Ar73, q73, S73, Nn73, H73, G73⟩ := V41
    have hin73 : ¬ ((0 : Int32) < 0 ∨ cl73.slots.size ≤ ((0 : Int32)).toNatClampNeg) := inb_of S73 ⟨by decide, by decide⟩
    have hat73 : cl73.slots[((0 : Int32)).toNatClampNeg]? = some (.int (0 : Int32)) := Has.at H73 hin73 rfl
    refine own_step (S' := (T72.setTop (mkF m 109 #[.val (.int p1), .val (.ref b16), .val (.ref b33), .val (.int (0 : Int32))] [(.int (0 : Int32)), (.int (0 : Int32))]))) (fun _ k => X72.baloadBooleans hx (j := (0 : Int32)) (v := (.int (0 : Int32))) (by rw [e72]; exact Ar73.1) (State.isArrayOf_alike hZ.alike Ar73.2.1) Ar73.2.2 hin73 hat73 (g := (mkF m 108 #[.val (.int p1), .val (.ref b16), .val (.ref b33), .val (.int (0 : Int32))] [(.int (0 : Int32)), (.ref b33), (.int (0 : Int32))])) rfl rfl (hb hby at_108) _ k) ?_
    refine own_step (S' := (T72.setTop (mkF m 112 #[.val (.int p1), .val (.ref b16), .val (.ref b33), .val (.int (0 : Int32))] []))) (fun _ k => XS.icmpNo X72.here hx rfl (hb hby at_109) rfl (teq (by decide : (0 : Int32) = (0 : Int32))).2 k) ?_
    refine own_step (S' := (T72.setTop (mkF m 113 #[.val (.int p1), .val (.ref b16), .val (.ref b33), .val (.int (0 : Int32))] [(.int (1 : Int32))]))) (fun _ k => XS.iconst X72.here hx rfl (hb hby at_112) k) ?_
    refine own_step (S' := (T72.setTop (mkF m 117 #[.val (.int p1), .val (.ref b16), .val (.ref b33), .val (.int (0 : Int32))] [(.int (1 : Int32))]))) (fun _ k => XS.goto X72.here hx rfl (pc0 := 113) (pc' := 117) rfl (hb hby at_113) (by decide) (by decide) k) ?_
    refine own_retN X72 hx hlk hret (by simp) (by decide) (hb hby at_117) (by decide) (by decide) ?_
    try rw [e72]
    exact ⟨rfl, N72⟩
  · rw [hr70]
    refine own_step (S' := (T41.setTop (mkF m 100 #[.val (.int p1), .val (.ref b16), .val (.ref b33), .val (.int (1 : Int32))] []))) (fun _ k => XS.istoreN X41.here hx rfl (hb hby at_99) rfl (l' := #[.val (.int p1), .val (.ref b16), .val (.ref b33), .val (.int (1 : Int32))]) rfl k) ?_
    refine own_step (S' := (T41.setTop (mkF m 101 #[.val (.int p1), .val (.ref b16), .val (.ref b33), .val (.int (1 : Int32))] [(.ref b16)]))) (fun _ k => XS.aloadN X41.here hx rfl (hb hby at_100) rfl rfl k) ?_
    refine own_step (S' := (T41.setTop (mkF m 102 #[.val (.int p1), .val (.ref b16), .val (.ref b33), .val (.int (1 : Int32))] [(.int (1 : Int32)), (.ref b16)]))) (fun _ k => XS.iloadN X41.here hx rfl (hb hby at_101) rfl k) ?_
    obtain ⟨cl74, Ar74, q74, S74, Nn74, H74, G74⟩ := f67
    have hin74 : ¬ ((1 : Int32) < 0 ∨ cl74.slots.size ≤ ((1 : Int32)).toNatClampNeg) := inb_of S74 ⟨by decide, by decide⟩
    have hat74 : cl74.slots[((1 : Int32)).toNatClampNeg]? = some (.ref a_Scope_EACH) := Has.at H74 hin74 rfl
    refine own_step (S' := (T41.setTop (mkF m 103 #[.val (.int p1), .val (.ref b16), .val (.ref b33), .val (.int (1 : Int32))] [(.ref a_Scope_EACH)]))) (fun _ k => X41.aaload hx (j := (1 : Int32)) (v := (.ref a_Scope_EACH)) (by rw [e41]; exact Ar74.1) (State.isArrayOf_alike hZ.alike Ar74.2.1) rfl Ar74.2.2 hin74 hat74 (g := (mkF m 102 #[.val (.int p1), .val (.ref b16), .val (.ref b33), .val (.int (1 : Int32))] [(.int (1 : Int32)), (.ref b16)])) rfl rfl (hb hby at_102) _ k) ?_
    obtain ⟨_, T75, L75, X75, ⟨rfl, N75q, e75⟩, st75⟩ := own_virt (argsL := []) (rest := []) X41 hx hZ hown (hw _ (List.mem_of_getElem? (i := 21) rfl)) (hw _ (List.mem_of_getElem? (i := 22) rfl)) (notFace_of_selects (args := #[]) (mvT hZ (hw _ (List.mem_of_getElem? (i := 24) rfl)))) (hw _ (List.mem_of_getElem? (i := 24) rfl)) (hw _ (List.mem_of_getElem? (i := 23) rfl)) (by decide) (hw _ (List.mem_of_getElem? (i := 25) rfl)) (hw _ (List.mem_of_getElem? (i := 3) rfl)) e41 f45 (hM := rm1_1 l Z a0 hw [] a_Scope_LINE a_Scope_SENTENCE a_Scope_EACH h41 n0 Zs69 f46 f52 (Fld.ne f64 f59 (by decide)) (Fld.ne f64 f60 (by decide))) (g := (mkF m 103 #[.val (.int p1), .val (.ref b16), .val (.ref b33), .val (.int (1 : Int32))] [(.ref a_Scope_EACH)])) (hg := rfl) (hsize := by rw [hml]; rfl) (hlen := lenOf pd_0 rfl) (hstack := rfl) (W := 0) (hW := by show 2 * 0 + _ ≤ _; exact Nat.le_of_eq rfl) (hd := (hb hby at_103)) (hf := by decide) (hl := by decide) (hc := by decide) (hs := by decide)
    have N75 := Fr.app N41 N75q
    refine own_step (S' := (T75.setTop (mkF m 106 #[.val (.int p1), .val (.ref b16), .val (.ref b33), .val (.int (1 : Int32))] [(.int (0 : Int32))]))) (fun _ k => st75 _ k) ?_
    refine own_step (S' := (T75.setTop (mkF m 107 #[.val (.int p1), .val (.ref b16), .val (.ref b33), .val (.int (1 : Int32))] [(.ref b33), (.int (0 : Int32))]))) (fun _ k => XS.aloadN X75.here hx rfl (hb hby at_106) rfl rfl k) ?_
    refine own_step (S' := (T75.setTop (mkF m 108 #[.val (.int p1), .val (.ref b16), .val (.ref b33), .val (.int (1 : Int32))] [(.int (1 : Int32)), (.ref b33), (.int (0 : Int32))]))) (fun _ k => XS.iloadN X75.here hx rfl (hb hby at_107) rfl k) ?_
    obtain ⟨cl76, Ar76, q76, S76, Nn76, H76, G76⟩ := V41
    have hin76 : ¬ ((1 : Int32) < 0 ∨ cl76.slots.size ≤ ((1 : Int32)).toNatClampNeg) := inb_of S76 ⟨by decide, by decide⟩
    have hat76 : cl76.slots[((1 : Int32)).toNatClampNeg]? = some (.int (0 : Int32)) := Has.at H76 hin76 rfl
    refine own_step (S' := (T75.setTop (mkF m 109 #[.val (.int p1), .val (.ref b16), .val (.ref b33), .val (.int (1 : Int32))] [(.int (0 : Int32)), (.int (0 : Int32))]))) (fun _ k => X75.baloadBooleans hx (j := (1 : Int32)) (v := (.int (0 : Int32))) (by rw [e75]; exact Ar76.1) (State.isArrayOf_alike hZ.alike Ar76.2.1) Ar76.2.2 hin76 hat76 (g := (mkF m 108 #[.val (.int p1), .val (.ref b16), .val (.ref b33), .val (.int (1 : Int32))] [(.int (1 : Int32)), (.ref b33), (.int (0 : Int32))])) rfl rfl (hb hby at_108) _ k) ?_
    refine own_step (S' := (T75.setTop (mkF m 112 #[.val (.int p1), .val (.ref b16), .val (.ref b33), .val (.int (1 : Int32))] []))) (fun _ k => XS.icmpNo X75.here hx rfl (hb hby at_109) rfl (teq (by decide : (0 : Int32) = (0 : Int32))).2 k) ?_
    refine own_step (S' := (T75.setTop (mkF m 113 #[.val (.int p1), .val (.ref b16), .val (.ref b33), .val (.int (1 : Int32))] [(.int (1 : Int32))]))) (fun _ k => XS.iconst X75.here hx rfl (hb hby at_112) k) ?_
    refine own_step (S' := (T75.setTop (mkF m 117 #[.val (.int p1), .val (.ref b16), .val (.ref b33), .val (.int (1 : Int32))] [(.int (1 : Int32))]))) (fun _ k => XS.goto X75.here hx rfl (pc0 := 113) (pc' := 117) rfl (hb hby at_113) (by decide) (by decide) k) ?_
    refine own_retN X75 hx hlk hret (by simp) (by decide) (hb hby at_117) (by decide) (by decide) ?_
    try rw [e75]
    exact ⟨rfl, N75⟩
  · rw [hr70]
    refine own_step (S' := (T41.setTop (mkF m 100 #[.val (.int p1), .val (.ref b16), .val (.ref b33), .val (.int (2 : Int32))] []))) (fun _ k => XS.istoreN X41.here hx rfl (hb hby at_99) rfl (l' := #[.val (.int p1), .val (.ref b16), .val (.ref b33), .val (.int (2 : Int32))]) rfl k) ?_
    refine own_step (S' := (T41.setTop (mkF m 101 #[.val (.int p1), .val (.ref b16), .val (.ref b33), .val (.int (2 : Int32))] [(.ref b16)]))) (fun _ k => XS.aloadN X41.here hx rfl (hb hby at_100) rfl rfl k) ?_
    refine own_step (S' := (T41.setTop (mkF m 102 #[.val (.int p1), .val (.ref b16), .val (.ref b33), .val (.int (2 : Int32))] [(.int (2 : Int32)), (.ref b16)]))) (fun _ k => XS.iloadN X41.here hx rfl (hb hby at_101) rfl k) ?_
    obtain ⟨cl77, Ar77, q77, S77, Nn77, H77, G77⟩ := f67
    have hin77 : ¬ ((2 : Int32) < 0 ∨ cl77.slots.size ≤ ((2 : Int32)).toNatClampNeg) := inb_of S77 ⟨by decide, by decide⟩
    have hat77 : cl77.slots[((2 : Int32)).toNatClampNeg]? = some (.ref a_Scope_LINE) := Has.at H77 hin77 rfl
    refine own_step (S' := (T41.setTop (mkF m 103 #[.val (.int p1), .val (.ref b16), .val (.ref b33), .val (.int (2 : Int32))] [(.ref a_Scope_LINE)]))) (fun _ k => X41.aaload hx (j := (2 : Int32)) (v := (.ref a_Scope_LINE)) (by rw [e41]; exact Ar77.1) (State.isArrayOf_alike hZ.alike Ar77.2.1) rfl Ar77.2.2 hin77 hat77 (g := (mkF m 102 #[.val (.int p1), .val (.ref b16), .val (.ref b33), .val (.int (2 : Int32))] [(.int (2 : Int32)), (.ref b16)])) rfl rfl (hb hby at_102) _ k) ?_
    obtain ⟨_, T78, L78, X78, ⟨rfl, N78q, e78⟩, st78⟩ := own_virt (argsL := []) (rest := []) X41 hx hZ hown (hw _ (List.mem_of_getElem? (i := 21) rfl)) (hw _ (List.mem_of_getElem? (i := 22) rfl)) (notFace_of_selects (args := #[]) (mvT hZ (hw _ (List.mem_of_getElem? (i := 24) rfl)))) (hw _ (List.mem_of_getElem? (i := 24) rfl)) (hw _ (List.mem_of_getElem? (i := 23) rfl)) (by decide) (hw _ (List.mem_of_getElem? (i := 25) rfl)) (hw _ (List.mem_of_getElem? (i := 3) rfl)) e41 f47 (hM := rm1_2 l Z a0 hw [] a_Scope_LINE a_Scope_SENTENCE  h41 n0 Zs69 f46 f52 (Fld.ne f59 f60 (by decide))) (g := (mkF m 103 #[.val (.int p1), .val (.ref b16), .val (.ref b33), .val (.int (2 : Int32))] [(.ref a_Scope_LINE)])) (hg := rfl) (hsize := by rw [hml]; rfl) (hlen := lenOf pd_0 rfl) (hstack := rfl) (W := 0) (hW := by show 2 * 0 + _ ≤ _; exact Nat.le_of_eq rfl) (hd := (hb hby at_103)) (hf := by decide) (hl := by decide) (hc := by decide) (hs := by decide)
    have N78 := Fr.app N41 N78q
    refine own_step (S' := (T78.setTop (mkF m 106 #[.val (.int p1), .val (.ref b16), .val (.ref b33), .val (.int (2 : Int32))] [(.int (1 : Int32))]))) (fun _ k => st78 _ k) ?_
    refine own_step (S' := (T78.setTop (mkF m 107 #[.val (.int p1), .val (.ref b16), .val (.ref b33), .val (.int (2 : Int32))] [(.ref b33), (.int (1 : Int32))]))) (fun _ k => XS.aloadN X78.here hx rfl (hb hby at_106) rfl rfl k) ?_
    refine own_step (S' := (T78.setTop (mkF m 108 #[.val (.int p1), .val (.ref b16), .val (.ref b33), .val (.int (2 : Int32))] [(.int (2 : Int32)), (.ref b33), (.int (1 : Int32))]))) (fun _ k => XS.iloadN X78.here hx rfl (hb hby at_107) rfl k) ?_
    obtain ⟨cl79, Ar79, q79, S79, Nn79, H79, G79⟩ := V41
    have hin79 : ¬ ((2 : Int32) < 0 ∨ cl79.slots.size ≤ ((2 : Int32)).toNatClampNeg) := inb_of S79 ⟨by decide, by decide⟩
    have hat79 : cl79.slots[((2 : Int32)).toNatClampNeg]? = some (.int (1 : Int32)) := Has.at H79 hin79 rfl
    refine own_step (S' := (T78.setTop (mkF m 109 #[.val (.int p1), .val (.ref b16), .val (.ref b33), .val (.int (2 : Int32))] [(.int (1 : Int32)), (.int (1 : Int32))]))) (fun _ k => X78.baloadBooleans hx (j := (2 : Int32)) (v := (.int (1 : Int32))) (by rw [e78]; exact Ar79.1) (State.isArrayOf_alike hZ.alike Ar79.2.1) Ar79.2.2 hin79 hat79 (g := (mkF m 108 #[.val (.int p1), .val (.ref b16), .val (.ref b33), .val (.int (2 : Int32))] [(.int (2 : Int32)), (.ref b33), (.int (1 : Int32))])) rfl rfl (hb hby at_108) _ k) ?_
    refine own_step (S' := (T78.setTop (mkF m 112 #[.val (.int p1), .val (.ref b16), .val (.ref b33), .val (.int (2 : Int32))] []))) (fun _ k => XS.icmpNo X78.here hx rfl (hb hby at_109) rfl (teq (by decide : (1 : Int32) = (1 : Int32))).2 k) ?_
    refine own_step (S' := (T78.setTop (mkF m 113 #[.val (.int p1), .val (.ref b16), .val (.ref b33), .val (.int (2 : Int32))] [(.int (1 : Int32))]))) (fun _ k => XS.iconst X78.here hx rfl (hb hby at_112) k) ?_
    refine own_step (S' := (T78.setTop (mkF m 117 #[.val (.int p1), .val (.ref b16), .val (.ref b33), .val (.int (2 : Int32))] [(.int (1 : Int32))]))) (fun _ k => XS.goto X78.here hx rfl (pc0 := 113) (pc' := 117) rfl (hb hby at_113) (by decide) (by decide) k) ?_
    refine own_retN X78 hx hlk hret (by simp) (by decide) (hb hby at_117) (by decide) (by decide) ?_
    try rw [e78]
    exact ⟨rfl, N78⟩
  · rw [hr70]
    refine own_step (S' := (T41.setTop (mkF m 100 #[.val (.int p1), .val (.ref b16), .val (.ref b33), .val (.int (3 : Int32))] []))) (fun _ k => XS.istoreN X41.here hx rfl (hb hby at_99) rfl (l' := #[.val (.int p1), .val (.ref b16), .val (.ref b33), .val (.int (3 : Int32))]) rfl k) ?_
    refine own_step (S' := (T41.setTop (mkF m 101 #[.val (.int p1), .val (.ref b16), .val (.ref b33), .val (.int (3 : Int32))] [(.ref b16)]))) (fun _ k => XS.aloadN X41.here hx rfl (hb hby at_100) rfl rfl k) ?_
    refine own_step (S' := (T41.setTop (mkF m 102 #[.val (.int p1), .val (.ref b16), .val (.ref b33), .val (.int (3 : Int32))] [(.int (3 : Int32)), (.ref b16)]))) (fun _ k => XS.iloadN X41.here hx rfl (hb hby at_101) rfl k) ?_
    obtain ⟨cl80, Ar80, q80, S80, Nn80, H80, G80⟩ := f67
    have hin80 : ¬ ((3 : Int32) < 0 ∨ cl80.slots.size ≤ ((3 : Int32)).toNatClampNeg) := inb_of S80 ⟨by decide, by decide⟩
    have hat80 : cl80.slots[((3 : Int32)).toNatClampNeg]? = some (.ref a_Scope_LAST_LINE) := Has.at H80 hin80 rfl
    refine own_step (S' := (T41.setTop (mkF m 103 #[.val (.int p1), .val (.ref b16), .val (.ref b33), .val (.int (3 : Int32))] [(.ref a_Scope_LAST_LINE)]))) (fun _ k => X41.aaload hx (j := (3 : Int32)) (v := (.ref a_Scope_LAST_LINE)) (by rw [e41]; exact Ar80.1) (State.isArrayOf_alike hZ.alike Ar80.2.1) rfl Ar80.2.2 hin80 hat80 (g := (mkF m 102 #[.val (.int p1), .val (.ref b16), .val (.ref b33), .val (.int (3 : Int32))] [(.int (3 : Int32)), (.ref b16)])) rfl rfl (hb hby at_102) _ k) ?_
    obtain ⟨_, T81, L81, X81, ⟨rfl, N81q, e81⟩, st81⟩ := own_virt (argsL := []) (rest := []) X41 hx hZ hown (hw _ (List.mem_of_getElem? (i := 21) rfl)) (hw _ (List.mem_of_getElem? (i := 22) rfl)) (notFace_of_selects (args := #[]) (mvT hZ (hw _ (List.mem_of_getElem? (i := 24) rfl)))) (hw _ (List.mem_of_getElem? (i := 24) rfl)) (hw _ (List.mem_of_getElem? (i := 23) rfl)) (by decide) (hw _ (List.mem_of_getElem? (i := 25) rfl)) (hw _ (List.mem_of_getElem? (i := 3) rfl)) e41 f49 (hM := rm1_3 l Z a0 hw [] a_Scope_LINE a_Scope_SENTENCE a_Scope_LAST_LINE h41 n0 Zs69 f46 f52 (Fld.ne f61 f59 (by decide)) (Fld.ne f61 f60 (by decide))) (g := (mkF m 103 #[.val (.int p1), .val (.ref b16), .val (.ref b33), .val (.int (3 : Int32))] [(.ref a_Scope_LAST_LINE)])) (hg := rfl) (hsize := by rw [hml]; rfl) (hlen := lenOf pd_0 rfl) (hstack := rfl) (W := 0) (hW := by show 2 * 0 + _ ≤ _; exact Nat.le_of_eq rfl) (hd := (hb hby at_103)) (hf := by decide) (hl := by decide) (hc := by decide) (hs := by decide)
    have N81 := Fr.app N41 N81q
    refine own_step (S' := (T81.setTop (mkF m 106 #[.val (.int p1), .val (.ref b16), .val (.ref b33), .val (.int (3 : Int32))] [(.int (0 : Int32))]))) (fun _ k => st81 _ k) ?_
    refine own_step (S' := (T81.setTop (mkF m 107 #[.val (.int p1), .val (.ref b16), .val (.ref b33), .val (.int (3 : Int32))] [(.ref b33), (.int (0 : Int32))]))) (fun _ k => XS.aloadN X81.here hx rfl (hb hby at_106) rfl rfl k) ?_
    refine own_step (S' := (T81.setTop (mkF m 108 #[.val (.int p1), .val (.ref b16), .val (.ref b33), .val (.int (3 : Int32))] [(.int (3 : Int32)), (.ref b33), (.int (0 : Int32))]))) (fun _ k => XS.iloadN X81.here hx rfl (hb hby at_107) rfl k) ?_
    obtain ⟨cl82, Ar82, q82, S82, Nn82, H82, G82⟩ := V41
    have hin82 : ¬ ((3 : Int32) < 0 ∨ cl82.slots.size ≤ ((3 : Int32)).toNatClampNeg) := inb_of S82 ⟨by decide, by decide⟩
    have hat82 : cl82.slots[((3 : Int32)).toNatClampNeg]? = some (.int (0 : Int32)) := Has.at H82 hin82 rfl
    refine own_step (S' := (T81.setTop (mkF m 109 #[.val (.int p1), .val (.ref b16), .val (.ref b33), .val (.int (3 : Int32))] [(.int (0 : Int32)), (.int (0 : Int32))]))) (fun _ k => X81.baloadBooleans hx (j := (3 : Int32)) (v := (.int (0 : Int32))) (by rw [e81]; exact Ar82.1) (State.isArrayOf_alike hZ.alike Ar82.2.1) Ar82.2.2 hin82 hat82 (g := (mkF m 108 #[.val (.int p1), .val (.ref b16), .val (.ref b33), .val (.int (3 : Int32))] [(.int (3 : Int32)), (.ref b33), (.int (0 : Int32))])) rfl rfl (hb hby at_108) _ k) ?_
    refine own_step (S' := (T81.setTop (mkF m 112 #[.val (.int p1), .val (.ref b16), .val (.ref b33), .val (.int (3 : Int32))] []))) (fun _ k => XS.icmpNo X81.here hx rfl (hb hby at_109) rfl (teq (by decide : (0 : Int32) = (0 : Int32))).2 k) ?_
    refine own_step (S' := (T81.setTop (mkF m 113 #[.val (.int p1), .val (.ref b16), .val (.ref b33), .val (.int (3 : Int32))] [(.int (1 : Int32))]))) (fun _ k => XS.iconst X81.here hx rfl (hb hby at_112) k) ?_
    refine own_step (S' := (T81.setTop (mkF m 117 #[.val (.int p1), .val (.ref b16), .val (.ref b33), .val (.int (3 : Int32))] [(.int (1 : Int32))]))) (fun _ k => XS.goto X81.here hx rfl (pc0 := 113) (pc' := 117) rfl (hb hby at_113) (by decide) (by decide) k) ?_
    refine own_retN X81 hx hlk hret (by simp) (by decide) (hb hby at_117) (by decide) (by decide) ?_
    try rw [e81]
    exact ⟨rfl, N81⟩
  · rw [hr70]
    refine own_step (S' := (T41.setTop (mkF m 100 #[.val (.int p1), .val (.ref b16), .val (.ref b33), .val (.int (4 : Int32))] []))) (fun _ k => XS.istoreN X41.here hx rfl (hb hby at_99) rfl (l' := #[.val (.int p1), .val (.ref b16), .val (.ref b33), .val (.int (4 : Int32))]) rfl k) ?_
    refine own_step (S' := (T41.setTop (mkF m 101 #[.val (.int p1), .val (.ref b16), .val (.ref b33), .val (.int (4 : Int32))] [(.ref b16)]))) (fun _ k => XS.aloadN X41.here hx rfl (hb hby at_100) rfl rfl k) ?_
    refine own_step (S' := (T41.setTop (mkF m 102 #[.val (.int p1), .val (.ref b16), .val (.ref b33), .val (.int (4 : Int32))] [(.int (4 : Int32)), (.ref b16)]))) (fun _ k => XS.iloadN X41.here hx rfl (hb hby at_101) rfl k) ?_
    obtain ⟨cl83, Ar83, q83, S83, Nn83, H83, G83⟩ := f67
    have hin83 : ¬ ((4 : Int32) < 0 ∨ cl83.slots.size ≤ ((4 : Int32)).toNatClampNeg) := inb_of S83 ⟨by decide, by decide⟩
    have hat83 : cl83.slots[((4 : Int32)).toNatClampNeg]? = some (.ref a_Scope_END) := Has.at H83 hin83 rfl
    refine own_step (S' := (T41.setTop (mkF m 103 #[.val (.int p1), .val (.ref b16), .val (.ref b33), .val (.int (4 : Int32))] [(.ref a_Scope_END)]))) (fun _ k => X41.aaload hx (j := (4 : Int32)) (v := (.ref a_Scope_END)) (by rw [e41]; exact Ar83.1) (State.isArrayOf_alike hZ.alike Ar83.2.1) rfl Ar83.2.2 hin83 hat83 (g := (mkF m 102 #[.val (.int p1), .val (.ref b16), .val (.ref b33), .val (.int (4 : Int32))] [(.int (4 : Int32)), (.ref b16)])) rfl rfl (hb hby at_102) _ k) ?_
    obtain ⟨_, T84, L84, X84, ⟨rfl, N84q, e84⟩, st84⟩ := own_virt (argsL := []) (rest := []) X41 hx hZ hown (hw _ (List.mem_of_getElem? (i := 21) rfl)) (hw _ (List.mem_of_getElem? (i := 22) rfl)) (notFace_of_selects (args := #[]) (mvT hZ (hw _ (List.mem_of_getElem? (i := 24) rfl)))) (hw _ (List.mem_of_getElem? (i := 24) rfl)) (hw _ (List.mem_of_getElem? (i := 23) rfl)) (by decide) (hw _ (List.mem_of_getElem? (i := 25) rfl)) (hw _ (List.mem_of_getElem? (i := 3) rfl)) e41 f51 (hM := rm1_4 l Z a0 hw [] a_Scope_LINE a_Scope_SENTENCE a_Scope_END h41 n0 Zs69 f46 f52 (Fld.ne f65 f59 (by decide)) (Fld.ne f65 f60 (by decide))) (g := (mkF m 103 #[.val (.int p1), .val (.ref b16), .val (.ref b33), .val (.int (4 : Int32))] [(.ref a_Scope_END)])) (hg := rfl) (hsize := by rw [hml]; rfl) (hlen := lenOf pd_0 rfl) (hstack := rfl) (W := 0) (hW := by show 2 * 0 + _ ≤ _; exact Nat.le_of_eq rfl) (hd := (hb hby at_103)) (hf := by decide) (hl := by decide) (hc := by decide) (hs := by decide)
    have N84 := Fr.app N41 N84q
    refine own_step (S' := (T84.setTop (mkF m 106 #[.val (.int p1), .val (.ref b16), .val (.ref b33), .val (.int (4 : Int32))] [(.int (0 : Int32))]))) (fun _ k => st84 _ k) ?_
    refine own_step (S' := (T84.setTop (mkF m 107 #[.val (.int p1), .val (.ref b16), .val (.ref b33), .val (.int (4 : Int32))] [(.ref b33), (.int (0 : Int32))]))) (fun _ k => XS.aloadN X84.here hx rfl (hb hby at_106) rfl rfl k) ?_
    refine own_step (S' := (T84.setTop (mkF m 108 #[.val (.int p1), .val (.ref b16), .val (.ref b33), .val (.int (4 : Int32))] [(.int (4 : Int32)), (.ref b33), (.int (0 : Int32))]))) (fun _ k => XS.iloadN X84.here hx rfl (hb hby at_107) rfl k) ?_
    obtain ⟨cl85, Ar85, q85, S85, Nn85, H85, G85⟩ := V41
    have hin85 : ¬ ((4 : Int32) < 0 ∨ cl85.slots.size ≤ ((4 : Int32)).toNatClampNeg) := inb_of S85 ⟨by decide, by decide⟩
    have hat85 : cl85.slots[((4 : Int32)).toNatClampNeg]? = some (.int (0 : Int32)) := Has.at H85 hin85 rfl
    refine own_step (S' := (T84.setTop (mkF m 109 #[.val (.int p1), .val (.ref b16), .val (.ref b33), .val (.int (4 : Int32))] [(.int (0 : Int32)), (.int (0 : Int32))]))) (fun _ k => X84.baloadBooleans hx (j := (4 : Int32)) (v := (.int (0 : Int32))) (by rw [e84]; exact Ar85.1) (State.isArrayOf_alike hZ.alike Ar85.2.1) Ar85.2.2 hin85 hat85 (g := (mkF m 108 #[.val (.int p1), .val (.ref b16), .val (.ref b33), .val (.int (4 : Int32))] [(.int (4 : Int32)), (.ref b33), (.int (0 : Int32))])) rfl rfl (hb hby at_108) _ k) ?_
    refine own_step (S' := (T84.setTop (mkF m 112 #[.val (.int p1), .val (.ref b16), .val (.ref b33), .val (.int (4 : Int32))] []))) (fun _ k => XS.icmpNo X84.here hx rfl (hb hby at_109) rfl (teq (by decide : (0 : Int32) = (0 : Int32))).2 k) ?_
    refine own_step (S' := (T84.setTop (mkF m 113 #[.val (.int p1), .val (.ref b16), .val (.ref b33), .val (.int (4 : Int32))] [(.int (1 : Int32))]))) (fun _ k => XS.iconst X84.here hx rfl (hb hby at_112) k) ?_
    refine own_step (S' := (T84.setTop (mkF m 117 #[.val (.int p1), .val (.ref b16), .val (.ref b33), .val (.int (4 : Int32))] [(.int (1 : Int32))]))) (fun _ k => XS.goto X84.here hx rfl (pc0 := 113) (pc' := 117) rfl (hb hby at_113) (by decide) (by decide) k) ?_
    refine own_retN X84 hx hlk hret (by simp) (by decide) (hb hby at_117) (by decide) (by decide) ?_
    try rw [e84]
    exact ⟨rfl, N84⟩
  · rw [hr70]
    refine own_step (S' := (T41.setTop (mkF m 100 #[.val (.int p1), .val (.ref b16), .val (.ref b33), .val (.int (5 : Int32))] []))) (fun _ k => XS.istoreN X41.here hx rfl (hb hby at_99) rfl (l' := #[.val (.int p1), .val (.ref b16), .val (.ref b33), .val (.int (5 : Int32))]) rfl k) ?_
    refine own_step (S' := (T41.setTop (mkF m 101 #[.val (.int p1), .val (.ref b16), .val (.ref b33), .val (.int (5 : Int32))] [(.ref b16)]))) (fun _ k => XS.aloadN X41.here hx rfl (hb hby at_100) rfl rfl k) ?_
    refine own_step (S' := (T41.setTop (mkF m 102 #[.val (.int p1), .val (.ref b16), .val (.ref b33), .val (.int (5 : Int32))] [(.int (5 : Int32)), (.ref b16)]))) (fun _ k => XS.iloadN X41.here hx rfl (hb hby at_101) rfl k) ?_
    obtain ⟨cl86, Ar86, q86, S86, Nn86, H86, G86⟩ := f67
    have hin86 : ¬ ((5 : Int32) < 0 ∨ cl86.slots.size ≤ ((5 : Int32)).toNatClampNeg) := inb_of S86 ⟨by decide, by decide⟩
    have hat86 : cl86.slots[((5 : Int32)).toNatClampNeg]? = some (.ref a_Scope_SENTENCE) := Has.at H86 hin86 rfl
    refine own_step (S' := (T41.setTop (mkF m 103 #[.val (.int p1), .val (.ref b16), .val (.ref b33), .val (.int (5 : Int32))] [(.ref a_Scope_SENTENCE)]))) (fun _ k => X41.aaload hx (j := (5 : Int32)) (v := (.ref a_Scope_SENTENCE)) (by rw [e41]; exact Ar86.1) (State.isArrayOf_alike hZ.alike Ar86.2.1) rfl Ar86.2.2 hin86 hat86 (g := (mkF m 102 #[.val (.int p1), .val (.ref b16), .val (.ref b33), .val (.int (5 : Int32))] [(.int (5 : Int32)), (.ref b16)])) rfl rfl (hb hby at_102) _ k) ?_
    obtain ⟨_, T87, L87, X87, ⟨rfl, N87q, e87⟩, st87⟩ := own_virt (argsL := []) (rest := []) X41 hx hZ hown (hw _ (List.mem_of_getElem? (i := 21) rfl)) (hw _ (List.mem_of_getElem? (i := 22) rfl)) (notFace_of_selects (args := #[]) (mvT hZ (hw _ (List.mem_of_getElem? (i := 24) rfl)))) (hw _ (List.mem_of_getElem? (i := 24) rfl)) (hw _ (List.mem_of_getElem? (i := 23) rfl)) (by decide) (hw _ (List.mem_of_getElem? (i := 25) rfl)) (hw _ (List.mem_of_getElem? (i := 3) rfl)) e41 f53 (hM := rm1_5 l Z a0 hw [] a_Scope_LINE a_Scope_SENTENCE  h41 n0 Zs69 f46 f52 (Fld.ne f60 f59 (by decide))) (g := (mkF m 103 #[.val (.int p1), .val (.ref b16), .val (.ref b33), .val (.int (5 : Int32))] [(.ref a_Scope_SENTENCE)])) (hg := rfl) (hsize := by rw [hml]; rfl) (hlen := lenOf pd_0 rfl) (hstack := rfl) (W := 0) (hW := by show 2 * 0 + _ ≤ _; exact Nat.le_of_eq rfl) (hd := (hb hby at_103)) (hf := by decide) (hl := by decide) (hc := by decide) (hs := by decide)
    have N87 := Fr.app N41 N87q
    refine own_step (S' := (T87.setTop (mkF m 106 #[.val (.int p1), .val (.ref b16), .val (.ref b33), .val (.int (5 : Int32))] [(.int (1 : Int32))]))) (fun _ k => st87 _ k) ?_
    refine own_step (S' := (T87.setTop (mkF m 107 #[.val (.int p1), .val (.ref b16), .val (.ref b33), .val (.int (5 : Int32))] [(.ref b33), (.int (1 : Int32))]))) (fun _ k => XS.aloadN X87.here hx rfl (hb hby at_106) rfl rfl k) ?_
    refine own_step (S' := (T87.setTop (mkF m 108 #[.val (.int p1), .val (.ref b16), .val (.ref b33), .val (.int (5 : Int32))] [(.int (5 : Int32)), (.ref b33), (.int (1 : Int32))]))) (fun _ k => XS.iloadN X87.here hx rfl (hb hby at_107) rfl k) ?_
    obtain ⟨cl88, Ar88, q88, S88, Nn88, H88, G88⟩ := V41
    have hin88 : ¬ ((5 : Int32) < 0 ∨ cl88.slots.size ≤ ((5 : Int32)).toNatClampNeg) := inb_of S88 ⟨by decide, by decide⟩
    have hat88 : cl88.slots[((5 : Int32)).toNatClampNeg]? = some (.int (1 : Int32)) := Has.at H88 hin88 rfl
    refine own_step (S' := (T87.setTop (mkF m 109 #[.val (.int p1), .val (.ref b16), .val (.ref b33), .val (.int (5 : Int32))] [(.int (1 : Int32)), (.int (1 : Int32))]))) (fun _ k => X87.baloadBooleans hx (j := (5 : Int32)) (v := (.int (1 : Int32))) (by rw [e87]; exact Ar88.1) (State.isArrayOf_alike hZ.alike Ar88.2.1) Ar88.2.2 hin88 hat88 (g := (mkF m 108 #[.val (.int p1), .val (.ref b16), .val (.ref b33), .val (.int (5 : Int32))] [(.int (5 : Int32)), (.ref b33), (.int (1 : Int32))])) rfl rfl (hb hby at_108) _ k) ?_
    refine own_step (S' := (T87.setTop (mkF m 112 #[.val (.int p1), .val (.ref b16), .val (.ref b33), .val (.int (5 : Int32))] []))) (fun _ k => XS.icmpNo X87.here hx rfl (hb hby at_109) rfl (teq (by decide : (1 : Int32) = (1 : Int32))).2 k) ?_
    refine own_step (S' := (T87.setTop (mkF m 113 #[.val (.int p1), .val (.ref b16), .val (.ref b33), .val (.int (5 : Int32))] [(.int (1 : Int32))]))) (fun _ k => XS.iconst X87.here hx rfl (hb hby at_112) k) ?_
    refine own_step (S' := (T87.setTop (mkF m 117 #[.val (.int p1), .val (.ref b16), .val (.ref b33), .val (.int (5 : Int32))] [(.int (1 : Int32))]))) (fun _ k => XS.goto X87.here hx rfl (pc0 := 113) (pc' := 117) rfl (hb hby at_113) (by decide) (by decide) k) ?_
    refine own_retN X87 hx hlk hret (by simp) (by decide) (hb hby at_117) (by decide) (by decide) ?_
    try rw [e87]
    exact ⟨rfl, N87⟩
  · rw [hr70]
    refine own_step (S' := (T41.setTop (mkF m 100 #[.val (.int p1), .val (.ref b16), .val (.ref b33), .val (.int (6 : Int32))] []))) (fun _ k => XS.istoreN X41.here hx rfl (hb hby at_99) rfl (l' := #[.val (.int p1), .val (.ref b16), .val (.ref b33), .val (.int (6 : Int32))]) rfl k) ?_
    refine own_step (S' := (T41.setTop (mkF m 101 #[.val (.int p1), .val (.ref b16), .val (.ref b33), .val (.int (6 : Int32))] [(.ref b16)]))) (fun _ k => XS.aloadN X41.here hx rfl (hb hby at_100) rfl rfl k) ?_
    refine own_step (S' := (T41.setTop (mkF m 102 #[.val (.int p1), .val (.ref b16), .val (.ref b33), .val (.int (6 : Int32))] [(.int (6 : Int32)), (.ref b16)]))) (fun _ k => XS.iloadN X41.here hx rfl (hb hby at_101) rfl k) ?_
    obtain ⟨cl89, Ar89, q89, S89, Nn89, H89, G89⟩ := f67
    have hin89 : ¬ ((6 : Int32) < 0 ∨ cl89.slots.size ≤ ((6 : Int32)).toNatClampNeg) := inb_of S89 ⟨by decide, by decide⟩
    have hat89 : cl89.slots[((6 : Int32)).toNatClampNeg]? = some (.ref a_Scope_LAST_SENTENCE) := Has.at H89 hin89 rfl
    refine own_step (S' := (T41.setTop (mkF m 103 #[.val (.int p1), .val (.ref b16), .val (.ref b33), .val (.int (6 : Int32))] [(.ref a_Scope_LAST_SENTENCE)]))) (fun _ k => X41.aaload hx (j := (6 : Int32)) (v := (.ref a_Scope_LAST_SENTENCE)) (by rw [e41]; exact Ar89.1) (State.isArrayOf_alike hZ.alike Ar89.2.1) rfl Ar89.2.2 hin89 hat89 (g := (mkF m 102 #[.val (.int p1), .val (.ref b16), .val (.ref b33), .val (.int (6 : Int32))] [(.int (6 : Int32)), (.ref b16)])) rfl rfl (hb hby at_102) _ k) ?_
    obtain ⟨_, T90, L90, X90, ⟨rfl, N90q, e90⟩, st90⟩ := own_virt (argsL := []) (rest := []) X41 hx hZ hown (hw _ (List.mem_of_getElem? (i := 21) rfl)) (hw _ (List.mem_of_getElem? (i := 22) rfl)) (notFace_of_selects (args := #[]) (mvT hZ (hw _ (List.mem_of_getElem? (i := 24) rfl)))) (hw _ (List.mem_of_getElem? (i := 24) rfl)) (hw _ (List.mem_of_getElem? (i := 23) rfl)) (by decide) (hw _ (List.mem_of_getElem? (i := 25) rfl)) (hw _ (List.mem_of_getElem? (i := 3) rfl)) e41 f55 (hM := rm1_6 l Z a0 hw [] a_Scope_LINE a_Scope_SENTENCE a_Scope_LAST_SENTENCE h41 n0 Zs69 f46 f52 (Fld.ne f62 f59 (by decide)) (Fld.ne f62 f60 (by decide))) (g := (mkF m 103 #[.val (.int p1), .val (.ref b16), .val (.ref b33), .val (.int (6 : Int32))] [(.ref a_Scope_LAST_SENTENCE)])) (hg := rfl) (hsize := by rw [hml]; rfl) (hlen := lenOf pd_0 rfl) (hstack := rfl) (W := 0) (hW := by show 2 * 0 + _ ≤ _; exact Nat.le_of_eq rfl) (hd := (hb hby at_103)) (hf := by decide) (hl := by decide) (hc := by decide) (hs := by decide)
    have N90 := Fr.app N41 N90q
    refine own_step (S' := (T90.setTop (mkF m 106 #[.val (.int p1), .val (.ref b16), .val (.ref b33), .val (.int (6 : Int32))] [(.int (0 : Int32))]))) (fun _ k => st90 _ k) ?_
    refine own_step (S' := (T90.setTop (mkF m 107 #[.val (.int p1), .val (.ref b16), .val (.ref b33), .val (.int (6 : Int32))] [(.ref b33), (.int (0 : Int32))]))) (fun _ k => XS.aloadN X90.here hx rfl (hb hby at_106) rfl rfl k) ?_
    refine own_step (S' := (T90.setTop (mkF m 108 #[.val (.int p1), .val (.ref b16), .val (.ref b33), .val (.int (6 : Int32))] [(.int (6 : Int32)), (.ref b33), (.int (0 : Int32))]))) (fun _ k => XS.iloadN X90.here hx rfl (hb hby at_107) rfl k) ?_
    obtain ⟨cl91, Ar91, q91, S91, Nn91, H91, G91⟩ := V41
    have hin91 : ¬ ((6 : Int32) < 0 ∨ cl91.slots.size ≤ ((6 : Int32)).toNatClampNeg) := inb_of S91 ⟨by decide, by decide⟩
    have hat91 : cl91.slots[((6 : Int32)).toNatClampNeg]? = some (.int (0 : Int32)) := Has.at H91 hin91 rfl
    refine own_step (S' := (T90.setTop (mkF m 109 #[.val (.int p1), .val (.ref b16), .val (.ref b33), .val (.int (6 : Int32))] [(.int (0 : Int32)), (.int (0 : Int32))]))) (fun _ k => X90.baloadBooleans hx (j := (6 : Int32)) (v := (.int (0 : Int32))) (by rw [e90]; exact Ar91.1) (State.isArrayOf_alike hZ.alike Ar91.2.1) Ar91.2.2 hin91 hat91 (g := (mkF m 108 #[.val (.int p1), .val (.ref b16), .val (.ref b33), .val (.int (6 : Int32))] [(.int (6 : Int32)), (.ref b33), (.int (0 : Int32))])) rfl rfl (hb hby at_108) _ k) ?_
    refine own_step (S' := (T90.setTop (mkF m 112 #[.val (.int p1), .val (.ref b16), .val (.ref b33), .val (.int (6 : Int32))] []))) (fun _ k => XS.icmpNo X90.here hx rfl (hb hby at_109) rfl (teq (by decide : (0 : Int32) = (0 : Int32))).2 k) ?_
    refine own_step (S' := (T90.setTop (mkF m 113 #[.val (.int p1), .val (.ref b16), .val (.ref b33), .val (.int (6 : Int32))] [(.int (1 : Int32))]))) (fun _ k => XS.iconst X90.here hx rfl (hb hby at_112) k) ?_
    refine own_step (S' := (T90.setTop (mkF m 117 #[.val (.int p1), .val (.ref b16), .val (.ref b33), .val (.int (6 : Int32))] [(.int (1 : Int32))]))) (fun _ k => XS.goto X90.here hx rfl (pc0 := 113) (pc' := 117) rfl (hb hby at_113) (by decide) (by decide) k) ?_
    refine own_retN X90 hx hlk hret (by simp) (by decide) (hb hby at_117) (by decide) (by decide) ?_
    try rw [e90]
    exact ⟨rfl, N90⟩
  · rw [hr70]
    refine own_step (S' := (T41.setTop (mkF m 100 #[.val (.int p1), .val (.ref b16), .val (.ref b33), .val (.int (7 : Int32))] []))) (fun _ k => XS.istoreN X41.here hx rfl (hb hby at_99) rfl (l' := #[.val (.int p1), .val (.ref b16), .val (.ref b33), .val (.int (7 : Int32))]) rfl k) ?_
    refine own_step (S' := (T41.setTop (mkF m 101 #[.val (.int p1), .val (.ref b16), .val (.ref b33), .val (.int (7 : Int32))] [(.ref b16)]))) (fun _ k => XS.aloadN X41.here hx rfl (hb hby at_100) rfl rfl k) ?_
    refine own_step (S' := (T41.setTop (mkF m 102 #[.val (.int p1), .val (.ref b16), .val (.ref b33), .val (.int (7 : Int32))] [(.int (7 : Int32)), (.ref b16)]))) (fun _ k => XS.iloadN X41.here hx rfl (hb hby at_101) rfl k) ?_
    obtain ⟨cl92, Ar92, q92, S92, Nn92, H92, G92⟩ := f67
    have hin92 : ¬ ((7 : Int32) < 0 ∨ cl92.slots.size ≤ ((7 : Int32)).toNatClampNeg) := inb_of S92 ⟨by decide, by decide⟩
    have hat92 : cl92.slots[((7 : Int32)).toNatClampNeg]? = some (.ref a_Scope_CAPTION) := Has.at H92 hin92 rfl
    refine own_step (S' := (T41.setTop (mkF m 103 #[.val (.int p1), .val (.ref b16), .val (.ref b33), .val (.int (7 : Int32))] [(.ref a_Scope_CAPTION)]))) (fun _ k => X41.aaload hx (j := (7 : Int32)) (v := (.ref a_Scope_CAPTION)) (by rw [e41]; exact Ar92.1) (State.isArrayOf_alike hZ.alike Ar92.2.1) rfl Ar92.2.2 hin92 hat92 (g := (mkF m 102 #[.val (.int p1), .val (.ref b16), .val (.ref b33), .val (.int (7 : Int32))] [(.int (7 : Int32)), (.ref b16)])) rfl rfl (hb hby at_102) _ k) ?_
    obtain ⟨_, T93, L93, X93, ⟨rfl, N93q, e93⟩, st93⟩ := own_virt (argsL := []) (rest := []) X41 hx hZ hown (hw _ (List.mem_of_getElem? (i := 21) rfl)) (hw _ (List.mem_of_getElem? (i := 22) rfl)) (notFace_of_selects (args := #[]) (mvT hZ (hw _ (List.mem_of_getElem? (i := 24) rfl)))) (hw _ (List.mem_of_getElem? (i := 24) rfl)) (hw _ (List.mem_of_getElem? (i := 23) rfl)) (by decide) (hw _ (List.mem_of_getElem? (i := 25) rfl)) (hw _ (List.mem_of_getElem? (i := 3) rfl)) e41 f57 (hM := rm1_7 l Z a0 hw [] a_Scope_LINE a_Scope_SENTENCE a_Scope_CAPTION h41 n0 Zs69 f46 f52 (Fld.ne f63 f59 (by decide)) (Fld.ne f63 f60 (by decide))) (g := (mkF m 103 #[.val (.int p1), .val (.ref b16), .val (.ref b33), .val (.int (7 : Int32))] [(.ref a_Scope_CAPTION)])) (hg := rfl) (hsize := by rw [hml]; rfl) (hlen := lenOf pd_0 rfl) (hstack := rfl) (W := 0) (hW := by show 2 * 0 + _ ≤ _; exact Nat.le_of_eq rfl) (hd := (hb hby at_103)) (hf := by decide) (hl := by decide) (hc := by decide) (hs := by decide)
    have N93 := Fr.app N41 N93q
    refine own_step (S' := (T93.setTop (mkF m 106 #[.val (.int p1), .val (.ref b16), .val (.ref b33), .val (.int (7 : Int32))] [(.int (0 : Int32))]))) (fun _ k => st93 _ k) ?_
    refine own_step (S' := (T93.setTop (mkF m 107 #[.val (.int p1), .val (.ref b16), .val (.ref b33), .val (.int (7 : Int32))] [(.ref b33), (.int (0 : Int32))]))) (fun _ k => XS.aloadN X93.here hx rfl (hb hby at_106) rfl rfl k) ?_
    refine own_step (S' := (T93.setTop (mkF m 108 #[.val (.int p1), .val (.ref b16), .val (.ref b33), .val (.int (7 : Int32))] [(.int (7 : Int32)), (.ref b33), (.int (0 : Int32))]))) (fun _ k => XS.iloadN X93.here hx rfl (hb hby at_107) rfl k) ?_
    obtain ⟨cl94, Ar94, q94, S94, Nn94, H94, G94⟩ := V41
    have hin94 : ¬ ((7 : Int32) < 0 ∨ cl94.slots.size ≤ ((7 : Int32)).toNatClampNeg) := inb_of S94 ⟨by decide, by decide⟩
    have hat94 : cl94.slots[((7 : Int32)).toNatClampNeg]? = some (.int (0 : Int32)) := Has.at H94 hin94 rfl
    refine own_step (S' := (T93.setTop (mkF m 109 #[.val (.int p1), .val (.ref b16), .val (.ref b33), .val (.int (7 : Int32))] [(.int (0 : Int32)), (.int (0 : Int32))]))) (fun _ k => X93.baloadBooleans hx (j := (7 : Int32)) (v := (.int (0 : Int32))) (by rw [e93]; exact Ar94.1) (State.isArrayOf_alike hZ.alike Ar94.2.1) Ar94.2.2 hin94 hat94 (g := (mkF m 108 #[.val (.int p1), .val (.ref b16), .val (.ref b33), .val (.int (7 : Int32))] [(.int (7 : Int32)), (.ref b33), (.int (0 : Int32))])) rfl rfl (hb hby at_108) _ k) ?_
    refine own_step (S' := (T93.setTop (mkF m 112 #[.val (.int p1), .val (.ref b16), .val (.ref b33), .val (.int (7 : Int32))] []))) (fun _ k => XS.icmpNo X93.here hx rfl (hb hby at_109) rfl (teq (by decide : (0 : Int32) = (0 : Int32))).2 k) ?_
    refine own_step (S' := (T93.setTop (mkF m 113 #[.val (.int p1), .val (.ref b16), .val (.ref b33), .val (.int (7 : Int32))] [(.int (1 : Int32))]))) (fun _ k => XS.iconst X93.here hx rfl (hb hby at_112) k) ?_
    refine own_step (S' := (T93.setTop (mkF m 117 #[.val (.int p1), .val (.ref b16), .val (.ref b33), .val (.int (7 : Int32))] [(.int (1 : Int32))]))) (fun _ k => XS.goto X93.here hx rfl (pc0 := 113) (pc' := 117) rfl (hb hby at_113) (by decide) (by decide) k) ?_
    refine own_retN X93 hx hlk hret (by simp) (by decide) (hb hby at_117) (by decide) (by decide) ?_
    try rw [e93]
    exact ⟨rfl, N93⟩
set_option maxRecDepth 65536 in
set_option maxHeartbeats 40000000 in
theorem comes_1 {Post : Tables → Env → Array Value → State → Outcome → State → Prop} (hpost : ∀ tb e args s v u, (limb_1_1.after args s (.returned v) u = true ∧ limb_1_2.after args s (.returned v) u = true ∧ True) → FrameEnd s (.returned v) u (Jvm.fieldLocs frame_1_writes args s ++ Jvm.arrayLocs frame_1_arrays args s ++ Jvm.staticLocs frame_1_statics s) 16 128 → Post tb e args s (.returned v) u) :
    ArmFor flags0 classFile x code maxLocals ret World_1 tables_1 room_1 Calls_1 rest_1 Pre_1 Post := by
  intro l hfl _ _ p e ha hc hk s m args below hf hA hF happ hP
  obtain ⟨hcalls, hrest, hpre⟩ := hP
  obtain ⟨-, -, -, hnamed, -, -, -, hat⟩ := (Spec.applies_iff hf).mp happ
  obtain ⟨hg, hn⟩ := and_e (Cond.before_iff.mp (show (Jvm.Cond.and given_1 narrow_1).before args s = true from hpre))
  obtain ⟨g0a, g0b⟩ := and_e hg
  obtain ⟨w0, rfl⟩ : ∃ w0 : Value, args = #[w0] := by
    have hs : args.size = 1 := by simpa [Cond.value, given_1] using g0a
    obtain ⟨L⟩ := args
    match L, hs with
    | [w0], _ => exact ⟨w0, rfl⟩
  have hw := fun d (hd : d ∈ tables_1) => atoms_spec (ws := Jvm.Cond.code x code maxLocals ret :: tables_1) hat d (List.mem_cons_of_mem _ hd)
  have hfit : Fit s := fun {y c} hc i hi => by
    obtain ⟨ha, rfl⟩ := Array.getElem?_eq_some_iff.mp hc
    have q := List.all_eq_true.mp ((Array.all_eq_true_iff_forall_mem.mp hF) _ (Array.getElem_mem ha)) i (List.mem_range.mpr hi)
    simpa [Array.getElem?_eq_getElem hi] using q
  obtain ⟨i0, ei0⟩ := is_v g0b
  obtain rfl : w0 = (.int i0) := Option.some.inj ei0
  obtain ⟨n0a, n0b⟩ := and_e hn
  obtain ⟨n1a, n1b⟩ := and_e n0b
  obtain ⟨n2a, n2b⟩ := and_e n1b
  obtain ⟨n3a, n3b⟩ := and_e n2b
  obtain ⟨n4a, n4b⟩ := and_e n3b
  obtain ⟨n5a, n5b⟩ := and_e n4b
  obtain ⟨n6a, n6b⟩ := and_e n5b
  obtain ⟨n7a, n7b⟩ := and_e n6b
  obtain ⟨n8a, n8b⟩ := and_e n7b
  obtain ⟨n9a, n9b⟩ := and_e n8b
  obtain ⟨n10a, n10b⟩ := and_e n9b
  obtain ⟨n11a, n11b⟩ := and_e n10b
  obtain ⟨n12a, n12b⟩ := and_e n11b
  obtain ⟨n13a, n13b⟩ := and_e n12b
  obtain ⟨n14a, n14b⟩ := and_e n13b
  obtain ⟨a_Scope_WHOLE, ev_Scope_WHOLE⟩ := exa_v n0a
  have E_Scope_WHOLE := Exa.start ev_Scope_WHOLE n0a
  have S_Scope_WHOLE := Sta.start ev_Scope_WHOLE (Or.inr ⟨(hw _ (List.mem_of_getElem? (i := 3) rfl)), (hw _ (List.mem_of_getElem? (i := 4) rfl))⟩)
  obtain ⟨a_Scope_EACH, ev_Scope_EACH⟩ := exa_v n1a
  have E_Scope_EACH := Exa.start ev_Scope_EACH n1a
  have S_Scope_EACH := Sta.start ev_Scope_EACH (Or.inr ⟨(hw _ (List.mem_of_getElem? (i := 3) rfl)), (hw _ (List.mem_of_getElem? (i := 7) rfl))⟩)
  obtain ⟨a_Scope_LINE, ev_Scope_LINE⟩ := exa_v n2a
  have E_Scope_LINE := Exa.start ev_Scope_LINE n2a
  have S_Scope_LINE := Sta.start ev_Scope_LINE (Or.inr ⟨(hw _ (List.mem_of_getElem? (i := 3) rfl)), (hw _ (List.mem_of_getElem? (i := 9) rfl))⟩)
  obtain ⟨a_Scope_LAST_LINE, ev_Scope_LAST_LINE⟩ := exa_v n3a
  have E_Scope_LAST_LINE := Exa.start ev_Scope_LAST_LINE n3a
  have S_Scope_LAST_LINE := Sta.start ev_Scope_LAST_LINE (Or.inr ⟨(hw _ (List.mem_of_getElem? (i := 3) rfl)), (hw _ (List.mem_of_getElem? (i := 11) rfl))⟩)
  obtain ⟨a_Scope_END, ev_Scope_END⟩ := exa_v n4a
  have E_Scope_END := Exa.start ev_Scope_END n4a
  have S_Scope_END := Sta.start ev_Scope_END (Or.inr ⟨(hw _ (List.mem_of_getElem? (i := 3) rfl)), (hw _ (List.mem_of_getElem? (i := 13) rfl))⟩)
  obtain ⟨a_Scope_SENTENCE, ev_Scope_SENTENCE⟩ := exa_v n5a
  have E_Scope_SENTENCE := Exa.start ev_Scope_SENTENCE n5a
  have S_Scope_SENTENCE := Sta.start ev_Scope_SENTENCE (Or.inr ⟨(hw _ (List.mem_of_getElem? (i := 3) rfl)), (hw _ (List.mem_of_getElem? (i := 15) rfl))⟩)
  obtain ⟨a_Scope_LAST_SENTENCE, ev_Scope_LAST_SENTENCE⟩ := exa_v n6a
  have E_Scope_LAST_SENTENCE := Exa.start ev_Scope_LAST_SENTENCE n6a
  have S_Scope_LAST_SENTENCE := Sta.start ev_Scope_LAST_SENTENCE (Or.inr ⟨(hw _ (List.mem_of_getElem? (i := 3) rfl)), (hw _ (List.mem_of_getElem? (i := 17) rfl))⟩)
  obtain ⟨a_Scope_CAPTION, ev_Scope_CAPTION⟩ := exa_v n7a
  have E_Scope_CAPTION := Exa.start ev_Scope_CAPTION n7a
  have S_Scope_CAPTION := Sta.start ev_Scope_CAPTION (Or.inr ⟨(hw _ (List.mem_of_getElem? (i := 3) rfl)), (hw _ (List.mem_of_getElem? (i := 19) rfl))⟩)
  have F_Scope_WHOLE_ordinal := own_fld ev_Scope_WHOLE (own_eqI n8a)
  have F_Scope_LINE_ordinal := own_fld ev_Scope_LINE (own_eqI n9a)
  have F_Scope_SENTENCE_ordinal := own_fld ev_Scope_SENTENCE (own_eqI n10a)
  have F_Scope_LAST_LINE_ordinal := own_fld ev_Scope_LAST_LINE (own_eqI n11a)
  have F_Scope_LAST_SENTENCE_ordinal := own_fld ev_Scope_LAST_SENTENCE (own_eqI n12a)
  have F_Scope_CAPTION_ordinal := own_fld ev_Scope_CAPTION (own_eqI n13a)
  have F_Scope_EACH_ordinal := own_fld ev_Scope_EACH (own_eqI n14a)
  have F_Scope_END_ordinal := own_fld ev_Scope_END (own_eqI n14b)
  obtain ⟨n, o, h1, h2, h3, _, L, rfl, ⟨rfl, N⟩, hq⟩ := (rm0 l s _ hw tables_1 a_Scope_WHOLE a_Scope_EACH a_Scope_LINE a_Scope_LAST_LINE a_Scope_END a_Scope_SENTENCE a_Scope_LAST_SENTENCE a_Scope_CAPTION i0 s.heap s.heap.size (Nat.le_refl _) S_Scope_WHOLE E_Scope_WHOLE S_Scope_EACH E_Scope_EACH S_Scope_LINE E_Scope_LINE S_Scope_LAST_LINE E_Scope_LAST_LINE S_Scope_END E_Scope_END S_Scope_SENTENCE E_Scope_SENTENCE S_Scope_LAST_SENTENCE E_Scope_LAST_SENTENCE S_Scope_CAPTION E_Scope_CAPTION F_Scope_WHOLE_ordinal F_Scope_LINE_ordinal F_Scope_SENTENCE_ordinal F_Scope_LAST_LINE_ordinal F_Scope_LAST_SENTENCE_ordinal F_Scope_CAPTION_ordinal F_Scope_EACH_ordinal F_Scope_END_ordinal) p e ha hc hk s m _ below hf ((Spec.applies_iff_loose hf).mp happ).1 ⟨rfl, State.Warmed39.refl s, rfl⟩ trivial
  refine ⟨n, _, h1, h2, h3, hpost _ _ _ _ _ _ ⟨Cond.after_iff.mpr rfl, Cond.after_iff.mpr (eq_i res_at (Term.int_eval (1)) rfl), trivial⟩ ⟨hq.1, hq.2.1, (hq.2.2.sift fun y hy => Or.inr (N y hy)).mono (by decide) (by decide)⟩⟩
theorem main_1_1 : Claimed_1_1 := comes_1 fun _ _ _ _ _ _ h hF => ⟨h.1, hF⟩
theorem main_1_2 : Claimed_1_2 := comes_1 fun _ _ _ _ _ _ h hF => ⟨h.2.1, hF⟩
end Jvm.Pilot.@@N@@
namespace Jvm.Pilot.@@N@@
open Jvm Jvm.ClassFile Sem Op Lib Jvm.Free Jvm.Stand Jvm.Pilot.@@N@@.Jvm.D
/-! MADE BY PROGRAM (witnessworld.py) out of the Statement's table words and the real class files: 15 classes; the members and pool entries that the words name. The judged class is class 1, her method 1. -/
namespace start1
open Jvm.ClassFile
def u (s : String) : CpInfo := .utf8 (stringToUtf16 s)
/-- a pool by its gaps: so many unusable entries, then the entry; so many at the end -/
def gap : Nat → List CpInfo → List CpInfo
  | 0, r => r
  | n + 1, r => .unusable :: gap n r
def poolList (es : List (Nat × CpInfo)) (last : Nat) : List CpInfo := es.foldr (fun e r => gap e.1 (e.2 :: r)) (gap last [])
def pool (es : List (Nat × CpInfo)) (last : Nat) : Array CpInfo := ⟨poolList es last⟩
def fileOf (pool : Array CpInfo) (this : Nat) (attrs : Array Attribute := #[]) (ms : Array MethodInfo := #[]) (fl : Nat := 33) (sup : Nat := 0) (ifs : Array Nat := #[]) (fds : Array FieldInfo := #[]) : ClassFile where
  minorVersion := 0
  majorVersion := 65
  constantPool := pool
  accessFlags := fl
  thisClass := this
  superClass := sup
  interfaces := ifs
  fields := fds
  methods := ms
  attributes := attrs
def plain (name : String) (sup : Option ClassId) : Class where
  name := name
  kind := .ordinary
  loader := none
  accessFlags := 33
  super := sup
  interfaces := #[]
  cf := none
  fields := #[]
  methods := #[]
  instanceTypes := #[]
  staticTypes := #[]
  resolved := #[]
  callSites := []
  init := .initialized
  statics := none
  mirror := none

def pool0 : Array CpInfo := pool [(5, u "<init>"), (0, u "()V"), (1, .class_ 10), (1, u "java/lang/Object")] 113

def k0m0 : Method := { name := "<init>", desc := "()V", sig := { parameters := [], returnType := none }, accessFlags := 1, code := none }
/-- java/lang/Object -/
def k0 : Class := { plain "java/lang/Object" none with
  accessFlags := 33
  interfaces := #[]
  cf := some (fileOf pool0 8 #[] #[{ accessFlags := 1, nameIndex := 5, descriptorIndex := 6, attributes := #[] }] 33 0 #[] #[])
  fields := #[]
  methods := #[k0m0]
  instanceTypes := #[]
  staticTypes := #[]
  resolved := Array.replicate 124 none
  statics := none }

def pool1 : Array CpInfo := pool [(2, .class_ 4), (1, u "java/lang/Object"), (0, u "<init>"), (0, u "()V"), (0, .class_ 8), (0, u "com/example/amendtrail/amendtrail/model/WordPlace$Scope"), (0, .fieldref 7 10), (0, .nameAndType 11 12), (0, u "WHOLE"), (0, u "Lcom/example/amendtrail/amendtrail/model/WordPlace$Scope;"), (0, .fieldref 7 14), (0, .nameAndType 15 12), (0, u "EACH"), (0, .fieldref 7 17), (0, .nameAndType 18 12), (0, u "LINE"), (0, .fieldref 7 20), (0, .nameAndType 21 12), (0, u "LAST_LINE"), (0, .fieldref 7 23), (0, .nameAndType 24 12), (0, u "END"), (0, .fieldref 7 26), (0, .nameAndType 27 12), (0, u "SENTENCE"), (0, .fieldref 7 29), (0, .nameAndType 30 12), (0, u "LAST_SENTENCE"), (0, .fieldref 7 32), (0, .nameAndType 33 12), (0, u "CAPTION"), (0, .methodref 7 35), (0, .nameAndType 36 37), (0, u "numbered"), (0, u "()Z"), (0, .class_ 39), (0, u "com/example/amendtrail/amendtrail/model/ScopeNumberedPinLaw"), (2, u "law"), (0, u "(I)Z")] 11

def k1m0 : Method := { name := "<init>", desc := "()V", sig := { parameters := [], returnType := none }, accessFlags := 1, code := none }
def k1c1 : Code := { maxStack := 4, maxLocals := 4, code := code, exceptionTable := #[], attributes := #[] }
def k1m1 : Method := { name := "law", desc := "(I)Z", sig := { parameters := [.int], returnType := some .boolean }, accessFlags := 9, code := some k1c1 }
/-- com/example/amendtrail/amendtrail/model/ScopeNumberedPinLaw -/
def k1 : Class := { plain "com/example/amendtrail/amendtrail/model/ScopeNumberedPinLaw" (some 0) with
  accessFlags := 49
  interfaces := #[]
  cf := some (fileOf pool1 38 #[] #[{ accessFlags := 1, nameIndex := 5, descriptorIndex := 6, attributes := #[] }, { accessFlags := 9, nameIndex := 42, descriptorIndex := 43, attributes := #[] }] 49 2 #[] #[])
  fields := #[]
  methods := #[k1m0, k1m1]
  instanceTypes := #[]
  staticTypes := #[]
  resolved := Array.replicate 55 none
  statics := none }

def pool2 : Array CpInfo := pool [(1, .class_ 2), (0, u "java/lang/constant/Constable"), (0, .class_ 4), (0, u "java/lang/Object")] 6

/-- java/lang/constant/Constable -/
def k2 : Class := { plain "java/lang/constant/Constable" (some 0) with
  accessFlags := 1537
  interfaces := #[]
  cf := some (fileOf pool2 1 #[] #[] 1537 3 #[] #[])
  fields := #[]
  methods := #[]
  instanceTypes := #[]
  staticTypes := #[]
  resolved := Array.replicate 11 none
  statics := none }

def pool3 : Array CpInfo := pool [(1, .class_ 2), (0, u "java/lang/Comparable"), (0, .class_ 4), (0, u "java/lang/Object")] 7

/-- java/lang/Comparable -/
def k3 : Class := { plain "java/lang/Comparable" (some 0) with
  accessFlags := 1537
  interfaces := #[]
  cf := some (fileOf pool3 1 #[] #[] 1537 3 #[] #[])
  fields := #[]
  methods := #[]
  instanceTypes := #[]
  staticTypes := #[]
  resolved := Array.replicate 12 none
  statics := none }

def pool4 : Array CpInfo := pool [(1, .class_ 2), (0, u "java/io/Serializable"), (0, .class_ 4), (0, u "java/lang/Object")] 2

/-- java/io/Serializable -/
def k4 : Class := { plain "java/io/Serializable" (some 0) with
  accessFlags := 1537
  interfaces := #[]
  cf := some (fileOf pool4 1 #[] #[] 1537 3 #[] #[])
  fields := #[]
  methods := #[]
  instanceTypes := #[]
  staticTypes := #[]
  resolved := Array.replicate 7 none
  statics := none }

def pool5 : Array CpInfo := pool [(2, .class_ 4), (1, u "java/lang/Enum"), (0, u "name"), (0, u "Ljava/lang/String;"), (2, u "ordinal"), (0, u "I"), (1, .class_ 14), (1, u "java/lang/Object"), (4, u "hash"), (86, .class_ 108), (1, u "java/lang/Enum$EnumDesc"), (2, .class_ 112), (0, u "java/lang/constant/Constable"), (0, .class_ 114), (0, u "java/lang/Comparable"), (0, .class_ 116), (0, u "java/io/Serializable")] 87

/-- java/lang/Enum -/
def k5 : Class := { plain "java/lang/Enum" (some 0) with
  accessFlags := 1057
  interfaces := #[2, 3, 4]
  cf := some (fileOf pool5 2 #[.nestMembers #[106]] #[] 1057 12 #[111, 113, 115] #[{ accessFlags := 18, nameIndex := 5, descriptorIndex := 6, attributes := #[] }, { accessFlags := 18, nameIndex := 9, descriptorIndex := 10, attributes := #[] }, { accessFlags := 2, nameIndex := 19, descriptorIndex := 10, attributes := #[] }])
  fields := #[{ name := "name", type := (.object "java/lang/String"), accessFlags := 18, slot := 0, constantValue := 0 }, { name := "ordinal", type := .int, accessFlags := 18, slot := 1, constantValue := 0 }, { name := "hash", type := .int, accessFlags := 2, slot := 2, constantValue := 0 }]
  methods := #[]
  instanceTypes := #[(.object "java/lang/String"), .int, .int]
  staticTypes := #[]
  resolved := Array.replicate 204 none
  statics := none }

def pool6 : Array CpInfo := pool [(1, .class_ 2), (0, u "com/example/amendtrail/amendtrail/model/WordPlace$Scope"), (2, u "WHOLE"), (0, u "Lcom/example/amendtrail/amendtrail/model/WordPlace$Scope;"), (2, u "EACH"), (0, .fieldref 1 11), (0, .nameAndType 12 6), (0, u "LINE"), (2, u "LAST_LINE"), (2, u "END"), (0, .fieldref 1 20), (0, .nameAndType 21 6), (0, u "SENTENCE"), (2, u "LAST_SENTENCE"), (2, u "CAPTION"), (2, u "$VALUES"), (0, u "[Lcom/example/amendtrail/amendtrail/model/WordPlace$Scope;"), (6, .class_ 40), (1, u "java/lang/Enum"), (8, u "word"), (0, u "Ljava/lang/String;"), (38, u "numbered"), (0, u "()Z"), (8, .class_ 100), (0, u "com/example/amendtrail/amendtrail/model/WordPlace")] 2

def k6c0 : Code := { maxStack := 2, maxLocals := 1, code := prog_86_method_4_code, exceptionTable := #[], attributes := #[] }
def k6m0 : Method := { name := "numbered", desc := "()Z", sig := { parameters := [], returnType := some .boolean }, accessFlags := 0, code := some k6c0 }
/-- com/example/amendtrail/amendtrail/model/WordPlace$Scope -/
def k6 : Class := { plain "com/example/amendtrail/amendtrail/model/WordPlace$Scope" (some 5) with
  accessFlags := 16433
  interfaces := #[]
  cf := some (fileOf pool6 1 #[.nestHost 99] #[{ accessFlags := 0, nameIndex := 89, descriptorIndex := 90, attributes := #[] }] 16433 38 #[] #[{ accessFlags := 16409, nameIndex := 5, descriptorIndex := 6, attributes := #[] }, { accessFlags := 16409, nameIndex := 9, descriptorIndex := 6, attributes := #[] }, { accessFlags := 16409, nameIndex := 12, descriptorIndex := 6, attributes := #[] }, { accessFlags := 16409, nameIndex := 15, descriptorIndex := 6, attributes := #[] }, { accessFlags := 16409, nameIndex := 18, descriptorIndex := 6, attributes := #[] }, { accessFlags := 16409, nameIndex := 21, descriptorIndex := 6, attributes := #[] }, { accessFlags := 16409, nameIndex := 24, descriptorIndex := 6, attributes := #[] }, { accessFlags := 16409, nameIndex := 27, descriptorIndex := 6, attributes := #[] }, { accessFlags := 18, nameIndex := 49, descriptorIndex := 50, attributes := #[] }, { accessFlags := 4122, nameIndex := 30, descriptorIndex := 31, attributes := #[] }])
  fields := #[{ name := "WHOLE", type := (.object "com/example/amendtrail/amendtrail/model/WordPlace$Scope"), accessFlags := 16409, slot := 0, constantValue := 0 }, { name := "EACH", type := (.object "com/example/amendtrail/amendtrail/model/WordPlace$Scope"), accessFlags := 16409, slot := 1, constantValue := 0 }, { name := "LINE", type := (.object "com/example/amendtrail/amendtrail/model/WordPlace$Scope"), accessFlags := 16409, slot := 2, constantValue := 0 }, { name := "LAST_LINE", type := (.object "com/example/amendtrail/amendtrail/model/WordPlace$Scope"), accessFlags := 16409, slot := 3, constantValue := 0 }, { name := "END", type := (.object "com/example/amendtrail/amendtrail/model/WordPlace$Scope"), accessFlags := 16409, slot := 4, constantValue := 0 }, { name := "SENTENCE", type := (.object "com/example/amendtrail/amendtrail/model/WordPlace$Scope"), accessFlags := 16409, slot := 5, constantValue := 0 }, { name := "LAST_SENTENCE", type := (.object "com/example/amendtrail/amendtrail/model/WordPlace$Scope"), accessFlags := 16409, slot := 6, constantValue := 0 }, { name := "CAPTION", type := (.object "com/example/amendtrail/amendtrail/model/WordPlace$Scope"), accessFlags := 16409, slot := 7, constantValue := 0 }, { name := "word", type := (.object "java/lang/String"), accessFlags := 18, slot := 3, constantValue := 0 }, { name := "$VALUES", type := (.array (.object "com/example/amendtrail/amendtrail/model/WordPlace$Scope")), accessFlags := 4122, slot := 8, constantValue := 0 }]
  methods := #[k6m0]
  instanceTypes := #[(.object "java/lang/String"), .int, .int, (.object "java/lang/String")]
  staticTypes := #[(.object "com/example/amendtrail/amendtrail/model/WordPlace$Scope"), (.object "com/example/amendtrail/amendtrail/model/WordPlace$Scope"), (.object "com/example/amendtrail/amendtrail/model/WordPlace$Scope"), (.object "com/example/amendtrail/amendtrail/model/WordPlace$Scope"), (.object "com/example/amendtrail/amendtrail/model/WordPlace$Scope"), (.object "com/example/amendtrail/amendtrail/model/WordPlace$Scope"), (.object "com/example/amendtrail/amendtrail/model/WordPlace$Scope"), (.object "com/example/amendtrail/amendtrail/model/WordPlace$Scope"), (.array (.object "com/example/amendtrail/amendtrail/model/WordPlace$Scope"))]
  resolved := Array.replicate 103 none
  statics := some 0 }

def pool7 : Array CpInfo := pool [(1, u "java/lang/Cloneable"), (0, .class_ 1), (0, u "java/lang/Object"), (0, .class_ 3)] 3

/-- java/lang/Cloneable -/
def k7 : Class := { plain "java/lang/Cloneable" (some 0) with
  accessFlags := 1537
  interfaces := #[]
  cf := some (fileOf pool7 2 #[] #[] 1537 4 #[] #[])
  fields := #[]
  methods := #[]
  instanceTypes := #[]
  staticTypes := #[]
  resolved := Array.replicate 8 none
  statics := none }

/-- the primitive boolean -/
def k8 : Class := { plain "boolean" none with kind := .primitive 'Z', accessFlags := 0x411 }
/-- [Z -/
def k9 : Class := { plain "[Z" (some 0) with kind := .array 8 .boolean, interfaces := #[7, 4], accessFlags := 1041 }

/-- the primitive byte -/
def k10 : Class := { plain "byte" none with kind := .primitive 'B', accessFlags := 0x411 }
/-- [B -/
def k11 : Class := { plain "[B" (some 0) with kind := .array 10 .byte, interfaces := #[7, 4], accessFlags := 1041 }

/-- the primitive int -/
def k12 : Class := { plain "int" none with kind := .primitive 'I', accessFlags := 0x411 }
/-- [I -/
def k13 : Class := { plain "[I" (some 0) with kind := .array 12 .int, interfaces := #[7, 4], accessFlags := 1041 }

/-- [Lcom/example/amendtrail/amendtrail/model/WordPlace$Scope; -/
def k14 : Class := { plain "[Lcom/example/amendtrail/amendtrail/model/WordPlace$Scope;" (some 0) with kind := .array 6 (.object "com/example/amendtrail/amendtrail/model/WordPlace$Scope"), interfaces := #[7, 4], accessFlags := 1041 }

def heap : Heap := #[{ cls := 6, slots := #[.ref 1, .ref 2, .ref 3, .ref 4, .ref 5, .ref 6, .ref 7, .ref 8, .null], vm := .statics 6 },
  { cls := 6, slots := #[.null, .int (0), .int 0, .null], vm := .none },
  { cls := 6, slots := #[.null, .int (1), .int 0, .null], vm := .none },
  { cls := 6, slots := #[.null, .int (2), .int 0, .null], vm := .none },
  { cls := 6, slots := #[.null, .int (3), .int 0, .null], vm := .none },
  { cls := 6, slots := #[.null, .int (4), .int 0, .null], vm := .none },
  { cls := 6, slots := #[.null, .int (5), .int 0, .null], vm := .none },
  { cls := 6, slots := #[.null, .int (6), .int 0, .null], vm := .none },
  { cls := 6, slots := #[.null, .int (7), .int 0, .null], vm := .none }]
def classes : Array Class := #[k0, k1, k2, k3, k4, k5, k6, k7, k8, k9, k10, k11, k12, k13, k14]
def interned : List (Array UInt16 × Addr) := []
def slotsUsed : Nat := 41
def theMethod : MethodId := ⟨1, 1⟩
def args0 : Array Value := #[.int 5]
def aboutOver (below : List Frame) : State where
  vm := { classes := classes, interned := interned.toArray }
  heap := heap
  slotsUsed := slotsUsed
  threads := #[{ frames := .invoking theMethod args0 :: below }]
def below0 : List Frame := [.native { method := ⟨0, 0⟩, args := #[] }]
def about1 : State := aboutOver below0
def p0 : Program := .bare "" "" ""
def e0 : Env := launch0.env 0 0 0
theorem w_frames : about1.frames = Frame.invoking theMethod args0 :: below0 := rfl
set_option maxRecDepth 65536 in
theorem w_args : argsFit about1.vm theMethod args0 = true := by decide +kernel
set_option maxRecDepth 65536 in
theorem w_heap : heapFits about1 = true := by decide +kernel
set_option maxRecDepth 65536 in
theorem w_runnable : about1.curStatus? = some .runnable := by decide +kernel
set_option maxRecDepth 65536 in
theorem w_alone : about1.alone = true := by decide +kernel
set_option maxRecDepth 65536 in
theorem w_named : about1.methodNamed? x = some theMethod := by decide +kernel
set_option maxRecDepth 65536 in
theorem w_hears : about1.hears theMethod below0 = true := by decide +kernel
set_option maxRecDepth 65536 in
theorem w_ripe : about1.ripe theMethod args0 below0 = true := by decide +kernel
theorem w_running : about1.status = .running := rfl
set_option maxRecDepth 65536 in
theorem w_room : about1.hasRoom e0.platform room_1 = true :=
  launch0.hasRoom_least _ room_1 (by decide +kernel) (by decide +kernel) (by decide +kernel) (by decide +kernel) (by decide +kernel) (by decide +kernel)
theorem allAtoms_all (ts : List Jvm.Cond) (a : Array Jvm.Value) (st : Jvm.State) : (allAtoms ts).before a st = ts.all (fun c => c.before a st) := by
  induction ts with
  | nil => rfl
  | cons c t ih =>
    show (Jvm.Cond.and c (allAtoms t)).before a st = _
    rw [Jvm.Cond.before_and, ih, List.all_cons]
def words1 : List Jvm.Cond := Jvm.Cond.code x code maxLocals ret :: tables_1
/-- a 'code' word, met by the world's own term for the bytes: nothing is compared byte by byte -/
theorem code_word {y : MethodName} {bytes : ByteArray} {mx : Nat} {rt : Option FieldType} {a : Array Value} {s : State} {m : MethodId} {meth : Method} {c : Code} (h1 : s.methodNamed? y = some m) (h2 : s.vm.method? m = some meth) (h3 : meth.code = some c) (h4 : c.code = bytes)
    (h5 : (c.maxLocals == mx && c.exceptionTable.isEmpty && decide (c.maxStack ≤ mostOperands) && decide (meth.sig.returnType = rt) && !meth.locks && decide (parseMethodDescriptor y.desc = some meth.sig)) = true) : (Jvm.Cond.code y bytes mx rt).before a s = true := by
  simp only [Bool.and_eq_true, beq_iff_eq, Bool.not_eq_true', decide_eq_true_eq] at h5
  obtain ⟨⟨⟨⟨⟨g1, g2⟩, g3⟩, g4⟩, g5⟩, g6⟩ := h5
  simp [Cond.before, Cond.holds, Cond.value, h1, h2, h3, h4, g1, g2, g3, g4, g5, g6]
def isCode : Jvm.Cond → Bool
  | .code _ _ _ _ => true
  | _ => false
theorem all_split {L : List Jvm.Cond} {P : Jvm.Cond → Bool} (h1 : L.all (fun c => isCode c || P c) = true) (h2 : ∀ c ∈ L.filter isCode, P c = true) : L.all P = true := by
  refine List.all_eq_true.mpr fun c hc => ?_
  have h := List.all_eq_true.mp h1 c hc
  rcases Bool.eq_false_or_eq_true (isCode c) with hi | hi
  · exact h2 c (List.mem_filter.mpr ⟨hc, hi⟩)
  · simpa [hi] using h
set_option maxRecDepth 65536 in
theorem w_c0 : (Jvm.Cond.code x code maxLocals ret).before args0 about1 = true := code_word (m := ⟨1, 1⟩) (meth := k1m1) (c := k1c1) (by decide +kernel) rfl rfl rfl (by decide +kernel)
set_option maxRecDepth 65536 in
theorem w_c1 : (Jvm.Cond.code ({ cls := "com/example/amendtrail/amendtrail/model/WordPlace$Scope", name := "numbered", desc := "()Z" } : Jvm.MethodName) prog_86_method_4_code (1 : Nat) (Option.some Jvm.ClassFile.FieldType.boolean)).before args0 about1 = true := code_word (m := ⟨6, 0⟩) (meth := k6m0) (c := k6c0) (by decide +kernel) rfl rfl rfl (by decide +kernel)
def codes1 : List Jvm.Cond := [Jvm.Cond.code x code maxLocals ret, Jvm.Cond.code ({ cls := "com/example/amendtrail/amendtrail/model/WordPlace$Scope", name := "numbered", desc := "()Z" } : Jvm.MethodName) prog_86_method_4_code (1 : Nat) (Option.some Jvm.ClassFile.FieldType.boolean)]
set_option maxRecDepth 65536 in
theorem codes_eq : words1.filter isCode = codes1 := rfl
theorem w_codes : ∀ c ∈ words1.filter isCode, c.before args0 about1 = true := by
  rw [codes_eq]
  intro c hc
  simp only [codes1, List.mem_cons, List.not_mem_nil, or_false] at hc
  rcases hc with rfl | rfl
  · exact w_c0
  · exact w_c1
set_option maxRecDepth 65536 in
theorem w_t1 : (words1.take 24).all (fun c => isCode c || c.before args0 about1) = true := by decide +kernel
set_option maxRecDepth 65536 in
theorem w_t2 : (words1.drop 24).all (fun c => isCode c || c.before args0 about1) = true := by decide +kernel
theorem w_tables : (allAtoms (Jvm.Cond.code x code maxLocals ret :: tables_1)).before args0 about1 = true := by
  rw [allAtoms_all]
  show words1.all (fun c => c.before args0 about1) = true
  refine all_split ?_ w_codes
  rw [← List.take_append_drop 24 words1, List.all_append, w_t1, w_t2]
  rfl
set_option maxRecDepth 65536 in
theorem w_case : (Jvm.Cond.and given_1 narrow_1).before args0 about1 = true := by decide +kernel
theorem w_applies : (headSpec (Jvm.Cond.code x code maxLocals ret :: tables_1) room_1).applies x e0.platform about1 = true :=
  (Spec.applies_iff w_frames).mpr ⟨w_running, w_runnable, w_alone, w_named, w_hears, w_ripe, w_room, w_tables⟩
theorem atStart : AtStart classFile x code maxLocals ret World_1 tables_1 room_1 Calls_1 rest_1 Pre_1 launch0 p0 e0 about1 theMethod args0 below0 :=
  ⟨lists_1, trivial, launch0.admits_env _ _ _, launch0.least_env, fairChoices_fair.cas, fairChoices_fair.clock, w_frames, w_args, w_heap, w_applies, trivial, trivial, w_case⟩
end start1
theorem witness_1 : WitnessClaimed_1 := ⟨start1.p0, start1.e0, start1.about1, start1.theMethod, start1.args0, start1.below0, start1.atStart⟩
end Jvm.Pilot.@@N@@
