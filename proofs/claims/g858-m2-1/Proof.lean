import JvmDerived
import JvmDerived.Pilot.@@N@@Statement
import JvmDerived.Pilot.@@N@@Code
set_option linter.unusedVariables false
set_option linter.unusedSimpArgs false
namespace Jvm.Pilot.@@N@@
open Jvm Jvm.ClassFile Sem Op Lib Jvm.Free Jvm.Stand Jvm.LawKit Jvm.RoadKit Bundle Jvm.Pilot.@@N@@.Jvm.D
section OwnKit
variable {p : Program} {l : Launch} {e : Env} {R : Room} {s : State} {m : MethodId} {args : Array Value} {below : List Frame} {meth : Method} {c : Code} {T : State} {locs : List Loc} {cells slots : Nat} {Z : State} {a0 : Array Value} {h : Heap}
/-- from S on the run comes to the method's end, and there Q holds -/
def own_Fin (p : Program) (e : Env) (below : List Frame) (s : State) (Q : Option Value → Heap → List Loc → Prop) (rc rs : Nat) (S : State) : Prop :=
  ∃ s₂ o, Steps p.tables e below S s₂ ∧ s₂.status = .running ∧ Ended s₂ below o ∧ ∃ v L, o = .returned v ∧ Q v s₂.heap L ∧ FrameEnd s o s₂ L rc rs
theorem own_step {Q : Option Value → Heap → List Loc → Prop} {rc rs : Nat} {S S' : State} (k : ∀ t, Steps p.tables e below S' t → Steps p.tables e below S t) (hF : own_Fin p e below s Q rc rs S') : own_Fin p e below s Q rc rs S := by
  obtain ⟨s₂, o, h1, r⟩ := hF
  exact ⟨s₂, o, k _ h1, r⟩
abbrev own_Met (l : Launch) (y : MethodName) (bytes : ByteArray) (maxL : Nat) (ret : Option FieldType) (ws : List Jvm.Cond) (rm : Room) (Z : State) (as' : Array Value) (h0 : Heap) (Q : Option Value → Heap → List Loc → Prop) : Prop :=
  MetFree l y (head1 (Jvm.Cond.code y bytes maxL ret :: ws) rm) (fun a U => a = as' ∧ Z.Warmed39 U.vm ∧ U.heap = h0) (fun _ _ _ _ _ => True) (fun _ U o U' => ∃ v L, o = .returned v ∧ Q v U'.heap L ∧ FrameEnd U o U' L rm.cells rm.slots)
theorem own_body {y : MethodName} {bytes : ByteArray} {maxL : Nat} {ret : Option FieldType} {ws : List Jvm.Cond} {rm : Room} {as' : Array Value} {h0 : Heap} {Q : Option Value → Heap → List Loc → Prop} (hy : plainFor y = true)
    (hB : ∀ (p : Program) (e : Env) (s : State) (m : MethodId) (below : List Frame) (meth : Method) (c : Code) (s₁ : State), Stand p l e rm s m as' below meth c s₁ [] 0 0 → p.tables.exec = Jvm.exec → c.code = bytes → c.maxLocals = maxL → s.vm.findClass y.cls = some m.cls → meth.name = y.name → meth.sig.returnType = ret → meth.locks = false → Z.Warmed39 s.vm → s₁.heap = h0 →
      own_Fin p e below s Q rm.cells rm.slots (s₁.setTop (entryFrame m as' maxL))) : own_Met l y bytes maxL ret ws rm Z as' h0 Q := by
  refine MetFree.of_bodySF hy hisR ?_
  intro p e s m args below meth c s₁ Bd hml0 hP hK
  obtain ⟨rfl, hZ, hh⟩ := hP
  exact hB p e s m below meth c s₁ (Stand.of_body Bd) Bd.exec Bd.bytes hml0 (findClass_of_methodNamed Bd.named) (name_of_methodNamed Bd.named Bd.method).1 Bd.returns Bd.notSynchronized hZ (by rw [← hh, Bd.state]; rfl)
theorem own_ret {Q : Option Value → Heap → List Loc → Prop} {rc rs : Nat} {S : State} {v : Option Value} (X : Stand p l e R s m args below meth c T locs cells slots) (hlk : meth.locks = false) (hv : meth.sig.returnType = none → v = none)
    (hst : ∀ fs, (∀ (f : JFrame) (acts : List Action), f.method = m → f.locked = none → f.entered = [] → (doReturn e (T.setTop f) acts v).1 = T.setFrames fs) → Steps p.tables e below S (T.setFrames fs))
    (hc : cells ≤ rc) (hs : slots ≤ rs) (hQ : Q v T.heap locs) : own_Fin p e below s Q rc rs S := by
  obtain ⟨fs, hr, hrun, hended, hW, hsame⟩ := X.leave (v := v) hv hlk
  exact ⟨_, _, hst fs hr, hrun, hended, _, _, rfl, hQ, ⟨_, rfl⟩, hW, hsame.mono hc hs⟩
theorem own_retV {Q : Option Value → Heap → List Loc → Prop} {rc rs : Nat} {pc : Nat} {Ls : Array Slot} (X : Stand p l e R s m args below meth c T locs cells slots) (hx : p.tables.exec = Jvm.exec) (hlk : meth.locks = false) (hret : meth.sig.returnType = none) (hd : decode c.code pc = .ok (.return_, 1))
    (hc : cells ≤ rc) (hs : slots ≤ rs) (hQ : Q none T.heap locs) : own_Fin p e below s Q rc rs (T.setTop (mkF m pc Ls [])) :=
  own_ret X hlk (fun _ => rfl) (fun fs hr => X.returnOut hx hret hd hr) hc hs hQ
theorem own_retI {Q : Option Value → Heap → List Loc → Prop} {rc rs : Nat} {pc : Nat} {Ls : Array Slot} {z : Int32} (X : Stand p l e R s m args below meth c T locs cells slots) (hx : p.tables.exec = Jvm.exec) (hlk : meth.locks = false) (hret : meth.sig.returnType = some .int) (hd : decode c.code pc = .ok (.ireturn, 1))
    (hc : cells ≤ rc) (hs : slots ≤ rs) (hQ : Q (some (.int z)) T.heap locs) : own_Fin p e below s Q rc rs (T.setTop (mkF m pc Ls [.int z])) :=
  own_ret X hlk (fun q => by rw [hret] at q; cases q) (fun fs hr => retOut X hx hret rfl (Or.inl ⟨rfl, Or.inl rfl, z, rfl⟩) hd hr) hc hs hQ
theorem own_retL {Q : Option Value → Heap → List Loc → Prop} {rc rs : Nat} {pc : Nat} {Ls : Array Slot} {z : Int64} (X : Stand p l e R s m args below meth c T locs cells slots) (hx : p.tables.exec = Jvm.exec) (hlk : meth.locks = false) (hret : meth.sig.returnType = some .long) (hd : decode c.code pc = .ok (.lreturn, 1))
    (hc : cells ≤ rc) (hs : slots ≤ rs) (hQ : Q (some (.long z)) T.heap locs) : own_Fin p e below s Q rc rs (T.setTop (mkF m pc Ls [.long z])) :=
  own_ret X hlk (fun q => by rw [hret] at q; cases q) (fun fs hr => retOut X hx hret rfl (Or.inr (Or.inl ⟨rfl, rfl, z, rfl⟩)) hd hr) hc hs hQ
theorem own_retA {Q : Option Value → Heap → List Loc → Prop} {rc rs : Nat} {pc : Nat} {Ls : Array Slot} {w : Value} {t : FieldType} (X : Stand p l e R s m args below meth c T locs cells slots) (hx : p.tables.exec = Jvm.exec) (hlk : meth.locks = false) (hret : meth.sig.returnType = some t) (ht : t.isReference = true) (hn : narrow t w = w) (hw : w.isRef = true) (hd : decode c.code pc = .ok (.areturn, 1))
    (hc : cells ≤ rc) (hs : slots ≤ rs) (hQ : Q (some w) T.heap locs) : own_Fin p e below s Q rc rs (T.setTop (mkF m pc Ls [w])) :=
  own_ret X hlk (fun q => by rw [hret] at q; cases q) (fun fs hr => retOut X hx hret hn (Or.inr (Or.inr (Or.inr (Or.inr ⟨rfl, ht, hw⟩)))) hd hr) hc hs hQ
/-- a boolean, byte, char or short that already fits -/
theorem own_retN {Q : Option Value → Heap → List Loc → Prop} {rc rs : Nat} {pc : Nat} {Ls : Array Slot} {z : Int32} {t : FieldType} (X : Stand p l e R s m args below meth c T locs cells slots) (hx : p.tables.exec = Jvm.exec) (hlk : meth.locks = false) (hret : meth.sig.returnType = some t) (ht : t = .boolean ∨ t = .byte ∨ t = .char ∨ t = .short) (hn : nar t z = z) (hd : decode c.code pc = .ok (.ireturn, 1))
    (hc : cells ≤ rc) (hs : slots ≤ rs) (hQ : Q (some (.int z)) T.heap locs) : own_Fin p e below s Q rc rs (T.setTop (mkF m pc Ls [.int z])) :=
  own_ret X hlk (fun q => by rw [hret] at q; cases q) (fun fs hr => retN X hx hret ht hd (by rw [hn]; exact hr)) hc hs hQ
section Calls
variable {y z : MethodName} {bytes : ByteArray} {maxL W : Nat} {ret : Option FieldType} {rm : Room} {Q : Option Value → Heap → List Loc → Prop} {own C : String} {index : Nat} {b : Addr} {argsL rest : List Value} {g : JFrame}
theorem own_virt (X : Stand p l e R s m args below meth c T locs cells slots) (hx : p.tables.exec = Jvm.exec) (hZ : Z.Warmed39 s.vm) (hown : s.vm.findClass own = some m.cls) (w1 : (Jvm.Cond.methodLink own index y).before a0 Z = true) (w2 : (Jvm.Cond.declares y).before a0 Z = true) (nf : NotFace s y) (w3 : (Jvm.Cond.selects C y z).before a0 Z = true) (w4 : (Jvm.Cond.instanceMethod z).before a0 Z = true) (hy : y.cls ≠ "java/lang/invoke/MethodHandle" ∧ y.cls ≠ "java/lang/invoke/VarHandle")
    (wc : (Jvm.Cond.code z bytes maxL ret).before a0 Z = true) (wz : (Jvm.Cond.initialized z.cls).before a0 Z = true) (eT : T.heap = h) (E : Exa Z h b C) (hM : own_Met l z bytes maxL ret [] rm Z (.ref b :: argsL).toArray h Q) (hg : g.method = m) (hsize : g.locals.size = c.maxLocals) (hlen : ∀ sig, parseMethodDescriptor y.desc = some sig → argsL.length = sig.parameters.length)
    (hstack : g.stack = argsL.reverse ++ .ref b :: rest) (hW : 2 * g.monitorRoom + (rest.map fun v => v.category).sum ≤ W) (hd : decode c.code g.pc = .ok (.invokevirtual index, 3)) (hf : rm.frames + 1 ≤ R.frames) (hl : W + (maxL + 11) + rm.locals ≤ R.locals) (hc : cells + rm.cells ≤ R.cells) (hs : slots + rm.slots ≤ R.slots) :
    ∃ (v : Option Value) (T' : State) (L : List Loc), Stand p l e R s m args below meth c T' (locs ++ L) (cells + rm.cells) (slots + rm.slots) ∧ Q v T'.heap L ∧ ∀ t, Steps p.tables e below (T'.setTop { g with pc := g.pc + 3, stack := v.toList ++ rest }) t → Steps p.tables e below (T.setTop g) t := by
  obtain ⟨cq, kq, qa, qb, qc⟩ := isOf hZ eT E
  obtain ⟨v, vm1, ⟨T', L', k', n'⟩, -, X', ⟨L, hQ, hl', hk', hn'⟩, st⟩ := X.virtualBack hx (y := y) (z := z) hown (mvT hZ w1) (mvT hZ w2) nf (mvT hZ w3) (mvT hZ w4) hy (backOf (W := W) hM hZ wc wz hf hl) qa qc hg hsize (Steps.refl _) hlen hstack hW hd (fun _ _ => ⟨rfl, eT, hc, hs⟩)
  dsimp only [Pt.U, Pt.locs, Pt.cells, Pt.slots] at X' hl' hk' hn' st hQ
  subst hl' hk' hn'
  exact ⟨v, T', L, X', hQ, fun t k => st.trans k⟩
/-- a method that a superclass declares, named through the subclass -/
theorem own_virtUp {owner : String} (X : Stand p l e R s m args below meth c T locs cells slots) (hx : p.tables.exec = Jvm.exec) (hZ : Z.Warmed39 s.vm) (hown : s.vm.findClass own = some m.cls) (w1 : (Jvm.Cond.methodLink own index y).before a0 Z = true) (ws : (Jvm.Cond.sameMethod y.cls owner y.name y.desc).before a0 Z = true) (w2 : (Jvm.Cond.declares ⟨owner, y.name, y.desc⟩).before a0 Z = true) (ho : owner ≠ "java/lang/invoke/MethodHandle" ∧ owner ≠ "java/lang/invoke/VarHandle") (w3 : (Jvm.Cond.selects C y z).before a0 Z = true) (w4 : (Jvm.Cond.instanceMethod z).before a0 Z = true)
    (wc : (Jvm.Cond.code z bytes maxL ret).before a0 Z = true) (wz : (Jvm.Cond.initialized z.cls).before a0 Z = true) (eT : T.heap = h) (E : Exa Z h b C) (hM : own_Met l z bytes maxL ret [] rm Z (.ref b :: argsL).toArray h Q) (hg : g.method = m) (hsize : g.locals.size = c.maxLocals) (hlen : ∀ sig, parseMethodDescriptor y.desc = some sig → argsL.length = sig.parameters.length)
    (hstack : g.stack = argsL.reverse ++ .ref b :: rest) (hW : 2 * g.monitorRoom + (rest.map fun v => v.category).sum ≤ W) (hd : decode c.code g.pc = .ok (.invokevirtual index, 3)) (hf : rm.frames + 1 ≤ R.frames) (hl : W + (maxL + 11) + rm.locals ≤ R.locals) (hc : cells + rm.cells ≤ R.cells) (hs : slots + rm.slots ≤ R.slots) :
    ∃ (v : Option Value) (T' : State) (L : List Loc), Stand p l e R s m args below meth c T' (locs ++ L) (cells + rm.cells) (slots + rm.slots) ∧ Q v T'.heap L ∧ ∀ t, Steps p.tables e below (T'.setTop { g with pc := g.pc + 3, stack := v.toList ++ rest }) t → Steps p.tables e below (T.setTop g) t := by
  obtain ⟨cq, kq, qa, qb, qc⟩ := isOf hZ eT E
  obtain ⟨v, vm1, ⟨T', L', k', n'⟩, -, X', ⟨L, hQ, hl', hk', hn'⟩, st⟩ := X.virtualBackUp hx (x := y) (y := z) hown (mvT hZ w1) (mvT hZ ws) (mvT hZ w2) ho (mvT hZ w3) (mvT hZ w4) (backOf (W := W) hM hZ wc wz hf hl) qa qc hg hsize (Steps.refl _) hlen hstack hW hd (fun _ _ => ⟨rfl, eT, hc, hs⟩)
  dsimp only [Pt.U, Pt.locs, Pt.cells, Pt.slots] at X' hl' hk' hn' st hQ
  subst hl' hk' hn'
  exact ⟨v, T', L, X', hQ, fun t k => st.trans k⟩
theorem own_stat (X : Stand p l e R s m args below meth c T locs cells slots) (hx : p.tables.exec = Jvm.exec) (hZ : Z.Warmed39 s.vm) (hown : s.vm.findClass own = some m.cls) (w1 : (Jvm.Cond.methodLink own index y).before a0 Z = true) (w2 : (Jvm.Cond.static y).before a0 Z = true) (hy : y.cls ≠ "java/lang/invoke/MethodHandle" ∧ y.cls ≠ "java/lang/invoke/VarHandle")
    (wc : (Jvm.Cond.code y bytes maxL ret).before a0 Z = true) (wz : (Jvm.Cond.initialized y.cls).before a0 Z = true) (eT : T.heap = h) (hM : own_Met l y bytes maxL ret [] rm Z argsL.toArray h Q) (hg : g.method = m) (hsize : g.locals.size = c.maxLocals) (hlen : ∀ sig, parseMethodDescriptor y.desc = some sig → argsL.length = sig.parameters.length)
    (hstack : g.stack = argsL.reverse ++ rest) (hW : 2 * g.monitorRoom + (rest.map fun v => v.category).sum ≤ W) (hd : decode c.code g.pc = .ok (.invokestatic index, 3)) (hf : rm.frames + 1 ≤ R.frames) (hl : W + (maxL + 11) + rm.locals ≤ R.locals) (hc : cells + rm.cells ≤ R.cells) (hs : slots + rm.slots ≤ R.slots) :
    ∃ (v : Option Value) (T' : State) (L : List Loc), Stand p l e R s m args below meth c T' (locs ++ L) (cells + rm.cells) (slots + rm.slots) ∧ Q v T'.heap L ∧ ∀ t, Steps p.tables e below (T'.setTop { g with pc := g.pc + 3, stack := v.toList ++ rest }) t → Steps p.tables e below (T.setTop g) t := by
  obtain ⟨v, vm1, ⟨T', L', k', n'⟩, -, X', ⟨L, hQ, hl', hk', hn'⟩, st⟩ := Jvm.LawKit.callS X hx (y := y) hown (mvT hZ w1) (mvT hZ w2) (mvT hZ wz) (mvT hZ wc) hy (backOf (W := W) hM hZ wc wz hf hl) hg hsize hlen hstack hW hd (fun _ _ => ⟨rfl, eT, hc, hs⟩)
  dsimp only [Pt.U, Pt.locs, Pt.cells, Pt.slots] at X' hl' hk' hn' st hQ
  subst hl' hk' hn'
  exact ⟨v, T', L, X', hQ, st⟩
theorem own_spec {bytes : ByteArray} {maxL : Nat} (X : Stand p l e R s m args below meth c T locs cells slots) (hx : p.tables.exec = Jvm.exec) (hZ : Z.Warmed39 s.vm) (hy1 : y.name = "<init>") (hown : s.vm.findClass own = some m.cls) (w1 : (Jvm.Cond.methodLink own index y).before a0 Z = true) (w2 : (Jvm.Cond.instanceMethod y).before a0 Z = true) (hy : y.cls ≠ "java/lang/invoke/MethodHandle" ∧ y.cls ≠ "java/lang/invoke/VarHandle")
    (wc : (Jvm.Cond.code y bytes maxL none).before a0 Z = true) (wz : (Jvm.Cond.initialized y.cls).before a0 Z = true) (eT : T.heap = h) (hM : own_Met l y bytes maxL none [] rm Z (.ref b :: argsL).toArray h Q) (hg : g.method = m) (hsize : g.locals.size = c.maxLocals) (hlen : ∀ sig, parseMethodDescriptor y.desc = some sig → argsL.length = sig.parameters.length)
    (hstack : g.stack = argsL.reverse ++ .ref b :: rest) (hW : 2 * g.monitorRoom + (rest.map fun v => v.category).sum ≤ W) (hd : decode c.code g.pc = .ok (.invokespecial index, 3)) (hf : rm.frames + 1 ≤ R.frames) (hl : W + (maxL + 11) + rm.locals ≤ R.locals) (hc : cells + rm.cells ≤ R.cells) (hs : slots + rm.slots ≤ R.slots) :
    ∃ (v : Option Value) (T' : State) (L : List Loc), Stand p l e R s m args below meth c T' (locs ++ L) (cells + rm.cells) (slots + rm.slots) ∧ Q v T'.heap L ∧ ∀ t, Steps p.tables e below (T'.setTop { g with pc := g.pc + 3, stack := v.toList ++ rest }) t → Steps p.tables e below (T.setTop g) t := by
  obtain ⟨v, vm1, ⟨T', L', k', n'⟩, -, X', ⟨L, hQ, hl', hk', hn'⟩, st⟩ := X.specialBack hx (y := y) hy1 hown (mvT hZ w1) (mvT hZ w2) (mvT hZ wc) hy (backOf (W := W) hM hZ wc wz hf hl) hg hsize (Steps.refl _) hlen hstack hW hd (fun _ _ => ⟨rfl, eT, hc, hs⟩)
  dsimp only [Pt.U, Pt.locs, Pt.cells, Pt.slots] at X' hl' hk' hn' st hQ
  subst hl' hk' hn'
  exact ⟨v, T', L, X', hQ, fun t k => st.trans k⟩
end Calls
section Words
variable {first : State} {o : Option Outcome} {idx : List Nat} {a b t : Term} {v : Value} {C n d : String}
theorem own_eqI {k : Int32} (hq : (Jvm.Cond.eq a (.int k)).value args first o s idx = some true) : a.eval args first o idx s = some (.int k) := by
  cases ha : a.eval args first o idx s with
  | none => simp [Cond.value, ha] at hq
  | some x => cases x <;> simp [Cond.value, ha, Term.eval] at hq ⊢ <;> exact hq
theorem own_eqR {y : Addr} (hb : b.eval args first o idx s = some (.ref y)) (hq : (Jvm.Cond.eq a b).value args first o s idx = some true) : a.eval args first o idx s = some (.ref y) := by
  cases ha : a.eval args first o idx s with
  | none => simp [Cond.value, ha] at hq
  | some x => cases x <;> simp [Cond.value, ha, hb] at hq ⊢ <;> exact hq
theorem own_fld {x : Addr} (ht : t.eval args Z none [] Z = some (.ref x)) (hq : (Term.field t C n d).eval args Z none [] Z = some v) : Fld Z Z.heap x C n d v := Fld.start ((fld_at ht).symm.trans hq)
/-- an array of a known length -/
def own_Aln (Z : State) (h : Heap) (a : Addr) (ty : FieldType) (n : Int32) : Prop := ∃ c : Cell, Arr Z h a c ty ∧ c.slots.size = n.toNatClampNeg ∧ ¬ n < 0
theorem own_len {a : Addr} {cl : Cell} {ty : FieldType} {k : Int32} (ht : t.eval args Z none [] Z = some (.ref a)) (A : Arr Z Z.heap a cl ty) (hq : (Term.length t).eval args Z none [] Z = some (.int k)) (hk : ¬ k < 0 := by decide) : own_Aln Z Z.heap a ty k := by
  have hc : Z.arrayAt? a = some cl := A.fin (Vm.Alike.refl _)
  simp only [Term.eval, ht, hc, Option.bind_eq_bind, Option.bind_some] at hq
  by_cases hb : cl.slots.size < 2 ^ 31
  · simp only [hb, if_true, Option.pure_def, Option.some.injEq, Value.int.injEq] at hq
    refine ⟨cl, A, ?_, hk⟩
    have h1 := len_toInt hb
    rw [hq] at h1
    have h2 := nat_of hk
    omega
  · simp [hb] at hq
end Words
theorem own_exaStat {a : Addr} {C : String} (F : Exa Z h a C) : ∀ cell : Cell, h[a]? = some cell → cell.vm.isStatics = false := fun cell hc => by
  obtain ⟨c', _, h1, -, -, h4, -⟩ := F
  cases h1.symm.trans hc
  exact h4
theorem own_staKeep {h' : Heap} {C n d : String} {v : Value} {ws : List Addr} (F : Sta Z h C n d v) (K : Keep h h' ws) (q : ∀ x ∈ ws, ∀ cell : Cell, h[x]? = some cell → cell.vm.isStatics = false) : Sta Z h' C n d v := by
  obtain ⟨cf, i, k, f, st, cell, h1, h2, h3, h4, h5, h6, h7⟩ := F
  exact ⟨cf, i, k, f, st, cell, h1, h2, h3, h4, K.2.1 st cell h5 (fun hm => by rw [q st hm cell h5] at h6; cases h6), h6, h7⟩
theorem own_ite {α : Type} (P : Prop) (x y : α) : ∃ z : α, (P → z = x) ∧ (¬ P → z = y) := by
  by_cases hP : P
  · exact ⟨x, fun _ => rfl, fun q => absurd hP q⟩
  · exact ⟨y, fun q => absurd q hP, fun _ => rfl⟩
theorem own_irr (x : Int64) : ¬ x < x := by simp
theorem own_tri (x y : Int64) : x < y ∨ x = y ∨ y < x := by
  simp only [Int64.lt_iff_toInt_lt, ← Int64.toInt_inj]
  omega
theorem own_asym {x y : Int64} (q : x < y) : ¬ y < x := by
  simp only [Int64.lt_iff_toInt_lt] at *
  omega
theorem own_ltne {x y : Int64} (q : x < y) : ¬ x = y := fun u => own_irr _ (u ▸ q)
theorem own_gtne {x y : Int64} (q : y < x) : ¬ x = y := fun u => own_irr _ (u ▸ q)
end OwnKit
/-- a String, empty or not -/
def own_Str (Z : State) (h : Heap) (s : Addr) (e : Bool) : Prop := ∃ (b : Addr) (n : Int32), Exa Z h s "java/lang/String" ∧ Fld Z h s "java/lang/String" "value" "[B" (.ref b) ∧ own_Aln Z h b .byte n ∧ (n = (0 : Int32) ↔ e = true)
/-- an option whose two texts are empty or not -/
def own_Opt (Z : State) (h : Heap) (a : Addr) (e : Bool) : Prop := ∃ (sv st : Addr), Exa Z h a "com/example/vestline/vestline/cli/Option" ∧ Fld Z h a "com/example/vestline/vestline/cli/Option" "value" "Ljava/lang/String;" (.ref sv) ∧ own_Str Z h sv e ∧ Fld Z h a "com/example/vestline/vestline/cli/Option" "takes" "Ljava/lang/String;" (.ref st) ∧ own_Str Z h st e
theorem d1_0 : decode method_2_code 0 = .ok (.iload_n 0, 1) := by decide +kernel
theorem d1_1 : decode method_2_code 1 = .ok (.ifCond .ne 7, 3) := by decide +kernel
theorem d1_4 : decode method_2_code 4 = .ok (.getstatic 7, 3) := by decide +kernel
theorem d1_7 : decode method_2_code 7 = .ok (.areturn, 1) := by decide +kernel
theorem d1_8 : decode method_2_code 8 = .ok (.iload_n 0, 1) := by decide +kernel
theorem d1_9 : decode method_2_code 9 = .ok (.iconst 1, 1) := by decide +kernel
theorem d1_10 : decode method_2_code 10 = .ok (.if_icmp .ne 7, 3) := by decide +kernel
theorem d1_13 : decode method_2_code 13 = .ok (.getstatic 13, 3) := by decide +kernel
theorem d1_16 : decode method_2_code 16 = .ok (.areturn, 1) := by decide +kernel
theorem d1_17 : decode method_2_code 17 = .ok (.iload_n 0, 1) := by decide +kernel
theorem d1_18 : decode method_2_code 18 = .ok (.iconst 2, 1) := by decide +kernel
theorem d1_19 : decode method_2_code 19 = .ok (.if_icmp .ne 7, 3) := by decide +kernel
theorem d1_22 : decode method_2_code 22 = .ok (.getstatic 16, 3) := by decide +kernel
theorem d1_25 : decode method_2_code 25 = .ok (.areturn, 1) := by decide +kernel
theorem d1_26 : decode method_2_code 26 = .ok (.iload_n 0, 1) := by decide +kernel
theorem d1_27 : decode method_2_code 27 = .ok (.iconst 3, 1) := by decide +kernel
theorem d1_28 : decode method_2_code 28 = .ok (.if_icmp .ne 7, 3) := by decide +kernel
theorem d1_31 : decode method_2_code 31 = .ok (.getstatic 19, 3) := by decide +kernel
theorem d1_34 : decode method_2_code 34 = .ok (.areturn, 1) := by decide +kernel
theorem d1_35 : decode method_2_code 35 = .ok (.iload_n 0, 1) := by decide +kernel
theorem d1_36 : decode method_2_code 36 = .ok (.iconst 4, 1) := by decide +kernel
theorem d1_37 : decode method_2_code 37 = .ok (.if_icmp .ne 7, 3) := by decide +kernel
theorem d1_40 : decode method_2_code 40 = .ok (.getstatic 22, 3) := by decide +kernel
theorem d1_43 : decode method_2_code 43 = .ok (.areturn, 1) := by decide +kernel
theorem d1_44 : decode method_2_code 44 = .ok (.iload_n 0, 1) := by decide +kernel
theorem d1_45 : decode method_2_code 45 = .ok (.iconst 5, 1) := by decide +kernel
theorem d1_46 : decode method_2_code 46 = .ok (.if_icmp .ne 7, 3) := by decide +kernel
theorem d1_49 : decode method_2_code 49 = .ok (.getstatic 25, 3) := by decide +kernel
theorem d1_52 : decode method_2_code 52 = .ok (.areturn, 1) := by decide +kernel
theorem d1_53 : decode method_2_code 53 = .ok (.iload_n 0, 1) := by decide +kernel
theorem d1_54 : decode method_2_code 54 = .ok (.bipush 6, 2) := by decide +kernel
theorem d1_56 : decode method_2_code 56 = .ok (.if_icmp .ne 7, 3) := by decide +kernel
theorem d1_59 : decode method_2_code 59 = .ok (.getstatic 28, 3) := by decide +kernel
theorem d1_62 : decode method_2_code 62 = .ok (.areturn, 1) := by decide +kernel
theorem d1_63 : decode method_2_code 63 = .ok (.iload_n 0, 1) := by decide +kernel
theorem d1_64 : decode method_2_code 64 = .ok (.bipush 7, 2) := by decide +kernel
theorem d1_66 : decode method_2_code 66 = .ok (.if_icmp .ne 7, 3) := by decide +kernel
theorem d1_69 : decode method_2_code 69 = .ok (.getstatic 31, 3) := by decide +kernel
theorem d1_72 : decode method_2_code 72 = .ok (.areturn, 1) := by decide +kernel
theorem d1_73 : decode method_2_code 73 = .ok (.iload_n 0, 1) := by decide +kernel
theorem d1_74 : decode method_2_code 74 = .ok (.bipush 8, 2) := by decide +kernel
theorem d1_76 : decode method_2_code 76 = .ok (.if_icmp .ne 7, 3) := by decide +kernel
theorem d1_79 : decode method_2_code 79 = .ok (.getstatic 34, 3) := by decide +kernel
theorem d1_82 : decode method_2_code 82 = .ok (.areturn, 1) := by decide +kernel
theorem d1_83 : decode method_2_code 83 = .ok (.iload_n 0, 1) := by decide +kernel
theorem d1_84 : decode method_2_code 84 = .ok (.bipush 9, 2) := by decide +kernel
theorem d1_86 : decode method_2_code 86 = .ok (.if_icmp .ne 7, 3) := by decide +kernel
theorem d1_89 : decode method_2_code 89 = .ok (.getstatic 37, 3) := by decide +kernel
theorem d1_92 : decode method_2_code 92 = .ok (.areturn, 1) := by decide +kernel
theorem d1_93 : decode method_2_code 93 = .ok (.getstatic 40, 3) := by decide +kernel
theorem d1_96 : decode method_2_code 96 = .ok (.areturn, 1) := by decide +kernel
theorem pn_0 : plainName "com/example/vestline/vestline/cli/OptionTakesValuePinLaw" = true := by first | (simp [plainName, overriddenIn]; done) | decide +kernel
set_option maxRecDepth 65536 in
set_option maxHeartbeats 40000000 in
theorem rmP_0 (l : Launch) (Z : State) (a0 : Array Value) (hw : ∀ d ∈ tables_1, d.before a0 Z = true) (ws : List Jvm.Cond) (w : Addr)  (h0 : Heap) (n0 : Nat) (Z0 : n0 ≤ h0.size) (S : Sta Z h0 "com/example/vestline/vestline/cli/Option" "PLAN" "Lcom/example/vestline/vestline/cli/Option;" (.ref w)) :
    own_Met l (⟨"com/example/vestline/vestline/cli/OptionTakesValuePinLaw", "pick", "(I)Lcom/example/vestline/vestline/cli/Option;"⟩ : MethodName) method_2_code 1 (some (.object "com/example/vestline/vestline/cli/Option")) ws ({ frames := 0, cells := 0, slots := 0, locals := 0 } : Room) Z #[(.int (0 : Int32))] h0 (fun v h L => v = some (.ref w) ∧ Fr n0 L ∧ h = h0) := by
  refine own_body (plainFor_of_name pn_0) ?_
  intro p e s m below meth c s₁ X0 hx hby hml hown hnm hret hlk hZ e0
  replace hown : s.vm.findClass "com/example/vestline/vestline/cli/OptionTakesValuePinLaw" = some m.cls := hown
  replace hml : c.maxLocals = 1 := hml
  replace hret : meth.sig.returnType = (some (.object "com/example/vestline/vestline/cli/Option")) := hret
  have N0 := Fr.nil n0
  have ef : entryFrame m #[(.int (0 : Int32))] 1 = mkF m 0 #[.val (.int (0 : Int32))] [] := by first | (simp [entryFrame, mkF, argsToLocals, Value.category]; done) | rfl
  refine own_step (S' := (s₁.setTop (mkF m 0 #[.val (.int (0 : Int32))] []))) (fun _ k => castTop ef k) ?_
  refine own_step (S' := (s₁.setTop (mkF m 1 #[.val (.int (0 : Int32))] [(.int (0 : Int32))]))) (fun _ k => XS.iloadN X0.here hx rfl (hb hby d1_0) rfl k) ?_
  refine own_step (S' := (s₁.setTop (mkF m 4 #[.val (.int (0 : Int32))] []))) (fun _ k => XS.ifNo X0.here hx rfl (hb hby d1_1) rfl ((if0 _ _).trans (teq (by decide : (0 : Int32) = (0 : Int32))).2) k) ?_
  obtain ⟨T1, X1, e1, st1⟩ := getS2 X0 hx hZ hown (host := "") (Or.inl (hw _ (List.mem_of_getElem? (i := 5) rfl))) Via.refl e0 S (g := (mkF m 4 #[.val (.int (0 : Int32))] [])) rfl (hb hby d1_4)
  refine own_step (S' := (T1.setTop (mkF m 7 #[.val (.int (0 : Int32))] [(.ref w)]))) (fun _ k => st1 _ k) ?_
  refine own_retA X1 hx hlk hret rfl rfl rfl (hb hby d1_7) (by decide) (by decide) ?_
  try rw [e1]
  exact ⟨rfl, N0, rfl⟩
set_option maxRecDepth 65536 in
set_option maxHeartbeats 40000000 in
theorem rmP_1 (l : Launch) (Z : State) (a0 : Array Value) (hw : ∀ d ∈ tables_1, d.before a0 Z = true) (ws : List Jvm.Cond) (w : Addr)  (h0 : Heap) (n0 : Nat) (Z0 : n0 ≤ h0.size) (S : Sta Z h0 "com/example/vestline/vestline/cli/Option" "PARTICIPANT" "Lcom/example/vestline/vestline/cli/Option;" (.ref w)) :
    own_Met l (⟨"com/example/vestline/vestline/cli/OptionTakesValuePinLaw", "pick", "(I)Lcom/example/vestline/vestline/cli/Option;"⟩ : MethodName) method_2_code 1 (some (.object "com/example/vestline/vestline/cli/Option")) ws ({ frames := 0, cells := 0, slots := 0, locals := 0 } : Room) Z #[(.int (1 : Int32))] h0 (fun v h L => v = some (.ref w) ∧ Fr n0 L ∧ h = h0) := by
  refine own_body (plainFor_of_name pn_0) ?_
  intro p e s m below meth c s₁ X0 hx hby hml hown hnm hret hlk hZ e0
  replace hown : s.vm.findClass "com/example/vestline/vestline/cli/OptionTakesValuePinLaw" = some m.cls := hown
  replace hml : c.maxLocals = 1 := hml
  replace hret : meth.sig.returnType = (some (.object "com/example/vestline/vestline/cli/Option")) := hret
  have N0 := Fr.nil n0
  have ef : entryFrame m #[(.int (1 : Int32))] 1 = mkF m 0 #[.val (.int (1 : Int32))] [] := by first | (simp [entryFrame, mkF, argsToLocals, Value.category]; done) | rfl
  refine own_step (S' := (s₁.setTop (mkF m 0 #[.val (.int (1 : Int32))] []))) (fun _ k => castTop ef k) ?_
  refine own_step (S' := (s₁.setTop (mkF m 1 #[.val (.int (1 : Int32))] [(.int (1 : Int32))]))) (fun _ k => XS.iloadN X0.here hx rfl (hb hby d1_0) rfl k) ?_
  refine own_step (S' := (s₁.setTop (mkF m 8 #[.val (.int (1 : Int32))] []))) (fun _ k => XS.ifYes X0.here hx rfl (pc0 := 1) (pc' := 8) rfl (hb hby d1_1) rfl ((if0 _ _).trans (feq (by decide : ¬ ((1 : Int32) = (0 : Int32)))).2) (by decide) (by decide) k) ?_
  refine own_step (S' := (s₁.setTop (mkF m 9 #[.val (.int (1 : Int32))] [(.int (1 : Int32))]))) (fun _ k => XS.iloadN X0.here hx rfl (hb hby d1_8) rfl k) ?_
  refine own_step (S' := (s₁.setTop (mkF m 10 #[.val (.int (1 : Int32))] [(.int (1 : Int32)), (.int (1 : Int32))]))) (fun _ k => XS.iconst X0.here hx rfl (hb hby d1_9) k) ?_
  refine own_step (S' := (s₁.setTop (mkF m 13 #[.val (.int (1 : Int32))] []))) (fun _ k => XS.icmpNo X0.here hx rfl (hb hby d1_10) rfl (teq (by decide : (1 : Int32) = (1 : Int32))).2 k) ?_
  obtain ⟨T2, X2, e2, st2⟩ := getS2 X0 hx hZ hown (host := "") (Or.inl (hw _ (List.mem_of_getElem? (i := 41) rfl))) Via.refl e0 S (g := (mkF m 13 #[.val (.int (1 : Int32))] [])) rfl (hb hby d1_13)
  refine own_step (S' := (T2.setTop (mkF m 16 #[.val (.int (1 : Int32))] [(.ref w)]))) (fun _ k => st2 _ k) ?_
  refine own_retA X2 hx hlk hret rfl rfl rfl (hb hby d1_16) (by decide) (by decide) ?_
  try rw [e2]
  exact ⟨rfl, N0, rfl⟩
set_option maxRecDepth 65536 in
set_option maxHeartbeats 40000000 in
theorem rmP_2 (l : Launch) (Z : State) (a0 : Array Value) (hw : ∀ d ∈ tables_1, d.before a0 Z = true) (ws : List Jvm.Cond) (w : Addr)  (h0 : Heap) (n0 : Nat) (Z0 : n0 ≤ h0.size) (S : Sta Z h0 "com/example/vestline/vestline/cli/Option" "AS_OF" "Lcom/example/vestline/vestline/cli/Option;" (.ref w)) :
    own_Met l (⟨"com/example/vestline/vestline/cli/OptionTakesValuePinLaw", "pick", "(I)Lcom/example/vestline/vestline/cli/Option;"⟩ : MethodName) method_2_code 1 (some (.object "com/example/vestline/vestline/cli/Option")) ws ({ frames := 0, cells := 0, slots := 0, locals := 0 } : Room) Z #[(.int (2 : Int32))] h0 (fun v h L => v = some (.ref w) ∧ Fr n0 L ∧ h = h0) := by
  refine own_body (plainFor_of_name pn_0) ?_
  intro p e s m below meth c s₁ X0 hx hby hml hown hnm hret hlk hZ e0
  replace hown : s.vm.findClass "com/example/vestline/vestline/cli/OptionTakesValuePinLaw" = some m.cls := hown
  replace hml : c.maxLocals = 1 := hml
  replace hret : meth.sig.returnType = (some (.object "com/example/vestline/vestline/cli/Option")) := hret
  have N0 := Fr.nil n0
  have ef : entryFrame m #[(.int (2 : Int32))] 1 = mkF m 0 #[.val (.int (2 : Int32))] [] := by first | (simp [entryFrame, mkF, argsToLocals, Value.category]; done) | rfl
  refine own_step (S' := (s₁.setTop (mkF m 0 #[.val (.int (2 : Int32))] []))) (fun _ k => castTop ef k) ?_
  refine own_step (S' := (s₁.setTop (mkF m 1 #[.val (.int (2 : Int32))] [(.int (2 : Int32))]))) (fun _ k => XS.iloadN X0.here hx rfl (hb hby d1_0) rfl k) ?_
  refine own_step (S' := (s₁.setTop (mkF m 8 #[.val (.int (2 : Int32))] []))) (fun _ k => XS.ifYes X0.here hx rfl (pc0 := 1) (pc' := 8) rfl (hb hby d1_1) rfl ((if0 _ _).trans (feq (by decide : ¬ ((2 : Int32) = (0 : Int32)))).2) (by decide) (by decide) k) ?_
  refine own_step (S' := (s₁.setTop (mkF m 9 #[.val (.int (2 : Int32))] [(.int (2 : Int32))]))) (fun _ k => XS.iloadN X0.here hx rfl (hb hby d1_8) rfl k) ?_
  refine own_step (S' := (s₁.setTop (mkF m 10 #[.val (.int (2 : Int32))] [(.int (1 : Int32)), (.int (2 : Int32))]))) (fun _ k => XS.iconst X0.here hx rfl (hb hby d1_9) k) ?_
  refine own_step (S' := (s₁.setTop (mkF m 17 #[.val (.int (2 : Int32))] []))) (fun _ k => XS.icmpYes X0.here hx rfl (pc0 := 10) (pc' := 17) rfl (hb hby d1_10) rfl (feq (by decide : ¬ ((2 : Int32) = (1 : Int32)))).2 (by decide) (by decide) k) ?_
  refine own_step (S' := (s₁.setTop (mkF m 18 #[.val (.int (2 : Int32))] [(.int (2 : Int32))]))) (fun _ k => XS.iloadN X0.here hx rfl (hb hby d1_17) rfl k) ?_
  refine own_step (S' := (s₁.setTop (mkF m 19 #[.val (.int (2 : Int32))] [(.int (2 : Int32)), (.int (2 : Int32))]))) (fun _ k => XS.iconst X0.here hx rfl (hb hby d1_18) k) ?_
  refine own_step (S' := (s₁.setTop (mkF m 22 #[.val (.int (2 : Int32))] []))) (fun _ k => XS.icmpNo X0.here hx rfl (hb hby d1_19) rfl (teq (by decide : (2 : Int32) = (2 : Int32))).2 k) ?_
  obtain ⟨T3, X3, e3, st3⟩ := getS2 X0 hx hZ hown (host := "") (Or.inl (hw _ (List.mem_of_getElem? (i := 37) rfl))) Via.refl e0 S (g := (mkF m 22 #[.val (.int (2 : Int32))] [])) rfl (hb hby d1_22)
  refine own_step (S' := (T3.setTop (mkF m 25 #[.val (.int (2 : Int32))] [(.ref w)]))) (fun _ k => st3 _ k) ?_
  refine own_retA X3 hx hlk hret rfl rfl rfl (hb hby d1_25) (by decide) (by decide) ?_
  try rw [e3]
  exact ⟨rfl, N0, rfl⟩
set_option maxRecDepth 65536 in
set_option maxHeartbeats 40000000 in
theorem rmP_3 (l : Launch) (Z : State) (a0 : Array Value) (hw : ∀ d ∈ tables_1, d.before a0 Z = true) (ws : List Jvm.Cond) (w : Addr)  (h0 : Heap) (n0 : Nat) (Z0 : n0 ≤ h0.size) (S : Sta Z h0 "com/example/vestline/vestline/cli/Option" "ENTRIES" "Lcom/example/vestline/vestline/cli/Option;" (.ref w)) :
    own_Met l (⟨"com/example/vestline/vestline/cli/OptionTakesValuePinLaw", "pick", "(I)Lcom/example/vestline/vestline/cli/Option;"⟩ : MethodName) method_2_code 1 (some (.object "com/example/vestline/vestline/cli/Option")) ws ({ frames := 0, cells := 0, slots := 0, locals := 0 } : Room) Z #[(.int (3 : Int32))] h0 (fun v h L => v = some (.ref w) ∧ Fr n0 L ∧ h = h0) := by
  refine own_body (plainFor_of_name pn_0) ?_
  intro p e s m below meth c s₁ X0 hx hby hml hown hnm hret hlk hZ e0
  replace hown : s.vm.findClass "com/example/vestline/vestline/cli/OptionTakesValuePinLaw" = some m.cls := hown
  replace hml : c.maxLocals = 1 := hml
  replace hret : meth.sig.returnType = (some (.object "com/example/vestline/vestline/cli/Option")) := hret
  have N0 := Fr.nil n0
  have ef : entryFrame m #[(.int (3 : Int32))] 1 = mkF m 0 #[.val (.int (3 : Int32))] [] := by first | (simp [entryFrame, mkF, argsToLocals, Value.category]; done) | rfl
  refine own_step (S' := (s₁.setTop (mkF m 0 #[.val (.int (3 : Int32))] []))) (fun _ k => castTop ef k) ?_
  refine own_step (S' := (s₁.setTop (mkF m 1 #[.val (.int (3 : Int32))] [(.int (3 : Int32))]))) (fun _ k => XS.iloadN X0.here hx rfl (hb hby d1_0) rfl k) ?_
  refine own_step (S' := (s₁.setTop (mkF m 8 #[.val (.int (3 : Int32))] []))) (fun _ k => XS.ifYes X0.here hx rfl (pc0 := 1) (pc' := 8) rfl (hb hby d1_1) rfl ((if0 _ _).trans (feq (by decide : ¬ ((3 : Int32) = (0 : Int32)))).2) (by decide) (by decide) k) ?_
  refine own_step (S' := (s₁.setTop (mkF m 9 #[.val (.int (3 : Int32))] [(.int (3 : Int32))]))) (fun _ k => XS.iloadN X0.here hx rfl (hb hby d1_8) rfl k) ?_
  refine own_step (S' := (s₁.setTop (mkF m 10 #[.val (.int (3 : Int32))] [(.int (1 : Int32)), (.int (3 : Int32))]))) (fun _ k => XS.iconst X0.here hx rfl (hb hby d1_9) k) ?_
  refine own_step (S' := (s₁.setTop (mkF m 17 #[.val (.int (3 : Int32))] []))) (fun _ k => XS.icmpYes X0.here hx rfl (pc0 := 10) (pc' := 17) rfl (hb hby d1_10) rfl (feq (by decide : ¬ ((3 : Int32) = (1 : Int32)))).2 (by decide) (by decide) k) ?_
  refine own_step (S' := (s₁.setTop (mkF m 18 #[.val (.int (3 : Int32))] [(.int (3 : Int32))]))) (fun _ k => XS.iloadN X0.here hx rfl (hb hby d1_17) rfl k) ?_
  refine own_step (S' := (s₁.setTop (mkF m 19 #[.val (.int (3 : Int32))] [(.int (2 : Int32)), (.int (3 : Int32))]))) (fun _ k => XS.iconst X0.here hx rfl (hb hby d1_18) k) ?_
  refine own_step (S' := (s₁.setTop (mkF m 26 #[.val (.int (3 : Int32))] []))) (fun _ k => XS.icmpYes X0.here hx rfl (pc0 := 19) (pc' := 26) rfl (hb hby d1_19) rfl (feq (by decide : ¬ ((3 : Int32) = (2 : Int32)))).2 (by decide) (by decide) k) ?_
  refine own_step (S' := (s₁.setTop (mkF m 27 #[.val (.int (3 : Int32))] [(.int (3 : Int32))]))) (fun _ k => XS.iloadN X0.here hx rfl (hb hby d1_26) rfl k) ?_
  refine own_step (S' := (s₁.setTop (mkF m 28 #[.val (.int (3 : Int32))] [(.int (3 : Int32)), (.int (3 : Int32))]))) (fun _ k => XS.iconst X0.here hx rfl (hb hby d1_27) k) ?_
  refine own_step (S' := (s₁.setTop (mkF m 31 #[.val (.int (3 : Int32))] []))) (fun _ k => XS.icmpNo X0.here hx rfl (hb hby d1_28) rfl (teq (by decide : (3 : Int32) = (3 : Int32))).2 k) ?_
  obtain ⟨T4, X4, e4, st4⟩ := getS2 X0 hx hZ hown (host := "") (Or.inl (hw _ (List.mem_of_getElem? (i := 31) rfl))) Via.refl e0 S (g := (mkF m 31 #[.val (.int (3 : Int32))] [])) rfl (hb hby d1_31)
  refine own_step (S' := (T4.setTop (mkF m 34 #[.val (.int (3 : Int32))] [(.ref w)]))) (fun _ k => st4 _ k) ?_
  refine own_retA X4 hx hlk hret rfl rfl rfl (hb hby d1_34) (by decide) (by decide) ?_
  try rw [e4]
  exact ⟨rfl, N0, rfl⟩
set_option maxRecDepth 65536 in
set_option maxHeartbeats 40000000 in
theorem rmP_4 (l : Launch) (Z : State) (a0 : Array Value) (hw : ∀ d ∈ tables_1, d.before a0 Z = true) (ws : List Jvm.Cond) (w : Addr)  (h0 : Heap) (n0 : Nat) (Z0 : n0 ≤ h0.size) (S : Sta Z h0 "com/example/vestline/vestline/cli/Option" "YEAR" "Lcom/example/vestline/vestline/cli/Option;" (.ref w)) :
    own_Met l (⟨"com/example/vestline/vestline/cli/OptionTakesValuePinLaw", "pick", "(I)Lcom/example/vestline/vestline/cli/Option;"⟩ : MethodName) method_2_code 1 (some (.object "com/example/vestline/vestline/cli/Option")) ws ({ frames := 0, cells := 0, slots := 0, locals := 0 } : Room) Z #[(.int (4 : Int32))] h0 (fun v h L => v = some (.ref w) ∧ Fr n0 L ∧ h = h0) := by
  refine own_body (plainFor_of_name pn_0) ?_
  intro p e s m below meth c s₁ X0 hx hby hml hown hnm hret hlk hZ e0
  replace hown : s.vm.findClass "com/example/vestline/vestline/cli/OptionTakesValuePinLaw" = some m.cls := hown
  replace hml : c.maxLocals = 1 := hml
  replace hret : meth.sig.returnType = (some (.object "com/example/vestline/vestline/cli/Option")) := hret
  have N0 := Fr.nil n0
  have ef : entryFrame m #[(.int (4 : Int32))] 1 = mkF m 0 #[.val (.int (4 : Int32))] [] := by first | (simp [entryFrame, mkF, argsToLocals, Value.category]; done) | rfl
  refine own_step (S' := (s₁.setTop (mkF m 0 #[.val (.int (4 : Int32))] []))) (fun _ k => castTop ef k) ?_
  refine own_step (S' := (s₁.setTop (mkF m 1 #[.val (.int (4 : Int32))] [(.int (4 : Int32))]))) (fun _ k => XS.iloadN X0.here hx rfl (hb hby d1_0) rfl k) ?_
  refine own_step (S' := (s₁.setTop (mkF m 8 #[.val (.int (4 : Int32))] []))) (fun _ k => XS.ifYes X0.here hx rfl (pc0 := 1) (pc' := 8) rfl (hb hby d1_1) rfl ((if0 _ _).trans (feq (by decide : ¬ ((4 : Int32) = (0 : Int32)))).2) (by decide) (by decide) k) ?_
  refine own_step (S' := (s₁.setTop (mkF m 9 #[.val (.int (4 : Int32))] [(.int (4 : Int32))]))) (fun _ k => XS.iloadN X0.here hx rfl (hb hby d1_8) rfl k) ?_
  refine own_step (S' := (s₁.setTop (mkF m 10 #[.val (.int (4 : Int32))] [(.int (1 : Int32)), (.int (4 : Int32))]))) (fun _ k => XS.iconst X0.here hx rfl (hb hby d1_9) k) ?_
  refine own_step (S' := (s₁.setTop (mkF m 17 #[.val (.int (4 : Int32))] []))) (fun _ k => XS.icmpYes X0.here hx rfl (pc0 := 10) (pc' := 17) rfl (hb hby d1_10) rfl (feq (by decide : ¬ ((4 : Int32) = (1 : Int32)))).2 (by decide) (by decide) k) ?_
  refine own_step (S' := (s₁.setTop (mkF m 18 #[.val (.int (4 : Int32))] [(.int (4 : Int32))]))) (fun _ k => XS.iloadN X0.here hx rfl (hb hby d1_17) rfl k) ?_
  refine own_step (S' := (s₁.setTop (mkF m 19 #[.val (.int (4 : Int32))] [(.int (2 : Int32)), (.int (4 : Int32))]))) (fun _ k => XS.iconst X0.here hx rfl (hb hby d1_18) k) ?_
  refine own_step (S' := (s₁.setTop (mkF m 26 #[.val (.int (4 : Int32))] []))) (fun _ k => XS.icmpYes X0.here hx rfl (pc0 := 19) (pc' := 26) rfl (hb hby d1_19) rfl (feq (by decide : ¬ ((4 : Int32) = (2 : Int32)))).2 (by decide) (by decide) k) ?_
  refine own_step (S' := (s₁.setTop (mkF m 27 #[.val (.int (4 : Int32))] [(.int (4 : Int32))]))) (fun _ k => XS.iloadN X0.here hx rfl (hb hby d1_26) rfl k) ?_
  refine own_step (S' := (s₁.setTop (mkF m 28 #[.val (.int (4 : Int32))] [(.int (3 : Int32)), (.int (4 : Int32))]))) (fun _ k => XS.iconst X0.here hx rfl (hb hby d1_27) k) ?_
  refine own_step (S' := (s₁.setTop (mkF m 35 #[.val (.int (4 : Int32))] []))) (fun _ k => XS.icmpYes X0.here hx rfl (pc0 := 28) (pc' := 35) rfl (hb hby d1_28) rfl (feq (by decide : ¬ ((4 : Int32) = (3 : Int32)))).2 (by decide) (by decide) k) ?_
  refine own_step (S' := (s₁.setTop (mkF m 36 #[.val (.int (4 : Int32))] [(.int (4 : Int32))]))) (fun _ k => XS.iloadN X0.here hx rfl (hb hby d1_35) rfl k) ?_
  refine own_step (S' := (s₁.setTop (mkF m 37 #[.val (.int (4 : Int32))] [(.int (4 : Int32)), (.int (4 : Int32))]))) (fun _ k => XS.iconst X0.here hx rfl (hb hby d1_36) k) ?_
  refine own_step (S' := (s₁.setTop (mkF m 40 #[.val (.int (4 : Int32))] []))) (fun _ k => XS.icmpNo X0.here hx rfl (hb hby d1_37) rfl (teq (by decide : (4 : Int32) = (4 : Int32))).2 k) ?_
  obtain ⟨T5, X5, e5, st5⟩ := getS2 X0 hx hZ hown (host := "") (Or.inl (hw _ (List.mem_of_getElem? (i := 49) rfl))) Via.refl e0 S (g := (mkF m 40 #[.val (.int (4 : Int32))] [])) rfl (hb hby d1_40)
  refine own_step (S' := (T5.setTop (mkF m 43 #[.val (.int (4 : Int32))] [(.ref w)]))) (fun _ k => st5 _ k) ?_
  refine own_retA X5 hx hlk hret rfl rfl rfl (hb hby d1_43) (by decide) (by decide) ?_
  try rw [e5]
  exact ⟨rfl, N0, rfl⟩
set_option maxRecDepth 65536 in
set_option maxHeartbeats 40000000 in
theorem rmP_5 (l : Launch) (Z : State) (a0 : Array Value) (hw : ∀ d ∈ tables_1, d.before a0 Z = true) (ws : List Jvm.Cond) (w : Addr)  (h0 : Heap) (n0 : Nat) (Z0 : n0 ≤ h0.size) (S : Sta Z h0 "com/example/vestline/vestline/cli/Option" "POPULATION" "Lcom/example/vestline/vestline/cli/Option;" (.ref w)) :
    own_Met l (⟨"com/example/vestline/vestline/cli/OptionTakesValuePinLaw", "pick", "(I)Lcom/example/vestline/vestline/cli/Option;"⟩ : MethodName) method_2_code 1 (some (.object "com/example/vestline/vestline/cli/Option")) ws ({ frames := 0, cells := 0, slots := 0, locals := 0 } : Room) Z #[(.int (5 : Int32))] h0 (fun v h L => v = some (.ref w) ∧ Fr n0 L ∧ h = h0) := by
  refine own_body (plainFor_of_name pn_0) ?_
  intro p e s m below meth c s₁ X0 hx hby hml hown hnm hret hlk hZ e0
  replace hown : s.vm.findClass "com/example/vestline/vestline/cli/OptionTakesValuePinLaw" = some m.cls := hown
  replace hml : c.maxLocals = 1 := hml
  replace hret : meth.sig.returnType = (some (.object "com/example/vestline/vestline/cli/Option")) := hret
  have N0 := Fr.nil n0
  have ef : entryFrame m #[(.int (5 : Int32))] 1 = mkF m 0 #[.val (.int (5 : Int32))] [] := by first | (simp [entryFrame, mkF, argsToLocals, Value.category]; done) | rfl
  refine own_step (S' := (s₁.setTop (mkF m 0 #[.val (.int (5 : Int32))] []))) (fun _ k => castTop ef k) ?_
  refine own_step (S' := (s₁.setTop (mkF m 1 #[.val (.int (5 : Int32))] [(.int (5 : Int32))]))) (fun _ k => XS.iloadN X0.here hx rfl (hb hby d1_0) rfl k) ?_
  refine own_step (S' := (s₁.setTop (mkF m 8 #[.val (.int (5 : Int32))] []))) (fun _ k => XS.ifYes X0.here hx rfl (pc0 := 1) (pc' := 8) rfl (hb hby d1_1) rfl ((if0 _ _).trans (feq (by decide : ¬ ((5 : Int32) = (0 : Int32)))).2) (by decide) (by decide) k) ?_
  refine own_step (S' := (s₁.setTop (mkF m 9 #[.val (.int (5 : Int32))] [(.int (5 : Int32))]))) (fun _ k => XS.iloadN X0.here hx rfl (hb hby d1_8) rfl k) ?_
  refine own_step (S' := (s₁.setTop (mkF m 10 #[.val (.int (5 : Int32))] [(.int (1 : Int32)), (.int (5 : Int32))]))) (fun _ k => XS.iconst X0.here hx rfl (hb hby d1_9) k) ?_
  refine own_step (S' := (s₁.setTop (mkF m 17 #[.val (.int (5 : Int32))] []))) (fun _ k => XS.icmpYes X0.here hx rfl (pc0 := 10) (pc' := 17) rfl (hb hby d1_10) rfl (feq (by decide : ¬ ((5 : Int32) = (1 : Int32)))).2 (by decide) (by decide) k) ?_
  refine own_step (S' := (s₁.setTop (mkF m 18 #[.val (.int (5 : Int32))] [(.int (5 : Int32))]))) (fun _ k => XS.iloadN X0.here hx rfl (hb hby d1_17) rfl k) ?_
  refine own_step (S' := (s₁.setTop (mkF m 19 #[.val (.int (5 : Int32))] [(.int (2 : Int32)), (.int (5 : Int32))]))) (fun _ k => XS.iconst X0.here hx rfl (hb hby d1_18) k) ?_
  refine own_step (S' := (s₁.setTop (mkF m 26 #[.val (.int (5 : Int32))] []))) (fun _ k => XS.icmpYes X0.here hx rfl (pc0 := 19) (pc' := 26) rfl (hb hby d1_19) rfl (feq (by decide : ¬ ((5 : Int32) = (2 : Int32)))).2 (by decide) (by decide) k) ?_
  refine own_step (S' := (s₁.setTop (mkF m 27 #[.val (.int (5 : Int32))] [(.int (5 : Int32))]))) (fun _ k => XS.iloadN X0.here hx rfl (hb hby d1_26) rfl k) ?_
  refine own_step (S' := (s₁.setTop (mkF m 28 #[.val (.int (5 : Int32))] [(.int (3 : Int32)), (.int (5 : Int32))]))) (fun _ k => XS.iconst X0.here hx rfl (hb hby d1_27) k) ?_
  refine own_step (S' := (s₁.setTop (mkF m 35 #[.val (.int (5 : Int32))] []))) (fun _ k => XS.icmpYes X0.here hx rfl (pc0 := 28) (pc' := 35) rfl (hb hby d1_28) rfl (feq (by decide : ¬ ((5 : Int32) = (3 : Int32)))).2 (by decide) (by decide) k) ?_
  refine own_step (S' := (s₁.setTop (mkF m 36 #[.val (.int (5 : Int32))] [(.int (5 : Int32))]))) (fun _ k => XS.iloadN X0.here hx rfl (hb hby d1_35) rfl k) ?_
  refine own_step (S' := (s₁.setTop (mkF m 37 #[.val (.int (5 : Int32))] [(.int (4 : Int32)), (.int (5 : Int32))]))) (fun _ k => XS.iconst X0.here hx rfl (hb hby d1_36) k) ?_
  refine own_step (S' := (s₁.setTop (mkF m 44 #[.val (.int (5 : Int32))] []))) (fun _ k => XS.icmpYes X0.here hx rfl (pc0 := 37) (pc' := 44) rfl (hb hby d1_37) rfl (feq (by decide : ¬ ((5 : Int32) = (4 : Int32)))).2 (by decide) (by decide) k) ?_
  refine own_step (S' := (s₁.setTop (mkF m 45 #[.val (.int (5 : Int32))] [(.int (5 : Int32))]))) (fun _ k => XS.iloadN X0.here hx rfl (hb hby d1_44) rfl k) ?_
  refine own_step (S' := (s₁.setTop (mkF m 46 #[.val (.int (5 : Int32))] [(.int (5 : Int32)), (.int (5 : Int32))]))) (fun _ k => XS.iconst X0.here hx rfl (hb hby d1_45) k) ?_
  refine own_step (S' := (s₁.setTop (mkF m 49 #[.val (.int (5 : Int32))] []))) (fun _ k => XS.icmpNo X0.here hx rfl (hb hby d1_46) rfl (teq (by decide : (5 : Int32) = (5 : Int32))).2 k) ?_
  obtain ⟨T6, X6, e6, st6⟩ := getS2 X0 hx hZ hown (host := "") (Or.inl (hw _ (List.mem_of_getElem? (i := 45) rfl))) Via.refl e0 S (g := (mkF m 49 #[.val (.int (5 : Int32))] [])) rfl (hb hby d1_49)
  refine own_step (S' := (T6.setTop (mkF m 52 #[.val (.int (5 : Int32))] [(.ref w)]))) (fun _ k => st6 _ k) ?_
  refine own_retA X6 hx hlk hret rfl rfl rfl (hb hby d1_52) (by decide) (by decide) ?_
  try rw [e6]
  exact ⟨rfl, N0, rfl⟩
set_option maxRecDepth 65536 in
set_option maxHeartbeats 40000000 in
theorem rmP_6 (l : Launch) (Z : State) (a0 : Array Value) (hw : ∀ d ∈ tables_1, d.before a0 Z = true) (ws : List Jvm.Cond) (w : Addr)  (h0 : Heap) (n0 : Nat) (Z0 : n0 ≤ h0.size) (S : Sta Z h0 "com/example/vestline/vestline/cli/Option" "OUT" "Lcom/example/vestline/vestline/cli/Option;" (.ref w)) :
    own_Met l (⟨"com/example/vestline/vestline/cli/OptionTakesValuePinLaw", "pick", "(I)Lcom/example/vestline/vestline/cli/Option;"⟩ : MethodName) method_2_code 1 (some (.object "com/example/vestline/vestline/cli/Option")) ws ({ frames := 0, cells := 0, slots := 0, locals := 0 } : Room) Z #[(.int (6 : Int32))] h0 (fun v h L => v = some (.ref w) ∧ Fr n0 L ∧ h = h0) := by
  refine own_body (plainFor_of_name pn_0) ?_
  intro p e s m below meth c s₁ X0 hx hby hml hown hnm hret hlk hZ e0
  replace hown : s.vm.findClass "com/example/vestline/vestline/cli/OptionTakesValuePinLaw" = some m.cls := hown
  replace hml : c.maxLocals = 1 := hml
  replace hret : meth.sig.returnType = (some (.object "com/example/vestline/vestline/cli/Option")) := hret
  have N0 := Fr.nil n0
  have ef : entryFrame m #[(.int (6 : Int32))] 1 = mkF m 0 #[.val (.int (6 : Int32))] [] := by first | (simp [entryFrame, mkF, argsToLocals, Value.category]; done) | rfl
  refine own_step (S' := (s₁.setTop (mkF m 0 #[.val (.int (6 : Int32))] []))) (fun _ k => castTop ef k) ?_
  refine own_step (S' := (s₁.setTop (mkF m 1 #[.val (.int (6 : Int32))] [(.int (6 : Int32))]))) (fun _ k => XS.iloadN X0.here hx rfl (hb hby d1_0) rfl k) ?_
  refine own_step (S' := (s₁.setTop (mkF m 8 #[.val (.int (6 : Int32))] []))) (fun _ k => XS.ifYes X0.here hx rfl (pc0 := 1) (pc' := 8) rfl (hb hby d1_1) rfl ((if0 _ _).trans (feq (by decide : ¬ ((6 : Int32) = (0 : Int32)))).2) (by decide) (by decide) k) ?_
  refine own_step (S' := (s₁.setTop (mkF m 9 #[.val (.int (6 : Int32))] [(.int (6 : Int32))]))) (fun _ k => XS.iloadN X0.here hx rfl (hb hby d1_8) rfl k) ?_
  refine own_step (S' := (s₁.setTop (mkF m 10 #[.val (.int (6 : Int32))] [(.int (1 : Int32)), (.int (6 : Int32))]))) (fun _ k => XS.iconst X0.here hx rfl (hb hby d1_9) k) ?_
  refine own_step (S' := (s₁.setTop (mkF m 17 #[.val (.int (6 : Int32))] []))) (fun _ k => XS.icmpYes X0.here hx rfl (pc0 := 10) (pc' := 17) rfl (hb hby d1_10) rfl (feq (by decide : ¬ ((6 : Int32) = (1 : Int32)))).2 (by decide) (by decide) k) ?_
  refine own_step (S' := (s₁.setTop (mkF m 18 #[.val (.int (6 : Int32))] [(.int (6 : Int32))]))) (fun _ k => XS.iloadN X0.here hx rfl (hb hby d1_17) rfl k) ?_
  refine own_step (S' := (s₁.setTop (mkF m 19 #[.val (.int (6 : Int32))] [(.int (2 : Int32)), (.int (6 : Int32))]))) (fun _ k => XS.iconst X0.here hx rfl (hb hby d1_18) k) ?_
  refine own_step (S' := (s₁.setTop (mkF m 26 #[.val (.int (6 : Int32))] []))) (fun _ k => XS.icmpYes X0.here hx rfl (pc0 := 19) (pc' := 26) rfl (hb hby d1_19) rfl (feq (by decide : ¬ ((6 : Int32) = (2 : Int32)))).2 (by decide) (by decide) k) ?_
  refine own_step (S' := (s₁.setTop (mkF m 27 #[.val (.int (6 : Int32))] [(.int (6 : Int32))]))) (fun _ k => XS.iloadN X0.here hx rfl (hb hby d1_26) rfl k) ?_
  refine own_step (S' := (s₁.setTop (mkF m 28 #[.val (.int (6 : Int32))] [(.int (3 : Int32)), (.int (6 : Int32))]))) (fun _ k => XS.iconst X0.here hx rfl (hb hby d1_27) k) ?_
  refine own_step (S' := (s₁.setTop (mkF m 35 #[.val (.int (6 : Int32))] []))) (fun _ k => XS.icmpYes X0.here hx rfl (pc0 := 28) (pc' := 35) rfl (hb hby d1_28) rfl (feq (by decide : ¬ ((6 : Int32) = (3 : Int32)))).2 (by decide) (by decide) k) ?_
  refine own_step (S' := (s₁.setTop (mkF m 36 #[.val (.int (6 : Int32))] [(.int (6 : Int32))]))) (fun _ k => XS.iloadN X0.here hx rfl (hb hby d1_35) rfl k) ?_
  refine own_step (S' := (s₁.setTop (mkF m 37 #[.val (.int (6 : Int32))] [(.int (4 : Int32)), (.int (6 : Int32))]))) (fun _ k => XS.iconst X0.here hx rfl (hb hby d1_36) k) ?_
  refine own_step (S' := (s₁.setTop (mkF m 44 #[.val (.int (6 : Int32))] []))) (fun _ k => XS.icmpYes X0.here hx rfl (pc0 := 37) (pc' := 44) rfl (hb hby d1_37) rfl (feq (by decide : ¬ ((6 : Int32) = (4 : Int32)))).2 (by decide) (by decide) k) ?_
  refine own_step (S' := (s₁.setTop (mkF m 45 #[.val (.int (6 : Int32))] [(.int (6 : Int32))]))) (fun _ k => XS.iloadN X0.here hx rfl (hb hby d1_44) rfl k) ?_
  refine own_step (S' := (s₁.setTop (mkF m 46 #[.val (.int (6 : Int32))] [(.int (5 : Int32)), (.int (6 : Int32))]))) (fun _ k => XS.iconst X0.here hx rfl (hb hby d1_45) k) ?_
  refine own_step (S' := (s₁.setTop (mkF m 53 #[.val (.int (6 : Int32))] []))) (fun _ k => XS.icmpYes X0.here hx rfl (pc0 := 46) (pc' := 53) rfl (hb hby d1_46) rfl (feq (by decide : ¬ ((6 : Int32) = (5 : Int32)))).2 (by decide) (by decide) k) ?_
  refine own_step (S' := (s₁.setTop (mkF m 54 #[.val (.int (6 : Int32))] [(.int (6 : Int32))]))) (fun _ k => XS.iloadN X0.here hx rfl (hb hby d1_53) rfl k) ?_
  refine own_step (S' := (s₁.setTop (mkF m 56 #[.val (.int (6 : Int32))] [(.int (6 : Int32)), (.int (6 : Int32))]))) (fun _ k => XS.bipush X0.here hx rfl (hb hby d1_54) k) ?_
  refine own_step (S' := (s₁.setTop (mkF m 59 #[.val (.int (6 : Int32))] []))) (fun _ k => XS.icmpNo X0.here hx rfl (hb hby d1_56) rfl (teq (by decide : (6 : Int32) = (6 : Int32))).2 k) ?_
  obtain ⟨T7, X7, e7, st7⟩ := getS2 X0 hx hZ hown (host := "") (Or.inl (hw _ (List.mem_of_getElem? (i := 47) rfl))) Via.refl e0 S (g := (mkF m 59 #[.val (.int (6 : Int32))] [])) rfl (hb hby d1_59)
  refine own_step (S' := (T7.setTop (mkF m 62 #[.val (.int (6 : Int32))] [(.ref w)]))) (fun _ k => st7 _ k) ?_
  refine own_retA X7 hx hlk hret rfl rfl rfl (hb hby d1_62) (by decide) (by decide) ?_
  try rw [e7]
  exact ⟨rfl, N0, rfl⟩
set_option maxRecDepth 65536 in
set_option maxHeartbeats 40000000 in
theorem rmP_7 (l : Launch) (Z : State) (a0 : Array Value) (hw : ∀ d ∈ tables_1, d.before a0 Z = true) (ws : List Jvm.Cond) (w : Addr)  (h0 : Heap) (n0 : Nat) (Z0 : n0 ≤ h0.size) (S : Sta Z h0 "com/example/vestline/vestline/cli/Option" "PARTICIPANTS" "Lcom/example/vestline/vestline/cli/Option;" (.ref w)) :
    own_Met l (⟨"com/example/vestline/vestline/cli/OptionTakesValuePinLaw", "pick", "(I)Lcom/example/vestline/vestline/cli/Option;"⟩ : MethodName) method_2_code 1 (some (.object "com/example/vestline/vestline/cli/Option")) ws ({ frames := 0, cells := 0, slots := 0, locals := 0 } : Room) Z #[(.int (7 : Int32))] h0 (fun v h L => v = some (.ref w) ∧ Fr n0 L ∧ h = h0) := by
  refine own_body (plainFor_of_name pn_0) ?_
  intro p e s m below meth c s₁ X0 hx hby hml hown hnm hret hlk hZ e0
  replace hown : s.vm.findClass "com/example/vestline/vestline/cli/OptionTakesValuePinLaw" = some m.cls := hown
  replace hml : c.maxLocals = 1 := hml
  replace hret : meth.sig.returnType = (some (.object "com/example/vestline/vestline/cli/Option")) := hret
  have N0 := Fr.nil n0
  have ef : entryFrame m #[(.int (7 : Int32))] 1 = mkF m 0 #[.val (.int (7 : Int32))] [] := by first | (simp [entryFrame, mkF, argsToLocals, Value.category]; done) | rfl
  refine own_step (S' := (s₁.setTop (mkF m 0 #[.val (.int (7 : Int32))] []))) (fun _ k => castTop ef k) ?_
  refine own_step (S' := (s₁.setTop (mkF m 1 #[.val (.int (7 : Int32))] [(.int (7 : Int32))]))) (fun _ k => XS.iloadN X0.here hx rfl (hb hby d1_0) rfl k) ?_
  refine own_step (S' := (s₁.setTop (mkF m 8 #[.val (.int (7 : Int32))] []))) (fun _ k => XS.ifYes X0.here hx rfl (pc0 := 1) (pc' := 8) rfl (hb hby d1_1) rfl ((if0 _ _).trans (feq (by decide : ¬ ((7 : Int32) = (0 : Int32)))).2) (by decide) (by decide) k) ?_
  refine own_step (S' := (s₁.setTop (mkF m 9 #[.val (.int (7 : Int32))] [(.int (7 : Int32))]))) (fun _ k => XS.iloadN X0.here hx rfl (hb hby d1_8) rfl k) ?_
  refine own_step (S' := (s₁.setTop (mkF m 10 #[.val (.int (7 : Int32))] [(.int (1 : Int32)), (.int (7 : Int32))]))) (fun _ k => XS.iconst X0.here hx rfl (hb hby d1_9) k) ?_
  refine own_step (S' := (s₁.setTop (mkF m 17 #[.val (.int (7 : Int32))] []))) (fun _ k => XS.icmpYes X0.here hx rfl (pc0 := 10) (pc' := 17) rfl (hb hby d1_10) rfl (feq (by decide : ¬ ((7 : Int32) = (1 : Int32)))).2 (by decide) (by decide) k) ?_
  refine own_step (S' := (s₁.setTop (mkF m 18 #[.val (.int (7 : Int32))] [(.int (7 : Int32))]))) (fun _ k => XS.iloadN X0.here hx rfl (hb hby d1_17) rfl k) ?_
  refine own_step (S' := (s₁.setTop (mkF m 19 #[.val (.int (7 : Int32))] [(.int (2 : Int32)), (.int (7 : Int32))]))) (fun _ k => XS.iconst X0.here hx rfl (hb hby d1_18) k) ?_
  refine own_step (S' := (s₁.setTop (mkF m 26 #[.val (.int (7 : Int32))] []))) (fun _ k => XS.icmpYes X0.here hx rfl (pc0 := 19) (pc' := 26) rfl (hb hby d1_19) rfl (feq (by decide : ¬ ((7 : Int32) = (2 : Int32)))).2 (by decide) (by decide) k) ?_
  refine own_step (S' := (s₁.setTop (mkF m 27 #[.val (.int (7 : Int32))] [(.int (7 : Int32))]))) (fun _ k => XS.iloadN X0.here hx rfl (hb hby d1_26) rfl k) ?_
  refine own_step (S' := (s₁.setTop (mkF m 28 #[.val (.int (7 : Int32))] [(.int (3 : Int32)), (.int (7 : Int32))]))) (fun _ k => XS.iconst X0.here hx rfl (hb hby d1_27) k) ?_
  refine own_step (S' := (s₁.setTop (mkF m 35 #[.val (.int (7 : Int32))] []))) (fun _ k => XS.icmpYes X0.here hx rfl (pc0 := 28) (pc' := 35) rfl (hb hby d1_28) rfl (feq (by decide : ¬ ((7 : Int32) = (3 : Int32)))).2 (by decide) (by decide) k) ?_
  refine own_step (S' := (s₁.setTop (mkF m 36 #[.val (.int (7 : Int32))] [(.int (7 : Int32))]))) (fun _ k => XS.iloadN X0.here hx rfl (hb hby d1_35) rfl k) ?_
  refine own_step (S' := (s₁.setTop (mkF m 37 #[.val (.int (7 : Int32))] [(.int (4 : Int32)), (.int (7 : Int32))]))) (fun _ k => XS.iconst X0.here hx rfl (hb hby d1_36) k) ?_
  refine own_step (S' := (s₁.setTop (mkF m 44 #[.val (.int (7 : Int32))] []))) (fun _ k => XS.icmpYes X0.here hx rfl (pc0 := 37) (pc' := 44) rfl (hb hby d1_37) rfl (feq (by decide : ¬ ((7 : Int32) = (4 : Int32)))).2 (by decide) (by decide) k) ?_
  refine own_step (S' := (s₁.setTop (mkF m 45 #[.val (.int (7 : Int32))] [(.int (7 : Int32))]))) (fun _ k => XS.iloadN X0.here hx rfl (hb hby d1_44) rfl k) ?_
  refine own_step (S' := (s₁.setTop (mkF m 46 #[.val (.int (7 : Int32))] [(.int (5 : Int32)), (.int (7 : Int32))]))) (fun _ k => XS.iconst X0.here hx rfl (hb hby d1_45) k) ?_
  refine own_step (S' := (s₁.setTop (mkF m 53 #[.val (.int (7 : Int32))] []))) (fun _ k => XS.icmpYes X0.here hx rfl (pc0 := 46) (pc' := 53) rfl (hb hby d1_46) rfl (feq (by decide : ¬ ((7 : Int32) = (5 : Int32)))).2 (by decide) (by decide) k) ?_
  refine own_step (S' := (s₁.setTop (mkF m 54 #[.val (.int (7 : Int32))] [(.int (7 : Int32))]))) (fun _ k => XS.iloadN X0.here hx rfl (hb hby d1_53) rfl k) ?_
  refine own_step (S' := (s₁.setTop (mkF m 56 #[.val (.int (7 : Int32))] [(.int (6 : Int32)), (.int (7 : Int32))]))) (fun _ k => XS.bipush X0.here hx rfl (hb hby d1_54) k) ?_
  refine own_step (S' := (s₁.setTop (mkF m 63 #[.val (.int (7 : Int32))] []))) (fun _ k => XS.icmpYes X0.here hx rfl (pc0 := 56) (pc' := 63) rfl (hb hby d1_56) rfl (feq (by decide : ¬ ((7 : Int32) = (6 : Int32)))).2 (by decide) (by decide) k) ?_
  refine own_step (S' := (s₁.setTop (mkF m 64 #[.val (.int (7 : Int32))] [(.int (7 : Int32))]))) (fun _ k => XS.iloadN X0.here hx rfl (hb hby d1_63) rfl k) ?_
  refine own_step (S' := (s₁.setTop (mkF m 66 #[.val (.int (7 : Int32))] [(.int (7 : Int32)), (.int (7 : Int32))]))) (fun _ k => XS.bipush X0.here hx rfl (hb hby d1_64) k) ?_
  refine own_step (S' := (s₁.setTop (mkF m 69 #[.val (.int (7 : Int32))] []))) (fun _ k => XS.icmpNo X0.here hx rfl (hb hby d1_66) rfl (teq (by decide : (7 : Int32) = (7 : Int32))).2 k) ?_
  obtain ⟨T8, X8, e8, st8⟩ := getS2 X0 hx hZ hown (host := "") (Or.inl (hw _ (List.mem_of_getElem? (i := 33) rfl))) Via.refl e0 S (g := (mkF m 69 #[.val (.int (7 : Int32))] [])) rfl (hb hby d1_69)
  refine own_step (S' := (T8.setTop (mkF m 72 #[.val (.int (7 : Int32))] [(.ref w)]))) (fun _ k => st8 _ k) ?_
  refine own_retA X8 hx hlk hret rfl rfl rfl (hb hby d1_72) (by decide) (by decide) ?_
  try rw [e8]
  exact ⟨rfl, N0, rfl⟩
set_option maxRecDepth 65536 in
set_option maxHeartbeats 40000000 in
theorem rmP_8 (l : Launch) (Z : State) (a0 : Array Value) (hw : ∀ d ∈ tables_1, d.before a0 Z = true) (ws : List Jvm.Cond) (w : Addr)  (h0 : Heap) (n0 : Nat) (Z0 : n0 ≤ h0.size) (S : Sta Z h0 "com/example/vestline/vestline/cli/Option" "SEED" "Lcom/example/vestline/vestline/cli/Option;" (.ref w)) :
    own_Met l (⟨"com/example/vestline/vestline/cli/OptionTakesValuePinLaw", "pick", "(I)Lcom/example/vestline/vestline/cli/Option;"⟩ : MethodName) method_2_code 1 (some (.object "com/example/vestline/vestline/cli/Option")) ws ({ frames := 0, cells := 0, slots := 0, locals := 0 } : Room) Z #[(.int (8 : Int32))] h0 (fun v h L => v = some (.ref w) ∧ Fr n0 L ∧ h = h0) := by
  refine own_body (plainFor_of_name pn_0) ?_
  intro p e s m below meth c s₁ X0 hx hby hml hown hnm hret hlk hZ e0
  replace hown : s.vm.findClass "com/example/vestline/vestline/cli/OptionTakesValuePinLaw" = some m.cls := hown
  replace hml : c.maxLocals = 1 := hml
  replace hret : meth.sig.returnType = (some (.object "com/example/vestline/vestline/cli/Option")) := hret
  have N0 := Fr.nil n0
  have ef : entryFrame m #[(.int (8 : Int32))] 1 = mkF m 0 #[.val (.int (8 : Int32))] [] := by first | (simp [entryFrame, mkF, argsToLocals, Value.category]; done) | rfl
  refine own_step (S' := (s₁.setTop (mkF m 0 #[.val (.int (8 : Int32))] []))) (fun _ k => castTop ef k) ?_
  refine own_step (S' := (s₁.setTop (mkF m 1 #[.val (.int (8 : Int32))] [(.int (8 : Int32))]))) (fun _ k => XS.iloadN X0.here hx rfl (hb hby d1_0) rfl k) ?_
  refine own_step (S' := (s₁.setTop (mkF m 8 #[.val (.int (8 : Int32))] []))) (fun _ k => XS.ifYes X0.here hx rfl (pc0 := 1) (pc' := 8) rfl (hb hby d1_1) rfl ((if0 _ _).trans (feq (by decide : ¬ ((8 : Int32) = (0 : Int32)))).2) (by decide) (by decide) k) ?_
  refine own_step (S' := (s₁.setTop (mkF m 9 #[.val (.int (8 : Int32))] [(.int (8 : Int32))]))) (fun _ k => XS.iloadN X0.here hx rfl (hb hby d1_8) rfl k) ?_
  refine own_step (S' := (s₁.setTop (mkF m 10 #[.val (.int (8 : Int32))] [(.int (1 : Int32)), (.int (8 : Int32))]))) (fun _ k => XS.iconst X0.here hx rfl (hb hby d1_9) k) ?_
  refine own_step (S' := (s₁.setTop (mkF m 17 #[.val (.int (8 : Int32))] []))) (fun _ k => XS.icmpYes X0.here hx rfl (pc0 := 10) (pc' := 17) rfl (hb hby d1_10) rfl (feq (by decide : ¬ ((8 : Int32) = (1 : Int32)))).2 (by decide) (by decide) k) ?_
  refine own_step (S' := (s₁.setTop (mkF m 18 #[.val (.int (8 : Int32))] [(.int (8 : Int32))]))) (fun _ k => XS.iloadN X0.here hx rfl (hb hby d1_17) rfl k) ?_
  refine own_step (S' := (s₁.setTop (mkF m 19 #[.val (.int (8 : Int32))] [(.int (2 : Int32)), (.int (8 : Int32))]))) (fun _ k => XS.iconst X0.here hx rfl (hb hby d1_18) k) ?_
  refine own_step (S' := (s₁.setTop (mkF m 26 #[.val (.int (8 : Int32))] []))) (fun _ k => XS.icmpYes X0.here hx rfl (pc0 := 19) (pc' := 26) rfl (hb hby d1_19) rfl (feq (by decide : ¬ ((8 : Int32) = (2 : Int32)))).2 (by decide) (by decide) k) ?_
  refine own_step (S' := (s₁.setTop (mkF m 27 #[.val (.int (8 : Int32))] [(.int (8 : Int32))]))) (fun _ k => XS.iloadN X0.here hx rfl (hb hby d1_26) rfl k) ?_
  refine own_step (S' := (s₁.setTop (mkF m 28 #[.val (.int (8 : Int32))] [(.int (3 : Int32)), (.int (8 : Int32))]))) (fun _ k => XS.iconst X0.here hx rfl (hb hby d1_27) k) ?_
  refine own_step (S' := (s₁.setTop (mkF m 35 #[.val (.int (8 : Int32))] []))) (fun _ k => XS.icmpYes X0.here hx rfl (pc0 := 28) (pc' := 35) rfl (hb hby d1_28) rfl (feq (by decide : ¬ ((8 : Int32) = (3 : Int32)))).2 (by decide) (by decide) k) ?_
  refine own_step (S' := (s₁.setTop (mkF m 36 #[.val (.int (8 : Int32))] [(.int (8 : Int32))]))) (fun _ k => XS.iloadN X0.here hx rfl (hb hby d1_35) rfl k) ?_
  refine own_step (S' := (s₁.setTop (mkF m 37 #[.val (.int (8 : Int32))] [(.int (4 : Int32)), (.int (8 : Int32))]))) (fun _ k => XS.iconst X0.here hx rfl (hb hby d1_36) k) ?_
  refine own_step (S' := (s₁.setTop (mkF m 44 #[.val (.int (8 : Int32))] []))) (fun _ k => XS.icmpYes X0.here hx rfl (pc0 := 37) (pc' := 44) rfl (hb hby d1_37) rfl (feq (by decide : ¬ ((8 : Int32) = (4 : Int32)))).2 (by decide) (by decide) k) ?_
  refine own_step (S' := (s₁.setTop (mkF m 45 #[.val (.int (8 : Int32))] [(.int (8 : Int32))]))) (fun _ k => XS.iloadN X0.here hx rfl (hb hby d1_44) rfl k) ?_
  refine own_step (S' := (s₁.setTop (mkF m 46 #[.val (.int (8 : Int32))] [(.int (5 : Int32)), (.int (8 : Int32))]))) (fun _ k => XS.iconst X0.here hx rfl (hb hby d1_45) k) ?_
  refine own_step (S' := (s₁.setTop (mkF m 53 #[.val (.int (8 : Int32))] []))) (fun _ k => XS.icmpYes X0.here hx rfl (pc0 := 46) (pc' := 53) rfl (hb hby d1_46) rfl (feq (by decide : ¬ ((8 : Int32) = (5 : Int32)))).2 (by decide) (by decide) k) ?_
  refine own_step (S' := (s₁.setTop (mkF m 54 #[.val (.int (8 : Int32))] [(.int (8 : Int32))]))) (fun _ k => XS.iloadN X0.here hx rfl (hb hby d1_53) rfl k) ?_
  refine own_step (S' := (s₁.setTop (mkF m 56 #[.val (.int (8 : Int32))] [(.int (6 : Int32)), (.int (8 : Int32))]))) (fun _ k => XS.bipush X0.here hx rfl (hb hby d1_54) k) ?_
  refine own_step (S' := (s₁.setTop (mkF m 63 #[.val (.int (8 : Int32))] []))) (fun _ k => XS.icmpYes X0.here hx rfl (pc0 := 56) (pc' := 63) rfl (hb hby d1_56) rfl (feq (by decide : ¬ ((8 : Int32) = (6 : Int32)))).2 (by decide) (by decide) k) ?_
  refine own_step (S' := (s₁.setTop (mkF m 64 #[.val (.int (8 : Int32))] [(.int (8 : Int32))]))) (fun _ k => XS.iloadN X0.here hx rfl (hb hby d1_63) rfl k) ?_
  refine own_step (S' := (s₁.setTop (mkF m 66 #[.val (.int (8 : Int32))] [(.int (7 : Int32)), (.int (8 : Int32))]))) (fun _ k => XS.bipush X0.here hx rfl (hb hby d1_64) k) ?_
  refine own_step (S' := (s₁.setTop (mkF m 73 #[.val (.int (8 : Int32))] []))) (fun _ k => XS.icmpYes X0.here hx rfl (pc0 := 66) (pc' := 73) rfl (hb hby d1_66) rfl (feq (by decide : ¬ ((8 : Int32) = (7 : Int32)))).2 (by decide) (by decide) k) ?_
  refine own_step (S' := (s₁.setTop (mkF m 74 #[.val (.int (8 : Int32))] [(.int (8 : Int32))]))) (fun _ k => XS.iloadN X0.here hx rfl (hb hby d1_73) rfl k) ?_
  refine own_step (S' := (s₁.setTop (mkF m 76 #[.val (.int (8 : Int32))] [(.int (8 : Int32)), (.int (8 : Int32))]))) (fun _ k => XS.bipush X0.here hx rfl (hb hby d1_74) k) ?_
  refine own_step (S' := (s₁.setTop (mkF m 79 #[.val (.int (8 : Int32))] []))) (fun _ k => XS.icmpNo X0.here hx rfl (hb hby d1_76) rfl (teq (by decide : (8 : Int32) = (8 : Int32))).2 k) ?_
  obtain ⟨T9, X9, e9, st9⟩ := getS2 X0 hx hZ hown (host := "") (Or.inl (hw _ (List.mem_of_getElem? (i := 35) rfl))) Via.refl e0 S (g := (mkF m 79 #[.val (.int (8 : Int32))] [])) rfl (hb hby d1_79)
  refine own_step (S' := (T9.setTop (mkF m 82 #[.val (.int (8 : Int32))] [(.ref w)]))) (fun _ k => st9 _ k) ?_
  refine own_retA X9 hx hlk hret rfl rfl rfl (hb hby d1_82) (by decide) (by decide) ?_
  try rw [e9]
  exact ⟨rfl, N0, rfl⟩
set_option maxRecDepth 65536 in
set_option maxHeartbeats 40000000 in
theorem rmP_9 (l : Launch) (Z : State) (a0 : Array Value) (hw : ∀ d ∈ tables_1, d.before a0 Z = true) (ws : List Jvm.Cond) (w : Addr)  (h0 : Heap) (n0 : Nat) (Z0 : n0 ≤ h0.size) (S : Sta Z h0 "com/example/vestline/vestline/cli/Option" "FUND_PRICES" "Lcom/example/vestline/vestline/cli/Option;" (.ref w)) :
    own_Met l (⟨"com/example/vestline/vestline/cli/OptionTakesValuePinLaw", "pick", "(I)Lcom/example/vestline/vestline/cli/Option;"⟩ : MethodName) method_2_code 1 (some (.object "com/example/vestline/vestline/cli/Option")) ws ({ frames := 0, cells := 0, slots := 0, locals := 0 } : Room) Z #[(.int (9 : Int32))] h0 (fun v h L => v = some (.ref w) ∧ Fr n0 L ∧ h = h0) := by
  refine own_body (plainFor_of_name pn_0) ?_
  intro p e s m below meth c s₁ X0 hx hby hml hown hnm hret hlk hZ e0
  replace hown : s.vm.findClass "com/example/vestline/vestline/cli/OptionTakesValuePinLaw" = some m.cls := hown
  replace hml : c.maxLocals = 1 := hml
  replace hret : meth.sig.returnType = (some (.object "com/example/vestline/vestline/cli/Option")) := hret
  have N0 := Fr.nil n0
  have ef : entryFrame m #[(.int (9 : Int32))] 1 = mkF m 0 #[.val (.int (9 : Int32))] [] := by first | (simp [entryFrame, mkF, argsToLocals, Value.category]; done) | rfl
  refine own_step (S' := (s₁.setTop (mkF m 0 #[.val (.int (9 : Int32))] []))) (fun _ k => castTop ef k) ?_
  refine own_step (S' := (s₁.setTop (mkF m 1 #[.val (.int (9 : Int32))] [(.int (9 : Int32))]))) (fun _ k => XS.iloadN X0.here hx rfl (hb hby d1_0) rfl k) ?_
  refine own_step (S' := (s₁.setTop (mkF m 8 #[.val (.int (9 : Int32))] []))) (fun _ k => XS.ifYes X0.here hx rfl (pc0 := 1) (pc' := 8) rfl (hb hby d1_1) rfl ((if0 _ _).trans (feq (by decide : ¬ ((9 : Int32) = (0 : Int32)))).2) (by decide) (by decide) k) ?_
  refine own_step (S' := (s₁.setTop (mkF m 9 #[.val (.int (9 : Int32))] [(.int (9 : Int32))]))) (fun _ k => XS.iloadN X0.here hx rfl (hb hby d1_8) rfl k) ?_
  refine own_step (S' := (s₁.setTop (mkF m 10 #[.val (.int (9 : Int32))] [(.int (1 : Int32)), (.int (9 : Int32))]))) (fun _ k => XS.iconst X0.here hx rfl (hb hby d1_9) k) ?_
  refine own_step (S' := (s₁.setTop (mkF m 17 #[.val (.int (9 : Int32))] []))) (fun _ k => XS.icmpYes X0.here hx rfl (pc0 := 10) (pc' := 17) rfl (hb hby d1_10) rfl (feq (by decide : ¬ ((9 : Int32) = (1 : Int32)))).2 (by decide) (by decide) k) ?_
  refine own_step (S' := (s₁.setTop (mkF m 18 #[.val (.int (9 : Int32))] [(.int (9 : Int32))]))) (fun _ k => XS.iloadN X0.here hx rfl (hb hby d1_17) rfl k) ?_
  refine own_step (S' := (s₁.setTop (mkF m 19 #[.val (.int (9 : Int32))] [(.int (2 : Int32)), (.int (9 : Int32))]))) (fun _ k => XS.iconst X0.here hx rfl (hb hby d1_18) k) ?_
  refine own_step (S' := (s₁.setTop (mkF m 26 #[.val (.int (9 : Int32))] []))) (fun _ k => XS.icmpYes X0.here hx rfl (pc0 := 19) (pc' := 26) rfl (hb hby d1_19) rfl (feq (by decide : ¬ ((9 : Int32) = (2 : Int32)))).2 (by decide) (by decide) k) ?_
  refine own_step (S' := (s₁.setTop (mkF m 27 #[.val (.int (9 : Int32))] [(.int (9 : Int32))]))) (fun _ k => XS.iloadN X0.here hx rfl (hb hby d1_26) rfl k) ?_
  refine own_step (S' := (s₁.setTop (mkF m 28 #[.val (.int (9 : Int32))] [(.int (3 : Int32)), (.int (9 : Int32))]))) (fun _ k => XS.iconst X0.here hx rfl (hb hby d1_27) k) ?_
  refine own_step (S' := (s₁.setTop (mkF m 35 #[.val (.int (9 : Int32))] []))) (fun _ k => XS.icmpYes X0.here hx rfl (pc0 := 28) (pc' := 35) rfl (hb hby d1_28) rfl (feq (by decide : ¬ ((9 : Int32) = (3 : Int32)))).2 (by decide) (by decide) k) ?_
  refine own_step (S' := (s₁.setTop (mkF m 36 #[.val (.int (9 : Int32))] [(.int (9 : Int32))]))) (fun _ k => XS.iloadN X0.here hx rfl (hb hby d1_35) rfl k) ?_
  refine own_step (S' := (s₁.setTop (mkF m 37 #[.val (.int (9 : Int32))] [(.int (4 : Int32)), (.int (9 : Int32))]))) (fun _ k => XS.iconst X0.here hx rfl (hb hby d1_36) k) ?_
  refine own_step (S' := (s₁.setTop (mkF m 44 #[.val (.int (9 : Int32))] []))) (fun _ k => XS.icmpYes X0.here hx rfl (pc0 := 37) (pc' := 44) rfl (hb hby d1_37) rfl (feq (by decide : ¬ ((9 : Int32) = (4 : Int32)))).2 (by decide) (by decide) k) ?_
  refine own_step (S' := (s₁.setTop (mkF m 45 #[.val (.int (9 : Int32))] [(.int (9 : Int32))]))) (fun _ k => XS.iloadN X0.here hx rfl (hb hby d1_44) rfl k) ?_
  refine own_step (S' := (s₁.setTop (mkF m 46 #[.val (.int (9 : Int32))] [(.int (5 : Int32)), (.int (9 : Int32))]))) (fun _ k => XS.iconst X0.here hx rfl (hb hby d1_45) k) ?_
  refine own_step (S' := (s₁.setTop (mkF m 53 #[.val (.int (9 : Int32))] []))) (fun _ k => XS.icmpYes X0.here hx rfl (pc0 := 46) (pc' := 53) rfl (hb hby d1_46) rfl (feq (by decide : ¬ ((9 : Int32) = (5 : Int32)))).2 (by decide) (by decide) k) ?_
  refine own_step (S' := (s₁.setTop (mkF m 54 #[.val (.int (9 : Int32))] [(.int (9 : Int32))]))) (fun _ k => XS.iloadN X0.here hx rfl (hb hby d1_53) rfl k) ?_
  refine own_step (S' := (s₁.setTop (mkF m 56 #[.val (.int (9 : Int32))] [(.int (6 : Int32)), (.int (9 : Int32))]))) (fun _ k => XS.bipush X0.here hx rfl (hb hby d1_54) k) ?_
  refine own_step (S' := (s₁.setTop (mkF m 63 #[.val (.int (9 : Int32))] []))) (fun _ k => XS.icmpYes X0.here hx rfl (pc0 := 56) (pc' := 63) rfl (hb hby d1_56) rfl (feq (by decide : ¬ ((9 : Int32) = (6 : Int32)))).2 (by decide) (by decide) k) ?_
  refine own_step (S' := (s₁.setTop (mkF m 64 #[.val (.int (9 : Int32))] [(.int (9 : Int32))]))) (fun _ k => XS.iloadN X0.here hx rfl (hb hby d1_63) rfl k) ?_
  refine own_step (S' := (s₁.setTop (mkF m 66 #[.val (.int (9 : Int32))] [(.int (7 : Int32)), (.int (9 : Int32))]))) (fun _ k => XS.bipush X0.here hx rfl (hb hby d1_64) k) ?_
  refine own_step (S' := (s₁.setTop (mkF m 73 #[.val (.int (9 : Int32))] []))) (fun _ k => XS.icmpYes X0.here hx rfl (pc0 := 66) (pc' := 73) rfl (hb hby d1_66) rfl (feq (by decide : ¬ ((9 : Int32) = (7 : Int32)))).2 (by decide) (by decide) k) ?_
  refine own_step (S' := (s₁.setTop (mkF m 74 #[.val (.int (9 : Int32))] [(.int (9 : Int32))]))) (fun _ k => XS.iloadN X0.here hx rfl (hb hby d1_73) rfl k) ?_
  refine own_step (S' := (s₁.setTop (mkF m 76 #[.val (.int (9 : Int32))] [(.int (8 : Int32)), (.int (9 : Int32))]))) (fun _ k => XS.bipush X0.here hx rfl (hb hby d1_74) k) ?_
  refine own_step (S' := (s₁.setTop (mkF m 83 #[.val (.int (9 : Int32))] []))) (fun _ k => XS.icmpYes X0.here hx rfl (pc0 := 76) (pc' := 83) rfl (hb hby d1_76) rfl (feq (by decide : ¬ ((9 : Int32) = (8 : Int32)))).2 (by decide) (by decide) k) ?_
  refine own_step (S' := (s₁.setTop (mkF m 84 #[.val (.int (9 : Int32))] [(.int (9 : Int32))]))) (fun _ k => XS.iloadN X0.here hx rfl (hb hby d1_83) rfl k) ?_
  refine own_step (S' := (s₁.setTop (mkF m 86 #[.val (.int (9 : Int32))] [(.int (9 : Int32)), (.int (9 : Int32))]))) (fun _ k => XS.bipush X0.here hx rfl (hb hby d1_84) k) ?_
  refine own_step (S' := (s₁.setTop (mkF m 89 #[.val (.int (9 : Int32))] []))) (fun _ k => XS.icmpNo X0.here hx rfl (hb hby d1_86) rfl (teq (by decide : (9 : Int32) = (9 : Int32))).2 k) ?_
  obtain ⟨T10, X10, e10, st10⟩ := getS2 X0 hx hZ hown (host := "") (Or.inl (hw _ (List.mem_of_getElem? (i := 43) rfl))) Via.refl e0 S (g := (mkF m 89 #[.val (.int (9 : Int32))] [])) rfl (hb hby d1_89)
  refine own_step (S' := (T10.setTop (mkF m 92 #[.val (.int (9 : Int32))] [(.ref w)]))) (fun _ k => st10 _ k) ?_
  refine own_retA X10 hx hlk hret rfl rfl rfl (hb hby d1_92) (by decide) (by decide) ?_
  try rw [e10]
  exact ⟨rfl, N0, rfl⟩
set_option maxRecDepth 65536 in
set_option maxHeartbeats 40000000 in
theorem rmP_10 (l : Launch) (Z : State) (a0 : Array Value) (hw : ∀ d ∈ tables_1, d.before a0 Z = true) (ws : List Jvm.Cond) (w : Addr)  (h0 : Heap) (n0 : Nat) (Z0 : n0 ≤ h0.size) (S : Sta Z h0 "com/example/vestline/vestline/cli/Option" "THROUGH" "Lcom/example/vestline/vestline/cli/Option;" (.ref w)) :
    own_Met l (⟨"com/example/vestline/vestline/cli/OptionTakesValuePinLaw", "pick", "(I)Lcom/example/vestline/vestline/cli/Option;"⟩ : MethodName) method_2_code 1 (some (.object "com/example/vestline/vestline/cli/Option")) ws ({ frames := 0, cells := 0, slots := 0, locals := 0 } : Room) Z #[(.int (10 : Int32))] h0 (fun v h L => v = some (.ref w) ∧ Fr n0 L ∧ h = h0) := by
  refine own_body (plainFor_of_name pn_0) ?_
  intro p e s m below meth c s₁ X0 hx hby hml hown hnm hret hlk hZ e0
  replace hown : s.vm.findClass "com/example/vestline/vestline/cli/OptionTakesValuePinLaw" = some m.cls := hown
  replace hml : c.maxLocals = 1 := hml
  replace hret : meth.sig.returnType = (some (.object "com/example/vestline/vestline/cli/Option")) := hret
  have N0 := Fr.nil n0
  have ef : entryFrame m #[(.int (10 : Int32))] 1 = mkF m 0 #[.val (.int (10 : Int32))] [] := by first | (simp [entryFrame, mkF, argsToLocals, Value.category]; done) | rfl
  refine own_step (S' := (s₁.setTop (mkF m 0 #[.val (.int (10 : Int32))] []))) (fun _ k => castTop ef k) ?_
  refine own_step (S' := (s₁.setTop (mkF m 1 #[.val (.int (10 : Int32))] [(.int (10 : Int32))]))) (fun _ k => XS.iloadN X0.here hx rfl (hb hby d1_0) rfl k) ?_
  refine own_step (S' := (s₁.setTop (mkF m 8 #[.val (.int (10 : Int32))] []))) (fun _ k => XS.ifYes X0.here hx rfl (pc0 := 1) (pc' := 8) rfl (hb hby d1_1) rfl ((if0 _ _).trans (feq (by decide : ¬ ((10 : Int32) = (0 : Int32)))).2) (by decide) (by decide) k) ?_
  refine own_step (S' := (s₁.setTop (mkF m 9 #[.val (.int (10 : Int32))] [(.int (10 : Int32))]))) (fun _ k => XS.iloadN X0.here hx rfl (hb hby d1_8) rfl k) ?_
  refine own_step (S' := (s₁.setTop (mkF m 10 #[.val (.int (10 : Int32))] [(.int (1 : Int32)), (.int (10 : Int32))]))) (fun _ k => XS.iconst X0.here hx rfl (hb hby d1_9) k) ?_
  refine own_step (S' := (s₁.setTop (mkF m 17 #[.val (.int (10 : Int32))] []))) (fun _ k => XS.icmpYes X0.here hx rfl (pc0 := 10) (pc' := 17) rfl (hb hby d1_10) rfl (feq (by decide : ¬ ((10 : Int32) = (1 : Int32)))).2 (by decide) (by decide) k) ?_
  refine own_step (S' := (s₁.setTop (mkF m 18 #[.val (.int (10 : Int32))] [(.int (10 : Int32))]))) (fun _ k => XS.iloadN X0.here hx rfl (hb hby d1_17) rfl k) ?_
  refine own_step (S' := (s₁.setTop (mkF m 19 #[.val (.int (10 : Int32))] [(.int (2 : Int32)), (.int (10 : Int32))]))) (fun _ k => XS.iconst X0.here hx rfl (hb hby d1_18) k) ?_
  refine own_step (S' := (s₁.setTop (mkF m 26 #[.val (.int (10 : Int32))] []))) (fun _ k => XS.icmpYes X0.here hx rfl (pc0 := 19) (pc' := 26) rfl (hb hby d1_19) rfl (feq (by decide : ¬ ((10 : Int32) = (2 : Int32)))).2 (by decide) (by decide) k) ?_
  refine own_step (S' := (s₁.setTop (mkF m 27 #[.val (.int (10 : Int32))] [(.int (10 : Int32))]))) (fun _ k => XS.iloadN X0.here hx rfl (hb hby d1_26) rfl k) ?_
  refine own_step (S' := (s₁.setTop (mkF m 28 #[.val (.int (10 : Int32))] [(.int (3 : Int32)), (.int (10 : Int32))]))) (fun _ k => XS.iconst X0.here hx rfl (hb hby d1_27) k) ?_
  refine own_step (S' := (s₁.setTop (mkF m 35 #[.val (.int (10 : Int32))] []))) (fun _ k => XS.icmpYes X0.here hx rfl (pc0 := 28) (pc' := 35) rfl (hb hby d1_28) rfl (feq (by decide : ¬ ((10 : Int32) = (3 : Int32)))).2 (by decide) (by decide) k) ?_
  refine own_step (S' := (s₁.setTop (mkF m 36 #[.val (.int (10 : Int32))] [(.int (10 : Int32))]))) (fun _ k => XS.iloadN X0.here hx rfl (hb hby d1_35) rfl k) ?_
  refine own_step (S' := (s₁.setTop (mkF m 37 #[.val (.int (10 : Int32))] [(.int (4 : Int32)), (.int (10 : Int32))]))) (fun _ k => XS.iconst X0.here hx rfl (hb hby d1_36) k) ?_
  refine own_step (S' := (s₁.setTop (mkF m 44 #[.val (.int (10 : Int32))] []))) (fun _ k => XS.icmpYes X0.here hx rfl (pc0 := 37) (pc' := 44) rfl (hb hby d1_37) rfl (feq (by decide : ¬ ((10 : Int32) = (4 : Int32)))).2 (by decide) (by decide) k) ?_
  refine own_step (S' := (s₁.setTop (mkF m 45 #[.val (.int (10 : Int32))] [(.int (10 : Int32))]))) (fun _ k => XS.iloadN X0.here hx rfl (hb hby d1_44) rfl k) ?_
  refine own_step (S' := (s₁.setTop (mkF m 46 #[.val (.int (10 : Int32))] [(.int (5 : Int32)), (.int (10 : Int32))]))) (fun _ k => XS.iconst X0.here hx rfl (hb hby d1_45) k) ?_
  refine own_step (S' := (s₁.setTop (mkF m 53 #[.val (.int (10 : Int32))] []))) (fun _ k => XS.icmpYes X0.here hx rfl (pc0 := 46) (pc' := 53) rfl (hb hby d1_46) rfl (feq (by decide : ¬ ((10 : Int32) = (5 : Int32)))).2 (by decide) (by decide) k) ?_
  refine own_step (S' := (s₁.setTop (mkF m 54 #[.val (.int (10 : Int32))] [(.int (10 : Int32))]))) (fun _ k => XS.iloadN X0.here hx rfl (hb hby d1_53) rfl k) ?_
  refine own_step (S' := (s₁.setTop (mkF m 56 #[.val (.int (10 : Int32))] [(.int (6 : Int32)), (.int (10 : Int32))]))) (fun _ k => XS.bipush X0.here hx rfl (hb hby d1_54) k) ?_
  refine own_step (S' := (s₁.setTop (mkF m 63 #[.val (.int (10 : Int32))] []))) (fun _ k => XS.icmpYes X0.here hx rfl (pc0 := 56) (pc' := 63) rfl (hb hby d1_56) rfl (feq (by decide : ¬ ((10 : Int32) = (6 : Int32)))).2 (by decide) (by decide) k) ?_
  refine own_step (S' := (s₁.setTop (mkF m 64 #[.val (.int (10 : Int32))] [(.int (10 : Int32))]))) (fun _ k => XS.iloadN X0.here hx rfl (hb hby d1_63) rfl k) ?_
  refine own_step (S' := (s₁.setTop (mkF m 66 #[.val (.int (10 : Int32))] [(.int (7 : Int32)), (.int (10 : Int32))]))) (fun _ k => XS.bipush X0.here hx rfl (hb hby d1_64) k) ?_
  refine own_step (S' := (s₁.setTop (mkF m 73 #[.val (.int (10 : Int32))] []))) (fun _ k => XS.icmpYes X0.here hx rfl (pc0 := 66) (pc' := 73) rfl (hb hby d1_66) rfl (feq (by decide : ¬ ((10 : Int32) = (7 : Int32)))).2 (by decide) (by decide) k) ?_
  refine own_step (S' := (s₁.setTop (mkF m 74 #[.val (.int (10 : Int32))] [(.int (10 : Int32))]))) (fun _ k => XS.iloadN X0.here hx rfl (hb hby d1_73) rfl k) ?_
  refine own_step (S' := (s₁.setTop (mkF m 76 #[.val (.int (10 : Int32))] [(.int (8 : Int32)), (.int (10 : Int32))]))) (fun _ k => XS.bipush X0.here hx rfl (hb hby d1_74) k) ?_
  refine own_step (S' := (s₁.setTop (mkF m 83 #[.val (.int (10 : Int32))] []))) (fun _ k => XS.icmpYes X0.here hx rfl (pc0 := 76) (pc' := 83) rfl (hb hby d1_76) rfl (feq (by decide : ¬ ((10 : Int32) = (8 : Int32)))).2 (by decide) (by decide) k) ?_
  refine own_step (S' := (s₁.setTop (mkF m 84 #[.val (.int (10 : Int32))] [(.int (10 : Int32))]))) (fun _ k => XS.iloadN X0.here hx rfl (hb hby d1_83) rfl k) ?_
  refine own_step (S' := (s₁.setTop (mkF m 86 #[.val (.int (10 : Int32))] [(.int (9 : Int32)), (.int (10 : Int32))]))) (fun _ k => XS.bipush X0.here hx rfl (hb hby d1_84) k) ?_
  refine own_step (S' := (s₁.setTop (mkF m 93 #[.val (.int (10 : Int32))] []))) (fun _ k => XS.icmpYes X0.here hx rfl (pc0 := 86) (pc' := 93) rfl (hb hby d1_86) rfl (feq (by decide : ¬ ((10 : Int32) = (9 : Int32)))).2 (by decide) (by decide) k) ?_
  obtain ⟨T11, X11, e11, st11⟩ := getS2 X0 hx hZ hown (host := "") (Or.inl (hw _ (List.mem_of_getElem? (i := 39) rfl))) Via.refl e0 S (g := (mkF m 93 #[.val (.int (10 : Int32))] [])) rfl (hb hby d1_93)
  refine own_step (S' := (T11.setTop (mkF m 96 #[.val (.int (10 : Int32))] [(.ref w)]))) (fun _ k => st11 _ k) ?_
  refine own_retA X11 hx hlk hret rfl rfl rfl (hb hby d1_96) (by decide) (by decide) ?_
  try rw [e11]
  exact ⟨rfl, N0, rfl⟩
theorem d3_0 : decode jdk_42_method_55_code 0 = .ok (.aload_n 0, 1) := by decide +kernel
theorem d3_1 : decode jdk_42_method_55_code 1 = .ok (.getfield 9, 3) := by decide +kernel
theorem d3_4 : decode jdk_42_method_55_code 4 = .ok (.arraylength, 1) := by decide +kernel
theorem d3_5 : decode jdk_42_method_55_code 5 = .ok (.ifCond .ne 7, 3) := by decide +kernel
theorem d3_8 : decode jdk_42_method_55_code 8 = .ok (.iconst 1, 1) := by decide +kernel
theorem d3_9 : decode jdk_42_method_55_code 9 = .ok (.goto 4, 3) := by decide +kernel
theorem d3_12 : decode jdk_42_method_55_code 12 = .ok (.iconst 0, 1) := by decide +kernel
theorem d3_13 : decode jdk_42_method_55_code 13 = .ok (.ireturn, 1) := by decide +kernel
theorem pn_1 : plainName "java/lang/String" = true := by first | (simp [plainName, overriddenIn]; done) | decide +kernel
set_option maxRecDepth 65536 in
set_option maxHeartbeats 40000000 in
theorem rmE_0 (l : Launch) (Z : State) (a0 : Array Value) (hw : ∀ d ∈ tables_1, d.before a0 Z = true) (ws : List Jvm.Cond) (a b : Addr) (n : Int32)  (h0 : Heap) (n0 : Nat) (Z0 : n0 ≤ h0.size) (F : Fld Z h0 a "java/lang/String" "value" "[B" (.ref b)) (A : own_Aln Z h0 b .byte n) (hq : ¬ (n = (0 : Int32))) :
    own_Met l (⟨"java/lang/String", "isEmpty", "()Z"⟩ : MethodName) jdk_42_method_55_code 1 (some .boolean) ws ({ frames := 0, cells := 0, slots := 0, locals := 0 } : Room) Z #[(.ref a)] h0 (fun v h L => v = some (.int 0) ∧ Fr n0 L ∧ h = h0) := by
  refine own_body (plainFor_of_name pn_1) ?_
  intro p e s m below meth c s₁ X0 hx hby hml hown hnm hret hlk hZ e0
  replace hown : s.vm.findClass "java/lang/String" = some m.cls := hown
  replace hml : c.maxLocals = 1 := hml
  replace hret : meth.sig.returnType = (some .boolean) := hret
  have N0 := Fr.nil n0
  have ef : entryFrame m #[(.ref a)] 1 = mkF m 0 #[.val (.ref a)] [] := by first | (simp [entryFrame, mkF, argsToLocals, Value.category]; done) | rfl
  refine own_step (S' := (s₁.setTop (mkF m 0 #[.val (.ref a)] []))) (fun _ k => castTop ef k) ?_
  refine own_step (S' := (s₁.setTop (mkF m 1 #[.val (.ref a)] [(.ref a)]))) (fun _ k => XS.aloadN X0.here hx rfl (hb hby d3_0) rfl rfl k) ?_
  obtain ⟨T12, X12, e12, st12⟩ := getF X0 hx hZ hown (host := "") (Or.inl (hw _ (List.mem_of_getElem? (i := 21) rfl))) Via.refl e0 F (g := (mkF m 1 #[.val (.ref a)] [(.ref a)])) rfl rfl (hb hby d3_1)
  refine own_step (S' := (T12.setTop (mkF m 4 #[.val (.ref a)] [(.ref b)]))) (fun _ k => st12 _ k) ?_
  obtain ⟨cl13, Ar13, S13, Nn13⟩ := A
  refine own_step (S' := (T12.setTop (mkF m 5 #[.val (.ref a)] [(.int n)]))) (fun _ k => X12.arraylength hx (by rw [e12]; exact Ar13.1) (State.isArrayOf_alike hZ.alike Ar13.2.1) (g := (mkF m 4 #[.val (.ref a)] [(.ref b)])) rfl rfl (hb hby d3_4) _ (by rw [len_of S13 Nn13]; exact k)) ?_
  refine own_step (S' := (T12.setTop (mkF m 12 #[.val (.ref a)] []))) (fun _ k => XS.ifYes X12.here hx rfl (pc0 := 5) (pc' := 12) rfl (hb hby d3_5) rfl ((if0 _ _).trans (feq hq).2) (by decide) (by decide) k) ?_
  refine own_step (S' := (T12.setTop (mkF m 13 #[.val (.ref a)] [(.int (0 : Int32))]))) (fun _ k => XS.iconst X12.here hx rfl (hb hby d3_12) k) ?_
  refine own_retN X12 hx hlk hret (by simp) (by decide) (hb hby d3_13) (by decide) (by decide) ?_
  try rw [e12]
  exact ⟨rfl, N0, rfl⟩
theorem d2_0 : decode prog_7_method_6_code 0 = .ok (.aload_n 0, 1) := by decide +kernel
theorem d2_1 : decode prog_7_method_6_code 1 = .ok (.getfield 61, 3) := by decide +kernel
theorem d2_4 : decode prog_7_method_6_code 4 = .ok (.invokevirtual 81, 3) := by decide +kernel
theorem d2_7 : decode prog_7_method_6_code 7 = .ok (.ifCond .ne 7, 3) := by decide +kernel
theorem d2_10 : decode prog_7_method_6_code 10 = .ok (.iconst 1, 1) := by decide +kernel
theorem d2_11 : decode prog_7_method_6_code 11 = .ok (.goto 4, 3) := by decide +kernel
theorem d2_14 : decode prog_7_method_6_code 14 = .ok (.iconst 0, 1) := by decide +kernel
theorem d2_15 : decode prog_7_method_6_code 15 = .ok (.ireturn, 1) := by decide +kernel
theorem pn_2 : plainName "com/example/vestline/vestline/cli/Option" = true := by first | (simp [plainName, overriddenIn]; done) | decide +kernel
theorem pd_0 : parseMethodDescriptor "()Z" = some ⟨[], some .boolean⟩ := by decide +kernel
set_option maxRecDepth 65536 in
set_option maxHeartbeats 40000000 in
theorem rmV_0 (l : Launch) (Z : State) (a0 : Array Value) (hw : ∀ d ∈ tables_1, d.before a0 Z = true) (ws : List Jvm.Cond) (a sv b : Addr) (n : Int32)  (h0 : Heap) (n0 : Nat) (Z0 : n0 ≤ h0.size) (F : Fld Z h0 a "com/example/vestline/vestline/cli/Option" "value" "Ljava/lang/String;" (.ref sv)) (Es : Exa Z h0 sv "java/lang/String") (Fb : Fld Z h0 sv "java/lang/String" "value" "[B" (.ref b)) (Ab : own_Aln Z h0 b .byte n) (hq : ¬ (n = (0 : Int32))) :
    own_Met l (⟨"com/example/vestline/vestline/cli/Option", "takesValue", "()Z"⟩ : MethodName) prog_7_method_6_code 1 (some .boolean) ws ({ frames := 1, cells := 0, slots := 0, locals := 12 } : Room) Z #[(.ref a)] h0 (fun v h L => v = some (.int 1) ∧ Fr n0 L ∧ h = h0) := by
  refine own_body (plainFor_of_name pn_2) ?_
  intro p e s m below meth c s₁ X0 hx hby hml hown hnm hret hlk hZ e0
  replace hown : s.vm.findClass "com/example/vestline/vestline/cli/Option" = some m.cls := hown
  replace hml : c.maxLocals = 1 := hml
  replace hret : meth.sig.returnType = (some .boolean) := hret
  have N0 := Fr.nil n0
  have ef : entryFrame m #[(.ref a)] 1 = mkF m 0 #[.val (.ref a)] [] := by first | (simp [entryFrame, mkF, argsToLocals, Value.category]; done) | rfl
  refine own_step (S' := (s₁.setTop (mkF m 0 #[.val (.ref a)] []))) (fun _ k => castTop ef k) ?_
  refine own_step (S' := (s₁.setTop (mkF m 1 #[.val (.ref a)] [(.ref a)]))) (fun _ k => XS.aloadN X0.here hx rfl (hb hby d2_0) rfl rfl k) ?_
  obtain ⟨T14, X14, e14, st14⟩ := getF X0 hx hZ hown (host := "") (Or.inl (hw _ (List.mem_of_getElem? (i := 13) rfl))) Via.refl e0 F (g := (mkF m 1 #[.val (.ref a)] [(.ref a)])) rfl rfl (hb hby d2_1)
  refine own_step (S' := (T14.setTop (mkF m 4 #[.val (.ref a)] [(.ref sv)]))) (fun _ k => st14 _ k) ?_
  obtain ⟨_, T15, L15, X15, ⟨rfl, N15q, e15⟩, st15⟩ := own_virt (argsL := []) (rest := []) X14 hx hZ hown (hw _ (List.mem_of_getElem? (i := 15) rfl)) (hw _ (List.mem_of_getElem? (i := 16) rfl)) (notFace_of_selects (args := #[]) (mvT hZ (hw _ (List.mem_of_getElem? (i := 18) rfl)))) (hw _ (List.mem_of_getElem? (i := 18) rfl)) (hw _ (List.mem_of_getElem? (i := 17) rfl)) (by decide) (hw _ (List.mem_of_getElem? (i := 20) rfl)) (hw _ (List.mem_of_getElem? (i := 19) rfl)) e14 Es (hM := rmE_0 l Z a0 hw [] sv b n h0 n0 Z0 Fb Ab hq) (g := (mkF m 4 #[.val (.ref a)] [(.ref sv)])) (hg := rfl) (hsize := by rw [hml]; rfl) (hlen := lenOf pd_0 rfl) (hstack := rfl) (W := 0) (hW := by show 2 * 0 + _ ≤ _; exact Nat.le_of_eq rfl) (hd := (hb hby d2_4)) (hf := by decide) (hl := by decide) (hc := by decide) (hs := by decide)
  have N15 := Fr.app N0 N15q
  refine own_step (S' := (T15.setTop (mkF m 7 #[.val (.ref a)] [(.int (0 : Int32))]))) (fun _ k => st15 _ k) ?_
  refine own_step (S' := (T15.setTop (mkF m 10 #[.val (.ref a)] []))) (fun _ k => XS.ifNo X15.here hx rfl (hb hby d2_7) rfl ((if0 _ _).trans (teq (by decide : (0 : Int32) = (0 : Int32))).2) k) ?_
  refine own_step (S' := (T15.setTop (mkF m 11 #[.val (.ref a)] [(.int (1 : Int32))]))) (fun _ k => XS.iconst X15.here hx rfl (hb hby d2_10) k) ?_
  refine own_step (S' := (T15.setTop (mkF m 15 #[.val (.ref a)] [(.int (1 : Int32))]))) (fun _ k => XS.goto X15.here hx rfl (pc0 := 11) (pc' := 15) rfl (hb hby d2_11) (by decide) (by decide) k) ?_
  refine own_retN X15 hx hlk hret (by simp) (by decide) (hb hby d2_15) (by decide) (by decide) ?_
  try rw [e15]
  exact ⟨rfl, N15, rfl⟩
set_option maxRecDepth 65536 in
set_option maxHeartbeats 40000000 in
theorem rmE_1 (l : Launch) (Z : State) (a0 : Array Value) (hw : ∀ d ∈ tables_1, d.before a0 Z = true) (ws : List Jvm.Cond) (a b : Addr) (n : Int32)  (h0 : Heap) (n0 : Nat) (Z0 : n0 ≤ h0.size) (F : Fld Z h0 a "java/lang/String" "value" "[B" (.ref b)) (A : own_Aln Z h0 b .byte n) (hq : n = (0 : Int32)) :
    own_Met l (⟨"java/lang/String", "isEmpty", "()Z"⟩ : MethodName) jdk_42_method_55_code 1 (some .boolean) ws ({ frames := 0, cells := 0, slots := 0, locals := 0 } : Room) Z #[(.ref a)] h0 (fun v h L => v = some (.int 1) ∧ Fr n0 L ∧ h = h0) := by
  refine own_body (plainFor_of_name pn_1) ?_
  intro p e s m below meth c s₁ X0 hx hby hml hown hnm hret hlk hZ e0
  replace hown : s.vm.findClass "java/lang/String" = some m.cls := hown
  replace hml : c.maxLocals = 1 := hml
  replace hret : meth.sig.returnType = (some .boolean) := hret
  have N0 := Fr.nil n0
  have ef : entryFrame m #[(.ref a)] 1 = mkF m 0 #[.val (.ref a)] [] := by first | (simp [entryFrame, mkF, argsToLocals, Value.category]; done) | rfl
  refine own_step (S' := (s₁.setTop (mkF m 0 #[.val (.ref a)] []))) (fun _ k => castTop ef k) ?_
  refine own_step (S' := (s₁.setTop (mkF m 1 #[.val (.ref a)] [(.ref a)]))) (fun _ k => XS.aloadN X0.here hx rfl (hb hby d3_0) rfl rfl k) ?_
  obtain ⟨T16, X16, e16, st16⟩ := getF X0 hx hZ hown (host := "") (Or.inl (hw _ (List.mem_of_getElem? (i := 21) rfl))) Via.refl e0 F (g := (mkF m 1 #[.val (.ref a)] [(.ref a)])) rfl rfl (hb hby d3_1)
  refine own_step (S' := (T16.setTop (mkF m 4 #[.val (.ref a)] [(.ref b)]))) (fun _ k => st16 _ k) ?_
  obtain ⟨cl17, Ar17, S17, Nn17⟩ := A
  refine own_step (S' := (T16.setTop (mkF m 5 #[.val (.ref a)] [(.int n)]))) (fun _ k => X16.arraylength hx (by rw [e16]; exact Ar17.1) (State.isArrayOf_alike hZ.alike Ar17.2.1) (g := (mkF m 4 #[.val (.ref a)] [(.ref b)])) rfl rfl (hb hby d3_4) _ (by rw [len_of S17 Nn17]; exact k)) ?_
  refine own_step (S' := (T16.setTop (mkF m 8 #[.val (.ref a)] []))) (fun _ k => XS.ifNo X16.here hx rfl (hb hby d3_5) rfl ((if0 _ _).trans (teq hq).2) k) ?_
  refine own_step (S' := (T16.setTop (mkF m 9 #[.val (.ref a)] [(.int (1 : Int32))]))) (fun _ k => XS.iconst X16.here hx rfl (hb hby d3_8) k) ?_
  refine own_step (S' := (T16.setTop (mkF m 13 #[.val (.ref a)] [(.int (1 : Int32))]))) (fun _ k => XS.goto X16.here hx rfl (pc0 := 9) (pc' := 13) rfl (hb hby d3_9) (by decide) (by decide) k) ?_
  refine own_retN X16 hx hlk hret (by simp) (by decide) (hb hby d3_13) (by decide) (by decide) ?_
  try rw [e16]
  exact ⟨rfl, N0, rfl⟩
set_option maxRecDepth 65536 in
set_option maxHeartbeats 40000000 in
theorem rmV_1 (l : Launch) (Z : State) (a0 : Array Value) (hw : ∀ d ∈ tables_1, d.before a0 Z = true) (ws : List Jvm.Cond) (a sv b : Addr) (n : Int32)  (h0 : Heap) (n0 : Nat) (Z0 : n0 ≤ h0.size) (F : Fld Z h0 a "com/example/vestline/vestline/cli/Option" "value" "Ljava/lang/String;" (.ref sv)) (Es : Exa Z h0 sv "java/lang/String") (Fb : Fld Z h0 sv "java/lang/String" "value" "[B" (.ref b)) (Ab : own_Aln Z h0 b .byte n) (hq : n = (0 : Int32)) :
    own_Met l (⟨"com/example/vestline/vestline/cli/Option", "takesValue", "()Z"⟩ : MethodName) prog_7_method_6_code 1 (some .boolean) ws ({ frames := 1, cells := 0, slots := 0, locals := 12 } : Room) Z #[(.ref a)] h0 (fun v h L => v = some (.int 0) ∧ Fr n0 L ∧ h = h0) := by
  refine own_body (plainFor_of_name pn_2) ?_
  intro p e s m below meth c s₁ X0 hx hby hml hown hnm hret hlk hZ e0
  replace hown : s.vm.findClass "com/example/vestline/vestline/cli/Option" = some m.cls := hown
  replace hml : c.maxLocals = 1 := hml
  replace hret : meth.sig.returnType = (some .boolean) := hret
  have N0 := Fr.nil n0
  have ef : entryFrame m #[(.ref a)] 1 = mkF m 0 #[.val (.ref a)] [] := by first | (simp [entryFrame, mkF, argsToLocals, Value.category]; done) | rfl
  refine own_step (S' := (s₁.setTop (mkF m 0 #[.val (.ref a)] []))) (fun _ k => castTop ef k) ?_
  refine own_step (S' := (s₁.setTop (mkF m 1 #[.val (.ref a)] [(.ref a)]))) (fun _ k => XS.aloadN X0.here hx rfl (hb hby d2_0) rfl rfl k) ?_
  obtain ⟨T18, X18, e18, st18⟩ := getF X0 hx hZ hown (host := "") (Or.inl (hw _ (List.mem_of_getElem? (i := 13) rfl))) Via.refl e0 F (g := (mkF m 1 #[.val (.ref a)] [(.ref a)])) rfl rfl (hb hby d2_1)
  refine own_step (S' := (T18.setTop (mkF m 4 #[.val (.ref a)] [(.ref sv)]))) (fun _ k => st18 _ k) ?_
  obtain ⟨_, T19, L19, X19, ⟨rfl, N19q, e19⟩, st19⟩ := own_virt (argsL := []) (rest := []) X18 hx hZ hown (hw _ (List.mem_of_getElem? (i := 15) rfl)) (hw _ (List.mem_of_getElem? (i := 16) rfl)) (notFace_of_selects (args := #[]) (mvT hZ (hw _ (List.mem_of_getElem? (i := 18) rfl)))) (hw _ (List.mem_of_getElem? (i := 18) rfl)) (hw _ (List.mem_of_getElem? (i := 17) rfl)) (by decide) (hw _ (List.mem_of_getElem? (i := 20) rfl)) (hw _ (List.mem_of_getElem? (i := 19) rfl)) e18 Es (hM := rmE_1 l Z a0 hw [] sv b n h0 n0 Z0 Fb Ab hq) (g := (mkF m 4 #[.val (.ref a)] [(.ref sv)])) (hg := rfl) (hsize := by rw [hml]; rfl) (hlen := lenOf pd_0 rfl) (hstack := rfl) (W := 0) (hW := by show 2 * 0 + _ ≤ _; exact Nat.le_of_eq rfl) (hd := (hb hby d2_4)) (hf := by decide) (hl := by decide) (hc := by decide) (hs := by decide)
  have N19 := Fr.app N0 N19q
  refine own_step (S' := (T19.setTop (mkF m 7 #[.val (.ref a)] [(.int (1 : Int32))]))) (fun _ k => st19 _ k) ?_
  refine own_step (S' := (T19.setTop (mkF m 14 #[.val (.ref a)] []))) (fun _ k => XS.ifYes X19.here hx rfl (pc0 := 7) (pc' := 14) rfl (hb hby d2_7) rfl ((if0 _ _).trans (feq (by decide : ¬ ((1 : Int32) = (0 : Int32)))).2) (by decide) (by decide) k) ?_
  refine own_step (S' := (T19.setTop (mkF m 15 #[.val (.ref a)] [(.int (0 : Int32))]))) (fun _ k => XS.iconst X19.here hx rfl (hb hby d2_14) k) ?_
  refine own_retN X19 hx hlk hret (by simp) (by decide) (hb hby d2_15) (by decide) (by decide) ?_
  try rw [e19]
  exact ⟨rfl, N19, rfl⟩
theorem d4_0 : decode prog_7_method_7_code 0 = .ok (.aload_n 0, 1) := by decide +kernel
theorem d4_1 : decode prog_7_method_7_code 1 = .ok (.getfield 65, 3) := by decide +kernel
theorem d4_4 : decode prog_7_method_7_code 4 = .ok (.areturn, 1) := by decide +kernel
set_option maxRecDepth 65536 in
set_option maxHeartbeats 40000000 in
theorem rmT (l : Launch) (Z : State) (a0 : Array Value) (hw : ∀ d ∈ tables_1, d.before a0 Z = true) (ws : List Jvm.Cond) (a sv : Addr)  (h0 : Heap) (n0 : Nat) (Z0 : n0 ≤ h0.size) (F : Fld Z h0 a "com/example/vestline/vestline/cli/Option" "takes" "Ljava/lang/String;" (.ref sv)) :
    own_Met l (⟨"com/example/vestline/vestline/cli/Option", "takes", "()Ljava/lang/String;"⟩ : MethodName) prog_7_method_7_code 1 (some (.object "java/lang/String")) ws ({ frames := 0, cells := 0, slots := 0, locals := 0 } : Room) Z #[(.ref a)] h0 (fun v h L => v = some (.ref sv) ∧ Fr n0 L ∧ h = h0) := by
  refine own_body (plainFor_of_name pn_2) ?_
  intro p e s m below meth c s₁ X0 hx hby hml hown hnm hret hlk hZ e0
  replace hown : s.vm.findClass "com/example/vestline/vestline/cli/Option" = some m.cls := hown
  replace hml : c.maxLocals = 1 := hml
  replace hret : meth.sig.returnType = (some (.object "java/lang/String")) := hret
  have N0 := Fr.nil n0
  have ef : entryFrame m #[(.ref a)] 1 = mkF m 0 #[.val (.ref a)] [] := by first | (simp [entryFrame, mkF, argsToLocals, Value.category]; done) | rfl
  refine own_step (S' := (s₁.setTop (mkF m 0 #[.val (.ref a)] []))) (fun _ k => castTop ef k) ?_
  refine own_step (S' := (s₁.setTop (mkF m 1 #[.val (.ref a)] [(.ref a)]))) (fun _ k => XS.aloadN X0.here hx rfl (hb hby d4_0) rfl rfl k) ?_
  obtain ⟨T20, X20, e20, st20⟩ := getF X0 hx hZ hown (host := "") (Or.inl (hw _ (List.mem_of_getElem? (i := 28) rfl))) Via.refl e0 F (g := (mkF m 1 #[.val (.ref a)] [(.ref a)])) rfl rfl (hb hby d4_1)
  refine own_step (S' := (T20.setTop (mkF m 4 #[.val (.ref a)] [(.ref sv)]))) (fun _ k => st20 _ k) ?_
  refine own_retA X20 hx hlk hret rfl rfl rfl (hb hby d4_4) (by decide) (by decide) ?_
  try rw [e20]
  exact ⟨rfl, N0, rfl⟩
theorem own_rem11 (p1 : Int32) : ((p1 &&& (2147483647 : Int32)) % (11 : Int32)) = (0 : Int32) ∨ ((p1 &&& (2147483647 : Int32)) % (11 : Int32)) = (1 : Int32) ∨ ((p1 &&& (2147483647 : Int32)) % (11 : Int32)) = (2 : Int32) ∨ ((p1 &&& (2147483647 : Int32)) % (11 : Int32)) = (3 : Int32) ∨ ((p1 &&& (2147483647 : Int32)) % (11 : Int32)) = (4 : Int32) ∨ ((p1 &&& (2147483647 : Int32)) % (11 : Int32)) = (5 : Int32) ∨ ((p1 &&& (2147483647 : Int32)) % (11 : Int32)) = (6 : Int32) ∨ ((p1 &&& (2147483647 : Int32)) % (11 : Int32)) = (7 : Int32) ∨ ((p1 &&& (2147483647 : Int32)) % (11 : Int32)) = (8 : Int32) ∨ ((p1 &&& (2147483647 : Int32)) % (11 : Int32)) = (9 : Int32) ∨ ((p1 &&& (2147483647 : Int32)) % (11 : Int32)) = (10 : Int32) := by
  have h1 := c_mask p1 2147483647 31 (by decide) (by decide)
  have h2 := (c_irem (p1 &&& (2147483647 : Int32)) 11 11 (by decide)).1
  simp only [← Int32.toInt_inj]
  have e0 : (0 : Int32).toInt = 0 := by decide
  have e1 : (1 : Int32).toInt = 1 := by decide
  have e2 : (2 : Int32).toInt = 2 := by decide
  have e3 : (3 : Int32).toInt = 3 := by decide
  have e4 : (4 : Int32).toInt = 4 := by decide
  have e5 : (5 : Int32).toInt = 5 := by decide
  have e6 : (6 : Int32).toInt = 6 := by decide
  have e7 : (7 : Int32).toInt = 7 := by decide
  have e8 : (8 : Int32).toInt = 8 := by decide
  have e9 : (9 : Int32).toInt = 9 := by decide
  have e10 : (10 : Int32).toInt = 10 := by decide
  rw [e0, e1, e2, e3, e4, e5, e6, e7, e8, e9, e10]
  omega
theorem pd_1 : parseMethodDescriptor "(I)Lcom/example/vestline/vestline/cli/Option;" = some ⟨[.int], some (.object "com/example/vestline/vestline/cli/Option")⟩ := by decide +kernel
theorem pd_2 : parseMethodDescriptor "()Ljava/lang/String;" = some ⟨[], some (.object "java/lang/String")⟩ := by decide +kernel
set_option maxRecDepth 65536 in
set_option maxHeartbeats 40000000 in
theorem rm0 (l : Launch) (Z : State) (a0 : Array Value) (hw : ∀ d ∈ tables_1, d.before a0 Z = true) (ws : List Jvm.Cond) (w_PLAN w_PARTICIPANT w_AS_OF w_ENTRIES w_YEAR w_POPULATION w_OUT w_PARTICIPANTS w_SEED w_FUND_PRICES w_THROUGH : Addr) (p1 : Int32) (h0 : Heap) (n0 : Nat) (Z0 : n0 ≤ h0.size) (S_PLAN : Sta Z h0 "com/example/vestline/vestline/cli/Option" "PLAN" "Lcom/example/vestline/vestline/cli/Option;" (.ref w_PLAN)) (O_PLAN : own_Opt Z h0 w_PLAN false) (S_PARTICIPANT : Sta Z h0 "com/example/vestline/vestline/cli/Option" "PARTICIPANT" "Lcom/example/vestline/vestline/cli/Option;" (.ref w_PARTICIPANT)) (O_PARTICIPANT : own_Opt Z h0 w_PARTICIPANT false) (S_AS_OF : Sta Z h0 "com/example/vestline/vestline/cli/Option" "AS_OF" "Lcom/example/vestline/vestline/cli/Option;" (.ref w_AS_OF)) (O_AS_OF : own_Opt Z h0 w_AS_OF false) (S_ENTRIES : Sta Z h0 "com/example/vestline/vestline/cli/Option" "ENTRIES" "Lcom/example/vestline/vestline/cli/Option;" (.ref w_ENTRIES)) (O_ENTRIES : own_Opt Z h0 w_ENTRIES true) (S_YEAR : Sta Z h0 "com/example/vestline/vestline/cli/Option" "YEAR" "Lcom/example/vestline/vestline/cli/Option;" (.ref w_YEAR)) (O_YEAR : own_Opt Z h0 w_YEAR false) (S_POPULATION : Sta Z h0 "com/example/vestline/vestline/cli/Option" "POPULATION" "Lcom/example/vestline/vestline/cli/Option;" (.ref w_POPULATION)) (O_POPULATION : own_Opt Z h0 w_POPULATION false) (S_OUT : Sta Z h0 "com/example/vestline/vestline/cli/Option" "OUT" "Lcom/example/vestline/vestline/cli/Option;" (.ref w_OUT)) (O_OUT : own_Opt Z h0 w_OUT false) (S_PARTICIPANTS : Sta Z h0 "com/example/vestline/vestline/cli/Option" "PARTICIPANTS" "Lcom/example/vestline/vestline/cli/Option;" (.ref w_PARTICIPANTS)) (O_PARTICIPANTS : own_Opt Z h0 w_PARTICIPANTS false) (S_SEED : Sta Z h0 "com/example/vestline/vestline/cli/Option" "SEED" "Lcom/example/vestline/vestline/cli/Option;" (.ref w_SEED)) (O_SEED : own_Opt Z h0 w_SEED false) (S_FUND_PRICES : Sta Z h0 "com/example/vestline/vestline/cli/Option" "FUND_PRICES" "Lcom/example/vestline/vestline/cli/Option;" (.ref w_FUND_PRICES)) (O_FUND_PRICES : own_Opt Z h0 w_FUND_PRICES false) (S_THROUGH : Sta Z h0 "com/example/vestline/vestline/cli/Option" "THROUGH" "Lcom/example/vestline/vestline/cli/Option;" (.ref w_THROUGH)) (O_THROUGH : own_Opt Z h0 w_THROUGH false) :
    own_Met l x code maxLocals ret ws room_1 Z #[(.int p1)] h0 (fun v h L => v = some (.int 1) ∧ Fr n0 L) := by
  refine own_body (plainFor_of_name pn_0) ?_
  intro p e s m below meth c s₁ X0 hx hby hml hown hnm hret hlk hZ e0
  replace hown : s.vm.findClass "com/example/vestline/vestline/cli/OptionTakesValuePinLaw" = some m.cls := hown
  replace hml : c.maxLocals = 5 := hml
  replace hret : meth.sig.returnType = (some .boolean) := hret
  have N0 := Fr.nil n0
  have ef : entryFrame m #[(.int p1)] maxLocals = mkF m 0 #[.val (.int p1), .unset, .unset, .unset, .unset] [] := by first | (simp [entryFrame, mkF, argsToLocals, Value.category, maxLocals]; done) | rfl
  refine own_step (S' := (s₁.setTop (mkF m 0 #[.val (.int p1), .unset, .unset, .unset, .unset] []))) (fun _ k => castTop ef k) ?_
  refine own_step (S' := (s₁.setTop (mkF m 1 #[.val (.int p1), .unset, .unset, .unset, .unset] [(.int p1)]))) (fun _ k => XS.iloadN X0.here hx rfl (hb hby at_0) rfl k) ?_
  refine own_step (S' := (s₁.setTop (mkF m 3 #[.val (.int p1), .unset, .unset, .unset, .unset] [(.int (2147483647 : Int32)), (.int p1)]))) (fun _ k => X0.ldcInt hx hown (mvT hZ (hw _ (List.mem_of_getElem? (i := 0) rfl))) (g := (mkF m 1 #[.val (.int p1), .unset, .unset, .unset, .unset] [(.int p1)])) rfl (hb hby at_1) _ k) ?_
  refine own_step (S' := (s₁.setTop (mkF m 4 #[.val (.int p1), .unset, .unset, .unset, .unset] [(.int (p1 &&& (2147483647 : Int32)))]))) (fun _ k => XS.iand X0.here hx rfl (hb hby at_3) rfl k) ?_
  refine own_step (S' := (s₁.setTop (mkF m 6 #[.val (.int p1), .unset, .unset, .unset, .unset] [(.int (11 : Int32)), (.int (p1 &&& (2147483647 : Int32)))]))) (fun _ k => XS.bipush X0.here hx rfl (hb hby at_4) k) ?_
  refine own_step (S' := (s₁.setTop (mkF m 7 #[.val (.int p1), .unset, .unset, .unset, .unset] [(.int ((p1 &&& (2147483647 : Int32)) % (11 : Int32)))]))) (fun _ k => iremM X0 hx rfl (hb hby at_6) rfl (by decide) k) ?_
  rcases own_rem11 p1 with hr21 | hr21 | hr21 | hr21 | hr21 | hr21 | hr21 | hr21 | hr21 | hr21 | hr21
  · rw [hr21]
    refine own_step (S' := (s₁.setTop (mkF m 8 #[.val (.int p1), .val (.int (0 : Int32)), .unset, .unset, .unset] []))) (fun _ k => XS.istoreN X0.here hx rfl (hb hby at_7) rfl (l' := #[.val (.int p1), .val (.int (0 : Int32)), .unset, .unset, .unset]) rfl k) ?_
    obtain ⟨sv, sk, Eo, Fv, ⟨b, n, Es, Fb, Ab, hq⟩, Ft, ⟨b', n', Es', Fb', Ab', hq'⟩⟩ := O_PLAN
    have hz : ¬ n = (0 : Int32) := fun u => Bool.noConfusion (hq.mp u)
    have hz' : ¬ n' = (0 : Int32) := fun u => Bool.noConfusion (hq'.mp u)
    refine own_step (S' := (s₁.setTop (mkF m 9 #[.val (.int p1), .val (.int (0 : Int32)), .unset, .unset, .unset] [(.int (0 : Int32))]))) (fun _ k => XS.iloadN X0.here hx rfl (hb hby at_8) rfl k) ?_
    obtain ⟨_, T22, L22, X22, ⟨rfl, N22q, e22⟩, st22⟩ := own_stat (argsL := [(.int (0 : Int32))]) (rest := []) X0 hx hZ hown (hw _ (List.mem_of_getElem? (i := 1) rfl)) (hw _ (List.mem_of_getElem? (i := 2) rfl)) (by decide) (hw _ (List.mem_of_getElem? (i := 4) rfl)) (hw _ (List.mem_of_getElem? (i := 3) rfl)) e0 (hM := rmP_0 l Z a0 hw [] w_PLAN h0 n0 Z0 S_PLAN) (g := (mkF m 9 #[.val (.int p1), .val (.int (0 : Int32)), .unset, .unset, .unset] [(.int (0 : Int32))])) (hg := rfl) (hsize := by rw [hml]; rfl) (hlen := lenOf pd_1 rfl) (hstack := rfl) (W := 0) (hW := by show 2 * 0 + _ ≤ _; exact Nat.le_of_eq rfl) (hd := (hb hby at_9)) (hf := by decide) (hl := by decide) (hc := by decide) (hs := by decide)
    have N22 := Fr.app N0 N22q
    refine own_step (S' := (T22.setTop (mkF m 12 #[.val (.int p1), .val (.int (0 : Int32)), .unset, .unset, .unset] [(.ref w_PLAN)]))) (fun _ k => st22 _ k) ?_
    refine own_step (S' := (T22.setTop (mkF m 13 #[.val (.int p1), .val (.int (0 : Int32)), .val (.ref w_PLAN), .unset, .unset] []))) (fun _ k => XS.astoreN X22.here hx rfl (hb hby at_12) rfl rfl (l' := #[.val (.int p1), .val (.int (0 : Int32)), .val (.ref w_PLAN), .unset, .unset]) rfl k) ?_
    refine own_step (S' := (T22.setTop (mkF m 14 #[.val (.int p1), .val (.int (0 : Int32)), .val (.ref w_PLAN), .unset, .unset] [(.int (0 : Int32))]))) (fun _ k => XS.iloadN X22.here hx rfl (hb hby at_13) rfl k) ?_
    refine own_step (S' := (T22.setTop (mkF m 15 #[.val (.int p1), .val (.int (0 : Int32)), .val (.ref w_PLAN), .unset, .unset] [(.int (3 : Int32)), (.int (0 : Int32))]))) (fun _ k => XS.iconst X22.here hx rfl (hb hby at_14) k) ?_
    refine own_step (S' := (T22.setTop (mkF m 18 #[.val (.int p1), .val (.int (0 : Int32)), .val (.ref w_PLAN), .unset, .unset] []))) (fun _ k => XS.icmpNo X22.here hx rfl (hb hby at_15) rfl (feq (by decide : ¬ ((0 : Int32) = (3 : Int32)))).1 k) ?_
    refine own_step (S' := (T22.setTop (mkF m 19 #[.val (.int p1), .val (.int (0 : Int32)), .val (.ref w_PLAN), .unset, .unset] [(.int (1 : Int32))]))) (fun _ k => XS.iconst X22.here hx rfl (hb hby at_18) k) ?_
    refine own_step (S' := (T22.setTop (mkF m 23 #[.val (.int p1), .val (.int (0 : Int32)), .val (.ref w_PLAN), .unset, .unset] [(.int (1 : Int32))]))) (fun _ k => XS.goto X22.here hx rfl (pc0 := 19) (pc' := 23) rfl (hb hby at_19) (by decide) (by decide) k) ?_
    refine own_step (S' := (T22.setTop (mkF m 24 #[.val (.int p1), .val (.int (0 : Int32)), .val (.ref w_PLAN), .val (.int (1 : Int32)), .unset] []))) (fun _ k => XS.istoreN X22.here hx rfl (hb hby at_23) rfl (l' := #[.val (.int p1), .val (.int (0 : Int32)), .val (.ref w_PLAN), .val (.int (1 : Int32)), .unset]) rfl k) ?_
    refine own_step (S' := (T22.setTop (mkF m 25 #[.val (.int p1), .val (.int (0 : Int32)), .val (.ref w_PLAN), .val (.int (1 : Int32)), .unset] [(.ref w_PLAN)]))) (fun _ k => XS.aloadN X22.here hx rfl (hb hby at_24) rfl rfl k) ?_
    obtain ⟨_, T23, L23, X23, ⟨rfl, N23q, e23⟩, st23⟩ := own_virt (argsL := []) (rest := []) X22 hx hZ hown (hw _ (List.mem_of_getElem? (i := 8) rfl)) (hw _ (List.mem_of_getElem? (i := 9) rfl)) (notFace_of_selects (args := #[]) (mvT hZ (hw _ (List.mem_of_getElem? (i := 11) rfl)))) (hw _ (List.mem_of_getElem? (i := 11) rfl)) (hw _ (List.mem_of_getElem? (i := 10) rfl)) (by decide) (hw _ (List.mem_of_getElem? (i := 12) rfl)) (hw _ (List.mem_of_getElem? (i := 6) rfl)) e22 Eo (hM := rmV_0 l Z a0 hw [] w_PLAN sv b n h0 n0 Z0 Fv Es Fb Ab hz) (g := (mkF m 25 #[.val (.int p1), .val (.int (0 : Int32)), .val (.ref w_PLAN), .val (.int (1 : Int32)), .unset] [(.ref w_PLAN)])) (hg := rfl) (hsize := by rw [hml]; rfl) (hlen := lenOf pd_0 rfl) (hstack := rfl) (W := 0) (hW := by show 2 * 0 + _ ≤ _; exact Nat.le_of_eq rfl) (hd := (hb hby at_25)) (hf := by decide) (hl := by decide) (hc := by decide) (hs := by decide)
    have N23 := Fr.app N22 N23q
    refine own_step (S' := (T23.setTop (mkF m 28 #[.val (.int p1), .val (.int (0 : Int32)), .val (.ref w_PLAN), .val (.int (1 : Int32)), .unset] [(.int (1 : Int32))]))) (fun _ k => st23 _ k) ?_
    refine own_step (S' := (T23.setTop (mkF m 30 #[.val (.int p1), .val (.int (0 : Int32)), .val (.ref w_PLAN), .val (.int (1 : Int32)), .val (.int (1 : Int32))] []))) (fun _ k => XS.istore X23.here hx rfl (hb hby at_28) rfl (l' := #[.val (.int p1), .val (.int (0 : Int32)), .val (.ref w_PLAN), .val (.int (1 : Int32)), .val (.int (1 : Int32))]) rfl k) ?_
    refine own_step (S' := (T23.setTop (mkF m 32 #[.val (.int p1), .val (.int (0 : Int32)), .val (.ref w_PLAN), .val (.int (1 : Int32)), .val (.int (1 : Int32))] [(.int (1 : Int32))]))) (fun _ k => XS.iload X23.here hx rfl (hb hby at_30) rfl k) ?_
    refine own_step (S' := (T23.setTop (mkF m 33 #[.val (.int p1), .val (.int (0 : Int32)), .val (.ref w_PLAN), .val (.int (1 : Int32)), .val (.int (1 : Int32))] [(.int (1 : Int32)), (.int (1 : Int32))]))) (fun _ k => XS.iloadN X23.here hx rfl (hb hby at_32) rfl k) ?_
    refine own_step (S' := (T23.setTop (mkF m 36 #[.val (.int p1), .val (.int (0 : Int32)), .val (.ref w_PLAN), .val (.int (1 : Int32)), .val (.int (1 : Int32))] []))) (fun _ k => XS.icmpNo X23.here hx rfl (hb hby at_33) rfl (teq (by decide : (1 : Int32) = (1 : Int32))).2 k) ?_
    refine own_step (S' := (T23.setTop (mkF m 38 #[.val (.int p1), .val (.int (0 : Int32)), .val (.ref w_PLAN), .val (.int (1 : Int32)), .val (.int (1 : Int32))] [(.int (1 : Int32))]))) (fun _ k => XS.iload X23.here hx rfl (hb hby at_36) rfl k) ?_
    refine own_step (S' := (T23.setTop (mkF m 39 #[.val (.int p1), .val (.int (0 : Int32)), .val (.ref w_PLAN), .val (.int (1 : Int32)), .val (.int (1 : Int32))] [(.ref w_PLAN), (.int (1 : Int32))]))) (fun _ k => XS.aloadN X23.here hx rfl (hb hby at_38) rfl rfl k) ?_
    obtain ⟨_, T24, L24, X24, ⟨rfl, N24q, e24⟩, st24⟩ := own_virt (argsL := []) (rest := [(.int (1 : Int32))]) X23 hx hZ hown (hw _ (List.mem_of_getElem? (i := 23) rfl)) (hw _ (List.mem_of_getElem? (i := 24) rfl)) (notFace_of_selects (args := #[]) (mvT hZ (hw _ (List.mem_of_getElem? (i := 26) rfl)))) (hw _ (List.mem_of_getElem? (i := 26) rfl)) (hw _ (List.mem_of_getElem? (i := 25) rfl)) (by decide) (hw _ (List.mem_of_getElem? (i := 27) rfl)) (hw _ (List.mem_of_getElem? (i := 6) rfl)) e23 Eo (hM := rmT l Z a0 hw [] w_PLAN sk h0 n0 Z0 Ft) (g := (mkF m 39 #[.val (.int p1), .val (.int (0 : Int32)), .val (.ref w_PLAN), .val (.int (1 : Int32)), .val (.int (1 : Int32))] [(.ref w_PLAN), (.int (1 : Int32))])) (hg := rfl) (hsize := by rw [hml]; rfl) (hlen := lenOf pd_2 rfl) (hstack := rfl) (W := 1) (hW := by show 2 * 0 + _ ≤ _; exact Nat.le_of_eq rfl) (hd := (hb hby at_39)) (hf := by decide) (hl := by decide) (hc := by decide) (hs := by decide)
    have N24 := Fr.app N23 N24q
    refine own_step (S' := (T24.setTop (mkF m 42 #[.val (.int p1), .val (.int (0 : Int32)), .val (.ref w_PLAN), .val (.int (1 : Int32)), .val (.int (1 : Int32))] [(.ref sk), (.int (1 : Int32))]))) (fun _ k => st24 _ k) ?_
    obtain ⟨_, T25, L25, X25, ⟨rfl, N25q, e25⟩, st25⟩ := own_virt (argsL := []) (rest := [(.int (1 : Int32))]) X24 hx hZ hown (hw _ (List.mem_of_getElem? (i := 30) rfl)) (hw _ (List.mem_of_getElem? (i := 16) rfl)) (notFace_of_selects (args := #[]) (mvT hZ (hw _ (List.mem_of_getElem? (i := 18) rfl)))) (hw _ (List.mem_of_getElem? (i := 18) rfl)) (hw _ (List.mem_of_getElem? (i := 17) rfl)) (by decide) (hw _ (List.mem_of_getElem? (i := 20) rfl)) (hw _ (List.mem_of_getElem? (i := 19) rfl)) e24 Es' (hM := rmE_0 l Z a0 hw [] sk b' n' h0 n0 Z0 Fb' Ab' hz') (g := (mkF m 42 #[.val (.int p1), .val (.int (0 : Int32)), .val (.ref w_PLAN), .val (.int (1 : Int32)), .val (.int (1 : Int32))] [(.ref sk), (.int (1 : Int32))])) (hg := rfl) (hsize := by rw [hml]; rfl) (hlen := lenOf pd_0 rfl) (hstack := rfl) (W := 1) (hW := by show 2 * 0 + _ ≤ _; exact Nat.le_of_eq rfl) (hd := (hb hby at_42)) (hf := by decide) (hl := by decide) (hc := by decide) (hs := by decide)
    have N25 := Fr.app N24 N25q
    refine own_step (S' := (T25.setTop (mkF m 45 #[.val (.int p1), .val (.int (0 : Int32)), .val (.ref w_PLAN), .val (.int (1 : Int32)), .val (.int (1 : Int32))] [(.int (0 : Int32)), (.int (1 : Int32))]))) (fun _ k => st25 _ k) ?_
    refine own_step (S' := (T25.setTop (mkF m 48 #[.val (.int p1), .val (.int (0 : Int32)), .val (.ref w_PLAN), .val (.int (1 : Int32)), .val (.int (1 : Int32))] [(.int (1 : Int32))]))) (fun _ k => XS.ifNo X25.here hx rfl (hb hby at_45) rfl ((if0 _ _).trans (teq (by decide : (0 : Int32) = (0 : Int32))).2) k) ?_
    refine own_step (S' := (T25.setTop (mkF m 49 #[.val (.int p1), .val (.int (0 : Int32)), .val (.ref w_PLAN), .val (.int (1 : Int32)), .val (.int (1 : Int32))] [(.int (1 : Int32)), (.int (1 : Int32))]))) (fun _ k => XS.iconst X25.here hx rfl (hb hby at_48) k) ?_
    refine own_step (S' := (T25.setTop (mkF m 53 #[.val (.int p1), .val (.int (0 : Int32)), .val (.ref w_PLAN), .val (.int (1 : Int32)), .val (.int (1 : Int32))] [(.int (1 : Int32)), (.int (1 : Int32))]))) (fun _ k => XS.goto X25.here hx rfl (pc0 := 49) (pc' := 53) rfl (hb hby at_49) (by decide) (by decide) k) ?_
    refine own_step (S' := (T25.setTop (mkF m 56 #[.val (.int p1), .val (.int (0 : Int32)), .val (.ref w_PLAN), .val (.int (1 : Int32)), .val (.int (1 : Int32))] []))) (fun _ k => XS.icmpNo X25.here hx rfl (hb hby at_53) rfl (teq (by decide : (1 : Int32) = (1 : Int32))).2 k) ?_
    refine own_step (S' := (T25.setTop (mkF m 57 #[.val (.int p1), .val (.int (0 : Int32)), .val (.ref w_PLAN), .val (.int (1 : Int32)), .val (.int (1 : Int32))] [(.int (1 : Int32))]))) (fun _ k => XS.iconst X25.here hx rfl (hb hby at_56) k) ?_
    refine own_step (S' := (T25.setTop (mkF m 61 #[.val (.int p1), .val (.int (0 : Int32)), .val (.ref w_PLAN), .val (.int (1 : Int32)), .val (.int (1 : Int32))] [(.int (1 : Int32))]))) (fun _ k => XS.goto X25.here hx rfl (pc0 := 57) (pc' := 61) rfl (hb hby at_57) (by decide) (by decide) k) ?_
    refine own_retN X25 hx hlk hret (by simp) (by decide) (hb hby at_61) (by decide) (by decide) ?_
    try rw [e25]
    exact ⟨rfl, N25⟩
  · rw [hr21]
    refine own_step (S' := (s₁.setTop (mkF m 8 #[.val (.int p1), .val (.int (1 : Int32)), .unset, .unset, .unset] []))) (fun _ k => XS.istoreN X0.here hx rfl (hb hby at_7) rfl (l' := #[.val (.int p1), .val (.int (1 : Int32)), .unset, .unset, .unset]) rfl k) ?_
    obtain ⟨sv, sk, Eo, Fv, ⟨b, n, Es, Fb, Ab, hq⟩, Ft, ⟨b', n', Es', Fb', Ab', hq'⟩⟩ := O_PARTICIPANT
    have hz : ¬ n = (0 : Int32) := fun u => Bool.noConfusion (hq.mp u)
    have hz' : ¬ n' = (0 : Int32) := fun u => Bool.noConfusion (hq'.mp u)
    refine own_step (S' := (s₁.setTop (mkF m 9 #[.val (.int p1), .val (.int (1 : Int32)), .unset, .unset, .unset] [(.int (1 : Int32))]))) (fun _ k => XS.iloadN X0.here hx rfl (hb hby at_8) rfl k) ?_
    obtain ⟨_, T26, L26, X26, ⟨rfl, N26q, e26⟩, st26⟩ := own_stat (argsL := [(.int (1 : Int32))]) (rest := []) X0 hx hZ hown (hw _ (List.mem_of_getElem? (i := 1) rfl)) (hw _ (List.mem_of_getElem? (i := 2) rfl)) (by decide) (hw _ (List.mem_of_getElem? (i := 4) rfl)) (hw _ (List.mem_of_getElem? (i := 3) rfl)) e0 (hM := rmP_1 l Z a0 hw [] w_PARTICIPANT h0 n0 Z0 S_PARTICIPANT) (g := (mkF m 9 #[.val (.int p1), .val (.int (1 : Int32)), .unset, .unset, .unset] [(.int (1 : Int32))])) (hg := rfl) (hsize := by rw [hml]; rfl) (hlen := lenOf pd_1 rfl) (hstack := rfl) (W := 0) (hW := by show 2 * 0 + _ ≤ _; exact Nat.le_of_eq rfl) (hd := (hb hby at_9)) (hf := by decide) (hl := by decide) (hc := by decide) (hs := by decide)
    have N26 := Fr.app N0 N26q
    refine own_step (S' := (T26.setTop (mkF m 12 #[.val (.int p1), .val (.int (1 : Int32)), .unset, .unset, .unset] [(.ref w_PARTICIPANT)]))) (fun _ k => st26 _ k) ?_
    refine own_step (S' := (T26.setTop (mkF m 13 #[.val (.int p1), .val (.int (1 : Int32)), .val (.ref w_PARTICIPANT), .unset, .unset] []))) (fun _ k => XS.astoreN X26.here hx rfl (hb hby at_12) rfl rfl (l' := #[.val (.int p1), .val (.int (1 : Int32)), .val (.ref w_PARTICIPANT), .unset, .unset]) rfl k) ?_
    refine own_step (S' := (T26.setTop (mkF m 14 #[.val (.int p1), .val (.int (1 : Int32)), .val (.ref w_PARTICIPANT), .unset, .unset] [(.int (1 : Int32))]))) (fun _ k => XS.iloadN X26.here hx rfl (hb hby at_13) rfl k) ?_
    refine own_step (S' := (T26.setTop (mkF m 15 #[.val (.int p1), .val (.int (1 : Int32)), .val (.ref w_PARTICIPANT), .unset, .unset] [(.int (3 : Int32)), (.int (1 : Int32))]))) (fun _ k => XS.iconst X26.here hx rfl (hb hby at_14) k) ?_
    refine own_step (S' := (T26.setTop (mkF m 18 #[.val (.int p1), .val (.int (1 : Int32)), .val (.ref w_PARTICIPANT), .unset, .unset] []))) (fun _ k => XS.icmpNo X26.here hx rfl (hb hby at_15) rfl (feq (by decide : ¬ ((1 : Int32) = (3 : Int32)))).1 k) ?_
    refine own_step (S' := (T26.setTop (mkF m 19 #[.val (.int p1), .val (.int (1 : Int32)), .val (.ref w_PARTICIPANT), .unset, .unset] [(.int (1 : Int32))]))) (fun _ k => XS.iconst X26.here hx rfl (hb hby at_18) k) ?_
    refine own_step (S' := (T26.setTop (mkF m 23 #[.val (.int p1), .val (.int (1 : Int32)), .val (.ref w_PARTICIPANT), .unset, .unset] [(.int (1 : Int32))]))) (fun _ k => XS.goto X26.here hx rfl (pc0 := 19) (pc' := 23) rfl (hb hby at_19) (by decide) (by decide) k) ?_
    refine own_step (S' := (T26.setTop (mkF m 24 #[.val (.int p1), .val (.int (1 : Int32)), .val (.ref w_PARTICIPANT), .val (.int (1 : Int32)), .unset] []))) (fun _ k => XS.istoreN X26.here hx rfl (hb hby at_23) rfl (l' := #[.val (.int p1), .val (.int (1 : Int32)), .val (.ref w_PARTICIPANT), .val (.int (1 : Int32)), .unset]) rfl k) ?_
    refine own_step (S' := (T26.setTop (mkF m 25 #[.val (.int p1), .val (.int (1 : Int32)), .val (.ref w_PARTICIPANT), .val (.int (1 : Int32)), .unset] [(.ref w_PARTICIPANT)]))) (fun _ k => XS.aloadN X26.here hx rfl (hb hby at_24) rfl rfl k) ?_
    obtain ⟨_, T27, L27, X27, ⟨rfl, N27q, e27⟩, st27⟩ := own_virt (argsL := []) (rest := []) X26 hx hZ hown (hw _ (List.mem_of_getElem? (i := 8) rfl)) (hw _ (List.mem_of_getElem? (i := 9) rfl)) (notFace_of_selects (args := #[]) (mvT hZ (hw _ (List.mem_of_getElem? (i := 11) rfl)))) (hw _ (List.mem_of_getElem? (i := 11) rfl)) (hw _ (List.mem_of_getElem? (i := 10) rfl)) (by decide) (hw _ (List.mem_of_getElem? (i := 12) rfl)) (hw _ (List.mem_of_getElem? (i := 6) rfl)) e26 Eo (hM := rmV_0 l Z a0 hw [] w_PARTICIPANT sv b n h0 n0 Z0 Fv Es Fb Ab hz) (g := (mkF m 25 #[.val (.int p1), .val (.int (1 : Int32)), .val (.ref w_PARTICIPANT), .val (.int (1 : Int32)), .unset] [(.ref w_PARTICIPANT)])) (hg := rfl) (hsize := by rw [hml]; rfl) (hlen := lenOf pd_0 rfl) (hstack := rfl) (W := 0) (hW := by show 2 * 0 + _ ≤ _; exact Nat.le_of_eq rfl) (hd := (hb hby at_25)) (hf := by decide) (hl := by decide) (hc := by decide) (hs := by decide)
    have N27 := Fr.app N26 N27q
    refine own_step (S' := (T27.setTop (mkF m 28 #[.val (.int p1), .val (.int (1 : Int32)), .val (.ref w_PARTICIPANT), .val (.int (1 : Int32)), .unset] [(.int (1 : Int32))]))) (fun _ k => st27 _ k) ?_
    refine own_step (S' := (T27.setTop (mkF m 30 #[.val (.int p1), .val (.int (1 : Int32)), .val (.ref w_PARTICIPANT), .val (.int (1 : Int32)), .val (.int (1 : Int32))] []))) (fun _ k => XS.istore X27.here hx rfl (hb hby at_28) rfl (l' := #[.val (.int p1), .val (.int (1 : Int32)), .val (.ref w_PARTICIPANT), .val (.int (1 : Int32)), .val (.int (1 : Int32))]) rfl k) ?_
    refine own_step (S' := (T27.setTop (mkF m 32 #[.val (.int p1), .val (.int (1 : Int32)), .val (.ref w_PARTICIPANT), .val (.int (1 : Int32)), .val (.int (1 : Int32))] [(.int (1 : Int32))]))) (fun _ k => XS.iload X27.here hx rfl (hb hby at_30) rfl k) ?_
    refine own_step (S' := (T27.setTop (mkF m 33 #[.val (.int p1), .val (.int (1 : Int32)), .val (.ref w_PARTICIPANT), .val (.int (1 : Int32)), .val (.int (1 : Int32))] [(.int (1 : Int32)), (.int (1 : Int32))]))) (fun _ k => XS.iloadN X27.here hx rfl (hb hby at_32) rfl k) ?_
    refine own_step (S' := (T27.setTop (mkF m 36 #[.val (.int p1), .val (.int (1 : Int32)), .val (.ref w_PARTICIPANT), .val (.int (1 : Int32)), .val (.int (1 : Int32))] []))) (fun _ k => XS.icmpNo X27.here hx rfl (hb hby at_33) rfl (teq (by decide : (1 : Int32) = (1 : Int32))).2 k) ?_
    refine own_step (S' := (T27.setTop (mkF m 38 #[.val (.int p1), .val (.int (1 : Int32)), .val (.ref w_PARTICIPANT), .val (.int (1 : Int32)), .val (.int (1 : Int32))] [(.int (1 : Int32))]))) (fun _ k => XS.iload X27.here hx rfl (hb hby at_36) rfl k) ?_
    refine own_step (S' := (T27.setTop (mkF m 39 #[.val (.int p1), .val (.int (1 : Int32)), .val (.ref w_PARTICIPANT), .val (.int (1 : Int32)), .val (.int (1 : Int32))] [(.ref w_PARTICIPANT), (.int (1 : Int32))]))) (fun _ k => XS.aloadN X27.here hx rfl (hb hby at_38) rfl rfl k) ?_
    obtain ⟨_, T28, L28, X28, ⟨rfl, N28q, e28⟩, st28⟩ := own_virt (argsL := []) (rest := [(.int (1 : Int32))]) X27 hx hZ hown (hw _ (List.mem_of_getElem? (i := 23) rfl)) (hw _ (List.mem_of_getElem? (i := 24) rfl)) (notFace_of_selects (args := #[]) (mvT hZ (hw _ (List.mem_of_getElem? (i := 26) rfl)))) (hw _ (List.mem_of_getElem? (i := 26) rfl)) (hw _ (List.mem_of_getElem? (i := 25) rfl)) (by decide) (hw _ (List.mem_of_getElem? (i := 27) rfl)) (hw _ (List.mem_of_getElem? (i := 6) rfl)) e27 Eo (hM := rmT l Z a0 hw [] w_PARTICIPANT sk h0 n0 Z0 Ft) (g := (mkF m 39 #[.val (.int p1), .val (.int (1 : Int32)), .val (.ref w_PARTICIPANT), .val (.int (1 : Int32)), .val (.int (1 : Int32))] [(.ref w_PARTICIPANT), (.int (1 : Int32))])) (hg := rfl) (hsize := by rw [hml]; rfl) (hlen := lenOf pd_2 rfl) (hstack := rfl) (W := 1) (hW := by show 2 * 0 + _ ≤ _; exact Nat.le_of_eq rfl) (hd := (hb hby at_39)) (hf := by decide) (hl := by decide) (hc := by decide) (hs := by decide)
    have N28 := Fr.app N27 N28q
    refine own_step (S' := (T28.setTop (mkF m 42 #[.val (.int p1), .val (.int (1 : Int32)), .val (.ref w_PARTICIPANT), .val (.int (1 : Int32)), .val (.int (1 : Int32))] [(.ref sk), (.int (1 : Int32))]))) (fun _ k => st28 _ k) ?_
    obtain ⟨_, T29, L29, X29, ⟨rfl, N29q, e29⟩, st29⟩ := own_virt (argsL := []) (rest := [(.int (1 : Int32))]) X28 hx hZ hown (hw _ (List.mem_of_getElem? (i := 30) rfl)) (hw _ (List.mem_of_getElem? (i := 16) rfl)) (notFace_of_selects (args := #[]) (mvT hZ (hw _ (List.mem_of_getElem? (i := 18) rfl)))) (hw _ (List.mem_of_getElem? (i := 18) rfl)) (hw _ (List.mem_of_getElem? (i := 17) rfl)) (by decide) (hw _ (List.mem_of_getElem? (i := 20) rfl)) (hw _ (List.mem_of_getElem? (i := 19) rfl)) e28 Es' (hM := rmE_0 l Z a0 hw [] sk b' n' h0 n0 Z0 Fb' Ab' hz') (g := (mkF m 42 #[.val (.int p1), .val (.int (1 : Int32)), .val (.ref w_PARTICIPANT), .val (.int (1 : Int32)), .val (.int (1 : Int32))] [(.ref sk), (.int (1 : Int32))])) (hg := rfl) (hsize := by rw [hml]; rfl) (hlen := lenOf pd_0 rfl) (hstack := rfl) (W := 1) (hW := by show 2 * 0 + _ ≤ _; exact Nat.le_of_eq rfl) (hd := (hb hby at_42)) (hf := by decide) (hl := by decide) (hc := by decide) (hs := by decide)
    have N29 := Fr.app N28 N29q
    refine own_step (S' := (T29.setTop (mkF m 45 #[.val (.int p1), .val (.int (1 : Int32)), .val (.ref w_PARTICIPANT), .val (.int (1 : Int32)), .val (.int (1 : Int32))] [(.int (0 : Int32)), (.int (1 : Int32))]))) (fun _ k => st29 _ k) ?_
    refine own_step (S' := (T29.setTop (mkF m 48 #[.val (.int p1), .val (.int (1 : Int32)), .val (.ref w_PARTICIPANT), .val (.int (1 : Int32)), .val (.int (1 : Int32))] [(.int (1 : Int32))]))) (fun _ k => XS.ifNo X29.here hx rfl (hb hby at_45) rfl ((if0 _ _).trans (teq (by decide : (0 : Int32) = (0 : Int32))).2) k) ?_
    refine own_step (S' := (T29.setTop (mkF m 49 #[.val (.int p1), .val (.int (1 : Int32)), .val (.ref w_PARTICIPANT), .val (.int (1 : Int32)), .val (.int (1 : Int32))] [(.int (1 : Int32)), (.int (1 : Int32))]))) (fun _ k => XS.iconst X29.here hx rfl (hb hby at_48) k) ?_
    refine own_step (S' := (T29.setTop (mkF m 53 #[.val (.int p1), .val (.int (1 : Int32)), .val (.ref w_PARTICIPANT), .val (.int (1 : Int32)), .val (.int (1 : Int32))] [(.int (1 : Int32)), (.int (1 : Int32))]))) (fun _ k => XS.goto X29.here hx rfl (pc0 := 49) (pc' := 53) rfl (hb hby at_49) (by decide) (by decide) k) ?_
    refine own_step (S' := (T29.setTop (mkF m 56 #[.val (.int p1), .val (.int (1 : Int32)), .val (.ref w_PARTICIPANT), .val (.int (1 : Int32)), .val (.int (1 : Int32))] []))) (fun _ k => XS.icmpNo X29.here hx rfl (hb hby at_53) rfl (teq (by decide : (1 : Int32) = (1 : Int32))).2 k) ?_
    refine own_step (S' := (T29.setTop (mkF m 57 #[.val (.int p1), .val (.int (1 : Int32)), .val (.ref w_PARTICIPANT), .val (.int (1 : Int32)), .val (.int (1 : Int32))] [(.int (1 : Int32))]))) (fun _ k => XS.iconst X29.here hx rfl (hb hby at_56) k) ?_
    refine own_step (S' := (T29.setTop (mkF m 61 #[.val (.int p1), .val (.int (1 : Int32)), .val (.ref w_PARTICIPANT), .val (.int (1 : Int32)), .val (.int (1 : Int32))] [(.int (1 : Int32))]))) (fun _ k => XS.goto X29.here hx rfl (pc0 := 57) (pc' := 61) rfl (hb hby at_57) (by decide) (by decide) k) ?_
    refine own_retN X29 hx hlk hret (by simp) (by decide) (hb hby at_61) (by decide) (by decide) ?_
    try rw [e29]
    exact ⟨rfl, N29⟩
  · rw [hr21]
    refine own_step (S' := (s₁.setTop (mkF m 8 #[.val (.int p1), .val (.int (2 : Int32)), .unset, .unset, .unset] []))) (fun _ k => XS.istoreN X0.here hx rfl (hb hby at_7) rfl (l' := #[.val (.int p1), .val (.int (2 : Int32)), .unset, .unset, .unset]) rfl k) ?_
    obtain ⟨sv, sk, Eo, Fv, ⟨b, n, Es, Fb, Ab, hq⟩, Ft, ⟨b', n', Es', Fb', Ab', hq'⟩⟩ := O_AS_OF
    have hz : ¬ n = (0 : Int32) := fun u => Bool.noConfusion (hq.mp u)
    have hz' : ¬ n' = (0 : Int32) := fun u => Bool.noConfusion (hq'.mp u)
    refine own_step (S' := (s₁.setTop (mkF m 9 #[.val (.int p1), .val (.int (2 : Int32)), .unset, .unset, .unset] [(.int (2 : Int32))]))) (fun _ k => XS.iloadN X0.here hx rfl (hb hby at_8) rfl k) ?_
    obtain ⟨_, T30, L30, X30, ⟨rfl, N30q, e30⟩, st30⟩ := own_stat (argsL := [(.int (2 : Int32))]) (rest := []) X0 hx hZ hown (hw _ (List.mem_of_getElem? (i := 1) rfl)) (hw _ (List.mem_of_getElem? (i := 2) rfl)) (by decide) (hw _ (List.mem_of_getElem? (i := 4) rfl)) (hw _ (List.mem_of_getElem? (i := 3) rfl)) e0 (hM := rmP_2 l Z a0 hw [] w_AS_OF h0 n0 Z0 S_AS_OF) (g := (mkF m 9 #[.val (.int p1), .val (.int (2 : Int32)), .unset, .unset, .unset] [(.int (2 : Int32))])) (hg := rfl) (hsize := by rw [hml]; rfl) (hlen := lenOf pd_1 rfl) (hstack := rfl) (W := 0) (hW := by show 2 * 0 + _ ≤ _; exact Nat.le_of_eq rfl) (hd := (hb hby at_9)) (hf := by decide) (hl := by decide) (hc := by decide) (hs := by decide)
    have N30 := Fr.app N0 N30q
    refine own_step (S' := (T30.setTop (mkF m 12 #[.val (.int p1), .val (.int (2 : Int32)), .unset, .unset, .unset] [(.ref w_AS_OF)]))) (fun _ k => st30 _ k) ?_
    refine own_step (S' := (T30.setTop (mkF m 13 #[.val (.int p1), .val (.int (2 : Int32)), .val (.ref w_AS_OF), .unset, .unset] []))) (fun _ k => XS.astoreN X30.here hx rfl (hb hby at_12) rfl rfl (l' := #[.val (.int p1), .val (.int (2 : Int32)), .val (.ref w_AS_OF), .unset, .unset]) rfl k) ?_
    refine own_step (S' := (T30.setTop (mkF m 14 #[.val (.int p1), .val (.int (2 : Int32)), .val (.ref w_AS_OF), .unset, .unset] [(.int (2 : Int32))]))) (fun _ k => XS.iloadN X30.here hx rfl (hb hby at_13) rfl k) ?_
    refine own_step (S' := (T30.setTop (mkF m 15 #[.val (.int p1), .val (.int (2 : Int32)), .val (.ref w_AS_OF), .unset, .unset] [(.int (3 : Int32)), (.int (2 : Int32))]))) (fun _ k => XS.iconst X30.here hx rfl (hb hby at_14) k) ?_
    refine own_step (S' := (T30.setTop (mkF m 18 #[.val (.int p1), .val (.int (2 : Int32)), .val (.ref w_AS_OF), .unset, .unset] []))) (fun _ k => XS.icmpNo X30.here hx rfl (hb hby at_15) rfl (feq (by decide : ¬ ((2 : Int32) = (3 : Int32)))).1 k) ?_
    refine own_step (S' := (T30.setTop (mkF m 19 #[.val (.int p1), .val (.int (2 : Int32)), .val (.ref w_AS_OF), .unset, .unset] [(.int (1 : Int32))]))) (fun _ k => XS.iconst X30.here hx rfl (hb hby at_18) k) ?_
    refine own_step (S' := (T30.setTop (mkF m 23 #[.val (.int p1), .val (.int (2 : Int32)), .val (.ref w_AS_OF), .unset, .unset] [(.int (1 : Int32))]))) (fun _ k => XS.goto X30.here hx rfl (pc0 := 19) (pc' := 23) rfl (hb hby at_19) (by decide) (by decide) k) ?_
    refine own_step (S' := (T30.setTop (mkF m 24 #[.val (.int p1), .val (.int (2 : Int32)), .val (.ref w_AS_OF), .val (.int (1 : Int32)), .unset] []))) (fun _ k => XS.istoreN X30.here hx rfl (hb hby at_23) rfl (l' := #[.val (.int p1), .val (.int (2 : Int32)), .val (.ref w_AS_OF), .val (.int (1 : Int32)), .unset]) rfl k) ?_
    refine own_step (S' := (T30.setTop (mkF m 25 #[.val (.int p1), .val (.int (2 : Int32)), .val (.ref w_AS_OF), .val (.int (1 : Int32)), .unset] [(.ref w_AS_OF)]))) (fun _ k => XS.aloadN X30.here hx rfl (hb hby at_24) rfl rfl k) ?_
    obtain ⟨_, T31, L31, X31, ⟨rfl, N31q, e31⟩, st31⟩ := own_virt (argsL := []) (rest := []) X30 hx hZ hown (hw _ (List.mem_of_getElem? (i := 8) rfl)) (hw _ (List.mem_of_getElem? (i := 9) rfl)) (notFace_of_selects (args := #[]) (mvT hZ (hw _ (List.mem_of_getElem? (i := 11) rfl)))) (hw _ (List.mem_of_getElem? (i := 11) rfl)) (hw _ (List.mem_of_getElem? (i := 10) rfl)) (by decide) (hw _ (List.mem_of_getElem? (i := 12) rfl)) (hw _ (List.mem_of_getElem? (i := 6) rfl)) e30 Eo (hM := rmV_0 l Z a0 hw [] w_AS_OF sv b n h0 n0 Z0 Fv Es Fb Ab hz) (g := (mkF m 25 #[.val (.int p1), .val (.int (2 : Int32)), .val (.ref w_AS_OF), .val (.int (1 : Int32)), .unset] [(.ref w_AS_OF)])) (hg := rfl) (hsize := by rw [hml]; rfl) (hlen := lenOf pd_0 rfl) (hstack := rfl) (W := 0) (hW := by show 2 * 0 + _ ≤ _; exact Nat.le_of_eq rfl) (hd := (hb hby at_25)) (hf := by decide) (hl := by decide) (hc := by decide) (hs := by decide)
    have N31 := Fr.app N30 N31q
    refine own_step (S' := (T31.setTop (mkF m 28 #[.val (.int p1), .val (.int (2 : Int32)), .val (.ref w_AS_OF), .val (.int (1 : Int32)), .unset] [(.int (1 : Int32))]))) (fun _ k => st31 _ k) ?_
    refine own_step (S' := (T31.setTop (mkF m 30 #[.val (.int p1), .val (.int (2 : Int32)), .val (.ref w_AS_OF), .val (.int (1 : Int32)), .val (.int (1 : Int32))] []))) (fun _ k => XS.istore X31.here hx rfl (hb hby at_28) rfl (l' := #[.val (.int p1), .val (.int (2 : Int32)), .val (.ref w_AS_OF), .val (.int (1 : Int32)), .val (.int (1 : Int32))]) rfl k) ?_
    refine own_step (S' := (T31.setTop (mkF m 32 #[.val (.int p1), .val (.int (2 : Int32)), .val (.ref w_AS_OF), .val (.int (1 : Int32)), .val (.int (1 : Int32))] [(.int (1 : Int32))]))) (fun _ k => XS.iload X31.here hx rfl (hb hby at_30) rfl k) ?_
    refine own_step (S' := (T31.setTop (mkF m 33 #[.val (.int p1), .val (.int (2 : Int32)), .val (.ref w_AS_OF), .val (.int (1 : Int32)), .val (.int (1 : Int32))] [(.int (1 : Int32)), (.int (1 : Int32))]))) (fun _ k => XS.iloadN X31.here hx rfl (hb hby at_32) rfl k) ?_
    refine own_step (S' := (T31.setTop (mkF m 36 #[.val (.int p1), .val (.int (2 : Int32)), .val (.ref w_AS_OF), .val (.int (1 : Int32)), .val (.int (1 : Int32))] []))) (fun _ k => XS.icmpNo X31.here hx rfl (hb hby at_33) rfl (teq (by decide : (1 : Int32) = (1 : Int32))).2 k) ?_
    refine own_step (S' := (T31.setTop (mkF m 38 #[.val (.int p1), .val (.int (2 : Int32)), .val (.ref w_AS_OF), .val (.int (1 : Int32)), .val (.int (1 : Int32))] [(.int (1 : Int32))]))) (fun _ k => XS.iload X31.here hx rfl (hb hby at_36) rfl k) ?_
    refine own_step (S' := (T31.setTop (mkF m 39 #[.val (.int p1), .val (.int (2 : Int32)), .val (.ref w_AS_OF), .val (.int (1 : Int32)), .val (.int (1 : Int32))] [(.ref w_AS_OF), (.int (1 : Int32))]))) (fun _ k => XS.aloadN X31.here hx rfl (hb hby at_38) rfl rfl k) ?_
    obtain ⟨_, T32, L32, X32, ⟨rfl, N32q, e32⟩, st32⟩ := own_virt (argsL := []) (rest := [(.int (1 : Int32))]) X31 hx hZ hown (hw _ (List.mem_of_getElem? (i := 23) rfl)) (hw _ (List.mem_of_getElem? (i := 24) rfl)) (notFace_of_selects (args := #[]) (mvT hZ (hw _ (List.mem_of_getElem? (i := 26) rfl)))) (hw _ (List.mem_of_getElem? (i := 26) rfl)) (hw _ (List.mem_of_getElem? (i := 25) rfl)) (by decide) (hw _ (List.mem_of_getElem? (i := 27) rfl)) (hw _ (List.mem_of_getElem? (i := 6) rfl)) e31 Eo (hM := rmT l Z a0 hw [] w_AS_OF sk h0 n0 Z0 Ft) (g := (mkF m 39 #[.val (.int p1), .val (.int (2 : Int32)), .val (.ref w_AS_OF), .val (.int (1 : Int32)), .val (.int (1 : Int32))] [(.ref w_AS_OF), (.int (1 : Int32))])) (hg := rfl) (hsize := by rw [hml]; rfl) (hlen := lenOf pd_2 rfl) (hstack := rfl) (W := 1) (hW := by show 2 * 0 + _ ≤ _; exact Nat.le_of_eq rfl) (hd := (hb hby at_39)) (hf := by decide) (hl := by decide) (hc := by decide) (hs := by decide)
    have N32 := Fr.app N31 N32q
    refine own_step (S' := (T32.setTop (mkF m 42 #[.val (.int p1), .val (.int (2 : Int32)), .val (.ref w_AS_OF), .val (.int (1 : Int32)), .val (.int (1 : Int32))] [(.ref sk), (.int (1 : Int32))]))) (fun _ k => st32 _ k) ?_
    obtain ⟨_, T33, L33, X33, ⟨rfl, N33q, e33⟩, st33⟩ := own_virt (argsL := []) (rest := [(.int (1 : Int32))]) X32 hx hZ hown (hw _ (List.mem_of_getElem? (i := 30) rfl)) (hw _ (List.mem_of_getElem? (i := 16) rfl)) (notFace_of_selects (args := #[]) (mvT hZ (hw _ (List.mem_of_getElem? (i := 18) rfl)))) (hw _ (List.mem_of_getElem? (i := 18) rfl)) (hw _ (List.mem_of_getElem? (i := 17) rfl)) (by decide) (hw _ (List.mem_of_getElem? (i := 20) rfl)) (hw _ (List.mem_of_getElem? (i := 19) rfl)) e32 Es' (hM := rmE_0 l Z a0 hw [] sk b' n' h0 n0 Z0 Fb' Ab' hz') (g := (mkF m 42 #[.val (.int p1), .val (.int (2 : Int32)), .val (.ref w_AS_OF), .val (.int (1 : Int32)), .val (.int (1 : Int32))] [(.ref sk), (.int (1 : Int32))])) (hg := rfl) (hsize := by rw [hml]; rfl) (hlen := lenOf pd_0 rfl) (hstack := rfl) (W := 1) (hW := by show 2 * 0 + _ ≤ _; exact Nat.le_of_eq rfl) (hd := (hb hby at_42)) (hf := by decide) (hl := by decide) (hc := by decide) (hs := by decide)
    have N33 := Fr.app N32 N33q
    refine own_step (S' := (T33.setTop (mkF m 45 #[.val (.int p1), .val (.int (2 : Int32)), .val (.ref w_AS_OF), .val (.int (1 : Int32)), .val (.int (1 : Int32))] [(.int (0 : Int32)), (.int (1 : Int32))]))) (fun _ k => st33 _ k) ?_
    refine own_step (S' := (T33.setTop (mkF m 48 #[.val (.int p1), .val (.int (2 : Int32)), .val (.ref w_AS_OF), .val (.int (1 : Int32)), .val (.int (1 : Int32))] [(.int (1 : Int32))]))) (fun _ k => XS.ifNo X33.here hx rfl (hb hby at_45) rfl ((if0 _ _).trans (teq (by decide : (0 : Int32) = (0 : Int32))).2) k) ?_
    refine own_step (S' := (T33.setTop (mkF m 49 #[.val (.int p1), .val (.int (2 : Int32)), .val (.ref w_AS_OF), .val (.int (1 : Int32)), .val (.int (1 : Int32))] [(.int (1 : Int32)), (.int (1 : Int32))]))) (fun _ k => XS.iconst X33.here hx rfl (hb hby at_48) k) ?_
    refine own_step (S' := (T33.setTop (mkF m 53 #[.val (.int p1), .val (.int (2 : Int32)), .val (.ref w_AS_OF), .val (.int (1 : Int32)), .val (.int (1 : Int32))] [(.int (1 : Int32)), (.int (1 : Int32))]))) (fun _ k => XS.goto X33.here hx rfl (pc0 := 49) (pc' := 53) rfl (hb hby at_49) (by decide) (by decide) k) ?_
    refine own_step (S' := (T33.setTop (mkF m 56 #[.val (.int p1), .val (.int (2 : Int32)), .val (.ref w_AS_OF), .val (.int (1 : Int32)), .val (.int (1 : Int32))] []))) (fun _ k => XS.icmpNo X33.here hx rfl (hb hby at_53) rfl (teq (by decide : (1 : Int32) = (1 : Int32))).2 k) ?_
    refine own_step (S' := (T33.setTop (mkF m 57 #[.val (.int p1), .val (.int (2 : Int32)), .val (.ref w_AS_OF), .val (.int (1 : Int32)), .val (.int (1 : Int32))] [(.int (1 : Int32))]))) (fun _ k => XS.iconst X33.here hx rfl (hb hby at_56) k) ?_
    refine own_step (S' := (T33.setTop (mkF m 61 #[.val (.int p1), .val (.int (2 : Int32)), .val (.ref w_AS_OF), .val (.int (1 : Int32)), .val (.int (1 : Int32))] [(.int (1 : Int32))]))) (fun _ k => XS.goto X33.here hx rfl (pc0 := 57) (pc' := 61) rfl (hb hby at_57) (by decide) (by decide) k) ?_
    refine own_retN X33 hx hlk hret (by simp) (by decide) (hb hby at_61) (by decide) (by decide) ?_
    try rw [e33]
    exact ⟨rfl, N33⟩
  · rw [hr21]
    refine own_step (S' := (s₁.setTop (mkF m 8 #[.val (.int p1), .val (.int (3 : Int32)), .unset, .unset, .unset] []))) (fun _ k => XS.istoreN X0.here hx rfl (hb hby at_7) rfl (l' := #[.val (.int p1), .val (.int (3 : Int32)), .unset, .unset, .unset]) rfl k) ?_
    obtain ⟨sv, sk, Eo, Fv, ⟨b, n, Es, Fb, Ab, hq⟩, Ft, ⟨b', n', Es', Fb', Ab', hq'⟩⟩ := O_ENTRIES
    have hz := hq.mpr rfl
    have hz' := hq'.mpr rfl
    refine own_step (S' := (s₁.setTop (mkF m 9 #[.val (.int p1), .val (.int (3 : Int32)), .unset, .unset, .unset] [(.int (3 : Int32))]))) (fun _ k => XS.iloadN X0.here hx rfl (hb hby at_8) rfl k) ?_
    obtain ⟨_, T34, L34, X34, ⟨rfl, N34q, e34⟩, st34⟩ := own_stat (argsL := [(.int (3 : Int32))]) (rest := []) X0 hx hZ hown (hw _ (List.mem_of_getElem? (i := 1) rfl)) (hw _ (List.mem_of_getElem? (i := 2) rfl)) (by decide) (hw _ (List.mem_of_getElem? (i := 4) rfl)) (hw _ (List.mem_of_getElem? (i := 3) rfl)) e0 (hM := rmP_3 l Z a0 hw [] w_ENTRIES h0 n0 Z0 S_ENTRIES) (g := (mkF m 9 #[.val (.int p1), .val (.int (3 : Int32)), .unset, .unset, .unset] [(.int (3 : Int32))])) (hg := rfl) (hsize := by rw [hml]; rfl) (hlen := lenOf pd_1 rfl) (hstack := rfl) (W := 0) (hW := by show 2 * 0 + _ ≤ _; exact Nat.le_of_eq rfl) (hd := (hb hby at_9)) (hf := by decide) (hl := by decide) (hc := by decide) (hs := by decide)
    have N34 := Fr.app N0 N34q
    refine own_step (S' := (T34.setTop (mkF m 12 #[.val (.int p1), .val (.int (3 : Int32)), .unset, .unset, .unset] [(.ref w_ENTRIES)]))) (fun _ k => st34 _ k) ?_
    refine own_step (S' := (T34.setTop (mkF m 13 #[.val (.int p1), .val (.int (3 : Int32)), .val (.ref w_ENTRIES), .unset, .unset] []))) (fun _ k => XS.astoreN X34.here hx rfl (hb hby at_12) rfl rfl (l' := #[.val (.int p1), .val (.int (3 : Int32)), .val (.ref w_ENTRIES), .unset, .unset]) rfl k) ?_
    refine own_step (S' := (T34.setTop (mkF m 14 #[.val (.int p1), .val (.int (3 : Int32)), .val (.ref w_ENTRIES), .unset, .unset] [(.int (3 : Int32))]))) (fun _ k => XS.iloadN X34.here hx rfl (hb hby at_13) rfl k) ?_
    refine own_step (S' := (T34.setTop (mkF m 15 #[.val (.int p1), .val (.int (3 : Int32)), .val (.ref w_ENTRIES), .unset, .unset] [(.int (3 : Int32)), (.int (3 : Int32))]))) (fun _ k => XS.iconst X34.here hx rfl (hb hby at_14) k) ?_
    refine own_step (S' := (T34.setTop (mkF m 22 #[.val (.int p1), .val (.int (3 : Int32)), .val (.ref w_ENTRIES), .unset, .unset] []))) (fun _ k => XS.icmpYes X34.here hx rfl (pc0 := 15) (pc' := 22) rfl (hb hby at_15) rfl (teq (by decide : (3 : Int32) = (3 : Int32))).1 (by decide) (by decide) k) ?_
    refine own_step (S' := (T34.setTop (mkF m 23 #[.val (.int p1), .val (.int (3 : Int32)), .val (.ref w_ENTRIES), .unset, .unset] [(.int (0 : Int32))]))) (fun _ k => XS.iconst X34.here hx rfl (hb hby at_22) k) ?_
    refine own_step (S' := (T34.setTop (mkF m 24 #[.val (.int p1), .val (.int (3 : Int32)), .val (.ref w_ENTRIES), .val (.int (0 : Int32)), .unset] []))) (fun _ k => XS.istoreN X34.here hx rfl (hb hby at_23) rfl (l' := #[.val (.int p1), .val (.int (3 : Int32)), .val (.ref w_ENTRIES), .val (.int (0 : Int32)), .unset]) rfl k) ?_
    refine own_step (S' := (T34.setTop (mkF m 25 #[.val (.int p1), .val (.int (3 : Int32)), .val (.ref w_ENTRIES), .val (.int (0 : Int32)), .unset] [(.ref w_ENTRIES)]))) (fun _ k => XS.aloadN X34.here hx rfl (hb hby at_24) rfl rfl k) ?_
    obtain ⟨_, T35, L35, X35, ⟨rfl, N35q, e35⟩, st35⟩ := own_virt (argsL := []) (rest := []) X34 hx hZ hown (hw _ (List.mem_of_getElem? (i := 8) rfl)) (hw _ (List.mem_of_getElem? (i := 9) rfl)) (notFace_of_selects (args := #[]) (mvT hZ (hw _ (List.mem_of_getElem? (i := 11) rfl)))) (hw _ (List.mem_of_getElem? (i := 11) rfl)) (hw _ (List.mem_of_getElem? (i := 10) rfl)) (by decide) (hw _ (List.mem_of_getElem? (i := 12) rfl)) (hw _ (List.mem_of_getElem? (i := 6) rfl)) e34 Eo (hM := rmV_1 l Z a0 hw [] w_ENTRIES sv b n h0 n0 Z0 Fv Es Fb Ab hz) (g := (mkF m 25 #[.val (.int p1), .val (.int (3 : Int32)), .val (.ref w_ENTRIES), .val (.int (0 : Int32)), .unset] [(.ref w_ENTRIES)])) (hg := rfl) (hsize := by rw [hml]; rfl) (hlen := lenOf pd_0 rfl) (hstack := rfl) (W := 0) (hW := by show 2 * 0 + _ ≤ _; exact Nat.le_of_eq rfl) (hd := (hb hby at_25)) (hf := by decide) (hl := by decide) (hc := by decide) (hs := by decide)
    have N35 := Fr.app N34 N35q
    refine own_step (S' := (T35.setTop (mkF m 28 #[.val (.int p1), .val (.int (3 : Int32)), .val (.ref w_ENTRIES), .val (.int (0 : Int32)), .unset] [(.int (0 : Int32))]))) (fun _ k => st35 _ k) ?_
    refine own_step (S' := (T35.setTop (mkF m 30 #[.val (.int p1), .val (.int (3 : Int32)), .val (.ref w_ENTRIES), .val (.int (0 : Int32)), .val (.int (0 : Int32))] []))) (fun _ k => XS.istore X35.here hx rfl (hb hby at_28) rfl (l' := #[.val (.int p1), .val (.int (3 : Int32)), .val (.ref w_ENTRIES), .val (.int (0 : Int32)), .val (.int (0 : Int32))]) rfl k) ?_
    refine own_step (S' := (T35.setTop (mkF m 32 #[.val (.int p1), .val (.int (3 : Int32)), .val (.ref w_ENTRIES), .val (.int (0 : Int32)), .val (.int (0 : Int32))] [(.int (0 : Int32))]))) (fun _ k => XS.iload X35.here hx rfl (hb hby at_30) rfl k) ?_
    refine own_step (S' := (T35.setTop (mkF m 33 #[.val (.int p1), .val (.int (3 : Int32)), .val (.ref w_ENTRIES), .val (.int (0 : Int32)), .val (.int (0 : Int32))] [(.int (0 : Int32)), (.int (0 : Int32))]))) (fun _ k => XS.iloadN X35.here hx rfl (hb hby at_32) rfl k) ?_
    refine own_step (S' := (T35.setTop (mkF m 36 #[.val (.int p1), .val (.int (3 : Int32)), .val (.ref w_ENTRIES), .val (.int (0 : Int32)), .val (.int (0 : Int32))] []))) (fun _ k => XS.icmpNo X35.here hx rfl (hb hby at_33) rfl (teq (by decide : (0 : Int32) = (0 : Int32))).2 k) ?_
    refine own_step (S' := (T35.setTop (mkF m 38 #[.val (.int p1), .val (.int (3 : Int32)), .val (.ref w_ENTRIES), .val (.int (0 : Int32)), .val (.int (0 : Int32))] [(.int (0 : Int32))]))) (fun _ k => XS.iload X35.here hx rfl (hb hby at_36) rfl k) ?_
    refine own_step (S' := (T35.setTop (mkF m 39 #[.val (.int p1), .val (.int (3 : Int32)), .val (.ref w_ENTRIES), .val (.int (0 : Int32)), .val (.int (0 : Int32))] [(.ref w_ENTRIES), (.int (0 : Int32))]))) (fun _ k => XS.aloadN X35.here hx rfl (hb hby at_38) rfl rfl k) ?_
    obtain ⟨_, T36, L36, X36, ⟨rfl, N36q, e36⟩, st36⟩ := own_virt (argsL := []) (rest := [(.int (0 : Int32))]) X35 hx hZ hown (hw _ (List.mem_of_getElem? (i := 23) rfl)) (hw _ (List.mem_of_getElem? (i := 24) rfl)) (notFace_of_selects (args := #[]) (mvT hZ (hw _ (List.mem_of_getElem? (i := 26) rfl)))) (hw _ (List.mem_of_getElem? (i := 26) rfl)) (hw _ (List.mem_of_getElem? (i := 25) rfl)) (by decide) (hw _ (List.mem_of_getElem? (i := 27) rfl)) (hw _ (List.mem_of_getElem? (i := 6) rfl)) e35 Eo (hM := rmT l Z a0 hw [] w_ENTRIES sk h0 n0 Z0 Ft) (g := (mkF m 39 #[.val (.int p1), .val (.int (3 : Int32)), .val (.ref w_ENTRIES), .val (.int (0 : Int32)), .val (.int (0 : Int32))] [(.ref w_ENTRIES), (.int (0 : Int32))])) (hg := rfl) (hsize := by rw [hml]; rfl) (hlen := lenOf pd_2 rfl) (hstack := rfl) (W := 1) (hW := by show 2 * 0 + _ ≤ _; exact Nat.le_of_eq rfl) (hd := (hb hby at_39)) (hf := by decide) (hl := by decide) (hc := by decide) (hs := by decide)
    have N36 := Fr.app N35 N36q
    refine own_step (S' := (T36.setTop (mkF m 42 #[.val (.int p1), .val (.int (3 : Int32)), .val (.ref w_ENTRIES), .val (.int (0 : Int32)), .val (.int (0 : Int32))] [(.ref sk), (.int (0 : Int32))]))) (fun _ k => st36 _ k) ?_
    obtain ⟨_, T37, L37, X37, ⟨rfl, N37q, e37⟩, st37⟩ := own_virt (argsL := []) (rest := [(.int (0 : Int32))]) X36 hx hZ hown (hw _ (List.mem_of_getElem? (i := 30) rfl)) (hw _ (List.mem_of_getElem? (i := 16) rfl)) (notFace_of_selects (args := #[]) (mvT hZ (hw _ (List.mem_of_getElem? (i := 18) rfl)))) (hw _ (List.mem_of_getElem? (i := 18) rfl)) (hw _ (List.mem_of_getElem? (i := 17) rfl)) (by decide) (hw _ (List.mem_of_getElem? (i := 20) rfl)) (hw _ (List.mem_of_getElem? (i := 19) rfl)) e36 Es' (hM := rmE_1 l Z a0 hw [] sk b' n' h0 n0 Z0 Fb' Ab' hz') (g := (mkF m 42 #[.val (.int p1), .val (.int (3 : Int32)), .val (.ref w_ENTRIES), .val (.int (0 : Int32)), .val (.int (0 : Int32))] [(.ref sk), (.int (0 : Int32))])) (hg := rfl) (hsize := by rw [hml]; rfl) (hlen := lenOf pd_0 rfl) (hstack := rfl) (W := 1) (hW := by show 2 * 0 + _ ≤ _; exact Nat.le_of_eq rfl) (hd := (hb hby at_42)) (hf := by decide) (hl := by decide) (hc := by decide) (hs := by decide)
    have N37 := Fr.app N36 N37q
    refine own_step (S' := (T37.setTop (mkF m 45 #[.val (.int p1), .val (.int (3 : Int32)), .val (.ref w_ENTRIES), .val (.int (0 : Int32)), .val (.int (0 : Int32))] [(.int (1 : Int32)), (.int (0 : Int32))]))) (fun _ k => st37 _ k) ?_
    refine own_step (S' := (T37.setTop (mkF m 52 #[.val (.int p1), .val (.int (3 : Int32)), .val (.ref w_ENTRIES), .val (.int (0 : Int32)), .val (.int (0 : Int32))] [(.int (0 : Int32))]))) (fun _ k => XS.ifYes X37.here hx rfl (pc0 := 45) (pc' := 52) rfl (hb hby at_45) rfl ((if0 _ _).trans (feq (by decide : ¬ ((1 : Int32) = (0 : Int32)))).2) (by decide) (by decide) k) ?_
    refine own_step (S' := (T37.setTop (mkF m 53 #[.val (.int p1), .val (.int (3 : Int32)), .val (.ref w_ENTRIES), .val (.int (0 : Int32)), .val (.int (0 : Int32))] [(.int (0 : Int32)), (.int (0 : Int32))]))) (fun _ k => XS.iconst X37.here hx rfl (hb hby at_52) k) ?_
    refine own_step (S' := (T37.setTop (mkF m 56 #[.val (.int p1), .val (.int (3 : Int32)), .val (.ref w_ENTRIES), .val (.int (0 : Int32)), .val (.int (0 : Int32))] []))) (fun _ k => XS.icmpNo X37.here hx rfl (hb hby at_53) rfl (teq (by decide : (0 : Int32) = (0 : Int32))).2 k) ?_
    refine own_step (S' := (T37.setTop (mkF m 57 #[.val (.int p1), .val (.int (3 : Int32)), .val (.ref w_ENTRIES), .val (.int (0 : Int32)), .val (.int (0 : Int32))] [(.int (1 : Int32))]))) (fun _ k => XS.iconst X37.here hx rfl (hb hby at_56) k) ?_
    refine own_step (S' := (T37.setTop (mkF m 61 #[.val (.int p1), .val (.int (3 : Int32)), .val (.ref w_ENTRIES), .val (.int (0 : Int32)), .val (.int (0 : Int32))] [(.int (1 : Int32))]))) (fun _ k => XS.goto X37.here hx rfl (pc0 := 57) (pc' := 61) rfl (hb hby at_57) (by decide) (by decide) k) ?_
    refine own_retN X37 hx hlk hret (by simp) (by decide) (hb hby at_61) (by decide) (by decide) ?_
    try rw [e37]
    exact ⟨rfl, N37⟩
  · rw [hr21]
    refine own_step (S' := (s₁.setTop (mkF m 8 #[.val (.int p1), .val (.int (4 : Int32)), .unset, .unset, .unset] []))) (fun _ k => XS.istoreN X0.here hx rfl (hb hby at_7) rfl (l' := #[.val (.int p1), .val (.int (4 : Int32)), .unset, .unset, .unset]) rfl k) ?_
    obtain ⟨sv, sk, Eo, Fv, ⟨b, n, Es, Fb, Ab, hq⟩, Ft, ⟨b', n', Es', Fb', Ab', hq'⟩⟩ := O_YEAR
    have hz : ¬ n = (0 : Int32) := fun u => Bool.noConfusion (hq.mp u)
    have hz' : ¬ n' = (0 : Int32) := fun u => Bool.noConfusion (hq'.mp u)
    refine own_step (S' := (s₁.setTop (mkF m 9 #[.val (.int p1), .val (.int (4 : Int32)), .unset, .unset, .unset] [(.int (4 : Int32))]))) (fun _ k => XS.iloadN X0.here hx rfl (hb hby at_8) rfl k) ?_
    obtain ⟨_, T38, L38, X38, ⟨rfl, N38q, e38⟩, st38⟩ := own_stat (argsL := [(.int (4 : Int32))]) (rest := []) X0 hx hZ hown (hw _ (List.mem_of_getElem? (i := 1) rfl)) (hw _ (List.mem_of_getElem? (i := 2) rfl)) (by decide) (hw _ (List.mem_of_getElem? (i := 4) rfl)) (hw _ (List.mem_of_getElem? (i := 3) rfl)) e0 (hM := rmP_4 l Z a0 hw [] w_YEAR h0 n0 Z0 S_YEAR) (g := (mkF m 9 #[.val (.int p1), .val (.int (4 : Int32)), .unset, .unset, .unset] [(.int (4 : Int32))])) (hg := rfl) (hsize := by rw [hml]; rfl) (hlen := lenOf pd_1 rfl) (hstack := rfl) (W := 0) (hW := by show 2 * 0 + _ ≤ _; exact Nat.le_of_eq rfl) (hd := (hb hby at_9)) (hf := by decide) (hl := by decide) (hc := by decide) (hs := by decide)
    have N38 := Fr.app N0 N38q
    refine own_step (S' := (T38.setTop (mkF m 12 #[.val (.int p1), .val (.int (4 : Int32)), .unset, .unset, .unset] [(.ref w_YEAR)]))) (fun _ k => st38 _ k) ?_
    refine own_step (S' := (T38.setTop (mkF m 13 #[.val (.int p1), .val (.int (4 : Int32)), .val (.ref w_YEAR), .unset, .unset] []))) (fun _ k => XS.astoreN X38.here hx rfl (hb hby at_12) rfl rfl (l' := #[.val (.int p1), .val (.int (4 : Int32)), .val (.ref w_YEAR), .unset, .unset]) rfl k) ?_
    refine own_step (S' := (T38.setTop (mkF m 14 #[.val (.int p1), .val (.int (4 : Int32)), .val (.ref w_YEAR), .unset, .unset] [(.int (4 : Int32))]))) (fun _ k => XS.iloadN X38.here hx rfl (hb hby at_13) rfl k) ?_
    refine own_step (S' := (T38.setTop (mkF m 15 #[.val (.int p1), .val (.int (4 : Int32)), .val (.ref w_YEAR), .unset, .unset] [(.int (3 : Int32)), (.int (4 : Int32))]))) (fun _ k => XS.iconst X38.here hx rfl (hb hby at_14) k) ?_
    refine own_step (S' := (T38.setTop (mkF m 18 #[.val (.int p1), .val (.int (4 : Int32)), .val (.ref w_YEAR), .unset, .unset] []))) (fun _ k => XS.icmpNo X38.here hx rfl (hb hby at_15) rfl (feq (by decide : ¬ ((4 : Int32) = (3 : Int32)))).1 k) ?_
    refine own_step (S' := (T38.setTop (mkF m 19 #[.val (.int p1), .val (.int (4 : Int32)), .val (.ref w_YEAR), .unset, .unset] [(.int (1 : Int32))]))) (fun _ k => XS.iconst X38.here hx rfl (hb hby at_18) k) ?_
    refine own_step (S' := (T38.setTop (mkF m 23 #[.val (.int p1), .val (.int (4 : Int32)), .val (.ref w_YEAR), .unset, .unset] [(.int (1 : Int32))]))) (fun _ k => XS.goto X38.here hx rfl (pc0 := 19) (pc' := 23) rfl (hb hby at_19) (by decide) (by decide) k) ?_
    refine own_step (S' := (T38.setTop (mkF m 24 #[.val (.int p1), .val (.int (4 : Int32)), .val (.ref w_YEAR), .val (.int (1 : Int32)), .unset] []))) (fun _ k => XS.istoreN X38.here hx rfl (hb hby at_23) rfl (l' := #[.val (.int p1), .val (.int (4 : Int32)), .val (.ref w_YEAR), .val (.int (1 : Int32)), .unset]) rfl k) ?_
    refine own_step (S' := (T38.setTop (mkF m 25 #[.val (.int p1), .val (.int (4 : Int32)), .val (.ref w_YEAR), .val (.int (1 : Int32)), .unset] [(.ref w_YEAR)]))) (fun _ k => XS.aloadN X38.here hx rfl (hb hby at_24) rfl rfl k) ?_
    obtain ⟨_, T39, L39, X39, ⟨rfl, N39q, e39⟩, st39⟩ := own_virt (argsL := []) (rest := []) X38 hx hZ hown (hw _ (List.mem_of_getElem? (i := 8) rfl)) (hw _ (List.mem_of_getElem? (i := 9) rfl)) (notFace_of_selects (args := #[]) (mvT hZ (hw _ (List.mem_of_getElem? (i := 11) rfl)))) (hw _ (List.mem_of_getElem? (i := 11) rfl)) (hw _ (List.mem_of_getElem? (i := 10) rfl)) (by decide) (hw _ (List.mem_of_getElem? (i := 12) rfl)) (hw _ (List.mem_of_getElem? (i := 6) rfl)) e38 Eo (hM := rmV_0 l Z a0 hw [] w_YEAR sv b n h0 n0 Z0 Fv Es Fb Ab hz) (g := (mkF m 25 #[.val (.int p1), .val (.int (4 : Int32)), .val (.ref w_YEAR), .val (.int (1 : Int32)), .unset] [(.ref w_YEAR)])) (hg := rfl) (hsize := by rw [hml]; rfl) (hlen := lenOf pd_0 rfl) (hstack := rfl) (W := 0) (hW := by show 2 * 0 + _ ≤ _; exact Nat.le_of_eq rfl) (hd := (hb hby at_25)) (hf := by decide) (hl := by decide) (hc := by decide) (hs := by decide)
    have N39 := Fr.app N38 N39q
    refine own_step (S' := (T39.setTop (mkF m 28 #[.val (.int p1), .val (.int (4 : Int32)), .val (.ref w_YEAR), .val (.int (1 : Int32)), .unset] [(.int (1 : Int32))]))) (fun _ k => st39 _ k) ?_
    refine own_step (S' := (T39.setTop (mkF m 30 #[.val (.int p1), .val (.int (4 : Int32)), .val (.ref w_YEAR), .val (.int (1 : Int32)), .val (.int (1 : Int32))] []))) (fun _ k => XS.istore X39.here hx rfl (hb hby at_28) rfl (l' := #[.val (.int p1), .val (.int (4 : Int32)), .val (.ref w_YEAR), .val (.int (1 : Int32)), .val (.int (1 : Int32))]) rfl k) ?_
    refine own_step (S' := (T39.setTop (mkF m 32 #[.val (.int p1), .val (.int (4 : Int32)), .val (.ref w_YEAR), .val (.int (1 : Int32)), .val (.int (1 : Int32))] [(.int (1 : Int32))]))) (fun _ k => XS.iload X39.here hx rfl (hb hby at_30) rfl k) ?_
    refine own_step (S' := (T39.setTop (mkF m 33 #[.val (.int p1), .val (.int (4 : Int32)), .val (.ref w_YEAR), .val (.int (1 : Int32)), .val (.int (1 : Int32))] [(.int (1 : Int32)), (.int (1 : Int32))]))) (fun _ k => XS.iloadN X39.here hx rfl (hb hby at_32) rfl k) ?_
    refine own_step (S' := (T39.setTop (mkF m 36 #[.val (.int p1), .val (.int (4 : Int32)), .val (.ref w_YEAR), .val (.int (1 : Int32)), .val (.int (1 : Int32))] []))) (fun _ k => XS.icmpNo X39.here hx rfl (hb hby at_33) rfl (teq (by decide : (1 : Int32) = (1 : Int32))).2 k) ?_
    refine own_step (S' := (T39.setTop (mkF m 38 #[.val (.int p1), .val (.int (4 : Int32)), .val (.ref w_YEAR), .val (.int (1 : Int32)), .val (.int (1 : Int32))] [(.int (1 : Int32))]))) (fun _ k => XS.iload X39.here hx rfl (hb hby at_36) rfl k) ?_
    refine own_step (S' := (T39.setTop (mkF m 39 #[.val (.int p1), .val (.int (4 : Int32)), .val (.ref w_YEAR), .val (.int (1 : Int32)), .val (.int (1 : Int32))] [(.ref w_YEAR), (.int (1 : Int32))]))) (fun _ k => XS.aloadN X39.here hx rfl (hb hby at_38) rfl rfl k) ?_
    obtain ⟨_, T40, L40, X40, ⟨rfl, N40q, e40⟩, st40⟩ := own_virt (argsL := []) (rest := [(.int (1 : Int32))]) X39 hx hZ hown (hw _ (List.mem_of_getElem? (i := 23) rfl)) (hw _ (List.mem_of_getElem? (i := 24) rfl)) (notFace_of_selects (args := #[]) (mvT hZ (hw _ (List.mem_of_getElem? (i := 26) rfl)))) (hw _ (List.mem_of_getElem? (i := 26) rfl)) (hw _ (List.mem_of_getElem? (i := 25) rfl)) (by decide) (hw _ (List.mem_of_getElem? (i := 27) rfl)) (hw _ (List.mem_of_getElem? (i := 6) rfl)) e39 Eo (hM := rmT l Z a0 hw [] w_YEAR sk h0 n0 Z0 Ft) (g := (mkF m 39 #[.val (.int p1), .val (.int (4 : Int32)), .val (.ref w_YEAR), .val (.int (1 : Int32)), .val (.int (1 : Int32))] [(.ref w_YEAR), (.int (1 : Int32))])) (hg := rfl) (hsize := by rw [hml]; rfl) (hlen := lenOf pd_2 rfl) (hstack := rfl) (W := 1) (hW := by show 2 * 0 + _ ≤ _; exact Nat.le_of_eq rfl) (hd := (hb hby at_39)) (hf := by decide) (hl := by decide) (hc := by decide) (hs := by decide)
    have N40 := Fr.app N39 N40q
    refine own_step (S' := (T40.setTop (mkF m 42 #[.val (.int p1), .val (.int (4 : Int32)), .val (.ref w_YEAR), .val (.int (1 : Int32)), .val (.int (1 : Int32))] [(.ref sk), (.int (1 : Int32))]))) (fun _ k => st40 _ k) ?_
    obtain ⟨_, T41, L41, X41, ⟨rfl, N41q, e41⟩, st41⟩ := own_virt (argsL := []) (rest := [(.int (1 : Int32))]) X40 hx hZ hown (hw _ (List.mem_of_getElem? (i := 30) rfl)) (hw _ (List.mem_of_getElem? (i := 16) rfl)) (notFace_of_selects (args := #[]) (mvT hZ (hw _ (List.mem_of_getElem? (i := 18) rfl)))) (hw _ (List.mem_of_getElem? (i := 18) rfl)) (hw _ (List.mem_of_getElem? (i := 17) rfl)) (by decide) (hw _ (List.mem_of_getElem? (i := 20) rfl)) (hw _ (List.mem_of_getElem? (i := 19) rfl)) e40 Es' (hM := rmE_0 l Z a0 hw [] sk b' n' h0 n0 Z0 Fb' Ab' hz') (g := (mkF m 42 #[.val (.int p1), .val (.int (4 : Int32)), .val (.ref w_YEAR), .val (.int (1 : Int32)), .val (.int (1 : Int32))] [(.ref sk), (.int (1 : Int32))])) (hg := rfl) (hsize := by rw [hml]; rfl) (hlen := lenOf pd_0 rfl) (hstack := rfl) (W := 1) (hW := by show 2 * 0 + _ ≤ _; exact Nat.le_of_eq rfl) (hd := (hb hby at_42)) (hf := by decide) (hl := by decide) (hc := by decide) (hs := by decide)
    have N41 := Fr.app N40 N41q
    refine own_step (S' := (T41.setTop (mkF m 45 #[.val (.int p1), .val (.int (4 : Int32)), .val (.ref w_YEAR), .val (.int (1 : Int32)), .val (.int (1 : Int32))] [(.int (0 : Int32)), (.int (1 : Int32))]))) (fun _ k => st41 _ k) ?_
    refine own_step (S' := (T41.setTop (mkF m 48 #[.val (.int p1), .val (.int (4 : Int32)), .val (.ref w_YEAR), .val (.int (1 : Int32)), .val (.int (1 : Int32))] [(.int (1 : Int32))]))) (fun _ k => XS.ifNo X41.here hx rfl (hb hby at_45) rfl ((if0 _ _).trans (teq (by decide : (0 : Int32) = (0 : Int32))).2) k) ?_
    refine own_step (S' := (T41.setTop (mkF m 49 #[.val (.int p1), .val (.int (4 : Int32)), .val (.ref w_YEAR), .val (.int (1 : Int32)), .val (.int (1 : Int32))] [(.int (1 : Int32)), (.int (1 : Int32))]))) (fun _ k => XS.iconst X41.here hx rfl (hb hby at_48) k) ?_
    refine own_step (S' := (T41.setTop (mkF m 53 #[.val (.int p1), .val (.int (4 : Int32)), .val (.ref w_YEAR), .val (.int (1 : Int32)), .val (.int (1 : Int32))] [(.int (1 : Int32)), (.int (1 : Int32))]))) (fun _ k => XS.goto X41.here hx rfl (pc0 := 49) (pc' := 53) rfl (hb hby at_49) (by decide) (by decide) k) ?_
    refine own_step (S' := (T41.setTop (mkF m 56 #[.val (.int p1), .val (.int (4 : Int32)), .val (.ref w_YEAR), .val (.int (1 : Int32)), .val (.int (1 : Int32))] []))) (fun _ k => XS.icmpNo X41.here hx rfl (hb hby at_53) rfl (teq (by decide : (1 : Int32) = (1 : Int32))).2 k) ?_
    refine own_step (S' := (T41.setTop (mkF m 57 #[.val (.int p1), .val (.int (4 : Int32)), .val (.ref w_YEAR), .val (.int (1 : Int32)), .val (.int (1 : Int32))] [(.int (1 : Int32))]))) (fun _ k => XS.iconst X41.here hx rfl (hb hby at_56) k) ?_
    refine own_step (S' := (T41.setTop (mkF m 61 #[.val (.int p1), .val (.int (4 : Int32)), .val (.ref w_YEAR), .val (.int (1 : Int32)), .val (.int (1 : Int32))] [(.int (1 : Int32))]))) (fun _ k => XS.goto X41.here hx rfl (pc0 := 57) (pc' := 61) rfl (hb hby at_57) (by decide) (by decide) k) ?_
    refine own_retN X41 hx hlk hret (by simp) (by decide) (hb hby at_61) (by decide) (by decide) ?_
    try rw [e41]
    exact ⟨rfl, N41⟩
  · rw [hr21]
    refine own_step (S' := (s₁.setTop (mkF m 8 #[.val (.int p1), .val (.int (5 : Int32)), .unset, .unset, .unset] []))) (fun _ k => XS.istoreN X0.here hx rfl (hb hby at_7) rfl (l' := #[.val (.int p1), .val (.int (5 : Int32)), .unset, .unset, .unset]) rfl k) ?_
    obtain ⟨sv, sk, Eo, Fv, ⟨b, n, Es, Fb, Ab, hq⟩, Ft, ⟨b', n', Es', Fb', Ab', hq'⟩⟩ := O_POPULATION
    have hz : ¬ n = (0 : Int32) := fun u => Bool.noConfusion (hq.mp u)
    have hz' : ¬ n' = (0 : Int32) := fun u => Bool.noConfusion (hq'.mp u)
    refine own_step (S' := (s₁.setTop (mkF m 9 #[.val (.int p1), .val (.int (5 : Int32)), .unset, .unset, .unset] [(.int (5 : Int32))]))) (fun _ k => XS.iloadN X0.here hx rfl (hb hby at_8) rfl k) ?_
    obtain ⟨_, T42, L42, X42, ⟨rfl, N42q, e42⟩, st42⟩ := own_stat (argsL := [(.int (5 : Int32))]) (rest := []) X0 hx hZ hown (hw _ (List.mem_of_getElem? (i := 1) rfl)) (hw _ (List.mem_of_getElem? (i := 2) rfl)) (by decide) (hw _ (List.mem_of_getElem? (i := 4) rfl)) (hw _ (List.mem_of_getElem? (i := 3) rfl)) e0 (hM := rmP_5 l Z a0 hw [] w_POPULATION h0 n0 Z0 S_POPULATION) (g := (mkF m 9 #[.val (.int p1), .val (.int (5 : Int32)), .unset, .unset, .unset] [(.int (5 : Int32))])) (hg := rfl) (hsize := by rw [hml]; rfl) (hlen := lenOf pd_1 rfl) (hstack := rfl) (W := 0) (hW := by show 2 * 0 + _ ≤ _; exact Nat.le_of_eq rfl) (hd := (hb hby at_9)) (hf := by decide) (hl := by decide) (hc := by decide) (hs := by decide)
    have N42 := Fr.app N0 N42q
    refine own_step (S' := (T42.setTop (mkF m 12 #[.val (.int p1), .val (.int (5 : Int32)), .unset, .unset, .unset] [(.ref w_POPULATION)]))) (fun _ k => st42 _ k) ?_
    refine own_step (S' := (T42.setTop (mkF m 13 #[.val (.int p1), .val (.int (5 : Int32)), .val (.ref w_POPULATION), .unset, .unset] []))) (fun _ k => XS.astoreN X42.here hx rfl (hb hby at_12) rfl rfl (l' := #[.val (.int p1), .val (.int (5 : Int32)), .val (.ref w_POPULATION), .unset, .unset]) rfl k) ?_
    refine own_step (S' := (T42.setTop (mkF m 14 #[.val (.int p1), .val (.int (5 : Int32)), .val (.ref w_POPULATION), .unset, .unset] [(.int (5 : Int32))]))) (fun _ k => XS.iloadN X42.here hx rfl (hb hby at_13) rfl k) ?_
    refine own_step (S' := (T42.setTop (mkF m 15 #[.val (.int p1), .val (.int (5 : Int32)), .val (.ref w_POPULATION), .unset, .unset] [(.int (3 : Int32)), (.int (5 : Int32))]))) (fun _ k => XS.iconst X42.here hx rfl (hb hby at_14) k) ?_
    refine own_step (S' := (T42.setTop (mkF m 18 #[.val (.int p1), .val (.int (5 : Int32)), .val (.ref w_POPULATION), .unset, .unset] []))) (fun _ k => XS.icmpNo X42.here hx rfl (hb hby at_15) rfl (feq (by decide : ¬ ((5 : Int32) = (3 : Int32)))).1 k) ?_
    refine own_step (S' := (T42.setTop (mkF m 19 #[.val (.int p1), .val (.int (5 : Int32)), .val (.ref w_POPULATION), .unset, .unset] [(.int (1 : Int32))]))) (fun _ k => XS.iconst X42.here hx rfl (hb hby at_18) k) ?_
    refine own_step (S' := (T42.setTop (mkF m 23 #[.val (.int p1), .val (.int (5 : Int32)), .val (.ref w_POPULATION), .unset, .unset] [(.int (1 : Int32))]))) (fun _ k => XS.goto X42.here hx rfl (pc0 := 19) (pc' := 23) rfl (hb hby at_19) (by decide) (by decide) k) ?_
    refine own_step (S' := (T42.setTop (mkF m 24 #[.val (.int p1), .val (.int (5 : Int32)), .val (.ref w_POPULATION), .val (.int (1 : Int32)), .unset] []))) (fun _ k => XS.istoreN X42.here hx rfl (hb hby at_23) rfl (l' := #[.val (.int p1), .val (.int (5 : Int32)), .val (.ref w_POPULATION), .val (.int (1 : Int32)), .unset]) rfl k) ?_
    refine own_step (S' := (T42.setTop (mkF m 25 #[.val (.int p1), .val (.int (5 : Int32)), .val (.ref w_POPULATION), .val (.int (1 : Int32)), .unset] [(.ref w_POPULATION)]))) (fun _ k => XS.aloadN X42.here hx rfl (hb hby at_24) rfl rfl k) ?_
    obtain ⟨_, T43, L43, X43, ⟨rfl, N43q, e43⟩, st43⟩ := own_virt (argsL := []) (rest := []) X42 hx hZ hown (hw _ (List.mem_of_getElem? (i := 8) rfl)) (hw _ (List.mem_of_getElem? (i := 9) rfl)) (notFace_of_selects (args := #[]) (mvT hZ (hw _ (List.mem_of_getElem? (i := 11) rfl)))) (hw _ (List.mem_of_getElem? (i := 11) rfl)) (hw _ (List.mem_of_getElem? (i := 10) rfl)) (by decide) (hw _ (List.mem_of_getElem? (i := 12) rfl)) (hw _ (List.mem_of_getElem? (i := 6) rfl)) e42 Eo (hM := rmV_0 l Z a0 hw [] w_POPULATION sv b n h0 n0 Z0 Fv Es Fb Ab hz) (g := (mkF m 25 #[.val (.int p1), .val (.int (5 : Int32)), .val (.ref w_POPULATION), .val (.int (1 : Int32)), .unset] [(.ref w_POPULATION)])) (hg := rfl) (hsize := by rw [hml]; rfl) (hlen := lenOf pd_0 rfl) (hstack := rfl) (W := 0) (hW := by show 2 * 0 + _ ≤ _; exact Nat.le_of_eq rfl) (hd := (hb hby at_25)) (hf := by decide) (hl := by decide) (hc := by decide) (hs := by decide)
    have N43 := Fr.app N42 N43q
    refine own_step (S' := (T43.setTop (mkF m 28 #[.val (.int p1), .val (.int (5 : Int32)), .val (.ref w_POPULATION), .val (.int (1 : Int32)), .unset] [(.int (1 : Int32))]))) (fun _ k => st43 _ k) ?_
    refine own_step (S' := (T43.setTop (mkF m 30 #[.val (.int p1), .val (.int (5 : Int32)), .val (.ref w_POPULATION), .val (.int (1 : Int32)), .val (.int (1 : Int32))] []))) (fun _ k => XS.istore X43.here hx rfl (hb hby at_28) rfl (l' := #[.val (.int p1), .val (.int (5 : Int32)), .val (.ref w_POPULATION), .val (.int (1 : Int32)), .val (.int (1 : Int32))]) rfl k) ?_
    refine own_step (S' := (T43.setTop (mkF m 32 #[.val (.int p1), .val (.int (5 : Int32)), .val (.ref w_POPULATION), .val (.int (1 : Int32)), .val (.int (1 : Int32))] [(.int (1 : Int32))]))) (fun _ k => XS.iload X43.here hx rfl (hb hby at_30) rfl k) ?_
    refine own_step (S' := (T43.setTop (mkF m 33 #[.val (.int p1), .val (.int (5 : Int32)), .val (.ref w_POPULATION), .val (.int (1 : Int32)), .val (.int (1 : Int32))] [(.int (1 : Int32)), (.int (1 : Int32))]))) (fun _ k => XS.iloadN X43.here hx rfl (hb hby at_32) rfl k) ?_
    refine own_step (S' := (T43.setTop (mkF m 36 #[.val (.int p1), .val (.int (5 : Int32)), .val (.ref w_POPULATION), .val (.int (1 : Int32)), .val (.int (1 : Int32))] []))) (fun _ k => XS.icmpNo X43.here hx rfl (hb hby at_33) rfl (teq (by decide : (1 : Int32) = (1 : Int32))).2 k) ?_
    refine own_step (S' := (T43.setTop (mkF m 38 #[.val (.int p1), .val (.int (5 : Int32)), .val (.ref w_POPULATION), .val (.int (1 : Int32)), .val (.int (1 : Int32))] [(.int (1 : Int32))]))) (fun _ k => XS.iload X43.here hx rfl (hb hby at_36) rfl k) ?_
    refine own_step (S' := (T43.setTop (mkF m 39 #[.val (.int p1), .val (.int (5 : Int32)), .val (.ref w_POPULATION), .val (.int (1 : Int32)), .val (.int (1 : Int32))] [(.ref w_POPULATION), (.int (1 : Int32))]))) (fun _ k => XS.aloadN X43.here hx rfl (hb hby at_38) rfl rfl k) ?_
    obtain ⟨_, T44, L44, X44, ⟨rfl, N44q, e44⟩, st44⟩ := own_virt (argsL := []) (rest := [(.int (1 : Int32))]) X43 hx hZ hown (hw _ (List.mem_of_getElem? (i := 23) rfl)) (hw _ (List.mem_of_getElem? (i := 24) rfl)) (notFace_of_selects (args := #[]) (mvT hZ (hw _ (List.mem_of_getElem? (i := 26) rfl)))) (hw _ (List.mem_of_getElem? (i := 26) rfl)) (hw _ (List.mem_of_getElem? (i := 25) rfl)) (by decide) (hw _ (List.mem_of_getElem? (i := 27) rfl)) (hw _ (List.mem_of_getElem? (i := 6) rfl)) e43 Eo (hM := rmT l Z a0 hw [] w_POPULATION sk h0 n0 Z0 Ft) (g := (mkF m 39 #[.val (.int p1), .val (.int (5 : Int32)), .val (.ref w_POPULATION), .val (.int (1 : Int32)), .val (.int (1 : Int32))] [(.ref w_POPULATION), (.int (1 : Int32))])) (hg := rfl) (hsize := by rw [hml]; rfl) (hlen := lenOf pd_2 rfl) (hstack := rfl) (W := 1) (hW := by show 2 * 0 + _ ≤ _; exact Nat.le_of_eq rfl) (hd := (hb hby at_39)) (hf := by decide) (hl := by decide) (hc := by decide) (hs := by decide)
    have N44 := Fr.app N43 N44q
    refine own_step (S' := (T44.setTop (mkF m 42 #[.val (.int p1), .val (.int (5 : Int32)), .val (.ref w_POPULATION), .val (.int (1 : Int32)), .val (.int (1 : Int32))] [(.ref sk), (.int (1 : Int32))]))) (fun _ k => st44 _ k) ?_
    obtain ⟨_, T45, L45, X45, ⟨rfl, N45q, e45⟩, st45⟩ := own_virt (argsL := []) (rest := [(.int (1 : Int32))]) X44 hx hZ hown (hw _ (List.mem_of_getElem? (i := 30) rfl)) (hw _ (List.mem_of_getElem? (i := 16) rfl)) (notFace_of_selects (args := #[]) (mvT hZ (hw _ (List.mem_of_getElem? (i := 18) rfl)))) (hw _ (List.mem_of_getElem? (i := 18) rfl)) (hw _ (List.mem_of_getElem? (i := 17) rfl)) (by decide) (hw _ (List.mem_of_getElem? (i := 20) rfl)) (hw _ (List.mem_of_getElem? (i := 19) rfl)) e44 Es' (hM := rmE_0 l Z a0 hw [] sk b' n' h0 n0 Z0 Fb' Ab' hz') (g := (mkF m 42 #[.val (.int p1), .val (.int (5 : Int32)), .val (.ref w_POPULATION), .val (.int (1 : Int32)), .val (.int (1 : Int32))] [(.ref sk), (.int (1 : Int32))])) (hg := rfl) (hsize := by rw [hml]; rfl) (hlen := lenOf pd_0 rfl) (hstack := rfl) (W := 1) (hW := by show 2 * 0 + _ ≤ _; exact Nat.le_of_eq rfl) (hd := (hb hby at_42)) (hf := by decide) (hl := by decide) (hc := by decide) (hs := by decide)
    have N45 := Fr.app N44 N45q
    refine own_step (S' := (T45.setTop (mkF m 45 #[.val (.int p1), .val (.int (5 : Int32)), .val (.ref w_POPULATION), .val (.int (1 : Int32)), .val (.int (1 : Int32))] [(.int (0 : Int32)), (.int (1 : Int32))]))) (fun _ k => st45 _ k) ?_
    refine own_step (S' := (T45.setTop (mkF m 48 #[.val (.int p1), .val (.int (5 : Int32)), .val (.ref w_POPULATION), .val (.int (1 : Int32)), .val (.int (1 : Int32))] [(.int (1 : Int32))]))) (fun _ k => XS.ifNo X45.here hx rfl (hb hby at_45) rfl ((if0 _ _).trans (teq (by decide : (0 : Int32) = (0 : Int32))).2) k) ?_
    refine own_step (S' := (T45.setTop (mkF m 49 #[.val (.int p1), .val (.int (5 : Int32)), .val (.ref w_POPULATION), .val (.int (1 : Int32)), .val (.int (1 : Int32))] [(.int (1 : Int32)), (.int (1 : Int32))]))) (fun _ k => XS.iconst X45.here hx rfl (hb hby at_48) k) ?_
    refine own_step (S' := (T45.setTop (mkF m 53 #[.val (.int p1), .val (.int (5 : Int32)), .val (.ref w_POPULATION), .val (.int (1 : Int32)), .val (.int (1 : Int32))] [(.int (1 : Int32)), (.int (1 : Int32))]))) (fun _ k => XS.goto X45.here hx rfl (pc0 := 49) (pc' := 53) rfl (hb hby at_49) (by decide) (by decide) k) ?_
    refine own_step (S' := (T45.setTop (mkF m 56 #[.val (.int p1), .val (.int (5 : Int32)), .val (.ref w_POPULATION), .val (.int (1 : Int32)), .val (.int (1 : Int32))] []))) (fun _ k => XS.icmpNo X45.here hx rfl (hb hby at_53) rfl (teq (by decide : (1 : Int32) = (1 : Int32))).2 k) ?_
    refine own_step (S' := (T45.setTop (mkF m 57 #[.val (.int p1), .val (.int (5 : Int32)), .val (.ref w_POPULATION), .val (.int (1 : Int32)), .val (.int (1 : Int32))] [(.int (1 : Int32))]))) (fun _ k => XS.iconst X45.here hx rfl (hb hby at_56) k) ?_
    refine own_step (S' := (T45.setTop (mkF m 61 #[.val (.int p1), .val (.int (5 : Int32)), .val (.ref w_POPULATION), .val (.int (1 : Int32)), .val (.int (1 : Int32))] [(.int (1 : Int32))]))) (fun _ k => XS.goto X45.here hx rfl (pc0 := 57) (pc' := 61) rfl (hb hby at_57) (by decide) (by decide) k) ?_
    refine own_retN X45 hx hlk hret (by simp) (by decide) (hb hby at_61) (by decide) (by decide) ?_
    try rw [e45]
    exact ⟨rfl, N45⟩
  · rw [hr21]
    refine own_step (S' := (s₁.setTop (mkF m 8 #[.val (.int p1), .val (.int (6 : Int32)), .unset, .unset, .unset] []))) (fun _ k => XS.istoreN X0.here hx rfl (hb hby at_7) rfl (l' := #[.val (.int p1), .val (.int (6 : Int32)), .unset, .unset, .unset]) rfl k) ?_
    obtain ⟨sv, sk, Eo, Fv, ⟨b, n, Es, Fb, Ab, hq⟩, Ft, ⟨b', n', Es', Fb', Ab', hq'⟩⟩ := O_OUT
    have hz : ¬ n = (0 : Int32) := fun u => Bool.noConfusion (hq.mp u)
    have hz' : ¬ n' = (0 : Int32) := fun u => Bool.noConfusion (hq'.mp u)
    refine own_step (S' := (s₁.setTop (mkF m 9 #[.val (.int p1), .val (.int (6 : Int32)), .unset, .unset, .unset] [(.int (6 : Int32))]))) (fun _ k => XS.iloadN X0.here hx rfl (hb hby at_8) rfl k) ?_
    obtain ⟨_, T46, L46, X46, ⟨rfl, N46q, e46⟩, st46⟩ := own_stat (argsL := [(.int (6 : Int32))]) (rest := []) X0 hx hZ hown (hw _ (List.mem_of_getElem? (i := 1) rfl)) (hw _ (List.mem_of_getElem? (i := 2) rfl)) (by decide) (hw _ (List.mem_of_getElem? (i := 4) rfl)) (hw _ (List.mem_of_getElem? (i := 3) rfl)) e0 (hM := rmP_6 l Z a0 hw [] w_OUT h0 n0 Z0 S_OUT) (g := (mkF m 9 #[.val (.int p1), .val (.int (6 : Int32)), .unset, .unset, .unset] [(.int (6 : Int32))])) (hg := rfl) (hsize := by rw [hml]; rfl) (hlen := lenOf pd_1 rfl) (hstack := rfl) (W := 0) (hW := by show 2 * 0 + _ ≤ _; exact Nat.le_of_eq rfl) (hd := (hb hby at_9)) (hf := by decide) (hl := by decide) (hc := by decide) (hs := by decide)
    have N46 := Fr.app N0 N46q
    refine own_step (S' := (T46.setTop (mkF m 12 #[.val (.int p1), .val (.int (6 : Int32)), .unset, .unset, .unset] [(.ref w_OUT)]))) (fun _ k => st46 _ k) ?_
    refine own_step (S' := (T46.setTop (mkF m 13 #[.val (.int p1), .val (.int (6 : Int32)), .val (.ref w_OUT), .unset, .unset] []))) (fun _ k => XS.astoreN X46.here hx rfl (hb hby at_12) rfl rfl (l' := #[.val (.int p1), .val (.int (6 : Int32)), .val (.ref w_OUT), .unset, .unset]) rfl k) ?_
    refine own_step (S' := (T46.setTop (mkF m 14 #[.val (.int p1), .val (.int (6 : Int32)), .val (.ref w_OUT), .unset, .unset] [(.int (6 : Int32))]))) (fun _ k => XS.iloadN X46.here hx rfl (hb hby at_13) rfl k) ?_
    refine own_step (S' := (T46.setTop (mkF m 15 #[.val (.int p1), .val (.int (6 : Int32)), .val (.ref w_OUT), .unset, .unset] [(.int (3 : Int32)), (.int (6 : Int32))]))) (fun _ k => XS.iconst X46.here hx rfl (hb hby at_14) k) ?_
    refine own_step (S' := (T46.setTop (mkF m 18 #[.val (.int p1), .val (.int (6 : Int32)), .val (.ref w_OUT), .unset, .unset] []))) (fun _ k => XS.icmpNo X46.here hx rfl (hb hby at_15) rfl (feq (by decide : ¬ ((6 : Int32) = (3 : Int32)))).1 k) ?_
    refine own_step (S' := (T46.setTop (mkF m 19 #[.val (.int p1), .val (.int (6 : Int32)), .val (.ref w_OUT), .unset, .unset] [(.int (1 : Int32))]))) (fun _ k => XS.iconst X46.here hx rfl (hb hby at_18) k) ?_
    refine own_step (S' := (T46.setTop (mkF m 23 #[.val (.int p1), .val (.int (6 : Int32)), .val (.ref w_OUT), .unset, .unset] [(.int (1 : Int32))]))) (fun _ k => XS.goto X46.here hx rfl (pc0 := 19) (pc' := 23) rfl (hb hby at_19) (by decide) (by decide) k) ?_
    refine own_step (S' := (T46.setTop (mkF m 24 #[.val (.int p1), .val (.int (6 : Int32)), .val (.ref w_OUT), .val (.int (1 : Int32)), .unset] []))) (fun _ k => XS.istoreN X46.here hx rfl (hb hby at_23) rfl (l' := #[.val (.int p1), .val (.int (6 : Int32)), .val (.ref w_OUT), .val (.int (1 : Int32)), .unset]) rfl k) ?_
    refine own_step (S' := (T46.setTop (mkF m 25 #[.val (.int p1), .val (.int (6 : Int32)), .val (.ref w_OUT), .val (.int (1 : Int32)), .unset] [(.ref w_OUT)]))) (fun _ k => XS.aloadN X46.here hx rfl (hb hby at_24) rfl rfl k) ?_
    obtain ⟨_, T47, L47, X47, ⟨rfl, N47q, e47⟩, st47⟩ := own_virt (argsL := []) (rest := []) X46 hx hZ hown (hw _ (List.mem_of_getElem? (i := 8) rfl)) (hw _ (List.mem_of_getElem? (i := 9) rfl)) (notFace_of_selects (args := #[]) (mvT hZ (hw _ (List.mem_of_getElem? (i := 11) rfl)))) (hw _ (List.mem_of_getElem? (i := 11) rfl)) (hw _ (List.mem_of_getElem? (i := 10) rfl)) (by decide) (hw _ (List.mem_of_getElem? (i := 12) rfl)) (hw _ (List.mem_of_getElem? (i := 6) rfl)) e46 Eo (hM := rmV_0 l Z a0 hw [] w_OUT sv b n h0 n0 Z0 Fv Es Fb Ab hz) (g := (mkF m 25 #[.val (.int p1), .val (.int (6 : Int32)), .val (.ref w_OUT), .val (.int (1 : Int32)), .unset] [(.ref w_OUT)])) (hg := rfl) (hsize := by rw [hml]; rfl) (hlen := lenOf pd_0 rfl) (hstack := rfl) (W := 0) (hW := by show 2 * 0 + _ ≤ _; exact Nat.le_of_eq rfl) (hd := (hb hby at_25)) (hf := by decide) (hl := by decide) (hc := by decide) (hs := by decide)
    have N47 := Fr.app N46 N47q
    refine own_step (S' := (T47.setTop (mkF m 28 #[.val (.int p1), .val (.int (6 : Int32)), .val (.ref w_OUT), .val (.int (1 : Int32)), .unset] [(.int (1 : Int32))]))) (fun _ k => st47 _ k) ?_
    refine own_step (S' := (T47.setTop (mkF m 30 #[.val (.int p1), .val (.int (6 : Int32)), .val (.ref w_OUT), .val (.int (1 : Int32)), .val (.int (1 : Int32))] []))) (fun _ k => XS.istore X47.here hx rfl (hb hby at_28) rfl (l' := #[.val (.int p1), .val (.int (6 : Int32)), .val (.ref w_OUT), .val (.int (1 : Int32)), .val (.int (1 : Int32))]) rfl k) ?_
    refine own_step (S' := (T47.setTop (mkF m 32 #[.val (.int p1), .val (.int (6 : Int32)), .val (.ref w_OUT), .val (.int (1 : Int32)), .val (.int (1 : Int32))] [(.int (1 : Int32))]))) (fun _ k => XS.iload X47.here hx rfl (hb hby at_30) rfl k) ?_
    refine own_step (S' := (T47.setTop (mkF m 33 #[.val (.int p1), .val (.int (6 : Int32)), .val (.ref w_OUT), .val (.int (1 : Int32)), .val (.int (1 : Int32))] [(.int (1 : Int32)), (.int (1 : Int32))]))) (fun _ k => XS.iloadN X47.here hx rfl (hb hby at_32) rfl k) ?_
    refine own_step (S' := (T47.setTop (mkF m 36 #[.val (.int p1), .val (.int (6 : Int32)), .val (.ref w_OUT), .val (.int (1 : Int32)), .val (.int (1 : Int32))] []))) (fun _ k => XS.icmpNo X47.here hx rfl (hb hby at_33) rfl (teq (by decide : (1 : Int32) = (1 : Int32))).2 k) ?_
    refine own_step (S' := (T47.setTop (mkF m 38 #[.val (.int p1), .val (.int (6 : Int32)), .val (.ref w_OUT), .val (.int (1 : Int32)), .val (.int (1 : Int32))] [(.int (1 : Int32))]))) (fun _ k => XS.iload X47.here hx rfl (hb hby at_36) rfl k) ?_
    refine own_step (S' := (T47.setTop (mkF m 39 #[.val (.int p1), .val (.int (6 : Int32)), .val (.ref w_OUT), .val (.int (1 : Int32)), .val (.int (1 : Int32))] [(.ref w_OUT), (.int (1 : Int32))]))) (fun _ k => XS.aloadN X47.here hx rfl (hb hby at_38) rfl rfl k) ?_
    obtain ⟨_, T48, L48, X48, ⟨rfl, N48q, e48⟩, st48⟩ := own_virt (argsL := []) (rest := [(.int (1 : Int32))]) X47 hx hZ hown (hw _ (List.mem_of_getElem? (i := 23) rfl)) (hw _ (List.mem_of_getElem? (i := 24) rfl)) (notFace_of_selects (args := #[]) (mvT hZ (hw _ (List.mem_of_getElem? (i := 26) rfl)))) (hw _ (List.mem_of_getElem? (i := 26) rfl)) (hw _ (List.mem_of_getElem? (i := 25) rfl)) (by decide) (hw _ (List.mem_of_getElem? (i := 27) rfl)) (hw _ (List.mem_of_getElem? (i := 6) rfl)) e47 Eo (hM := rmT l Z a0 hw [] w_OUT sk h0 n0 Z0 Ft) (g := (mkF m 39 #[.val (.int p1), .val (.int (6 : Int32)), .val (.ref w_OUT), .val (.int (1 : Int32)), .val (.int (1 : Int32))] [(.ref w_OUT), (.int (1 : Int32))])) (hg := rfl) (hsize := by rw [hml]; rfl) (hlen := lenOf pd_2 rfl) (hstack := rfl) (W := 1) (hW := by show 2 * 0 + _ ≤ _; exact Nat.le_of_eq rfl) (hd := (hb hby at_39)) (hf := by decide) (hl := by decide) (hc := by decide) (hs := by decide)
    have N48 := Fr.app N47 N48q
    refine own_step (S' := (T48.setTop (mkF m 42 #[.val (.int p1), .val (.int (6 : Int32)), .val (.ref w_OUT), .val (.int (1 : Int32)), .val (.int (1 : Int32))] [(.ref sk), (.int (1 : Int32))]))) (fun _ k => st48 _ k) ?_
    obtain ⟨_, T49, L49, X49, ⟨rfl, N49q, e49⟩, st49⟩ := own_virt (argsL := []) (rest := [(.int (1 : Int32))]) X48 hx hZ hown (hw _ (List.mem_of_getElem? (i := 30) rfl)) (hw _ (List.mem_of_getElem? (i := 16) rfl)) (notFace_of_selects (args := #[]) (mvT hZ (hw _ (List.mem_of_getElem? (i := 18) rfl)))) (hw _ (List.mem_of_getElem? (i := 18) rfl)) (hw _ (List.mem_of_getElem? (i := 17) rfl)) (by decide) (hw _ (List.mem_of_getElem? (i := 20) rfl)) (hw _ (List.mem_of_getElem? (i := 19) rfl)) e48 Es' (hM := rmE_0 l Z a0 hw [] sk b' n' h0 n0 Z0 Fb' Ab' hz') (g := (mkF m 42 #[.val (.int p1), .val (.int (6 : Int32)), .val (.ref w_OUT), .val (.int (1 : Int32)), .val (.int (1 : Int32))] [(.ref sk), (.int (1 : Int32))])) (hg := rfl) (hsize := by rw [hml]; rfl) (hlen := lenOf pd_0 rfl) (hstack := rfl) (W := 1) (hW := by show 2 * 0 + _ ≤ _; exact Nat.le_of_eq rfl) (hd := (hb hby at_42)) (hf := by decide) (hl := by decide) (hc := by decide) (hs := by decide)
    have N49 := Fr.app N48 N49q
    refine own_step (S' := (T49.setTop (mkF m 45 #[.val (.int p1), .val (.int (6 : Int32)), .val (.ref w_OUT), .val (.int (1 : Int32)), .val (.int (1 : Int32))] [(.int (0 : Int32)), (.int (1 : Int32))]))) (fun _ k => st49 _ k) ?_
    refine own_step (S' := (T49.setTop (mkF m 48 #[.val (.int p1), .val (.int (6 : Int32)), .val (.ref w_OUT), .val (.int (1 : Int32)), .val (.int (1 : Int32))] [(.int (1 : Int32))]))) (fun _ k => XS.ifNo X49.here hx rfl (hb hby at_45) rfl ((if0 _ _).trans (teq (by decide : (0 : Int32) = (0 : Int32))).2) k) ?_
    refine own_step (S' := (T49.setTop (mkF m 49 #[.val (.int p1), .val (.int (6 : Int32)), .val (.ref w_OUT), .val (.int (1 : Int32)), .val (.int (1 : Int32))] [(.int (1 : Int32)), (.int (1 : Int32))]))) (fun _ k => XS.iconst X49.here hx rfl (hb hby at_48) k) ?_
    refine own_step (S' := (T49.setTop (mkF m 53 #[.val (.int p1), .val (.int (6 : Int32)), .val (.ref w_OUT), .val (.int (1 : Int32)), .val (.int (1 : Int32))] [(.int (1 : Int32)), (.int (1 : Int32))]))) (fun _ k => XS.goto X49.here hx rfl (pc0 := 49) (pc' := 53) rfl (hb hby at_49) (by decide) (by decide) k) ?_
    refine own_step (S' := (T49.setTop (mkF m 56 #[.val (.int p1), .val (.int (6 : Int32)), .val (.ref w_OUT), .val (.int (1 : Int32)), .val (.int (1 : Int32))] []))) (fun _ k => XS.icmpNo X49.here hx rfl (hb hby at_53) rfl (teq (by decide : (1 : Int32) = (1 : Int32))).2 k) ?_
    refine own_step (S' := (T49.setTop (mkF m 57 #[.val (.int p1), .val (.int (6 : Int32)), .val (.ref w_OUT), .val (.int (1 : Int32)), .val (.int (1 : Int32))] [(.int (1 : Int32))]))) (fun _ k => XS.iconst X49.here hx rfl (hb hby at_56) k) ?_
    refine own_step (S' := (T49.setTop (mkF m 61 #[.val (.int p1), .val (.int (6 : Int32)), .val (.ref w_OUT), .val (.int (1 : Int32)), .val (.int (1 : Int32))] [(.int (1 : Int32))]))) (fun _ k => XS.goto X49.here hx rfl (pc0 := 57) (pc' := 61) rfl (hb hby at_57) (by decide) (by decide) k) ?_
    refine own_retN X49 hx hlk hret (by simp) (by decide) (hb hby at_61) (by decide) (by decide) ?_
    try rw [e49]
    exact ⟨rfl, N49⟩
  · rw [hr21]
    refine own_step (S' := (s₁.setTop (mkF m 8 #[.val (.int p1), .val (.int (7 : Int32)), .unset, .unset, .unset] []))) (fun _ k => XS.istoreN X0.here hx rfl (hb hby at_7) rfl (l' := #[.val (.int p1), .val (.int (7 : Int32)), .unset, .unset, .unset]) rfl k) ?_
    obtain ⟨sv, sk, Eo, Fv, ⟨b, n, Es, Fb, Ab, hq⟩, Ft, ⟨b', n', Es', Fb', Ab', hq'⟩⟩ := O_PARTICIPANTS
    have hz : ¬ n = (0 : Int32) := fun u => Bool.noConfusion (hq.mp u)
    have hz' : ¬ n' = (0 : Int32) := fun u => Bool.noConfusion (hq'.mp u)
    refine own_step (S' := (s₁.setTop (mkF m 9 #[.val (.int p1), .val (.int (7 : Int32)), .unset, .unset, .unset] [(.int (7 : Int32))]))) (fun _ k => XS.iloadN X0.here hx rfl (hb hby at_8) rfl k) ?_
    obtain ⟨_, T50, L50, X50, ⟨rfl, N50q, e50⟩, st50⟩ := own_stat (argsL := [(.int (7 : Int32))]) (rest := []) X0 hx hZ hown (hw _ (List.mem_of_getElem? (i := 1) rfl)) (hw _ (List.mem_of_getElem? (i := 2) rfl)) (by decide) (hw _ (List.mem_of_getElem? (i := 4) rfl)) (hw _ (List.mem_of_getElem? (i := 3) rfl)) e0 (hM := rmP_7 l Z a0 hw [] w_PARTICIPANTS h0 n0 Z0 S_PARTICIPANTS) (g := (mkF m 9 #[.val (.int p1), .val (.int (7 : Int32)), .unset, .unset, .unset] [(.int (7 : Int32))])) (hg := rfl) (hsize := by rw [hml]; rfl) (hlen := lenOf pd_1 rfl) (hstack := rfl) (W := 0) (hW := by show 2 * 0 + _ ≤ _; exact Nat.le_of_eq rfl) (hd := (hb hby at_9)) (hf := by decide) (hl := by decide) (hc := by decide) (hs := by decide)
    have N50 := Fr.app N0 N50q
    refine own_step (S' := (T50.setTop (mkF m 12 #[.val (.int p1), .val (.int (7 : Int32)), .unset, .unset, .unset] [(.ref w_PARTICIPANTS)]))) (fun _ k => st50 _ k) ?_
    refine own_step (S' := (T50.setTop (mkF m 13 #[.val (.int p1), .val (.int (7 : Int32)), .val (.ref w_PARTICIPANTS), .unset, .unset] []))) (fun _ k => XS.astoreN X50.here hx rfl (hb hby at_12) rfl rfl (l' := #[.val (.int p1), .val (.int (7 : Int32)), .val (.ref w_PARTICIPANTS), .unset, .unset]) rfl k) ?_
    refine own_step (S' := (T50.setTop (mkF m 14 #[.val (.int p1), .val (.int (7 : Int32)), .val (.ref w_PARTICIPANTS), .unset, .unset] [(.int (7 : Int32))]))) (fun _ k => XS.iloadN X50.here hx rfl (hb hby at_13) rfl k) ?_
    refine own_step (S' := (T50.setTop (mkF m 15 #[.val (.int p1), .val (.int (7 : Int32)), .val (.ref w_PARTICIPANTS), .unset, .unset] [(.int (3 : Int32)), (.int (7 : Int32))]))) (fun _ k => XS.iconst X50.here hx rfl (hb hby at_14) k) ?_
    refine own_step (S' := (T50.setTop (mkF m 18 #[.val (.int p1), .val (.int (7 : Int32)), .val (.ref w_PARTICIPANTS), .unset, .unset] []))) (fun _ k => XS.icmpNo X50.here hx rfl (hb hby at_15) rfl (feq (by decide : ¬ ((7 : Int32) = (3 : Int32)))).1 k) ?_
    refine own_step (S' := (T50.setTop (mkF m 19 #[.val (.int p1), .val (.int (7 : Int32)), .val (.ref w_PARTICIPANTS), .unset, .unset] [(.int (1 : Int32))]))) (fun _ k => XS.iconst X50.here hx rfl (hb hby at_18) k) ?_
    refine own_step (S' := (T50.setTop (mkF m 23 #[.val (.int p1), .val (.int (7 : Int32)), .val (.ref w_PARTICIPANTS), .unset, .unset] [(.int (1 : Int32))]))) (fun _ k => XS.goto X50.here hx rfl (pc0 := 19) (pc' := 23) rfl (hb hby at_19) (by decide) (by decide) k) ?_
    refine own_step (S' := (T50.setTop (mkF m 24 #[.val (.int p1), .val (.int (7 : Int32)), .val (.ref w_PARTICIPANTS), .val (.int (1 : Int32)), .unset] []))) (fun _ k => XS.istoreN X50.here hx rfl (hb hby at_23) rfl (l' := #[.val (.int p1), .val (.int (7 : Int32)), .val (.ref w_PARTICIPANTS), .val (.int (1 : Int32)), .unset]) rfl k) ?_
    refine own_step (S' := (T50.setTop (mkF m 25 #[.val (.int p1), .val (.int (7 : Int32)), .val (.ref w_PARTICIPANTS), .val (.int (1 : Int32)), .unset] [(.ref w_PARTICIPANTS)]))) (fun _ k => XS.aloadN X50.here hx rfl (hb hby at_24) rfl rfl k) ?_
    obtain ⟨_, T51, L51, X51, ⟨rfl, N51q, e51⟩, st51⟩ := own_virt (argsL := []) (rest := []) X50 hx hZ hown (hw _ (List.mem_of_getElem? (i := 8) rfl)) (hw _ (List.mem_of_getElem? (i := 9) rfl)) (notFace_of_selects (args := #[]) (mvT hZ (hw _ (List.mem_of_getElem? (i := 11) rfl)))) (hw _ (List.mem_of_getElem? (i := 11) rfl)) (hw _ (List.mem_of_getElem? (i := 10) rfl)) (by decide) (hw _ (List.mem_of_getElem? (i := 12) rfl)) (hw _ (List.mem_of_getElem? (i := 6) rfl)) e50 Eo (hM := rmV_0 l Z a0 hw [] w_PARTICIPANTS sv b n h0 n0 Z0 Fv Es Fb Ab hz) (g := (mkF m 25 #[.val (.int p1), .val (.int (7 : Int32)), .val (.ref w_PARTICIPANTS), .val (.int (1 : Int32)), .unset] [(.ref w_PARTICIPANTS)])) (hg := rfl) (hsize := by rw [hml]; rfl) (hlen := lenOf pd_0 rfl) (hstack := rfl) (W := 0) (hW := by show 2 * 0 + _ ≤ _; exact Nat.le_of_eq rfl) (hd := (hb hby at_25)) (hf := by decide) (hl := by decide) (hc := by decide) (hs := by decide)
    have N51 := Fr.app N50 N51q
    refine own_step (S' := (T51.setTop (mkF m 28 #[.val (.int p1), .val (.int (7 : Int32)), .val (.ref w_PARTICIPANTS), .val (.int (1 : Int32)), .unset] [(.int (1 : Int32))]))) (fun _ k => st51 _ k) ?_
    refine own_step (S' := (T51.setTop (mkF m 30 #[.val (.int p1), .val (.int (7 : Int32)), .val (.ref w_PARTICIPANTS), .val (.int (1 : Int32)), .val (.int (1 : Int32))] []))) (fun _ k => XS.istore X51.here hx rfl (hb hby at_28) rfl (l' := #[.val (.int p1), .val (.int (7 : Int32)), .val (.ref w_PARTICIPANTS), .val (.int (1 : Int32)), .val (.int (1 : Int32))]) rfl k) ?_
    refine own_step (S' := (T51.setTop (mkF m 32 #[.val (.int p1), .val (.int (7 : Int32)), .val (.ref w_PARTICIPANTS), .val (.int (1 : Int32)), .val (.int (1 : Int32))] [(.int (1 : Int32))]))) (fun _ k => XS.iload X51.here hx rfl (hb hby at_30) rfl k) ?_
    refine own_step (S' := (T51.setTop (mkF m 33 #[.val (.int p1), .val (.int (7 : Int32)), .val (.ref w_PARTICIPANTS), .val (.int (1 : Int32)), .val (.int (1 : Int32))] [(.int (1 : Int32)), (.int (1 : Int32))]))) (fun _ k => XS.iloadN X51.here hx rfl (hb hby at_32) rfl k) ?_
    refine own_step (S' := (T51.setTop (mkF m 36 #[.val (.int p1), .val (.int (7 : Int32)), .val (.ref w_PARTICIPANTS), .val (.int (1 : Int32)), .val (.int (1 : Int32))] []))) (fun _ k => XS.icmpNo X51.here hx rfl (hb hby at_33) rfl (teq (by decide : (1 : Int32) = (1 : Int32))).2 k) ?_
    refine own_step (S' := (T51.setTop (mkF m 38 #[.val (.int p1), .val (.int (7 : Int32)), .val (.ref w_PARTICIPANTS), .val (.int (1 : Int32)), .val (.int (1 : Int32))] [(.int (1 : Int32))]))) (fun _ k => XS.iload X51.here hx rfl (hb hby at_36) rfl k) ?_
    refine own_step (S' := (T51.setTop (mkF m 39 #[.val (.int p1), .val (.int (7 : Int32)), .val (.ref w_PARTICIPANTS), .val (.int (1 : Int32)), .val (.int (1 : Int32))] [(.ref w_PARTICIPANTS), (.int (1 : Int32))]))) (fun _ k => XS.aloadN X51.here hx rfl (hb hby at_38) rfl rfl k) ?_
    obtain ⟨_, T52, L52, X52, ⟨rfl, N52q, e52⟩, st52⟩ := own_virt (argsL := []) (rest := [(.int (1 : Int32))]) X51 hx hZ hown (hw _ (List.mem_of_getElem? (i := 23) rfl)) (hw _ (List.mem_of_getElem? (i := 24) rfl)) (notFace_of_selects (args := #[]) (mvT hZ (hw _ (List.mem_of_getElem? (i := 26) rfl)))) (hw _ (List.mem_of_getElem? (i := 26) rfl)) (hw _ (List.mem_of_getElem? (i := 25) rfl)) (by decide) (hw _ (List.mem_of_getElem? (i := 27) rfl)) (hw _ (List.mem_of_getElem? (i := 6) rfl)) e51 Eo (hM := rmT l Z a0 hw [] w_PARTICIPANTS sk h0 n0 Z0 Ft) (g := (mkF m 39 #[.val (.int p1), .val (.int (7 : Int32)), .val (.ref w_PARTICIPANTS), .val (.int (1 : Int32)), .val (.int (1 : Int32))] [(.ref w_PARTICIPANTS), (.int (1 : Int32))])) (hg := rfl) (hsize := by rw [hml]; rfl) (hlen := lenOf pd_2 rfl) (hstack := rfl) (W := 1) (hW := by show 2 * 0 + _ ≤ _; exact Nat.le_of_eq rfl) (hd := (hb hby at_39)) (hf := by decide) (hl := by decide) (hc := by decide) (hs := by decide)
    have N52 := Fr.app N51 N52q
    refine own_step (S' := (T52.setTop (mkF m 42 #[.val (.int p1), .val (.int (7 : Int32)), .val (.ref w_PARTICIPANTS), .val (.int (1 : Int32)), .val (.int (1 : Int32))] [(.ref sk), (.int (1 : Int32))]))) (fun _ k => st52 _ k) ?_
    obtain ⟨_, T53, L53, X53, ⟨rfl, N53q, e53⟩, st53⟩ := own_virt (argsL := []) (rest := [(.int (1 : Int32))]) X52 hx hZ hown (hw _ (List.mem_of_getElem? (i := 30) rfl)) (hw _ (List.mem_of_getElem? (i := 16) rfl)) (notFace_of_selects (args := #[]) (mvT hZ (hw _ (List.mem_of_getElem? (i := 18) rfl)))) (hw _ (List.mem_of_getElem? (i := 18) rfl)) (hw _ (List.mem_of_getElem? (i := 17) rfl)) (by decide) (hw _ (List.mem_of_getElem? (i := 20) rfl)) (hw _ (List.mem_of_getElem? (i := 19) rfl)) e52 Es' (hM := rmE_0 l Z a0 hw [] sk b' n' h0 n0 Z0 Fb' Ab' hz') (g := (mkF m 42 #[.val (.int p1), .val (.int (7 : Int32)), .val (.ref w_PARTICIPANTS), .val (.int (1 : Int32)), .val (.int (1 : Int32))] [(.ref sk), (.int (1 : Int32))])) (hg := rfl) (hsize := by rw [hml]; rfl) (hlen := lenOf pd_0 rfl) (hstack := rfl) (W := 1) (hW := by show 2 * 0 + _ ≤ _; exact Nat.le_of_eq rfl) (hd := (hb hby at_42)) (hf := by decide) (hl := by decide) (hc := by decide) (hs := by decide)
    have N53 := Fr.app N52 N53q
    refine own_step (S' := (T53.setTop (mkF m 45 #[.val (.int p1), .val (.int (7 : Int32)), .val (.ref w_PARTICIPANTS), .val (.int (1 : Int32)), .val (.int (1 : Int32))] [(.int (0 : Int32)), (.int (1 : Int32))]))) (fun _ k => st53 _ k) ?_
    refine own_step (S' := (T53.setTop (mkF m 48 #[.val (.int p1), .val (.int (7 : Int32)), .val (.ref w_PARTICIPANTS), .val (.int (1 : Int32)), .val (.int (1 : Int32))] [(.int (1 : Int32))]))) (fun _ k => XS.ifNo X53.here hx rfl (hb hby at_45) rfl ((if0 _ _).trans (teq (by decide : (0 : Int32) = (0 : Int32))).2) k) ?_
    refine own_step (S' := (T53.setTop (mkF m 49 #[.val (.int p1), .val (.int (7 : Int32)), .val (.ref w_PARTICIPANTS), .val (.int (1 : Int32)), .val (.int (1 : Int32))] [(.int (1 : Int32)), (.int (1 : Int32))]))) (fun _ k => XS.iconst X53.here hx rfl (hb hby at_48) k) ?_
    refine own_step (S' := (T53.setTop (mkF m 53 #[.val (.int p1), .val (.int (7 : Int32)), .val (.ref w_PARTICIPANTS), .val (.int (1 : Int32)), .val (.int (1 : Int32))] [(.int (1 : Int32)), (.int (1 : Int32))]))) (fun _ k => XS.goto X53.here hx rfl (pc0 := 49) (pc' := 53) rfl (hb hby at_49) (by decide) (by decide) k) ?_
    refine own_step (S' := (T53.setTop (mkF m 56 #[.val (.int p1), .val (.int (7 : Int32)), .val (.ref w_PARTICIPANTS), .val (.int (1 : Int32)), .val (.int (1 : Int32))] []))) (fun _ k => XS.icmpNo X53.here hx rfl (hb hby at_53) rfl (teq (by decide : (1 : Int32) = (1 : Int32))).2 k) ?_
    refine own_step (S' := (T53.setTop (mkF m 57 #[.val (.int p1), .val (.int (7 : Int32)), .val (.ref w_PARTICIPANTS), .val (.int (1 : Int32)), .val (.int (1 : Int32))] [(.int (1 : Int32))]))) (fun _ k => XS.iconst X53.here hx rfl (hb hby at_56) k) ?_
    refine own_step (S' := (T53.setTop (mkF m 61 #[.val (.int p1), .val (.int (7 : Int32)), .val (.ref w_PARTICIPANTS), .val (.int (1 : Int32)), .val (.int (1 : Int32))] [(.int (1 : Int32))]))) (fun _ k => XS.goto X53.here hx rfl (pc0 := 57) (pc' := 61) rfl (hb hby at_57) (by decide) (by decide) k) ?_
    refine own_retN X53 hx hlk hret (by simp) (by decide) (hb hby at_61) (by decide) (by decide) ?_
    try rw [e53]
    exact ⟨rfl, N53⟩
  · rw [hr21]
    refine own_step (S' := (s₁.setTop (mkF m 8 #[.val (.int p1), .val (.int (8 : Int32)), .unset, .unset, .unset] []))) (fun _ k => XS.istoreN X0.here hx rfl (hb hby at_7) rfl (l' := #[.val (.int p1), .val (.int (8 : Int32)), .unset, .unset, .unset]) rfl k) ?_
    obtain ⟨sv, sk, Eo, Fv, ⟨b, n, Es, Fb, Ab, hq⟩, Ft, ⟨b', n', Es', Fb', Ab', hq'⟩⟩ := O_SEED
    have hz : ¬ n = (0 : Int32) := fun u => Bool.noConfusion (hq.mp u)
    have hz' : ¬ n' = (0 : Int32) := fun u => Bool.noConfusion (hq'.mp u)
    refine own_step (S' := (s₁.setTop (mkF m 9 #[.val (.int p1), .val (.int (8 : Int32)), .unset, .unset, .unset] [(.int (8 : Int32))]))) (fun _ k => XS.iloadN X0.here hx rfl (hb hby at_8) rfl k) ?_
    obtain ⟨_, T54, L54, X54, ⟨rfl, N54q, e54⟩, st54⟩ := own_stat (argsL := [(.int (8 : Int32))]) (rest := []) X0 hx hZ hown (hw _ (List.mem_of_getElem? (i := 1) rfl)) (hw _ (List.mem_of_getElem? (i := 2) rfl)) (by decide) (hw _ (List.mem_of_getElem? (i := 4) rfl)) (hw _ (List.mem_of_getElem? (i := 3) rfl)) e0 (hM := rmP_8 l Z a0 hw [] w_SEED h0 n0 Z0 S_SEED) (g := (mkF m 9 #[.val (.int p1), .val (.int (8 : Int32)), .unset, .unset, .unset] [(.int (8 : Int32))])) (hg := rfl) (hsize := by rw [hml]; rfl) (hlen := lenOf pd_1 rfl) (hstack := rfl) (W := 0) (hW := by show 2 * 0 + _ ≤ _; exact Nat.le_of_eq rfl) (hd := (hb hby at_9)) (hf := by decide) (hl := by decide) (hc := by decide) (hs := by decide)
    have N54 := Fr.app N0 N54q
    refine own_step (S' := (T54.setTop (mkF m 12 #[.val (.int p1), .val (.int (8 : Int32)), .unset, .unset, .unset] [(.ref w_SEED)]))) (fun _ k => st54 _ k) ?_
    refine own_step (S' := (T54.setTop (mkF m 13 #[.val (.int p1), .val (.int (8 : Int32)), .val (.ref w_SEED), .unset, .unset] []))) (fun _ k => XS.astoreN X54.here hx rfl (hb hby at_12) rfl rfl (l' := #[.val (.int p1), .val (.int (8 : Int32)), .val (.ref w_SEED), .unset, .unset]) rfl k) ?_
    refine own_step (S' := (T54.setTop (mkF m 14 #[.val (.int p1), .val (.int (8 : Int32)), .val (.ref w_SEED), .unset, .unset] [(.int (8 : Int32))]))) (fun _ k => XS.iloadN X54.here hx rfl (hb hby at_13) rfl k) ?_
    refine own_step (S' := (T54.setTop (mkF m 15 #[.val (.int p1), .val (.int (8 : Int32)), .val (.ref w_SEED), .unset, .unset] [(.int (3 : Int32)), (.int (8 : Int32))]))) (fun _ k => XS.iconst X54.here hx rfl (hb hby at_14) k) ?_
    refine own_step (S' := (T54.setTop (mkF m 18 #[.val (.int p1), .val (.int (8 : Int32)), .val (.ref w_SEED), .unset, .unset] []))) (fun _ k => XS.icmpNo X54.here hx rfl (hb hby at_15) rfl (feq (by decide : ¬ ((8 : Int32) = (3 : Int32)))).1 k) ?_
    refine own_step (S' := (T54.setTop (mkF m 19 #[.val (.int p1), .val (.int (8 : Int32)), .val (.ref w_SEED), .unset, .unset] [(.int (1 : Int32))]))) (fun _ k => XS.iconst X54.here hx rfl (hb hby at_18) k) ?_
    refine own_step (S' := (T54.setTop (mkF m 23 #[.val (.int p1), .val (.int (8 : Int32)), .val (.ref w_SEED), .unset, .unset] [(.int (1 : Int32))]))) (fun _ k => XS.goto X54.here hx rfl (pc0 := 19) (pc' := 23) rfl (hb hby at_19) (by decide) (by decide) k) ?_
    refine own_step (S' := (T54.setTop (mkF m 24 #[.val (.int p1), .val (.int (8 : Int32)), .val (.ref w_SEED), .val (.int (1 : Int32)), .unset] []))) (fun _ k => XS.istoreN X54.here hx rfl (hb hby at_23) rfl (l' := #[.val (.int p1), .val (.int (8 : Int32)), .val (.ref w_SEED), .val (.int (1 : Int32)), .unset]) rfl k) ?_
    refine own_step (S' := (T54.setTop (mkF m 25 #[.val (.int p1), .val (.int (8 : Int32)), .val (.ref w_SEED), .val (.int (1 : Int32)), .unset] [(.ref w_SEED)]))) (fun _ k => XS.aloadN X54.here hx rfl (hb hby at_24) rfl rfl k) ?_
    obtain ⟨_, T55, L55, X55, ⟨rfl, N55q, e55⟩, st55⟩ := own_virt (argsL := []) (rest := []) X54 hx hZ hown (hw _ (List.mem_of_getElem? (i := 8) rfl)) (hw _ (List.mem_of_getElem? (i := 9) rfl)) (notFace_of_selects (args := #[]) (mvT hZ (hw _ (List.mem_of_getElem? (i := 11) rfl)))) (hw _ (List.mem_of_getElem? (i := 11) rfl)) (hw _ (List.mem_of_getElem? (i := 10) rfl)) (by decide) (hw _ (List.mem_of_getElem? (i := 12) rfl)) (hw _ (List.mem_of_getElem? (i := 6) rfl)) e54 Eo (hM := rmV_0 l Z a0 hw [] w_SEED sv b n h0 n0 Z0 Fv Es Fb Ab hz) (g := (mkF m 25 #[.val (.int p1), .val (.int (8 : Int32)), .val (.ref w_SEED), .val (.int (1 : Int32)), .unset] [(.ref w_SEED)])) (hg := rfl) (hsize := by rw [hml]; rfl) (hlen := lenOf pd_0 rfl) (hstack := rfl) (W := 0) (hW := by show 2 * 0 + _ ≤ _; exact Nat.le_of_eq rfl) (hd := (hb hby at_25)) (hf := by decide) (hl := by decide) (hc := by decide) (hs := by decide)
    have N55 := Fr.app N54 N55q
    refine own_step (S' := (T55.setTop (mkF m 28 #[.val (.int p1), .val (.int (8 : Int32)), .val (.ref w_SEED), .val (.int (1 : Int32)), .unset] [(.int (1 : Int32))]))) (fun _ k => st55 _ k) ?_
    refine own_step (S' := (T55.setTop (mkF m 30 #[.val (.int p1), .val (.int (8 : Int32)), .val (.ref w_SEED), .val (.int (1 : Int32)), .val (.int (1 : Int32))] []))) (fun _ k => XS.istore X55.here hx rfl (hb hby at_28) rfl (l' := #[.val (.int p1), .val (.int (8 : Int32)), .val (.ref w_SEED), .val (.int (1 : Int32)), .val (.int (1 : Int32))]) rfl k) ?_
    refine own_step (S' := (T55.setTop (mkF m 32 #[.val (.int p1), .val (.int (8 : Int32)), .val (.ref w_SEED), .val (.int (1 : Int32)), .val (.int (1 : Int32))] [(.int (1 : Int32))]))) (fun _ k => XS.iload X55.here hx rfl (hb hby at_30) rfl k) ?_
    refine own_step (S' := (T55.setTop (mkF m 33 #[.val (.int p1), .val (.int (8 : Int32)), .val (.ref w_SEED), .val (.int (1 : Int32)), .val (.int (1 : Int32))] [(.int (1 : Int32)), (.int (1 : Int32))]))) (fun _ k => XS.iloadN X55.here hx rfl (hb hby at_32) rfl k) ?_
    refine own_step (S' := (T55.setTop (mkF m 36 #[.val (.int p1), .val (.int (8 : Int32)), .val (.ref w_SEED), .val (.int (1 : Int32)), .val (.int (1 : Int32))] []))) (fun _ k => XS.icmpNo X55.here hx rfl (hb hby at_33) rfl (teq (by decide : (1 : Int32) = (1 : Int32))).2 k) ?_
    refine own_step (S' := (T55.setTop (mkF m 38 #[.val (.int p1), .val (.int (8 : Int32)), .val (.ref w_SEED), .val (.int (1 : Int32)), .val (.int (1 : Int32))] [(.int (1 : Int32))]))) (fun _ k => XS.iload X55.here hx rfl (hb hby at_36) rfl k) ?_
    refine own_step (S' := (T55.setTop (mkF m 39 #[.val (.int p1), .val (.int (8 : Int32)), .val (.ref w_SEED), .val (.int (1 : Int32)), .val (.int (1 : Int32))] [(.ref w_SEED), (.int (1 : Int32))]))) (fun _ k => XS.aloadN X55.here hx rfl (hb hby at_38) rfl rfl k) ?_
    obtain ⟨_, T56, L56, X56, ⟨rfl, N56q, e56⟩, st56⟩ := own_virt (argsL := []) (rest := [(.int (1 : Int32))]) X55 hx hZ hown (hw _ (List.mem_of_getElem? (i := 23) rfl)) (hw _ (List.mem_of_getElem? (i := 24) rfl)) (notFace_of_selects (args := #[]) (mvT hZ (hw _ (List.mem_of_getElem? (i := 26) rfl)))) (hw _ (List.mem_of_getElem? (i := 26) rfl)) (hw _ (List.mem_of_getElem? (i := 25) rfl)) (by decide) (hw _ (List.mem_of_getElem? (i := 27) rfl)) (hw _ (List.mem_of_getElem? (i := 6) rfl)) e55 Eo (hM := rmT l Z a0 hw [] w_SEED sk h0 n0 Z0 Ft) (g := (mkF m 39 #[.val (.int p1), .val (.int (8 : Int32)), .val (.ref w_SEED), .val (.int (1 : Int32)), .val (.int (1 : Int32))] [(.ref w_SEED), (.int (1 : Int32))])) (hg := rfl) (hsize := by rw [hml]; rfl) (hlen := lenOf pd_2 rfl) (hstack := rfl) (W := 1) (hW := by show 2 * 0 + _ ≤ _; exact Nat.le_of_eq rfl) (hd := (hb hby at_39)) (hf := by decide) (hl := by decide) (hc := by decide) (hs := by decide)
    have N56 := Fr.app N55 N56q
    refine own_step (S' := (T56.setTop (mkF m 42 #[.val (.int p1), .val (.int (8 : Int32)), .val (.ref w_SEED), .val (.int (1 : Int32)), .val (.int (1 : Int32))] [(.ref sk), (.int (1 : Int32))]))) (fun _ k => st56 _ k) ?_
    obtain ⟨_, T57, L57, X57, ⟨rfl, N57q, e57⟩, st57⟩ := own_virt (argsL := []) (rest := [(.int (1 : Int32))]) X56 hx hZ hown (hw _ (List.mem_of_getElem? (i := 30) rfl)) (hw _ (List.mem_of_getElem? (i := 16) rfl)) (notFace_of_selects (args := #[]) (mvT hZ (hw _ (List.mem_of_getElem? (i := 18) rfl)))) (hw _ (List.mem_of_getElem? (i := 18) rfl)) (hw _ (List.mem_of_getElem? (i := 17) rfl)) (by decide) (hw _ (List.mem_of_getElem? (i := 20) rfl)) (hw _ (List.mem_of_getElem? (i := 19) rfl)) e56 Es' (hM := rmE_0 l Z a0 hw [] sk b' n' h0 n0 Z0 Fb' Ab' hz') (g := (mkF m 42 #[.val (.int p1), .val (.int (8 : Int32)), .val (.ref w_SEED), .val (.int (1 : Int32)), .val (.int (1 : Int32))] [(.ref sk), (.int (1 : Int32))])) (hg := rfl) (hsize := by rw [hml]; rfl) (hlen := lenOf pd_0 rfl) (hstack := rfl) (W := 1) (hW := by show 2 * 0 + _ ≤ _; exact Nat.le_of_eq rfl) (hd := (hb hby at_42)) (hf := by decide) (hl := by decide) (hc := by decide) (hs := by decide)
    have N57 := Fr.app N56 N57q
    refine own_step (S' := (T57.setTop (mkF m 45 #[.val (.int p1), .val (.int (8 : Int32)), .val (.ref w_SEED), .val (.int (1 : Int32)), .val (.int (1 : Int32))] [(.int (0 : Int32)), (.int (1 : Int32))]))) (fun _ k => st57 _ k) ?_
    refine own_step (S' := (T57.setTop (mkF m 48 #[.val (.int p1), .val (.int (8 : Int32)), .val (.ref w_SEED), .val (.int (1 : Int32)), .val (.int (1 : Int32))] [(.int (1 : Int32))]))) (fun _ k => XS.ifNo X57.here hx rfl (hb hby at_45) rfl ((if0 _ _).trans (teq (by decide : (0 : Int32) = (0 : Int32))).2) k) ?_
    refine own_step (S' := (T57.setTop (mkF m 49 #[.val (.int p1), .val (.int (8 : Int32)), .val (.ref w_SEED), .val (.int (1 : Int32)), .val (.int (1 : Int32))] [(.int (1 : Int32)), (.int (1 : Int32))]))) (fun _ k => XS.iconst X57.here hx rfl (hb hby at_48) k) ?_
    refine own_step (S' := (T57.setTop (mkF m 53 #[.val (.int p1), .val (.int (8 : Int32)), .val (.ref w_SEED), .val (.int (1 : Int32)), .val (.int (1 : Int32))] [(.int (1 : Int32)), (.int (1 : Int32))]))) (fun _ k => XS.goto X57.here hx rfl (pc0 := 49) (pc' := 53) rfl (hb hby at_49) (by decide) (by decide) k) ?_
    refine own_step (S' := (T57.setTop (mkF m 56 #[.val (.int p1), .val (.int (8 : Int32)), .val (.ref w_SEED), .val (.int (1 : Int32)), .val (.int (1 : Int32))] []))) (fun _ k => XS.icmpNo X57.here hx rfl (hb hby at_53) rfl (teq (by decide : (1 : Int32) = (1 : Int32))).2 k) ?_
    refine own_step (S' := (T57.setTop (mkF m 57 #[.val (.int p1), .val (.int (8 : Int32)), .val (.ref w_SEED), .val (.int (1 : Int32)), .val (.int (1 : Int32))] [(.int (1 : Int32))]))) (fun _ k => XS.iconst X57.here hx rfl (hb hby at_56) k) ?_
    refine own_step (S' := (T57.setTop (mkF m 61 #[.val (.int p1), .val (.int (8 : Int32)), .val (.ref w_SEED), .val (.int (1 : Int32)), .val (.int (1 : Int32))] [(.int (1 : Int32))]))) (fun _ k => XS.goto X57.here hx rfl (pc0 := 57) (pc' := 61) rfl (hb hby at_57) (by decide) (by decide) k) ?_
    refine own_retN X57 hx hlk hret (by simp) (by decide) (hb hby at_61) (by decide) (by decide) ?_
    try rw [e57]
    exact ⟨rfl, N57⟩
  · rw [hr21]
    refine own_step (S' := (s₁.setTop (mkF m 8 #[.val (.int p1), .val (.int (9 : Int32)), .unset, .unset, .unset] []))) (fun _ k => XS.istoreN X0.here hx rfl (hb hby at_7) rfl (l' := #[.val (.int p1), .val (.int (9 : Int32)), .unset, .unset, .unset]) rfl k) ?_
    obtain ⟨sv, sk, Eo, Fv, ⟨b, n, Es, Fb, Ab, hq⟩, Ft, ⟨b', n', Es', Fb', Ab', hq'⟩⟩ := O_FUND_PRICES
    have hz : ¬ n = (0 : Int32) := fun u => Bool.noConfusion (hq.mp u)
    have hz' : ¬ n' = (0 : Int32) := fun u => Bool.noConfusion (hq'.mp u)
    refine own_step (S' := (s₁.setTop (mkF m 9 #[.val (.int p1), .val (.int (9 : Int32)), .unset, .unset, .unset] [(.int (9 : Int32))]))) (fun _ k => XS.iloadN X0.here hx rfl (hb hby at_8) rfl k) ?_
    obtain ⟨_, T58, L58, X58, ⟨rfl, N58q, e58⟩, st58⟩ := own_stat (argsL := [(.int (9 : Int32))]) (rest := []) X0 hx hZ hown (hw _ (List.mem_of_getElem? (i := 1) rfl)) (hw _ (List.mem_of_getElem? (i := 2) rfl)) (by decide) (hw _ (List.mem_of_getElem? (i := 4) rfl)) (hw _ (List.mem_of_getElem? (i := 3) rfl)) e0 (hM := rmP_9 l Z a0 hw [] w_FUND_PRICES h0 n0 Z0 S_FUND_PRICES) (g := (mkF m 9 #[.val (.int p1), .val (.int (9 : Int32)), .unset, .unset, .unset] [(.int (9 : Int32))])) (hg := rfl) (hsize := by rw [hml]; rfl) (hlen := lenOf pd_1 rfl) (hstack := rfl) (W := 0) (hW := by show 2 * 0 + _ ≤ _; exact Nat.le_of_eq rfl) (hd := (hb hby at_9)) (hf := by decide) (hl := by decide) (hc := by decide) (hs := by decide)
    have N58 := Fr.app N0 N58q
    refine own_step (S' := (T58.setTop (mkF m 12 #[.val (.int p1), .val (.int (9 : Int32)), .unset, .unset, .unset] [(.ref w_FUND_PRICES)]))) (fun _ k => st58 _ k) ?_
    refine own_step (S' := (T58.setTop (mkF m 13 #[.val (.int p1), .val (.int (9 : Int32)), .val (.ref w_FUND_PRICES), .unset, .unset] []))) (fun _ k => XS.astoreN X58.here hx rfl (hb hby at_12) rfl rfl (l' := #[.val (.int p1), .val (.int (9 : Int32)), .val (.ref w_FUND_PRICES), .unset, .unset]) rfl k) ?_
    refine own_step (S' := (T58.setTop (mkF m 14 #[.val (.int p1), .val (.int (9 : Int32)), .val (.ref w_FUND_PRICES), .unset, .unset] [(.int (9 : Int32))]))) (fun _ k => XS.iloadN X58.here hx rfl (hb hby at_13) rfl k) ?_
    refine own_step (S' := (T58.setTop (mkF m 15 #[.val (.int p1), .val (.int (9 : Int32)), .val (.ref w_FUND_PRICES), .unset, .unset] [(.int (3 : Int32)), (.int (9 : Int32))]))) (fun _ k => XS.iconst X58.here hx rfl (hb hby at_14) k) ?_
    refine own_step (S' := (T58.setTop (mkF m 18 #[.val (.int p1), .val (.int (9 : Int32)), .val (.ref w_FUND_PRICES), .unset, .unset] []))) (fun _ k => XS.icmpNo X58.here hx rfl (hb hby at_15) rfl (feq (by decide : ¬ ((9 : Int32) = (3 : Int32)))).1 k) ?_
    refine own_step (S' := (T58.setTop (mkF m 19 #[.val (.int p1), .val (.int (9 : Int32)), .val (.ref w_FUND_PRICES), .unset, .unset] [(.int (1 : Int32))]))) (fun _ k => XS.iconst X58.here hx rfl (hb hby at_18) k) ?_
    refine own_step (S' := (T58.setTop (mkF m 23 #[.val (.int p1), .val (.int (9 : Int32)), .val (.ref w_FUND_PRICES), .unset, .unset] [(.int (1 : Int32))]))) (fun _ k => XS.goto X58.here hx rfl (pc0 := 19) (pc' := 23) rfl (hb hby at_19) (by decide) (by decide) k) ?_
    refine own_step (S' := (T58.setTop (mkF m 24 #[.val (.int p1), .val (.int (9 : Int32)), .val (.ref w_FUND_PRICES), .val (.int (1 : Int32)), .unset] []))) (fun _ k => XS.istoreN X58.here hx rfl (hb hby at_23) rfl (l' := #[.val (.int p1), .val (.int (9 : Int32)), .val (.ref w_FUND_PRICES), .val (.int (1 : Int32)), .unset]) rfl k) ?_
    refine own_step (S' := (T58.setTop (mkF m 25 #[.val (.int p1), .val (.int (9 : Int32)), .val (.ref w_FUND_PRICES), .val (.int (1 : Int32)), .unset] [(.ref w_FUND_PRICES)]))) (fun _ k => XS.aloadN X58.here hx rfl (hb hby at_24) rfl rfl k) ?_
    obtain ⟨_, T59, L59, X59, ⟨rfl, N59q, e59⟩, st59⟩ := own_virt (argsL := []) (rest := []) X58 hx hZ hown (hw _ (List.mem_of_getElem? (i := 8) rfl)) (hw _ (List.mem_of_getElem? (i := 9) rfl)) (notFace_of_selects (args := #[]) (mvT hZ (hw _ (List.mem_of_getElem? (i := 11) rfl)))) (hw _ (List.mem_of_getElem? (i := 11) rfl)) (hw _ (List.mem_of_getElem? (i := 10) rfl)) (by decide) (hw _ (List.mem_of_getElem? (i := 12) rfl)) (hw _ (List.mem_of_getElem? (i := 6) rfl)) e58 Eo (hM := rmV_0 l Z a0 hw [] w_FUND_PRICES sv b n h0 n0 Z0 Fv Es Fb Ab hz) (g := (mkF m 25 #[.val (.int p1), .val (.int (9 : Int32)), .val (.ref w_FUND_PRICES), .val (.int (1 : Int32)), .unset] [(.ref w_FUND_PRICES)])) (hg := rfl) (hsize := by rw [hml]; rfl) (hlen := lenOf pd_0 rfl) (hstack := rfl) (W := 0) (hW := by show 2 * 0 + _ ≤ _; exact Nat.le_of_eq rfl) (hd := (hb hby at_25)) (hf := by decide) (hl := by decide) (hc := by decide) (hs := by decide)
    have N59 := Fr.app N58 N59q
    refine own_step (S' := (T59.setTop (mkF m 28 #[.val (.int p1), .val (.int (9 : Int32)), .val (.ref w_FUND_PRICES), .val (.int (1 : Int32)), .unset] [(.int (1 : Int32))]))) (fun _ k => st59 _ k) ?_
    refine own_step (S' := (T59.setTop (mkF m 30 #[.val (.int p1), .val (.int (9 : Int32)), .val (.ref w_FUND_PRICES), .val (.int (1 : Int32)), .val (.int (1 : Int32))] []))) (fun _ k => XS.istore X59.here hx rfl (hb hby at_28) rfl (l' := #[.val (.int p1), .val (.int (9 : Int32)), .val (.ref w_FUND_PRICES), .val (.int (1 : Int32)), .val (.int (1 : Int32))]) rfl k) ?_
    refine own_step (S' := (T59.setTop (mkF m 32 #[.val (.int p1), .val (.int (9 : Int32)), .val (.ref w_FUND_PRICES), .val (.int (1 : Int32)), .val (.int (1 : Int32))] [(.int (1 : Int32))]))) (fun _ k => XS.iload X59.here hx rfl (hb hby at_30) rfl k) ?_
    refine own_step (S' := (T59.setTop (mkF m 33 #[.val (.int p1), .val (.int (9 : Int32)), .val (.ref w_FUND_PRICES), .val (.int (1 : Int32)), .val (.int (1 : Int32))] [(.int (1 : Int32)), (.int (1 : Int32))]))) (fun _ k => XS.iloadN X59.here hx rfl (hb hby at_32) rfl k) ?_
    refine own_step (S' := (T59.setTop (mkF m 36 #[.val (.int p1), .val (.int (9 : Int32)), .val (.ref w_FUND_PRICES), .val (.int (1 : Int32)), .val (.int (1 : Int32))] []))) (fun _ k => XS.icmpNo X59.here hx rfl (hb hby at_33) rfl (teq (by decide : (1 : Int32) = (1 : Int32))).2 k) ?_
    refine own_step (S' := (T59.setTop (mkF m 38 #[.val (.int p1), .val (.int (9 : Int32)), .val (.ref w_FUND_PRICES), .val (.int (1 : Int32)), .val (.int (1 : Int32))] [(.int (1 : Int32))]))) (fun _ k => XS.iload X59.here hx rfl (hb hby at_36) rfl k) ?_
    refine own_step (S' := (T59.setTop (mkF m 39 #[.val (.int p1), .val (.int (9 : Int32)), .val (.ref w_FUND_PRICES), .val (.int (1 : Int32)), .val (.int (1 : Int32))] [(.ref w_FUND_PRICES), (.int (1 : Int32))]))) (fun _ k => XS.aloadN X59.here hx rfl (hb hby at_38) rfl rfl k) ?_
    obtain ⟨_, T60, L60, X60, ⟨rfl, N60q, e60⟩, st60⟩ := own_virt (argsL := []) (rest := [(.int (1 : Int32))]) X59 hx hZ hown (hw _ (List.mem_of_getElem? (i := 23) rfl)) (hw _ (List.mem_of_getElem? (i := 24) rfl)) (notFace_of_selects (args := #[]) (mvT hZ (hw _ (List.mem_of_getElem? (i := 26) rfl)))) (hw _ (List.mem_of_getElem? (i := 26) rfl)) (hw _ (List.mem_of_getElem? (i := 25) rfl)) (by decide) (hw _ (List.mem_of_getElem? (i := 27) rfl)) (hw _ (List.mem_of_getElem? (i := 6) rfl)) e59 Eo (hM := rmT l Z a0 hw [] w_FUND_PRICES sk h0 n0 Z0 Ft) (g := (mkF m 39 #[.val (.int p1), .val (.int (9 : Int32)), .val (.ref w_FUND_PRICES), .val (.int (1 : Int32)), .val (.int (1 : Int32))] [(.ref w_FUND_PRICES), (.int (1 : Int32))])) (hg := rfl) (hsize := by rw [hml]; rfl) (hlen := lenOf pd_2 rfl) (hstack := rfl) (W := 1) (hW := by show 2 * 0 + _ ≤ _; exact Nat.le_of_eq rfl) (hd := (hb hby at_39)) (hf := by decide) (hl := by decide) (hc := by decide) (hs := by decide)
    have N60 := Fr.app N59 N60q
    refine own_step (S' := (T60.setTop (mkF m 42 #[.val (.int p1), .val (.int (9 : Int32)), .val (.ref w_FUND_PRICES), .val (.int (1 : Int32)), .val (.int (1 : Int32))] [(.ref sk), (.int (1 : Int32))]))) (fun _ k => st60 _ k) ?_
    obtain ⟨_, T61, L61, X61, ⟨rfl, N61q, e61⟩, st61⟩ := own_virt (argsL := []) (rest := [(.int (1 : Int32))]) X60 hx hZ hown (hw _ (List.mem_of_getElem? (i := 30) rfl)) (hw _ (List.mem_of_getElem? (i := 16) rfl)) (notFace_of_selects (args := #[]) (mvT hZ (hw _ (List.mem_of_getElem? (i := 18) rfl)))) (hw _ (List.mem_of_getElem? (i := 18) rfl)) (hw _ (List.mem_of_getElem? (i := 17) rfl)) (by decide) (hw _ (List.mem_of_getElem? (i := 20) rfl)) (hw _ (List.mem_of_getElem? (i := 19) rfl)) e60 Es' (hM := rmE_0 l Z a0 hw [] sk b' n' h0 n0 Z0 Fb' Ab' hz') (g := (mkF m 42 #[.val (.int p1), .val (.int (9 : Int32)), .val (.ref w_FUND_PRICES), .val (.int (1 : Int32)), .val (.int (1 : Int32))] [(.ref sk), (.int (1 : Int32))])) (hg := rfl) (hsize := by rw [hml]; rfl) (hlen := lenOf pd_0 rfl) (hstack := rfl) (W := 1) (hW := by show 2 * 0 + _ ≤ _; exact Nat.le_of_eq rfl) (hd := (hb hby at_42)) (hf := by decide) (hl := by decide) (hc := by decide) (hs := by decide)
    have N61 := Fr.app N60 N61q
    refine own_step (S' := (T61.setTop (mkF m 45 #[.val (.int p1), .val (.int (9 : Int32)), .val (.ref w_FUND_PRICES), .val (.int (1 : Int32)), .val (.int (1 : Int32))] [(.int (0 : Int32)), (.int (1 : Int32))]))) (fun _ k => st61 _ k) ?_
    refine own_step (S' := (T61.setTop (mkF m 48 #[.val (.int p1), .val (.int (9 : Int32)), .val (.ref w_FUND_PRICES), .val (.int (1 : Int32)), .val (.int (1 : Int32))] [(.int (1 : Int32))]))) (fun _ k => XS.ifNo X61.here hx rfl (hb hby at_45) rfl ((if0 _ _).trans (teq (by decide : (0 : Int32) = (0 : Int32))).2) k) ?_
    refine own_step (S' := (T61.setTop (mkF m 49 #[.val (.int p1), .val (.int (9 : Int32)), .val (.ref w_FUND_PRICES), .val (.int (1 : Int32)), .val (.int (1 : Int32))] [(.int (1 : Int32)), (.int (1 : Int32))]))) (fun _ k => XS.iconst X61.here hx rfl (hb hby at_48) k) ?_
    refine own_step (S' := (T61.setTop (mkF m 53 #[.val (.int p1), .val (.int (9 : Int32)), .val (.ref w_FUND_PRICES), .val (.int (1 : Int32)), .val (.int (1 : Int32))] [(.int (1 : Int32)), (.int (1 : Int32))]))) (fun _ k => XS.goto X61.here hx rfl (pc0 := 49) (pc' := 53) rfl (hb hby at_49) (by decide) (by decide) k) ?_
    refine own_step (S' := (T61.setTop (mkF m 56 #[.val (.int p1), .val (.int (9 : Int32)), .val (.ref w_FUND_PRICES), .val (.int (1 : Int32)), .val (.int (1 : Int32))] []))) (fun _ k => XS.icmpNo X61.here hx rfl (hb hby at_53) rfl (teq (by decide : (1 : Int32) = (1 : Int32))).2 k) ?_
    refine own_step (S' := (T61.setTop (mkF m 57 #[.val (.int p1), .val (.int (9 : Int32)), .val (.ref w_FUND_PRICES), .val (.int (1 : Int32)), .val (.int (1 : Int32))] [(.int (1 : Int32))]))) (fun _ k => XS.iconst X61.here hx rfl (hb hby at_56) k) ?_
    refine own_step (S' := (T61.setTop (mkF m 61 #[.val (.int p1), .val (.int (9 : Int32)), .val (.ref w_FUND_PRICES), .val (.int (1 : Int32)), .val (.int (1 : Int32))] [(.int (1 : Int32))]))) (fun _ k => XS.goto X61.here hx rfl (pc0 := 57) (pc' := 61) rfl (hb hby at_57) (by decide) (by decide) k) ?_
    refine own_retN X61 hx hlk hret (by simp) (by decide) (hb hby at_61) (by decide) (by decide) ?_
    try rw [e61]
    exact ⟨rfl, N61⟩
  · rw [hr21]
    refine own_step (S' := (s₁.setTop (mkF m 8 #[.val (.int p1), .val (.int (10 : Int32)), .unset, .unset, .unset] []))) (fun _ k => XS.istoreN X0.here hx rfl (hb hby at_7) rfl (l' := #[.val (.int p1), .val (.int (10 : Int32)), .unset, .unset, .unset]) rfl k) ?_
    obtain ⟨sv, sk, Eo, Fv, ⟨b, n, Es, Fb, Ab, hq⟩, Ft, ⟨b', n', Es', Fb', Ab', hq'⟩⟩ := O_THROUGH
    have hz : ¬ n = (0 : Int32) := fun u => Bool.noConfusion (hq.mp u)
    have hz' : ¬ n' = (0 : Int32) := fun u => Bool.noConfusion (hq'.mp u)
    refine own_step (S' := (s₁.setTop (mkF m 9 #[.val (.int p1), .val (.int (10 : Int32)), .unset, .unset, .unset] [(.int (10 : Int32))]))) (fun _ k => XS.iloadN X0.here hx rfl (hb hby at_8) rfl k) ?_
    obtain ⟨_, T62, L62, X62, ⟨rfl, N62q, e62⟩, st62⟩ := own_stat (argsL := [(.int (10 : Int32))]) (rest := []) X0 hx hZ hown (hw _ (List.mem_of_getElem? (i := 1) rfl)) (hw _ (List.mem_of_getElem? (i := 2) rfl)) (by decide) (hw _ (List.mem_of_getElem? (i := 4) rfl)) (hw _ (List.mem_of_getElem? (i := 3) rfl)) e0 (hM := rmP_10 l Z a0 hw [] w_THROUGH h0 n0 Z0 S_THROUGH) (g := (mkF m 9 #[.val (.int p1), .val (.int (10 : Int32)), .unset, .unset, .unset] [(.int (10 : Int32))])) (hg := rfl) (hsize := by rw [hml]; rfl) (hlen := lenOf pd_1 rfl) (hstack := rfl) (W := 0) (hW := by show 2 * 0 + _ ≤ _; exact Nat.le_of_eq rfl) (hd := (hb hby at_9)) (hf := by decide) (hl := by decide) (hc := by decide) (hs := by decide)
    have N62 := Fr.app N0 N62q
    refine own_step (S' := (T62.setTop (mkF m 12 #[.val (.int p1), .val (.int (10 : Int32)), .unset, .unset, .unset] [(.ref w_THROUGH)]))) (fun _ k => st62 _ k) ?_
    refine own_step (S' := (T62.setTop (mkF m 13 #[.val (.int p1), .val (.int (10 : Int32)), .val (.ref w_THROUGH), .unset, .unset] []))) (fun _ k => XS.astoreN X62.here hx rfl (hb hby at_12) rfl rfl (l' := #[.val (.int p1), .val (.int (10 : Int32)), .val (.ref w_THROUGH), .unset, .unset]) rfl k) ?_
    refine own_step (S' := (T62.setTop (mkF m 14 #[.val (.int p1), .val (.int (10 : Int32)), .val (.ref w_THROUGH), .unset, .unset] [(.int (10 : Int32))]))) (fun _ k => XS.iloadN X62.here hx rfl (hb hby at_13) rfl k) ?_
    refine own_step (S' := (T62.setTop (mkF m 15 #[.val (.int p1), .val (.int (10 : Int32)), .val (.ref w_THROUGH), .unset, .unset] [(.int (3 : Int32)), (.int (10 : Int32))]))) (fun _ k => XS.iconst X62.here hx rfl (hb hby at_14) k) ?_
    refine own_step (S' := (T62.setTop (mkF m 18 #[.val (.int p1), .val (.int (10 : Int32)), .val (.ref w_THROUGH), .unset, .unset] []))) (fun _ k => XS.icmpNo X62.here hx rfl (hb hby at_15) rfl (feq (by decide : ¬ ((10 : Int32) = (3 : Int32)))).1 k) ?_
    refine own_step (S' := (T62.setTop (mkF m 19 #[.val (.int p1), .val (.int (10 : Int32)), .val (.ref w_THROUGH), .unset, .unset] [(.int (1 : Int32))]))) (fun _ k => XS.iconst X62.here hx rfl (hb hby at_18) k) ?_
    refine own_step (S' := (T62.setTop (mkF m 23 #[.val (.int p1), .val (.int (10 : Int32)), .val (.ref w_THROUGH), .unset, .unset] [(.int (1 : Int32))]))) (fun _ k => XS.goto X62.here hx rfl (pc0 := 19) (pc' := 23) rfl (hb hby at_19) (by decide) (by decide) k) ?_
    refine own_step (S' := (T62.setTop (mkF m 24 #[.val (.int p1), .val (.int (10 : Int32)), .val (.ref w_THROUGH), .val (.int (1 : Int32)), .unset] []))) (fun _ k => XS.istoreN X62.here hx rfl (hb hby at_23) rfl (l' := #[.val (.int p1), .val (.int (10 : Int32)), .val (.ref w_THROUGH), .val (.int (1 : Int32)), .unset]) rfl k) ?_
    refine own_step (S' := (T62.setTop (mkF m 25 #[.val (.int p1), .val (.int (10 : Int32)), .val (.ref w_THROUGH), .val (.int (1 : Int32)), .unset] [(.ref w_THROUGH)]))) (fun _ k => XS.aloadN X62.here hx rfl (hb hby at_24) rfl rfl k) ?_
    obtain ⟨_, T63, L63, X63, ⟨rfl, N63q, e63⟩, st63⟩ := own_virt (argsL := []) (rest := []) X62 hx hZ hown (hw _ (List.mem_of_getElem? (i := 8) rfl)) (hw _ (List.mem_of_getElem? (i := 9) rfl)) (notFace_of_selects (args := #[]) (mvT hZ (hw _ (List.mem_of_getElem? (i := 11) rfl)))) (hw _ (List.mem_of_getElem? (i := 11) rfl)) (hw _ (List.mem_of_getElem? (i := 10) rfl)) (by decide) (hw _ (List.mem_of_getElem? (i := 12) rfl)) (hw _ (List.mem_of_getElem? (i := 6) rfl)) e62 Eo (hM := rmV_0 l Z a0 hw [] w_THROUGH sv b n h0 n0 Z0 Fv Es Fb Ab hz) (g := (mkF m 25 #[.val (.int p1), .val (.int (10 : Int32)), .val (.ref w_THROUGH), .val (.int (1 : Int32)), .unset] [(.ref w_THROUGH)])) (hg := rfl) (hsize := by rw [hml]; rfl) (hlen := lenOf pd_0 rfl) (hstack := rfl) (W := 0) (hW := by show 2 * 0 + _ ≤ _; exact Nat.le_of_eq rfl) (hd := (hb hby at_25)) (hf := by decide) (hl := by decide) (hc := by decide) (hs := by decide)
    have N63 := Fr.app N62 N63q
    refine own_step (S' := (T63.setTop (mkF m 28 #[.val (.int p1), .val (.int (10 : Int32)), .val (.ref w_THROUGH), .val (.int (1 : Int32)), .unset] [(.int (1 : Int32))]))) (fun _ k => st63 _ k) ?_
    refine own_step (S' := (T63.setTop (mkF m 30 #[.val (.int p1), .val (.int (10 : Int32)), .val (.ref w_THROUGH), .val (.int (1 : Int32)), .val (.int (1 : Int32))] []))) (fun _ k => XS.istore X63.here hx rfl (hb hby at_28) rfl (l' := #[.val (.int p1), .val (.int (10 : Int32)), .val (.ref w_THROUGH), .val (.int (1 : Int32)), .val (.int (1 : Int32))]) rfl k) ?_
    refine own_step (S' := (T63.setTop (mkF m 32 #[.val (.int p1), .val (.int (10 : Int32)), .val (.ref w_THROUGH), .val (.int (1 : Int32)), .val (.int (1 : Int32))] [(.int (1 : Int32))]))) (fun _ k => XS.iload X63.here hx rfl (hb hby at_30) rfl k) ?_
    refine own_step (S' := (T63.setTop (mkF m 33 #[.val (.int p1), .val (.int (10 : Int32)), .val (.ref w_THROUGH), .val (.int (1 : Int32)), .val (.int (1 : Int32))] [(.int (1 : Int32)), (.int (1 : Int32))]))) (fun _ k => XS.iloadN X63.here hx rfl (hb hby at_32) rfl k) ?_
    refine own_step (S' := (T63.setTop (mkF m 36 #[.val (.int p1), .val (.int (10 : Int32)), .val (.ref w_THROUGH), .val (.int (1 : Int32)), .val (.int (1 : Int32))] []))) (fun _ k => XS.icmpNo X63.here hx rfl (hb hby at_33) rfl (teq (by decide : (1 : Int32) = (1 : Int32))).2 k) ?_
    refine own_step (S' := (T63.setTop (mkF m 38 #[.val (.int p1), .val (.int (10 : Int32)), .val (.ref w_THROUGH), .val (.int (1 : Int32)), .val (.int (1 : Int32))] [(.int (1 : Int32))]))) (fun _ k => XS.iload X63.here hx rfl (hb hby at_36) rfl k) ?_
    refine own_step (S' := (T63.setTop (mkF m 39 #[.val (.int p1), .val (.int (10 : Int32)), .val (.ref w_THROUGH), .val (.int (1 : Int32)), .val (.int (1 : Int32))] [(.ref w_THROUGH), (.int (1 : Int32))]))) (fun _ k => XS.aloadN X63.here hx rfl (hb hby at_38) rfl rfl k) ?_
    obtain ⟨_, T64, L64, X64, ⟨rfl, N64q, e64⟩, st64⟩ := own_virt (argsL := []) (rest := [(.int (1 : Int32))]) X63 hx hZ hown (hw _ (List.mem_of_getElem? (i := 23) rfl)) (hw _ (List.mem_of_getElem? (i := 24) rfl)) (notFace_of_selects (args := #[]) (mvT hZ (hw _ (List.mem_of_getElem? (i := 26) rfl)))) (hw _ (List.mem_of_getElem? (i := 26) rfl)) (hw _ (List.mem_of_getElem? (i := 25) rfl)) (by decide) (hw _ (List.mem_of_getElem? (i := 27) rfl)) (hw _ (List.mem_of_getElem? (i := 6) rfl)) e63 Eo (hM := rmT l Z a0 hw [] w_THROUGH sk h0 n0 Z0 Ft) (g := (mkF m 39 #[.val (.int p1), .val (.int (10 : Int32)), .val (.ref w_THROUGH), .val (.int (1 : Int32)), .val (.int (1 : Int32))] [(.ref w_THROUGH), (.int (1 : Int32))])) (hg := rfl) (hsize := by rw [hml]; rfl) (hlen := lenOf pd_2 rfl) (hstack := rfl) (W := 1) (hW := by show 2 * 0 + _ ≤ _; exact Nat.le_of_eq rfl) (hd := (hb hby at_39)) (hf := by decide) (hl := by decide) (hc := by decide) (hs := by decide)
    have N64 := Fr.app N63 N64q
    refine own_step (S' := (T64.setTop (mkF m 42 #[.val (.int p1), .val (.int (10 : Int32)), .val (.ref w_THROUGH), .val (.int (1 : Int32)), .val (.int (1 : Int32))] [(.ref sk), (.int (1 : Int32))]))) (fun _ k => st64 _ k) ?_
    obtain ⟨_, T65, L65, X65, ⟨rfl, N65q, e65⟩, st65⟩ := own_virt (argsL := []) (rest := [(.int (1 : Int32))]) X64 hx hZ hown (hw _ (List.mem_of_getElem? (i := 30) rfl)) (hw _ (List.mem_of_getElem? (i := 16) rfl)) (notFace_of_selects (args := #[]) (mvT hZ (hw _ (List.mem_of_getElem? (i := 18) rfl)))) (hw _ (List.mem_of_getElem? (i := 18) rfl)) (hw _ (List.mem_of_getElem? (i := 17) rfl)) (by decide) (hw _ (List.mem_of_getElem? (i := 20) rfl)) (hw _ (List.mem_of_getElem? (i := 19) rfl)) e64 Es' (hM := rmE_0 l Z a0 hw [] sk b' n' h0 n0 Z0 Fb' Ab' hz') (g := (mkF m 42 #[.val (.int p1), .val (.int (10 : Int32)), .val (.ref w_THROUGH), .val (.int (1 : Int32)), .val (.int (1 : Int32))] [(.ref sk), (.int (1 : Int32))])) (hg := rfl) (hsize := by rw [hml]; rfl) (hlen := lenOf pd_0 rfl) (hstack := rfl) (W := 1) (hW := by show 2 * 0 + _ ≤ _; exact Nat.le_of_eq rfl) (hd := (hb hby at_42)) (hf := by decide) (hl := by decide) (hc := by decide) (hs := by decide)
    have N65 := Fr.app N64 N65q
    refine own_step (S' := (T65.setTop (mkF m 45 #[.val (.int p1), .val (.int (10 : Int32)), .val (.ref w_THROUGH), .val (.int (1 : Int32)), .val (.int (1 : Int32))] [(.int (0 : Int32)), (.int (1 : Int32))]))) (fun _ k => st65 _ k) ?_
    refine own_step (S' := (T65.setTop (mkF m 48 #[.val (.int p1), .val (.int (10 : Int32)), .val (.ref w_THROUGH), .val (.int (1 : Int32)), .val (.int (1 : Int32))] [(.int (1 : Int32))]))) (fun _ k => XS.ifNo X65.here hx rfl (hb hby at_45) rfl ((if0 _ _).trans (teq (by decide : (0 : Int32) = (0 : Int32))).2) k) ?_
    refine own_step (S' := (T65.setTop (mkF m 49 #[.val (.int p1), .val (.int (10 : Int32)), .val (.ref w_THROUGH), .val (.int (1 : Int32)), .val (.int (1 : Int32))] [(.int (1 : Int32)), (.int (1 : Int32))]))) (fun _ k => XS.iconst X65.here hx rfl (hb hby at_48) k) ?_
    refine own_step (S' := (T65.setTop (mkF m 53 #[.val (.int p1), .val (.int (10 : Int32)), .val (.ref w_THROUGH), .val (.int (1 : Int32)), .val (.int (1 : Int32))] [(.int (1 : Int32)), (.int (1 : Int32))]))) (fun _ k => XS.goto X65.here hx rfl (pc0 := 49) (pc' := 53) rfl (hb hby at_49) (by decide) (by decide) k) ?_
    refine own_step (S' := (T65.setTop (mkF m 56 #[.val (.int p1), .val (.int (10 : Int32)), .val (.ref w_THROUGH), .val (.int (1 : Int32)), .val (.int (1 : Int32))] []))) (fun _ k => XS.icmpNo X65.here hx rfl (hb hby at_53) rfl (teq (by decide : (1 : Int32) = (1 : Int32))).2 k) ?_
    refine own_step (S' := (T65.setTop (mkF m 57 #[.val (.int p1), .val (.int (10 : Int32)), .val (.ref w_THROUGH), .val (.int (1 : Int32)), .val (.int (1 : Int32))] [(.int (1 : Int32))]))) (fun _ k => XS.iconst X65.here hx rfl (hb hby at_56) k) ?_
    refine own_step (S' := (T65.setTop (mkF m 61 #[.val (.int p1), .val (.int (10 : Int32)), .val (.ref w_THROUGH), .val (.int (1 : Int32)), .val (.int (1 : Int32))] [(.int (1 : Int32))]))) (fun _ k => XS.goto X65.here hx rfl (pc0 := 57) (pc' := 61) rfl (hb hby at_57) (by decide) (by decide) k) ?_
    refine own_retN X65 hx hlk hret (by simp) (by decide) (hb hby at_61) (by decide) (by decide) ?_
    try rw [e65]
    exact ⟨rfl, N65⟩
set_option maxRecDepth 65536 in
set_option maxHeartbeats 40000000 in
theorem comes_1 {Post : Tables → Env → Array Value → State → Outcome → State → Prop} (hpost : ∀ tb e args s v u, (limb_1_1.after args s (.returned v) u = true ∧ limb_1_2.after args s (.returned v) u = true ∧ True) → FrameEnd s (.returned v) u (Jvm.fieldLocs frame_1_writes args s ++ Jvm.arrayLocs frame_1_arrays args s ++ Jvm.staticLocs frame_1_statics s) 0 0 → Post tb e args s (.returned v) u) :
    ArmFor flags0 classFile x code maxLocals ret World_1 tables_1 room_1 Calls_1 rest_1 Pre_1 Post := by
  intro l hfl _ _ p e ha hc hk s m args below hf hA hF happ hP
  obtain ⟨hcalls, hrest, hpre⟩ := hP
  obtain ⟨-, -, -, hnamed, -, -, -, hat⟩ := (Spec.applies_iff hf).mp happ
  obtain ⟨hg, hn⟩ := and_e (Cond.before_iff.mp (show (Jvm.Cond.and given_1 narrow_1).before args s = true from hpre))
  obtain ⟨g0a, g0b⟩ := and_e hg
  obtain ⟨w0, rfl⟩ : ∃ w0 : Value, args = #[w0] := by
    have hs : args.size = 1 := by simpa [Cond.value, given_1] using g0a
    obtain ⟨L⟩ := args
    match L, hs with
    | [w0], _ => exact ⟨w0, rfl⟩
  have hw := fun d (hd : d ∈ tables_1) => atoms_spec (ws := Jvm.Cond.code x code maxLocals ret :: tables_1) hat d (List.mem_cons_of_mem _ hd)
  have hfit : Fit s := fun {y c} hc i hi => by
    obtain ⟨ha, rfl⟩ := Array.getElem?_eq_some_iff.mp hc
    have q := List.all_eq_true.mp ((Array.all_eq_true_iff_forall_mem.mp hF) _ (Array.getElem_mem ha)) i (List.mem_range.mpr hi)
    simpa [Array.getElem?_eq_getElem hi] using q
  obtain ⟨i0, ei0⟩ := is_v g0b
  obtain rfl : w0 = (.int i0) := Option.some.inj ei0
  obtain ⟨n0a, n0b⟩ := and_e hn
  obtain ⟨n1a, n1b⟩ := and_e n0b
  obtain ⟨n2a, n2b⟩ := and_e n1b
  obtain ⟨n3a, n3b⟩ := and_e n2b
  obtain ⟨n4a, n4b⟩ := and_e n3b
  obtain ⟨n5a, n5b⟩ := and_e n4b
  obtain ⟨n6a, n6b⟩ := and_e n5b
  obtain ⟨n7a, n7b⟩ := and_e n6b
  obtain ⟨n8a, n8b⟩ := and_e n7b
  obtain ⟨n9a, n9b⟩ := and_e n8b
  obtain ⟨n10a, n10b⟩ := and_e n9b
  obtain ⟨n11a, n11b⟩ := and_e n10b
  obtain ⟨n12a, n12b⟩ := and_e n11b
  obtain ⟨n13a, n13b⟩ := and_e n12b
  obtain ⟨n14a, n14b⟩ := and_e n13b
  obtain ⟨n15a, n15b⟩ := and_e n14b
  obtain ⟨n16a, n16b⟩ := and_e n15b
  obtain ⟨n17a, n17b⟩ := and_e n16b
  obtain ⟨n18a, n18b⟩ := and_e n17b
  obtain ⟨n19a, n19b⟩ := and_e n18b
  obtain ⟨n20a, n20b⟩ := and_e n19b
  obtain ⟨n21a, n21b⟩ := and_e n20b
  obtain ⟨n22a, n22b⟩ := and_e n21b
  obtain ⟨n23a, n23b⟩ := and_e n22b
  obtain ⟨n24a, n24b⟩ := and_e n23b
  obtain ⟨n25a, n25b⟩ := and_e n24b
  obtain ⟨n26a, n26b⟩ := and_e n25b
  obtain ⟨n27a, n27b⟩ := and_e n26b
  obtain ⟨n28a, n28b⟩ := and_e n27b
  obtain ⟨n29a, n29b⟩ := and_e n28b
  obtain ⟨n30a, n30b⟩ := and_e n29b
  obtain ⟨n31a, n31b⟩ := and_e n30b
  obtain ⟨n32a, n32b⟩ := and_e n31b
  obtain ⟨n33a, n33b⟩ := and_e n32b
  obtain ⟨n34a, n34b⟩ := and_e n33b
  obtain ⟨n35a, n35b⟩ := and_e n34b
  obtain ⟨n36a, n36b⟩ := and_e n35b
  obtain ⟨n37a, n37b⟩ := and_e n36b
  obtain ⟨n38a, n38b⟩ := and_e n37b
  obtain ⟨n39a, n39b⟩ := and_e n38b
  obtain ⟨n40a, n40b⟩ := and_e n39b
  obtain ⟨n41a, n41b⟩ := and_e n40b
  obtain ⟨n42a, n42b⟩ := and_e n41b
  obtain ⟨n43a, n43b⟩ := and_e n42b
  obtain ⟨n44a, n44b⟩ := and_e n43b
  obtain ⟨n45a, n45b⟩ := and_e n44b
  obtain ⟨n46a, n46b⟩ := and_e n45b
  obtain ⟨n47a, n47b⟩ := and_e n46b
  obtain ⟨n48a, n48b⟩ := and_e n47b
  obtain ⟨n49a, n49b⟩ := and_e n48b
  obtain ⟨n50a, n50b⟩ := and_e n49b
  obtain ⟨n51a, n51b⟩ := and_e n50b
  obtain ⟨n52a, n52b⟩ := and_e n51b
  obtain ⟨n53a, n53b⟩ := and_e n52b
  obtain ⟨n54a, n54b⟩ := and_e n53b
  obtain ⟨n55a, n55b⟩ := and_e n54b
  obtain ⟨a_Option_PLAN, ev_Option_PLAN⟩ := exa_v n0a
  have E_Option_PLAN := Exa.start ev_Option_PLAN n0a
  have S_Option_PLAN := Sta.start ev_Option_PLAN (Or.inr ⟨(hw _ (List.mem_of_getElem? (i := 6) rfl)), (hw _ (List.mem_of_getElem? (i := 7) rfl))⟩)
  obtain ⟨a_Option_PLAN_value, ev_Option_PLAN_value⟩ := exa_v n1a
  have F_Option_PLAN_value := own_fld ev_Option_PLAN ev_Option_PLAN_value
  have E_Option_PLAN_value := Exa.start ev_Option_PLAN_value n1a
  obtain ⟨a_Option_PLAN_value_value, ev_Option_PLAN_value_value⟩ := arr_v n2a
  have F_Option_PLAN_value_value := own_fld ev_Option_PLAN_value ev_Option_PLAN_value_value
  obtain ⟨c_Option_PLAN_value_value, A_Option_PLAN_value_value⟩ := Arr.start ev_Option_PLAN_value_value n2a
  have L_Option_PLAN_value_value := own_len ev_Option_PLAN_value_value A_Option_PLAN_value_value (own_eqI n3a)
  obtain ⟨a_Option_PLAN_takes, ev_Option_PLAN_takes⟩ := exa_v n4a
  have F_Option_PLAN_takes := own_fld ev_Option_PLAN ev_Option_PLAN_takes
  have E_Option_PLAN_takes := Exa.start ev_Option_PLAN_takes n4a
  obtain ⟨a_Option_PLAN_takes_value, ev_Option_PLAN_takes_value⟩ := arr_v n5a
  have F_Option_PLAN_takes_value := own_fld ev_Option_PLAN_takes ev_Option_PLAN_takes_value
  obtain ⟨c_Option_PLAN_takes_value, A_Option_PLAN_takes_value⟩ := Arr.start ev_Option_PLAN_takes_value n5a
  have L_Option_PLAN_takes_value := own_len ev_Option_PLAN_takes_value A_Option_PLAN_takes_value (own_eqI n6a)
  obtain ⟨a_Option_ENTRIES, ev_Option_ENTRIES⟩ := exa_v n7a
  have E_Option_ENTRIES := Exa.start ev_Option_ENTRIES n7a
  have S_Option_ENTRIES := Sta.start ev_Option_ENTRIES (Or.inr ⟨(hw _ (List.mem_of_getElem? (i := 6) rfl)), (hw _ (List.mem_of_getElem? (i := 32) rfl))⟩)
  obtain ⟨a_Option_ENTRIES_value, ev_Option_ENTRIES_value⟩ := exa_v n8a
  have F_Option_ENTRIES_value := own_fld ev_Option_ENTRIES ev_Option_ENTRIES_value
  have E_Option_ENTRIES_value := Exa.start ev_Option_ENTRIES_value n8a
  obtain ⟨a_Option_ENTRIES_value_value, ev_Option_ENTRIES_value_value⟩ := arr_v n9a
  have F_Option_ENTRIES_value_value := own_fld ev_Option_ENTRIES_value ev_Option_ENTRIES_value_value
  obtain ⟨c_Option_ENTRIES_value_value, A_Option_ENTRIES_value_value⟩ := Arr.start ev_Option_ENTRIES_value_value n9a
  have L_Option_ENTRIES_value_value := own_len ev_Option_ENTRIES_value_value A_Option_ENTRIES_value_value (own_eqI n10a)
  have ev_Option_ENTRIES_takes := own_eqR ev_Option_ENTRIES_value n11a
  have F_Option_ENTRIES_takes := own_fld ev_Option_ENTRIES ev_Option_ENTRIES_takes
  obtain ⟨a_Option_PARTICIPANTS, ev_Option_PARTICIPANTS⟩ := exa_v n12a
  have E_Option_PARTICIPANTS := Exa.start ev_Option_PARTICIPANTS n12a
  have S_Option_PARTICIPANTS := Sta.start ev_Option_PARTICIPANTS (Or.inr ⟨(hw _ (List.mem_of_getElem? (i := 6) rfl)), (hw _ (List.mem_of_getElem? (i := 34) rfl))⟩)
  obtain ⟨a_Option_PARTICIPANTS_value, ev_Option_PARTICIPANTS_value⟩ := exa_v n13a
  have F_Option_PARTICIPANTS_value := own_fld ev_Option_PARTICIPANTS ev_Option_PARTICIPANTS_value
  have E_Option_PARTICIPANTS_value := Exa.start ev_Option_PARTICIPANTS_value n13a
  obtain ⟨a_Option_PARTICIPANTS_value_value, ev_Option_PARTICIPANTS_value_value⟩ := arr_v n14a
  have F_Option_PARTICIPANTS_value_value := own_fld ev_Option_PARTICIPANTS_value ev_Option_PARTICIPANTS_value_value
  obtain ⟨c_Option_PARTICIPANTS_value_value, A_Option_PARTICIPANTS_value_value⟩ := Arr.start ev_Option_PARTICIPANTS_value_value n14a
  have L_Option_PARTICIPANTS_value_value := own_len ev_Option_PARTICIPANTS_value_value A_Option_PARTICIPANTS_value_value (own_eqI n15a)
  obtain ⟨a_Option_PARTICIPANTS_takes, ev_Option_PARTICIPANTS_takes⟩ := exa_v n16a
  have F_Option_PARTICIPANTS_takes := own_fld ev_Option_PARTICIPANTS ev_Option_PARTICIPANTS_takes
  have E_Option_PARTICIPANTS_takes := Exa.start ev_Option_PARTICIPANTS_takes n16a
  obtain ⟨a_Option_PARTICIPANTS_takes_value, ev_Option_PARTICIPANTS_takes_value⟩ := arr_v n17a
  have F_Option_PARTICIPANTS_takes_value := own_fld ev_Option_PARTICIPANTS_takes ev_Option_PARTICIPANTS_takes_value
  obtain ⟨c_Option_PARTICIPANTS_takes_value, A_Option_PARTICIPANTS_takes_value⟩ := Arr.start ev_Option_PARTICIPANTS_takes_value n17a
  have L_Option_PARTICIPANTS_takes_value := own_len ev_Option_PARTICIPANTS_takes_value A_Option_PARTICIPANTS_takes_value (own_eqI n18a)
  obtain ⟨a_Option_SEED, ev_Option_SEED⟩ := exa_v n19a
  have E_Option_SEED := Exa.start ev_Option_SEED n19a
  have S_Option_SEED := Sta.start ev_Option_SEED (Or.inr ⟨(hw _ (List.mem_of_getElem? (i := 6) rfl)), (hw _ (List.mem_of_getElem? (i := 36) rfl))⟩)
  obtain ⟨a_Option_SEED_value, ev_Option_SEED_value⟩ := exa_v n20a
  have F_Option_SEED_value := own_fld ev_Option_SEED ev_Option_SEED_value
  have E_Option_SEED_value := Exa.start ev_Option_SEED_value n20a
  obtain ⟨a_Option_SEED_value_value, ev_Option_SEED_value_value⟩ := arr_v n21a
  have F_Option_SEED_value_value := own_fld ev_Option_SEED_value ev_Option_SEED_value_value
  obtain ⟨c_Option_SEED_value_value, A_Option_SEED_value_value⟩ := Arr.start ev_Option_SEED_value_value n21a
  have L_Option_SEED_value_value := own_len ev_Option_SEED_value_value A_Option_SEED_value_value (own_eqI n22a)
  have ev_Option_SEED_takes := own_eqR ev_Option_PARTICIPANTS_takes n23a
  have F_Option_SEED_takes := own_fld ev_Option_SEED ev_Option_SEED_takes
  obtain ⟨a_Option_AS_OF, ev_Option_AS_OF⟩ := exa_v n24a
  have E_Option_AS_OF := Exa.start ev_Option_AS_OF n24a
  have S_Option_AS_OF := Sta.start ev_Option_AS_OF (Or.inr ⟨(hw _ (List.mem_of_getElem? (i := 6) rfl)), (hw _ (List.mem_of_getElem? (i := 38) rfl))⟩)
  obtain ⟨a_Option_AS_OF_value, ev_Option_AS_OF_value⟩ := exa_v n25a
  have F_Option_AS_OF_value := own_fld ev_Option_AS_OF ev_Option_AS_OF_value
  have E_Option_AS_OF_value := Exa.start ev_Option_AS_OF_value n25a
  obtain ⟨a_Option_AS_OF_value_value, ev_Option_AS_OF_value_value⟩ := arr_v n26a
  have F_Option_AS_OF_value_value := own_fld ev_Option_AS_OF_value ev_Option_AS_OF_value_value
  obtain ⟨c_Option_AS_OF_value_value, A_Option_AS_OF_value_value⟩ := Arr.start ev_Option_AS_OF_value_value n26a
  have L_Option_AS_OF_value_value := own_len ev_Option_AS_OF_value_value A_Option_AS_OF_value_value (own_eqI n27a)
  obtain ⟨a_Option_AS_OF_takes, ev_Option_AS_OF_takes⟩ := exa_v n28a
  have F_Option_AS_OF_takes := own_fld ev_Option_AS_OF ev_Option_AS_OF_takes
  have E_Option_AS_OF_takes := Exa.start ev_Option_AS_OF_takes n28a
  obtain ⟨a_Option_AS_OF_takes_value, ev_Option_AS_OF_takes_value⟩ := arr_v n29a
  have F_Option_AS_OF_takes_value := own_fld ev_Option_AS_OF_takes ev_Option_AS_OF_takes_value
  obtain ⟨c_Option_AS_OF_takes_value, A_Option_AS_OF_takes_value⟩ := Arr.start ev_Option_AS_OF_takes_value n29a
  have L_Option_AS_OF_takes_value := own_len ev_Option_AS_OF_takes_value A_Option_AS_OF_takes_value (own_eqI n30a)
  obtain ⟨a_Option_THROUGH, ev_Option_THROUGH⟩ := exa_v n31a
  have E_Option_THROUGH := Exa.start ev_Option_THROUGH n31a
  have S_Option_THROUGH := Sta.start ev_Option_THROUGH (Or.inr ⟨(hw _ (List.mem_of_getElem? (i := 6) rfl)), (hw _ (List.mem_of_getElem? (i := 40) rfl))⟩)
  have ev_Option_THROUGH_value := own_eqR ev_Option_AS_OF_value n32a
  have F_Option_THROUGH_value := own_fld ev_Option_THROUGH ev_Option_THROUGH_value
  have ev_Option_THROUGH_takes := own_eqR ev_Option_AS_OF_takes n33a
  have F_Option_THROUGH_takes := own_fld ev_Option_THROUGH ev_Option_THROUGH_takes
  obtain ⟨a_Option_PARTICIPANT, ev_Option_PARTICIPANT⟩ := exa_v n34a
  have E_Option_PARTICIPANT := Exa.start ev_Option_PARTICIPANT n34a
  have S_Option_PARTICIPANT := Sta.start ev_Option_PARTICIPANT (Or.inr ⟨(hw _ (List.mem_of_getElem? (i := 6) rfl)), (hw _ (List.mem_of_getElem? (i := 42) rfl))⟩)
  have ev_Option_PARTICIPANT_value := own_eqR ev_Option_PLAN_value n35a
  have F_Option_PARTICIPANT_value := own_fld ev_Option_PARTICIPANT ev_Option_PARTICIPANT_value
  have ev_Option_PARTICIPANT_takes := own_eqR ev_Option_PLAN_takes n36a
  have F_Option_PARTICIPANT_takes := own_fld ev_Option_PARTICIPANT ev_Option_PARTICIPANT_takes
  obtain ⟨a_Option_FUND_PRICES, ev_Option_FUND_PRICES⟩ := exa_v n37a
  have E_Option_FUND_PRICES := Exa.start ev_Option_FUND_PRICES n37a
  have S_Option_FUND_PRICES := Sta.start ev_Option_FUND_PRICES (Or.inr ⟨(hw _ (List.mem_of_getElem? (i := 6) rfl)), (hw _ (List.mem_of_getElem? (i := 44) rfl))⟩)
  have ev_Option_FUND_PRICES_value := own_eqR ev_Option_PLAN_value n38a
  have F_Option_FUND_PRICES_value := own_fld ev_Option_FUND_PRICES ev_Option_FUND_PRICES_value
  have ev_Option_FUND_PRICES_takes := own_eqR ev_Option_PLAN_takes n39a
  have F_Option_FUND_PRICES_takes := own_fld ev_Option_FUND_PRICES ev_Option_FUND_PRICES_takes
  obtain ⟨a_Option_POPULATION, ev_Option_POPULATION⟩ := exa_v n40a
  have E_Option_POPULATION := Exa.start ev_Option_POPULATION n40a
  have S_Option_POPULATION := Sta.start ev_Option_POPULATION (Or.inr ⟨(hw _ (List.mem_of_getElem? (i := 6) rfl)), (hw _ (List.mem_of_getElem? (i := 46) rfl))⟩)
  have ev_Option_POPULATION_value := own_eqR ev_Option_PLAN_value n41a
  have F_Option_POPULATION_value := own_fld ev_Option_POPULATION ev_Option_POPULATION_value
  have ev_Option_POPULATION_takes := own_eqR ev_Option_PLAN_takes n42a
  have F_Option_POPULATION_takes := own_fld ev_Option_POPULATION ev_Option_POPULATION_takes
  obtain ⟨a_Option_OUT, ev_Option_OUT⟩ := exa_v n43a
  have E_Option_OUT := Exa.start ev_Option_OUT n43a
  have S_Option_OUT := Sta.start ev_Option_OUT (Or.inr ⟨(hw _ (List.mem_of_getElem? (i := 6) rfl)), (hw _ (List.mem_of_getElem? (i := 48) rfl))⟩)
  obtain ⟨a_Option_OUT_value, ev_Option_OUT_value⟩ := exa_v n44a
  have F_Option_OUT_value := own_fld ev_Option_OUT ev_Option_OUT_value
  have E_Option_OUT_value := Exa.start ev_Option_OUT_value n44a
  obtain ⟨a_Option_OUT_value_value, ev_Option_OUT_value_value⟩ := arr_v n45a
  have F_Option_OUT_value_value := own_fld ev_Option_OUT_value ev_Option_OUT_value_value
  obtain ⟨c_Option_OUT_value_value, A_Option_OUT_value_value⟩ := Arr.start ev_Option_OUT_value_value n45a
  have L_Option_OUT_value_value := own_len ev_Option_OUT_value_value A_Option_OUT_value_value (own_eqI n46a)
  obtain ⟨a_Option_OUT_takes, ev_Option_OUT_takes⟩ := exa_v n47a
  have F_Option_OUT_takes := own_fld ev_Option_OUT ev_Option_OUT_takes
  have E_Option_OUT_takes := Exa.start ev_Option_OUT_takes n47a
  obtain ⟨a_Option_OUT_takes_value, ev_Option_OUT_takes_value⟩ := arr_v n48a
  have F_Option_OUT_takes_value := own_fld ev_Option_OUT_takes ev_Option_OUT_takes_value
  obtain ⟨c_Option_OUT_takes_value, A_Option_OUT_takes_value⟩ := Arr.start ev_Option_OUT_takes_value n48a
  have L_Option_OUT_takes_value := own_len ev_Option_OUT_takes_value A_Option_OUT_takes_value (own_eqI n49a)
  obtain ⟨a_Option_YEAR, ev_Option_YEAR⟩ := exa_v n50a
  have E_Option_YEAR := Exa.start ev_Option_YEAR n50a
  have S_Option_YEAR := Sta.start ev_Option_YEAR (Or.inr ⟨(hw _ (List.mem_of_getElem? (i := 6) rfl)), (hw _ (List.mem_of_getElem? (i := 50) rfl))⟩)
  obtain ⟨a_Option_YEAR_value, ev_Option_YEAR_value⟩ := exa_v n51a
  have F_Option_YEAR_value := own_fld ev_Option_YEAR ev_Option_YEAR_value
  have E_Option_YEAR_value := Exa.start ev_Option_YEAR_value n51a
  obtain ⟨a_Option_YEAR_value_value, ev_Option_YEAR_value_value⟩ := arr_v n52a
  have F_Option_YEAR_value_value := own_fld ev_Option_YEAR_value ev_Option_YEAR_value_value
  obtain ⟨c_Option_YEAR_value_value, A_Option_YEAR_value_value⟩ := Arr.start ev_Option_YEAR_value_value n52a
  have L_Option_YEAR_value_value := own_len ev_Option_YEAR_value_value A_Option_YEAR_value_value (own_eqI n53a)
  obtain ⟨a_Option_YEAR_takes, ev_Option_YEAR_takes⟩ := exa_v n54a
  have F_Option_YEAR_takes := own_fld ev_Option_YEAR ev_Option_YEAR_takes
  have E_Option_YEAR_takes := Exa.start ev_Option_YEAR_takes n54a
  obtain ⟨a_Option_YEAR_takes_value, ev_Option_YEAR_takes_value⟩ := arr_v n55a
  have F_Option_YEAR_takes_value := own_fld ev_Option_YEAR_takes ev_Option_YEAR_takes_value
  obtain ⟨c_Option_YEAR_takes_value, A_Option_YEAR_takes_value⟩ := Arr.start ev_Option_YEAR_takes_value n55a
  have L_Option_YEAR_takes_value := own_len ev_Option_YEAR_takes_value A_Option_YEAR_takes_value (own_eqI n55b)
  have O_PLAN : own_Opt s s.heap a_Option_PLAN false := ⟨_, _, E_Option_PLAN, F_Option_PLAN_value, ⟨_, _, E_Option_PLAN_value, F_Option_PLAN_value_value, L_Option_PLAN_value_value, by decide⟩, F_Option_PLAN_takes, ⟨_, _, E_Option_PLAN_takes, F_Option_PLAN_takes_value, L_Option_PLAN_takes_value, by decide⟩⟩
  have O_PARTICIPANT : own_Opt s s.heap a_Option_PARTICIPANT false := ⟨_, _, E_Option_PARTICIPANT, F_Option_PARTICIPANT_value, ⟨_, _, E_Option_PLAN_value, F_Option_PLAN_value_value, L_Option_PLAN_value_value, by decide⟩, F_Option_PARTICIPANT_takes, ⟨_, _, E_Option_PLAN_takes, F_Option_PLAN_takes_value, L_Option_PLAN_takes_value, by decide⟩⟩
  have O_AS_OF : own_Opt s s.heap a_Option_AS_OF false := ⟨_, _, E_Option_AS_OF, F_Option_AS_OF_value, ⟨_, _, E_Option_AS_OF_value, F_Option_AS_OF_value_value, L_Option_AS_OF_value_value, by decide⟩, F_Option_AS_OF_takes, ⟨_, _, E_Option_AS_OF_takes, F_Option_AS_OF_takes_value, L_Option_AS_OF_takes_value, by decide⟩⟩
  have O_ENTRIES : own_Opt s s.heap a_Option_ENTRIES true := ⟨_, _, E_Option_ENTRIES, F_Option_ENTRIES_value, ⟨_, _, E_Option_ENTRIES_value, F_Option_ENTRIES_value_value, L_Option_ENTRIES_value_value, by decide⟩, F_Option_ENTRIES_takes, ⟨_, _, E_Option_ENTRIES_value, F_Option_ENTRIES_value_value, L_Option_ENTRIES_value_value, by decide⟩⟩
  have O_YEAR : own_Opt s s.heap a_Option_YEAR false := ⟨_, _, E_Option_YEAR, F_Option_YEAR_value, ⟨_, _, E_Option_YEAR_value, F_Option_YEAR_value_value, L_Option_YEAR_value_value, by decide⟩, F_Option_YEAR_takes, ⟨_, _, E_Option_YEAR_takes, F_Option_YEAR_takes_value, L_Option_YEAR_takes_value, by decide⟩⟩
  have O_POPULATION : own_Opt s s.heap a_Option_POPULATION false := ⟨_, _, E_Option_POPULATION, F_Option_POPULATION_value, ⟨_, _, E_Option_PLAN_value, F_Option_PLAN_value_value, L_Option_PLAN_value_value, by decide⟩, F_Option_POPULATION_takes, ⟨_, _, E_Option_PLAN_takes, F_Option_PLAN_takes_value, L_Option_PLAN_takes_value, by decide⟩⟩
  have O_OUT : own_Opt s s.heap a_Option_OUT false := ⟨_, _, E_Option_OUT, F_Option_OUT_value, ⟨_, _, E_Option_OUT_value, F_Option_OUT_value_value, L_Option_OUT_value_value, by decide⟩, F_Option_OUT_takes, ⟨_, _, E_Option_OUT_takes, F_Option_OUT_takes_value, L_Option_OUT_takes_value, by decide⟩⟩
  have O_PARTICIPANTS : own_Opt s s.heap a_Option_PARTICIPANTS false := ⟨_, _, E_Option_PARTICIPANTS, F_Option_PARTICIPANTS_value, ⟨_, _, E_Option_PARTICIPANTS_value, F_Option_PARTICIPANTS_value_value, L_Option_PARTICIPANTS_value_value, by decide⟩, F_Option_PARTICIPANTS_takes, ⟨_, _, E_Option_PARTICIPANTS_takes, F_Option_PARTICIPANTS_takes_value, L_Option_PARTICIPANTS_takes_value, by decide⟩⟩
  have O_SEED : own_Opt s s.heap a_Option_SEED false := ⟨_, _, E_Option_SEED, F_Option_SEED_value, ⟨_, _, E_Option_SEED_value, F_Option_SEED_value_value, L_Option_SEED_value_value, by decide⟩, F_Option_SEED_takes, ⟨_, _, E_Option_PARTICIPANTS_takes, F_Option_PARTICIPANTS_takes_value, L_Option_PARTICIPANTS_takes_value, by decide⟩⟩
  have O_FUND_PRICES : own_Opt s s.heap a_Option_FUND_PRICES false := ⟨_, _, E_Option_FUND_PRICES, F_Option_FUND_PRICES_value, ⟨_, _, E_Option_PLAN_value, F_Option_PLAN_value_value, L_Option_PLAN_value_value, by decide⟩, F_Option_FUND_PRICES_takes, ⟨_, _, E_Option_PLAN_takes, F_Option_PLAN_takes_value, L_Option_PLAN_takes_value, by decide⟩⟩
  have O_THROUGH : own_Opt s s.heap a_Option_THROUGH false := ⟨_, _, E_Option_THROUGH, F_Option_THROUGH_value, ⟨_, _, E_Option_AS_OF_value, F_Option_AS_OF_value_value, L_Option_AS_OF_value_value, by decide⟩, F_Option_THROUGH_takes, ⟨_, _, E_Option_AS_OF_takes, F_Option_AS_OF_takes_value, L_Option_AS_OF_takes_value, by decide⟩⟩
  obtain ⟨n, o, h1, h2, h3, _, L, rfl, ⟨rfl, N⟩, hq⟩ := (rm0 l s _ hw tables_1 a_Option_PLAN a_Option_PARTICIPANT a_Option_AS_OF a_Option_ENTRIES a_Option_YEAR a_Option_POPULATION a_Option_OUT a_Option_PARTICIPANTS a_Option_SEED a_Option_FUND_PRICES a_Option_THROUGH i0 s.heap s.heap.size (Nat.le_refl _) S_Option_PLAN O_PLAN S_Option_PARTICIPANT O_PARTICIPANT S_Option_AS_OF O_AS_OF S_Option_ENTRIES O_ENTRIES S_Option_YEAR O_YEAR S_Option_POPULATION O_POPULATION S_Option_OUT O_OUT S_Option_PARTICIPANTS O_PARTICIPANTS S_Option_SEED O_SEED S_Option_FUND_PRICES O_FUND_PRICES S_Option_THROUGH O_THROUGH) p e ha hc hk s m _ below hf ((Spec.applies_iff_loose hf).mp happ).1 ⟨rfl, State.Warmed39.refl s, rfl⟩ trivial
  refine ⟨n, _, h1, h2, h3, hpost _ _ _ _ _ _ ⟨Cond.after_iff.mpr rfl, Cond.after_iff.mpr (eq_i res_at (Term.int_eval (1)) rfl), trivial⟩ ⟨hq.1, hq.2.1, (hq.2.2.sift fun y hy => Or.inr (N y hy)).mono (by decide) (by decide)⟩⟩
theorem main_1_1 : Claimed_1_1 := comes_1 fun _ _ _ _ _ _ h hF => ⟨h.1, hF⟩
theorem main_1_2 : Claimed_1_2 := comes_1 fun _ _ _ _ _ _ h hF => ⟨h.2.1, hF⟩
end Jvm.Pilot.@@N@@
namespace Jvm.Pilot.@@N@@
open Jvm Jvm.ClassFile Sem Op Lib Jvm.Free Jvm.Stand Jvm.Pilot.@@N@@.Jvm.D
/-! MADE BY PROGRAM (witnessworld.py) out of the Statement's table words and the real class files: 15 classes; the members and pool entries that the words name. The judged class is class 1, her method 2. -/
namespace start1
open Jvm.ClassFile
def u (s : String) : CpInfo := .utf8 (stringToUtf16 s)
/-- a pool by its gaps: so many unusable entries, then the entry; so many at the end -/
def gap : Nat → List CpInfo → List CpInfo
  | 0, r => r
  | n + 1, r => .unusable :: gap n r
def poolList (es : List (Nat × CpInfo)) (last : Nat) : List CpInfo := es.foldr (fun e r => gap e.1 (e.2 :: r)) (gap last [])
def pool (es : List (Nat × CpInfo)) (last : Nat) : Array CpInfo := ⟨poolList es last⟩
def fileOf (pool : Array CpInfo) (this : Nat) (attrs : Array Attribute := #[]) (ms : Array MethodInfo := #[]) (fl : Nat := 33) (sup : Nat := 0) (ifs : Array Nat := #[]) (fds : Array FieldInfo := #[]) : ClassFile where
  minorVersion := 0
  majorVersion := 65
  constantPool := pool
  accessFlags := fl
  thisClass := this
  superClass := sup
  interfaces := ifs
  fields := fds
  methods := ms
  attributes := attrs
def plain (name : String) (sup : Option ClassId) : Class where
  name := name
  kind := .ordinary
  loader := none
  accessFlags := 33
  super := sup
  interfaces := #[]
  cf := none
  fields := #[]
  methods := #[]
  instanceTypes := #[]
  staticTypes := #[]
  resolved := #[]
  callSites := []
  init := .initialized
  statics := none
  mirror := none

def pool0 : Array CpInfo := pool [(5, u "<init>"), (0, u "()V"), (1, .class_ 10), (1, u "java/lang/Object")] 113

def k0m0 : Method := { name := "<init>", desc := "()V", sig := { parameters := [], returnType := none }, accessFlags := 1, code := none }
/-- java/lang/Object -/
def k0 : Class := { plain "java/lang/Object" none with
  accessFlags := 33
  interfaces := #[]
  cf := some (fileOf pool0 8 #[] #[{ accessFlags := 1, nameIndex := 5, descriptorIndex := 6, attributes := #[] }] 33 0 #[] #[])
  fields := #[]
  methods := #[k0m0]
  instanceTypes := #[]
  staticTypes := #[]
  resolved := Array.replicate 124 none
  statics := none }

def pool1 : Array CpInfo := pool [(2, .class_ 4), (1, u "java/lang/Object"), (0, u "<init>"), (0, u "()V"), (0, .fieldref 8 9), (0, .class_ 10), (0, .nameAndType 11 12), (0, u "com/example/vestline/vestline/cli/Option"), (0, u "PLAN"), (0, u "Lcom/example/vestline/vestline/cli/Option;"), (0, .fieldref 8 14), (0, .nameAndType 15 12), (0, u "PARTICIPANT"), (0, .fieldref 8 17), (0, .nameAndType 18 12), (0, u "AS_OF"), (0, .fieldref 8 20), (0, .nameAndType 21 12), (0, u "ENTRIES"), (0, .fieldref 8 23), (0, .nameAndType 24 12), (0, u "YEAR"), (0, .fieldref 8 26), (0, .nameAndType 27 12), (0, u "POPULATION"), (0, .fieldref 8 29), (0, .nameAndType 30 12), (0, u "OUT"), (0, .fieldref 8 32), (0, .nameAndType 33 12), (0, u "PARTICIPANTS"), (0, .fieldref 8 35), (0, .nameAndType 36 12), (0, u "SEED"), (0, .fieldref 8 38), (0, .nameAndType 39 12), (0, u "FUND_PRICES"), (0, .fieldref 8 41), (0, .nameAndType 42 12), (0, u "THROUGH"), (0, .integer 2147483647), (0, .methodref 45 46), (0, .class_ 47), (0, .nameAndType 48 49), (0, u "com/example/vestline/vestline/cli/OptionTakesValuePinLaw"), (0, u "pick"), (0, u "(I)Lcom/example/vestline/vestline/cli/Option;"), (0, .methodref 8 51), (0, .nameAndType 52 53), (0, u "takesValue"), (0, u "()Z"), (0, .methodref 8 55), (0, .nameAndType 56 57), (0, u "takes"), (0, u "()Ljava/lang/String;"), (0, .methodref 59 60), (0, .class_ 61), (0, .nameAndType 62 53), (0, u "java/lang/String"), (0, u "isEmpty"), (3, u "law"), (0, u "(I)Z")] 2

def k1m0 : Method := { name := "<init>", desc := "()V", sig := { parameters := [], returnType := none }, accessFlags := 2, code := none }
def k1c1 : Code := { maxStack := 2, maxLocals := 1, code := method_2_code, exceptionTable := #[], attributes := #[] }
def k1m1 : Method := { name := "pick", desc := "(I)Lcom/example/vestline/vestline/cli/Option;", sig := { parameters := [.int], returnType := some (.object "com/example/vestline/vestline/cli/Option") }, accessFlags := 10, code := some k1c1 }
def k1c2 : Code := { maxStack := 2, maxLocals := 5, code := code, exceptionTable := #[], attributes := #[] }
def k1m2 : Method := { name := "law", desc := "(I)Z", sig := { parameters := [.int], returnType := some .boolean }, accessFlags := 9, code := some k1c2 }
/-- com/example/vestline/vestline/cli/OptionTakesValuePinLaw -/
def k1 : Class := { plain "com/example/vestline/vestline/cli/OptionTakesValuePinLaw" (some 0) with
  accessFlags := 49
  interfaces := #[]
  cf := some (fileOf pool1 45 #[] #[{ accessFlags := 2, nameIndex := 5, descriptorIndex := 6, attributes := #[] }, { accessFlags := 10, nameIndex := 48, descriptorIndex := 49, attributes := #[] }, { accessFlags := 9, nameIndex := 66, descriptorIndex := 67, attributes := #[] }] 49 2 #[] #[])
  fields := #[]
  methods := #[k1m0, k1m1, k1m2]
  instanceTypes := #[]
  staticTypes := #[]
  resolved := Array.replicate 70 none
  statics := none }

def pool2 : Array CpInfo := pool [(1, .class_ 2), (0, u "java/lang/constant/Constable"), (0, .class_ 4), (0, u "java/lang/Object")] 6

/-- java/lang/constant/Constable -/
def k2 : Class := { plain "java/lang/constant/Constable" (some 0) with
  accessFlags := 1537
  interfaces := #[]
  cf := some (fileOf pool2 1 #[] #[] 1537 3 #[] #[])
  fields := #[]
  methods := #[]
  instanceTypes := #[]
  staticTypes := #[]
  resolved := Array.replicate 11 none
  statics := none }

def pool3 : Array CpInfo := pool [(1, .class_ 2), (0, u "java/lang/Comparable"), (0, .class_ 4), (0, u "java/lang/Object")] 7

/-- java/lang/Comparable -/
def k3 : Class := { plain "java/lang/Comparable" (some 0) with
  accessFlags := 1537
  interfaces := #[]
  cf := some (fileOf pool3 1 #[] #[] 1537 3 #[] #[])
  fields := #[]
  methods := #[]
  instanceTypes := #[]
  staticTypes := #[]
  resolved := Array.replicate 12 none
  statics := none }

def pool4 : Array CpInfo := pool [(1, .class_ 2), (0, u "java/io/Serializable"), (0, .class_ 4), (0, u "java/lang/Object")] 2

/-- java/io/Serializable -/
def k4 : Class := { plain "java/io/Serializable" (some 0) with
  accessFlags := 1537
  interfaces := #[]
  cf := some (fileOf pool4 1 #[] #[] 1537 3 #[] #[])
  fields := #[]
  methods := #[]
  instanceTypes := #[]
  staticTypes := #[]
  resolved := Array.replicate 7 none
  statics := none }

def pool5 : Array CpInfo := pool [(2, .class_ 4), (1, u "java/lang/Enum"), (0, u "name"), (0, u "Ljava/lang/String;"), (2, u "ordinal"), (0, u "I"), (1, .class_ 14), (1, u "java/lang/Object"), (4, u "hash"), (86, .class_ 108), (1, u "java/lang/Enum$EnumDesc"), (2, .class_ 112), (0, u "java/lang/constant/Constable"), (0, .class_ 114), (0, u "java/lang/Comparable"), (0, .class_ 116), (0, u "java/io/Serializable")] 87

/-- java/lang/Enum -/
def k5 : Class := { plain "java/lang/Enum" (some 0) with
  accessFlags := 1057
  interfaces := #[2, 3, 4]
  cf := some (fileOf pool5 2 #[.nestMembers #[106]] #[] 1057 12 #[111, 113, 115] #[{ accessFlags := 18, nameIndex := 5, descriptorIndex := 6, attributes := #[] }, { accessFlags := 18, nameIndex := 9, descriptorIndex := 10, attributes := #[] }, { accessFlags := 2, nameIndex := 19, descriptorIndex := 10, attributes := #[] }])
  fields := #[{ name := "name", type := (.object "java/lang/String"), accessFlags := 18, slot := 0, constantValue := 0 }, { name := "ordinal", type := .int, accessFlags := 18, slot := 1, constantValue := 0 }, { name := "hash", type := .int, accessFlags := 2, slot := 2, constantValue := 0 }]
  methods := #[]
  instanceTypes := #[(.object "java/lang/String"), .int, .int]
  staticTypes := #[]
  resolved := Array.replicate 204 none
  statics := none }

def pool6 : Array CpInfo := pool [(1, .class_ 2), (0, u "com/example/vestline/vestline/cli/Option"), (2, u "PLAN"), (0, u "Lcom/example/vestline/vestline/cli/Option;"), (2, u "PARTICIPANT"), (2, u "AS_OF"), (2, u "ENTRIES"), (2, u "YEAR"), (2, u "POPULATION"), (2, u "OUT"), (2, u "PARTICIPANTS"), (2, u "SEED"), (2, u "FUND_PRICES"), (2, u "THROUGH"), (2, u "$VALUES"), (0, u "[Lcom/example/vestline/vestline/cli/Option;"), (6, .class_ 49), (1, u "java/lang/Enum"), (11, .fieldref 1 62), (0, .nameAndType 63 64), (0, u "value"), (0, u "Ljava/lang/String;"), (0, .fieldref 1 66), (0, .nameAndType 67 64), (0, u "takes"), (2, u "description"), (10, .methodref 82 83), (0, .class_ 84), (0, .nameAndType 85 86), (0, u "java/lang/String"), (0, u "isEmpty"), (0, u "()Z"), (2, u "takesValue"), (3, u "()Ljava/lang/String;")] 97

def k6c0 : Code := { maxStack := 1, maxLocals := 1, code := prog_7_method_6_code, exceptionTable := #[], attributes := #[] }
def k6m0 : Method := { name := "takesValue", desc := "()Z", sig := { parameters := [], returnType := some .boolean }, accessFlags := 0, code := some k6c0 }
def k6c1 : Code := { maxStack := 1, maxLocals := 1, code := prog_7_method_7_code, exceptionTable := #[], attributes := #[] }
def k6m1 : Method := { name := "takes", desc := "()Ljava/lang/String;", sig := { parameters := [], returnType := some (.object "java/lang/String") }, accessFlags := 0, code := some k6c1 }
/-- com/example/vestline/vestline/cli/Option -/
def k6 : Class := { plain "com/example/vestline/vestline/cli/Option" (some 5) with
  accessFlags := 16432
  interfaces := #[]
  cf := some (fileOf pool6 1 #[] #[{ accessFlags := 0, nameIndex := 89, descriptorIndex := 86, attributes := #[] }, { accessFlags := 0, nameIndex := 67, descriptorIndex := 93, attributes := #[] }] 16432 47 #[] #[{ accessFlags := 16409, nameIndex := 5, descriptorIndex := 6, attributes := #[] }, { accessFlags := 16409, nameIndex := 9, descriptorIndex := 6, attributes := #[] }, { accessFlags := 16409, nameIndex := 12, descriptorIndex := 6, attributes := #[] }, { accessFlags := 16409, nameIndex := 15, descriptorIndex := 6, attributes := #[] }, { accessFlags := 16409, nameIndex := 18, descriptorIndex := 6, attributes := #[] }, { accessFlags := 16409, nameIndex := 21, descriptorIndex := 6, attributes := #[] }, { accessFlags := 16409, nameIndex := 24, descriptorIndex := 6, attributes := #[] }, { accessFlags := 16409, nameIndex := 27, descriptorIndex := 6, attributes := #[] }, { accessFlags := 16409, nameIndex := 30, descriptorIndex := 6, attributes := #[] }, { accessFlags := 16409, nameIndex := 33, descriptorIndex := 6, attributes := #[] }, { accessFlags := 16409, nameIndex := 36, descriptorIndex := 6, attributes := #[] }, { accessFlags := 18, nameIndex := 63, descriptorIndex := 64, attributes := #[] }, { accessFlags := 18, nameIndex := 67, descriptorIndex := 64, attributes := #[] }, { accessFlags := 18, nameIndex := 70, descriptorIndex := 64, attributes := #[] }, { accessFlags := 4122, nameIndex := 39, descriptorIndex := 40, attributes := #[] }])
  fields := #[{ name := "PLAN", type := (.object "com/example/vestline/vestline/cli/Option"), accessFlags := 16409, slot := 0, constantValue := 0 }, { name := "PARTICIPANT", type := (.object "com/example/vestline/vestline/cli/Option"), accessFlags := 16409, slot := 1, constantValue := 0 }, { name := "AS_OF", type := (.object "com/example/vestline/vestline/cli/Option"), accessFlags := 16409, slot := 2, constantValue := 0 }, { name := "ENTRIES", type := (.object "com/example/vestline/vestline/cli/Option"), accessFlags := 16409, slot := 3, constantValue := 0 }, { name := "YEAR", type := (.object "com/example/vestline/vestline/cli/Option"), accessFlags := 16409, slot := 4, constantValue := 0 }, { name := "POPULATION", type := (.object "com/example/vestline/vestline/cli/Option"), accessFlags := 16409, slot := 5, constantValue := 0 }, { name := "OUT", type := (.object "com/example/vestline/vestline/cli/Option"), accessFlags := 16409, slot := 6, constantValue := 0 }, { name := "PARTICIPANTS", type := (.object "com/example/vestline/vestline/cli/Option"), accessFlags := 16409, slot := 7, constantValue := 0 }, { name := "SEED", type := (.object "com/example/vestline/vestline/cli/Option"), accessFlags := 16409, slot := 8, constantValue := 0 }, { name := "FUND_PRICES", type := (.object "com/example/vestline/vestline/cli/Option"), accessFlags := 16409, slot := 9, constantValue := 0 }, { name := "THROUGH", type := (.object "com/example/vestline/vestline/cli/Option"), accessFlags := 16409, slot := 10, constantValue := 0 }, { name := "value", type := (.object "java/lang/String"), accessFlags := 18, slot := 3, constantValue := 0 }, { name := "takes", type := (.object "java/lang/String"), accessFlags := 18, slot := 4, constantValue := 0 }, { name := "description", type := (.object "java/lang/String"), accessFlags := 18, slot := 5, constantValue := 0 }, { name := "$VALUES", type := (.array (.object "com/example/vestline/vestline/cli/Option")), accessFlags := 4122, slot := 11, constantValue := 0 }]
  methods := #[k6m0, k6m1]
  instanceTypes := #[(.object "java/lang/String"), .int, .int, (.object "java/lang/String"), (.object "java/lang/String"), (.object "java/lang/String")]
  staticTypes := #[(.object "com/example/vestline/vestline/cli/Option"), (.object "com/example/vestline/vestline/cli/Option"), (.object "com/example/vestline/vestline/cli/Option"), (.object "com/example/vestline/vestline/cli/Option"), (.object "com/example/vestline/vestline/cli/Option"), (.object "com/example/vestline/vestline/cli/Option"), (.object "com/example/vestline/vestline/cli/Option"), (.object "com/example/vestline/vestline/cli/Option"), (.object "com/example/vestline/vestline/cli/Option"), (.object "com/example/vestline/vestline/cli/Option"), (.object "com/example/vestline/vestline/cli/Option"), (.array (.object "com/example/vestline/vestline/cli/Option"))]
  resolved := Array.replicate 191 none
  statics := some 0 }

def pool7 : Array CpInfo := pool [(2, .class_ 4), (1, u "java/lang/CharSequence"), (42, .class_ 48), (0, u "java/lang/CharSequence$1CodePointIterator"), (10, .class_ 60), (0, u "java/lang/CharSequence$1CharIterator"), (5, .class_ 67), (0, u "java/lang/Object")] 63

/-- java/lang/CharSequence -/
def k7 : Class := { plain "java/lang/CharSequence" (some 0) with
  accessFlags := 1537
  interfaces := #[]
  cf := some (fileOf pool7 2 #[.nestMembers #[47, 59]] #[] 1537 66 #[] #[])
  fields := #[]
  methods := #[]
  instanceTypes := #[]
  staticTypes := #[]
  resolved := Array.replicate 131 none
  statics := none }

def pool8 : Array CpInfo := pool [(1, .class_ 2), (0, u "java/lang/constant/ConstantDesc"), (0, .class_ 4), (0, u "java/lang/Object")] 32

/-- java/lang/constant/ConstantDesc -/
def k8 : Class := { plain "java/lang/constant/ConstantDesc" (some 0) with
  accessFlags := 1537
  interfaces := #[]
  cf := some (fileOf pool8 1 #[] #[] 1537 3 #[] #[])
  fields := #[]
  methods := #[]
  instanceTypes := #[]
  staticTypes := #[]
  resolved := Array.replicate 37 none
  statics := none }

def pool9 : Array CpInfo := pool [(2, .class_ 4), (1, u "java/lang/Object"), (0, u "<init>"), (0, u "()V"), (2, .fieldref 10 11), (0, .class_ 12), (0, .nameAndType 13 14), (0, u "java/lang/String"), (0, u "value"), (0, u "[B"), (2, u "coder"), (0, u "B"), (2, u "hash"), (0, u "I"), (2, u "hashIsZero"), (0, u "Z"), (13, u "COMPACT_STRINGS"), (101, u "()Z"), (432, .class_ 576), (0, u "java/lang/CharSequence"), (22, u "CASE_INSENSITIVE_ORDER"), (0, u "Ljava/util/Comparator;"), (91, u "isEmpty"), (408, u "serialPersistentFields"), (0, u "[Ljava/io/ObjectStreamField;"), (0, .class_ 1104), (0, u "java/lang/String$CaseInsensitiveComparator"), (1, .class_ 1107), (0, u "java/io/Serializable"), (0, .class_ 1109), (0, u "java/lang/Comparable"), (0, .class_ 1111), (0, u "java/lang/constant/Constable"), (0, .class_ 1113), (0, u "java/lang/constant/ConstantDesc"), (2, u "serialVersionUID"), (0, u "J"), (3, u "REPL"), (0, u "C"), (2, u "LATIN1"), (1, u "UTF16")] 323

def k9m0 : Method := { name := "<init>", desc := "()V", sig := { parameters := [], returnType := none }, accessFlags := 1, code := none }
def k9c1 : Code := { maxStack := 1, maxLocals := 1, code := jdk_42_method_55_code, exceptionTable := #[], attributes := #[] }
def k9m1 : Method := { name := "isEmpty", desc := "()Z", sig := { parameters := [], returnType := some .boolean }, accessFlags := 1, code := some k9c1 }
/-- java/lang/String -/
def k9 : Class := { plain "java/lang/String" (some 0) with
  accessFlags := 49
  interfaces := #[4, 3, 7, 2, 8]
  cf := some (fileOf pool9 10 #[.nestMembers #[1103]] #[{ accessFlags := 1, nameIndex := 5, descriptorIndex := 6, attributes := #[] }, { accessFlags := 1, nameIndex := 692, descriptorIndex := 142, attributes := #[] }] 49 2 #[1106, 1108, 575, 1110, 1112] #[{ accessFlags := 18, nameIndex := 13, descriptorIndex := 14, attributes := #[] }, { accessFlags := 18, nameIndex := 17, descriptorIndex := 18, attributes := #[] }, { accessFlags := 2, nameIndex := 21, descriptorIndex := 22, attributes := #[] }, { accessFlags := 2, nameIndex := 25, descriptorIndex := 26, attributes := #[] }, { accessFlags := 26, nameIndex := 1116, descriptorIndex := 1117, attributes := #[] }, { accessFlags := 24, nameIndex := 40, descriptorIndex := 26, attributes := #[] }, { accessFlags := 26, nameIndex := 1101, descriptorIndex := 1102, attributes := #[] }, { accessFlags := 26, nameIndex := 1121, descriptorIndex := 1122, attributes := #[] }, { accessFlags := 25, nameIndex := 599, descriptorIndex := 600, attributes := #[] }, { accessFlags := 24, nameIndex := 1125, descriptorIndex := 18, attributes := #[] }, { accessFlags := 24, nameIndex := 1127, descriptorIndex := 18, attributes := #[] }])
  fields := #[{ name := "value", type := (.array .byte), accessFlags := 18, slot := 0, constantValue := 0 }, { name := "coder", type := .byte, accessFlags := 18, slot := 1, constantValue := 0 }, { name := "hash", type := .int, accessFlags := 2, slot := 2, constantValue := 0 }, { name := "hashIsZero", type := .boolean, accessFlags := 2, slot := 3, constantValue := 0 }, { name := "serialVersionUID", type := .long, accessFlags := 26, slot := 0, constantValue := 0 }, { name := "COMPACT_STRINGS", type := .boolean, accessFlags := 24, slot := 1, constantValue := 0 }, { name := "serialPersistentFields", type := (.array (.object "java/io/ObjectStreamField")), accessFlags := 26, slot := 2, constantValue := 0 }, { name := "REPL", type := .char, accessFlags := 26, slot := 3, constantValue := 0 }, { name := "CASE_INSENSITIVE_ORDER", type := (.object "java/util/Comparator"), accessFlags := 25, slot := 4, constantValue := 0 }, { name := "LATIN1", type := .byte, accessFlags := 24, slot := 5, constantValue := 0 }, { name := "UTF16", type := .byte, accessFlags := 24, slot := 6, constantValue := 0 }]
  methods := #[k9m0, k9m1]
  instanceTypes := #[(.array .byte), .byte, .int, .boolean]
  staticTypes := #[.long, .boolean, (.array (.object "java/io/ObjectStreamField")), .char, (.object "java/util/Comparator"), .byte, .byte]
  resolved := Array.replicate 1451 none
  statics := none }

def pool10 : Array CpInfo := pool [(1, u "java/lang/Cloneable"), (0, .class_ 1), (0, u "java/lang/Object"), (0, .class_ 3)] 3

/-- java/lang/Cloneable -/
def k10 : Class := { plain "java/lang/Cloneable" (some 0) with
  accessFlags := 1537
  interfaces := #[]
  cf := some (fileOf pool10 2 #[] #[] 1537 4 #[] #[])
  fields := #[]
  methods := #[]
  instanceTypes := #[]
  staticTypes := #[]
  resolved := Array.replicate 8 none
  statics := none }

/-- the primitive byte -/
def k11 : Class := { plain "byte" none with kind := .primitive 'B', accessFlags := 0x411 }
/-- [B -/
def k12 : Class := { plain "[B" (some 0) with kind := .array 11 .byte, interfaces := #[10, 4], accessFlags := 1041 }

/-- the primitive int -/
def k13 : Class := { plain "int" none with kind := .primitive 'I', accessFlags := 0x411 }
/-- [I -/
def k14 : Class := { plain "[I" (some 0) with kind := .array 13 .int, interfaces := #[10, 4], accessFlags := 1041 }

def heap : Heap := #[{ cls := 6, slots := #[.ref 1, .ref 15, .ref 11, .ref 4, .ref 21, .ref 17, .ref 18, .ref 6, .ref 9, .ref 16, .ref 14, .null], vm := .statics 6 },
  { cls := 6, slots := #[.null, .int 0, .int 0, .ref 2, .ref 3, .null], vm := .none },
  { cls := 9, slots := #[.ref 24, .int 0, .int 0, .int 0], vm := .none },
  { cls := 9, slots := #[.ref 25, .int 0, .int 0, .int 0], vm := .none },
  { cls := 6, slots := #[.null, .int 0, .int 0, .ref 5, .ref 5, .null], vm := .none },
  { cls := 9, slots := #[.ref 26, .int 0, .int 0, .int 0], vm := .none },
  { cls := 6, slots := #[.null, .int 0, .int 0, .ref 7, .ref 8, .null], vm := .none },
  { cls := 9, slots := #[.ref 27, .int 0, .int 0, .int 0], vm := .none },
  { cls := 9, slots := #[.ref 28, .int 0, .int 0, .int 0], vm := .none },
  { cls := 6, slots := #[.null, .int 0, .int 0, .ref 10, .ref 8, .null], vm := .none },
  { cls := 9, slots := #[.ref 29, .int 0, .int 0, .int 0], vm := .none },
  { cls := 6, slots := #[.null, .int 0, .int 0, .ref 12, .ref 13, .null], vm := .none },
  { cls := 9, slots := #[.ref 30, .int 0, .int 0, .int 0], vm := .none },
  { cls := 9, slots := #[.ref 31, .int 0, .int 0, .int 0], vm := .none },
  { cls := 6, slots := #[.null, .int 0, .int 0, .ref 12, .ref 13, .null], vm := .none },
  { cls := 6, slots := #[.null, .int 0, .int 0, .ref 2, .ref 3, .null], vm := .none },
  { cls := 6, slots := #[.null, .int 0, .int 0, .ref 2, .ref 3, .null], vm := .none },
  { cls := 6, slots := #[.null, .int 0, .int 0, .ref 2, .ref 3, .null], vm := .none },
  { cls := 6, slots := #[.null, .int 0, .int 0, .ref 19, .ref 20, .null], vm := .none },
  { cls := 9, slots := #[.ref 32, .int 0, .int 0, .int 0], vm := .none },
  { cls := 9, slots := #[.ref 33, .int 0, .int 0, .int 0], vm := .none },
  { cls := 6, slots := #[.null, .int 0, .int 0, .ref 22, .ref 23, .null], vm := .none },
  { cls := 9, slots := #[.ref 34, .int 0, .int 0, .int 0], vm := .none },
  { cls := 9, slots := #[.ref 35, .int 0, .int 0, .int 0], vm := .none },
  { cls := 12, slots := #[.int 0, .int 0, .int 0, .int 0], vm := .none },
  { cls := 12, slots := #[.int 0, .int 0, .int 0, .int 0, .int 0, .int 0], vm := .none },
  { cls := 12, slots := #[], vm := .none },
  { cls := 12, slots := #[.int 0], vm := .none },
  { cls := 12, slots := #[.int 0, .int 0, .int 0, .int 0, .int 0, .int 0, .int 0, .int 0], vm := .none },
  { cls := 12, slots := #[.int 0], vm := .none },
  { cls := 12, slots := #[.int 0, .int 0, .int 0, .int 0], vm := .none },
  { cls := 12, slots := #[.int 0, .int 0, .int 0, .int 0, .int 0, .int 0], vm := .none },
  { cls := 12, slots := #[.int 0, .int 0, .int 0], vm := .none },
  { cls := 12, slots := #[.int 0, .int 0, .int 0, .int 0, .int 0, .int 0, .int 0, .int 0], vm := .none },
  { cls := 12, slots := #[.int 0, .int 0, .int 0, .int 0], vm := .none },
  { cls := 12, slots := #[.int 0, .int 0, .int 0, .int 0, .int 0, .int 0, .int 0, .int 0, .int 0, .int 0, .int 0], vm := .none }]
def classes : Array Class := #[k0, k1, k2, k3, k4, k5, k6, k7, k8, k9, k10, k11, k12, k13, k14]
def interned : List (Array UInt16 × Addr) := []
def slotsUsed : Nat := 182
def theMethod : MethodId := ⟨1, 2⟩
def args0 : Array Value := #[.int 5]
def aboutOver (below : List Frame) : State where
  vm := { classes := classes, interned := interned.toArray }
  heap := heap
  slotsUsed := slotsUsed
  threads := #[{ frames := .invoking theMethod args0 :: below }]
def below0 : List Frame := [.native { method := ⟨0, 0⟩, args := #[] }]
def about1 : State := aboutOver below0
def p0 : Program := .bare "" "" ""
def e0 : Env := launch0.env 0 0 0
theorem w_frames : about1.frames = Frame.invoking theMethod args0 :: below0 := rfl
set_option maxRecDepth 65536 in
theorem w_args : argsFit about1.vm theMethod args0 = true := by decide +kernel
set_option maxRecDepth 65536 in
theorem w_heap : heapFits about1 = true := by decide +kernel
set_option maxRecDepth 65536 in
theorem w_runnable : about1.curStatus? = some .runnable := by decide +kernel
set_option maxRecDepth 65536 in
theorem w_alone : about1.alone = true := by decide +kernel
set_option maxRecDepth 65536 in
theorem w_named : about1.methodNamed? x = some theMethod := by decide +kernel
set_option maxRecDepth 65536 in
theorem w_hears : about1.hears theMethod below0 = true := by decide +kernel
set_option maxRecDepth 65536 in
theorem w_ripe : about1.ripe theMethod args0 below0 = true := by decide +kernel
theorem w_running : about1.status = .running := rfl
set_option maxRecDepth 65536 in
theorem w_room : about1.hasRoom e0.platform room_1 = true :=
  launch0.hasRoom_least _ room_1 (by decide +kernel) (by decide +kernel) (by decide +kernel) (by decide +kernel) (by decide +kernel) (by decide +kernel)
theorem allAtoms_all (ts : List Jvm.Cond) (a : Array Jvm.Value) (st : Jvm.State) : (allAtoms ts).before a st = ts.all (fun c => c.before a st) := by
  induction ts with
  | nil => rfl
  | cons c t ih =>
    show (Jvm.Cond.and c (allAtoms t)).before a st = _
    rw [Jvm.Cond.before_and, ih, List.all_cons]
def words1 : List Jvm.Cond := Jvm.Cond.code x code maxLocals ret :: tables_1
/-- a 'code' word, met by the world's own term for the bytes: nothing is compared byte by byte -/
theorem code_word {y : MethodName} {bytes : ByteArray} {mx : Nat} {rt : Option FieldType} {a : Array Value} {s : State} {m : MethodId} {meth : Method} {c : Code} (h1 : s.methodNamed? y = some m) (h2 : s.vm.method? m = some meth) (h3 : meth.code = some c) (h4 : c.code = bytes)
    (h5 : (c.maxLocals == mx && c.exceptionTable.isEmpty && decide (c.maxStack ≤ mostOperands) && decide (meth.sig.returnType = rt) && !meth.locks && decide (parseMethodDescriptor y.desc = some meth.sig)) = true) : (Jvm.Cond.code y bytes mx rt).before a s = true := by
  simp only [Bool.and_eq_true, beq_iff_eq, Bool.not_eq_true', decide_eq_true_eq] at h5
  obtain ⟨⟨⟨⟨⟨g1, g2⟩, g3⟩, g4⟩, g5⟩, g6⟩ := h5
  simp [Cond.before, Cond.holds, Cond.value, h1, h2, h3, h4, g1, g2, g3, g4, g5, g6]
def isCode : Jvm.Cond → Bool
  | .code _ _ _ _ => true
  | _ => false
theorem all_split {L : List Jvm.Cond} {P : Jvm.Cond → Bool} (h1 : L.all (fun c => isCode c || P c) = true) (h2 : ∀ c ∈ L.filter isCode, P c = true) : L.all P = true := by
  refine List.all_eq_true.mpr fun c hc => ?_
  have h := List.all_eq_true.mp h1 c hc
  rcases Bool.eq_false_or_eq_true (isCode c) with hi | hi
  · exact h2 c (List.mem_filter.mpr ⟨hc, hi⟩)
  · simpa [hi] using h
set_option maxRecDepth 65536 in
theorem w_c0 : (Jvm.Cond.code x code maxLocals ret).before args0 about1 = true := code_word (m := ⟨1, 2⟩) (meth := k1m2) (c := k1c2) (by decide +kernel) rfl rfl rfl (by decide +kernel)
set_option maxRecDepth 65536 in
theorem w_c1 : (Jvm.Cond.code ({ cls := "com/example/vestline/vestline/cli/OptionTakesValuePinLaw", name := "pick", desc := "(I)Lcom/example/vestline/vestline/cli/Option;" } : Jvm.MethodName) method_2_code (1 : Nat) (Option.some (Jvm.ClassFile.FieldType.object "com/example/vestline/vestline/cli/Option"))).before args0 about1 = true := code_word (m := ⟨1, 1⟩) (meth := k1m1) (c := k1c1) (by decide +kernel) rfl rfl rfl (by decide +kernel)
set_option maxRecDepth 65536 in
theorem w_c2 : (Jvm.Cond.code ({ cls := "com/example/vestline/vestline/cli/Option", name := "takesValue", desc := "()Z" } : Jvm.MethodName) prog_7_method_6_code (1 : Nat) (Option.some Jvm.ClassFile.FieldType.boolean)).before args0 about1 = true := code_word (m := ⟨6, 0⟩) (meth := k6m0) (c := k6c0) (by decide +kernel) rfl rfl rfl (by decide +kernel)
set_option maxRecDepth 65536 in
theorem w_c3 : (Jvm.Cond.code ({ cls := "java/lang/String", name := "isEmpty", desc := "()Z" } : Jvm.MethodName) jdk_42_method_55_code (1 : Nat) (Option.some Jvm.ClassFile.FieldType.boolean)).before args0 about1 = true := code_word (m := ⟨9, 1⟩) (meth := k9m1) (c := k9c1) (by decide +kernel) rfl rfl rfl (by decide +kernel)
set_option maxRecDepth 65536 in
theorem w_c4 : (Jvm.Cond.code ({ cls := "com/example/vestline/vestline/cli/Option", name := "takes", desc := "()Ljava/lang/String;" } : Jvm.MethodName) prog_7_method_7_code (1 : Nat) (Option.some (Jvm.ClassFile.FieldType.object "java/lang/String"))).before args0 about1 = true := code_word (m := ⟨6, 1⟩) (meth := k6m1) (c := k6c1) (by decide +kernel) rfl rfl rfl (by decide +kernel)
def codes1 : List Jvm.Cond := [Jvm.Cond.code x code maxLocals ret, Jvm.Cond.code ({ cls := "com/example/vestline/vestline/cli/OptionTakesValuePinLaw", name := "pick", desc := "(I)Lcom/example/vestline/vestline/cli/Option;" } : Jvm.MethodName) method_2_code (1 : Nat) (Option.some (Jvm.ClassFile.FieldType.object "com/example/vestline/vestline/cli/Option")), Jvm.Cond.code ({ cls := "com/example/vestline/vestline/cli/Option", name := "takesValue", desc := "()Z" } : Jvm.MethodName) prog_7_method_6_code (1 : Nat) (Option.some Jvm.ClassFile.FieldType.boolean), Jvm.Cond.code ({ cls := "java/lang/String", name := "isEmpty", desc := "()Z" } : Jvm.MethodName) jdk_42_method_55_code (1 : Nat) (Option.some Jvm.ClassFile.FieldType.boolean), Jvm.Cond.code ({ cls := "com/example/vestline/vestline/cli/Option", name := "takes", desc := "()Ljava/lang/String;" } : Jvm.MethodName) prog_7_method_7_code (1 : Nat) (Option.some (Jvm.ClassFile.FieldType.object "java/lang/String"))]
set_option maxRecDepth 65536 in
theorem codes_eq : words1.filter isCode = codes1 := rfl
theorem w_codes : ∀ c ∈ words1.filter isCode, c.before args0 about1 = true := by
  rw [codes_eq]
  intro c hc
  simp only [codes1, List.mem_cons, List.not_mem_nil, or_false] at hc
  rcases hc with rfl | rfl | rfl | rfl | rfl
  · exact w_c0
  · exact w_c1
  · exact w_c2
  · exact w_c3
  · exact w_c4
set_option maxRecDepth 65536 in
theorem w_t1 : (words1.take 24).all (fun c => isCode c || c.before args0 about1) = true := by decide +kernel
set_option maxRecDepth 65536 in
theorem w_t2 : ((words1.drop 24).take 24).all (fun c => isCode c || c.before args0 about1) = true := by decide +kernel
set_option maxRecDepth 65536 in
theorem w_t3 : ((words1.drop 24).drop 24).all (fun c => isCode c || c.before args0 about1) = true := by decide +kernel
theorem w_tables : (allAtoms (Jvm.Cond.code x code maxLocals ret :: tables_1)).before args0 about1 = true := by
  rw [allAtoms_all]
  show words1.all (fun c => c.before args0 about1) = true
  refine all_split ?_ w_codes
  rw [← List.take_append_drop 24 words1, List.all_append, w_t1, ← List.take_append_drop 24 (words1.drop 24), List.all_append, w_t2, w_t3]
  rfl
set_option maxRecDepth 65536 in
theorem w_case : (Jvm.Cond.and given_1 narrow_1).before args0 about1 = true := by decide +kernel
theorem w_applies : (headSpec (Jvm.Cond.code x code maxLocals ret :: tables_1) room_1).applies x e0.platform about1 = true :=
  (Spec.applies_iff w_frames).mpr ⟨w_running, w_runnable, w_alone, w_named, w_hears, w_ripe, w_room, w_tables⟩
theorem atStart : AtStart classFile x code maxLocals ret World_1 tables_1 room_1 Calls_1 rest_1 Pre_1 launch0 p0 e0 about1 theMethod args0 below0 :=
  ⟨lists_1, trivial, launch0.admits_env _ _ _, launch0.least_env, fairChoices_fair.cas, fairChoices_fair.clock, w_frames, w_args, w_heap, w_applies, trivial, trivial, w_case⟩
end start1
theorem witness_1 : WitnessClaimed_1 := ⟨start1.p0, start1.e0, start1.about1, start1.theMethod, start1.args0, start1.below0, start1.atStart⟩
end Jvm.Pilot.@@N@@
