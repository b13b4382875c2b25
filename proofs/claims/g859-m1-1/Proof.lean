import JvmDerived
import JvmDerived.Pilot.@@N@@Statement
import JvmDerived.Pilot.@@N@@Code
set_option linter.unusedVariables false
set_option linter.unusedSimpArgs false
namespace Jvm.Pilot.@@N@@
open Jvm Jvm.ClassFile Sem Op Lib Jvm.Free Jvm.Stand Jvm.LawKit Jvm.RoadKit Bundle Jvm.Pilot.@@N@@.Jvm.D
section OwnKit
variable {p : Program} {l : Launch} {e : Env} {R : Room} {s : State} {m : MethodId} {args : Array Value} {below : List Frame} {meth : Method} {c : Code} {T : State} {locs : List Loc} {cells slots : Nat} {Z : State} {a0 : Array Value} {h : Heap}
/-- from S on the run comes to the method's end, and there Q holds -/
def own_Fin (p : Program) (e : Env) (below : List Frame) (s : State) (Q : Option Value → Heap → List Loc → Prop) (rc rs : Nat) (S : State) : Prop :=
  ∃ s₂ o, Steps p.tables e below S s₂ ∧ s₂.status = .running ∧ Ended s₂ below o ∧ ∃ v L, o = .returned v ∧ Q v s₂.heap L ∧ FrameEnd s o s₂ L rc rs
theorem own_step {Q : Option Value → Heap → List Loc → Prop} {rc rs : Nat} {S S' : State} (k : ∀ t, Steps p.tables e below S' t → Steps p.tables e below S t) (hF : own_Fin p e below s Q rc rs S') : own_Fin p e below s Q rc rs S := by
  obtain ⟨s₂, o, h1, r⟩ := hF
  exact ⟨s₂, o, k _ h1, r⟩
abbrev own_Met (l : Launch) (y : MethodName) (bytes : ByteArray) (maxL : Nat) (ret : Option FieldType) (ws : List Jvm.Cond) (rm : Room) (Z : State) (as' : Array Value) (h0 : Heap) (Q : Option Value → Heap → List Loc → Prop) : Prop :=
  MetFree l y (head1 (Jvm.Cond.code y bytes maxL ret :: ws) rm) (fun a U => a = as' ∧ Z.Warmed39 U.vm ∧ U.heap = h0) (fun _ _ _ _ _ => True) (fun _ U o U' => ∃ v L, o = .returned v ∧ Q v U'.heap L ∧ FrameEnd U o U' L rm.cells rm.slots)
theorem own_body {y : MethodName} {bytes : ByteArray} {maxL : Nat} {ret : Option FieldType} {ws : List Jvm.Cond} {rm : Room} {as' : Array Value} {h0 : Heap} {Q : Option Value → Heap → List Loc → Prop} (hy : plainFor y = true)
    (hB : ∀ (p : Program) (e : Env) (s : State) (m : MethodId) (below : List Frame) (meth : Method) (c : Code) (s₁ : State), Stand p l e rm s m as' below meth c s₁ [] 0 0 → p.tables.exec = Jvm.exec → c.code = bytes → c.maxLocals = maxL → s.vm.findClass y.cls = some m.cls → meth.name = y.name → meth.sig.returnType = ret → meth.locks = false → Z.Warmed39 s.vm → s₁.heap = h0 →
      own_Fin p e below s Q rm.cells rm.slots (s₁.setTop (entryFrame m as' maxL))) : own_Met l y bytes maxL ret ws rm Z as' h0 Q := by
  refine MetFree.of_bodySF hy hisR ?_
  intro p e s m args below meth c s₁ Bd hml0 hP hK
  obtain ⟨rfl, hZ, hh⟩ := hP
  exact hB p e s m below meth c s₁ (Stand.of_body Bd) Bd.exec Bd.bytes hml0 (findClass_of_methodNamed Bd.named) (name_of_methodNamed Bd.named Bd.method).1 Bd.returns Bd.notSynchronized hZ (by rw [← hh, Bd.state]; rfl)
theorem own_ret {Q : Option Value → Heap → List Loc → Prop} {rc rs : Nat} {S : State} {v : Option Value} (X : Stand p l e R s m args below meth c T locs cells slots) (hlk : meth.locks = false) (hv : meth.sig.returnType = none → v = none)
    (hst : ∀ fs, (∀ (f : JFrame) (acts : List Action), f.method = m → f.locked = none → f.entered = [] → (doReturn e (T.setTop f) acts v).1 = T.setFrames fs) → Steps p.tables e below S (T.setFrames fs))
    (hc : cells ≤ rc) (hs : slots ≤ rs) (hQ : Q v T.heap locs) : own_Fin p e below s Q rc rs S := by
  obtain ⟨fs, hr, hrun, hended, hW, hsame⟩ := X.leave (v := v) hv hlk
  exact ⟨_, _, hst fs hr, hrun, hended, _, _, rfl, hQ, ⟨_, rfl⟩, hW, hsame.mono hc hs⟩
theorem own_retV {Q : Option Value → Heap → List Loc → Prop} {rc rs : Nat} {pc : Nat} {Ls : Array Slot} (X : Stand p l e R s m args below meth c T locs cells slots) (hx : p.tables.exec = Jvm.exec) (hlk : meth.locks = false) (hret : meth.sig.returnType = none) (hd : decode c.code pc = .ok (.return_, 1))
    (hc : cells ≤ rc) (hs : slots ≤ rs) (hQ : Q none T.heap locs) : own_Fin p e below s Q rc rs (T.setTop (mkF m pc Ls [])) :=
  own_ret X hlk (fun _ => rfl) (fun fs hr => X.returnOut hx hret hd hr) hc hs hQ
theorem own_retI {Q : Option Value → Heap → List Loc → Prop} {rc rs : Nat} {pc : Nat} {Ls : Array Slot} {z : Int32} (X : Stand p l e R s m args below meth c T locs cells slots) (hx : p.tables.exec = Jvm.exec) (hlk : meth.locks = false) (hret : meth.sig.returnType = some .int) (hd : decode c.code pc = .ok (.ireturn, 1))
    (hc : cells ≤ rc) (hs : slots ≤ rs) (hQ : Q (some (.int z)) T.heap locs) : own_Fin p e below s Q rc rs (T.setTop (mkF m pc Ls [.int z])) :=
  own_ret X hlk (fun q => by rw [hret] at q; cases q) (fun fs hr => retOut X hx hret rfl (Or.inl ⟨rfl, Or.inl rfl, z, rfl⟩) hd hr) hc hs hQ
theorem own_retL {Q : Option Value → Heap → List Loc → Prop} {rc rs : Nat} {pc : Nat} {Ls : Array Slot} {z : Int64} (X : Stand p l e R s m args below meth c T locs cells slots) (hx : p.tables.exec = Jvm.exec) (hlk : meth.locks = false) (hret : meth.sig.returnType = some .long) (hd : decode c.code pc = .ok (.lreturn, 1))
    (hc : cells ≤ rc) (hs : slots ≤ rs) (hQ : Q (some (.long z)) T.heap locs) : own_Fin p e below s Q rc rs (T.setTop (mkF m pc Ls [.long z])) :=
  own_ret X hlk (fun q => by rw [hret] at q; cases q) (fun fs hr => retOut X hx hret rfl (Or.inr (Or.inl ⟨rfl, rfl, z, rfl⟩)) hd hr) hc hs hQ
theorem own_retA {Q : Option Value → Heap → List Loc → Prop} {rc rs : Nat} {pc : Nat} {Ls : Array Slot} {w : Value} {t : FieldType} (X : Stand p l e R s m args below meth c T locs cells slots) (hx : p.tables.exec = Jvm.exec) (hlk : meth.locks = false) (hret : meth.sig.returnType = some t) (ht : t.isReference = true) (hn : narrow t w = w) (hw : w.isRef = true) (hd : decode c.code pc = .ok (.areturn, 1))
    (hc : cells ≤ rc) (hs : slots ≤ rs) (hQ : Q (some w) T.heap locs) : own_Fin p e below s Q rc rs (T.setTop (mkF m pc Ls [w])) :=
  own_ret X hlk (fun q => by rw [hret] at q; cases q) (fun fs hr => retOut X hx hret hn (Or.inr (Or.inr (Or.inr (Or.inr ⟨rfl, ht, hw⟩)))) hd hr) hc hs hQ
/-- a boolean, byte, char or short that already fits -/
theorem own_retN {Q : Option Value → Heap → List Loc → Prop} {rc rs : Nat} {pc : Nat} {Ls : Array Slot} {z : Int32} {t : FieldType} (X : Stand p l e R s m args below meth c T locs cells slots) (hx : p.tables.exec = Jvm.exec) (hlk : meth.locks = false) (hret : meth.sig.returnType = some t) (ht : t = .boolean ∨ t = .byte ∨ t = .char ∨ t = .short) (hn : nar t z = z) (hd : decode c.code pc = .ok (.ireturn, 1))
    (hc : cells ≤ rc) (hs : slots ≤ rs) (hQ : Q (some (.int z)) T.heap locs) : own_Fin p e below s Q rc rs (T.setTop (mkF m pc Ls [.int z])) :=
  own_ret X hlk (fun q => by rw [hret] at q; cases q) (fun fs hr => retN X hx hret ht hd (by rw [hn]; exact hr)) hc hs hQ
section Calls
variable {y z : MethodName} {bytes : ByteArray} {maxL W : Nat} {ret : Option FieldType} {rm : Room} {Q : Option Value → Heap → List Loc → Prop} {own C : String} {index : Nat} {b : Addr} {argsL rest : List Value} {g : JFrame}
theorem own_virt (X : Stand p l e R s m args below meth c T locs cells slots) (hx : p.tables.exec = Jvm.exec) (hZ : Z.Warmed39 s.vm) (hown : s.vm.findClass own = some m.cls) (w1 : (Jvm.Cond.methodLink own index y).before a0 Z = true) (w2 : (Jvm.Cond.declares y).before a0 Z = true) (nf : NotFace s y) (w3 : (Jvm.Cond.selects C y z).before a0 Z = true) (w4 : (Jvm.Cond.instanceMethod z).before a0 Z = true) (hy : y.cls ≠ "java/lang/invoke/MethodHandle" ∧ y.cls ≠ "java/lang/invoke/VarHandle")
    (wc : (Jvm.Cond.code z bytes maxL ret).before a0 Z = true) (wz : (Jvm.Cond.initialized z.cls).before a0 Z = true) (eT : T.heap = h) (E : Exa Z h b C) (hM : own_Met l z bytes maxL ret [] rm Z (.ref b :: argsL).toArray h Q) (hg : g.method = m) (hsize : g.locals.size = c.maxLocals) (hlen : ∀ sig, parseMethodDescriptor y.desc = some sig → argsL.length = sig.parameters.length)
    (hstack : g.stack = argsL.reverse ++ .ref b :: rest) (hW : 2 * g.monitorRoom + (rest.map fun v => v.category).sum ≤ W) (hd : decode c.code g.pc = .ok (.invokevirtual index, 3)) (hf : rm.frames + 1 ≤ R.frames) (hl : W + (maxL + 11) + rm.locals ≤ R.locals) (hc : cells + rm.cells ≤ R.cells) (hs : slots + rm.slots ≤ R.slots) :
    ∃ (v : Option Value) (T' : State) (L : List Loc), Stand p l e R s m args below meth c T' (locs ++ L) (cells + rm.cells) (slots + rm.slots) ∧ Q v T'.heap L ∧ ∀ t, Steps p.tables e below (T'.setTop { g with pc := g.pc + 3, stack := v.toList ++ rest }) t → Steps p.tables e below (T.setTop g) t := by
  obtain ⟨cq, kq, qa, qb, qc⟩ := isOf hZ eT E
  obtain ⟨v, vm1, ⟨T', L', k', n'⟩, -, X', ⟨L, hQ, hl', hk', hn'⟩, st⟩ := X.virtualBack hx (y := y) (z := z) hown (mvT hZ w1) (mvT hZ w2) nf (mvT hZ w3) (mvT hZ w4) hy (backOf (W := W) hM hZ wc wz hf hl) qa qc hg hsize (Steps.refl _) hlen hstack hW hd (fun _ _ => ⟨rfl, eT, hc, hs⟩)
  dsimp only [Pt.U, Pt.locs, Pt.cells, Pt.slots] at X' hl' hk' hn' st hQ
  subst hl' hk' hn'
  exact ⟨v, T', L, X', hQ, fun t k => st.trans k⟩
/-- a method that a superclass declares, named through the subclass -/
theorem own_virtUp {owner : String} (X : Stand p l e R s m args below meth c T locs cells slots) (hx : p.tables.exec = Jvm.exec) (hZ : Z.Warmed39 s.vm) (hown : s.vm.findClass own = some m.cls) (w1 : (Jvm.Cond.methodLink own index y).before a0 Z = true) (ws : (Jvm.Cond.sameMethod y.cls owner y.name y.desc).before a0 Z = true) (w2 : (Jvm.Cond.declares ⟨owner, y.name, y.desc⟩).before a0 Z = true) (ho : owner ≠ "java/lang/invoke/MethodHandle" ∧ owner ≠ "java/lang/invoke/VarHandle") (w3 : (Jvm.Cond.selects C y z).before a0 Z = true) (w4 : (Jvm.Cond.instanceMethod z).before a0 Z = true)
    (wc : (Jvm.Cond.code z bytes maxL ret).before a0 Z = true) (wz : (Jvm.Cond.initialized z.cls).before a0 Z = true) (eT : T.heap = h) (E : Exa Z h b C) (hM : own_Met l z bytes maxL ret [] rm Z (.ref b :: argsL).toArray h Q) (hg : g.method = m) (hsize : g.locals.size = c.maxLocals) (hlen : ∀ sig, parseMethodDescriptor y.desc = some sig → argsL.length = sig.parameters.length)
    (hstack : g.stack = argsL.reverse ++ .ref b :: rest) (hW : 2 * g.monitorRoom + (rest.map fun v => v.category).sum ≤ W) (hd : decode c.code g.pc = .ok (.invokevirtual index, 3)) (hf : rm.frames + 1 ≤ R.frames) (hl : W + (maxL + 11) + rm.locals ≤ R.locals) (hc : cells + rm.cells ≤ R.cells) (hs : slots + rm.slots ≤ R.slots) :
    ∃ (v : Option Value) (T' : State) (L : List Loc), Stand p l e R s m args below meth c T' (locs ++ L) (cells + rm.cells) (slots + rm.slots) ∧ Q v T'.heap L ∧ ∀ t, Steps p.tables e below (T'.setTop { g with pc := g.pc + 3, stack := v.toList ++ rest }) t → Steps p.tables e below (T.setTop g) t := by
  obtain ⟨cq, kq, qa, qb, qc⟩ := isOf hZ eT E
  obtain ⟨v, vm1, ⟨T', L', k', n'⟩, -, X', ⟨L, hQ, hl', hk', hn'⟩, st⟩ := X.virtualBackUp hx (x := y) (y := z) hown (mvT hZ w1) (mvT hZ ws) (mvT hZ w2) ho (mvT hZ w3) (mvT hZ w4) (backOf (W := W) hM hZ wc wz hf hl) qa qc hg hsize (Steps.refl _) hlen hstack hW hd (fun _ _ => ⟨rfl, eT, hc, hs⟩)
  dsimp only [Pt.U, Pt.locs, Pt.cells, Pt.slots] at X' hl' hk' hn' st hQ
  subst hl' hk' hn'
  exact ⟨v, T', L, X', hQ, fun t k => st.trans k⟩
theorem own_stat (X : Stand p l e R s m args below meth c T locs cells slots) (hx : p.tables.exec = Jvm.exec) (hZ : Z.Warmed39 s.vm) (hown : s.vm.findClass own = some m.cls) (w1 : (Jvm.Cond.methodLink own index y).before a0 Z = true) (w2 : (Jvm.Cond.static y).before a0 Z = true) (hy : y.cls ≠ "java/lang/invoke/MethodHandle" ∧ y.cls ≠ "java/lang/invoke/VarHandle")
    (wc : (Jvm.Cond.code y bytes maxL ret).before a0 Z = true) (wz : (Jvm.Cond.initialized y.cls).before a0 Z = true) (eT : T.heap = h) (hM : own_Met l y bytes maxL ret [] rm Z argsL.toArray h Q) (hg : g.method = m) (hsize : g.locals.size = c.maxLocals) (hlen : ∀ sig, parseMethodDescriptor y.desc = some sig → argsL.length = sig.parameters.length)
    (hstack : g.stack = argsL.reverse ++ rest) (hW : 2 * g.monitorRoom + (rest.map fun v => v.category).sum ≤ W) (hd : decode c.code g.pc = .ok (.invokestatic index, 3)) (hf : rm.frames + 1 ≤ R.frames) (hl : W + (maxL + 11) + rm.locals ≤ R.locals) (hc : cells + rm.cells ≤ R.cells) (hs : slots + rm.slots ≤ R.slots) :
    ∃ (v : Option Value) (T' : State) (L : List Loc), Stand p l e R s m args below meth c T' (locs ++ L) (cells + rm.cells) (slots + rm.slots) ∧ Q v T'.heap L ∧ ∀ t, Steps p.tables e below (T'.setTop { g with pc := g.pc + 3, stack := v.toList ++ rest }) t → Steps p.tables e below (T.setTop g) t := by
  obtain ⟨v, vm1, ⟨T', L', k', n'⟩, -, X', ⟨L, hQ, hl', hk', hn'⟩, st⟩ := Jvm.LawKit.callS X hx (y := y) hown (mvT hZ w1) (mvT hZ w2) (mvT hZ wz) (mvT hZ wc) hy (backOf (W := W) hM hZ wc wz hf hl) hg hsize hlen hstack hW hd (fun _ _ => ⟨rfl, eT, hc, hs⟩)
  dsimp only [Pt.U, Pt.locs, Pt.cells, Pt.slots] at X' hl' hk' hn' st hQ
  subst hl' hk' hn'
  exact ⟨v, T', L, X', hQ, st⟩
theorem own_spec {bytes : ByteArray} {maxL : Nat} (X : Stand p l e R s m args below meth c T locs cells slots) (hx : p.tables.exec = Jvm.exec) (hZ : Z.Warmed39 s.vm) (hy1 : y.name = "<init>") (hown : s.vm.findClass own = some m.cls) (w1 : (Jvm.Cond.methodLink own index y).before a0 Z = true) (w2 : (Jvm.Cond.instanceMethod y).before a0 Z = true) (hy : y.cls ≠ "java/lang/invoke/MethodHandle" ∧ y.cls ≠ "java/lang/invoke/VarHandle")
    (wc : (Jvm.Cond.code y bytes maxL none).before a0 Z = true) (wz : (Jvm.Cond.initialized y.cls).before a0 Z = true) (eT : T.heap = h) (hM : own_Met l y bytes maxL none [] rm Z (.ref b :: argsL).toArray h Q) (hg : g.method = m) (hsize : g.locals.size = c.maxLocals) (hlen : ∀ sig, parseMethodDescriptor y.desc = some sig → argsL.length = sig.parameters.length)
    (hstack : g.stack = argsL.reverse ++ .ref b :: rest) (hW : 2 * g.monitorRoom + (rest.map fun v => v.category).sum ≤ W) (hd : decode c.code g.pc = .ok (.invokespecial index, 3)) (hf : rm.frames + 1 ≤ R.frames) (hl : W + (maxL + 11) + rm.locals ≤ R.locals) (hc : cells + rm.cells ≤ R.cells) (hs : slots + rm.slots ≤ R.slots) :
    ∃ (v : Option Value) (T' : State) (L : List Loc), Stand p l e R s m args below meth c T' (locs ++ L) (cells + rm.cells) (slots + rm.slots) ∧ Q v T'.heap L ∧ ∀ t, Steps p.tables e below (T'.setTop { g with pc := g.pc + 3, stack := v.toList ++ rest }) t → Steps p.tables e below (T.setTop g) t := by
  obtain ⟨v, vm1, ⟨T', L', k', n'⟩, -, X', ⟨L, hQ, hl', hk', hn'⟩, st⟩ := X.specialBack hx (y := y) hy1 hown (mvT hZ w1) (mvT hZ w2) (mvT hZ wc) hy (backOf (W := W) hM hZ wc wz hf hl) hg hsize (Steps.refl _) hlen hstack hW hd (fun _ _ => ⟨rfl, eT, hc, hs⟩)
  dsimp only [Pt.U, Pt.locs, Pt.cells, Pt.slots] at X' hl' hk' hn' st hQ
  subst hl' hk' hn'
  exact ⟨v, T', L, X', hQ, fun t k => st.trans k⟩
end Calls
section Words
variable {first : State} {o : Option Outcome} {idx : List Nat} {a b t : Term} {v : Value} {C n d : String}
theorem own_eqI {k : Int32} (hq : (Jvm.Cond.eq a (.int k)).value args first o s idx = some true) : a.eval args first o idx s = some (.int k) := by
  cases ha : a.eval args first o idx s with
  | none => simp [Cond.value, ha] at hq
  | some x => cases x <;> simp [Cond.value, ha, Term.eval] at hq ⊢ <;> exact hq
theorem own_eqR {y : Addr} (hb : b.eval args first o idx s = some (.ref y)) (hq : (Jvm.Cond.eq a b).value args first o s idx = some true) : a.eval args first o idx s = some (.ref y) := by
  cases ha : a.eval args first o idx s with
  | none => simp [Cond.value, ha] at hq
  | some x => cases x <;> simp [Cond.value, ha, hb] at hq ⊢ <;> exact hq
theorem own_fld {x : Addr} (ht : t.eval args Z none [] Z = some (.ref x)) (hq : (Term.field t C n d).eval args Z none [] Z = some v) : Fld Z Z.heap x C n d v := Fld.start ((fld_at ht).symm.trans hq)
/-- an array of a known length -/
def own_Aln (Z : State) (h : Heap) (a : Addr) (ty : FieldType) (n : Int32) : Prop := ∃ c : Cell, Arr Z h a c ty ∧ c.slots.size = n.toNatClampNeg ∧ ¬ n < 0
theorem own_len {a : Addr} {cl : Cell} {ty : FieldType} {k : Int32} (ht : t.eval args Z none [] Z = some (.ref a)) (A : Arr Z Z.heap a cl ty) (hq : (Term.length t).eval args Z none [] Z = some (.int k)) (hk : ¬ k < 0 := by decide) : own_Aln Z Z.heap a ty k := by
  have hc : Z.arrayAt? a = some cl := A.fin (Vm.Alike.refl _)
  simp only [Term.eval, ht, hc, Option.bind_eq_bind, Option.bind_some] at hq
  by_cases hb : cl.slots.size < 2 ^ 31
  · simp only [hb, if_true, Option.pure_def, Option.some.injEq, Value.int.injEq] at hq
    refine ⟨cl, A, ?_, hk⟩
    have h1 := len_toInt hb
    rw [hq] at h1
    have h2 := nat_of hk
    omega
  · simp [hb] at hq
end Words
theorem own_exaStat {a : Addr} {C : String} (F : Exa Z h a C) : ∀ cell : Cell, h[a]? = some cell → cell.vm.isStatics = false := fun cell hc => by
  obtain ⟨c', _, h1, -, -, h4, -⟩ := F
  cases h1.symm.trans hc
  exact h4
theorem own_staKeep {h' : Heap} {C n d : String} {v : Value} {ws : List Addr} (F : Sta Z h C n d v) (K : Keep h h' ws) (q : ∀ x ∈ ws, ∀ cell : Cell, h[x]? = some cell → cell.vm.isStatics = false) : Sta Z h' C n d v := by
  obtain ⟨cf, i, k, f, st, cell, h1, h2, h3, h4, h5, h6, h7⟩ := F
  exact ⟨cf, i, k, f, st, cell, h1, h2, h3, h4, K.2.1 st cell h5 (fun hm => by rw [q st hm cell h5] at h6; cases h6), h6, h7⟩
theorem own_ite {α : Type} (P : Prop) (x y : α) : ∃ z : α, (P → z = x) ∧ (¬ P → z = y) := by
  by_cases hP : P
  · exact ⟨x, fun _ => rfl, fun q => absurd hP q⟩
  · exact ⟨y, fun q => absurd q hP, fun _ => rfl⟩
theorem own_irr (x : Int64) : ¬ x < x := by simp
theorem own_tri (x y : Int64) : x < y ∨ x = y ∨ y < x := by
  simp only [Int64.lt_iff_toInt_lt, ← Int64.toInt_inj]
  omega
theorem own_asym {x y : Int64} (q : x < y) : ¬ y < x := by
  simp only [Int64.lt_iff_toInt_lt] at *
  omega
theorem own_ltne {x y : Int64} (q : x < y) : ¬ x = y := fun u => own_irr _ (u ▸ q)
theorem own_gtne {x y : Int64} (q : y < x) : ¬ x = y := fun u => own_irr _ (u ▸ q)
end OwnKit
theorem d1_0 : decode prog_60_method_4_code 0 = .ok (.aload_n 0, 1) := by decide +kernel
theorem d1_1 : decode prog_60_method_4_code 1 = .ok (.getstatic 3, 3) := by decide +kernel
theorem d1_4 : decode prog_60_method_4_code 4 = .ok (.if_acmp .ne 17, 3) := by decide +kernel
theorem d1_7 : decode prog_60_method_4_code 7 = .ok (.lload_n 1, 1) := by decide +kernel
theorem d1_8 : decode prog_60_method_4_code 8 = .ok (.lload_n 3, 1) := by decide +kernel
theorem d1_9 : decode prog_60_method_4_code 9 = .ok (.lcmp, 1) := by decide +kernel
theorem d1_10 : decode prog_60_method_4_code 10 = .ok (.ifCond .gt 7, 3) := by decide +kernel
theorem d1_13 : decode prog_60_method_4_code 13 = .ok (.iconst 1, 1) := by decide +kernel
theorem d1_14 : decode prog_60_method_4_code 14 = .ok (.goto 18, 3) := by decide +kernel
theorem d1_17 : decode prog_60_method_4_code 17 = .ok (.iconst 0, 1) := by decide +kernel
theorem d1_18 : decode prog_60_method_4_code 18 = .ok (.goto 14, 3) := by decide +kernel
theorem d1_21 : decode prog_60_method_4_code 21 = .ok (.lload_n 1, 1) := by decide +kernel
theorem d1_22 : decode prog_60_method_4_code 22 = .ok (.lload_n 3, 1) := by decide +kernel
theorem d1_23 : decode prog_60_method_4_code 23 = .ok (.lcmp, 1) := by decide +kernel
theorem d1_24 : decode prog_60_method_4_code 24 = .ok (.ifCond .lt 7, 3) := by decide +kernel
theorem d1_27 : decode prog_60_method_4_code 27 = .ok (.iconst 1, 1) := by decide +kernel
theorem d1_28 : decode prog_60_method_4_code 28 = .ok (.goto 4, 3) := by decide +kernel
theorem d1_31 : decode prog_60_method_4_code 31 = .ok (.iconst 0, 1) := by decide +kernel
theorem d1_32 : decode prog_60_method_4_code 32 = .ok (.ireturn, 1) := by decide +kernel
theorem pn_0 : plainName "com/example/kurslot/kurslot/rates/AuctionSide" = true := by first | (simp [plainName, overriddenIn]; done) | decide +kernel
set_option maxRecDepth 65536 in
set_option maxHeartbeats 40000000 in
theorem rmB_0 (l : Launch) (Z : State) (a0 : Array Value) (hw : ∀ d ∈ tables_1, d.before a0 Z = true) (ws : List Jvm.Cond) (wB : Addr) (q1 : Int64) (q2 : Int64) (h0 : Heap) (n0 : Nat) (Z0 : n0 ≤ h0.size) (SB : Sta Z h0 "com/example/kurslot/kurslot/rates/AuctionSide" "BORROW" "Lcom/example/kurslot/kurslot/rates/AuctionSide;" (.ref wB)) (hq : q2 < q1) :
    own_Met l (⟨"com/example/kurslot/kurslot/rates/AuctionSide", "admits", "(JJ)Z"⟩ : MethodName) prog_60_method_4_code 5 (some .boolean) ws ({ frames := 0, cells := 0, slots := 0, locals := 0 } : Room) Z #[(.ref wB), (.long q1), (.long q2)] h0 (fun v h L => v = some (.int 0) ∧ Fr n0 L ∧ h = h0) := by
  refine own_body (plainFor_of_name pn_0) ?_
  intro p e s m below meth c s₁ X0 hx hby hml hown hnm hret hlk hZ e0
  replace hown : s.vm.findClass "com/example/kurslot/kurslot/rates/AuctionSide" = some m.cls := hown
  replace hml : c.maxLocals = 5 := hml
  replace hret : meth.sig.returnType = (some .boolean) := hret
  have N0 := Fr.nil n0
  have ef : entryFrame m #[(.ref wB), (.long q1), (.long q2)] 5 = mkF m 0 #[.val (.ref wB), .val (.long q1), .second, .val (.long q2), .second] [] := by first | (simp [entryFrame, mkF, argsToLocals, Value.category]; done) | rfl
  refine own_step (S' := (s₁.setTop (mkF m 0 #[.val (.ref wB), .val (.long q1), .second, .val (.long q2), .second] []))) (fun _ k => castTop ef k) ?_
  refine own_step (S' := (s₁.setTop (mkF m 1 #[.val (.ref wB), .val (.long q1), .second, .val (.long q2), .second] [(.ref wB)]))) (fun _ k => XS.aloadN X0.here hx rfl (hb hby d1_0) rfl rfl k) ?_
  obtain ⟨T1, X1, e1, st1⟩ := getS2 X0 hx hZ hown (host := "") (Or.inl (hw _ (List.mem_of_getElem? (i := 8) rfl))) Via.refl e0 SB (g := (mkF m 1 #[.val (.ref wB), .val (.long q1), .second, .val (.long q2), .second] [(.ref wB)])) rfl (hb hby d1_1)
  refine own_step (S' := (T1.setTop (mkF m 4 #[.val (.ref wB), .val (.long q1), .second, .val (.long q2), .second] [(.ref wB), (.ref wB)]))) (fun _ k => st1 _ k) ?_
  refine own_step (S' := (T1.setTop (mkF m 7 #[.val (.ref wB), .val (.long q1), .second, .val (.long q2), .second] []))) (fun _ k => Jvm.RoadKit.acmp (g := (mkF m 4 #[.val (.ref wB), .val (.long q1), .second, .val (.long q2), .second] [(.ref wB), (.ref wB)])) X1 hx rfl rfl rfl (pc0 := 4) (pc' := 7) (same := true) rfl (hb hby d1_4) rfl (decide_eq_true rfl) (by decide) (by decide) k) ?_
  refine own_step (S' := (T1.setTop (mkF m 8 #[.val (.ref wB), .val (.long q1), .second, .val (.long q2), .second] [(.long q1)]))) (fun _ k => XS.lloadN X1.here hx rfl (hb hby d1_7) rfl k) ?_
  refine own_step (S' := (T1.setTop (mkF m 9 #[.val (.ref wB), .val (.long q1), .second, .val (.long q2), .second] [(.long q2), (.long q1)]))) (fun _ k => XS.lloadN X1.here hx rfl (hb hby d1_8) rfl k) ?_
  refine own_step (S' := (T1.setTop (mkF m 10 #[.val (.ref wB), .val (.long q1), .second, .val (.long q2), .second] [(.int (lcmpW q1 q2))]))) (fun _ k => XS.lcmp X1.here hx rfl (hb hby d1_9) rfl k) ?_
  refine own_step (S' := (T1.setTop (mkF m 17 #[.val (.ref wB), .val (.long q1), .second, .val (.long q2), .second] []))) (fun _ k => XS.ifYes X1.here hx rfl (pc0 := 10) (pc' := 17) rfl (hb hby d1_10) rfl ((if0 _ _).trans (tlt ((lw_gt q1 q2).mpr hq)).2.2.1) (by decide) (by decide) k) ?_
  refine own_step (S' := (T1.setTop (mkF m 18 #[.val (.ref wB), .val (.long q1), .second, .val (.long q2), .second] [(.int (0 : Int32))]))) (fun _ k => XS.iconst X1.here hx rfl (hb hby d1_17) k) ?_
  refine own_step (S' := (T1.setTop (mkF m 32 #[.val (.ref wB), .val (.long q1), .second, .val (.long q2), .second] [(.int (0 : Int32))]))) (fun _ k => XS.goto X1.here hx rfl (pc0 := 18) (pc' := 32) rfl (hb hby d1_18) (by decide) (by decide) k) ?_
  refine own_retN X1 hx hlk hret (by simp) (by decide) (hb hby d1_32) (by decide) (by decide) ?_
  try rw [e1]
  exact ⟨rfl, N0, rfl⟩
set_option maxRecDepth 65536 in
set_option maxHeartbeats 40000000 in
theorem rmL_0 (l : Launch) (Z : State) (a0 : Array Value) (hw : ∀ d ∈ tables_1, d.before a0 Z = true) (ws : List Jvm.Cond) (wB a : Addr) (q1 : Int64) (q2 : Int64) (h0 : Heap) (n0 : Nat) (Z0 : n0 ≤ h0.size) (SB : Sta Z h0 "com/example/kurslot/kurslot/rates/AuctionSide" "BORROW" "Lcom/example/kurslot/kurslot/rates/AuctionSide;" (.ref wB)) (hn : a ≠ wB) (hq : q1 < q2) :
    own_Met l (⟨"com/example/kurslot/kurslot/rates/AuctionSide", "admits", "(JJ)Z"⟩ : MethodName) prog_60_method_4_code 5 (some .boolean) ws ({ frames := 0, cells := 0, slots := 0, locals := 0 } : Room) Z #[(.ref a), (.long q1), (.long q2)] h0 (fun v h L => v = some (.int 0) ∧ Fr n0 L ∧ h = h0) := by
  refine own_body (plainFor_of_name pn_0) ?_
  intro p e s m below meth c s₁ X0 hx hby hml hown hnm hret hlk hZ e0
  replace hown : s.vm.findClass "com/example/kurslot/kurslot/rates/AuctionSide" = some m.cls := hown
  replace hml : c.maxLocals = 5 := hml
  replace hret : meth.sig.returnType = (some .boolean) := hret
  have N0 := Fr.nil n0
  have ef : entryFrame m #[(.ref a), (.long q1), (.long q2)] 5 = mkF m 0 #[.val (.ref a), .val (.long q1), .second, .val (.long q2), .second] [] := by first | (simp [entryFrame, mkF, argsToLocals, Value.category]; done) | rfl
  refine own_step (S' := (s₁.setTop (mkF m 0 #[.val (.ref a), .val (.long q1), .second, .val (.long q2), .second] []))) (fun _ k => castTop ef k) ?_
  refine own_step (S' := (s₁.setTop (mkF m 1 #[.val (.ref a), .val (.long q1), .second, .val (.long q2), .second] [(.ref a)]))) (fun _ k => XS.aloadN X0.here hx rfl (hb hby d1_0) rfl rfl k) ?_
  obtain ⟨T2, X2, e2, st2⟩ := getS2 X0 hx hZ hown (host := "") (Or.inl (hw _ (List.mem_of_getElem? (i := 8) rfl))) Via.refl e0 SB (g := (mkF m 1 #[.val (.ref a), .val (.long q1), .second, .val (.long q2), .second] [(.ref a)])) rfl (hb hby d1_1)
  refine own_step (S' := (T2.setTop (mkF m 4 #[.val (.ref a), .val (.long q1), .second, .val (.long q2), .second] [(.ref wB), (.ref a)]))) (fun _ k => st2 _ k) ?_
  refine own_step (S' := (T2.setTop (mkF m 21 #[.val (.ref a), .val (.long q1), .second, .val (.long q2), .second] []))) (fun _ k => Jvm.RoadKit.acmp (g := (mkF m 4 #[.val (.ref a), .val (.long q1), .second, .val (.long q2), .second] [(.ref wB), (.ref a)])) X2 hx rfl rfl rfl (pc0 := 4) (pc' := 21) (same := false) rfl (hb hby d1_4) rfl (decide_eq_false fun q => hn (Value.ref.inj q)) (by decide) (by decide) k) ?_
  refine own_step (S' := (T2.setTop (mkF m 22 #[.val (.ref a), .val (.long q1), .second, .val (.long q2), .second] [(.long q1)]))) (fun _ k => XS.lloadN X2.here hx rfl (hb hby d1_21) rfl k) ?_
  refine own_step (S' := (T2.setTop (mkF m 23 #[.val (.ref a), .val (.long q1), .second, .val (.long q2), .second] [(.long q2), (.long q1)]))) (fun _ k => XS.lloadN X2.here hx rfl (hb hby d1_22) rfl k) ?_
  refine own_step (S' := (T2.setTop (mkF m 24 #[.val (.ref a), .val (.long q1), .second, .val (.long q2), .second] [(.int (lcmpW q1 q2))]))) (fun _ k => XS.lcmp X2.here hx rfl (hb hby d1_23) rfl k) ?_
  refine own_step (S' := (T2.setTop (mkF m 31 #[.val (.ref a), .val (.long q1), .second, .val (.long q2), .second] []))) (fun _ k => XS.ifYes X2.here hx rfl (pc0 := 24) (pc' := 31) rfl (hb hby d1_24) rfl ((if0 _ _).trans (tlt ((lw_lt q1 q2).mpr hq)).1) (by decide) (by decide) k) ?_
  refine own_step (S' := (T2.setTop (mkF m 32 #[.val (.ref a), .val (.long q1), .second, .val (.long q2), .second] [(.int (0 : Int32))]))) (fun _ k => XS.iconst X2.here hx rfl (hb hby d1_31) k) ?_
  refine own_retN X2 hx hlk hret (by simp) (by decide) (hb hby d1_32) (by decide) (by decide) ?_
  try rw [e2]
  exact ⟨rfl, N0, rfl⟩
theorem d2_0 : decode jdk_29_method_70_code 0 = .ok (.lload_n 0, 1) := by decide +kernel
theorem d2_1 : decode jdk_29_method_70_code 1 = .ok (.lload_n 2, 1) := by decide +kernel
theorem d2_2 : decode jdk_29_method_70_code 2 = .ok (.lcmp, 1) := by decide +kernel
theorem d2_3 : decode jdk_29_method_70_code 3 = .ok (.ifCond .gt 7, 3) := by decide +kernel
theorem d2_6 : decode jdk_29_method_70_code 6 = .ok (.lload_n 0, 1) := by decide +kernel
theorem d2_7 : decode jdk_29_method_70_code 7 = .ok (.goto 4, 3) := by decide +kernel
theorem d2_10 : decode jdk_29_method_70_code 10 = .ok (.lload_n 2, 1) := by decide +kernel
theorem d2_11 : decode jdk_29_method_70_code 11 = .ok (.lreturn, 1) := by decide +kernel
set_option maxRecDepth 65536 in
set_option maxHeartbeats 40000000 in
theorem rmMin_0 (l : Launch) (Z : State) (a0 : Array Value) (hw : ∀ d ∈ tables_1, d.before a0 Z = true) (ws : List Jvm.Cond)  (q1 : Int64) (q2 : Int64) (h0 : Heap) (n0 : Nat) (Z0 : n0 ≤ h0.size) (hq : q2 < q1) :
    own_Met l (⟨"java/lang/Math", "min", "(JJ)J"⟩ : MethodName) jdk_29_method_70_code 4 (some .long) ws ({ frames := 0, cells := 0, slots := 0, locals := 0 } : Room) Z #[(.long q1), (.long q2)] h0 (fun v h L => v = some (.long q2) ∧ Fr n0 L ∧ h = h0) := by
  refine own_body (Jvm.Free.JP.mathPlain rfl (by decide +kernel)) ?_
  intro p e s m below meth c s₁ X0 hx hby hml hown hnm hret hlk hZ e0
  replace hown : s.vm.findClass "java/lang/Math" = some m.cls := hown
  replace hml : c.maxLocals = 4 := hml
  replace hret : meth.sig.returnType = (some .long) := hret
  have N0 := Fr.nil n0
  have ef : entryFrame m #[(.long q1), (.long q2)] 4 = mkF m 0 #[.val (.long q1), .second, .val (.long q2), .second] [] := by first | (simp [entryFrame, mkF, argsToLocals, Value.category]; done) | rfl
  refine own_step (S' := (s₁.setTop (mkF m 0 #[.val (.long q1), .second, .val (.long q2), .second] []))) (fun _ k => castTop ef k) ?_
  refine own_step (S' := (s₁.setTop (mkF m 1 #[.val (.long q1), .second, .val (.long q2), .second] [(.long q1)]))) (fun _ k => XS.lloadN X0.here hx rfl (hb hby d2_0) rfl k) ?_
  refine own_step (S' := (s₁.setTop (mkF m 2 #[.val (.long q1), .second, .val (.long q2), .second] [(.long q2), (.long q1)]))) (fun _ k => XS.lloadN X0.here hx rfl (hb hby d2_1) rfl k) ?_
  refine own_step (S' := (s₁.setTop (mkF m 3 #[.val (.long q1), .second, .val (.long q2), .second] [(.int (lcmpW q1 q2))]))) (fun _ k => XS.lcmp X0.here hx rfl (hb hby d2_2) rfl k) ?_
  refine own_step (S' := (s₁.setTop (mkF m 10 #[.val (.long q1), .second, .val (.long q2), .second] []))) (fun _ k => XS.ifYes X0.here hx rfl (pc0 := 3) (pc' := 10) rfl (hb hby d2_3) rfl ((if0 _ _).trans (tlt ((lw_gt q1 q2).mpr hq)).2.2.1) (by decide) (by decide) k) ?_
  refine own_step (S' := (s₁.setTop (mkF m 11 #[.val (.long q1), .second, .val (.long q2), .second] [(.long q2)]))) (fun _ k => XS.lloadN X0.here hx rfl (hb hby d2_10) rfl k) ?_
  refine own_retL X0 hx hlk hret (hb hby d2_11) (by decide) (by decide) ?_
  try rw [e0]
  exact ⟨rfl, N0, rfl⟩
theorem d3_0 : decode jdk_29_method_66_code 0 = .ok (.lload_n 0, 1) := by decide +kernel
theorem d3_1 : decode jdk_29_method_66_code 1 = .ok (.lload_n 2, 1) := by decide +kernel
theorem d3_2 : decode jdk_29_method_66_code 2 = .ok (.lcmp, 1) := by decide +kernel
theorem d3_3 : decode jdk_29_method_66_code 3 = .ok (.ifCond .lt 7, 3) := by decide +kernel
theorem d3_6 : decode jdk_29_method_66_code 6 = .ok (.lload_n 0, 1) := by decide +kernel
theorem d3_7 : decode jdk_29_method_66_code 7 = .ok (.goto 4, 3) := by decide +kernel
theorem d3_10 : decode jdk_29_method_66_code 10 = .ok (.lload_n 2, 1) := by decide +kernel
theorem d3_11 : decode jdk_29_method_66_code 11 = .ok (.lreturn, 1) := by decide +kernel
set_option maxRecDepth 65536 in
set_option maxHeartbeats 40000000 in
theorem rmMax_0 (l : Launch) (Z : State) (a0 : Array Value) (hw : ∀ d ∈ tables_1, d.before a0 Z = true) (ws : List Jvm.Cond)  (q1 : Int64) (q2 : Int64) (h0 : Heap) (n0 : Nat) (Z0 : n0 ≤ h0.size) (hq : q1 < q2) :
    own_Met l (⟨"java/lang/Math", "max", "(JJ)J"⟩ : MethodName) jdk_29_method_66_code 4 (some .long) ws ({ frames := 0, cells := 0, slots := 0, locals := 0 } : Room) Z #[(.long q1), (.long q2)] h0 (fun v h L => v = some (.long q2) ∧ Fr n0 L ∧ h = h0) := by
  refine own_body (Jvm.Free.JP.mathPlain rfl (by decide +kernel)) ?_
  intro p e s m below meth c s₁ X0 hx hby hml hown hnm hret hlk hZ e0
  replace hown : s.vm.findClass "java/lang/Math" = some m.cls := hown
  replace hml : c.maxLocals = 4 := hml
  replace hret : meth.sig.returnType = (some .long) := hret
  have N0 := Fr.nil n0
  have ef : entryFrame m #[(.long q1), (.long q2)] 4 = mkF m 0 #[.val (.long q1), .second, .val (.long q2), .second] [] := by first | (simp [entryFrame, mkF, argsToLocals, Value.category]; done) | rfl
  refine own_step (S' := (s₁.setTop (mkF m 0 #[.val (.long q1), .second, .val (.long q2), .second] []))) (fun _ k => castTop ef k) ?_
  refine own_step (S' := (s₁.setTop (mkF m 1 #[.val (.long q1), .second, .val (.long q2), .second] [(.long q1)]))) (fun _ k => XS.lloadN X0.here hx rfl (hb hby d3_0) rfl k) ?_
  refine own_step (S' := (s₁.setTop (mkF m 2 #[.val (.long q1), .second, .val (.long q2), .second] [(.long q2), (.long q1)]))) (fun _ k => XS.lloadN X0.here hx rfl (hb hby d3_1) rfl k) ?_
  refine own_step (S' := (s₁.setTop (mkF m 3 #[.val (.long q1), .second, .val (.long q2), .second] [(.int (lcmpW q1 q2))]))) (fun _ k => XS.lcmp X0.here hx rfl (hb hby d3_2) rfl k) ?_
  refine own_step (S' := (s₁.setTop (mkF m 10 #[.val (.long q1), .second, .val (.long q2), .second] []))) (fun _ k => XS.ifYes X0.here hx rfl (pc0 := 3) (pc' := 10) rfl (hb hby d3_3) rfl ((if0 _ _).trans (tlt ((lw_lt q1 q2).mpr hq)).1) (by decide) (by decide) k) ?_
  refine own_step (S' := (s₁.setTop (mkF m 11 #[.val (.long q1), .second, .val (.long q2), .second] [(.long q2)]))) (fun _ k => XS.lloadN X0.here hx rfl (hb hby d3_10) rfl k) ?_
  refine own_retL X0 hx hlk hret (hb hby d3_11) (by decide) (by decide) ?_
  try rw [e0]
  exact ⟨rfl, N0, rfl⟩
set_option maxRecDepth 65536 in
set_option maxHeartbeats 40000000 in
theorem rmB_1 (l : Launch) (Z : State) (a0 : Array Value) (hw : ∀ d ∈ tables_1, d.before a0 Z = true) (ws : List Jvm.Cond) (wB : Addr) (q1 : Int64) (q2 : Int64) (h0 : Heap) (n0 : Nat) (Z0 : n0 ≤ h0.size) (SB : Sta Z h0 "com/example/kurslot/kurslot/rates/AuctionSide" "BORROW" "Lcom/example/kurslot/kurslot/rates/AuctionSide;" (.ref wB)) (hq : ¬ (q2 < q1)) :
    own_Met l (⟨"com/example/kurslot/kurslot/rates/AuctionSide", "admits", "(JJ)Z"⟩ : MethodName) prog_60_method_4_code 5 (some .boolean) ws ({ frames := 0, cells := 0, slots := 0, locals := 0 } : Room) Z #[(.ref wB), (.long q1), (.long q2)] h0 (fun v h L => v = some (.int 1) ∧ Fr n0 L ∧ h = h0) := by
  refine own_body (plainFor_of_name pn_0) ?_
  intro p e s m below meth c s₁ X0 hx hby hml hown hnm hret hlk hZ e0
  replace hown : s.vm.findClass "com/example/kurslot/kurslot/rates/AuctionSide" = some m.cls := hown
  replace hml : c.maxLocals = 5 := hml
  replace hret : meth.sig.returnType = (some .boolean) := hret
  have N0 := Fr.nil n0
  have ef : entryFrame m #[(.ref wB), (.long q1), (.long q2)] 5 = mkF m 0 #[.val (.ref wB), .val (.long q1), .second, .val (.long q2), .second] [] := by first | (simp [entryFrame, mkF, argsToLocals, Value.category]; done) | rfl
  refine own_step (S' := (s₁.setTop (mkF m 0 #[.val (.ref wB), .val (.long q1), .second, .val (.long q2), .second] []))) (fun _ k => castTop ef k) ?_
  refine own_step (S' := (s₁.setTop (mkF m 1 #[.val (.ref wB), .val (.long q1), .second, .val (.long q2), .second] [(.ref wB)]))) (fun _ k => XS.aloadN X0.here hx rfl (hb hby d1_0) rfl rfl k) ?_
  obtain ⟨T3, X3, e3, st3⟩ := getS2 X0 hx hZ hown (host := "") (Or.inl (hw _ (List.mem_of_getElem? (i := 8) rfl))) Via.refl e0 SB (g := (mkF m 1 #[.val (.ref wB), .val (.long q1), .second, .val (.long q2), .second] [(.ref wB)])) rfl (hb hby d1_1)
  refine own_step (S' := (T3.setTop (mkF m 4 #[.val (.ref wB), .val (.long q1), .second, .val (.long q2), .second] [(.ref wB), (.ref wB)]))) (fun _ k => st3 _ k) ?_
  refine own_step (S' := (T3.setTop (mkF m 7 #[.val (.ref wB), .val (.long q1), .second, .val (.long q2), .second] []))) (fun _ k => Jvm.RoadKit.acmp (g := (mkF m 4 #[.val (.ref wB), .val (.long q1), .second, .val (.long q2), .second] [(.ref wB), (.ref wB)])) X3 hx rfl rfl rfl (pc0 := 4) (pc' := 7) (same := true) rfl (hb hby d1_4) rfl (decide_eq_true rfl) (by decide) (by decide) k) ?_
  refine own_step (S' := (T3.setTop (mkF m 8 #[.val (.ref wB), .val (.long q1), .second, .val (.long q2), .second] [(.long q1)]))) (fun _ k => XS.lloadN X3.here hx rfl (hb hby d1_7) rfl k) ?_
  refine own_step (S' := (T3.setTop (mkF m 9 #[.val (.ref wB), .val (.long q1), .second, .val (.long q2), .second] [(.long q2), (.long q1)]))) (fun _ k => XS.lloadN X3.here hx rfl (hb hby d1_8) rfl k) ?_
  refine own_step (S' := (T3.setTop (mkF m 10 #[.val (.ref wB), .val (.long q1), .second, .val (.long q2), .second] [(.int (lcmpW q1 q2))]))) (fun _ k => XS.lcmp X3.here hx rfl (hb hby d1_9) rfl k) ?_
  refine own_step (S' := (T3.setTop (mkF m 13 #[.val (.ref wB), .val (.long q1), .second, .val (.long q2), .second] []))) (fun _ k => XS.ifNo X3.here hx rfl (hb hby d1_10) rfl ((if0 _ _).trans (flt (fun q => hq ((lw_gt q1 q2).mp q))).2.2.1) k) ?_
  refine own_step (S' := (T3.setTop (mkF m 14 #[.val (.ref wB), .val (.long q1), .second, .val (.long q2), .second] [(.int (1 : Int32))]))) (fun _ k => XS.iconst X3.here hx rfl (hb hby d1_13) k) ?_
  refine own_step (S' := (T3.setTop (mkF m 32 #[.val (.ref wB), .val (.long q1), .second, .val (.long q2), .second] [(.int (1 : Int32))]))) (fun _ k => XS.goto X3.here hx rfl (pc0 := 14) (pc' := 32) rfl (hb hby d1_14) (by decide) (by decide) k) ?_
  refine own_retN X3 hx hlk hret (by simp) (by decide) (hb hby d1_32) (by decide) (by decide) ?_
  try rw [e3]
  exact ⟨rfl, N0, rfl⟩
set_option maxRecDepth 65536 in
set_option maxHeartbeats 40000000 in
theorem rmL_1 (l : Launch) (Z : State) (a0 : Array Value) (hw : ∀ d ∈ tables_1, d.before a0 Z = true) (ws : List Jvm.Cond) (wB a : Addr) (q1 : Int64) (q2 : Int64) (h0 : Heap) (n0 : Nat) (Z0 : n0 ≤ h0.size) (SB : Sta Z h0 "com/example/kurslot/kurslot/rates/AuctionSide" "BORROW" "Lcom/example/kurslot/kurslot/rates/AuctionSide;" (.ref wB)) (hn : a ≠ wB) (hq : ¬ (q1 < q2)) :
    own_Met l (⟨"com/example/kurslot/kurslot/rates/AuctionSide", "admits", "(JJ)Z"⟩ : MethodName) prog_60_method_4_code 5 (some .boolean) ws ({ frames := 0, cells := 0, slots := 0, locals := 0 } : Room) Z #[(.ref a), (.long q1), (.long q2)] h0 (fun v h L => v = some (.int 1) ∧ Fr n0 L ∧ h = h0) := by
  refine own_body (plainFor_of_name pn_0) ?_
  intro p e s m below meth c s₁ X0 hx hby hml hown hnm hret hlk hZ e0
  replace hown : s.vm.findClass "com/example/kurslot/kurslot/rates/AuctionSide" = some m.cls := hown
  replace hml : c.maxLocals = 5 := hml
  replace hret : meth.sig.returnType = (some .boolean) := hret
  have N0 := Fr.nil n0
  have ef : entryFrame m #[(.ref a), (.long q1), (.long q2)] 5 = mkF m 0 #[.val (.ref a), .val (.long q1), .second, .val (.long q2), .second] [] := by first | (simp [entryFrame, mkF, argsToLocals, Value.category]; done) | rfl
  refine own_step (S' := (s₁.setTop (mkF m 0 #[.val (.ref a), .val (.long q1), .second, .val (.long q2), .second] []))) (fun _ k => castTop ef k) ?_
  refine own_step (S' := (s₁.setTop (mkF m 1 #[.val (.ref a), .val (.long q1), .second, .val (.long q2), .second] [(.ref a)]))) (fun _ k => XS.aloadN X0.here hx rfl (hb hby d1_0) rfl rfl k) ?_
  obtain ⟨T4, X4, e4, st4⟩ := getS2 X0 hx hZ hown (host := "") (Or.inl (hw _ (List.mem_of_getElem? (i := 8) rfl))) Via.refl e0 SB (g := (mkF m 1 #[.val (.ref a), .val (.long q1), .second, .val (.long q2), .second] [(.ref a)])) rfl (hb hby d1_1)
  refine own_step (S' := (T4.setTop (mkF m 4 #[.val (.ref a), .val (.long q1), .second, .val (.long q2), .second] [(.ref wB), (.ref a)]))) (fun _ k => st4 _ k) ?_
  refine own_step (S' := (T4.setTop (mkF m 21 #[.val (.ref a), .val (.long q1), .second, .val (.long q2), .second] []))) (fun _ k => Jvm.RoadKit.acmp (g := (mkF m 4 #[.val (.ref a), .val (.long q1), .second, .val (.long q2), .second] [(.ref wB), (.ref a)])) X4 hx rfl rfl rfl (pc0 := 4) (pc' := 21) (same := false) rfl (hb hby d1_4) rfl (decide_eq_false fun q => hn (Value.ref.inj q)) (by decide) (by decide) k) ?_
  refine own_step (S' := (T4.setTop (mkF m 22 #[.val (.ref a), .val (.long q1), .second, .val (.long q2), .second] [(.long q1)]))) (fun _ k => XS.lloadN X4.here hx rfl (hb hby d1_21) rfl k) ?_
  refine own_step (S' := (T4.setTop (mkF m 23 #[.val (.ref a), .val (.long q1), .second, .val (.long q2), .second] [(.long q2), (.long q1)]))) (fun _ k => XS.lloadN X4.here hx rfl (hb hby d1_22) rfl k) ?_
  refine own_step (S' := (T4.setTop (mkF m 24 #[.val (.ref a), .val (.long q1), .second, .val (.long q2), .second] [(.int (lcmpW q1 q2))]))) (fun _ k => XS.lcmp X4.here hx rfl (hb hby d1_23) rfl k) ?_
  refine own_step (S' := (T4.setTop (mkF m 27 #[.val (.ref a), .val (.long q1), .second, .val (.long q2), .second] []))) (fun _ k => XS.ifNo X4.here hx rfl (hb hby d1_24) rfl ((if0 _ _).trans (flt (fun q => hq ((lw_lt q1 q2).mp q))).1) k) ?_
  refine own_step (S' := (T4.setTop (mkF m 28 #[.val (.ref a), .val (.long q1), .second, .val (.long q2), .second] [(.int (1 : Int32))]))) (fun _ k => XS.iconst X4.here hx rfl (hb hby d1_27) k) ?_
  refine own_step (S' := (T4.setTop (mkF m 32 #[.val (.ref a), .val (.long q1), .second, .val (.long q2), .second] [(.int (1 : Int32))]))) (fun _ k => XS.goto X4.here hx rfl (pc0 := 28) (pc' := 32) rfl (hb hby d1_28) (by decide) (by decide) k) ?_
  refine own_retN X4 hx hlk hret (by simp) (by decide) (hb hby d1_32) (by decide) (by decide) ?_
  try rw [e4]
  exact ⟨rfl, N0, rfl⟩
set_option maxRecDepth 65536 in
set_option maxHeartbeats 40000000 in
theorem rmMin_1 (l : Launch) (Z : State) (a0 : Array Value) (hw : ∀ d ∈ tables_1, d.before a0 Z = true) (ws : List Jvm.Cond)  (q1 : Int64) (q2 : Int64) (h0 : Heap) (n0 : Nat) (Z0 : n0 ≤ h0.size) (hq : ¬ (q2 < q1)) :
    own_Met l (⟨"java/lang/Math", "min", "(JJ)J"⟩ : MethodName) jdk_29_method_70_code 4 (some .long) ws ({ frames := 0, cells := 0, slots := 0, locals := 0 } : Room) Z #[(.long q1), (.long q2)] h0 (fun v h L => v = some (.long q1) ∧ Fr n0 L ∧ h = h0) := by
  refine own_body (Jvm.Free.JP.mathPlain rfl (by decide +kernel)) ?_
  intro p e s m below meth c s₁ X0 hx hby hml hown hnm hret hlk hZ e0
  replace hown : s.vm.findClass "java/lang/Math" = some m.cls := hown
  replace hml : c.maxLocals = 4 := hml
  replace hret : meth.sig.returnType = (some .long) := hret
  have N0 := Fr.nil n0
  have ef : entryFrame m #[(.long q1), (.long q2)] 4 = mkF m 0 #[.val (.long q1), .second, .val (.long q2), .second] [] := by first | (simp [entryFrame, mkF, argsToLocals, Value.category]; done) | rfl
  refine own_step (S' := (s₁.setTop (mkF m 0 #[.val (.long q1), .second, .val (.long q2), .second] []))) (fun _ k => castTop ef k) ?_
  refine own_step (S' := (s₁.setTop (mkF m 1 #[.val (.long q1), .second, .val (.long q2), .second] [(.long q1)]))) (fun _ k => XS.lloadN X0.here hx rfl (hb hby d2_0) rfl k) ?_
  refine own_step (S' := (s₁.setTop (mkF m 2 #[.val (.long q1), .second, .val (.long q2), .second] [(.long q2), (.long q1)]))) (fun _ k => XS.lloadN X0.here hx rfl (hb hby d2_1) rfl k) ?_
  refine own_step (S' := (s₁.setTop (mkF m 3 #[.val (.long q1), .second, .val (.long q2), .second] [(.int (lcmpW q1 q2))]))) (fun _ k => XS.lcmp X0.here hx rfl (hb hby d2_2) rfl k) ?_
  refine own_step (S' := (s₁.setTop (mkF m 6 #[.val (.long q1), .second, .val (.long q2), .second] []))) (fun _ k => XS.ifNo X0.here hx rfl (hb hby d2_3) rfl ((if0 _ _).trans (flt (fun q => hq ((lw_gt q1 q2).mp q))).2.2.1) k) ?_
  refine own_step (S' := (s₁.setTop (mkF m 7 #[.val (.long q1), .second, .val (.long q2), .second] [(.long q1)]))) (fun _ k => XS.lloadN X0.here hx rfl (hb hby d2_6) rfl k) ?_
  refine own_step (S' := (s₁.setTop (mkF m 11 #[.val (.long q1), .second, .val (.long q2), .second] [(.long q1)]))) (fun _ k => XS.goto X0.here hx rfl (pc0 := 7) (pc' := 11) rfl (hb hby d2_7) (by decide) (by decide) k) ?_
  refine own_retL X0 hx hlk hret (hb hby d2_11) (by decide) (by decide) ?_
  try rw [e0]
  exact ⟨rfl, N0, rfl⟩
set_option maxRecDepth 65536 in
set_option maxHeartbeats 40000000 in
theorem rmMax_1 (l : Launch) (Z : State) (a0 : Array Value) (hw : ∀ d ∈ tables_1, d.before a0 Z = true) (ws : List Jvm.Cond)  (q1 : Int64) (q2 : Int64) (h0 : Heap) (n0 : Nat) (Z0 : n0 ≤ h0.size) (hq : ¬ (q1 < q2)) :
    own_Met l (⟨"java/lang/Math", "max", "(JJ)J"⟩ : MethodName) jdk_29_method_66_code 4 (some .long) ws ({ frames := 0, cells := 0, slots := 0, locals := 0 } : Room) Z #[(.long q1), (.long q2)] h0 (fun v h L => v = some (.long q1) ∧ Fr n0 L ∧ h = h0) := by
  refine own_body (Jvm.Free.JP.mathPlain rfl (by decide +kernel)) ?_
  intro p e s m below meth c s₁ X0 hx hby hml hown hnm hret hlk hZ e0
  replace hown : s.vm.findClass "java/lang/Math" = some m.cls := hown
  replace hml : c.maxLocals = 4 := hml
  replace hret : meth.sig.returnType = (some .long) := hret
  have N0 := Fr.nil n0
  have ef : entryFrame m #[(.long q1), (.long q2)] 4 = mkF m 0 #[.val (.long q1), .second, .val (.long q2), .second] [] := by first | (simp [entryFrame, mkF, argsToLocals, Value.category]; done) | rfl
  refine own_step (S' := (s₁.setTop (mkF m 0 #[.val (.long q1), .second, .val (.long q2), .second] []))) (fun _ k => castTop ef k) ?_
  refine own_step (S' := (s₁.setTop (mkF m 1 #[.val (.long q1), .second, .val (.long q2), .second] [(.long q1)]))) (fun _ k => XS.lloadN X0.here hx rfl (hb hby d3_0) rfl k) ?_
  refine own_step (S' := (s₁.setTop (mkF m 2 #[.val (.long q1), .second, .val (.long q2), .second] [(.long q2), (.long q1)]))) (fun _ k => XS.lloadN X0.here hx rfl (hb hby d3_1) rfl k) ?_
  refine own_step (S' := (s₁.setTop (mkF m 3 #[.val (.long q1), .second, .val (.long q2), .second] [(.int (lcmpW q1 q2))]))) (fun _ k => XS.lcmp X0.here hx rfl (hb hby d3_2) rfl k) ?_
  refine own_step (S' := (s₁.setTop (mkF m 6 #[.val (.long q1), .second, .val (.long q2), .second] []))) (fun _ k => XS.ifNo X0.here hx rfl (hb hby d3_3) rfl ((if0 _ _).trans (flt (fun q => hq ((lw_lt q1 q2).mp q))).1) k) ?_
  refine own_step (S' := (s₁.setTop (mkF m 7 #[.val (.long q1), .second, .val (.long q2), .second] [(.long q1)]))) (fun _ k => XS.lloadN X0.here hx rfl (hb hby d3_6) rfl k) ?_
  refine own_step (S' := (s₁.setTop (mkF m 11 #[.val (.long q1), .second, .val (.long q2), .second] [(.long q1)]))) (fun _ k => XS.goto X0.here hx rfl (pc0 := 7) (pc' := 11) rfl (hb hby d3_7) (by decide) (by decide) k) ?_
  refine own_retL X0 hx hlk hret (hb hby d3_11) (by decide) (by decide) ?_
  try rw [e0]
  exact ⟨rfl, N0, rfl⟩
theorem pn_1 : plainName "com/example/kurslot/kurslot/rates/AuctionSideAdmitsPinLaw" = true := by first | (simp [plainName, overriddenIn]; done) | decide +kernel
theorem pd_0 : parseMethodDescriptor "(JJ)Z" = some ⟨[.long, .long], some .boolean⟩ := by decide +kernel
theorem pd_1 : parseMethodDescriptor "(JJ)J" = some ⟨[.long, .long], some .long⟩ := by decide +kernel
set_option maxRecDepth 65536 in
set_option maxHeartbeats 40000000 in
theorem rm0 (l : Launch) (Z : State) (a0 : Array Value) (hw : ∀ d ∈ tables_1, d.before a0 Z = true) (ws : List Jvm.Cond) (a_AuctionSide_BORROW a_AuctionSide_LEND : Addr) (q1 : Int64) (q2 : Int64) (h0 : Heap) (n0 : Nat) (Z0 : n0 ≤ h0.size) (S_AuctionSide_BORROW : Sta Z h0 "com/example/kurslot/kurslot/rates/AuctionSide" "BORROW" "Lcom/example/kurslot/kurslot/rates/AuctionSide;" (.ref a_AuctionSide_BORROW)) (E_AuctionSide_BORROW : Exa Z h0 a_AuctionSide_BORROW "com/example/kurslot/kurslot/rates/AuctionSide") (S_AuctionSide_LEND : Sta Z h0 "com/example/kurslot/kurslot/rates/AuctionSide" "LEND" "Lcom/example/kurslot/kurslot/rates/AuctionSide;" (.ref a_AuctionSide_LEND)) (E_AuctionSide_LEND : Exa Z h0 a_AuctionSide_LEND "com/example/kurslot/kurslot/rates/AuctionSide") (F_AuctionSide_LEND_ordinal : Fld Z h0 a_AuctionSide_LEND "java/lang/Enum" "ordinal" "I" (.int (1 : Int32))) (F_AuctionSide_BORROW_ordinal : Fld Z h0 a_AuctionSide_BORROW "java/lang/Enum" "ordinal" "I" (.int (0 : Int32))) :
    own_Met l x code maxLocals ret ws room_1 Z #[(.long q1), (.long q2)] h0 (fun v h L => v = some (.int 1) ∧ Fr n0 L) := by
  refine own_body (plainFor_of_name pn_1) ?_
  intro p e s m below meth c s₁ X0 hx hby hml hown hnm hret hlk hZ e0
  replace hown : s.vm.findClass "com/example/kurslot/kurslot/rates/AuctionSideAdmitsPinLaw" = some m.cls := hown
  replace hml : c.maxLocals = 15 := hml
  replace hret : meth.sig.returnType = (some .boolean) := hret
  have N0 := Fr.nil n0
  have ef : entryFrame m #[(.long q1), (.long q2)] maxLocals = mkF m 0 #[.val (.long q1), .second, .val (.long q2), .second, .unset, .unset, .unset, .unset, .unset, .unset, .unset, .unset, .unset, .unset, .unset] [] := by first | (simp [entryFrame, mkF, argsToLocals, Value.category, maxLocals]; done) | rfl
  refine own_step (S' := (s₁.setTop (mkF m 0 #[.val (.long q1), .second, .val (.long q2), .second, .unset, .unset, .unset, .unset, .unset, .unset, .unset, .unset, .unset, .unset, .unset] []))) (fun _ k => castTop ef k) ?_
  rcases own_tri q1 q2 with hlt | rfl | hgt
  · obtain ⟨T5, X5, e5, st5⟩ := getS2 X0 hx hZ hown (host := "") (Or.inl (hw _ (List.mem_of_getElem? (i := 0) rfl))) Via.refl e0 S_AuctionSide_BORROW (g := (mkF m 0 #[.val (.long q1), .second, .val (.long q2), .second, .unset, .unset, .unset, .unset, .unset, .unset, .unset, .unset, .unset, .unset, .unset] [])) rfl (hb hby at_0)
    refine own_step (S' := (T5.setTop (mkF m 3 #[.val (.long q1), .second, .val (.long q2), .second, .unset, .unset, .unset, .unset, .unset, .unset, .unset, .unset, .unset, .unset, .unset] [(.ref a_AuctionSide_BORROW)]))) (fun _ k => st5 _ k) ?_
    refine own_step (S' := (T5.setTop (mkF m 4 #[.val (.long q1), .second, .val (.long q2), .second, .unset, .unset, .unset, .unset, .unset, .unset, .unset, .unset, .unset, .unset, .unset] [(.long q1), (.ref a_AuctionSide_BORROW)]))) (fun _ k => XS.lloadN X5.here hx rfl (hb hby at_3) rfl k) ?_
    refine own_step (S' := (T5.setTop (mkF m 5 #[.val (.long q1), .second, .val (.long q2), .second, .unset, .unset, .unset, .unset, .unset, .unset, .unset, .unset, .unset, .unset, .unset] [(.long q2), (.long q1), (.ref a_AuctionSide_BORROW)]))) (fun _ k => XS.lloadN X5.here hx rfl (hb hby at_4) rfl k) ?_
    obtain ⟨_, T6, L6, X6, ⟨rfl, N6q, e6⟩, st6⟩ := own_virt (argsL := [(.long q1), (.long q2)]) (rest := []) X5 hx hZ hown (hw _ (List.mem_of_getElem? (i := 3) rfl)) (hw _ (List.mem_of_getElem? (i := 4) rfl)) (notFace_of_selects (args := #[]) (mvT hZ (hw _ (List.mem_of_getElem? (i := 6) rfl)))) (hw _ (List.mem_of_getElem? (i := 6) rfl)) (hw _ (List.mem_of_getElem? (i := 5) rfl)) (by decide) (hw _ (List.mem_of_getElem? (i := 7) rfl)) (hw _ (List.mem_of_getElem? (i := 1) rfl)) e5 E_AuctionSide_BORROW (hM := rmB_1 l Z a0 hw [] a_AuctionSide_BORROW q1 q2 h0 n0 Z0 S_AuctionSide_BORROW (own_asym hlt)) (g := (mkF m 5 #[.val (.long q1), .second, .val (.long q2), .second, .unset, .unset, .unset, .unset, .unset, .unset, .unset, .unset, .unset, .unset, .unset] [(.long q2), (.long q1), (.ref a_AuctionSide_BORROW)])) (hg := rfl) (hsize := by rw [hml]; rfl) (hlen := lenOf pd_0 rfl) (hstack := rfl) (W := 0) (hW := by show 2 * 0 + _ ≤ _; exact Nat.le_of_eq rfl) (hd := (hb hby at_5)) (hf := by decide) (hl := by decide) (hc := by decide) (hs := by decide)
    have N6 := Fr.app N0 N6q
    refine own_step (S' := (T6.setTop (mkF m 8 #[.val (.long q1), .second, .val (.long q2), .second, .unset, .unset, .unset, .unset, .unset, .unset, .unset, .unset, .unset, .unset, .unset] [(.int (1 : Int32))]))) (fun _ k => st6 _ k) ?_
    refine own_step (S' := (T6.setTop (mkF m 10 #[.val (.long q1), .second, .val (.long q2), .second, .val (.int (1 : Int32)), .unset, .unset, .unset, .unset, .unset, .unset, .unset, .unset, .unset, .unset] []))) (fun _ k => XS.istore X6.here hx rfl (hb hby at_8) rfl (l' := #[.val (.long q1), .second, .val (.long q2), .second, .val (.int (1 : Int32)), .unset, .unset, .unset, .unset, .unset, .unset, .unset, .unset, .unset, .unset]) rfl k) ?_
    obtain ⟨T7, X7, e7, st7⟩ := getS2 X6 hx hZ hown (host := "") (Or.inl (hw _ (List.mem_of_getElem? (i := 9) rfl))) Via.refl e6 S_AuctionSide_LEND (g := (mkF m 10 #[.val (.long q1), .second, .val (.long q2), .second, .val (.int (1 : Int32)), .unset, .unset, .unset, .unset, .unset, .unset, .unset, .unset, .unset, .unset] [])) rfl (hb hby at_10)
    refine own_step (S' := (T7.setTop (mkF m 13 #[.val (.long q1), .second, .val (.long q2), .second, .val (.int (1 : Int32)), .unset, .unset, .unset, .unset, .unset, .unset, .unset, .unset, .unset, .unset] [(.ref a_AuctionSide_LEND)]))) (fun _ k => st7 _ k) ?_
    refine own_step (S' := (T7.setTop (mkF m 14 #[.val (.long q1), .second, .val (.long q2), .second, .val (.int (1 : Int32)), .unset, .unset, .unset, .unset, .unset, .unset, .unset, .unset, .unset, .unset] [(.long q1), (.ref a_AuctionSide_LEND)]))) (fun _ k => XS.lloadN X7.here hx rfl (hb hby at_13) rfl k) ?_
    refine own_step (S' := (T7.setTop (mkF m 15 #[.val (.long q1), .second, .val (.long q2), .second, .val (.int (1 : Int32)), .unset, .unset, .unset, .unset, .unset, .unset, .unset, .unset, .unset, .unset] [(.long q2), (.long q1), (.ref a_AuctionSide_LEND)]))) (fun _ k => XS.lloadN X7.here hx rfl (hb hby at_14) rfl k) ?_
    obtain ⟨_, T8, L8, X8, ⟨rfl, N8q, e8⟩, st8⟩ := own_virt (argsL := [(.long q1), (.long q2)]) (rest := []) X7 hx hZ hown (hw _ (List.mem_of_getElem? (i := 3) rfl)) (hw _ (List.mem_of_getElem? (i := 4) rfl)) (notFace_of_selects (args := #[]) (mvT hZ (hw _ (List.mem_of_getElem? (i := 6) rfl)))) (hw _ (List.mem_of_getElem? (i := 6) rfl)) (hw _ (List.mem_of_getElem? (i := 5) rfl)) (by decide) (hw _ (List.mem_of_getElem? (i := 7) rfl)) (hw _ (List.mem_of_getElem? (i := 1) rfl)) e7 E_AuctionSide_LEND (hM := rmL_0 l Z a0 hw [] a_AuctionSide_BORROW a_AuctionSide_LEND q1 q2 h0 n0 Z0 S_AuctionSide_BORROW (Fld.ne F_AuctionSide_LEND_ordinal F_AuctionSide_BORROW_ordinal (by decide)) hlt) (g := (mkF m 15 #[.val (.long q1), .second, .val (.long q2), .second, .val (.int (1 : Int32)), .unset, .unset, .unset, .unset, .unset, .unset, .unset, .unset, .unset, .unset] [(.long q2), (.long q1), (.ref a_AuctionSide_LEND)])) (hg := rfl) (hsize := by rw [hml]; rfl) (hlen := lenOf pd_0 rfl) (hstack := rfl) (W := 0) (hW := by show 2 * 0 + _ ≤ _; exact Nat.le_of_eq rfl) (hd := (hb hby at_15)) (hf := by decide) (hl := by decide) (hc := by decide) (hs := by decide)
    have N8 := Fr.app N6 N8q
    refine own_step (S' := (T8.setTop (mkF m 18 #[.val (.long q1), .second, .val (.long q2), .second, .val (.int (1 : Int32)), .unset, .unset, .unset, .unset, .unset, .unset, .unset, .unset, .unset, .unset] [(.int (0 : Int32))]))) (fun _ k => st8 _ k) ?_
    refine own_step (S' := (T8.setTop (mkF m 20 #[.val (.long q1), .second, .val (.long q2), .second, .val (.int (1 : Int32)), .val (.int (0 : Int32)), .unset, .unset, .unset, .unset, .unset, .unset, .unset, .unset, .unset] []))) (fun _ k => XS.istore X8.here hx rfl (hb hby at_18) rfl (l' := #[.val (.long q1), .second, .val (.long q2), .second, .val (.int (1 : Int32)), .val (.int (0 : Int32)), .unset, .unset, .unset, .unset, .unset, .unset, .unset, .unset, .unset]) rfl k) ?_
    obtain ⟨T9, X9, e9, st9⟩ := getS2 X8 hx hZ hown (host := "") (Or.inl (hw _ (List.mem_of_getElem? (i := 9) rfl))) Via.refl e8 S_AuctionSide_LEND (g := (mkF m 20 #[.val (.long q1), .second, .val (.long q2), .second, .val (.int (1 : Int32)), .val (.int (0 : Int32)), .unset, .unset, .unset, .unset, .unset, .unset, .unset, .unset, .unset] [])) rfl (hb hby at_20)
    refine own_step (S' := (T9.setTop (mkF m 23 #[.val (.long q1), .second, .val (.long q2), .second, .val (.int (1 : Int32)), .val (.int (0 : Int32)), .unset, .unset, .unset, .unset, .unset, .unset, .unset, .unset, .unset] [(.ref a_AuctionSide_LEND)]))) (fun _ k => st9 _ k) ?_
    refine own_step (S' := (T9.setTop (mkF m 24 #[.val (.long q1), .second, .val (.long q2), .second, .val (.int (1 : Int32)), .val (.int (0 : Int32)), .unset, .unset, .unset, .unset, .unset, .unset, .unset, .unset, .unset] [(.long q2), (.ref a_AuctionSide_LEND)]))) (fun _ k => XS.lloadN X9.here hx rfl (hb hby at_23) rfl k) ?_
    refine own_step (S' := (T9.setTop (mkF m 25 #[.val (.long q1), .second, .val (.long q2), .second, .val (.int (1 : Int32)), .val (.int (0 : Int32)), .unset, .unset, .unset, .unset, .unset, .unset, .unset, .unset, .unset] [(.long q1), (.long q2), (.ref a_AuctionSide_LEND)]))) (fun _ k => XS.lloadN X9.here hx rfl (hb hby at_24) rfl k) ?_
    obtain ⟨_, T10, L10, X10, ⟨rfl, N10q, e10⟩, st10⟩ := own_virt (argsL := [(.long q2), (.long q1)]) (rest := []) X9 hx hZ hown (hw _ (List.mem_of_getElem? (i := 3) rfl)) (hw _ (List.mem_of_getElem? (i := 4) rfl)) (notFace_of_selects (args := #[]) (mvT hZ (hw _ (List.mem_of_getElem? (i := 6) rfl)))) (hw _ (List.mem_of_getElem? (i := 6) rfl)) (hw _ (List.mem_of_getElem? (i := 5) rfl)) (by decide) (hw _ (List.mem_of_getElem? (i := 7) rfl)) (hw _ (List.mem_of_getElem? (i := 1) rfl)) e9 E_AuctionSide_LEND (hM := rmL_1 l Z a0 hw [] a_AuctionSide_BORROW a_AuctionSide_LEND q2 q1 h0 n0 Z0 S_AuctionSide_BORROW (Fld.ne F_AuctionSide_LEND_ordinal F_AuctionSide_BORROW_ordinal (by decide)) (own_asym hlt)) (g := (mkF m 25 #[.val (.long q1), .second, .val (.long q2), .second, .val (.int (1 : Int32)), .val (.int (0 : Int32)), .unset, .unset, .unset, .unset, .unset, .unset, .unset, .unset, .unset] [(.long q1), (.long q2), (.ref a_AuctionSide_LEND)])) (hg := rfl) (hsize := by rw [hml]; rfl) (hlen := lenOf pd_0 rfl) (hstack := rfl) (W := 0) (hW := by show 2 * 0 + _ ≤ _; exact Nat.le_of_eq rfl) (hd := (hb hby at_25)) (hf := by decide) (hl := by decide) (hc := by decide) (hs := by decide)
    have N10 := Fr.app N8 N10q
    refine own_step (S' := (T10.setTop (mkF m 28 #[.val (.long q1), .second, .val (.long q2), .second, .val (.int (1 : Int32)), .val (.int (0 : Int32)), .unset, .unset, .unset, .unset, .unset, .unset, .unset, .unset, .unset] [(.int (1 : Int32))]))) (fun _ k => st10 _ k) ?_
    refine own_step (S' := (T10.setTop (mkF m 30 #[.val (.long q1), .second, .val (.long q2), .second, .val (.int (1 : Int32)), .val (.int (0 : Int32)), .val (.int (1 : Int32)), .unset, .unset, .unset, .unset, .unset, .unset, .unset, .unset] []))) (fun _ k => XS.istore X10.here hx rfl (hb hby at_28) rfl (l' := #[.val (.long q1), .second, .val (.long q2), .second, .val (.int (1 : Int32)), .val (.int (0 : Int32)), .val (.int (1 : Int32)), .unset, .unset, .unset, .unset, .unset, .unset, .unset, .unset]) rfl k) ?_
    refine own_step (S' := (T10.setTop (mkF m 31 #[.val (.long q1), .second, .val (.long q2), .second, .val (.int (1 : Int32)), .val (.int (0 : Int32)), .val (.int (1 : Int32)), .unset, .unset, .unset, .unset, .unset, .unset, .unset, .unset] [(.long q1)]))) (fun _ k => XS.lloadN X10.here hx rfl (hb hby at_30) rfl k) ?_
    refine own_step (S' := (T10.setTop (mkF m 32 #[.val (.long q1), .second, .val (.long q2), .second, .val (.int (1 : Int32)), .val (.int (0 : Int32)), .val (.int (1 : Int32)), .unset, .unset, .unset, .unset, .unset, .unset, .unset, .unset] [(.long q2), (.long q1)]))) (fun _ k => XS.lloadN X10.here hx rfl (hb hby at_31) rfl k) ?_
    obtain ⟨_, T11, L11, X11, ⟨rfl, N11q, e11⟩, st11⟩ := own_stat (argsL := [(.long q1), (.long q2)]) (rest := []) X10 hx hZ hown (hw _ (List.mem_of_getElem? (i := 11) rfl)) (hw _ (List.mem_of_getElem? (i := 12) rfl)) (by decide) (hw _ (List.mem_of_getElem? (i := 14) rfl)) (hw _ (List.mem_of_getElem? (i := 13) rfl)) e10 (hM := rmMin_1 l Z a0 hw [] q1 q2 h0 n0 Z0 (own_asym hlt)) (g := (mkF m 32 #[.val (.long q1), .second, .val (.long q2), .second, .val (.int (1 : Int32)), .val (.int (0 : Int32)), .val (.int (1 : Int32)), .unset, .unset, .unset, .unset, .unset, .unset, .unset, .unset] [(.long q2), (.long q1)])) (hg := rfl) (hsize := by rw [hml]; rfl) (hlen := lenOf pd_1 rfl) (hstack := rfl) (W := 0) (hW := by show 2 * 0 + _ ≤ _; exact Nat.le_of_eq rfl) (hd := (hb hby at_32)) (hf := by decide) (hl := by decide) (hc := by decide) (hs := by decide)
    have N11 := Fr.app N10 N11q
    refine own_step (S' := (T11.setTop (mkF m 35 #[.val (.long q1), .second, .val (.long q2), .second, .val (.int (1 : Int32)), .val (.int (0 : Int32)), .val (.int (1 : Int32)), .unset, .unset, .unset, .unset, .unset, .unset, .unset, .unset] [(.long q1)]))) (fun _ k => st11 _ k) ?_
    refine own_step (S' := (T11.setTop (mkF m 37 #[.val (.long q1), .second, .val (.long q2), .second, .val (.int (1 : Int32)), .val (.int (0 : Int32)), .val (.int (1 : Int32)), .val (.long q1), .second, .unset, .unset, .unset, .unset, .unset, .unset] []))) (fun _ k => XS.lstore X11.here hx rfl (hb hby at_35) rfl (l' := #[.val (.long q1), .second, .val (.long q2), .second, .val (.int (1 : Int32)), .val (.int (0 : Int32)), .val (.int (1 : Int32)), .val (.long q1), .second, .unset, .unset, .unset, .unset, .unset, .unset]) rfl k) ?_
    refine own_step (S' := (T11.setTop (mkF m 38 #[.val (.long q1), .second, .val (.long q2), .second, .val (.int (1 : Int32)), .val (.int (0 : Int32)), .val (.int (1 : Int32)), .val (.long q1), .second, .unset, .unset, .unset, .unset, .unset, .unset] [(.long q1)]))) (fun _ k => XS.lloadN X11.here hx rfl (hb hby at_37) rfl k) ?_
    refine own_step (S' := (T11.setTop (mkF m 39 #[.val (.long q1), .second, .val (.long q2), .second, .val (.int (1 : Int32)), .val (.int (0 : Int32)), .val (.int (1 : Int32)), .val (.long q1), .second, .unset, .unset, .unset, .unset, .unset, .unset] [(.long q2), (.long q1)]))) (fun _ k => XS.lloadN X11.here hx rfl (hb hby at_38) rfl k) ?_
    obtain ⟨_, T12, L12, X12, ⟨rfl, N12q, e12⟩, st12⟩ := own_stat (argsL := [(.long q1), (.long q2)]) (rest := []) X11 hx hZ hown (hw _ (List.mem_of_getElem? (i := 15) rfl)) (hw _ (List.mem_of_getElem? (i := 16) rfl)) (by decide) (hw _ (List.mem_of_getElem? (i := 17) rfl)) (hw _ (List.mem_of_getElem? (i := 13) rfl)) e11 (hM := rmMax_0 l Z a0 hw [] q1 q2 h0 n0 Z0 hlt) (g := (mkF m 39 #[.val (.long q1), .second, .val (.long q2), .second, .val (.int (1 : Int32)), .val (.int (0 : Int32)), .val (.int (1 : Int32)), .val (.long q1), .second, .unset, .unset, .unset, .unset, .unset, .unset] [(.long q2), (.long q1)])) (hg := rfl) (hsize := by rw [hml]; rfl) (hlen := lenOf pd_1 rfl) (hstack := rfl) (W := 0) (hW := by show 2 * 0 + _ ≤ _; exact Nat.le_of_eq rfl) (hd := (hb hby at_39)) (hf := by decide) (hl := by decide) (hc := by decide) (hs := by decide)
    have N12 := Fr.app N11 N12q
    refine own_step (S' := (T12.setTop (mkF m 42 #[.val (.long q1), .second, .val (.long q2), .second, .val (.int (1 : Int32)), .val (.int (0 : Int32)), .val (.int (1 : Int32)), .val (.long q1), .second, .unset, .unset, .unset, .unset, .unset, .unset] [(.long q2)]))) (fun _ k => st12 _ k) ?_
    refine own_step (S' := (T12.setTop (mkF m 44 #[.val (.long q1), .second, .val (.long q2), .second, .val (.int (1 : Int32)), .val (.int (0 : Int32)), .val (.int (1 : Int32)), .val (.long q1), .second, .val (.long q2), .second, .unset, .unset, .unset, .unset] []))) (fun _ k => XS.lstore X12.here hx rfl (hb hby at_42) rfl (l' := #[.val (.long q1), .second, .val (.long q2), .second, .val (.int (1 : Int32)), .val (.int (0 : Int32)), .val (.int (1 : Int32)), .val (.long q1), .second, .val (.long q2), .second, .unset, .unset, .unset, .unset]) rfl k) ?_
    obtain ⟨T13, X13, e13, st13⟩ := getS2 X12 hx hZ hown (host := "") (Or.inl (hw _ (List.mem_of_getElem? (i := 0) rfl))) Via.refl e12 S_AuctionSide_BORROW (g := (mkF m 44 #[.val (.long q1), .second, .val (.long q2), .second, .val (.int (1 : Int32)), .val (.int (0 : Int32)), .val (.int (1 : Int32)), .val (.long q1), .second, .val (.long q2), .second, .unset, .unset, .unset, .unset] [])) rfl (hb hby at_44)
    refine own_step (S' := (T13.setTop (mkF m 47 #[.val (.long q1), .second, .val (.long q2), .second, .val (.int (1 : Int32)), .val (.int (0 : Int32)), .val (.int (1 : Int32)), .val (.long q1), .second, .val (.long q2), .second, .unset, .unset, .unset, .unset] [(.ref a_AuctionSide_BORROW)]))) (fun _ k => st13 _ k) ?_
    refine own_step (S' := (T13.setTop (mkF m 49 #[.val (.long q1), .second, .val (.long q2), .second, .val (.int (1 : Int32)), .val (.int (0 : Int32)), .val (.int (1 : Int32)), .val (.long q1), .second, .val (.long q2), .second, .unset, .unset, .unset, .unset] [(.long q1), (.ref a_AuctionSide_BORROW)]))) (fun _ k => XS.lload X13.here hx rfl (hb hby at_47) rfl k) ?_
    refine own_step (S' := (T13.setTop (mkF m 51 #[.val (.long q1), .second, .val (.long q2), .second, .val (.int (1 : Int32)), .val (.int (0 : Int32)), .val (.int (1 : Int32)), .val (.long q1), .second, .val (.long q2), .second, .unset, .unset, .unset, .unset] [(.long q2), (.long q1), (.ref a_AuctionSide_BORROW)]))) (fun _ k => XS.lload X13.here hx rfl (hb hby at_49) rfl k) ?_
    obtain ⟨_, T14, L14, X14, ⟨rfl, N14q, e14⟩, st14⟩ := own_virt (argsL := [(.long q1), (.long q2)]) (rest := []) X13 hx hZ hown (hw _ (List.mem_of_getElem? (i := 3) rfl)) (hw _ (List.mem_of_getElem? (i := 4) rfl)) (notFace_of_selects (args := #[]) (mvT hZ (hw _ (List.mem_of_getElem? (i := 6) rfl)))) (hw _ (List.mem_of_getElem? (i := 6) rfl)) (hw _ (List.mem_of_getElem? (i := 5) rfl)) (by decide) (hw _ (List.mem_of_getElem? (i := 7) rfl)) (hw _ (List.mem_of_getElem? (i := 1) rfl)) e13 E_AuctionSide_BORROW (hM := rmB_1 l Z a0 hw [] a_AuctionSide_BORROW q1 q2 h0 n0 Z0 S_AuctionSide_BORROW (own_asym hlt)) (g := (mkF m 51 #[.val (.long q1), .second, .val (.long q2), .second, .val (.int (1 : Int32)), .val (.int (0 : Int32)), .val (.int (1 : Int32)), .val (.long q1), .second, .val (.long q2), .second, .unset, .unset, .unset, .unset] [(.long q2), (.long q1), (.ref a_AuctionSide_BORROW)])) (hg := rfl) (hsize := by rw [hml]; rfl) (hlen := lenOf pd_0 rfl) (hstack := rfl) (W := 0) (hW := by show 2 * 0 + _ ≤ _; exact Nat.le_of_eq rfl) (hd := (hb hby at_51)) (hf := by decide) (hl := by decide) (hc := by decide) (hs := by decide)
    have N14 := Fr.app N12 N14q
    refine own_step (S' := (T14.setTop (mkF m 54 #[.val (.long q1), .second, .val (.long q2), .second, .val (.int (1 : Int32)), .val (.int (0 : Int32)), .val (.int (1 : Int32)), .val (.long q1), .second, .val (.long q2), .second, .unset, .unset, .unset, .unset] [(.int (1 : Int32))]))) (fun _ k => st14 _ k) ?_
    refine own_step (S' := (T14.setTop (mkF m 56 #[.val (.long q1), .second, .val (.long q2), .second, .val (.int (1 : Int32)), .val (.int (0 : Int32)), .val (.int (1 : Int32)), .val (.long q1), .second, .val (.long q2), .second, .val (.int (1 : Int32)), .unset, .unset, .unset] []))) (fun _ k => XS.istore X14.here hx rfl (hb hby at_54) rfl (l' := #[.val (.long q1), .second, .val (.long q2), .second, .val (.int (1 : Int32)), .val (.int (0 : Int32)), .val (.int (1 : Int32)), .val (.long q1), .second, .val (.long q2), .second, .val (.int (1 : Int32)), .unset, .unset, .unset]) rfl k) ?_
    refine own_step (S' := (T14.setTop (mkF m 58 #[.val (.long q1), .second, .val (.long q2), .second, .val (.int (1 : Int32)), .val (.int (0 : Int32)), .val (.int (1 : Int32)), .val (.long q1), .second, .val (.long q2), .second, .val (.int (1 : Int32)), .unset, .unset, .unset] [(.int (1 : Int32))]))) (fun _ k => XS.iload X14.here hx rfl (hb hby at_56) rfl k) ?_
    refine own_step (S' := (T14.setTop (mkF m 60 #[.val (.long q1), .second, .val (.long q2), .second, .val (.int (1 : Int32)), .val (.int (0 : Int32)), .val (.int (1 : Int32)), .val (.long q1), .second, .val (.long q2), .second, .val (.int (1 : Int32)), .unset, .unset, .unset] [(.int (1 : Int32)), (.int (1 : Int32))]))) (fun _ k => XS.iload X14.here hx rfl (hb hby at_58) rfl k) ?_
    refine own_step (S' := (T14.setTop (mkF m 63 #[.val (.long q1), .second, .val (.long q2), .second, .val (.int (1 : Int32)), .val (.int (0 : Int32)), .val (.int (1 : Int32)), .val (.long q1), .second, .val (.long q2), .second, .val (.int (1 : Int32)), .unset, .unset, .unset] []))) (fun _ k => XS.icmpNo X14.here hx rfl (hb hby at_60) rfl (teq (by decide : (1 : Int32) = (1 : Int32))).2 k) ?_
    refine own_step (S' := (T14.setTop (mkF m 64 #[.val (.long q1), .second, .val (.long q2), .second, .val (.int (1 : Int32)), .val (.int (0 : Int32)), .val (.int (1 : Int32)), .val (.long q1), .second, .val (.long q2), .second, .val (.int (1 : Int32)), .unset, .unset, .unset] [(.int (1 : Int32))]))) (fun _ k => XS.iconst X14.here hx rfl (hb hby at_63) k) ?_
    refine own_step (S' := (T14.setTop (mkF m 68 #[.val (.long q1), .second, .val (.long q2), .second, .val (.int (1 : Int32)), .val (.int (0 : Int32)), .val (.int (1 : Int32)), .val (.long q1), .second, .val (.long q2), .second, .val (.int (1 : Int32)), .unset, .unset, .unset] [(.int (1 : Int32))]))) (fun _ k => XS.goto X14.here hx rfl (pc0 := 64) (pc' := 68) rfl (hb hby at_64) (by decide) (by decide) k) ?_
    refine own_step (S' := (T14.setTop (mkF m 70 #[.val (.long q1), .second, .val (.long q2), .second, .val (.int (1 : Int32)), .val (.int (0 : Int32)), .val (.int (1 : Int32)), .val (.long q1), .second, .val (.long q2), .second, .val (.int (1 : Int32)), .val (.int (1 : Int32)), .unset, .unset] []))) (fun _ k => XS.istore X14.here hx rfl (hb hby at_68) rfl (l' := #[.val (.long q1), .second, .val (.long q2), .second, .val (.int (1 : Int32)), .val (.int (0 : Int32)), .val (.int (1 : Int32)), .val (.long q1), .second, .val (.long q2), .second, .val (.int (1 : Int32)), .val (.int (1 : Int32)), .unset, .unset]) rfl k) ?_
    refine own_step (S' := (T14.setTop (mkF m 72 #[.val (.long q1), .second, .val (.long q2), .second, .val (.int (1 : Int32)), .val (.int (0 : Int32)), .val (.int (1 : Int32)), .val (.long q1), .second, .val (.long q2), .second, .val (.int (1 : Int32)), .val (.int (1 : Int32)), .unset, .unset] [(.int (1 : Int32))]))) (fun _ k => XS.iload X14.here hx rfl (hb hby at_70) rfl k) ?_
    refine own_step (S' := (T14.setTop (mkF m 80 #[.val (.long q1), .second, .val (.long q2), .second, .val (.int (1 : Int32)), .val (.int (0 : Int32)), .val (.int (1 : Int32)), .val (.long q1), .second, .val (.long q2), .second, .val (.int (1 : Int32)), .val (.int (1 : Int32)), .unset, .unset] []))) (fun _ k => XS.ifYes X14.here hx rfl (pc0 := 72) (pc' := 80) rfl (hb hby at_72) rfl ((if0 _ _).trans (feq (by decide : ¬ ((1 : Int32) = (0 : Int32)))).2) (by decide) (by decide) k) ?_
    refine own_step (S' := (T14.setTop (mkF m 81 #[.val (.long q1), .second, .val (.long q2), .second, .val (.int (1 : Int32)), .val (.int (0 : Int32)), .val (.int (1 : Int32)), .val (.long q1), .second, .val (.long q2), .second, .val (.int (1 : Int32)), .val (.int (1 : Int32)), .unset, .unset] [(.int (1 : Int32))]))) (fun _ k => XS.iconst X14.here hx rfl (hb hby at_80) k) ?_
    refine own_step (S' := (T14.setTop (mkF m 85 #[.val (.long q1), .second, .val (.long q2), .second, .val (.int (1 : Int32)), .val (.int (0 : Int32)), .val (.int (1 : Int32)), .val (.long q1), .second, .val (.long q2), .second, .val (.int (1 : Int32)), .val (.int (1 : Int32)), .unset, .unset] [(.int (1 : Int32))]))) (fun _ k => XS.goto X14.here hx rfl (pc0 := 81) (pc' := 85) rfl (hb hby at_81) (by decide) (by decide) k) ?_
    refine own_step (S' := (T14.setTop (mkF m 87 #[.val (.long q1), .second, .val (.long q2), .second, .val (.int (1 : Int32)), .val (.int (0 : Int32)), .val (.int (1 : Int32)), .val (.long q1), .second, .val (.long q2), .second, .val (.int (1 : Int32)), .val (.int (1 : Int32)), .val (.int (1 : Int32)), .unset] []))) (fun _ k => XS.istore X14.here hx rfl (hb hby at_85) rfl (l' := #[.val (.long q1), .second, .val (.long q2), .second, .val (.int (1 : Int32)), .val (.int (0 : Int32)), .val (.int (1 : Int32)), .val (.long q1), .second, .val (.long q2), .second, .val (.int (1 : Int32)), .val (.int (1 : Int32)), .val (.int (1 : Int32)), .unset]) rfl k) ?_
    refine own_step (S' := (T14.setTop (mkF m 89 #[.val (.long q1), .second, .val (.long q2), .second, .val (.int (1 : Int32)), .val (.int (0 : Int32)), .val (.int (1 : Int32)), .val (.long q1), .second, .val (.long q2), .second, .val (.int (1 : Int32)), .val (.int (1 : Int32)), .val (.int (1 : Int32)), .unset] [(.int (1 : Int32))]))) (fun _ k => XS.iload X14.here hx rfl (hb hby at_87) rfl k) ?_
    refine own_step (S' := (T14.setTop (mkF m 92 #[.val (.long q1), .second, .val (.long q2), .second, .val (.int (1 : Int32)), .val (.int (0 : Int32)), .val (.int (1 : Int32)), .val (.long q1), .second, .val (.long q2), .second, .val (.int (1 : Int32)), .val (.int (1 : Int32)), .val (.int (1 : Int32)), .unset] []))) (fun _ k => XS.ifNo X14.here hx rfl (hb hby at_89) rfl ((if0 _ _).trans (feq (by decide : ¬ ((1 : Int32) = (0 : Int32)))).1) k) ?_
    refine own_step (S' := (T14.setTop (mkF m 94 #[.val (.long q1), .second, .val (.long q2), .second, .val (.int (1 : Int32)), .val (.int (0 : Int32)), .val (.int (1 : Int32)), .val (.long q1), .second, .val (.long q2), .second, .val (.int (1 : Int32)), .val (.int (1 : Int32)), .val (.int (1 : Int32)), .unset] [(.int (0 : Int32))]))) (fun _ k => XS.iload X14.here hx rfl (hb hby at_92) rfl k) ?_
    refine own_step (S' := (T14.setTop (mkF m 101 #[.val (.long q1), .second, .val (.long q2), .second, .val (.int (1 : Int32)), .val (.int (0 : Int32)), .val (.int (1 : Int32)), .val (.long q1), .second, .val (.long q2), .second, .val (.int (1 : Int32)), .val (.int (1 : Int32)), .val (.int (1 : Int32)), .unset] []))) (fun _ k => XS.ifYes X14.here hx rfl (pc0 := 94) (pc' := 101) rfl (hb hby at_94) rfl ((if0 _ _).trans (teq (by decide : (0 : Int32) = (0 : Int32))).1) (by decide) (by decide) k) ?_
    refine own_step (S' := (T14.setTop (mkF m 102 #[.val (.long q1), .second, .val (.long q2), .second, .val (.int (1 : Int32)), .val (.int (0 : Int32)), .val (.int (1 : Int32)), .val (.long q1), .second, .val (.long q2), .second, .val (.int (1 : Int32)), .val (.int (1 : Int32)), .val (.int (1 : Int32)), .unset] [(.int (0 : Int32))]))) (fun _ k => XS.iconst X14.here hx rfl (hb hby at_101) k) ?_
    refine own_step (S' := (T14.setTop (mkF m 103 #[.val (.long q1), .second, .val (.long q2), .second, .val (.int (1 : Int32)), .val (.int (0 : Int32)), .val (.int (1 : Int32)), .val (.long q1), .second, .val (.long q2), .second, .val (.int (1 : Int32)), .val (.int (1 : Int32)), .val (.int (1 : Int32)), .unset] [(.long q1), (.int (0 : Int32))]))) (fun _ k => XS.lloadN X14.here hx rfl (hb hby at_102) rfl k) ?_
    refine own_step (S' := (T14.setTop (mkF m 104 #[.val (.long q1), .second, .val (.long q2), .second, .val (.int (1 : Int32)), .val (.int (0 : Int32)), .val (.int (1 : Int32)), .val (.long q1), .second, .val (.long q2), .second, .val (.int (1 : Int32)), .val (.int (1 : Int32)), .val (.int (1 : Int32)), .unset] [(.long q2), (.long q1), (.int (0 : Int32))]))) (fun _ k => XS.lloadN X14.here hx rfl (hb hby at_103) rfl k) ?_
    refine own_step (S' := (T14.setTop (mkF m 105 #[.val (.long q1), .second, .val (.long q2), .second, .val (.int (1 : Int32)), .val (.int (0 : Int32)), .val (.int (1 : Int32)), .val (.long q1), .second, .val (.long q2), .second, .val (.int (1 : Int32)), .val (.int (1 : Int32)), .val (.int (1 : Int32)), .unset] [(.int (lcmpW q1 q2)), (.int (0 : Int32))]))) (fun _ k => XS.lcmp X14.here hx rfl (hb hby at_104) rfl k) ?_
    refine own_step (S' := (T14.setTop (mkF m 112 #[.val (.long q1), .second, .val (.long q2), .second, .val (.int (1 : Int32)), .val (.int (0 : Int32)), .val (.int (1 : Int32)), .val (.long q1), .second, .val (.long q2), .second, .val (.int (1 : Int32)), .val (.int (1 : Int32)), .val (.int (1 : Int32)), .unset] [(.int (0 : Int32))]))) (fun _ k => XS.ifYes X14.here hx rfl (pc0 := 105) (pc' := 112) rfl (hb hby at_105) rfl ((if0 _ _).trans (feq (fun q => (own_ltne hlt) ((lw_eq q1 q2).mp q))).2) (by decide) (by decide) k) ?_
    refine own_step (S' := (T14.setTop (mkF m 113 #[.val (.long q1), .second, .val (.long q2), .second, .val (.int (1 : Int32)), .val (.int (0 : Int32)), .val (.int (1 : Int32)), .val (.long q1), .second, .val (.long q2), .second, .val (.int (1 : Int32)), .val (.int (1 : Int32)), .val (.int (1 : Int32)), .unset] [(.int (0 : Int32)), (.int (0 : Int32))]))) (fun _ k => XS.iconst X14.here hx rfl (hb hby at_112) k) ?_
    refine own_step (S' := (T14.setTop (mkF m 116 #[.val (.long q1), .second, .val (.long q2), .second, .val (.int (1 : Int32)), .val (.int (0 : Int32)), .val (.int (1 : Int32)), .val (.long q1), .second, .val (.long q2), .second, .val (.int (1 : Int32)), .val (.int (1 : Int32)), .val (.int (1 : Int32)), .unset] []))) (fun _ k => XS.icmpNo X14.here hx rfl (hb hby at_113) rfl (teq (by decide : (0 : Int32) = (0 : Int32))).2 k) ?_
    refine own_step (S' := (T14.setTop (mkF m 117 #[.val (.long q1), .second, .val (.long q2), .second, .val (.int (1 : Int32)), .val (.int (0 : Int32)), .val (.int (1 : Int32)), .val (.long q1), .second, .val (.long q2), .second, .val (.int (1 : Int32)), .val (.int (1 : Int32)), .val (.int (1 : Int32)), .unset] [(.int (1 : Int32))]))) (fun _ k => XS.iconst X14.here hx rfl (hb hby at_116) k) ?_
    refine own_step (S' := (T14.setTop (mkF m 121 #[.val (.long q1), .second, .val (.long q2), .second, .val (.int (1 : Int32)), .val (.int (0 : Int32)), .val (.int (1 : Int32)), .val (.long q1), .second, .val (.long q2), .second, .val (.int (1 : Int32)), .val (.int (1 : Int32)), .val (.int (1 : Int32)), .unset] [(.int (1 : Int32))]))) (fun _ k => XS.goto X14.here hx rfl (pc0 := 117) (pc' := 121) rfl (hb hby at_117) (by decide) (by decide) k) ?_
    refine own_step (S' := (T14.setTop (mkF m 123 #[.val (.long q1), .second, .val (.long q2), .second, .val (.int (1 : Int32)), .val (.int (0 : Int32)), .val (.int (1 : Int32)), .val (.long q1), .second, .val (.long q2), .second, .val (.int (1 : Int32)), .val (.int (1 : Int32)), .val (.int (1 : Int32)), .val (.int (1 : Int32))] []))) (fun _ k => XS.istore X14.here hx rfl (hb hby at_121) rfl (l' := #[.val (.long q1), .second, .val (.long q2), .second, .val (.int (1 : Int32)), .val (.int (0 : Int32)), .val (.int (1 : Int32)), .val (.long q1), .second, .val (.long q2), .second, .val (.int (1 : Int32)), .val (.int (1 : Int32)), .val (.int (1 : Int32)), .val (.int (1 : Int32))]) rfl k) ?_
    refine own_step (S' := (T14.setTop (mkF m 125 #[.val (.long q1), .second, .val (.long q2), .second, .val (.int (1 : Int32)), .val (.int (0 : Int32)), .val (.int (1 : Int32)), .val (.long q1), .second, .val (.long q2), .second, .val (.int (1 : Int32)), .val (.int (1 : Int32)), .val (.int (1 : Int32)), .val (.int (1 : Int32))] [(.int (1 : Int32))]))) (fun _ k => XS.iload X14.here hx rfl (hb hby at_123) rfl k) ?_
    refine own_step (S' := (T14.setTop (mkF m 128 #[.val (.long q1), .second, .val (.long q2), .second, .val (.int (1 : Int32)), .val (.int (0 : Int32)), .val (.int (1 : Int32)), .val (.long q1), .second, .val (.long q2), .second, .val (.int (1 : Int32)), .val (.int (1 : Int32)), .val (.int (1 : Int32)), .val (.int (1 : Int32))] []))) (fun _ k => XS.ifNo X14.here hx rfl (hb hby at_125) rfl ((if0 _ _).trans (feq (by decide : ¬ ((1 : Int32) = (0 : Int32)))).1) k) ?_
    refine own_step (S' := (T14.setTop (mkF m 130 #[.val (.long q1), .second, .val (.long q2), .second, .val (.int (1 : Int32)), .val (.int (0 : Int32)), .val (.int (1 : Int32)), .val (.long q1), .second, .val (.long q2), .second, .val (.int (1 : Int32)), .val (.int (1 : Int32)), .val (.int (1 : Int32)), .val (.int (1 : Int32))] [(.int (1 : Int32))]))) (fun _ k => XS.iload X14.here hx rfl (hb hby at_128) rfl k) ?_
    refine own_step (S' := (T14.setTop (mkF m 133 #[.val (.long q1), .second, .val (.long q2), .second, .val (.int (1 : Int32)), .val (.int (0 : Int32)), .val (.int (1 : Int32)), .val (.long q1), .second, .val (.long q2), .second, .val (.int (1 : Int32)), .val (.int (1 : Int32)), .val (.int (1 : Int32)), .val (.int (1 : Int32))] []))) (fun _ k => XS.ifNo X14.here hx rfl (hb hby at_130) rfl ((if0 _ _).trans (feq (by decide : ¬ ((1 : Int32) = (0 : Int32)))).1) k) ?_
    refine own_step (S' := (T14.setTop (mkF m 135 #[.val (.long q1), .second, .val (.long q2), .second, .val (.int (1 : Int32)), .val (.int (0 : Int32)), .val (.int (1 : Int32)), .val (.long q1), .second, .val (.long q2), .second, .val (.int (1 : Int32)), .val (.int (1 : Int32)), .val (.int (1 : Int32)), .val (.int (1 : Int32))] [(.int (1 : Int32))]))) (fun _ k => XS.iload X14.here hx rfl (hb hby at_133) rfl k) ?_
    refine own_step (S' := (T14.setTop (mkF m 138 #[.val (.long q1), .second, .val (.long q2), .second, .val (.int (1 : Int32)), .val (.int (0 : Int32)), .val (.int (1 : Int32)), .val (.long q1), .second, .val (.long q2), .second, .val (.int (1 : Int32)), .val (.int (1 : Int32)), .val (.int (1 : Int32)), .val (.int (1 : Int32))] []))) (fun _ k => XS.ifNo X14.here hx rfl (hb hby at_135) rfl ((if0 _ _).trans (feq (by decide : ¬ ((1 : Int32) = (0 : Int32)))).1) k) ?_
    refine own_step (S' := (T14.setTop (mkF m 140 #[.val (.long q1), .second, .val (.long q2), .second, .val (.int (1 : Int32)), .val (.int (0 : Int32)), .val (.int (1 : Int32)), .val (.long q1), .second, .val (.long q2), .second, .val (.int (1 : Int32)), .val (.int (1 : Int32)), .val (.int (1 : Int32)), .val (.int (1 : Int32))] [(.int (1 : Int32))]))) (fun _ k => XS.iload X14.here hx rfl (hb hby at_138) rfl k) ?_
    refine own_step (S' := (T14.setTop (mkF m 143 #[.val (.long q1), .second, .val (.long q2), .second, .val (.int (1 : Int32)), .val (.int (0 : Int32)), .val (.int (1 : Int32)), .val (.long q1), .second, .val (.long q2), .second, .val (.int (1 : Int32)), .val (.int (1 : Int32)), .val (.int (1 : Int32)), .val (.int (1 : Int32))] []))) (fun _ k => XS.ifNo X14.here hx rfl (hb hby at_140) rfl ((if0 _ _).trans (feq (by decide : ¬ ((1 : Int32) = (0 : Int32)))).1) k) ?_
    refine own_step (S' := (T14.setTop (mkF m 144 #[.val (.long q1), .second, .val (.long q2), .second, .val (.int (1 : Int32)), .val (.int (0 : Int32)), .val (.int (1 : Int32)), .val (.long q1), .second, .val (.long q2), .second, .val (.int (1 : Int32)), .val (.int (1 : Int32)), .val (.int (1 : Int32)), .val (.int (1 : Int32))] [(.int (1 : Int32))]))) (fun _ k => XS.iconst X14.here hx rfl (hb hby at_143) k) ?_
    refine own_step (S' := (T14.setTop (mkF m 148 #[.val (.long q1), .second, .val (.long q2), .second, .val (.int (1 : Int32)), .val (.int (0 : Int32)), .val (.int (1 : Int32)), .val (.long q1), .second, .val (.long q2), .second, .val (.int (1 : Int32)), .val (.int (1 : Int32)), .val (.int (1 : Int32)), .val (.int (1 : Int32))] [(.int (1 : Int32))]))) (fun _ k => XS.goto X14.here hx rfl (pc0 := 144) (pc' := 148) rfl (hb hby at_144) (by decide) (by decide) k) ?_
    refine own_retN X14 hx hlk hret (by simp) (by decide) (hb hby at_148) (by decide) (by decide) ?_
    try rw [e14]
    exact ⟨rfl, N14⟩
  · obtain ⟨T15, X15, e15, st15⟩ := getS2 X0 hx hZ hown (host := "") (Or.inl (hw _ (List.mem_of_getElem? (i := 0) rfl))) Via.refl e0 S_AuctionSide_BORROW (g := (mkF m 0 #[.val (.long q1), .second, .val (.long q1), .second, .unset, .unset, .unset, .unset, .unset, .unset, .unset, .unset, .unset, .unset, .unset] [])) rfl (hb hby at_0)
    refine own_step (S' := (T15.setTop (mkF m 3 #[.val (.long q1), .second, .val (.long q1), .second, .unset, .unset, .unset, .unset, .unset, .unset, .unset, .unset, .unset, .unset, .unset] [(.ref a_AuctionSide_BORROW)]))) (fun _ k => st15 _ k) ?_
    refine own_step (S' := (T15.setTop (mkF m 4 #[.val (.long q1), .second, .val (.long q1), .second, .unset, .unset, .unset, .unset, .unset, .unset, .unset, .unset, .unset, .unset, .unset] [(.long q1), (.ref a_AuctionSide_BORROW)]))) (fun _ k => XS.lloadN X15.here hx rfl (hb hby at_3) rfl k) ?_
    refine own_step (S' := (T15.setTop (mkF m 5 #[.val (.long q1), .second, .val (.long q1), .second, .unset, .unset, .unset, .unset, .unset, .unset, .unset, .unset, .unset, .unset, .unset] [(.long q1), (.long q1), (.ref a_AuctionSide_BORROW)]))) (fun _ k => XS.lloadN X15.here hx rfl (hb hby at_4) rfl k) ?_
    obtain ⟨_, T16, L16, X16, ⟨rfl, N16q, e16⟩, st16⟩ := own_virt (argsL := [(.long q1), (.long q1)]) (rest := []) X15 hx hZ hown (hw _ (List.mem_of_getElem? (i := 3) rfl)) (hw _ (List.mem_of_getElem? (i := 4) rfl)) (notFace_of_selects (args := #[]) (mvT hZ (hw _ (List.mem_of_getElem? (i := 6) rfl)))) (hw _ (List.mem_of_getElem? (i := 6) rfl)) (hw _ (List.mem_of_getElem? (i := 5) rfl)) (by decide) (hw _ (List.mem_of_getElem? (i := 7) rfl)) (hw _ (List.mem_of_getElem? (i := 1) rfl)) e15 E_AuctionSide_BORROW (hM := rmB_1 l Z a0 hw [] a_AuctionSide_BORROW q1 q1 h0 n0 Z0 S_AuctionSide_BORROW (own_irr _)) (g := (mkF m 5 #[.val (.long q1), .second, .val (.long q1), .second, .unset, .unset, .unset, .unset, .unset, .unset, .unset, .unset, .unset, .unset, .unset] [(.long q1), (.long q1), (.ref a_AuctionSide_BORROW)])) (hg := rfl) (hsize := by rw [hml]; rfl) (hlen := lenOf pd_0 rfl) (hstack := rfl) (W := 0) (hW := by show 2 * 0 + _ ≤ _; exact Nat.le_of_eq rfl) (hd := (hb hby at_5)) (hf := by decide) (hl := by decide) (hc := by decide) (hs := by decide)
    have N16 := Fr.app N0 N16q
    refine own_step (S' := (T16.setTop (mkF m 8 #[.val (.long q1), .second, .val (.long q1), .second, .unset, .unset, .unset, .unset, .unset, .unset, .unset, .unset, .unset, .unset, .unset] [(.int (1 : Int32))]))) (fun _ k => st16 _ k) ?_
    refine own_step (S' := (T16.setTop (mkF m 10 #[.val (.long q1), .second, .val (.long q1), .second, .val (.int (1 : Int32)), .unset, .unset, .unset, .unset, .unset, .unset, .unset, .unset, .unset, .unset] []))) (fun _ k => XS.istore X16.here hx rfl (hb hby at_8) rfl (l' := #[.val (.long q1), .second, .val (.long q1), .second, .val (.int (1 : Int32)), .unset, .unset, .unset, .unset, .unset, .unset, .unset, .unset, .unset, .unset]) rfl k) ?_
    obtain ⟨T17, X17, e17, st17⟩ := getS2 X16 hx hZ hown (host := "") (Or.inl (hw _ (List.mem_of_getElem? (i := 9) rfl))) Via.refl e16 S_AuctionSide_LEND (g := (mkF m 10 #[.val (.long q1), .second, .val (.long q1), .second, .val (.int (1 : Int32)), .unset, .unset, .unset, .unset, .unset, .unset, .unset, .unset, .unset, .unset] [])) rfl (hb hby at_10)
    refine own_step (S' := (T17.setTop (mkF m 13 #[.val (.long q1), .second, .val (.long q1), .second, .val (.int (1 : Int32)), .unset, .unset, .unset, .unset, .unset, .unset, .unset, .unset, .unset, .unset] [(.ref a_AuctionSide_LEND)]))) (fun _ k => st17 _ k) ?_
    refine own_step (S' := (T17.setTop (mkF m 14 #[.val (.long q1), .second, .val (.long q1), .second, .val (.int (1 : Int32)), .unset, .unset, .unset, .unset, .unset, .unset, .unset, .unset, .unset, .unset] [(.long q1), (.ref a_AuctionSide_LEND)]))) (fun _ k => XS.lloadN X17.here hx rfl (hb hby at_13) rfl k) ?_
    refine own_step (S' := (T17.setTop (mkF m 15 #[.val (.long q1), .second, .val (.long q1), .second, .val (.int (1 : Int32)), .unset, .unset, .unset, .unset, .unset, .unset, .unset, .unset, .unset, .unset] [(.long q1), (.long q1), (.ref a_AuctionSide_LEND)]))) (fun _ k => XS.lloadN X17.here hx rfl (hb hby at_14) rfl k) ?_
    obtain ⟨_, T18, L18, X18, ⟨rfl, N18q, e18⟩, st18⟩ := own_virt (argsL := [(.long q1), (.long q1)]) (rest := []) X17 hx hZ hown (hw _ (List.mem_of_getElem? (i := 3) rfl)) (hw _ (List.mem_of_getElem? (i := 4) rfl)) (notFace_of_selects (args := #[]) (mvT hZ (hw _ (List.mem_of_getElem? (i := 6) rfl)))) (hw _ (List.mem_of_getElem? (i := 6) rfl)) (hw _ (List.mem_of_getElem? (i := 5) rfl)) (by decide) (hw _ (List.mem_of_getElem? (i := 7) rfl)) (hw _ (List.mem_of_getElem? (i := 1) rfl)) e17 E_AuctionSide_LEND (hM := rmL_1 l Z a0 hw [] a_AuctionSide_BORROW a_AuctionSide_LEND q1 q1 h0 n0 Z0 S_AuctionSide_BORROW (Fld.ne F_AuctionSide_LEND_ordinal F_AuctionSide_BORROW_ordinal (by decide)) (own_irr _)) (g := (mkF m 15 #[.val (.long q1), .second, .val (.long q1), .second, .val (.int (1 : Int32)), .unset, .unset, .unset, .unset, .unset, .unset, .unset, .unset, .unset, .unset] [(.long q1), (.long q1), (.ref a_AuctionSide_LEND)])) (hg := rfl) (hsize := by rw [hml]; rfl) (hlen := lenOf pd_0 rfl) (hstack := rfl) (W := 0) (hW := by show 2 * 0 + _ ≤ _; exact Nat.le_of_eq rfl) (hd := (hb hby at_15)) (hf := by decide) (hl := by decide) (hc := by decide) (hs := by decide)
    have N18 := Fr.app N16 N18q
    refine own_step (S' := (T18.setTop (mkF m 18 #[.val (.long q1), .second, .val (.long q1), .second, .val (.int (1 : Int32)), .unset, .unset, .unset, .unset, .unset, .unset, .unset, .unset, .unset, .unset] [(.int (1 : Int32))]))) (fun _ k => st18 _ k) ?_
    refine own_step (S' := (T18.setTop (mkF m 20 #[.val (.long q1), .second, .val (.long q1), .second, .val (.int (1 : Int32)), .val (.int (1 : Int32)), .unset, .unset, .unset, .unset, .unset, .unset, .unset, .unset, .unset] []))) (fun _ k => XS.istore X18.here hx rfl (hb hby at_18) rfl (l' := #[.val (.long q1), .second, .val (.long q1), .second, .val (.int (1 : Int32)), .val (.int (1 : Int32)), .unset, .unset, .unset, .unset, .unset, .unset, .unset, .unset, .unset]) rfl k) ?_
    obtain ⟨T19, X19, e19, st19⟩ := getS2 X18 hx hZ hown (host := "") (Or.inl (hw _ (List.mem_of_getElem? (i := 9) rfl))) Via.refl e18 S_AuctionSide_LEND (g := (mkF m 20 #[.val (.long q1), .second, .val (.long q1), .second, .val (.int (1 : Int32)), .val (.int (1 : Int32)), .unset, .unset, .unset, .unset, .unset, .unset, .unset, .unset, .unset] [])) rfl (hb hby at_20)
    refine own_step (S' := (T19.setTop (mkF m 23 #[.val (.long q1), .second, .val (.long q1), .second, .val (.int (1 : Int32)), .val (.int (1 : Int32)), .unset, .unset, .unset, .unset, .unset, .unset, .unset, .unset, .unset] [(.ref a_AuctionSide_LEND)]))) (fun _ k => st19 _ k) ?_
    refine own_step (S' := (T19.setTop (mkF m 24 #[.val (.long q1), .second, .val (.long q1), .second, .val (.int (1 : Int32)), .val (.int (1 : Int32)), .unset, .unset, .unset, .unset, .unset, .unset, .unset, .unset, .unset] [(.long q1), (.ref a_AuctionSide_LEND)]))) (fun _ k => XS.lloadN X19.here hx rfl (hb hby at_23) rfl k) ?_
    refine own_step (S' := (T19.setTop (mkF m 25 #[.val (.long q1), .second, .val (.long q1), .second, .val (.int (1 : Int32)), .val (.int (1 : Int32)), .unset, .unset, .unset, .unset, .unset, .unset, .unset, .unset, .unset] [(.long q1), (.long q1), (.ref a_AuctionSide_LEND)]))) (fun _ k => XS.lloadN X19.here hx rfl (hb hby at_24) rfl k) ?_
    obtain ⟨_, T20, L20, X20, ⟨rfl, N20q, e20⟩, st20⟩ := own_virt (argsL := [(.long q1), (.long q1)]) (rest := []) X19 hx hZ hown (hw _ (List.mem_of_getElem? (i := 3) rfl)) (hw _ (List.mem_of_getElem? (i := 4) rfl)) (notFace_of_selects (args := #[]) (mvT hZ (hw _ (List.mem_of_getElem? (i := 6) rfl)))) (hw _ (List.mem_of_getElem? (i := 6) rfl)) (hw _ (List.mem_of_getElem? (i := 5) rfl)) (by decide) (hw _ (List.mem_of_getElem? (i := 7) rfl)) (hw _ (List.mem_of_getElem? (i := 1) rfl)) e19 E_AuctionSide_LEND (hM := rmL_1 l Z a0 hw [] a_AuctionSide_BORROW a_AuctionSide_LEND q1 q1 h0 n0 Z0 S_AuctionSide_BORROW (Fld.ne F_AuctionSide_LEND_ordinal F_AuctionSide_BORROW_ordinal (by decide)) (own_irr _)) (g := (mkF m 25 #[.val (.long q1), .second, .val (.long q1), .second, .val (.int (1 : Int32)), .val (.int (1 : Int32)), .unset, .unset, .unset, .unset, .unset, .unset, .unset, .unset, .unset] [(.long q1), (.long q1), (.ref a_AuctionSide_LEND)])) (hg := rfl) (hsize := by rw [hml]; rfl) (hlen := lenOf pd_0 rfl) (hstack := rfl) (W := 0) (hW := by show 2 * 0 + _ ≤ _; exact Nat.le_of_eq rfl) (hd := (hb hby at_25)) (hf := by decide) (hl := by decide) (hc := by decide) (hs := by decide)
    have N20 := Fr.app N18 N20q
    refine own_step (S' := (T20.setTop (mkF m 28 #[.val (.long q1), .second, .val (.long q1), .second, .val (.int (1 : Int32)), .val (.int (1 : Int32)), .unset, .unset, .unset, .unset, .unset, .unset, .unset, .unset, .unset] [(.int (1 : Int32))]))) (fun _ k => st20 _ k) ?_
    refine own_step (S' := (T20.setTop (mkF m 30 #[.val (.long q1), .second, .val (.long q1), .second, .val (.int (1 : Int32)), .val (.int (1 : Int32)), .val (.int (1 : Int32)), .unset, .unset, .unset, .unset, .unset, .unset, .unset, .unset] []))) (fun _ k => XS.istore X20.here hx rfl (hb hby at_28) rfl (l' := #[.val (.long q1), .second, .val (.long q1), .second, .val (.int (1 : Int32)), .val (.int (1 : Int32)), .val (.int (1 : Int32)), .unset, .unset, .unset, .unset, .unset, .unset, .unset, .unset]) rfl k) ?_
    refine own_step (S' := (T20.setTop (mkF m 31 #[.val (.long q1), .second, .val (.long q1), .second, .val (.int (1 : Int32)), .val (.int (1 : Int32)), .val (.int (1 : Int32)), .unset, .unset, .unset, .unset, .unset, .unset, .unset, .unset] [(.long q1)]))) (fun _ k => XS.lloadN X20.here hx rfl (hb hby at_30) rfl k) ?_
    refine own_step (S' := (T20.setTop (mkF m 32 #[.val (.long q1), .second, .val (.long q1), .second, .val (.int (1 : Int32)), .val (.int (1 : Int32)), .val (.int (1 : Int32)), .unset, .unset, .unset, .unset, .unset, .unset, .unset, .unset] [(.long q1), (.long q1)]))) (fun _ k => XS.lloadN X20.here hx rfl (hb hby at_31) rfl k) ?_
    obtain ⟨_, T21, L21, X21, ⟨rfl, N21q, e21⟩, st21⟩ := own_stat (argsL := [(.long q1), (.long q1)]) (rest := []) X20 hx hZ hown (hw _ (List.mem_of_getElem? (i := 11) rfl)) (hw _ (List.mem_of_getElem? (i := 12) rfl)) (by decide) (hw _ (List.mem_of_getElem? (i := 14) rfl)) (hw _ (List.mem_of_getElem? (i := 13) rfl)) e20 (hM := rmMin_1 l Z a0 hw [] q1 q1 h0 n0 Z0 (own_irr _)) (g := (mkF m 32 #[.val (.long q1), .second, .val (.long q1), .second, .val (.int (1 : Int32)), .val (.int (1 : Int32)), .val (.int (1 : Int32)), .unset, .unset, .unset, .unset, .unset, .unset, .unset, .unset] [(.long q1), (.long q1)])) (hg := rfl) (hsize := by rw [hml]; rfl) (hlen := lenOf pd_1 rfl) (hstack := rfl) (W := 0) (hW := by show 2 * 0 + _ ≤ _; exact Nat.le_of_eq rfl) (hd := (hb hby at_32)) (hf := by decide) (hl := by decide) (hc := by decide) (hs := by decide)
    have N21 := Fr.app N20 N21q
    refine own_step (S' := (T21.setTop (mkF m 35 #[.val (.long q1), .second, .val (.long q1), .second, .val (.int (1 : Int32)), .val (.int (1 : Int32)), .val (.int (1 : Int32)), .unset, .unset, .unset, .unset, .unset, .unset, .unset, .unset] [(.long q1)]))) (fun _ k => st21 _ k) ?_
    refine own_step (S' := (T21.setTop (mkF m 37 #[.val (.long q1), .second, .val (.long q1), .second, .val (.int (1 : Int32)), .val (.int (1 : Int32)), .val (.int (1 : Int32)), .val (.long q1), .second, .unset, .unset, .unset, .unset, .unset, .unset] []))) (fun _ k => XS.lstore X21.here hx rfl (hb hby at_35) rfl (l' := #[.val (.long q1), .second, .val (.long q1), .second, .val (.int (1 : Int32)), .val (.int (1 : Int32)), .val (.int (1 : Int32)), .val (.long q1), .second, .unset, .unset, .unset, .unset, .unset, .unset]) rfl k) ?_
    refine own_step (S' := (T21.setTop (mkF m 38 #[.val (.long q1), .second, .val (.long q1), .second, .val (.int (1 : Int32)), .val (.int (1 : Int32)), .val (.int (1 : Int32)), .val (.long q1), .second, .unset, .unset, .unset, .unset, .unset, .unset] [(.long q1)]))) (fun _ k => XS.lloadN X21.here hx rfl (hb hby at_37) rfl k) ?_
    refine own_step (S' := (T21.setTop (mkF m 39 #[.val (.long q1), .second, .val (.long q1), .second, .val (.int (1 : Int32)), .val (.int (1 : Int32)), .val (.int (1 : Int32)), .val (.long q1), .second, .unset, .unset, .unset, .unset, .unset, .unset] [(.long q1), (.long q1)]))) (fun _ k => XS.lloadN X21.here hx rfl (hb hby at_38) rfl k) ?_
    obtain ⟨_, T22, L22, X22, ⟨rfl, N22q, e22⟩, st22⟩ := own_stat (argsL := [(.long q1), (.long q1)]) (rest := []) X21 hx hZ hown (hw _ (List.mem_of_getElem? (i := 15) rfl)) (hw _ (List.mem_of_getElem? (i := 16) rfl)) (by decide) (hw _ (List.mem_of_getElem? (i := 17) rfl)) (hw _ (List.mem_of_getElem? (i := 13) rfl)) e21 (hM := rmMax_1 l Z a0 hw [] q1 q1 h0 n0 Z0 (own_irr _)) (g := (mkF m 39 #[.val (.long q1), .second, .val (.long q1), .second, .val (.int (1 : Int32)), .val (.int (1 : Int32)), .val (.int (1 : Int32)), .val (.long q1), .second, .unset, .unset, .unset, .unset, .unset, .unset] [(.long q1), (.long q1)])) (hg := rfl) (hsize := by rw [hml]; rfl) (hlen := lenOf pd_1 rfl) (hstack := rfl) (W := 0) (hW := by show 2 * 0 + _ ≤ _; exact Nat.le_of_eq rfl) (hd := (hb hby at_39)) (hf := by decide) (hl := by decide) (hc := by decide) (hs := by decide)
    have N22 := Fr.app N21 N22q
    refine own_step (S' := (T22.setTop (mkF m 42 #[.val (.long q1), .second, .val (.long q1), .second, .val (.int (1 : Int32)), .val (.int (1 : Int32)), .val (.int (1 : Int32)), .val (.long q1), .second, .unset, .unset, .unset, .unset, .unset, .unset] [(.long q1)]))) (fun _ k => st22 _ k) ?_
    refine own_step (S' := (T22.setTop (mkF m 44 #[.val (.long q1), .second, .val (.long q1), .second, .val (.int (1 : Int32)), .val (.int (1 : Int32)), .val (.int (1 : Int32)), .val (.long q1), .second, .val (.long q1), .second, .unset, .unset, .unset, .unset] []))) (fun _ k => XS.lstore X22.here hx rfl (hb hby at_42) rfl (l' := #[.val (.long q1), .second, .val (.long q1), .second, .val (.int (1 : Int32)), .val (.int (1 : Int32)), .val (.int (1 : Int32)), .val (.long q1), .second, .val (.long q1), .second, .unset, .unset, .unset, .unset]) rfl k) ?_
    obtain ⟨T23, X23, e23, st23⟩ := getS2 X22 hx hZ hown (host := "") (Or.inl (hw _ (List.mem_of_getElem? (i := 0) rfl))) Via.refl e22 S_AuctionSide_BORROW (g := (mkF m 44 #[.val (.long q1), .second, .val (.long q1), .second, .val (.int (1 : Int32)), .val (.int (1 : Int32)), .val (.int (1 : Int32)), .val (.long q1), .second, .val (.long q1), .second, .unset, .unset, .unset, .unset] [])) rfl (hb hby at_44)
    refine own_step (S' := (T23.setTop (mkF m 47 #[.val (.long q1), .second, .val (.long q1), .second, .val (.int (1 : Int32)), .val (.int (1 : Int32)), .val (.int (1 : Int32)), .val (.long q1), .second, .val (.long q1), .second, .unset, .unset, .unset, .unset] [(.ref a_AuctionSide_BORROW)]))) (fun _ k => st23 _ k) ?_
    refine own_step (S' := (T23.setTop (mkF m 49 #[.val (.long q1), .second, .val (.long q1), .second, .val (.int (1 : Int32)), .val (.int (1 : Int32)), .val (.int (1 : Int32)), .val (.long q1), .second, .val (.long q1), .second, .unset, .unset, .unset, .unset] [(.long q1), (.ref a_AuctionSide_BORROW)]))) (fun _ k => XS.lload X23.here hx rfl (hb hby at_47) rfl k) ?_
    refine own_step (S' := (T23.setTop (mkF m 51 #[.val (.long q1), .second, .val (.long q1), .second, .val (.int (1 : Int32)), .val (.int (1 : Int32)), .val (.int (1 : Int32)), .val (.long q1), .second, .val (.long q1), .second, .unset, .unset, .unset, .unset] [(.long q1), (.long q1), (.ref a_AuctionSide_BORROW)]))) (fun _ k => XS.lload X23.here hx rfl (hb hby at_49) rfl k) ?_
    obtain ⟨_, T24, L24, X24, ⟨rfl, N24q, e24⟩, st24⟩ := own_virt (argsL := [(.long q1), (.long q1)]) (rest := []) X23 hx hZ hown (hw _ (List.mem_of_getElem? (i := 3) rfl)) (hw _ (List.mem_of_getElem? (i := 4) rfl)) (notFace_of_selects (args := #[]) (mvT hZ (hw _ (List.mem_of_getElem? (i := 6) rfl)))) (hw _ (List.mem_of_getElem? (i := 6) rfl)) (hw _ (List.mem_of_getElem? (i := 5) rfl)) (by decide) (hw _ (List.mem_of_getElem? (i := 7) rfl)) (hw _ (List.mem_of_getElem? (i := 1) rfl)) e23 E_AuctionSide_BORROW (hM := rmB_1 l Z a0 hw [] a_AuctionSide_BORROW q1 q1 h0 n0 Z0 S_AuctionSide_BORROW (own_irr _)) (g := (mkF m 51 #[.val (.long q1), .second, .val (.long q1), .second, .val (.int (1 : Int32)), .val (.int (1 : Int32)), .val (.int (1 : Int32)), .val (.long q1), .second, .val (.long q1), .second, .unset, .unset, .unset, .unset] [(.long q1), (.long q1), (.ref a_AuctionSide_BORROW)])) (hg := rfl) (hsize := by rw [hml]; rfl) (hlen := lenOf pd_0 rfl) (hstack := rfl) (W := 0) (hW := by show 2 * 0 + _ ≤ _; exact Nat.le_of_eq rfl) (hd := (hb hby at_51)) (hf := by decide) (hl := by decide) (hc := by decide) (hs := by decide)
    have N24 := Fr.app N22 N24q
    refine own_step (S' := (T24.setTop (mkF m 54 #[.val (.long q1), .second, .val (.long q1), .second, .val (.int (1 : Int32)), .val (.int (1 : Int32)), .val (.int (1 : Int32)), .val (.long q1), .second, .val (.long q1), .second, .unset, .unset, .unset, .unset] [(.int (1 : Int32))]))) (fun _ k => st24 _ k) ?_
    refine own_step (S' := (T24.setTop (mkF m 56 #[.val (.long q1), .second, .val (.long q1), .second, .val (.int (1 : Int32)), .val (.int (1 : Int32)), .val (.int (1 : Int32)), .val (.long q1), .second, .val (.long q1), .second, .val (.int (1 : Int32)), .unset, .unset, .unset] []))) (fun _ k => XS.istore X24.here hx rfl (hb hby at_54) rfl (l' := #[.val (.long q1), .second, .val (.long q1), .second, .val (.int (1 : Int32)), .val (.int (1 : Int32)), .val (.int (1 : Int32)), .val (.long q1), .second, .val (.long q1), .second, .val (.int (1 : Int32)), .unset, .unset, .unset]) rfl k) ?_
    refine own_step (S' := (T24.setTop (mkF m 58 #[.val (.long q1), .second, .val (.long q1), .second, .val (.int (1 : Int32)), .val (.int (1 : Int32)), .val (.int (1 : Int32)), .val (.long q1), .second, .val (.long q1), .second, .val (.int (1 : Int32)), .unset, .unset, .unset] [(.int (1 : Int32))]))) (fun _ k => XS.iload X24.here hx rfl (hb hby at_56) rfl k) ?_
    refine own_step (S' := (T24.setTop (mkF m 60 #[.val (.long q1), .second, .val (.long q1), .second, .val (.int (1 : Int32)), .val (.int (1 : Int32)), .val (.int (1 : Int32)), .val (.long q1), .second, .val (.long q1), .second, .val (.int (1 : Int32)), .unset, .unset, .unset] [(.int (1 : Int32)), (.int (1 : Int32))]))) (fun _ k => XS.iload X24.here hx rfl (hb hby at_58) rfl k) ?_
    refine own_step (S' := (T24.setTop (mkF m 63 #[.val (.long q1), .second, .val (.long q1), .second, .val (.int (1 : Int32)), .val (.int (1 : Int32)), .val (.int (1 : Int32)), .val (.long q1), .second, .val (.long q1), .second, .val (.int (1 : Int32)), .unset, .unset, .unset] []))) (fun _ k => XS.icmpNo X24.here hx rfl (hb hby at_60) rfl (teq (by decide : (1 : Int32) = (1 : Int32))).2 k) ?_
    refine own_step (S' := (T24.setTop (mkF m 64 #[.val (.long q1), .second, .val (.long q1), .second, .val (.int (1 : Int32)), .val (.int (1 : Int32)), .val (.int (1 : Int32)), .val (.long q1), .second, .val (.long q1), .second, .val (.int (1 : Int32)), .unset, .unset, .unset] [(.int (1 : Int32))]))) (fun _ k => XS.iconst X24.here hx rfl (hb hby at_63) k) ?_
    refine own_step (S' := (T24.setTop (mkF m 68 #[.val (.long q1), .second, .val (.long q1), .second, .val (.int (1 : Int32)), .val (.int (1 : Int32)), .val (.int (1 : Int32)), .val (.long q1), .second, .val (.long q1), .second, .val (.int (1 : Int32)), .unset, .unset, .unset] [(.int (1 : Int32))]))) (fun _ k => XS.goto X24.here hx rfl (pc0 := 64) (pc' := 68) rfl (hb hby at_64) (by decide) (by decide) k) ?_
    refine own_step (S' := (T24.setTop (mkF m 70 #[.val (.long q1), .second, .val (.long q1), .second, .val (.int (1 : Int32)), .val (.int (1 : Int32)), .val (.int (1 : Int32)), .val (.long q1), .second, .val (.long q1), .second, .val (.int (1 : Int32)), .val (.int (1 : Int32)), .unset, .unset] []))) (fun _ k => XS.istore X24.here hx rfl (hb hby at_68) rfl (l' := #[.val (.long q1), .second, .val (.long q1), .second, .val (.int (1 : Int32)), .val (.int (1 : Int32)), .val (.int (1 : Int32)), .val (.long q1), .second, .val (.long q1), .second, .val (.int (1 : Int32)), .val (.int (1 : Int32)), .unset, .unset]) rfl k) ?_
    refine own_step (S' := (T24.setTop (mkF m 72 #[.val (.long q1), .second, .val (.long q1), .second, .val (.int (1 : Int32)), .val (.int (1 : Int32)), .val (.int (1 : Int32)), .val (.long q1), .second, .val (.long q1), .second, .val (.int (1 : Int32)), .val (.int (1 : Int32)), .unset, .unset] [(.int (1 : Int32))]))) (fun _ k => XS.iload X24.here hx rfl (hb hby at_70) rfl k) ?_
    refine own_step (S' := (T24.setTop (mkF m 80 #[.val (.long q1), .second, .val (.long q1), .second, .val (.int (1 : Int32)), .val (.int (1 : Int32)), .val (.int (1 : Int32)), .val (.long q1), .second, .val (.long q1), .second, .val (.int (1 : Int32)), .val (.int (1 : Int32)), .unset, .unset] []))) (fun _ k => XS.ifYes X24.here hx rfl (pc0 := 72) (pc' := 80) rfl (hb hby at_72) rfl ((if0 _ _).trans (feq (by decide : ¬ ((1 : Int32) = (0 : Int32)))).2) (by decide) (by decide) k) ?_
    refine own_step (S' := (T24.setTop (mkF m 81 #[.val (.long q1), .second, .val (.long q1), .second, .val (.int (1 : Int32)), .val (.int (1 : Int32)), .val (.int (1 : Int32)), .val (.long q1), .second, .val (.long q1), .second, .val (.int (1 : Int32)), .val (.int (1 : Int32)), .unset, .unset] [(.int (1 : Int32))]))) (fun _ k => XS.iconst X24.here hx rfl (hb hby at_80) k) ?_
    refine own_step (S' := (T24.setTop (mkF m 85 #[.val (.long q1), .second, .val (.long q1), .second, .val (.int (1 : Int32)), .val (.int (1 : Int32)), .val (.int (1 : Int32)), .val (.long q1), .second, .val (.long q1), .second, .val (.int (1 : Int32)), .val (.int (1 : Int32)), .unset, .unset] [(.int (1 : Int32))]))) (fun _ k => XS.goto X24.here hx rfl (pc0 := 81) (pc' := 85) rfl (hb hby at_81) (by decide) (by decide) k) ?_
    refine own_step (S' := (T24.setTop (mkF m 87 #[.val (.long q1), .second, .val (.long q1), .second, .val (.int (1 : Int32)), .val (.int (1 : Int32)), .val (.int (1 : Int32)), .val (.long q1), .second, .val (.long q1), .second, .val (.int (1 : Int32)), .val (.int (1 : Int32)), .val (.int (1 : Int32)), .unset] []))) (fun _ k => XS.istore X24.here hx rfl (hb hby at_85) rfl (l' := #[.val (.long q1), .second, .val (.long q1), .second, .val (.int (1 : Int32)), .val (.int (1 : Int32)), .val (.int (1 : Int32)), .val (.long q1), .second, .val (.long q1), .second, .val (.int (1 : Int32)), .val (.int (1 : Int32)), .val (.int (1 : Int32)), .unset]) rfl k) ?_
    refine own_step (S' := (T24.setTop (mkF m 89 #[.val (.long q1), .second, .val (.long q1), .second, .val (.int (1 : Int32)), .val (.int (1 : Int32)), .val (.int (1 : Int32)), .val (.long q1), .second, .val (.long q1), .second, .val (.int (1 : Int32)), .val (.int (1 : Int32)), .val (.int (1 : Int32)), .unset] [(.int (1 : Int32))]))) (fun _ k => XS.iload X24.here hx rfl (hb hby at_87) rfl k) ?_
    refine own_step (S' := (T24.setTop (mkF m 92 #[.val (.long q1), .second, .val (.long q1), .second, .val (.int (1 : Int32)), .val (.int (1 : Int32)), .val (.int (1 : Int32)), .val (.long q1), .second, .val (.long q1), .second, .val (.int (1 : Int32)), .val (.int (1 : Int32)), .val (.int (1 : Int32)), .unset] []))) (fun _ k => XS.ifNo X24.here hx rfl (hb hby at_89) rfl ((if0 _ _).trans (feq (by decide : ¬ ((1 : Int32) = (0 : Int32)))).1) k) ?_
    refine own_step (S' := (T24.setTop (mkF m 94 #[.val (.long q1), .second, .val (.long q1), .second, .val (.int (1 : Int32)), .val (.int (1 : Int32)), .val (.int (1 : Int32)), .val (.long q1), .second, .val (.long q1), .second, .val (.int (1 : Int32)), .val (.int (1 : Int32)), .val (.int (1 : Int32)), .unset] [(.int (1 : Int32))]))) (fun _ k => XS.iload X24.here hx rfl (hb hby at_92) rfl k) ?_
    refine own_step (S' := (T24.setTop (mkF m 97 #[.val (.long q1), .second, .val (.long q1), .second, .val (.int (1 : Int32)), .val (.int (1 : Int32)), .val (.int (1 : Int32)), .val (.long q1), .second, .val (.long q1), .second, .val (.int (1 : Int32)), .val (.int (1 : Int32)), .val (.int (1 : Int32)), .unset] []))) (fun _ k => XS.ifNo X24.here hx rfl (hb hby at_94) rfl ((if0 _ _).trans (feq (by decide : ¬ ((1 : Int32) = (0 : Int32)))).1) k) ?_
    refine own_step (S' := (T24.setTop (mkF m 98 #[.val (.long q1), .second, .val (.long q1), .second, .val (.int (1 : Int32)), .val (.int (1 : Int32)), .val (.int (1 : Int32)), .val (.long q1), .second, .val (.long q1), .second, .val (.int (1 : Int32)), .val (.int (1 : Int32)), .val (.int (1 : Int32)), .unset] [(.int (1 : Int32))]))) (fun _ k => XS.iconst X24.here hx rfl (hb hby at_97) k) ?_
    refine own_step (S' := (T24.setTop (mkF m 102 #[.val (.long q1), .second, .val (.long q1), .second, .val (.int (1 : Int32)), .val (.int (1 : Int32)), .val (.int (1 : Int32)), .val (.long q1), .second, .val (.long q1), .second, .val (.int (1 : Int32)), .val (.int (1 : Int32)), .val (.int (1 : Int32)), .unset] [(.int (1 : Int32))]))) (fun _ k => XS.goto X24.here hx rfl (pc0 := 98) (pc' := 102) rfl (hb hby at_98) (by decide) (by decide) k) ?_
    refine own_step (S' := (T24.setTop (mkF m 103 #[.val (.long q1), .second, .val (.long q1), .second, .val (.int (1 : Int32)), .val (.int (1 : Int32)), .val (.int (1 : Int32)), .val (.long q1), .second, .val (.long q1), .second, .val (.int (1 : Int32)), .val (.int (1 : Int32)), .val (.int (1 : Int32)), .unset] [(.long q1), (.int (1 : Int32))]))) (fun _ k => XS.lloadN X24.here hx rfl (hb hby at_102) rfl k) ?_
    refine own_step (S' := (T24.setTop (mkF m 104 #[.val (.long q1), .second, .val (.long q1), .second, .val (.int (1 : Int32)), .val (.int (1 : Int32)), .val (.int (1 : Int32)), .val (.long q1), .second, .val (.long q1), .second, .val (.int (1 : Int32)), .val (.int (1 : Int32)), .val (.int (1 : Int32)), .unset] [(.long q1), (.long q1), (.int (1 : Int32))]))) (fun _ k => XS.lloadN X24.here hx rfl (hb hby at_103) rfl k) ?_
    refine own_step (S' := (T24.setTop (mkF m 105 #[.val (.long q1), .second, .val (.long q1), .second, .val (.int (1 : Int32)), .val (.int (1 : Int32)), .val (.int (1 : Int32)), .val (.long q1), .second, .val (.long q1), .second, .val (.int (1 : Int32)), .val (.int (1 : Int32)), .val (.int (1 : Int32)), .unset] [(.int (lcmpW q1 q1)), (.int (1 : Int32))]))) (fun _ k => XS.lcmp X24.here hx rfl (hb hby at_104) rfl k) ?_
    refine own_step (S' := (T24.setTop (mkF m 108 #[.val (.long q1), .second, .val (.long q1), .second, .val (.int (1 : Int32)), .val (.int (1 : Int32)), .val (.int (1 : Int32)), .val (.long q1), .second, .val (.long q1), .second, .val (.int (1 : Int32)), .val (.int (1 : Int32)), .val (.int (1 : Int32)), .unset] [(.int (1 : Int32))]))) (fun _ k => XS.ifNo X24.here hx rfl (hb hby at_105) rfl ((if0 _ _).trans (teq ((lw_eq q1 q1).mpr (rfl : q1 = q1))).2) k) ?_
    refine own_step (S' := (T24.setTop (mkF m 109 #[.val (.long q1), .second, .val (.long q1), .second, .val (.int (1 : Int32)), .val (.int (1 : Int32)), .val (.int (1 : Int32)), .val (.long q1), .second, .val (.long q1), .second, .val (.int (1 : Int32)), .val (.int (1 : Int32)), .val (.int (1 : Int32)), .unset] [(.int (1 : Int32)), (.int (1 : Int32))]))) (fun _ k => XS.iconst X24.here hx rfl (hb hby at_108) k) ?_
    refine own_step (S' := (T24.setTop (mkF m 113 #[.val (.long q1), .second, .val (.long q1), .second, .val (.int (1 : Int32)), .val (.int (1 : Int32)), .val (.int (1 : Int32)), .val (.long q1), .second, .val (.long q1), .second, .val (.int (1 : Int32)), .val (.int (1 : Int32)), .val (.int (1 : Int32)), .unset] [(.int (1 : Int32)), (.int (1 : Int32))]))) (fun _ k => XS.goto X24.here hx rfl (pc0 := 109) (pc' := 113) rfl (hb hby at_109) (by decide) (by decide) k) ?_
    refine own_step (S' := (T24.setTop (mkF m 116 #[.val (.long q1), .second, .val (.long q1), .second, .val (.int (1 : Int32)), .val (.int (1 : Int32)), .val (.int (1 : Int32)), .val (.long q1), .second, .val (.long q1), .second, .val (.int (1 : Int32)), .val (.int (1 : Int32)), .val (.int (1 : Int32)), .unset] []))) (fun _ k => XS.icmpNo X24.here hx rfl (hb hby at_113) rfl (teq (by decide : (1 : Int32) = (1 : Int32))).2 k) ?_
    refine own_step (S' := (T24.setTop (mkF m 117 #[.val (.long q1), .second, .val (.long q1), .second, .val (.int (1 : Int32)), .val (.int (1 : Int32)), .val (.int (1 : Int32)), .val (.long q1), .second, .val (.long q1), .second, .val (.int (1 : Int32)), .val (.int (1 : Int32)), .val (.int (1 : Int32)), .unset] [(.int (1 : Int32))]))) (fun _ k => XS.iconst X24.here hx rfl (hb hby at_116) k) ?_
    refine own_step (S' := (T24.setTop (mkF m 121 #[.val (.long q1), .second, .val (.long q1), .second, .val (.int (1 : Int32)), .val (.int (1 : Int32)), .val (.int (1 : Int32)), .val (.long q1), .second, .val (.long q1), .second, .val (.int (1 : Int32)), .val (.int (1 : Int32)), .val (.int (1 : Int32)), .unset] [(.int (1 : Int32))]))) (fun _ k => XS.goto X24.here hx rfl (pc0 := 117) (pc' := 121) rfl (hb hby at_117) (by decide) (by decide) k) ?_
    refine own_step (S' := (T24.setTop (mkF m 123 #[.val (.long q1), .second, .val (.long q1), .second, .val (.int (1 : Int32)), .val (.int (1 : Int32)), .val (.int (1 : Int32)), .val (.long q1), .second, .val (.long q1), .second, .val (.int (1 : Int32)), .val (.int (1 : Int32)), .val (.int (1 : Int32)), .val (.int (1 : Int32))] []))) (fun _ k => XS.istore X24.here hx rfl (hb hby at_121) rfl (l' := #[.val (.long q1), .second, .val (.long q1), .second, .val (.int (1 : Int32)), .val (.int (1 : Int32)), .val (.int (1 : Int32)), .val (.long q1), .second, .val (.long q1), .second, .val (.int (1 : Int32)), .val (.int (1 : Int32)), .val (.int (1 : Int32)), .val (.int (1 : Int32))]) rfl k) ?_
    refine own_step (S' := (T24.setTop (mkF m 125 #[.val (.long q1), .second, .val (.long q1), .second, .val (.int (1 : Int32)), .val (.int (1 : Int32)), .val (.int (1 : Int32)), .val (.long q1), .second, .val (.long q1), .second, .val (.int (1 : Int32)), .val (.int (1 : Int32)), .val (.int (1 : Int32)), .val (.int (1 : Int32))] [(.int (1 : Int32))]))) (fun _ k => XS.iload X24.here hx rfl (hb hby at_123) rfl k) ?_
    refine own_step (S' := (T24.setTop (mkF m 128 #[.val (.long q1), .second, .val (.long q1), .second, .val (.int (1 : Int32)), .val (.int (1 : Int32)), .val (.int (1 : Int32)), .val (.long q1), .second, .val (.long q1), .second, .val (.int (1 : Int32)), .val (.int (1 : Int32)), .val (.int (1 : Int32)), .val (.int (1 : Int32))] []))) (fun _ k => XS.ifNo X24.here hx rfl (hb hby at_125) rfl ((if0 _ _).trans (feq (by decide : ¬ ((1 : Int32) = (0 : Int32)))).1) k) ?_
    refine own_step (S' := (T24.setTop (mkF m 130 #[.val (.long q1), .second, .val (.long q1), .second, .val (.int (1 : Int32)), .val (.int (1 : Int32)), .val (.int (1 : Int32)), .val (.long q1), .second, .val (.long q1), .second, .val (.int (1 : Int32)), .val (.int (1 : Int32)), .val (.int (1 : Int32)), .val (.int (1 : Int32))] [(.int (1 : Int32))]))) (fun _ k => XS.iload X24.here hx rfl (hb hby at_128) rfl k) ?_
    refine own_step (S' := (T24.setTop (mkF m 133 #[.val (.long q1), .second, .val (.long q1), .second, .val (.int (1 : Int32)), .val (.int (1 : Int32)), .val (.int (1 : Int32)), .val (.long q1), .second, .val (.long q1), .second, .val (.int (1 : Int32)), .val (.int (1 : Int32)), .val (.int (1 : Int32)), .val (.int (1 : Int32))] []))) (fun _ k => XS.ifNo X24.here hx rfl (hb hby at_130) rfl ((if0 _ _).trans (feq (by decide : ¬ ((1 : Int32) = (0 : Int32)))).1) k) ?_
    refine own_step (S' := (T24.setTop (mkF m 135 #[.val (.long q1), .second, .val (.long q1), .second, .val (.int (1 : Int32)), .val (.int (1 : Int32)), .val (.int (1 : Int32)), .val (.long q1), .second, .val (.long q1), .second, .val (.int (1 : Int32)), .val (.int (1 : Int32)), .val (.int (1 : Int32)), .val (.int (1 : Int32))] [(.int (1 : Int32))]))) (fun _ k => XS.iload X24.here hx rfl (hb hby at_133) rfl k) ?_
    refine own_step (S' := (T24.setTop (mkF m 138 #[.val (.long q1), .second, .val (.long q1), .second, .val (.int (1 : Int32)), .val (.int (1 : Int32)), .val (.int (1 : Int32)), .val (.long q1), .second, .val (.long q1), .second, .val (.int (1 : Int32)), .val (.int (1 : Int32)), .val (.int (1 : Int32)), .val (.int (1 : Int32))] []))) (fun _ k => XS.ifNo X24.here hx rfl (hb hby at_135) rfl ((if0 _ _).trans (feq (by decide : ¬ ((1 : Int32) = (0 : Int32)))).1) k) ?_
    refine own_step (S' := (T24.setTop (mkF m 140 #[.val (.long q1), .second, .val (.long q1), .second, .val (.int (1 : Int32)), .val (.int (1 : Int32)), .val (.int (1 : Int32)), .val (.long q1), .second, .val (.long q1), .second, .val (.int (1 : Int32)), .val (.int (1 : Int32)), .val (.int (1 : Int32)), .val (.int (1 : Int32))] [(.int (1 : Int32))]))) (fun _ k => XS.iload X24.here hx rfl (hb hby at_138) rfl k) ?_
    refine own_step (S' := (T24.setTop (mkF m 143 #[.val (.long q1), .second, .val (.long q1), .second, .val (.int (1 : Int32)), .val (.int (1 : Int32)), .val (.int (1 : Int32)), .val (.long q1), .second, .val (.long q1), .second, .val (.int (1 : Int32)), .val (.int (1 : Int32)), .val (.int (1 : Int32)), .val (.int (1 : Int32))] []))) (fun _ k => XS.ifNo X24.here hx rfl (hb hby at_140) rfl ((if0 _ _).trans (feq (by decide : ¬ ((1 : Int32) = (0 : Int32)))).1) k) ?_
    refine own_step (S' := (T24.setTop (mkF m 144 #[.val (.long q1), .second, .val (.long q1), .second, .val (.int (1 : Int32)), .val (.int (1 : Int32)), .val (.int (1 : Int32)), .val (.long q1), .second, .val (.long q1), .second, .val (.int (1 : Int32)), .val (.int (1 : Int32)), .val (.int (1 : Int32)), .val (.int (1 : Int32))] [(.int (1 : Int32))]))) (fun _ k => XS.iconst X24.here hx rfl (hb hby at_143) k) ?_
    refine own_step (S' := (T24.setTop (mkF m 148 #[.val (.long q1), .second, .val (.long q1), .second, .val (.int (1 : Int32)), .val (.int (1 : Int32)), .val (.int (1 : Int32)), .val (.long q1), .second, .val (.long q1), .second, .val (.int (1 : Int32)), .val (.int (1 : Int32)), .val (.int (1 : Int32)), .val (.int (1 : Int32))] [(.int (1 : Int32))]))) (fun _ k => XS.goto X24.here hx rfl (pc0 := 144) (pc' := 148) rfl (hb hby at_144) (by decide) (by decide) k) ?_
    refine own_retN X24 hx hlk hret (by simp) (by decide) (hb hby at_148) (by decide) (by decide) ?_
    try rw [e24]
    exact ⟨rfl, N24⟩
  · obtain ⟨T25, X25, e25, st25⟩ := getS2 X0 hx hZ hown (host := "") (Or.inl (hw _ (List.mem_of_getElem? (i := 0) rfl))) Via.refl e0 S_AuctionSide_BORROW (g := (mkF m 0 #[.val (.long q1), .second, .val (.long q2), .second, .unset, .unset, .unset, .unset, .unset, .unset, .unset, .unset, .unset, .unset, .unset] [])) rfl (hb hby at_0)
    refine own_step (S' := (T25.setTop (mkF m 3 #[.val (.long q1), .second, .val (.long q2), .second, .unset, .unset, .unset, .unset, .unset, .unset, .unset, .unset, .unset, .unset, .unset] [(.ref a_AuctionSide_BORROW)]))) (fun _ k => st25 _ k) ?_
    refine own_step (S' := (T25.setTop (mkF m 4 #[.val (.long q1), .second, .val (.long q2), .second, .unset, .unset, .unset, .unset, .unset, .unset, .unset, .unset, .unset, .unset, .unset] [(.long q1), (.ref a_AuctionSide_BORROW)]))) (fun _ k => XS.lloadN X25.here hx rfl (hb hby at_3) rfl k) ?_
    refine own_step (S' := (T25.setTop (mkF m 5 #[.val (.long q1), .second, .val (.long q2), .second, .unset, .unset, .unset, .unset, .unset, .unset, .unset, .unset, .unset, .unset, .unset] [(.long q2), (.long q1), (.ref a_AuctionSide_BORROW)]))) (fun _ k => XS.lloadN X25.here hx rfl (hb hby at_4) rfl k) ?_
    obtain ⟨_, T26, L26, X26, ⟨rfl, N26q, e26⟩, st26⟩ := own_virt (argsL := [(.long q1), (.long q2)]) (rest := []) X25 hx hZ hown (hw _ (List.mem_of_getElem? (i := 3) rfl)) (hw _ (List.mem_of_getElem? (i := 4) rfl)) (notFace_of_selects (args := #[]) (mvT hZ (hw _ (List.mem_of_getElem? (i := 6) rfl)))) (hw _ (List.mem_of_getElem? (i := 6) rfl)) (hw _ (List.mem_of_getElem? (i := 5) rfl)) (by decide) (hw _ (List.mem_of_getElem? (i := 7) rfl)) (hw _ (List.mem_of_getElem? (i := 1) rfl)) e25 E_AuctionSide_BORROW (hM := rmB_0 l Z a0 hw [] a_AuctionSide_BORROW q1 q2 h0 n0 Z0 S_AuctionSide_BORROW hgt) (g := (mkF m 5 #[.val (.long q1), .second, .val (.long q2), .second, .unset, .unset, .unset, .unset, .unset, .unset, .unset, .unset, .unset, .unset, .unset] [(.long q2), (.long q1), (.ref a_AuctionSide_BORROW)])) (hg := rfl) (hsize := by rw [hml]; rfl) (hlen := lenOf pd_0 rfl) (hstack := rfl) (W := 0) (hW := by show 2 * 0 + _ ≤ _; exact Nat.le_of_eq rfl) (hd := (hb hby at_5)) (hf := by decide) (hl := by decide) (hc := by decide) (hs := by decide)
    have N26 := Fr.app N0 N26q
    refine own_step (S' := (T26.setTop (mkF m 8 #[.val (.long q1), .second, .val (.long q2), .second, .unset, .unset, .unset, .unset, .unset, .unset, .unset, .unset, .unset, .unset, .unset] [(.int (0 : Int32))]))) (fun _ k => st26 _ k) ?_
    refine own_step (S' := (T26.setTop (mkF m 10 #[.val (.long q1), .second, .val (.long q2), .second, .val (.int (0 : Int32)), .unset, .unset, .unset, .unset, .unset, .unset, .unset, .unset, .unset, .unset] []))) (fun _ k => XS.istore X26.here hx rfl (hb hby at_8) rfl (l' := #[.val (.long q1), .second, .val (.long q2), .second, .val (.int (0 : Int32)), .unset, .unset, .unset, .unset, .unset, .unset, .unset, .unset, .unset, .unset]) rfl k) ?_
    obtain ⟨T27, X27, e27, st27⟩ := getS2 X26 hx hZ hown (host := "") (Or.inl (hw _ (List.mem_of_getElem? (i := 9) rfl))) Via.refl e26 S_AuctionSide_LEND (g := (mkF m 10 #[.val (.long q1), .second, .val (.long q2), .second, .val (.int (0 : Int32)), .unset, .unset, .unset, .unset, .unset, .unset, .unset, .unset, .unset, .unset] [])) rfl (hb hby at_10)
    refine own_step (S' := (T27.setTop (mkF m 13 #[.val (.long q1), .second, .val (.long q2), .second, .val (.int (0 : Int32)), .unset, .unset, .unset, .unset, .unset, .unset, .unset, .unset, .unset, .unset] [(.ref a_AuctionSide_LEND)]))) (fun _ k => st27 _ k) ?_
    refine own_step (S' := (T27.setTop (mkF m 14 #[.val (.long q1), .second, .val (.long q2), .second, .val (.int (0 : Int32)), .unset, .unset, .unset, .unset, .unset, .unset, .unset, .unset, .unset, .unset] [(.long q1), (.ref a_AuctionSide_LEND)]))) (fun _ k => XS.lloadN X27.here hx rfl (hb hby at_13) rfl k) ?_
    refine own_step (S' := (T27.setTop (mkF m 15 #[.val (.long q1), .second, .val (.long q2), .second, .val (.int (0 : Int32)), .unset, .unset, .unset, .unset, .unset, .unset, .unset, .unset, .unset, .unset] [(.long q2), (.long q1), (.ref a_AuctionSide_LEND)]))) (fun _ k => XS.lloadN X27.here hx rfl (hb hby at_14) rfl k) ?_
    obtain ⟨_, T28, L28, X28, ⟨rfl, N28q, e28⟩, st28⟩ := own_virt (argsL := [(.long q1), (.long q2)]) (rest := []) X27 hx hZ hown (hw _ (List.mem_of_getElem? (i := 3) rfl)) (hw _ (List.mem_of_getElem? (i := 4) rfl)) (notFace_of_selects (args := #[]) (mvT hZ (hw _ (List.mem_of_getElem? (i := 6) rfl)))) (hw _ (List.mem_of_getElem? (i := 6) rfl)) (hw _ (List.mem_of_getElem? (i := 5) rfl)) (by decide) (hw _ (List.mem_of_getElem? (i := 7) rfl)) (hw _ (List.mem_of_getElem? (i := 1) rfl)) e27 E_AuctionSide_LEND (hM := rmL_1 l Z a0 hw [] a_AuctionSide_BORROW a_AuctionSide_LEND q1 q2 h0 n0 Z0 S_AuctionSide_BORROW (Fld.ne F_AuctionSide_LEND_ordinal F_AuctionSide_BORROW_ordinal (by decide)) (own_asym hgt)) (g := (mkF m 15 #[.val (.long q1), .second, .val (.long q2), .second, .val (.int (0 : Int32)), .unset, .unset, .unset, .unset, .unset, .unset, .unset, .unset, .unset, .unset] [(.long q2), (.long q1), (.ref a_AuctionSide_LEND)])) (hg := rfl) (hsize := by rw [hml]; rfl) (hlen := lenOf pd_0 rfl) (hstack := rfl) (W := 0) (hW := by show 2 * 0 + _ ≤ _; exact Nat.le_of_eq rfl) (hd := (hb hby at_15)) (hf := by decide) (hl := by decide) (hc := by decide) (hs := by decide)
    have N28 := Fr.app N26 N28q
    refine own_step (S' := (T28.setTop (mkF m 18 #[.val (.long q1), .second, .val (.long q2), .second, .val (.int (0 : Int32)), .unset, .unset, .unset, .unset, .unset, .unset, .unset, .unset, .unset, .unset] [(.int (1 : Int32))]))) (fun _ k => st28 _ k) ?_
    refine own_step (S' := (T28.setTop (mkF m 20 #[.val (.long q1), .second, .val (.long q2), .second, .val (.int (0 : Int32)), .val (.int (1 : Int32)), .unset, .unset, .unset, .unset, .unset, .unset, .unset, .unset, .unset] []))) (fun _ k => XS.istore X28.here hx rfl (hb hby at_18) rfl (l' := #[.val (.long q1), .second, .val (.long q2), .second, .val (.int (0 : Int32)), .val (.int (1 : Int32)), .unset, .unset, .unset, .unset, .unset, .unset, .unset, .unset, .unset]) rfl k) ?_
    obtain ⟨T29, X29, e29, st29⟩ := getS2 X28 hx hZ hown (host := "") (Or.inl (hw _ (List.mem_of_getElem? (i := 9) rfl))) Via.refl e28 S_AuctionSide_LEND (g := (mkF m 20 #[.val (.long q1), .second, .val (.long q2), .second, .val (.int (0 : Int32)), .val (.int (1 : Int32)), .unset, .unset, .unset, .unset, .unset, .unset, .unset, .unset, .unset] [])) rfl (hb hby at_20)
    refine own_step (S' := (T29.setTop (mkF m 23 #[.val (.long q1), .second, .val (.long q2), .second, .val (.int (0 : Int32)), .val (.int (1 : Int32)), .unset, .unset, .unset, .unset, .unset, .unset, .unset, .unset, .unset] [(.ref a_AuctionSide_LEND)]))) (fun _ k => st29 _ k) ?_
    refine own_step (S' := (T29.setTop (mkF m 24 #[.val (.long q1), .second, .val (.long q2), .second, .val (.int (0 : Int32)), .val (.int (1 : Int32)), .unset, .unset, .unset, .unset, .unset, .unset, .unset, .unset, .unset] [(.long q2), (.ref a_AuctionSide_LEND)]))) (fun _ k => XS.lloadN X29.here hx rfl (hb hby at_23) rfl k) ?_
    refine own_step (S' := (T29.setTop (mkF m 25 #[.val (.long q1), .second, .val (.long q2), .second, .val (.int (0 : Int32)), .val (.int (1 : Int32)), .unset, .unset, .unset, .unset, .unset, .unset, .unset, .unset, .unset] [(.long q1), (.long q2), (.ref a_AuctionSide_LEND)]))) (fun _ k => XS.lloadN X29.here hx rfl (hb hby at_24) rfl k) ?_
    obtain ⟨_, T30, L30, X30, ⟨rfl, N30q, e30⟩, st30⟩ := own_virt (argsL := [(.long q2), (.long q1)]) (rest := []) X29 hx hZ hown (hw _ (List.mem_of_getElem? (i := 3) rfl)) (hw _ (List.mem_of_getElem? (i := 4) rfl)) (notFace_of_selects (args := #[]) (mvT hZ (hw _ (List.mem_of_getElem? (i := 6) rfl)))) (hw _ (List.mem_of_getElem? (i := 6) rfl)) (hw _ (List.mem_of_getElem? (i := 5) rfl)) (by decide) (hw _ (List.mem_of_getElem? (i := 7) rfl)) (hw _ (List.mem_of_getElem? (i := 1) rfl)) e29 E_AuctionSide_LEND (hM := rmL_0 l Z a0 hw [] a_AuctionSide_BORROW a_AuctionSide_LEND q2 q1 h0 n0 Z0 S_AuctionSide_BORROW (Fld.ne F_AuctionSide_LEND_ordinal F_AuctionSide_BORROW_ordinal (by decide)) hgt) (g := (mkF m 25 #[.val (.long q1), .second, .val (.long q2), .second, .val (.int (0 : Int32)), .val (.int (1 : Int32)), .unset, .unset, .unset, .unset, .unset, .unset, .unset, .unset, .unset] [(.long q1), (.long q2), (.ref a_AuctionSide_LEND)])) (hg := rfl) (hsize := by rw [hml]; rfl) (hlen := lenOf pd_0 rfl) (hstack := rfl) (W := 0) (hW := by show 2 * 0 + _ ≤ _; exact Nat.le_of_eq rfl) (hd := (hb hby at_25)) (hf := by decide) (hl := by decide) (hc := by decide) (hs := by decide)
    have N30 := Fr.app N28 N30q
    refine own_step (S' := (T30.setTop (mkF m 28 #[.val (.long q1), .second, .val (.long q2), .second, .val (.int (0 : Int32)), .val (.int (1 : Int32)), .unset, .unset, .unset, .unset, .unset, .unset, .unset, .unset, .unset] [(.int (0 : Int32))]))) (fun _ k => st30 _ k) ?_
    refine own_step (S' := (T30.setTop (mkF m 30 #[.val (.long q1), .second, .val (.long q2), .second, .val (.int (0 : Int32)), .val (.int (1 : Int32)), .val (.int (0 : Int32)), .unset, .unset, .unset, .unset, .unset, .unset, .unset, .unset] []))) (fun _ k => XS.istore X30.here hx rfl (hb hby at_28) rfl (l' := #[.val (.long q1), .second, .val (.long q2), .second, .val (.int (0 : Int32)), .val (.int (1 : Int32)), .val (.int (0 : Int32)), .unset, .unset, .unset, .unset, .unset, .unset, .unset, .unset]) rfl k) ?_
    refine own_step (S' := (T30.setTop (mkF m 31 #[.val (.long q1), .second, .val (.long q2), .second, .val (.int (0 : Int32)), .val (.int (1 : Int32)), .val (.int (0 : Int32)), .unset, .unset, .unset, .unset, .unset, .unset, .unset, .unset] [(.long q1)]))) (fun _ k => XS.lloadN X30.here hx rfl (hb hby at_30) rfl k) ?_
    refine own_step (S' := (T30.setTop (mkF m 32 #[.val (.long q1), .second, .val (.long q2), .second, .val (.int (0 : Int32)), .val (.int (1 : Int32)), .val (.int (0 : Int32)), .unset, .unset, .unset, .unset, .unset, .unset, .unset, .unset] [(.long q2), (.long q1)]))) (fun _ k => XS.lloadN X30.here hx rfl (hb hby at_31) rfl k) ?_
    obtain ⟨_, T31, L31, X31, ⟨rfl, N31q, e31⟩, st31⟩ := own_stat (argsL := [(.long q1), (.long q2)]) (rest := []) X30 hx hZ hown (hw _ (List.mem_of_getElem? (i := 11) rfl)) (hw _ (List.mem_of_getElem? (i := 12) rfl)) (by decide) (hw _ (List.mem_of_getElem? (i := 14) rfl)) (hw _ (List.mem_of_getElem? (i := 13) rfl)) e30 (hM := rmMin_0 l Z a0 hw [] q1 q2 h0 n0 Z0 hgt) (g := (mkF m 32 #[.val (.long q1), .second, .val (.long q2), .second, .val (.int (0 : Int32)), .val (.int (1 : Int32)), .val (.int (0 : Int32)), .unset, .unset, .unset, .unset, .unset, .unset, .unset, .unset] [(.long q2), (.long q1)])) (hg := rfl) (hsize := by rw [hml]; rfl) (hlen := lenOf pd_1 rfl) (hstack := rfl) (W := 0) (hW := by show 2 * 0 + _ ≤ _; exact Nat.le_of_eq rfl) (hd := (hb hby at_32)) (hf := by decide) (hl := by decide) (hc := by decide) (hs := by decide)
    have N31 := Fr.app N30 N31q
    refine own_step (S' := (T31.setTop (mkF m 35 #[.val (.long q1), .second, .val (.long q2), .second, .val (.int (0 : Int32)), .val (.int (1 : Int32)), .val (.int (0 : Int32)), .unset, .unset, .unset, .unset, .unset, .unset, .unset, .unset] [(.long q2)]))) (fun _ k => st31 _ k) ?_
    refine own_step (S' := (T31.setTop (mkF m 37 #[.val (.long q1), .second, .val (.long q2), .second, .val (.int (0 : Int32)), .val (.int (1 : Int32)), .val (.int (0 : Int32)), .val (.long q2), .second, .unset, .unset, .unset, .unset, .unset, .unset] []))) (fun _ k => XS.lstore X31.here hx rfl (hb hby at_35) rfl (l' := #[.val (.long q1), .second, .val (.long q2), .second, .val (.int (0 : Int32)), .val (.int (1 : Int32)), .val (.int (0 : Int32)), .val (.long q2), .second, .unset, .unset, .unset, .unset, .unset, .unset]) rfl k) ?_
    refine own_step (S' := (T31.setTop (mkF m 38 #[.val (.long q1), .second, .val (.long q2), .second, .val (.int (0 : Int32)), .val (.int (1 : Int32)), .val (.int (0 : Int32)), .val (.long q2), .second, .unset, .unset, .unset, .unset, .unset, .unset] [(.long q1)]))) (fun _ k => XS.lloadN X31.here hx rfl (hb hby at_37) rfl k) ?_
    refine own_step (S' := (T31.setTop (mkF m 39 #[.val (.long q1), .second, .val (.long q2), .second, .val (.int (0 : Int32)), .val (.int (1 : Int32)), .val (.int (0 : Int32)), .val (.long q2), .second, .unset, .unset, .unset, .unset, .unset, .unset] [(.long q2), (.long q1)]))) (fun _ k => XS.lloadN X31.here hx rfl (hb hby at_38) rfl k) ?_
    obtain ⟨_, T32, L32, X32, ⟨rfl, N32q, e32⟩, st32⟩ := own_stat (argsL := [(.long q1), (.long q2)]) (rest := []) X31 hx hZ hown (hw _ (List.mem_of_getElem? (i := 15) rfl)) (hw _ (List.mem_of_getElem? (i := 16) rfl)) (by decide) (hw _ (List.mem_of_getElem? (i := 17) rfl)) (hw _ (List.mem_of_getElem? (i := 13) rfl)) e31 (hM := rmMax_1 l Z a0 hw [] q1 q2 h0 n0 Z0 (own_asym hgt)) (g := (mkF m 39 #[.val (.long q1), .second, .val (.long q2), .second, .val (.int (0 : Int32)), .val (.int (1 : Int32)), .val (.int (0 : Int32)), .val (.long q2), .second, .unset, .unset, .unset, .unset, .unset, .unset] [(.long q2), (.long q1)])) (hg := rfl) (hsize := by rw [hml]; rfl) (hlen := lenOf pd_1 rfl) (hstack := rfl) (W := 0) (hW := by show 2 * 0 + _ ≤ _; exact Nat.le_of_eq rfl) (hd := (hb hby at_39)) (hf := by decide) (hl := by decide) (hc := by decide) (hs := by decide)
    have N32 := Fr.app N31 N32q
    refine own_step (S' := (T32.setTop (mkF m 42 #[.val (.long q1), .second, .val (.long q2), .second, .val (.int (0 : Int32)), .val (.int (1 : Int32)), .val (.int (0 : Int32)), .val (.long q2), .second, .unset, .unset, .unset, .unset, .unset, .unset] [(.long q1)]))) (fun _ k => st32 _ k) ?_
    refine own_step (S' := (T32.setTop (mkF m 44 #[.val (.long q1), .second, .val (.long q2), .second, .val (.int (0 : Int32)), .val (.int (1 : Int32)), .val (.int (0 : Int32)), .val (.long q2), .second, .val (.long q1), .second, .unset, .unset, .unset, .unset] []))) (fun _ k => XS.lstore X32.here hx rfl (hb hby at_42) rfl (l' := #[.val (.long q1), .second, .val (.long q2), .second, .val (.int (0 : Int32)), .val (.int (1 : Int32)), .val (.int (0 : Int32)), .val (.long q2), .second, .val (.long q1), .second, .unset, .unset, .unset, .unset]) rfl k) ?_
    obtain ⟨T33, X33, e33, st33⟩ := getS2 X32 hx hZ hown (host := "") (Or.inl (hw _ (List.mem_of_getElem? (i := 0) rfl))) Via.refl e32 S_AuctionSide_BORROW (g := (mkF m 44 #[.val (.long q1), .second, .val (.long q2), .second, .val (.int (0 : Int32)), .val (.int (1 : Int32)), .val (.int (0 : Int32)), .val (.long q2), .second, .val (.long q1), .second, .unset, .unset, .unset, .unset] [])) rfl (hb hby at_44)
    refine own_step (S' := (T33.setTop (mkF m 47 #[.val (.long q1), .second, .val (.long q2), .second, .val (.int (0 : Int32)), .val (.int (1 : Int32)), .val (.int (0 : Int32)), .val (.long q2), .second, .val (.long q1), .second, .unset, .unset, .unset, .unset] [(.ref a_AuctionSide_BORROW)]))) (fun _ k => st33 _ k) ?_
    refine own_step (S' := (T33.setTop (mkF m 49 #[.val (.long q1), .second, .val (.long q2), .second, .val (.int (0 : Int32)), .val (.int (1 : Int32)), .val (.int (0 : Int32)), .val (.long q2), .second, .val (.long q1), .second, .unset, .unset, .unset, .unset] [(.long q2), (.ref a_AuctionSide_BORROW)]))) (fun _ k => XS.lload X33.here hx rfl (hb hby at_47) rfl k) ?_
    refine own_step (S' := (T33.setTop (mkF m 51 #[.val (.long q1), .second, .val (.long q2), .second, .val (.int (0 : Int32)), .val (.int (1 : Int32)), .val (.int (0 : Int32)), .val (.long q2), .second, .val (.long q1), .second, .unset, .unset, .unset, .unset] [(.long q1), (.long q2), (.ref a_AuctionSide_BORROW)]))) (fun _ k => XS.lload X33.here hx rfl (hb hby at_49) rfl k) ?_
    obtain ⟨_, T34, L34, X34, ⟨rfl, N34q, e34⟩, st34⟩ := own_virt (argsL := [(.long q2), (.long q1)]) (rest := []) X33 hx hZ hown (hw _ (List.mem_of_getElem? (i := 3) rfl)) (hw _ (List.mem_of_getElem? (i := 4) rfl)) (notFace_of_selects (args := #[]) (mvT hZ (hw _ (List.mem_of_getElem? (i := 6) rfl)))) (hw _ (List.mem_of_getElem? (i := 6) rfl)) (hw _ (List.mem_of_getElem? (i := 5) rfl)) (by decide) (hw _ (List.mem_of_getElem? (i := 7) rfl)) (hw _ (List.mem_of_getElem? (i := 1) rfl)) e33 E_AuctionSide_BORROW (hM := rmB_1 l Z a0 hw [] a_AuctionSide_BORROW q2 q1 h0 n0 Z0 S_AuctionSide_BORROW (own_asym hgt)) (g := (mkF m 51 #[.val (.long q1), .second, .val (.long q2), .second, .val (.int (0 : Int32)), .val (.int (1 : Int32)), .val (.int (0 : Int32)), .val (.long q2), .second, .val (.long q1), .second, .unset, .unset, .unset, .unset] [(.long q1), (.long q2), (.ref a_AuctionSide_BORROW)])) (hg := rfl) (hsize := by rw [hml]; rfl) (hlen := lenOf pd_0 rfl) (hstack := rfl) (W := 0) (hW := by show 2 * 0 + _ ≤ _; exact Nat.le_of_eq rfl) (hd := (hb hby at_51)) (hf := by decide) (hl := by decide) (hc := by decide) (hs := by decide)
    have N34 := Fr.app N32 N34q
    refine own_step (S' := (T34.setTop (mkF m 54 #[.val (.long q1), .second, .val (.long q2), .second, .val (.int (0 : Int32)), .val (.int (1 : Int32)), .val (.int (0 : Int32)), .val (.long q2), .second, .val (.long q1), .second, .unset, .unset, .unset, .unset] [(.int (1 : Int32))]))) (fun _ k => st34 _ k) ?_
    refine own_step (S' := (T34.setTop (mkF m 56 #[.val (.long q1), .second, .val (.long q2), .second, .val (.int (0 : Int32)), .val (.int (1 : Int32)), .val (.int (0 : Int32)), .val (.long q2), .second, .val (.long q1), .second, .val (.int (1 : Int32)), .unset, .unset, .unset] []))) (fun _ k => XS.istore X34.here hx rfl (hb hby at_54) rfl (l' := #[.val (.long q1), .second, .val (.long q2), .second, .val (.int (0 : Int32)), .val (.int (1 : Int32)), .val (.int (0 : Int32)), .val (.long q2), .second, .val (.long q1), .second, .val (.int (1 : Int32)), .unset, .unset, .unset]) rfl k) ?_
    refine own_step (S' := (T34.setTop (mkF m 58 #[.val (.long q1), .second, .val (.long q2), .second, .val (.int (0 : Int32)), .val (.int (1 : Int32)), .val (.int (0 : Int32)), .val (.long q2), .second, .val (.long q1), .second, .val (.int (1 : Int32)), .unset, .unset, .unset] [(.int (0 : Int32))]))) (fun _ k => XS.iload X34.here hx rfl (hb hby at_56) rfl k) ?_
    refine own_step (S' := (T34.setTop (mkF m 60 #[.val (.long q1), .second, .val (.long q2), .second, .val (.int (0 : Int32)), .val (.int (1 : Int32)), .val (.int (0 : Int32)), .val (.long q2), .second, .val (.long q1), .second, .val (.int (1 : Int32)), .unset, .unset, .unset] [(.int (0 : Int32)), (.int (0 : Int32))]))) (fun _ k => XS.iload X34.here hx rfl (hb hby at_58) rfl k) ?_
    refine own_step (S' := (T34.setTop (mkF m 63 #[.val (.long q1), .second, .val (.long q2), .second, .val (.int (0 : Int32)), .val (.int (1 : Int32)), .val (.int (0 : Int32)), .val (.long q2), .second, .val (.long q1), .second, .val (.int (1 : Int32)), .unset, .unset, .unset] []))) (fun _ k => XS.icmpNo X34.here hx rfl (hb hby at_60) rfl (teq (by decide : (0 : Int32) = (0 : Int32))).2 k) ?_
    refine own_step (S' := (T34.setTop (mkF m 64 #[.val (.long q1), .second, .val (.long q2), .second, .val (.int (0 : Int32)), .val (.int (1 : Int32)), .val (.int (0 : Int32)), .val (.long q2), .second, .val (.long q1), .second, .val (.int (1 : Int32)), .unset, .unset, .unset] [(.int (1 : Int32))]))) (fun _ k => XS.iconst X34.here hx rfl (hb hby at_63) k) ?_
    refine own_step (S' := (T34.setTop (mkF m 68 #[.val (.long q1), .second, .val (.long q2), .second, .val (.int (0 : Int32)), .val (.int (1 : Int32)), .val (.int (0 : Int32)), .val (.long q2), .second, .val (.long q1), .second, .val (.int (1 : Int32)), .unset, .unset, .unset] [(.int (1 : Int32))]))) (fun _ k => XS.goto X34.here hx rfl (pc0 := 64) (pc' := 68) rfl (hb hby at_64) (by decide) (by decide) k) ?_
    refine own_step (S' := (T34.setTop (mkF m 70 #[.val (.long q1), .second, .val (.long q2), .second, .val (.int (0 : Int32)), .val (.int (1 : Int32)), .val (.int (0 : Int32)), .val (.long q2), .second, .val (.long q1), .second, .val (.int (1 : Int32)), .val (.int (1 : Int32)), .unset, .unset] []))) (fun _ k => XS.istore X34.here hx rfl (hb hby at_68) rfl (l' := #[.val (.long q1), .second, .val (.long q2), .second, .val (.int (0 : Int32)), .val (.int (1 : Int32)), .val (.int (0 : Int32)), .val (.long q2), .second, .val (.long q1), .second, .val (.int (1 : Int32)), .val (.int (1 : Int32)), .unset, .unset]) rfl k) ?_
    refine own_step (S' := (T34.setTop (mkF m 72 #[.val (.long q1), .second, .val (.long q2), .second, .val (.int (0 : Int32)), .val (.int (1 : Int32)), .val (.int (0 : Int32)), .val (.long q2), .second, .val (.long q1), .second, .val (.int (1 : Int32)), .val (.int (1 : Int32)), .unset, .unset] [(.int (0 : Int32))]))) (fun _ k => XS.iload X34.here hx rfl (hb hby at_70) rfl k) ?_
    refine own_step (S' := (T34.setTop (mkF m 75 #[.val (.long q1), .second, .val (.long q2), .second, .val (.int (0 : Int32)), .val (.int (1 : Int32)), .val (.int (0 : Int32)), .val (.long q2), .second, .val (.long q1), .second, .val (.int (1 : Int32)), .val (.int (1 : Int32)), .unset, .unset] []))) (fun _ k => XS.ifNo X34.here hx rfl (hb hby at_72) rfl ((if0 _ _).trans (teq (by decide : (0 : Int32) = (0 : Int32))).2) k) ?_
    refine own_step (S' := (T34.setTop (mkF m 77 #[.val (.long q1), .second, .val (.long q2), .second, .val (.int (0 : Int32)), .val (.int (1 : Int32)), .val (.int (0 : Int32)), .val (.long q2), .second, .val (.long q1), .second, .val (.int (1 : Int32)), .val (.int (1 : Int32)), .unset, .unset] [(.int (1 : Int32))]))) (fun _ k => XS.iload X34.here hx rfl (hb hby at_75) rfl k) ?_
    refine own_step (S' := (T34.setTop (mkF m 80 #[.val (.long q1), .second, .val (.long q2), .second, .val (.int (0 : Int32)), .val (.int (1 : Int32)), .val (.int (0 : Int32)), .val (.long q2), .second, .val (.long q1), .second, .val (.int (1 : Int32)), .val (.int (1 : Int32)), .unset, .unset] []))) (fun _ k => XS.ifNo X34.here hx rfl (hb hby at_77) rfl ((if0 _ _).trans (feq (by decide : ¬ ((1 : Int32) = (0 : Int32)))).1) k) ?_
    refine own_step (S' := (T34.setTop (mkF m 81 #[.val (.long q1), .second, .val (.long q2), .second, .val (.int (0 : Int32)), .val (.int (1 : Int32)), .val (.int (0 : Int32)), .val (.long q2), .second, .val (.long q1), .second, .val (.int (1 : Int32)), .val (.int (1 : Int32)), .unset, .unset] [(.int (1 : Int32))]))) (fun _ k => XS.iconst X34.here hx rfl (hb hby at_80) k) ?_
    refine own_step (S' := (T34.setTop (mkF m 85 #[.val (.long q1), .second, .val (.long q2), .second, .val (.int (0 : Int32)), .val (.int (1 : Int32)), .val (.int (0 : Int32)), .val (.long q2), .second, .val (.long q1), .second, .val (.int (1 : Int32)), .val (.int (1 : Int32)), .unset, .unset] [(.int (1 : Int32))]))) (fun _ k => XS.goto X34.here hx rfl (pc0 := 81) (pc' := 85) rfl (hb hby at_81) (by decide) (by decide) k) ?_
    refine own_step (S' := (T34.setTop (mkF m 87 #[.val (.long q1), .second, .val (.long q2), .second, .val (.int (0 : Int32)), .val (.int (1 : Int32)), .val (.int (0 : Int32)), .val (.long q2), .second, .val (.long q1), .second, .val (.int (1 : Int32)), .val (.int (1 : Int32)), .val (.int (1 : Int32)), .unset] []))) (fun _ k => XS.istore X34.here hx rfl (hb hby at_85) rfl (l' := #[.val (.long q1), .second, .val (.long q2), .second, .val (.int (0 : Int32)), .val (.int (1 : Int32)), .val (.int (0 : Int32)), .val (.long q2), .second, .val (.long q1), .second, .val (.int (1 : Int32)), .val (.int (1 : Int32)), .val (.int (1 : Int32)), .unset]) rfl k) ?_
    refine own_step (S' := (T34.setTop (mkF m 89 #[.val (.long q1), .second, .val (.long q2), .second, .val (.int (0 : Int32)), .val (.int (1 : Int32)), .val (.int (0 : Int32)), .val (.long q2), .second, .val (.long q1), .second, .val (.int (1 : Int32)), .val (.int (1 : Int32)), .val (.int (1 : Int32)), .unset] [(.int (0 : Int32))]))) (fun _ k => XS.iload X34.here hx rfl (hb hby at_87) rfl k) ?_
    refine own_step (S' := (T34.setTop (mkF m 101 #[.val (.long q1), .second, .val (.long q2), .second, .val (.int (0 : Int32)), .val (.int (1 : Int32)), .val (.int (0 : Int32)), .val (.long q2), .second, .val (.long q1), .second, .val (.int (1 : Int32)), .val (.int (1 : Int32)), .val (.int (1 : Int32)), .unset] []))) (fun _ k => XS.ifYes X34.here hx rfl (pc0 := 89) (pc' := 101) rfl (hb hby at_89) rfl ((if0 _ _).trans (teq (by decide : (0 : Int32) = (0 : Int32))).1) (by decide) (by decide) k) ?_
    refine own_step (S' := (T34.setTop (mkF m 102 #[.val (.long q1), .second, .val (.long q2), .second, .val (.int (0 : Int32)), .val (.int (1 : Int32)), .val (.int (0 : Int32)), .val (.long q2), .second, .val (.long q1), .second, .val (.int (1 : Int32)), .val (.int (1 : Int32)), .val (.int (1 : Int32)), .unset] [(.int (0 : Int32))]))) (fun _ k => XS.iconst X34.here hx rfl (hb hby at_101) k) ?_
    refine own_step (S' := (T34.setTop (mkF m 103 #[.val (.long q1), .second, .val (.long q2), .second, .val (.int (0 : Int32)), .val (.int (1 : Int32)), .val (.int (0 : Int32)), .val (.long q2), .second, .val (.long q1), .second, .val (.int (1 : Int32)), .val (.int (1 : Int32)), .val (.int (1 : Int32)), .unset] [(.long q1), (.int (0 : Int32))]))) (fun _ k => XS.lloadN X34.here hx rfl (hb hby at_102) rfl k) ?_
    refine own_step (S' := (T34.setTop (mkF m 104 #[.val (.long q1), .second, .val (.long q2), .second, .val (.int (0 : Int32)), .val (.int (1 : Int32)), .val (.int (0 : Int32)), .val (.long q2), .second, .val (.long q1), .second, .val (.int (1 : Int32)), .val (.int (1 : Int32)), .val (.int (1 : Int32)), .unset] [(.long q2), (.long q1), (.int (0 : Int32))]))) (fun _ k => XS.lloadN X34.here hx rfl (hb hby at_103) rfl k) ?_
    refine own_step (S' := (T34.setTop (mkF m 105 #[.val (.long q1), .second, .val (.long q2), .second, .val (.int (0 : Int32)), .val (.int (1 : Int32)), .val (.int (0 : Int32)), .val (.long q2), .second, .val (.long q1), .second, .val (.int (1 : Int32)), .val (.int (1 : Int32)), .val (.int (1 : Int32)), .unset] [(.int (lcmpW q1 q2)), (.int (0 : Int32))]))) (fun _ k => XS.lcmp X34.here hx rfl (hb hby at_104) rfl k) ?_
    refine own_step (S' := (T34.setTop (mkF m 112 #[.val (.long q1), .second, .val (.long q2), .second, .val (.int (0 : Int32)), .val (.int (1 : Int32)), .val (.int (0 : Int32)), .val (.long q2), .second, .val (.long q1), .second, .val (.int (1 : Int32)), .val (.int (1 : Int32)), .val (.int (1 : Int32)), .unset] [(.int (0 : Int32))]))) (fun _ k => XS.ifYes X34.here hx rfl (pc0 := 105) (pc' := 112) rfl (hb hby at_105) rfl ((if0 _ _).trans (feq (fun q => (own_gtne hgt) ((lw_eq q1 q2).mp q))).2) (by decide) (by decide) k) ?_
    refine own_step (S' := (T34.setTop (mkF m 113 #[.val (.long q1), .second, .val (.long q2), .second, .val (.int (0 : Int32)), .val (.int (1 : Int32)), .val (.int (0 : Int32)), .val (.long q2), .second, .val (.long q1), .second, .val (.int (1 : Int32)), .val (.int (1 : Int32)), .val (.int (1 : Int32)), .unset] [(.int (0 : Int32)), (.int (0 : Int32))]))) (fun _ k => XS.iconst X34.here hx rfl (hb hby at_112) k) ?_
    refine own_step (S' := (T34.setTop (mkF m 116 #[.val (.long q1), .second, .val (.long q2), .second, .val (.int (0 : Int32)), .val (.int (1 : Int32)), .val (.int (0 : Int32)), .val (.long q2), .second, .val (.long q1), .second, .val (.int (1 : Int32)), .val (.int (1 : Int32)), .val (.int (1 : Int32)), .unset] []))) (fun _ k => XS.icmpNo X34.here hx rfl (hb hby at_113) rfl (teq (by decide : (0 : Int32) = (0 : Int32))).2 k) ?_
    refine own_step (S' := (T34.setTop (mkF m 117 #[.val (.long q1), .second, .val (.long q2), .second, .val (.int (0 : Int32)), .val (.int (1 : Int32)), .val (.int (0 : Int32)), .val (.long q2), .second, .val (.long q1), .second, .val (.int (1 : Int32)), .val (.int (1 : Int32)), .val (.int (1 : Int32)), .unset] [(.int (1 : Int32))]))) (fun _ k => XS.iconst X34.here hx rfl (hb hby at_116) k) ?_
    refine own_step (S' := (T34.setTop (mkF m 121 #[.val (.long q1), .second, .val (.long q2), .second, .val (.int (0 : Int32)), .val (.int (1 : Int32)), .val (.int (0 : Int32)), .val (.long q2), .second, .val (.long q1), .second, .val (.int (1 : Int32)), .val (.int (1 : Int32)), .val (.int (1 : Int32)), .unset] [(.int (1 : Int32))]))) (fun _ k => XS.goto X34.here hx rfl (pc0 := 117) (pc' := 121) rfl (hb hby at_117) (by decide) (by decide) k) ?_
    refine own_step (S' := (T34.setTop (mkF m 123 #[.val (.long q1), .second, .val (.long q2), .second, .val (.int (0 : Int32)), .val (.int (1 : Int32)), .val (.int (0 : Int32)), .val (.long q2), .second, .val (.long q1), .second, .val (.int (1 : Int32)), .val (.int (1 : Int32)), .val (.int (1 : Int32)), .val (.int (1 : Int32))] []))) (fun _ k => XS.istore X34.here hx rfl (hb hby at_121) rfl (l' := #[.val (.long q1), .second, .val (.long q2), .second, .val (.int (0 : Int32)), .val (.int (1 : Int32)), .val (.int (0 : Int32)), .val (.long q2), .second, .val (.long q1), .second, .val (.int (1 : Int32)), .val (.int (1 : Int32)), .val (.int (1 : Int32)), .val (.int (1 : Int32))]) rfl k) ?_
    refine own_step (S' := (T34.setTop (mkF m 125 #[.val (.long q1), .second, .val (.long q2), .second, .val (.int (0 : Int32)), .val (.int (1 : Int32)), .val (.int (0 : Int32)), .val (.long q2), .second, .val (.long q1), .second, .val (.int (1 : Int32)), .val (.int (1 : Int32)), .val (.int (1 : Int32)), .val (.int (1 : Int32))] [(.int (1 : Int32))]))) (fun _ k => XS.iload X34.here hx rfl (hb hby at_123) rfl k) ?_
    refine own_step (S' := (T34.setTop (mkF m 128 #[.val (.long q1), .second, .val (.long q2), .second, .val (.int (0 : Int32)), .val (.int (1 : Int32)), .val (.int (0 : Int32)), .val (.long q2), .second, .val (.long q1), .second, .val (.int (1 : Int32)), .val (.int (1 : Int32)), .val (.int (1 : Int32)), .val (.int (1 : Int32))] []))) (fun _ k => XS.ifNo X34.here hx rfl (hb hby at_125) rfl ((if0 _ _).trans (feq (by decide : ¬ ((1 : Int32) = (0 : Int32)))).1) k) ?_
    refine own_step (S' := (T34.setTop (mkF m 130 #[.val (.long q1), .second, .val (.long q2), .second, .val (.int (0 : Int32)), .val (.int (1 : Int32)), .val (.int (0 : Int32)), .val (.long q2), .second, .val (.long q1), .second, .val (.int (1 : Int32)), .val (.int (1 : Int32)), .val (.int (1 : Int32)), .val (.int (1 : Int32))] [(.int (1 : Int32))]))) (fun _ k => XS.iload X34.here hx rfl (hb hby at_128) rfl k) ?_
    refine own_step (S' := (T34.setTop (mkF m 133 #[.val (.long q1), .second, .val (.long q2), .second, .val (.int (0 : Int32)), .val (.int (1 : Int32)), .val (.int (0 : Int32)), .val (.long q2), .second, .val (.long q1), .second, .val (.int (1 : Int32)), .val (.int (1 : Int32)), .val (.int (1 : Int32)), .val (.int (1 : Int32))] []))) (fun _ k => XS.ifNo X34.here hx rfl (hb hby at_130) rfl ((if0 _ _).trans (feq (by decide : ¬ ((1 : Int32) = (0 : Int32)))).1) k) ?_
    refine own_step (S' := (T34.setTop (mkF m 135 #[.val (.long q1), .second, .val (.long q2), .second, .val (.int (0 : Int32)), .val (.int (1 : Int32)), .val (.int (0 : Int32)), .val (.long q2), .second, .val (.long q1), .second, .val (.int (1 : Int32)), .val (.int (1 : Int32)), .val (.int (1 : Int32)), .val (.int (1 : Int32))] [(.int (1 : Int32))]))) (fun _ k => XS.iload X34.here hx rfl (hb hby at_133) rfl k) ?_
    refine own_step (S' := (T34.setTop (mkF m 138 #[.val (.long q1), .second, .val (.long q2), .second, .val (.int (0 : Int32)), .val (.int (1 : Int32)), .val (.int (0 : Int32)), .val (.long q2), .second, .val (.long q1), .second, .val (.int (1 : Int32)), .val (.int (1 : Int32)), .val (.int (1 : Int32)), .val (.int (1 : Int32))] []))) (fun _ k => XS.ifNo X34.here hx rfl (hb hby at_135) rfl ((if0 _ _).trans (feq (by decide : ¬ ((1 : Int32) = (0 : Int32)))).1) k) ?_
    refine own_step (S' := (T34.setTop (mkF m 140 #[.val (.long q1), .second, .val (.long q2), .second, .val (.int (0 : Int32)), .val (.int (1 : Int32)), .val (.int (0 : Int32)), .val (.long q2), .second, .val (.long q1), .second, .val (.int (1 : Int32)), .val (.int (1 : Int32)), .val (.int (1 : Int32)), .val (.int (1 : Int32))] [(.int (1 : Int32))]))) (fun _ k => XS.iload X34.here hx rfl (hb hby at_138) rfl k) ?_
    refine own_step (S' := (T34.setTop (mkF m 143 #[.val (.long q1), .second, .val (.long q2), .second, .val (.int (0 : Int32)), .val (.int (1 : Int32)), .val (.int (0 : Int32)), .val (.long q2), .second, .val (.long q1), .second, .val (.int (1 : Int32)), .val (.int (1 : Int32)), .val (.int (1 : Int32)), .val (.int (1 : Int32))] []))) (fun _ k => XS.ifNo X34.here hx rfl (hb hby at_140) rfl ((if0 _ _).trans (feq (by decide : ¬ ((1 : Int32) = (0 : Int32)))).1) k) ?_
    refine own_step (S' := (T34.setTop (mkF m 144 #[.val (.long q1), .second, .val (.long q2), .second, .val (.int (0 : Int32)), .val (.int (1 : Int32)), .val (.int (0 : Int32)), .val (.long q2), .second, .val (.long q1), .second, .val (.int (1 : Int32)), .val (.int (1 : Int32)), .val (.int (1 : Int32)), .val (.int (1 : Int32))] [(.int (1 : Int32))]))) (fun _ k => XS.iconst X34.here hx rfl (hb hby at_143) k) ?_
    refine own_step (S' := (T34.setTop (mkF m 148 #[.val (.long q1), .second, .val (.long q2), .second, .val (.int (0 : Int32)), .val (.int (1 : Int32)), .val (.int (0 : Int32)), .val (.long q2), .second, .val (.long q1), .second, .val (.int (1 : Int32)), .val (.int (1 : Int32)), .val (.int (1 : Int32)), .val (.int (1 : Int32))] [(.int (1 : Int32))]))) (fun _ k => XS.goto X34.here hx rfl (pc0 := 144) (pc' := 148) rfl (hb hby at_144) (by decide) (by decide) k) ?_
    refine own_retN X34 hx hlk hret (by simp) (by decide) (hb hby at_148) (by decide) (by decide) ?_
    try rw [e34]
    exact ⟨rfl, N34⟩
set_option maxRecDepth 65536 in
set_option maxHeartbeats 40000000 in
theorem comes_1 {Post : Tables → Env → Array Value → State → Outcome → State → Prop} (hpost : ∀ tb e args s v u, (limb_1_1.after args s (.returned v) u = true ∧ limb_1_2.after args s (.returned v) u = true ∧ True) → FrameEnd s (.returned v) u (Jvm.fieldLocs frame_1_writes args s ++ Jvm.arrayLocs frame_1_arrays args s ++ Jvm.staticLocs frame_1_statics s) 0 0 → Post tb e args s (.returned v) u) :
    ArmFor flags0 classFile x code maxLocals ret World_1 tables_1 room_1 Calls_1 rest_1 Pre_1 Post := by
  intro l hfl _ _ p e ha hc hk s m args below hf hA hF happ hP
  obtain ⟨hcalls, hrest, hpre⟩ := hP
  obtain ⟨-, -, -, hnamed, -, -, -, hat⟩ := (Spec.applies_iff hf).mp happ
  obtain ⟨hg, hn⟩ := and_e (Cond.before_iff.mp (show (Jvm.Cond.and given_1 narrow_1).before args s = true from hpre))
  obtain ⟨g0a, g0b⟩ := and_e hg
  obtain ⟨g1a, g1b⟩ := and_e g0b
  obtain ⟨w0, w1, rfl⟩ : ∃ w0 w1 : Value, args = #[w0, w1] := by
    have hs : args.size = 2 := by simpa [Cond.value, given_1] using g0a
    obtain ⟨L⟩ := args
    match L, hs with
    | [w0, w1], _ => exact ⟨w0, w1, rfl⟩
  have hw := fun d (hd : d ∈ tables_1) => atoms_spec (ws := Jvm.Cond.code x code maxLocals ret :: tables_1) hat d (List.mem_cons_of_mem _ hd)
  have hfit : Fit s := fun {y c} hc i hi => by
    obtain ⟨ha, rfl⟩ := Array.getElem?_eq_some_iff.mp hc
    have q := List.all_eq_true.mp ((Array.all_eq_true_iff_forall_mem.mp hF) _ (Array.getElem_mem ha)) i (List.mem_range.mpr hi)
    simpa [Array.getElem?_eq_getElem hi] using q
  obtain ⟨i0, ei0⟩ := isL_v g1a
  obtain rfl : w0 = (.long i0) := Option.some.inj ei0
  obtain ⟨i1, ei1⟩ := isL_v g1b
  obtain rfl : w1 = (.long i1) := Option.some.inj ei1
  obtain ⟨n0a, n0b⟩ := and_e hn
  obtain ⟨n1a, n1b⟩ := and_e n0b
  obtain ⟨n2a, n2b⟩ := and_e n1b
  obtain ⟨a_AuctionSide_BORROW, ev_AuctionSide_BORROW⟩ := exa_v n0a
  have E_AuctionSide_BORROW := Exa.start ev_AuctionSide_BORROW n0a
  have S_AuctionSide_BORROW := Sta.start ev_AuctionSide_BORROW (Or.inr ⟨(hw _ (List.mem_of_getElem? (i := 1) rfl)), (hw _ (List.mem_of_getElem? (i := 2) rfl))⟩)
  obtain ⟨a_AuctionSide_LEND, ev_AuctionSide_LEND⟩ := exa_v n1a
  have E_AuctionSide_LEND := Exa.start ev_AuctionSide_LEND n1a
  have S_AuctionSide_LEND := Sta.start ev_AuctionSide_LEND (Or.inr ⟨(hw _ (List.mem_of_getElem? (i := 1) rfl)), (hw _ (List.mem_of_getElem? (i := 10) rfl))⟩)
  have F_AuctionSide_LEND_ordinal := own_fld ev_AuctionSide_LEND (own_eqI n2a)
  have F_AuctionSide_BORROW_ordinal := own_fld ev_AuctionSide_BORROW (own_eqI n2b)
  obtain ⟨n, o, h1, h2, h3, _, L, rfl, ⟨rfl, N⟩, hq⟩ := (rm0 l s _ hw tables_1 a_AuctionSide_BORROW a_AuctionSide_LEND i0 i1 s.heap s.heap.size (Nat.le_refl _) S_AuctionSide_BORROW E_AuctionSide_BORROW S_AuctionSide_LEND E_AuctionSide_LEND F_AuctionSide_LEND_ordinal F_AuctionSide_BORROW_ordinal) p e ha hc hk s m _ below hf ((Spec.applies_iff_loose hf).mp happ).1 ⟨rfl, State.Warmed39.refl s, rfl⟩ trivial
  refine ⟨n, _, h1, h2, h3, hpost _ _ _ _ _ _ ⟨Cond.after_iff.mpr rfl, Cond.after_iff.mpr (eq_i res_at (Term.int_eval (1)) rfl), trivial⟩ ⟨hq.1, hq.2.1, (hq.2.2.sift fun y hy => Or.inr (N y hy)).mono (by decide) (by decide)⟩⟩
theorem main_1_1 : Claimed_1_1 := comes_1 fun _ _ _ _ _ _ h hF => ⟨h.1, hF⟩
theorem main_1_2 : Claimed_1_2 := comes_1 fun _ _ _ _ _ _ h hF => ⟨h.2.1, hF⟩
end Jvm.Pilot.@@N@@
namespace Jvm.Pilot.@@N@@
open Jvm Jvm.ClassFile Sem Op Lib Jvm.Free Jvm.Stand Jvm.Pilot.@@N@@.Jvm.D
/-! MADE BY PROGRAM (witnessworld.py) out of the Statement's table words and the real class files: 13 classes; the members and pool entries that the words name. The judged class is class 1, her method 1. -/
namespace start1
open Jvm.ClassFile
def u (s : String) : CpInfo := .utf8 (stringToUtf16 s)
/-- a pool by its gaps: so many unusable entries, then the entry; so many at the end -/
def gap : Nat → List CpInfo → List CpInfo
  | 0, r => r
  | n + 1, r => .unusable :: gap n r
def poolList (es : List (Nat × CpInfo)) (last : Nat) : List CpInfo := es.foldr (fun e r => gap e.1 (e.2 :: r)) (gap last [])
def pool (es : List (Nat × CpInfo)) (last : Nat) : Array CpInfo := ⟨poolList es last⟩
def fileOf (pool : Array CpInfo) (this : Nat) (attrs : Array Attribute := #[]) (ms : Array MethodInfo := #[]) (fl : Nat := 33) (sup : Nat := 0) (ifs : Array Nat := #[]) (fds : Array FieldInfo := #[]) : ClassFile where
  minorVersion := 0
  majorVersion := 65
  constantPool := pool
  accessFlags := fl
  thisClass := this
  superClass := sup
  interfaces := ifs
  fields := fds
  methods := ms
  attributes := attrs
def plain (name : String) (sup : Option ClassId) : Class where
  name := name
  kind := .ordinary
  loader := none
  accessFlags := 33
  super := sup
  interfaces := #[]
  cf := none
  fields := #[]
  methods := #[]
  instanceTypes := #[]
  staticTypes := #[]
  resolved := #[]
  callSites := []
  init := .initialized
  statics := none
  mirror := none

def pool0 : Array CpInfo := pool [(5, u "<init>"), (0, u "()V"), (1, .class_ 10), (1, u "java/lang/Object")] 113

def k0m0 : Method := { name := "<init>", desc := "()V", sig := { parameters := [], returnType := none }, accessFlags := 1, code := none }
/-- java/lang/Object -/
def k0 : Class := { plain "java/lang/Object" none with
  accessFlags := 33
  interfaces := #[]
  cf := some (fileOf pool0 8 #[] #[{ accessFlags := 1, nameIndex := 5, descriptorIndex := 6, attributes := #[] }] 33 0 #[] #[])
  fields := #[]
  methods := #[k0m0]
  instanceTypes := #[]
  staticTypes := #[]
  resolved := Array.replicate 124 none
  statics := none }

def pool1 : Array CpInfo := pool [(2, .class_ 4), (1, u "java/lang/Object"), (0, u "<init>"), (0, u "()V"), (0, .fieldref 8 9), (0, .class_ 10), (0, .nameAndType 11 12), (0, u "com/example/kurslot/kurslot/rates/AuctionSide"), (0, u "BORROW"), (0, u "Lcom/example/kurslot/kurslot/rates/AuctionSide;"), (0, .methodref 8 14), (0, .nameAndType 15 16), (0, u "admits"), (0, u "(JJ)Z"), (0, .fieldref 8 18), (0, .nameAndType 19 12), (0, u "LEND"), (0, .methodref 21 22), (0, .class_ 23), (0, .nameAndType 24 25), (0, u "java/lang/Math"), (0, u "min"), (0, u "(JJ)J"), (0, .methodref 21 27), (0, .nameAndType 28 25), (0, u "max"), (0, .class_ 30), (0, u "com/example/kurslot/kurslot/rates/AuctionSideAdmitsPinLaw"), (2, u "law")] 3

def k1m0 : Method := { name := "<init>", desc := "()V", sig := { parameters := [], returnType := none }, accessFlags := 2, code := none }
def k1c1 : Code := { maxStack := 5, maxLocals := 15, code := code, exceptionTable := #[], attributes := #[] }
def k1m1 : Method := { name := "law", desc := "(JJ)Z", sig := { parameters := [.long, .long], returnType := some .boolean }, accessFlags := 9, code := some k1c1 }
/-- com/example/kurslot/kurslot/rates/AuctionSideAdmitsPinLaw -/
def k1 : Class := { plain "com/example/kurslot/kurslot/rates/AuctionSideAdmitsPinLaw" (some 0) with
  accessFlags := 49
  interfaces := #[]
  cf := some (fileOf pool1 29 #[] #[{ accessFlags := 2, nameIndex := 5, descriptorIndex := 6, attributes := #[] }, { accessFlags := 9, nameIndex := 33, descriptorIndex := 16, attributes := #[] }] 49 2 #[] #[])
  fields := #[]
  methods := #[k1m0, k1m1]
  instanceTypes := #[]
  staticTypes := #[]
  resolved := Array.replicate 37 none
  statics := none }

def pool2 : Array CpInfo := pool [(1, .class_ 2), (0, u "java/lang/constant/Constable"), (0, .class_ 4), (0, u "java/lang/Object")] 6

/-- java/lang/constant/Constable -/
def k2 : Class := { plain "java/lang/constant/Constable" (some 0) with
  accessFlags := 1537
  interfaces := #[]
  cf := some (fileOf pool2 1 #[] #[] 1537 3 #[] #[])
  fields := #[]
  methods := #[]
  instanceTypes := #[]
  staticTypes := #[]
  resolved := Array.replicate 11 none
  statics := none }

def pool3 : Array CpInfo := pool [(1, .class_ 2), (0, u "java/lang/Comparable"), (0, .class_ 4), (0, u "java/lang/Object")] 7

/-- java/lang/Comparable -/
def k3 : Class := { plain "java/lang/Comparable" (some 0) with
  accessFlags := 1537
  interfaces := #[]
  cf := some (fileOf pool3 1 #[] #[] 1537 3 #[] #[])
  fields := #[]
  methods := #[]
  instanceTypes := #[]
  staticTypes := #[]
  resolved := Array.replicate 12 none
  statics := none }

def pool4 : Array CpInfo := pool [(1, .class_ 2), (0, u "java/io/Serializable"), (0, .class_ 4), (0, u "java/lang/Object")] 2

/-- java/io/Serializable -/
def k4 : Class := { plain "java/io/Serializable" (some 0) with
  accessFlags := 1537
  interfaces := #[]
  cf := some (fileOf pool4 1 #[] #[] 1537 3 #[] #[])
  fields := #[]
  methods := #[]
  instanceTypes := #[]
  staticTypes := #[]
  resolved := Array.replicate 7 none
  statics := none }

def pool5 : Array CpInfo := pool [(2, .class_ 4), (1, u "java/lang/Enum"), (0, u "name"), (0, u "Ljava/lang/String;"), (2, u "ordinal"), (0, u "I"), (1, .class_ 14), (1, u "java/lang/Object"), (4, u "hash"), (86, .class_ 108), (1, u "java/lang/Enum$EnumDesc"), (2, .class_ 112), (0, u "java/lang/constant/Constable"), (0, .class_ 114), (0, u "java/lang/Comparable"), (0, .class_ 116), (0, u "java/io/Serializable")] 87

/-- java/lang/Enum -/
def k5 : Class := { plain "java/lang/Enum" (some 0) with
  accessFlags := 1057
  interfaces := #[2, 3, 4]
  cf := some (fileOf pool5 2 #[.nestMembers #[106]] #[] 1057 12 #[111, 113, 115] #[{ accessFlags := 18, nameIndex := 5, descriptorIndex := 6, attributes := #[] }, { accessFlags := 18, nameIndex := 9, descriptorIndex := 10, attributes := #[] }, { accessFlags := 2, nameIndex := 19, descriptorIndex := 10, attributes := #[] }])
  fields := #[{ name := "name", type := (.object "java/lang/String"), accessFlags := 18, slot := 0, constantValue := 0 }, { name := "ordinal", type := .int, accessFlags := 18, slot := 1, constantValue := 0 }, { name := "hash", type := .int, accessFlags := 2, slot := 2, constantValue := 0 }]
  methods := #[]
  instanceTypes := #[(.object "java/lang/String"), .int, .int]
  staticTypes := #[]
  resolved := Array.replicate 204 none
  statics := none }

def pool6 : Array CpInfo := pool [(1, .class_ 2), (0, u "com/example/kurslot/kurslot/rates/AuctionSide"), (0, .fieldref 1 4), (0, .nameAndType 5 6), (0, u "BORROW"), (0, u "Lcom/example/kurslot/kurslot/rates/AuctionSide;"), (2, u "LEND"), (2, u "$VALUES"), (0, u "[Lcom/example/kurslot/kurslot/rates/AuctionSide;"), (6, .class_ 22), (1, u "java/lang/Enum"), (29, u "admits"), (0, u "(JJ)Z")] 7

def k6c0 : Code := { maxStack := 4, maxLocals := 5, code := prog_60_method_4_code, exceptionTable := #[], attributes := #[] }
def k6m0 : Method := { name := "admits", desc := "(JJ)Z", sig := { parameters := [.long, .long], returnType := some .boolean }, accessFlags := 0, code := some k6c0 }
/-- com/example/kurslot/kurslot/rates/AuctionSide -/
def k6 : Class := { plain "com/example/kurslot/kurslot/rates/AuctionSide" (some 5) with
  accessFlags := 16433
  interfaces := #[]
  cf := some (fileOf pool6 1 #[] #[{ accessFlags := 0, nameIndex := 52, descriptorIndex := 53, attributes := #[] }] 16433 20 #[] #[{ accessFlags := 16409, nameIndex := 5, descriptorIndex := 6, attributes := #[] }, { accessFlags := 16409, nameIndex := 9, descriptorIndex := 6, attributes := #[] }, { accessFlags := 4122, nameIndex := 12, descriptorIndex := 13, attributes := #[] }])
  fields := #[{ name := "BORROW", type := (.object "com/example/kurslot/kurslot/rates/AuctionSide"), accessFlags := 16409, slot := 0, constantValue := 0 }, { name := "LEND", type := (.object "com/example/kurslot/kurslot/rates/AuctionSide"), accessFlags := 16409, slot := 1, constantValue := 0 }, { name := "$VALUES", type := (.array (.object "com/example/kurslot/kurslot/rates/AuctionSide")), accessFlags := 4122, slot := 2, constantValue := 0 }]
  methods := #[k6m0]
  instanceTypes := #[(.object "java/lang/String"), .int, .int]
  staticTypes := #[(.object "com/example/kurslot/kurslot/rates/AuctionSide"), (.object "com/example/kurslot/kurslot/rates/AuctionSide"), (.array (.object "com/example/kurslot/kurslot/rates/AuctionSide"))]
  resolved := Array.replicate 61 none
  statics := some 0 }

def pool7 : Array CpInfo := pool [(1, .class_ 2), (0, u "java/lang/Math"), (1, .class_ 6), (1, u "java/lang/Object"), (0, u "<init>"), (0, u "()V"), (89, .class_ 100), (1, u "java/lang/Math$RandomNumberGeneratorHolder"), (20, u "(JJ)J"), (50, u "negativeZeroFloatBits"), (0, u "J"), (2, u "negativeZeroDoubleBits"), (21, u "max"), (2, u "min"), (43, u "$assertionsDisabled"), (0, u "Z"), (91, u "twoToTheDoubleScaleDown"), (0, u "D"), (4, u "twoToTheDoubleScaleUp"), (9, u "E"), (3, u "PI"), (2, u "TAU"), (2, u "DEGREES_TO_RADIANS"), (0, u "RADIANS_TO_DEGREES")] 94

def k7m0 : Method := { name := "<init>", desc := "()V", sig := { parameters := [], returnType := none }, accessFlags := 2, code := none }
def k7c1 : Code := { maxStack := 4, maxLocals := 4, code := jdk_29_method_66_code, exceptionTable := #[], attributes := #[] }
def k7m1 : Method := { name := "max", desc := "(JJ)J", sig := { parameters := [.long, .long], returnType := some .long }, accessFlags := 9, code := some k7c1 }
def k7c2 : Code := { maxStack := 4, maxLocals := 4, code := jdk_29_method_70_code, exceptionTable := #[], attributes := #[] }
def k7m2 : Method := { name := "min", desc := "(JJ)J", sig := { parameters := [.long, .long], returnType := some .long }, accessFlags := 9, code := some k7c2 }
/-- java/lang/Math -/
def k7 : Class := { plain "java/lang/Math" (some 0) with
  accessFlags := 49
  interfaces := #[]
  cf := some (fileOf pool7 1 #[.nestMembers #[98]] #[{ accessFlags := 2, nameIndex := 7, descriptorIndex := 8, attributes := #[] }, { accessFlags := 9, nameIndex := 198, descriptorIndex := 121, attributes := #[] }, { accessFlags := 9, nameIndex := 201, descriptorIndex := 121, attributes := #[] }] 49 4 #[] #[{ accessFlags := 25, nameIndex := 354, descriptorIndex := 339, attributes := #[] }, { accessFlags := 25, nameIndex := 358, descriptorIndex := 339, attributes := #[] }, { accessFlags := 25, nameIndex := 361, descriptorIndex := 339, attributes := #[] }, { accessFlags := 26, nameIndex := 364, descriptorIndex := 339, attributes := #[] }, { accessFlags := 26, nameIndex := 365, descriptorIndex := 339, attributes := #[] }, { accessFlags := 26, nameIndex := 172, descriptorIndex := 173, attributes := #[] }, { accessFlags := 26, nameIndex := 176, descriptorIndex := 173, attributes := #[] }, { accessFlags := 8, nameIndex := 344, descriptorIndex := 339, attributes := #[] }, { accessFlags := 8, nameIndex := 338, descriptorIndex := 339, attributes := #[] }, { accessFlags := 4120, nameIndex := 245, descriptorIndex := 246, attributes := #[] }])
  fields := #[{ name := "E", type := .double, accessFlags := 25, slot := 0, constantValue := 0 }, { name := "PI", type := .double, accessFlags := 25, slot := 1, constantValue := 0 }, { name := "TAU", type := .double, accessFlags := 25, slot := 2, constantValue := 0 }, { name := "DEGREES_TO_RADIANS", type := .double, accessFlags := 26, slot := 3, constantValue := 0 }, { name := "RADIANS_TO_DEGREES", type := .double, accessFlags := 26, slot := 4, constantValue := 0 }, { name := "negativeZeroFloatBits", type := .long, accessFlags := 26, slot := 5, constantValue := 0 }, { name := "negativeZeroDoubleBits", type := .long, accessFlags := 26, slot := 6, constantValue := 0 }, { name := "twoToTheDoubleScaleUp", type := .double, accessFlags := 8, slot := 7, constantValue := 0 }, { name := "twoToTheDoubleScaleDown", type := .double, accessFlags := 8, slot := 8, constantValue := 0 }, { name := "$assertionsDisabled", type := .boolean, accessFlags := 4120, slot := 9, constantValue := 0 }]
  methods := #[k7m0, k7m1, k7m2]
  instanceTypes := #[]
  staticTypes := #[.double, .double, .double, .double, .double, .long, .long, .double, .double, .boolean]
  resolved := Array.replicate 460 none
  statics := none }

def pool8 : Array CpInfo := pool [(1, u "java/lang/Cloneable"), (0, .class_ 1), (0, u "java/lang/Object"), (0, .class_ 3)] 3

/-- java/lang/Cloneable -/
def k8 : Class := { plain "java/lang/Cloneable" (some 0) with
  accessFlags := 1537
  interfaces := #[]
  cf := some (fileOf pool8 2 #[] #[] 1537 4 #[] #[])
  fields := #[]
  methods := #[]
  instanceTypes := #[]
  staticTypes := #[]
  resolved := Array.replicate 8 none
  statics := none }

/-- the primitive byte -/
def k9 : Class := { plain "byte" none with kind := .primitive 'B', accessFlags := 0x411 }
/-- [B -/
def k10 : Class := { plain "[B" (some 0) with kind := .array 9 .byte, interfaces := #[8, 4], accessFlags := 1041 }

/-- the primitive int -/
def k11 : Class := { plain "int" none with kind := .primitive 'I', accessFlags := 0x411 }
/-- [I -/
def k12 : Class := { plain "[I" (some 0) with kind := .array 11 .int, interfaces := #[8, 4], accessFlags := 1041 }

def heap : Heap := #[{ cls := 6, slots := #[.ref 1, .ref 2, .null], vm := .statics 6 },
  { cls := 6, slots := #[.null, .int (0), .int 0], vm := .none },
  { cls := 6, slots := #[.null, .int (1), .int 0], vm := .none }]
def classes : Array Class := #[k0, k1, k2, k3, k4, k5, k6, k7, k8, k9, k10, k11, k12]
def interned : List (Array UInt16 × Addr) := []
def slotsUsed : Nat := 9
def theMethod : MethodId := ⟨1, 1⟩
def args0 : Array Value := #[.long 5, .long 7]
def aboutOver (below : List Frame) : State where
  vm := { classes := classes, interned := interned.toArray }
  heap := heap
  slotsUsed := slotsUsed
  threads := #[{ frames := .invoking theMethod args0 :: below }]
def below0 : List Frame := [.native { method := ⟨0, 0⟩, args := #[] }]
def about1 : State := aboutOver below0
def p0 : Program := .bare "" "" ""
def e0 : Env := launch0.env 0 0 0
theorem w_frames : about1.frames = Frame.invoking theMethod args0 :: below0 := rfl
set_option maxRecDepth 65536 in
theorem w_args : argsFit about1.vm theMethod args0 = true := by decide +kernel
set_option maxRecDepth 65536 in
theorem w_heap : heapFits about1 = true := by decide +kernel
set_option maxRecDepth 65536 in
theorem w_runnable : about1.curStatus? = some .runnable := by decide +kernel
set_option maxRecDepth 65536 in
theorem w_alone : about1.alone = true := by decide +kernel
set_option maxRecDepth 65536 in
theorem w_named : about1.methodNamed? x = some theMethod := by decide +kernel
set_option maxRecDepth 65536 in
theorem w_hears : about1.hears theMethod below0 = true := by decide +kernel
set_option maxRecDepth 65536 in
theorem w_ripe : about1.ripe theMethod args0 below0 = true := by decide +kernel
theorem w_running : about1.status = .running := rfl
set_option maxRecDepth 65536 in
theorem w_room : about1.hasRoom e0.platform room_1 = true :=
  launch0.hasRoom_least _ room_1 (by decide +kernel) (by decide +kernel) (by decide +kernel) (by decide +kernel) (by decide +kernel) (by decide +kernel)
theorem allAtoms_all (ts : List Jvm.Cond) (a : Array Jvm.Value) (st : Jvm.State) : (allAtoms ts).before a st = ts.all (fun c => c.before a st) := by
  induction ts with
  | nil => rfl
  | cons c t ih =>
    show (Jvm.Cond.and c (allAtoms t)).before a st = _
    rw [Jvm.Cond.before_and, ih, List.all_cons]
def words1 : List Jvm.Cond := Jvm.Cond.code x code maxLocals ret :: tables_1
/-- a 'code' word, met by the world's own term for the bytes: nothing is compared byte by byte -/
theorem code_word {y : MethodName} {bytes : ByteArray} {mx : Nat} {rt : Option FieldType} {a : Array Value} {s : State} {m : MethodId} {meth : Method} {c : Code} (h1 : s.methodNamed? y = some m) (h2 : s.vm.method? m = some meth) (h3 : meth.code = some c) (h4 : c.code = bytes)
    (h5 : (c.maxLocals == mx && c.exceptionTable.isEmpty && decide (c.maxStack ≤ mostOperands) && decide (meth.sig.returnType = rt) && !meth.locks && decide (parseMethodDescriptor y.desc = some meth.sig)) = true) : (Jvm.Cond.code y bytes mx rt).before a s = true := by
  simp only [Bool.and_eq_true, beq_iff_eq, Bool.not_eq_true', decide_eq_true_eq] at h5
  obtain ⟨⟨⟨⟨⟨g1, g2⟩, g3⟩, g4⟩, g5⟩, g6⟩ := h5
  simp [Cond.before, Cond.holds, Cond.value, h1, h2, h3, h4, g1, g2, g3, g4, g5, g6]
def isCode : Jvm.Cond → Bool
  | .code _ _ _ _ => true
  | _ => false
theorem all_split {L : List Jvm.Cond} {P : Jvm.Cond → Bool} (h1 : L.all (fun c => isCode c || P c) = true) (h2 : ∀ c ∈ L.filter isCode, P c = true) : L.all P = true := by
  refine List.all_eq_true.mpr fun c hc => ?_
  have h := List.all_eq_true.mp h1 c hc
  rcases Bool.eq_false_or_eq_true (isCode c) with hi | hi
  · exact h2 c (List.mem_filter.mpr ⟨hc, hi⟩)
  · simpa [hi] using h
set_option maxRecDepth 65536 in
theorem w_c0 : (Jvm.Cond.code x code maxLocals ret).before args0 about1 = true := code_word (m := ⟨1, 1⟩) (meth := k1m1) (c := k1c1) (by decide +kernel) rfl rfl rfl (by decide +kernel)
set_option maxRecDepth 65536 in
theorem w_c1 : (Jvm.Cond.code ({ cls := "com/example/kurslot/kurslot/rates/AuctionSide", name := "admits", desc := "(JJ)Z" } : Jvm.MethodName) prog_60_method_4_code (5 : Nat) (Option.some Jvm.ClassFile.FieldType.boolean)).before args0 about1 = true := code_word (m := ⟨6, 0⟩) (meth := k6m0) (c := k6c0) (by decide +kernel) rfl rfl rfl (by decide +kernel)
set_option maxRecDepth 65536 in
theorem w_c2 : (Jvm.Cond.code ({ cls := "java/lang/Math", name := "min", desc := "(JJ)J" } : Jvm.MethodName) jdk_29_method_70_code (4 : Nat) (Option.some Jvm.ClassFile.FieldType.long)).before args0 about1 = true := code_word (m := ⟨7, 2⟩) (meth := k7m2) (c := k7c2) (by decide +kernel) rfl rfl rfl (by decide +kernel)
set_option maxRecDepth 65536 in
theorem w_c3 : (Jvm.Cond.code ({ cls := "java/lang/Math", name := "max", desc := "(JJ)J" } : Jvm.MethodName) jdk_29_method_66_code (4 : Nat) (Option.some Jvm.ClassFile.FieldType.long)).before args0 about1 = true := code_word (m := ⟨7, 1⟩) (meth := k7m1) (c := k7c1) (by decide +kernel) rfl rfl rfl (by decide +kernel)
def codes1 : List Jvm.Cond := [Jvm.Cond.code x code maxLocals ret, Jvm.Cond.code ({ cls := "com/example/kurslot/kurslot/rates/AuctionSide", name := "admits", desc := "(JJ)Z" } : Jvm.MethodName) prog_60_method_4_code (5 : Nat) (Option.some Jvm.ClassFile.FieldType.boolean), Jvm.Cond.code ({ cls := "java/lang/Math", name := "min", desc := "(JJ)J" } : Jvm.MethodName) jdk_29_method_70_code (4 : Nat) (Option.some Jvm.ClassFile.FieldType.long), Jvm.Cond.code ({ cls := "java/lang/Math", name := "max", desc := "(JJ)J" } : Jvm.MethodName) jdk_29_method_66_code (4 : Nat) (Option.some Jvm.ClassFile.FieldType.long)]
set_option maxRecDepth 65536 in
theorem codes_eq : words1.filter isCode = codes1 := rfl
theorem w_codes : ∀ c ∈ words1.filter isCode, c.before args0 about1 = true := by
  rw [codes_eq]
  intro c hc
  simp only [codes1, List.mem_cons, List.not_mem_nil, or_false] at hc
  rcases hc with rfl | rfl | rfl | rfl
  · exact w_c0
  · exact w_c1
  · exact w_c2
  · exact w_c3
set_option maxRecDepth 65536 in
theorem w_t1 : words1.all (fun c => isCode c || c.before args0 about1) = true := by decide +kernel
theorem w_tables : (allAtoms (Jvm.Cond.code x code maxLocals ret :: tables_1)).before args0 about1 = true := by
  rw [allAtoms_all]
  show words1.all (fun c => c.before args0 about1) = true
  refine all_split ?_ w_codes
  rw [w_t1]
set_option maxRecDepth 65536 in
theorem w_case : (Jvm.Cond.and given_1 narrow_1).before args0 about1 = true := by decide +kernel
theorem w_applies : (headSpec (Jvm.Cond.code x code maxLocals ret :: tables_1) room_1).applies x e0.platform about1 = true :=
  (Spec.applies_iff w_frames).mpr ⟨w_running, w_runnable, w_alone, w_named, w_hears, w_ripe, w_room, w_tables⟩
theorem atStart : AtStart classFile x code maxLocals ret World_1 tables_1 room_1 Calls_1 rest_1 Pre_1 launch0 p0 e0 about1 theMethod args0 below0 :=
  ⟨lists_1, trivial, launch0.admits_env _ _ _, launch0.least_env, fairChoices_fair.cas, fairChoices_fair.clock, w_frames, w_args, w_heap, w_applies, trivial, trivial, w_case⟩
end start1
theorem witness_1 : WitnessClaimed_1 := ⟨start1.p0, start1.e0, start1.about1, start1.theMethod, start1.args0, start1.below0, start1.atStart⟩
end Jvm.Pilot.@@N@@
