import JvmDerived
import JvmDerived.Pilot.@@N@@Statement
import JvmDerived.Pilot.@@N@@Code
@@BLOCK:HandJ.lean.txt@@
@@BLOCK:SymMore.lean.txt@@
set_option linter.unusedVariables false
set_option linter.unusedSimpArgs false
namespace Jvm.Pilot.@@N@@
open Jvm Jvm.ClassFile Sem Op Lib Jvm.Free Jvm.Stand Jvm.LawKit Jvm.RoadKit Bundle Jvm.Pilot.@@N@@.Jvm.D
section OwnKit
variable {p : Program} {l : Launch} {e : Env} {R : Room} {s : State} {m : MethodId} {args : Array Value} {below : List Frame} {meth : Method} {c : Code} {T : State} {locs : List Loc} {cells slots : Nat} {Z : State} {a0 : Array Value} {h : Heap}
/-- from S on the run comes to the method's end, and there Q holds -/
def own_Fin (p : Program) (e : Env) (below : List Frame) (s : State) (Q : Option Value → Heap → List Loc → Prop) (rc rs : Nat) (S : State) : Prop :=
  ∃ s₂ o, Steps p.tables e below S s₂ ∧ s₂.status = .running ∧ Ended s₂ below o ∧ ∃ v L, o = .returned v ∧ Q v s₂.heap L ∧ FrameEnd s o s₂ L rc rs
theorem own_step {Q : Option Value → Heap → List Loc → Prop} {rc rs : Nat} {S S' : State} (k : ∀ t, Steps p.tables e below S' t → Steps p.tables e below S t) (hF : own_Fin p e below s Q rc rs S') : own_Fin p e below s Q rc rs S := by
  obtain ⟨s₂, o, h1, r⟩ := hF
  exact ⟨s₂, o, k _ h1, r⟩
abbrev own_Met (l : Launch) (y : MethodName) (bytes : ByteArray) (maxL : Nat) (ret : Option FieldType) (ws : List Jvm.Cond) (rm : Room) (Z : State) (as' : Array Value) (h0 : Heap) (Q : Option Value → Heap → List Loc → Prop) : Prop :=
  MetFree l y (head1 (Jvm.Cond.code y bytes maxL ret :: ws) rm) (fun a U => a = as' ∧ Z.Warmed39 U.vm ∧ U.heap = h0) (fun _ _ _ _ _ => True) (fun _ U o U' => ∃ v L, o = .returned v ∧ Q v U'.heap L ∧ FrameEnd U o U' L rm.cells rm.slots)
theorem own_body {y : MethodName} {bytes : ByteArray} {maxL : Nat} {ret : Option FieldType} {ws : List Jvm.Cond} {rm : Room} {as' : Array Value} {h0 : Heap} {Q : Option Value → Heap → List Loc → Prop} (hy : plainFor y = true)
    (hB : ∀ (p : Program) (e : Env) (s : State) (m : MethodId) (below : List Frame) (meth : Method) (c : Code) (s₁ : State), Stand p l e rm s m as' below meth c s₁ [] 0 0 → p.tables.exec = Jvm.exec → c.code = bytes → c.maxLocals = maxL → s.vm.findClass y.cls = some m.cls → meth.name = y.name → meth.sig.returnType = ret → meth.locks = false → Z.Warmed39 s.vm → s₁.heap = h0 →
      own_Fin p e below s Q rm.cells rm.slots (s₁.setTop (entryFrame m as' maxL))) : own_Met l y bytes maxL ret ws rm Z as' h0 Q := by
  refine MetFree.of_bodySF hy hisR ?_
  intro p e s m args below meth c s₁ Bd hml0 hP hK
  obtain ⟨rfl, hZ, hh⟩ := hP
  exact hB p e s m below meth c s₁ (Stand.of_body Bd) Bd.exec Bd.bytes hml0 (findClass_of_methodNamed Bd.named) (name_of_methodNamed Bd.named Bd.method).1 Bd.returns Bd.notSynchronized hZ (by rw [← hh, Bd.state]; rfl)
theorem own_ret {Q : Option Value → Heap → List Loc → Prop} {rc rs : Nat} {S : State} {v : Option Value} (X : Stand p l e R s m args below meth c T locs cells slots) (hlk : meth.locks = false) (hv : meth.sig.returnType = none → v = none)
    (hst : ∀ fs, (∀ (f : JFrame) (acts : List Action), f.method = m → f.locked = none → f.entered = [] → (doReturn e (T.setTop f) acts v).1 = T.setFrames fs) → Steps p.tables e below S (T.setFrames fs))
    (hc : cells ≤ rc) (hs : slots ≤ rs) (hQ : Q v T.heap locs) : own_Fin p e below s Q rc rs S := by
  obtain ⟨fs, hr, hrun, hended, hW, hsame⟩ := X.leave (v := v) hv hlk
  exact ⟨_, _, hst fs hr, hrun, hended, _, _, rfl, hQ, ⟨_, rfl⟩, hW, hsame.mono hc hs⟩
theorem own_retV {Q : Option Value → Heap → List Loc → Prop} {rc rs : Nat} {pc : Nat} {Ls : Array Slot} (X : Stand p l e R s m args below meth c T locs cells slots) (hx : p.tables.exec = Jvm.exec) (hlk : meth.locks = false) (hret : meth.sig.returnType = none) (hd : decode c.code pc = .ok (.return_, 1))
    (hc : cells ≤ rc) (hs : slots ≤ rs) (hQ : Q none T.heap locs) : own_Fin p e below s Q rc rs (T.setTop (mkF m pc Ls [])) :=
  own_ret X hlk (fun _ => rfl) (fun fs hr => X.returnOut hx hret hd hr) hc hs hQ
theorem own_retI {Q : Option Value → Heap → List Loc → Prop} {rc rs : Nat} {pc : Nat} {Ls : Array Slot} {z : Int32} (X : Stand p l e R s m args below meth c T locs cells slots) (hx : p.tables.exec = Jvm.exec) (hlk : meth.locks = false) (hret : meth.sig.returnType = some .int) (hd : decode c.code pc = .ok (.ireturn, 1))
    (hc : cells ≤ rc) (hs : slots ≤ rs) (hQ : Q (some (.int z)) T.heap locs) : own_Fin p e below s Q rc rs (T.setTop (mkF m pc Ls [.int z])) :=
  own_ret X hlk (fun q => by rw [hret] at q; cases q) (fun fs hr => retOut X hx hret rfl (Or.inl ⟨rfl, Or.inl rfl, z, rfl⟩) hd hr) hc hs hQ
theorem own_retL {Q : Option Value → Heap → List Loc → Prop} {rc rs : Nat} {pc : Nat} {Ls : Array Slot} {z : Int64} (X : Stand p l e R s m args below meth c T locs cells slots) (hx : p.tables.exec = Jvm.exec) (hlk : meth.locks = false) (hret : meth.sig.returnType = some .long) (hd : decode c.code pc = .ok (.lreturn, 1))
    (hc : cells ≤ rc) (hs : slots ≤ rs) (hQ : Q (some (.long z)) T.heap locs) : own_Fin p e below s Q rc rs (T.setTop (mkF m pc Ls [.long z])) :=
  own_ret X hlk (fun q => by rw [hret] at q; cases q) (fun fs hr => retOut X hx hret rfl (Or.inr (Or.inl ⟨rfl, rfl, z, rfl⟩)) hd hr) hc hs hQ
theorem own_retA {Q : Option Value → Heap → List Loc → Prop} {rc rs : Nat} {pc : Nat} {Ls : Array Slot} {w : Value} {t : FieldType} (X : Stand p l e R s m args below meth c T locs cells slots) (hx : p.tables.exec = Jvm.exec) (hlk : meth.locks = false) (hret : meth.sig.returnType = some t) (ht : t.isReference = true) (hn : narrow t w = w) (hw : w.isRef = true) (hd : decode c.code pc = .ok (.areturn, 1))
    (hc : cells ≤ rc) (hs : slots ≤ rs) (hQ : Q (some w) T.heap locs) : own_Fin p e below s Q rc rs (T.setTop (mkF m pc Ls [w])) :=
  own_ret X hlk (fun q => by rw [hret] at q; cases q) (fun fs hr => retOut X hx hret hn (Or.inr (Or.inr (Or.inr (Or.inr ⟨rfl, ht, hw⟩)))) hd hr) hc hs hQ
/-- a boolean, byte, char or short that already fits -/
theorem own_retN {Q : Option Value → Heap → List Loc → Prop} {rc rs : Nat} {pc : Nat} {Ls : Array Slot} {z : Int32} {t : FieldType} (X : Stand p l e R s m args below meth c T locs cells slots) (hx : p.tables.exec = Jvm.exec) (hlk : meth.locks = false) (hret : meth.sig.returnType = some t) (ht : t = .boolean ∨ t = .byte ∨ t = .char ∨ t = .short) (hn : nar t z = z) (hd : decode c.code pc = .ok (.ireturn, 1))
    (hc : cells ≤ rc) (hs : slots ≤ rs) (hQ : Q (some (.int z)) T.heap locs) : own_Fin p e below s Q rc rs (T.setTop (mkF m pc Ls [.int z])) :=
  own_ret X hlk (fun q => by rw [hret] at q; cases q) (fun fs hr => retN X hx hret ht hd (by rw [hn]; exact hr)) hc hs hQ
section Calls
variable {y z : MethodName} {bytes : ByteArray} {maxL W : Nat} {ret : Option FieldType} {rm : Room} {Q : Option Value → Heap → List Loc → Prop} {own C : String} {index : Nat} {b : Addr} {argsL rest : List Value} {g : JFrame}
theorem own_virt (X : Stand p l e R s m args below meth c T locs cells slots) (hx : p.tables.exec = Jvm.exec) (hZ : Z.Warmed39 s.vm) (hown : s.vm.findClass own = some m.cls) (w1 : (Jvm.Cond.methodLink own index y).before a0 Z = true) (w2 : (Jvm.Cond.declares y).before a0 Z = true) (nf : NotFace s y) (w3 : (Jvm.Cond.selects C y z).before a0 Z = true) (w4 : (Jvm.Cond.instanceMethod z).before a0 Z = true) (hy : y.cls ≠ "java/lang/invoke/MethodHandle" ∧ y.cls ≠ "java/lang/invoke/VarHandle")
    (wc : (Jvm.Cond.code z bytes maxL ret).before a0 Z = true) (wz : (Jvm.Cond.initialized z.cls).before a0 Z = true) (eT : T.heap = h) (E : Exa Z h b C) (hM : own_Met l z bytes maxL ret [] rm Z (.ref b :: argsL).toArray h Q) (hg : g.method = m) (hsize : g.locals.size = c.maxLocals) (hlen : ∀ sig, parseMethodDescriptor y.desc = some sig → argsL.length = sig.parameters.length)
    (hstack : g.stack = argsL.reverse ++ .ref b :: rest) (hW : 2 * g.monitorRoom + (rest.map fun v => v.category).sum ≤ W) (hd : decode c.code g.pc = .ok (.invokevirtual index, 3)) (hf : rm.frames + 1 ≤ R.frames) (hl : W + (maxL + 11) + rm.locals ≤ R.locals) (hc : cells + rm.cells ≤ R.cells) (hs : slots + rm.slots ≤ R.slots) :
    ∃ (v : Option Value) (T' : State) (L : List Loc), Stand p l e R s m args below meth c T' (locs ++ L) (cells + rm.cells) (slots + rm.slots) ∧ Q v T'.heap L ∧ ∀ t, Steps p.tables e below (T'.setTop { g with pc := g.pc + 3, stack := v.toList ++ rest }) t → Steps p.tables e below (T.setTop g) t := by
  obtain ⟨cq, kq, qa, qb, qc⟩ := isOf hZ eT E
  obtain ⟨v, vm1, ⟨T', L', k', n'⟩, -, X', ⟨L, hQ, hl', hk', hn'⟩, st⟩ := X.virtualBack hx (y := y) (z := z) hown (mvT hZ w1) (mvT hZ w2) nf (mvT hZ w3) (mvT hZ w4) hy (backOf (W := W) hM hZ wc wz hf hl) qa qc hg hsize (Steps.refl _) hlen hstack hW hd (fun _ _ => ⟨rfl, eT, hc, hs⟩)
  dsimp only [Pt.U, Pt.locs, Pt.cells, Pt.slots] at X' hl' hk' hn' st hQ
  subst hl' hk' hn'
  exact ⟨v, T', L, X', hQ, fun t k => st.trans k⟩
/-- a method that a superclass declares, named through the subclass -/
theorem own_virtUp {owner : String} (X : Stand p l e R s m args below meth c T locs cells slots) (hx : p.tables.exec = Jvm.exec) (hZ : Z.Warmed39 s.vm) (hown : s.vm.findClass own = some m.cls) (w1 : (Jvm.Cond.methodLink own index y).before a0 Z = true) (ws : (Jvm.Cond.sameMethod y.cls owner y.name y.desc).before a0 Z = true) (w2 : (Jvm.Cond.declares ⟨owner, y.name, y.desc⟩).before a0 Z = true) (ho : owner ≠ "java/lang/invoke/MethodHandle" ∧ owner ≠ "java/lang/invoke/VarHandle") (w3 : (Jvm.Cond.selects C y z).before a0 Z = true) (w4 : (Jvm.Cond.instanceMethod z).before a0 Z = true)
    (wc : (Jvm.Cond.code z bytes maxL ret).before a0 Z = true) (wz : (Jvm.Cond.initialized z.cls).before a0 Z = true) (eT : T.heap = h) (E : Exa Z h b C) (hM : own_Met l z bytes maxL ret [] rm Z (.ref b :: argsL).toArray h Q) (hg : g.method = m) (hsize : g.locals.size = c.maxLocals) (hlen : ∀ sig, parseMethodDescriptor y.desc = some sig → argsL.length = sig.parameters.length)
    (hstack : g.stack = argsL.reverse ++ .ref b :: rest) (hW : 2 * g.monitorRoom + (rest.map fun v => v.category).sum ≤ W) (hd : decode c.code g.pc = .ok (.invokevirtual index, 3)) (hf : rm.frames + 1 ≤ R.frames) (hl : W + (maxL + 11) + rm.locals ≤ R.locals) (hc : cells + rm.cells ≤ R.cells) (hs : slots + rm.slots ≤ R.slots) :
    ∃ (v : Option Value) (T' : State) (L : List Loc), Stand p l e R s m args below meth c T' (locs ++ L) (cells + rm.cells) (slots + rm.slots) ∧ Q v T'.heap L ∧ ∀ t, Steps p.tables e below (T'.setTop { g with pc := g.pc + 3, stack := v.toList ++ rest }) t → Steps p.tables e below (T.setTop g) t := by
  obtain ⟨cq, kq, qa, qb, qc⟩ := isOf hZ eT E
  obtain ⟨v, vm1, ⟨T', L', k', n'⟩, -, X', ⟨L, hQ, hl', hk', hn'⟩, st⟩ := X.virtualBackUp hx (x := y) (y := z) hown (mvT hZ w1) (mvT hZ ws) (mvT hZ w2) ho (mvT hZ w3) (mvT hZ w4) (backOf (W := W) hM hZ wc wz hf hl) qa qc hg hsize (Steps.refl _) hlen hstack hW hd (fun _ _ => ⟨rfl, eT, hc, hs⟩)
  dsimp only [Pt.U, Pt.locs, Pt.cells, Pt.slots] at X' hl' hk' hn' st hQ
  subst hl' hk' hn'
  exact ⟨v, T', L, X', hQ, fun t k => st.trans k⟩
theorem own_stat (X : Stand p l e R s m args below meth c T locs cells slots) (hx : p.tables.exec = Jvm.exec) (hZ : Z.Warmed39 s.vm) (hown : s.vm.findClass own = some m.cls) (w1 : (Jvm.Cond.methodLink own index y).before a0 Z = true) (w2 : (Jvm.Cond.static y).before a0 Z = true) (hy : y.cls ≠ "java/lang/invoke/MethodHandle" ∧ y.cls ≠ "java/lang/invoke/VarHandle")
    (wc : (Jvm.Cond.code y bytes maxL ret).before a0 Z = true) (wz : (Jvm.Cond.initialized y.cls).before a0 Z = true) (eT : T.heap = h) (hM : own_Met l y bytes maxL ret [] rm Z argsL.toArray h Q) (hg : g.method = m) (hsize : g.locals.size = c.maxLocals) (hlen : ∀ sig, parseMethodDescriptor y.desc = some sig → argsL.length = sig.parameters.length)
    (hstack : g.stack = argsL.reverse ++ rest) (hW : 2 * g.monitorRoom + (rest.map fun v => v.category).sum ≤ W) (hd : decode c.code g.pc = .ok (.invokestatic index, 3)) (hf : rm.frames + 1 ≤ R.frames) (hl : W + (maxL + 11) + rm.locals ≤ R.locals) (hc : cells + rm.cells ≤ R.cells) (hs : slots + rm.slots ≤ R.slots) :
    ∃ (v : Option Value) (T' : State) (L : List Loc), Stand p l e R s m args below meth c T' (locs ++ L) (cells + rm.cells) (slots + rm.slots) ∧ Q v T'.heap L ∧ ∀ t, Steps p.tables e below (T'.setTop { g with pc := g.pc + 3, stack := v.toList ++ rest }) t → Steps p.tables e below (T.setTop g) t := by
  obtain ⟨v, vm1, ⟨T', L', k', n'⟩, -, X', ⟨L, hQ, hl', hk', hn'⟩, st⟩ := Jvm.LawKit.callS X hx (y := y) hown (mvT hZ w1) (mvT hZ w2) (mvT hZ wz) (mvT hZ wc) hy (backOf (W := W) hM hZ wc wz hf hl) hg hsize hlen hstack hW hd (fun _ _ => ⟨rfl, eT, hc, hs⟩)
  dsimp only [Pt.U, Pt.locs, Pt.cells, Pt.slots] at X' hl' hk' hn' st hQ
  subst hl' hk' hn'
  exact ⟨v, T', L, X', hQ, st⟩
theorem own_spec {bytes : ByteArray} {maxL : Nat} (X : Stand p l e R s m args below meth c T locs cells slots) (hx : p.tables.exec = Jvm.exec) (hZ : Z.Warmed39 s.vm) (hy1 : y.name = "<init>") (hown : s.vm.findClass own = some m.cls) (w1 : (Jvm.Cond.methodLink own index y).before a0 Z = true) (w2 : (Jvm.Cond.instanceMethod y).before a0 Z = true) (hy : y.cls ≠ "java/lang/invoke/MethodHandle" ∧ y.cls ≠ "java/lang/invoke/VarHandle")
    (wc : (Jvm.Cond.code y bytes maxL none).before a0 Z = true) (wz : (Jvm.Cond.initialized y.cls).before a0 Z = true) (eT : T.heap = h) (hM : own_Met l y bytes maxL none [] rm Z (.ref b :: argsL).toArray h Q) (hg : g.method = m) (hsize : g.locals.size = c.maxLocals) (hlen : ∀ sig, parseMethodDescriptor y.desc = some sig → argsL.length = sig.parameters.length)
    (hstack : g.stack = argsL.reverse ++ .ref b :: rest) (hW : 2 * g.monitorRoom + (rest.map fun v => v.category).sum ≤ W) (hd : decode c.code g.pc = .ok (.invokespecial index, 3)) (hf : rm.frames + 1 ≤ R.frames) (hl : W + (maxL + 11) + rm.locals ≤ R.locals) (hc : cells + rm.cells ≤ R.cells) (hs : slots + rm.slots ≤ R.slots) :
    ∃ (v : Option Value) (T' : State) (L : List Loc), Stand p l e R s m args below meth c T' (locs ++ L) (cells + rm.cells) (slots + rm.slots) ∧ Q v T'.heap L ∧ ∀ t, Steps p.tables e below (T'.setTop { g with pc := g.pc + 3, stack := v.toList ++ rest }) t → Steps p.tables e below (T.setTop g) t := by
  obtain ⟨v, vm1, ⟨T', L', k', n'⟩, -, X', ⟨L, hQ, hl', hk', hn'⟩, st⟩ := X.specialBack hx (y := y) hy1 hown (mvT hZ w1) (mvT hZ w2) (mvT hZ wc) hy (backOf (W := W) hM hZ wc wz hf hl) hg hsize (Steps.refl _) hlen hstack hW hd (fun _ _ => ⟨rfl, eT, hc, hs⟩)
  dsimp only [Pt.U, Pt.locs, Pt.cells, Pt.slots] at X' hl' hk' hn' st hQ
  subst hl' hk' hn'
  exact ⟨v, T', L, X', hQ, fun t k => st.trans k⟩
end Calls
section Words
variable {first : State} {o : Option Outcome} {idx : List Nat} {a b t : Term} {v : Value} {C n d : String}
theorem own_eqI {k : Int32} (hq : (Jvm.Cond.eq a (.int k)).value args first o s idx = some true) : a.eval args first o idx s = some (.int k) := by
  cases ha : a.eval args first o idx s with
  | none => simp [Cond.value, ha] at hq
  | some x => cases x <;> simp [Cond.value, ha, Term.eval] at hq ⊢ <;> exact hq
theorem own_eqR {y : Addr} (hb : b.eval args first o idx s = some (.ref y)) (hq : (Jvm.Cond.eq a b).value args first o s idx = some true) : a.eval args first o idx s = some (.ref y) := by
  cases ha : a.eval args first o idx s with
  | none => simp [Cond.value, ha] at hq
  | some x => cases x <;> simp [Cond.value, ha, hb] at hq ⊢ <;> exact hq
theorem own_fld {x : Addr} (ht : t.eval args Z none [] Z = some (.ref x)) (hq : (Term.field t C n d).eval args Z none [] Z = some v) : Fld Z Z.heap x C n d v := Fld.start ((fld_at ht).symm.trans hq)
/-- an array of a known length -/
def own_Aln (Z : State) (h : Heap) (a : Addr) (ty : FieldType) (n : Int32) : Prop := ∃ c : Cell, Arr Z h a c ty ∧ c.slots.size = n.toNatClampNeg ∧ ¬ n < 0
theorem own_len {a : Addr} {cl : Cell} {ty : FieldType} {k : Int32} (ht : t.eval args Z none [] Z = some (.ref a)) (A : Arr Z Z.heap a cl ty) (hq : (Term.length t).eval args Z none [] Z = some (.int k)) (hk : ¬ k < 0 := by decide) : own_Aln Z Z.heap a ty k := by
  have hc : Z.arrayAt? a = some cl := A.fin (Vm.Alike.refl _)
  simp only [Term.eval, ht, hc, Option.bind_eq_bind, Option.bind_some] at hq
  by_cases hb : cl.slots.size < 2 ^ 31
  · simp only [hb, if_true, Option.pure_def, Option.some.injEq, Value.int.injEq] at hq
    refine ⟨cl, A, ?_, hk⟩
    have h1 := len_toInt hb
    rw [hq] at h1
    have h2 := nat_of hk
    omega
  · simp [hb] at hq
end Words
theorem own_exaStat {a : Addr} {C : String} (F : Exa Z h a C) : ∀ cell : Cell, h[a]? = some cell → cell.vm.isStatics = false := fun cell hc => by
  obtain ⟨c', _, h1, -, -, h4, -⟩ := F
  cases h1.symm.trans hc
  exact h4
theorem own_staKeep {h' : Heap} {C n d : String} {v : Value} {ws : List Addr} (F : Sta Z h C n d v) (K : Keep h h' ws) (q : ∀ x ∈ ws, ∀ cell : Cell, h[x]? = some cell → cell.vm.isStatics = false) : Sta Z h' C n d v := by
  obtain ⟨cf, i, k, f, st, cell, h1, h2, h3, h4, h5, h6, h7⟩ := F
  exact ⟨cf, i, k, f, st, cell, h1, h2, h3, h4, K.2.1 st cell h5 (fun hm => by rw [q st hm cell h5] at h6; cases h6), h6, h7⟩
theorem own_ite {α : Type} (P : Prop) (x y : α) : ∃ z : α, (P → z = x) ∧ (¬ P → z = y) := by
  by_cases hP : P
  · exact ⟨x, fun _ => rfl, fun q => absurd hP q⟩
  · exact ⟨y, fun q => absurd q hP, fun _ => rfl⟩
theorem own_irr (x : Int64) : ¬ x < x := by simp
theorem own_tri (x y : Int64) : x < y ∨ x = y ∨ y < x := by
  simp only [Int64.lt_iff_toInt_lt, ← Int64.toInt_inj]
  omega
theorem own_asym {x y : Int64} (q : x < y) : ¬ y < x := by
  simp only [Int64.lt_iff_toInt_lt] at *
  omega
theorem own_ltne {x y : Int64} (q : x < y) : ¬ x = y := fun u => own_irr _ (u ▸ q)
theorem own_gtne {x y : Int64} (q : y < x) : ¬ x = y := fun u => own_irr _ (u ▸ q)
end OwnKit
section OwnSteps
variable {p : Program} {l : Launch} {e : Env} {R : Room} {s : State} {m : MethodId} {args : Array Value} {below : List Frame} {meth : Method} {c : Code} {T : State} {locs : List Loc} {cells slots : Nat} {Z : State} {a0 : Array Value} {h : Heap}
variable {Q : Option Value → Heap → List Loc → Prop} {rc rs pc : Nat} {Ls l' : Array Slot} {S : List Value}
abbrev own_At (p : Program) (e : Env) (below : List Frame) (s : State) (Q : Option Value → Heap → List Loc → Prop) (rc rs : Nat) (T : State) (m : MethodId) (pc : Nat) (Ls : Array Slot) (S : List Value) : Prop := own_Fin p e below s Q rc rs (T.setTop (mkF m pc Ls S))
theorem own_iload (X : Stand p l e R s m args below meth c T locs cells slots) (hx : p.tables.exec = Jvm.exec) {k : Nat} {v : Int32} (hd : decode c.code pc = .ok (.iload k, 2)) (hl : Ls[k]? = some (.val (.int v))) (hF : own_At p e below s Q rc rs T m (pc + 2) Ls ((.int v) :: S)) : own_At p e below s Q rc rs T m pc Ls S := own_step (fun _ k => XS.iload X.here hx rfl hd hl k) hF
theorem own_iloadN (X : Stand p l e R s m args below meth c T locs cells slots) (hx : p.tables.exec = Jvm.exec) {k : Fin 4} {v : Int32} (hd : decode c.code pc = .ok (.iload_n k, 1)) (hl : Ls[k.val]? = some (.val (.int v))) (hF : own_At p e below s Q rc rs T m (pc + 1) Ls ((.int v) :: S)) : own_At p e below s Q rc rs T m pc Ls S := own_step (fun _ k => XS.iloadN X.here hx rfl hd hl k) hF
theorem own_lload (X : Stand p l e R s m args below meth c T locs cells slots) (hx : p.tables.exec = Jvm.exec) {k : Nat} {v : Int64} (hd : decode c.code pc = .ok (.lload k, 2)) (hl : Ls[k]? = some (.val (.long v))) (hF : own_At p e below s Q rc rs T m (pc + 2) Ls ((.long v) :: S)) : own_At p e below s Q rc rs T m pc Ls S := own_step (fun _ k => XS.lload X.here hx rfl hd hl k) hF
theorem own_lloadN (X : Stand p l e R s m args below meth c T locs cells slots) (hx : p.tables.exec = Jvm.exec) {k : Fin 4} {v : Int64} (hd : decode c.code pc = .ok (.lload_n k, 1)) (hl : Ls[k.val]? = some (.val (.long v))) (hF : own_At p e below s Q rc rs T m (pc + 1) Ls ((.long v) :: S)) : own_At p e below s Q rc rs T m pc Ls S := own_step (fun _ k => XS.lloadN X.here hx rfl hd hl k) hF
theorem own_aload (X : Stand p l e R s m args below meth c T locs cells slots) (hx : p.tables.exec = Jvm.exec) {k : Nat} {v : Value} (hd : decode c.code pc = .ok (.aload k, 2)) (hl : Ls[k]? = some (.val v)) (hv : v.isRef = true) (hF : own_At p e below s Q rc rs T m (pc + 2) Ls (v :: S)) : own_At p e below s Q rc rs T m pc Ls S := own_step (fun _ k => XS.aload X.here hx rfl hd hl hv k) hF
theorem own_aloadN (X : Stand p l e R s m args below meth c T locs cells slots) (hx : p.tables.exec = Jvm.exec) {k : Fin 4} {v : Value} (hd : decode c.code pc = .ok (.aload_n k, 1)) (hl : Ls[k.val]? = some (.val v)) (hv : v.isRef = true) (hF : own_At p e below s Q rc rs T m (pc + 1) Ls (v :: S)) : own_At p e below s Q rc rs T m pc Ls S := own_step (fun _ k => XS.aloadN X.here hx rfl hd hl hv k) hF
theorem own_istore (X : Stand p l e R s m args below meth c T locs cells slots) (hx : p.tables.exec = Jvm.exec) {k : Nat} {v : Int32} (hd : decode c.code pc = .ok (.istore k, 2)) (hl : storeLocals Ls k (.int v) = some l') (hF : own_At p e below s Q rc rs T m (pc + 2) l' S) : own_At p e below s Q rc rs T m pc Ls ((.int v) :: S) := own_step (fun _ k => XS.istore X.here hx rfl hd rfl hl k) hF
theorem own_istoreN (X : Stand p l e R s m args below meth c T locs cells slots) (hx : p.tables.exec = Jvm.exec) {k : Fin 4} {v : Int32} (hd : decode c.code pc = .ok (.istore_n k, 1)) (hl : storeLocals Ls k.val (.int v) = some l') (hF : own_At p e below s Q rc rs T m (pc + 1) l' S) : own_At p e below s Q rc rs T m pc Ls ((.int v) :: S) := own_step (fun _ k => XS.istoreN X.here hx rfl hd rfl hl k) hF
theorem own_lstore (X : Stand p l e R s m args below meth c T locs cells slots) (hx : p.tables.exec = Jvm.exec) {k : Nat} {v : Int64} (hd : decode c.code pc = .ok (.lstore k, 2)) (hl : storeLocals Ls k (.long v) = some l') (hF : own_At p e below s Q rc rs T m (pc + 2) l' S) : own_At p e below s Q rc rs T m pc Ls ((.long v) :: S) := own_step (fun _ k => XS.lstore X.here hx rfl hd rfl hl k) hF
theorem own_lstoreN (X : Stand p l e R s m args below meth c T locs cells slots) (hx : p.tables.exec = Jvm.exec) {k : Fin 4} {v : Int64} (hd : decode c.code pc = .ok (.lstore_n k, 1)) (hl : storeLocals Ls k.val (.long v) = some l') (hF : own_At p e below s Q rc rs T m (pc + 1) l' S) : own_At p e below s Q rc rs T m pc Ls ((.long v) :: S) := own_step (fun _ k => XS.lstoreN X.here hx rfl hd rfl hl k) hF
theorem own_astore (X : Stand p l e R s m args below meth c T locs cells slots) (hx : p.tables.exec = Jvm.exec) {k : Nat} {v : Value} (hd : decode c.code pc = .ok (.astore k, 2)) (hv : v.isRef = true) (hl : storeLocals Ls k v = some l') (hF : own_At p e below s Q rc rs T m (pc + 2) l' S) : own_At p e below s Q rc rs T m pc Ls (v :: S) := own_step (fun _ k => XS.astore X.here hx rfl hd rfl hv hl k) hF
theorem own_astoreN (X : Stand p l e R s m args below meth c T locs cells slots) (hx : p.tables.exec = Jvm.exec) {k : Fin 4} {v : Value} (hd : decode c.code pc = .ok (.astore_n k, 1)) (hv : v.isRef = true) (hl : storeLocals Ls k.val v = some l') (hF : own_At p e below s Q rc rs T m (pc + 1) l' S) : own_At p e below s Q rc rs T m pc Ls (v :: S) := own_step (fun _ k => XS.astoreN X.here hx rfl hd rfl hv hl k) hF
theorem own_iconst (X : Stand p l e R s m args below meth c T locs cells slots) (hx : p.tables.exec = Jvm.exec) {i : Int} (z : Int32) (hd : decode c.code pc = .ok (.iconst i, 1)) (hz : Int32.ofInt i = z) (hF : own_At p e below s Q rc rs T m (pc + 1) Ls (.int z :: S)) : own_At p e below s Q rc rs T m pc Ls S := own_step (fun _ k => XS.iconst X.here hx rfl hd (by rw [hz]; exact k)) hF
theorem own_bipush (X : Stand p l e R s m args below meth c T locs cells slots) (hx : p.tables.exec = Jvm.exec) {i : Int} (z : Int32) (hd : decode c.code pc = .ok (.bipush i, 2)) (hz : (Int8.ofInt i).toInt32 = z) (hF : own_At p e below s Q rc rs T m (pc + 2) Ls (.int z :: S)) : own_At p e below s Q rc rs T m pc Ls S := own_step (fun _ k => XS.bipush X.here hx rfl hd (by rw [hz]; exact k)) hF
theorem own_sipush (X : Stand p l e R s m args below meth c T locs cells slots) (hx : p.tables.exec = Jvm.exec) {i : Int} (z : Int32) (hd : decode c.code pc = .ok (.sipush i, 3)) (hz : (Int16.ofInt i).toInt32 = z) (hF : own_At p e below s Q rc rs T m (pc + 3) Ls (.int z :: S)) : own_At p e below s Q rc rs T m pc Ls S := own_step (fun _ k => XS.sipush X.here hx rfl hd (by rw [hz]; exact k)) hF
theorem own_lconst0 (X : Stand p l e R s m args below meth c T locs cells slots) (hx : p.tables.exec = Jvm.exec) (hd : decode c.code pc = .ok (.lconst 0, 1)) (hF : own_At p e below s Q rc rs T m (pc + 1) Ls (.long (0 : Int64) :: S)) : own_At p e below s Q rc rs T m pc Ls S := own_step (fun _ k => XS.lconst X.here hx rfl hd k) hF
theorem own_lconst1 (X : Stand p l e R s m args below meth c T locs cells slots) (hx : p.tables.exec = Jvm.exec) (hd : decode c.code pc = .ok (.lconst 1, 1)) (hF : own_At p e below s Q rc rs T m (pc + 1) Ls (.long (1 : Int64) :: S)) : own_At p e below s Q rc rs T m pc Ls S := own_step (fun _ k => XS.lconst X.here hx rfl hd k) hF
theorem own_aconstNull (X : Stand p l e R s m args below meth c T locs cells slots) (hx : p.tables.exec = Jvm.exec) (hd : decode c.code pc = .ok (.aconst_null, 1)) (hF : own_At p e below s Q rc rs T m (pc + 1) Ls (.null :: S)) : own_At p e below s Q rc rs T m pc Ls S := own_step (fun _ k => XS.aconstNull X.here hx rfl hd k) hF
theorem own_iadd (X : Stand p l e R s m args below meth c T locs cells slots) (hx : p.tables.exec = Jvm.exec) {x y : Int32} (hd : decode c.code pc = .ok (.iadd, 1)) (hF : own_At p e below s Q rc rs T m (pc + 1) Ls (.int (x + y) :: S)) : own_At p e below s Q rc rs T m pc Ls (.int y :: .int x :: S) := own_step (fun _ k => XS.iadd X.here hx rfl hd rfl k) hF
theorem own_isub (X : Stand p l e R s m args below meth c T locs cells slots) (hx : p.tables.exec = Jvm.exec) {x y : Int32} (hd : decode c.code pc = .ok (.isub, 1)) (hF : own_At p e below s Q rc rs T m (pc + 1) Ls (.int (x - y) :: S)) : own_At p e below s Q rc rs T m pc Ls (.int y :: .int x :: S) := own_step (fun _ k => XS.isub X.here hx rfl hd rfl k) hF
theorem own_imul (X : Stand p l e R s m args below meth c T locs cells slots) (hx : p.tables.exec = Jvm.exec) {x y : Int32} (hd : decode c.code pc = .ok (.imul, 1)) (hF : own_At p e below s Q rc rs T m (pc + 1) Ls (.int (x * y) :: S)) : own_At p e below s Q rc rs T m pc Ls (.int y :: .int x :: S) := own_step (fun _ k => XS.imul X.here hx rfl hd rfl k) hF
theorem own_iand (X : Stand p l e R s m args below meth c T locs cells slots) (hx : p.tables.exec = Jvm.exec) {x y : Int32} (hd : decode c.code pc = .ok (.iand, 1)) (hF : own_At p e below s Q rc rs T m (pc + 1) Ls (.int (x &&& y) :: S)) : own_At p e below s Q rc rs T m pc Ls (.int y :: .int x :: S) := own_step (fun _ k => XS.iand X.here hx rfl hd rfl k) hF
theorem own_ior (X : Stand p l e R s m args below meth c T locs cells slots) (hx : p.tables.exec = Jvm.exec) {x y : Int32} (hd : decode c.code pc = .ok (.ior, 1)) (hF : own_At p e below s Q rc rs T m (pc + 1) Ls (.int (x ||| y) :: S)) : own_At p e below s Q rc rs T m pc Ls (.int y :: .int x :: S) := own_step (fun _ k => XS.ior X.here hx rfl hd rfl k) hF
theorem own_ixor (X : Stand p l e R s m args below meth c T locs cells slots) (hx : p.tables.exec = Jvm.exec) {x y : Int32} (hd : decode c.code pc = .ok (.ixor, 1)) (hF : own_At p e below s Q rc rs T m (pc + 1) Ls (.int (x ^^^ y) :: S)) : own_At p e below s Q rc rs T m pc Ls (.int y :: .int x :: S) := own_step (fun _ k => XS.ixor X.here hx rfl hd rfl k) hF
theorem own_ladd (X : Stand p l e R s m args below meth c T locs cells slots) (hx : p.tables.exec = Jvm.exec) {x y : Int64} (hd : decode c.code pc = .ok (.ladd, 1)) (hF : own_At p e below s Q rc rs T m (pc + 1) Ls (.long (x + y) :: S)) : own_At p e below s Q rc rs T m pc Ls (.long y :: .long x :: S) := own_step (fun _ k => XS.ladd X.here hx rfl hd rfl k) hF
theorem own_lsub (X : Stand p l e R s m args below meth c T locs cells slots) (hx : p.tables.exec = Jvm.exec) {x y : Int64} (hd : decode c.code pc = .ok (.lsub, 1)) (hF : own_At p e below s Q rc rs T m (pc + 1) Ls (.long (x - y) :: S)) : own_At p e below s Q rc rs T m pc Ls (.long y :: .long x :: S) := own_step (fun _ k => XS.lsub X.here hx rfl hd rfl k) hF
theorem own_lmul (X : Stand p l e R s m args below meth c T locs cells slots) (hx : p.tables.exec = Jvm.exec) {x y : Int64} (hd : decode c.code pc = .ok (.lmul, 1)) (hF : own_At p e below s Q rc rs T m (pc + 1) Ls (.long (x * y) :: S)) : own_At p e below s Q rc rs T m pc Ls (.long y :: .long x :: S) := own_step (fun _ k => XS.lmul X.here hx rfl hd rfl k) hF
theorem own_land (X : Stand p l e R s m args below meth c T locs cells slots) (hx : p.tables.exec = Jvm.exec) {x y : Int64} (hd : decode c.code pc = .ok (.land, 1)) (hF : own_At p e below s Q rc rs T m (pc + 1) Ls (.long (x &&& y) :: S)) : own_At p e below s Q rc rs T m pc Ls (.long y :: .long x :: S) := own_step (fun _ k => XS.land X.here hx rfl hd rfl k) hF
theorem own_lor (X : Stand p l e R s m args below meth c T locs cells slots) (hx : p.tables.exec = Jvm.exec) {x y : Int64} (hd : decode c.code pc = .ok (.lor, 1)) (hF : own_At p e below s Q rc rs T m (pc + 1) Ls (.long (x ||| y) :: S)) : own_At p e below s Q rc rs T m pc Ls (.long y :: .long x :: S) := own_step (fun _ k => XS.lor X.here hx rfl hd rfl k) hF
theorem own_lxor (X : Stand p l e R s m args below meth c T locs cells slots) (hx : p.tables.exec = Jvm.exec) {x y : Int64} (hd : decode c.code pc = .ok (.lxor, 1)) (hF : own_At p e below s Q rc rs T m (pc + 1) Ls (.long (x ^^^ y) :: S)) : own_At p e below s Q rc rs T m pc Ls (.long y :: .long x :: S) := own_step (fun _ k => XS.lxor X.here hx rfl hd rfl k) hF
theorem own_ishl (X : Stand p l e R s m args below meth c T locs cells slots) (hx : p.tables.exec = Jvm.exec) {x : Int32} {y : Int32} (hd : decode c.code pc = .ok (.ishl, 1)) (hF : own_At p e below s Q rc rs T m (pc + 1) Ls (.int (x <<< (y &&& 31)) :: S)) : own_At p e below s Q rc rs T m pc Ls (.int y :: .int x :: S) := own_step (fun _ k => XS.ishl X.here hx rfl hd rfl k) hF
theorem own_ishr (X : Stand p l e R s m args below meth c T locs cells slots) (hx : p.tables.exec = Jvm.exec) {x : Int32} {y : Int32} (hd : decode c.code pc = .ok (.ishr, 1)) (hF : own_At p e below s Q rc rs T m (pc + 1) Ls (.int (x >>> (y &&& 31)) :: S)) : own_At p e below s Q rc rs T m pc Ls (.int y :: .int x :: S) := own_step (fun _ k => XS.ishr X.here hx rfl hd rfl k) hF
theorem own_iushr (X : Stand p l e R s m args below meth c T locs cells slots) (hx : p.tables.exec = Jvm.exec) {x : Int32} {y : Int32} (hd : decode c.code pc = .ok (.iushr, 1)) (hF : own_At p e below s Q rc rs T m (pc + 1) Ls (.int ((x.toUInt32 >>> (y &&& 31).toUInt32).toInt32) :: S)) : own_At p e below s Q rc rs T m pc Ls (.int y :: .int x :: S) := own_step (fun _ k => XS.iushr X.here hx rfl hd rfl k) hF
theorem own_lshl (X : Stand p l e R s m args below meth c T locs cells slots) (hx : p.tables.exec = Jvm.exec) {x : Int64} {y : Int32} (hd : decode c.code pc = .ok (.lshl, 1)) (hF : own_At p e below s Q rc rs T m (pc + 1) Ls (.long (x <<< (y &&& 0x3f).toInt64) :: S)) : own_At p e below s Q rc rs T m pc Ls (.int y :: .long x :: S) := own_step (fun _ k => XS.lshl X.here hx rfl hd rfl k) hF
theorem own_lshr (X : Stand p l e R s m args below meth c T locs cells slots) (hx : p.tables.exec = Jvm.exec) {x : Int64} {y : Int32} (hd : decode c.code pc = .ok (.lshr, 1)) (hF : own_At p e below s Q rc rs T m (pc + 1) Ls (.long (x >>> (y &&& 0x3f).toInt64) :: S)) : own_At p e below s Q rc rs T m pc Ls (.int y :: .long x :: S) := own_step (fun _ k => XS.lshr X.here hx rfl hd rfl k) hF
theorem own_lushr (X : Stand p l e R s m args below meth c T locs cells slots) (hx : p.tables.exec = Jvm.exec) {x : Int64} {y : Int32} (hd : decode c.code pc = .ok (.lushr, 1)) (hF : own_At p e below s Q rc rs T m (pc + 1) Ls (.long ((x.toUInt64 >>> (y &&& 0x3f).toInt64.toUInt64).toInt64) :: S)) : own_At p e below s Q rc rs T m pc Ls (.int y :: .long x :: S) := own_step (fun _ k => XS.lushr X.here hx rfl hd rfl k) hF
theorem own_ineg (X : Stand p l e R s m args below meth c T locs cells slots) (hx : p.tables.exec = Jvm.exec) {x : Int32} (hd : decode c.code pc = .ok (.ineg, 1)) (hF : own_At p e below s Q rc rs T m (pc + 1) Ls (.int ((-x)) :: S)) : own_At p e below s Q rc rs T m pc Ls (.int x :: S) := own_step (fun _ k => XS.ineg X.here hx rfl hd rfl k) hF
theorem own_lneg (X : Stand p l e R s m args below meth c T locs cells slots) (hx : p.tables.exec = Jvm.exec) {x : Int64} (hd : decode c.code pc = .ok (.lneg, 1)) (hF : own_At p e below s Q rc rs T m (pc + 1) Ls (.long ((-x)) :: S)) : own_At p e below s Q rc rs T m pc Ls (.long x :: S) := own_step (fun _ k => XS.lneg X.here hx rfl hd rfl k) hF
theorem own_i2l (X : Stand p l e R s m args below meth c T locs cells slots) (hx : p.tables.exec = Jvm.exec) {x : Int32} (hd : decode c.code pc = .ok (.i2l, 1)) (hF : own_At p e below s Q rc rs T m (pc + 1) Ls (.long (x.toInt64) :: S)) : own_At p e below s Q rc rs T m pc Ls (.int x :: S) := own_step (fun _ k => XS.i2l X.here hx rfl hd rfl k) hF
theorem own_l2i (X : Stand p l e R s m args below meth c T locs cells slots) (hx : p.tables.exec = Jvm.exec) {x : Int64} (hd : decode c.code pc = .ok (.l2i, 1)) (hF : own_At p e below s Q rc rs T m (pc + 1) Ls (.int (x.toInt32) :: S)) : own_At p e below s Q rc rs T m pc Ls (.long x :: S) := own_step (fun _ k => XS.l2i X.here hx rfl hd rfl k) hF
theorem own_i2b (X : Stand p l e R s m args below meth c T locs cells slots) (hx : p.tables.exec = Jvm.exec) {x : Int32} (hd : decode c.code pc = .ok (.i2b, 1)) (hF : own_At p e below s Q rc rs T m (pc + 1) Ls (.int (x.toInt8.toInt32) :: S)) : own_At p e below s Q rc rs T m pc Ls (.int x :: S) := own_step (fun _ k => XS.i2b X.here hx rfl hd rfl k) hF
theorem own_i2s (X : Stand p l e R s m args below meth c T locs cells slots) (hx : p.tables.exec = Jvm.exec) {x : Int32} (hd : decode c.code pc = .ok (.i2s, 1)) (hF : own_At p e below s Q rc rs T m (pc + 1) Ls (.int (x.toInt16.toInt32) :: S)) : own_At p e below s Q rc rs T m pc Ls (.int x :: S) := own_step (fun _ k => XS.i2s X.here hx rfl hd rfl k) hF
theorem own_i2c (X : Stand p l e R s m args below meth c T locs cells slots) (hx : p.tables.exec = Jvm.exec) {x : Int32} (hd : decode c.code pc = .ok (.i2c, 1)) (hF : own_At p e below s Q rc rs T m (pc + 1) Ls (.int (x.toUInt32.toUInt16.toUInt32.toInt32) :: S)) : own_At p e below s Q rc rs T m pc Ls (.int x :: S) := own_step (fun _ k => XS.i2c X.here hx rfl hd rfl k) hF
theorem own_lcmp (X : Stand p l e R s m args below meth c T locs cells slots) (hx : p.tables.exec = Jvm.exec) {x y : Int64} (hd : decode c.code pc = .ok (.lcmp, 1)) (hF : own_At p e below s Q rc rs T m (pc + 1) Ls (.int (lcmpW x y) :: S)) : own_At p e below s Q rc rs T m pc Ls (.long y :: .long x :: S) := own_step (fun _ k => XS.lcmp X.here hx rfl hd rfl k) hF
theorem own_irem (X : Stand p l e R s m args below meth c T locs cells slots) (hx : p.tables.exec = Jvm.exec) {x y : Int32} (hd : decode c.code pc = .ok (.irem, 1)) (hy : y ≠ 0) (hF : own_At p e below s Q rc rs T m (pc + 1) Ls (.int (x % y) :: S)) : own_At p e below s Q rc rs T m pc Ls (.int y :: .int x :: S) := own_step (fun _ k => iremM X hx rfl hd rfl hy k) hF
theorem own_idiv (X : Stand p l e R s m args below meth c T locs cells slots) (hx : p.tables.exec = Jvm.exec) {x y : Int32} (hd : decode c.code pc = .ok (.idiv, 1)) (hy : y ≠ 0) (hF : own_At p e below s Q rc rs T m (pc + 1) Ls (.int (x / y) :: S)) : own_At p e below s Q rc rs T m pc Ls (.int y :: .int x :: S) := own_step (fun _ k => XS.idiv X.here hx rfl hd rfl hy k) hF
theorem own_ldiv (X : Stand p l e R s m args below meth c T locs cells slots) (hx : p.tables.exec = Jvm.exec) {x y : Int64} (hd : decode c.code pc = .ok (.ldiv, 1)) (hy : y ≠ 0) (hF : own_At p e below s Q rc rs T m (pc + 1) Ls (.long (x / y) :: S)) : own_At p e below s Q rc rs T m pc Ls (.long y :: .long x :: S) := own_step (fun _ k => XS.ldiv X.here hx rfl hd rfl hy k) hF
theorem own_iinc (X : Stand p l e R s m args below meth c T locs cells slots) (hx : p.tables.exec = Jvm.exec) {k : Nat} {cst : Int} {x : Int32} (hd : decode c.code pc = .ok (.iinc k cst, 3)) (hl : Ls[k]? = some (.val (.int x))) (hl' : storeLocals Ls k (.int (x + Int32.ofInt cst)) = some l') (hF : own_At p e below s Q rc rs T m (pc + 3) l' S) : own_At p e below s Q rc rs T m pc Ls S := own_step (fun _ k => XS.iinc X.here hx rfl hd hl hl' k) hF
theorem own_dup (X : Stand p l e R s m args below meth c T locs cells slots) (hx : p.tables.exec = Jvm.exec) {x : Value} (hd : decode c.code pc = .ok (.dup, 1)) (hc : x.category = 1) (hF : own_At p e below s Q rc rs T m (pc + 1) Ls (x :: x :: S)) : own_At p e below s Q rc rs T m pc Ls (x :: S) := own_step (fun _ k => XS.dup X.here hx rfl hd rfl hc k) hF
theorem own_pop (X : Stand p l e R s m args below meth c T locs cells slots) (hx : p.tables.exec = Jvm.exec) {x : Value} (hd : decode c.code pc = .ok (.pop, 1)) (hc : x.category = 1) (hF : own_At p e below s Q rc rs T m (pc + 1) Ls S) : own_At p e below s Q rc rs T m pc Ls (x :: S) := own_step (fun _ k => XS.pop X.here hx rfl hd rfl hc k) hF
theorem own_dupX1 (X : Stand p l e R s m args below meth c T locs cells slots) (hx : p.tables.exec = Jvm.exec) {x y : Value} (hd : decode c.code pc = .ok (.dup_x1, 1)) (hc : x.category = 1) (hc' : y.category = 1) (hF : own_At p e below s Q rc rs T m (pc + 1) Ls (x :: y :: x :: S)) : own_At p e below s Q rc rs T m pc Ls (x :: y :: S) := own_step (fun _ k => XS.dupX1 X.here hx rfl hd rfl hc hc' k) hF
theorem own_dup2 (X : Stand p l e R s m args below meth c T locs cells slots) (hx : p.tables.exec = Jvm.exec) {x y : Value} (hd : decode c.code pc = .ok (.dup2, 1)) (hc : x.category = 1) (hc' : y.category = 1) (hF : own_At p e below s Q rc rs T m (pc + 1) Ls (x :: y :: x :: y :: S)) : own_At p e below s Q rc rs T m pc Ls (x :: y :: S) := own_step (fun _ k => Jvm.Free.XT.dup2 X.here hx rfl hd rfl hc hc' k) hF
theorem own_dup2L (X : Stand p l e R s m args below meth c T locs cells slots) (hx : p.tables.exec = Jvm.exec) {x : Int64} (hd : decode c.code pc = .ok (.dup2, 1)) (hF : own_At p e below s Q rc rs T m (pc + 1) Ls (.long x :: .long x :: S)) : own_At p e below s Q rc rs T m pc Ls (.long x :: S) := own_step (fun _ k => Jvm.Free.XT.dup2L X.here hx rfl hd rfl k) hF
theorem own_goto (X : Stand p l e R s m args below meth c T locs cells slots) (hx : p.tables.exec = Jvm.exec) {o : Int} (pc' : Nat) (hd : decode c.code pc = .ok (.goto o, 3)) (ho : 0 ≤ (pc : Int) + o) (hp : ((pc : Int) + o).toNat = pc') (hF : own_At p e below s Q rc rs T m pc' Ls S) : own_At p e below s Q rc rs T m pc Ls S := own_step (fun _ k => XS.goto X.here hx rfl rfl hd ho hp k) hF
theorem own_ifYes (X : Stand p l e R s m args below meth c T locs cells slots) (hx : p.tables.exec = Jvm.exec) {cd : ClassFile.Cond} {x : Int32} {o : Int} (pc' : Nat) (hd : decode c.code pc = .ok (.ifCond cd o, 3)) (hc : if_icmp.holds cd x 0 = true) (ho : 0 ≤ (pc : Int) + o) (hp : ((pc : Int) + o).toNat = pc') (hF : own_At p e below s Q rc rs T m pc' Ls S) : own_At p e below s Q rc rs T m pc Ls (.int x :: S) := own_step (fun _ k => XS.ifYes X.here hx rfl rfl hd rfl ((if0 _ _).trans hc) ho hp k) hF
theorem own_ifNo (X : Stand p l e R s m args below meth c T locs cells slots) (hx : p.tables.exec = Jvm.exec) {cd : ClassFile.Cond} {x : Int32} {o : Int} (hd : decode c.code pc = .ok (.ifCond cd o, 3)) (hc : if_icmp.holds cd x 0 = false) (hF : own_At p e below s Q rc rs T m (pc + 3) Ls S) : own_At p e below s Q rc rs T m pc Ls (.int x :: S) := own_step (fun _ k => XS.ifNo X.here hx rfl hd rfl ((if0 _ _).trans hc) k) hF
theorem own_icmpYes (X : Stand p l e R s m args below meth c T locs cells slots) (hx : p.tables.exec = Jvm.exec) {cd : ClassFile.Cond} {x y : Int32} {o : Int} (pc' : Nat) (hd : decode c.code pc = .ok (.if_icmp cd o, 3)) (hc : if_icmp.holds cd x y = true) (ho : 0 ≤ (pc : Int) + o) (hp : ((pc : Int) + o).toNat = pc') (hF : own_At p e below s Q rc rs T m pc' Ls S) : own_At p e below s Q rc rs T m pc Ls (.int y :: .int x :: S) := own_step (fun _ k => XS.icmpYes X.here hx rfl rfl hd rfl hc ho hp k) hF
theorem own_icmpNo (X : Stand p l e R s m args below meth c T locs cells slots) (hx : p.tables.exec = Jvm.exec) {cd : ClassFile.Cond} {x y : Int32} {o : Int} (hd : decode c.code pc = .ok (.if_icmp cd o, 3)) (hc : if_icmp.holds cd x y = false) (hF : own_At p e below s Q rc rs T m (pc + 3) Ls S) : own_At p e below s Q rc rs T m pc Ls (.int y :: .int x :: S) := own_step (fun _ k => XS.icmpNo X.here hx rfl hd rfl hc k) hF
theorem own_acmp (X : Stand p l e R s m args below meth c T locs cells slots) (hx : p.tables.exec = Jvm.exec) {cd : ACond} {x y : Value} {o : Int} (pc' : Nat) (same : Bool) (hd : decode c.code pc = .ok (.if_acmp cd o, 3)) (h1 : x.isRef = true) (h2 : y.isRef = true) (hq : decide (x = y) = same) (ho : 0 ≤ (pc : Int) + o) (hp : pc' = if acV cd same = true then ((pc : Int) + o).toNat else pc + 3) (hF : own_At p e below s Q rc rs T m pc' Ls S) : own_At p e below s Q rc rs T m pc Ls (y :: x :: S) := own_step (fun _ k => Jvm.RoadKit.acmp X hx rfl h1 h2 rfl hd rfl hq ho hp k) hF
theorem own_ifnullYes (X : Stand p l e R s m args below meth c T locs cells slots) (hx : p.tables.exec = Jvm.exec)  {o : Int} (pc' : Nat) (hd : decode c.code pc = .ok (.ifnull o, 3)) (ho : 0 ≤ (pc : Int) + o) (hp : ((pc : Int) + o).toNat = pc') (hF : own_At p e below s Q rc rs T m pc' Ls S) : own_At p e below s Q rc rs T m pc Ls (.null :: S) := own_step (fun _ k => XS.ifnullYes X.here hx rfl rfl hd rfl ho hp k) hF
theorem own_ifnullNo (X : Stand p l e R s m args below meth c T locs cells slots) (hx : p.tables.exec = Jvm.exec) {b : Addr} {o : Int} (hd : decode c.code pc = .ok (.ifnull o, 3))  (hF : own_At p e below s Q rc rs T m (pc + 3) Ls S) : own_At p e below s Q rc rs T m pc Ls (.ref b :: S) := own_step (fun _ k => XS.ifnullNo X.here hx rfl hd rfl k) hF
theorem own_ifnonnullYes (X : Stand p l e R s m args below meth c T locs cells slots) (hx : p.tables.exec = Jvm.exec) {b : Addr} {o : Int} (pc' : Nat) (hd : decode c.code pc = .ok (.ifnonnull o, 3)) (ho : 0 ≤ (pc : Int) + o) (hp : ((pc : Int) + o).toNat = pc') (hF : own_At p e below s Q rc rs T m pc' Ls S) : own_At p e below s Q rc rs T m pc Ls (.ref b :: S) := own_step (fun _ k => XS.ifnonnullYes X.here hx rfl rfl hd rfl ho hp k) hF
theorem own_ifnonnullNo (X : Stand p l e R s m args below meth c T locs cells slots) (hx : p.tables.exec = Jvm.exec)  {o : Int} (hd : decode c.code pc = .ok (.ifnonnull o, 3))  (hF : own_At p e below s Q rc rs T m (pc + 3) Ls S) : own_At p e below s Q rc rs T m pc Ls (.null :: S) := own_step (fun _ k => XS.ifnonnullNo X.here hx rfl hd rfl k) hF
theorem own_tswIn (X : Stand p l e R s m args below meth c T locs cells slots) (hx : p.tables.exec = Jvm.exec) {dflt low high : Int} {offs : Array Int} {len : Nat} {i : Int32} {o : Int} (pc' : Nat) (hd : decode c.code pc = .ok (.tableswitch dflt low high offs, len)) (hin : ¬ (i.toInt < low ∨ i.toInt > high)) (hoff : offs[(i.toInt - low).toNat]? = some o) (ho : 0 ≤ (pc : Int) + o) (hp : ((pc : Int) + o).toNat = pc') (hF : own_At p e below s Q rc rs T m pc' Ls S) : own_At p e below s Q rc rs T m pc Ls (.int i :: S) := own_step (fun _ k => XS.tswIn X.here hx rfl rfl hd rfl hin hoff ho hp k) hF
theorem own_getS (X : Stand p l e R s m args below meth c T locs cells slots) (hx : p.tables.exec = Jvm.exec) (hZ : Z.Warmed39 s.vm) {own R0 O n d host : String} {index : Nat} (hown : s.vm.findClass own = some m.cls) (w : (Jvm.Cond.fieldLink own index R0 n d).before a0 Z = true ∨ (Jvm.Cond.fieldLinkNest own index R0 n d host).before a0 Z = true) (via : Via Z R0 O n d) (eT : T.heap = h) {v : Value} (F : Sta Z h O n d v) (hd : decode c.code pc = .ok (.getstatic index, 3)) (hF : ∀ (T' : State), Stand p l e R s m args below meth c T' locs cells slots → T'.heap = h → own_At p e below s Q rc rs T' m (pc + 3) Ls (v :: S)) : own_At p e below s Q rc rs T m pc Ls S := by
  obtain ⟨T', X', e', st⟩ := getS2 X hx hZ hown w via eT F (g := mkF m pc Ls S) rfl hd
  exact own_step (fun t k => st _ k) (hF T' X' e')
theorem own_getF (X : Stand p l e R s m args below meth c T locs cells slots) (hx : p.tables.exec = Jvm.exec) (hZ : Z.Warmed39 s.vm) {own R0 O n d host : String} {index : Nat} (hown : s.vm.findClass own = some m.cls) (w : (Jvm.Cond.fieldLink own index R0 n d).before a0 Z = true ∨ (Jvm.Cond.fieldLinkNest own index R0 n d host).before a0 Z = true) (via : Via Z R0 O n d) (eT : T.heap = h) {a : Addr} {v : Value} (F : Fld Z h a O n d v) (hd : decode c.code pc = .ok (.getfield index, 3)) (hF : ∀ (T' : State), Stand p l e R s m args below meth c T' locs cells slots → T'.heap = h → own_At p e below s Q rc rs T' m (pc + 3) Ls (v :: S)) : own_At p e below s Q rc rs T m pc Ls (.ref a :: S) := by
  obtain ⟨T', X', e', st⟩ := getF X hx hZ hown w via eT F (g := mkF m pc Ls (.ref a :: S)) rfl rfl hd
  exact own_step (fun t k => st _ k) (hF T' X' e')
theorem own_putF (X : Stand p l e R s m args below meth c T locs cells slots) (hx : p.tables.exec = Jvm.exec) (hZ : Z.Warmed39 s.vm) {C : String} {kk : Nat} {ty : FieldType} {own R0 O n d host : String} {index : Nat} (hown : s.vm.findClass own = some m.cls) (w : (Jvm.Cond.fieldLink own index R0 n d).before a0 Z = true ∨ (Jvm.Cond.fieldLinkNest own index R0 n d host).before a0 Z = true) (via : Via Z R0 O n d) (eT : T.heap = h) {a : Addr} {v old : Value} (F : Fld Z h a O n d old) (E : Exa Z h a C) (L : (Jvm.Cond.lays C O n d).before a0 Z = true ∨ ((Jvm.Cond.laysFinal C O n d).before a0 Z = true ∧ own = O ∧ meth.name = "<init>")) (wi : (Jvm.Cond.instantiable C kk).before a0 Z = true) (hty : parseFieldDescriptor d = some ty) (hn : narrow ty v = v) (hf : fits ty v = true) (hd : decode c.code pc = .ok (.putfield index, 3)) (hF : ∀ (T' : State) (h' : Heap), Stand p l e R s m args below meth c T' (locs ++ [⟨a, Jvm.RoadKit.slotOf Z O n d⟩]) cells slots → T'.heap = h' → Wr h h' a (Jvm.RoadKit.slotOf Z O n d) v → own_At p e below s Q rc rs T' m (pc + 3) Ls S) : own_At p e below s Q rc rs T m pc Ls (v :: .ref a :: S) := by
  obtain ⟨T', h', X', e', W', st⟩ := putF X hx hZ hown w via eT F E L wi hty hn hf (g := mkF m pc Ls (v :: .ref a :: S)) rfl rfl hd
  exact own_step (fun t k => st _ k) (hF T' h' X' e' W')
theorem own_castY (X : Stand p l e R s m args below meth c T locs cells slots) (hx : p.tables.exec = Jvm.exec) (hZ : Z.Warmed39 s.vm) {own K : String} {index : Nat} (hown : s.vm.findClass own = some m.cls) (w : (Jvm.Cond.classLink own index K).before a0 Z = true) (eT : T.heap = h) {a : Addr} (F : Ins Z h a K true) (hd : decode c.code pc = .ok (.checkcast index, 3)) (hF : ∀ (T' : State), Stand p l e R s m args below meth c T' locs cells slots → T'.heap = h → own_At p e below s Q rc rs T' m (pc + 3) Ls (.ref a :: S)) : own_At p e below s Q rc rs T m pc Ls (.ref a :: S) := by
  obtain ⟨T', X', e', st⟩ := castY X hx hZ hown w eT F (g := mkF m pc Ls (.ref a :: S)) rfl rfl hd
  exact own_step (fun t k => st _ k) (hF T' X' e')
theorem own_instY (X : Stand p l e R s m args below meth c T locs cells slots) (hx : p.tables.exec = Jvm.exec) (hZ : Z.Warmed39 s.vm) {own K : String} {index : Nat} (hown : s.vm.findClass own = some m.cls) (w : (Jvm.Cond.classLink own index K).before a0 Z = true) (eT : T.heap = h) {a : Addr} (F : Ins Z h a K true) (hd : decode c.code pc = .ok (.instanceof index, 3)) (hF : ∀ (T' : State), Stand p l e R s m args below meth c T' locs cells slots → T'.heap = h → own_At p e below s Q rc rs T' m (pc + 3) Ls (.int (1 : Int32) :: S)) : own_At p e below s Q rc rs T m pc Ls (.ref a :: S) := by
  obtain ⟨T', X', e', st⟩ := instY X hx hZ hown w eT F (g := mkF m pc Ls (.ref a :: S)) rfl rfl hd
  exact own_step (fun t k => st _ k) (hF T' X' e')
theorem own_initO (X : Stand p l e R s m args below meth c T locs cells slots) (hx : p.tables.exec = Jvm.exec) (hZ : Z.Warmed39 s.vm) {own : String} {idx W : Nat} (hown : s.vm.findClass own = some m.cls) (w1 : (Jvm.Cond.methodLink own idx Lib.objectInit).before a0 Z = true) (w2 : (Jvm.Cond.instanceMethod Lib.objectInit).before a0 Z = true) (w3 : (Jvm.Cond.code Lib.objectInit ⟨#[0xb1]⟩ 1 none).before a0 Z = true) (eT : T.heap = h) {a : Addr} (hsize : Ls.size = c.maxLocals) (hd : decode c.code pc = .ok (.invokespecial idx, 3)) (hf : 1 ≤ R.frames) (hW : (S.map fun v => v.category).sum ≤ W) (hl : W + 12 ≤ R.locals) (hF : ∀ (T' : State), Stand p l e R s m args below meth c T' locs cells slots → T'.heap = h → own_At p e below s Q rc rs T' m (pc + 3) Ls S) : own_At p e below s Q rc rs T m pc Ls (.ref a :: S) := by
  obtain ⟨T', X', e', st⟩ := initO X hx hZ hown w1 w2 w3 eT (g := mkF m pc Ls (.ref a :: S)) rfl hsize rfl hd hf (W := W) (by show 2 * 0 + _ ≤ _; omega) hl
  exact own_step (fun t k => st _ k) (hF T' X' e')
theorem own_newO (X : Stand p l e R s m args below meth c T locs cells slots) (hx : p.tables.exec = Jvm.exec) (hZ : Z.Warmed39 s.vm) {own C : String} {index n : Nat} (hown : s.vm.findClass own = some m.cls) (w : (Jvm.Cond.classLink own index C).before a0 Z = true) (wi : (Jvm.Cond.instantiable C n).before a0 Z = true) (wz : (Jvm.Cond.initialized C).before a0 Z = true) (eT : T.heap = h) (hd : decode c.code pc = .ok (.new index, 3)) (hc : cells + 1 ≤ R.cells) (hl : slots + n ≤ R.slots) (hF : ∀ (T' : State) (h' : Heap) (b : Addr), b = h.size → Stand p l e R s m args below meth c T' locs (cells + 1) (slots + n) → T'.heap = h' → Ext h h' → Exa Z h' b C → (∀ {O nm d : String} {ty : FieldType}, Laid Z a0 C O nm d → parseFieldDescriptor d = some ty → Fld Z h' b O nm d (defaultValue ty)) → own_At p e below s Q rc rs T' m (pc + 3) Ls (.ref b :: S)) : own_At p e below s Q rc rs T m pc Ls S := by
  obtain ⟨T', h', X', e', E', A', D', -, st⟩ := newO X hx hZ hown w wi wz eT (g := mkF m pc Ls S) rfl hd hc hl
  exact own_step (fun t k => st _ k) (hF T' h' _ rfl X' e' E' A' D')
theorem own_newP (X : Stand p l e R s m args below meth c T locs cells slots) (hx : p.tables.exec = Jvm.exec) (hZ : Z.Warmed39 s.vm) {aty : ArrayType} {n : Int32} {cap : Nat} {ad : String} (w : (Jvm.Cond.arrayClass (newarray.typeOf aty)).before a0 Z = true) (eT : T.heap = h) (hd : decode c.code pc = .ok (.newarray aty, 2)) (hn : ¬ n < 0) (hcap : n.toNatClampNeg ≤ cap) (hb : cap * 8 ≤ 536870912) (hc : cells + 1 ≤ R.cells) (hl : slots + cap ≤ R.slots) (had : "[" ++ (newarray.typeOf aty).toString = ad) (hF : ∀ (T' : State) (h' : Heap) (cA : ClassId) (b : Addr), b = h.size → Stand p l e R s m args below meth c T' locs (cells + 1) (slots + cap) → T'.heap = h' → Ext h h' → Arr Z h' b (newA cA (newarray.typeOf aty) n) (newarray.typeOf aty) → Exa Z h' b ad → own_At p e below s Q rc rs T' m (pc + 2) Ls (.ref b :: S)) : own_At p e below s Q rc rs T m pc Ls (.int n :: S) := by
  obtain ⟨T', h', cA, X', e', E', A', Ex', st⟩ := newPE X hx hZ w eT (g := mkF m pc Ls (.int n :: S)) rfl hd rfl hn hcap hb hc hl had
  exact own_step (fun t k => st _ k) (hF T' h' cA _ rfl X' e' E' A' Ex')
theorem own_newR (X : Stand p l e R s m args below meth c T locs cells slots) (hx : p.tables.exec = Jvm.exec) (hZ : Z.Warmed39 s.vm) {own C : String} {index cap : Nat} {n : Int32} {ad : String} (hown : s.vm.findClass own = some m.cls) (w1 : (Jvm.Cond.classLink own index C).before a0 Z = true) (w2 : (Jvm.Cond.arrayOver (.object C)).before a0 Z = true) (eT : T.heap = h) (hd : decode c.code pc = .ok (.anewarray index, 3)) (hn : ¬ n < 0) (hcap : n.toNatClampNeg ≤ cap) (hb : cap * 8 ≤ 536870912) (hc : cells + 1 ≤ R.cells) (hl : slots + cap ≤ R.slots) (had : "[" ++ (FieldType.object C).toString = ad) (hF : ∀ (T' : State) (h' : Heap) (cA : ClassId) (b : Addr), b = h.size → Stand p l e R s m args below meth c T' locs (cells + 1) (slots + cap) → T'.heap = h' → Ext h h' → Arr Z h' b (newA cA (.object C) n) (.object C) → Exa Z h' b ad → Ovr Z cA C → own_At p e below s Q rc rs T' m (pc + 3) Ls (.ref b :: S)) : own_At p e below s Q rc rs T m pc Ls (.int n :: S) := by
  obtain ⟨T', h', cA, X', e', E', A', Ex', O', st⟩ := newRE X hx hZ hown w1 w2 eT (g := mkF m pc Ls (.int n :: S)) rfl hd rfl hn hcap hb hc hl had
  exact own_step (fun t k => st _ k) (hF T' h' cA _ rfl X' e' E' A' Ex' O')
theorem own_stI (X : Stand p l e R s m args below meth c T locs cells slots) (hx : p.tables.exec = Jvm.exec) (hZ : Z.Warmed39 s.vm) {a : Addr} {k : ClassId} {z : Int32} {vs vs' : List Value} {dv w : Value} {j : Int32} {x : Int32} (eT : T.heap = h) (F : Arv Z h a k .int z vs dv) (hj : ¬ j < 0 ∧ j < z) (i : Nat) (hi : j.toNatClampNeg = i) (hl : i < vs.length) (hw : (.int x) = w) (hvs : vs.set i w = vs') (hd : decode c.code pc = .ok (.iastore, 1)) (hF : ∀ (T' : State) (h' : Heap), Stand p l e R s m args below meth c T' (locs ++ [⟨a, j.toNatClampNeg⟩]) cells slots → T'.heap = h' → Wr h h' a j.toNatClampNeg w → Arv Z h' a k .int z vs' dv → own_At p e below s Q rc rs T' m (pc + 1) Ls S) : own_At p e below s Q rc rs T m pc Ls ((.int x) :: .int j :: .ref a :: S) := by
  subst hw hvs
  obtain ⟨cl, Ar, q, Sz, Ng, H, G⟩ := F
  obtain ⟨T', h', X', e', W', st⟩ := stI X hx hZ eT Ar (j := j) (inb_of Sz hj) (g := mkF m pc Ls ((.int x) :: .int j :: .ref a :: S)) rfl rfl hd
  exact own_step (fun t k => st _ k) (hF T' h' X' e' W' (Arv.set Ar q Sz Ng H G rfl W' i hi hl))
theorem own_stJ (X : Stand p l e R s m args below meth c T locs cells slots) (hx : p.tables.exec = Jvm.exec) (hZ : Z.Warmed39 s.vm) {a : Addr} {k : ClassId} {z : Int32} {vs vs' : List Value} {dv w : Value} {j : Int32} {x : Int64} (eT : T.heap = h) (F : Arv Z h a k .long z vs dv) (hj : ¬ j < 0 ∧ j < z) (i : Nat) (hi : j.toNatClampNeg = i) (hl : i < vs.length) (hw : (.long x) = w) (hvs : vs.set i w = vs') (hd : decode c.code pc = .ok (.lastore, 1)) (hF : ∀ (T' : State) (h' : Heap), Stand p l e R s m args below meth c T' (locs ++ [⟨a, j.toNatClampNeg⟩]) cells slots → T'.heap = h' → Wr h h' a j.toNatClampNeg w → Arv Z h' a k .long z vs' dv → own_At p e below s Q rc rs T' m (pc + 1) Ls S) : own_At p e below s Q rc rs T m pc Ls ((.long x) :: .int j :: .ref a :: S) := by
  subst hw hvs
  obtain ⟨cl, Ar, q, Sz, Ng, H, G⟩ := F
  obtain ⟨T', h', X', e', W', st⟩ := stJ X hx hZ eT Ar (j := j) (inb_of Sz hj) (g := mkF m pc Ls ((.long x) :: .int j :: .ref a :: S)) rfl rfl hd
  exact own_step (fun t k => st _ k) (hF T' h' X' e' W' (Arv.set Ar q Sz Ng H G rfl W' i hi hl))
theorem own_stC (X : Stand p l e R s m args below meth c T locs cells slots) (hx : p.tables.exec = Jvm.exec) (hZ : Z.Warmed39 s.vm) {a : Addr} {k : ClassId} {z : Int32} {vs vs' : List Value} {dv w : Value} {j : Int32} {x : Int32} (eT : T.heap = h) (F : Arv Z h a k .char z vs dv) (hj : ¬ j < 0 ∧ j < z) (i : Nat) (hi : j.toNatClampNeg = i) (hl : i < vs.length) (hw : (.int (nar .char x)) = w) (hvs : vs.set i w = vs') (hd : decode c.code pc = .ok (.castore, 1)) (hF : ∀ (T' : State) (h' : Heap), Stand p l e R s m args below meth c T' (locs ++ [⟨a, j.toNatClampNeg⟩]) cells slots → T'.heap = h' → Wr h h' a j.toNatClampNeg w → Arv Z h' a k .char z vs' dv → own_At p e below s Q rc rs T' m (pc + 1) Ls S) : own_At p e below s Q rc rs T m pc Ls ((.int x) :: .int j :: .ref a :: S) := by
  subst hw hvs
  obtain ⟨cl, Ar, q, Sz, Ng, H, G⟩ := F
  obtain ⟨T', h', X', e', W', st⟩ := stC X hx hZ eT Ar (j := j) (inb_of Sz hj) (g := mkF m pc Ls ((.int x) :: .int j :: .ref a :: S)) rfl rfl hd
  exact own_step (fun t k => st _ k) (hF T' h' X' e' W' (Arv.set Ar q Sz Ng H G (fits_nar_char _) W' i hi hl))
theorem own_stB (X : Stand p l e R s m args below meth c T locs cells slots) (hx : p.tables.exec = Jvm.exec) (hZ : Z.Warmed39 s.vm) {a : Addr} {k : ClassId} {z : Int32} {vs vs' : List Value} {dv w : Value} {j : Int32} {x : Int32} (eT : T.heap = h) (F : Arv Z h a k .byte z vs dv) (hj : ¬ j < 0 ∧ j < z) (i : Nat) (hi : j.toNatClampNeg = i) (hl : i < vs.length) (hw : (.int x.toInt8.toInt32) = w) (hvs : vs.set i w = vs') (hd : decode c.code pc = .ok (.bastore, 1)) (hF : ∀ (T' : State) (h' : Heap), Stand p l e R s m args below meth c T' (locs ++ [⟨a, j.toNatClampNeg⟩]) cells slots → T'.heap = h' → Wr h h' a j.toNatClampNeg w → Arv Z h' a k .byte z vs' dv → own_At p e below s Q rc rs T' m (pc + 1) Ls S) : own_At p e below s Q rc rs T m pc Ls ((.int x) :: .int j :: .ref a :: S) := by
  subst hw hvs
  obtain ⟨cl, Ar, q, Sz, Ng, H, G⟩ := F
  obtain ⟨T', h', X', e', W', st⟩ := stB X hx hZ eT Ar (j := j) (inb_of Sz hj) (g := mkF m pc Ls ((.int x) :: .int j :: .ref a :: S)) rfl rfl hd
  exact own_step (fun t k => st _ k) (hF T' h' X' e' W' (Arv.set Ar q Sz Ng H G (fits_nar_byte _) W' i hi hl))
theorem own_stZ (X : Stand p l e R s m args below meth c T locs cells slots) (hx : p.tables.exec = Jvm.exec) (hZ : Z.Warmed39 s.vm) {a : Addr} {k : ClassId} {z : Int32} {vs vs' : List Value} {dv w : Value} {j : Int32} {x : Int32} (eT : T.heap = h) (F : Arv Z h a k .boolean z vs dv) (hj : ¬ j < 0 ∧ j < z) (i : Nat) (hi : j.toNatClampNeg = i) (hl : i < vs.length) (hw : (.int (nar .boolean x)) = w) (hvs : vs.set i w = vs') (hd : decode c.code pc = .ok (.bastore, 1)) (hF : ∀ (T' : State) (h' : Heap), Stand p l e R s m args below meth c T' (locs ++ [⟨a, j.toNatClampNeg⟩]) cells slots → T'.heap = h' → Wr h h' a j.toNatClampNeg w → Arv Z h' a k .boolean z vs' dv → own_At p e below s Q rc rs T' m (pc + 1) Ls S) : own_At p e below s Q rc rs T m pc Ls ((.int x) :: .int j :: .ref a :: S) := by
  subst hw hvs
  obtain ⟨cl, Ar, q, Sz, Ng, H, G⟩ := F
  obtain ⟨T', h', X', e', W', st⟩ := stZ X hx hZ eT Ar (j := j) (inb_of Sz hj) (g := mkF m pc Ls ((.int x) :: .int j :: .ref a :: S)) rfl rfl hd
  exact own_step (fun t k => st _ k) (hF T' h' X' e' W' (Arv.set Ar q Sz Ng H G (fits_nar_bool _) W' i hi hl))
theorem own_stR (X : Stand p l e R s m args below meth c T locs cells slots) (hx : p.tables.exec = Jvm.exec) (hZ : Z.Warmed39 s.vm) {a : Addr} {k : ClassId} {C : String} {z : Int32} {vs vs' : List Value} {dv v : Value} {j : Int32} (eT : T.heap = h) (F : Arv Z h a k (.object C) z vs dv) (hj : ¬ j < 0 ∧ j < z) (i : Nat) (hi : j.toNatClampNeg = i) (hl : i < vs.length) (hf : fits (.object C) v = true) (hs : v = .null ∨ ∃ (y : Addr), v = .ref y ∧ Ovr Z k C ∧ Ins Z h y C true) (hvs : vs.set i v = vs') (hd : decode c.code pc = .ok (.aastore, 1)) (hF : ∀ (T' : State) (h' : Heap), Stand p l e R s m args below meth c T' (locs ++ [⟨a, j.toNatClampNeg⟩]) cells slots → T'.heap = h' → Wr h h' a j.toNatClampNeg v → Arv Z h' a k (.object C) z vs' dv → own_At p e below s Q rc rs T' m (pc + 1) Ls S) : own_At p e below s Q rc rs T m pc Ls (v :: .int j :: .ref a :: S) := by
  subst hvs
  obtain ⟨cl, Ar, q, Sz, Ng, H, G⟩ := F
  have F' : Sto Z h a v := by
    rcases hs with rfl | ⟨y, rfl, O, I⟩
    · exact Or.inl rfl
    · exact Sto.ofV Ar q O I
  obtain ⟨T', h', X', e', W', st⟩ := stR X hx hZ eT Ar (j := j) (inb_of Sz hj) rfl F' (g := mkF m pc Ls (v :: .int j :: .ref a :: S)) rfl rfl hd
  exact own_step (fun t k => st _ k) (hF T' h' X' e' W' (Arv.set Ar q Sz Ng H G hf W' i hi hl))
theorem own_iaload (X : Stand p l e R s m args below meth c T locs cells slots) (hx : p.tables.exec = Jvm.exec) (hZ : Z.Warmed39 s.vm) {a : Addr} {k : ClassId} {z : Int32} {vs : List Value} {dv : Value} {j : Int32} (v : Value) (eT : T.heap = h) (F : Arv Z h a k .int z vs dv) (hj : ¬ j < 0 ∧ j < z) (hv : vs.getD j.toNatClampNeg dv = v) (hd : decode c.code pc = .ok (.iaload, 1)) (hF : own_At p e below s Q rc rs T m (pc + 1) Ls (v :: S)) : own_At p e below s Q rc rs T m pc Ls (.int j :: .ref a :: S) := by
  obtain ⟨cl, Ar, q, Sz, Ng, H, G⟩ := F
  exact own_step (fun _ k => X.iaload hx (j := j) (v := v) (by rw [eT]; exact Ar.1) (State.isArrayOf_alike hZ.alike Ar.2.1) Ar.2.2 (inb_of Sz hj) (Has.at H (inb_of Sz hj) hv) (g := mkF m pc Ls (.int j :: .ref a :: S)) rfl rfl hd _ k) hF
theorem own_caload (X : Stand p l e R s m args below meth c T locs cells slots) (hx : p.tables.exec = Jvm.exec) (hZ : Z.Warmed39 s.vm) {a : Addr} {k : ClassId} {z : Int32} {vs : List Value} {dv : Value} {j : Int32} (v : Value) (eT : T.heap = h) (F : Arv Z h a k .char z vs dv) (hj : ¬ j < 0 ∧ j < z) (hv : vs.getD j.toNatClampNeg dv = v) (hd : decode c.code pc = .ok (.caload, 1)) (hF : own_At p e below s Q rc rs T m (pc + 1) Ls (v :: S)) : own_At p e below s Q rc rs T m pc Ls (.int j :: .ref a :: S) := by
  obtain ⟨cl, Ar, q, Sz, Ng, H, G⟩ := F
  exact own_step (fun _ k => X.caload hx (j := j) (v := v) (by rw [eT]; exact Ar.1) (State.isArrayOf_alike hZ.alike Ar.2.1) Ar.2.2 (inb_of Sz hj) (Has.at H (inb_of Sz hj) hv) (g := mkF m pc Ls (.int j :: .ref a :: S)) rfl rfl hd _ k) hF
theorem own_laload (X : Stand p l e R s m args below meth c T locs cells slots) (hx : p.tables.exec = Jvm.exec) (hZ : Z.Warmed39 s.vm) {a : Addr} {k : ClassId} {z : Int32} {vs : List Value} {dv : Value} {j : Int32} (v : Value) (eT : T.heap = h) (F : Arv Z h a k .long z vs dv) (hj : ¬ j < 0 ∧ j < z) (hv : vs.getD j.toNatClampNeg dv = v) (hd : decode c.code pc = .ok (.laload, 1)) (hF : own_At p e below s Q rc rs T m (pc + 1) Ls (v :: S)) : own_At p e below s Q rc rs T m pc Ls (.int j :: .ref a :: S) := by
  obtain ⟨cl, Ar, q, Sz, Ng, H, G⟩ := F
  exact own_step (fun _ k => X.laload hx (j := j) (v := v) (by rw [eT]; exact Ar.1) (State.isArrayOf_alike hZ.alike Ar.2.1) Ar.2.2 (inb_of Sz hj) (Has.at H (inb_of Sz hj) hv) (g := mkF m pc Ls (.int j :: .ref a :: S)) rfl rfl hd _ k) hF
theorem own_baload (X : Stand p l e R s m args below meth c T locs cells slots) (hx : p.tables.exec = Jvm.exec) (hZ : Z.Warmed39 s.vm) {a : Addr} {k : ClassId} {z : Int32} {vs : List Value} {dv : Value} {j : Int32} (v : Value) (eT : T.heap = h) (F : Arv Z h a k .byte z vs dv) (hj : ¬ j < 0 ∧ j < z) (hv : vs.getD j.toNatClampNeg dv = v) (hd : decode c.code pc = .ok (.baload, 1)) (hF : own_At p e below s Q rc rs T m (pc + 1) Ls (v :: S)) : own_At p e below s Q rc rs T m pc Ls (.int j :: .ref a :: S) := by
  obtain ⟨cl, Ar, q, Sz, Ng, H, G⟩ := F
  exact own_step (fun _ k => X.baloadBytes hx (j := j) (v := v) (by rw [eT]; exact Ar.1) (State.isArrayOf_alike hZ.alike Ar.2.1) Ar.2.2 (inb_of Sz hj) (Has.at H (inb_of Sz hj) hv) (g := mkF m pc Ls (.int j :: .ref a :: S)) rfl rfl hd _ k) hF
theorem own_zaload (X : Stand p l e R s m args below meth c T locs cells slots) (hx : p.tables.exec = Jvm.exec) (hZ : Z.Warmed39 s.vm) {a : Addr} {k : ClassId} {z : Int32} {vs : List Value} {dv : Value} {j : Int32} (v : Value) (eT : T.heap = h) (F : Arv Z h a k .boolean z vs dv) (hj : ¬ j < 0 ∧ j < z) (hv : vs.getD j.toNatClampNeg dv = v) (hd : decode c.code pc = .ok (.baload, 1)) (hF : own_At p e below s Q rc rs T m (pc + 1) Ls (v :: S)) : own_At p e below s Q rc rs T m pc Ls (.int j :: .ref a :: S) := by
  obtain ⟨cl, Ar, q, Sz, Ng, H, G⟩ := F
  exact own_step (fun _ k => X.baloadBooleans hx (j := j) (v := v) (by rw [eT]; exact Ar.1) (State.isArrayOf_alike hZ.alike Ar.2.1) Ar.2.2 (inb_of Sz hj) (Has.at H (inb_of Sz hj) hv) (g := mkF m pc Ls (.int j :: .ref a :: S)) rfl rfl hd _ k) hF
theorem own_aaload (X : Stand p l e R s m args below meth c T locs cells slots) (hx : p.tables.exec = Jvm.exec) (hZ : Z.Warmed39 s.vm) {a : Addr} {k : ClassId} {ty : FieldType} {z : Int32} {vs : List Value} {dv : Value} {j : Int32} (v : Value) (eT : T.heap = h) (F : Arv Z h a k ty z vs dv) (hty : ty.isReference = true) (hj : ¬ j < 0 ∧ j < z) (hv : vs.getD j.toNatClampNeg dv = v) (hd : decode c.code pc = .ok (.aaload, 1)) (hF : own_At p e below s Q rc rs T m (pc + 1) Ls (v :: S)) : own_At p e below s Q rc rs T m pc Ls (.int j :: .ref a :: S) := by
  obtain ⟨cl, Ar, q, Sz, Ng, H, G⟩ := F
  exact own_step (fun _ k => X.aaload hx (j := j) (v := v) (by rw [eT]; exact Ar.1) (State.isArrayOf_alike hZ.alike Ar.2.1) hty Ar.2.2 (inb_of Sz hj) (Has.at H (inb_of Sz hj) hv) (g := mkF m pc Ls (.int j :: .ref a :: S)) rfl rfl hd _ k) hF
theorem own_arraylength (X : Stand p l e R s m args below meth c T locs cells slots) (hx : p.tables.exec = Jvm.exec) (hZ : Z.Warmed39 s.vm) {a : Addr} {ty : FieldType} {z : Int32} (eT : T.heap = h) (F : own_Aln Z h a ty z) (hd : decode c.code pc = .ok (.arraylength, 1)) (hF : own_At p e below s Q rc rs T m (pc + 1) Ls (.int z :: S)) : own_At p e below s Q rc rs T m pc Ls (.ref a :: S) := by
  obtain ⟨cl, Ar, Sz, Ng⟩ := F
  exact own_step (fun _ k => X.arraylength hx (by rw [eT]; exact Ar.1) (State.isArrayOf_alike hZ.alike Ar.2.1) (g := mkF m pc Ls (.ref a :: S)) rfl rfl hd _ (by rw [len_of Sz Ng]; exact k)) hF
theorem own_alnV {a : Addr} {k : ClassId} {ty : FieldType} {z : Int32} {vs : List Value} {dv : Value} (F : Arv Z h a k ty z vs dv) : own_Aln Z h a ty z := by
  obtain ⟨cl, Ar, q, Sz, Ng, H, G⟩ := F
  exact ⟨cl, Ar, Sz, Ng⟩
theorem own_ldcI (X : Stand p l e R s m args below meth c T locs cells slots) (hx : p.tables.exec = Jvm.exec) {own : String} {index : Nat} {v : Int32} (hZ : Z.Warmed39 s.vm) (hown : s.vm.findClass own = some m.cls) (w : (Jvm.Cond.constant own index v).before a0 Z = true) (hd : decode c.code pc = .ok (.ldc index, 2)) (hF : own_At p e below s Q rc rs T m (pc + 2) Ls (.int v :: S)) : own_At p e below s Q rc rs T m pc Ls S := own_step (fun _ k => X.ldcInt hx hown (mvT hZ w) (g := mkF m pc Ls S) rfl hd _ k) hF
theorem own_ldcL (X : Stand p l e R s m args below meth c T locs cells slots) (hx : p.tables.exec = Jvm.exec) {own : String} {index : Nat} {v : Int64} (hZ : Z.Warmed39 s.vm) (hown : s.vm.findClass own = some m.cls) (w : (Jvm.Cond.constantLong own index v).before a0 Z = true) (hd : decode c.code pc = .ok (.ldc2_w index, 3)) (hF : own_At p e below s Q rc rs T m (pc + 3) Ls (.long v :: S)) : own_At p e below s Q rc rs T m pc Ls S := own_step (fun _ k => X.ldc2Long hx hown (mvT hZ w) (g := mkF m pc Ls S) rfl hd _ k) hF
theorem own_cVirt (X : Stand p l e R s m args below meth c T locs cells slots) (hx : p.tables.exec = Jvm.exec) (hZ : Z.Warmed39 s.vm) {y z : MethodName} {bytes : ByteArray} {maxL W : Nat} {ret : Option FieldType} {rm : Room} {Q' : Option Value → Heap → List Loc → Prop} {own C : String} {index : Nat} {b : Addr} {rest : List Value} (argsL : List Value) (hown : s.vm.findClass own = some m.cls) (w1 : (Jvm.Cond.methodLink own index y).before a0 Z = true) (w2 : (Jvm.Cond.declares y).before a0 Z = true) (nf : NotFace s y) (w3 : (Jvm.Cond.selects C y z).before a0 Z = true) (w4 : (Jvm.Cond.instanceMethod z).before a0 Z = true) (hy : y.cls ≠ "java/lang/invoke/MethodHandle" ∧ y.cls ≠ "java/lang/invoke/VarHandle") (wc : (Jvm.Cond.code z bytes maxL ret).before a0 Z = true) (wz : (Jvm.Cond.initialized z.cls).before a0 Z = true) (eT : T.heap = h) (E : Exa Z h b C) (hM : own_Met l z bytes maxL ret [] rm Z (.ref b :: argsL).toArray h Q') (hsize : Ls.size = c.maxLocals) (hlen : ∀ sig, parseMethodDescriptor y.desc = some sig → argsL.length = sig.parameters.length) (hstack : S = argsL.reverse ++ .ref b :: rest) (hW : (rest.map fun v => v.category).sum ≤ W) (hd : decode c.code pc = .ok (.invokevirtual index, 3)) (hf : rm.frames + 1 ≤ R.frames) (hl : W + (maxL + 11) + rm.locals ≤ R.locals) (hc : cells + rm.cells ≤ R.cells) (hs : slots + rm.slots ≤ R.slots) (hF : ∀ (v : Option Value) (T' : State) (L : List Loc), Stand p l e R s m args below meth c T' (locs ++ L) (cells + rm.cells) (slots + rm.slots) → Q' v T'.heap L → own_At p e below s Q rc rs T' m (pc + 3) Ls (v.toList ++ rest)) : own_At p e below s Q rc rs T m pc Ls S := by
  subst hstack
  obtain ⟨v, T', L, X', hQ, st⟩ := own_virt X hx hZ hown w1 w2 nf w3 w4 hy wc wz eT E hM (g := mkF m pc Ls (argsL.reverse ++ .ref b :: rest)) rfl hsize hlen rfl (W := W) (by show 2 * 0 + _ ≤ _; omega) hd hf hl hc hs
  exact own_step (fun t k => st _ k) (hF v T' L X' hQ)
theorem own_cVirtUp (X : Stand p l e R s m args below meth c T locs cells slots) (hx : p.tables.exec = Jvm.exec) (hZ : Z.Warmed39 s.vm) {y z : MethodName} {bytes : ByteArray} {maxL W : Nat} {ret : Option FieldType} {rm : Room} {Q' : Option Value → Heap → List Loc → Prop} {own C : String} {index : Nat} {b : Addr} {rest : List Value} (argsL : List Value) (hown : s.vm.findClass own = some m.cls) (w1 : (Jvm.Cond.methodLink own index y).before a0 Z = true) {owner : String} (ws : (Jvm.Cond.sameMethod y.cls owner y.name y.desc).before a0 Z = true) (w2 : (Jvm.Cond.declares ⟨owner, y.name, y.desc⟩).before a0 Z = true) (ho : owner ≠ "java/lang/invoke/MethodHandle" ∧ owner ≠ "java/lang/invoke/VarHandle") (w3 : (Jvm.Cond.selects C y z).before a0 Z = true) (w4 : (Jvm.Cond.instanceMethod z).before a0 Z = true) (wc : (Jvm.Cond.code z bytes maxL ret).before a0 Z = true) (wz : (Jvm.Cond.initialized z.cls).before a0 Z = true) (eT : T.heap = h) (E : Exa Z h b C) (hM : own_Met l z bytes maxL ret [] rm Z (.ref b :: argsL).toArray h Q') (hsize : Ls.size = c.maxLocals) (hlen : ∀ sig, parseMethodDescriptor y.desc = some sig → argsL.length = sig.parameters.length) (hstack : S = argsL.reverse ++ .ref b :: rest) (hW : (rest.map fun v => v.category).sum ≤ W) (hd : decode c.code pc = .ok (.invokevirtual index, 3)) (hf : rm.frames + 1 ≤ R.frames) (hl : W + (maxL + 11) + rm.locals ≤ R.locals) (hc : cells + rm.cells ≤ R.cells) (hs : slots + rm.slots ≤ R.slots) (hF : ∀ (v : Option Value) (T' : State) (L : List Loc), Stand p l e R s m args below meth c T' (locs ++ L) (cells + rm.cells) (slots + rm.slots) → Q' v T'.heap L → own_At p e below s Q rc rs T' m (pc + 3) Ls (v.toList ++ rest)) : own_At p e below s Q rc rs T m pc Ls S := by
  subst hstack
  obtain ⟨v, T', L, X', hQ, st⟩ := own_virtUp X hx hZ hown w1 ws w2 ho w3 w4 wc wz eT E hM (g := mkF m pc Ls (argsL.reverse ++ .ref b :: rest)) rfl hsize hlen rfl (W := W) (by show 2 * 0 + _ ≤ _; omega) hd hf hl hc hs
  exact own_step (fun t k => st _ k) (hF v T' L X' hQ)
theorem own_cStat (X : Stand p l e R s m args below meth c T locs cells slots) (hx : p.tables.exec = Jvm.exec) (hZ : Z.Warmed39 s.vm) {y : MethodName} {bytes : ByteArray} {maxL W : Nat} {ret : Option FieldType} {rm : Room} {Q' : Option Value → Heap → List Loc → Prop} {own : String} {index : Nat} {rest : List Value} (argsL : List Value) (hown : s.vm.findClass own = some m.cls) (w1 : (Jvm.Cond.methodLink own index y).before a0 Z = true) (w2 : (Jvm.Cond.static y).before a0 Z = true) (hy : y.cls ≠ "java/lang/invoke/MethodHandle" ∧ y.cls ≠ "java/lang/invoke/VarHandle") (wc : (Jvm.Cond.code y bytes maxL ret).before a0 Z = true) (wz : (Jvm.Cond.initialized y.cls).before a0 Z = true) (eT : T.heap = h) (hM : own_Met l y bytes maxL ret [] rm Z argsL.toArray h Q') (hsize : Ls.size = c.maxLocals) (hlen : ∀ sig, parseMethodDescriptor y.desc = some sig → argsL.length = sig.parameters.length) (hstack : S = argsL.reverse ++ rest) (hW : (rest.map fun v => v.category).sum ≤ W) (hd : decode c.code pc = .ok (.invokestatic index, 3)) (hf : rm.frames + 1 ≤ R.frames) (hl : W + (maxL + 11) + rm.locals ≤ R.locals) (hc : cells + rm.cells ≤ R.cells) (hs : slots + rm.slots ≤ R.slots) (hF : ∀ (v : Option Value) (T' : State) (L : List Loc), Stand p l e R s m args below meth c T' (locs ++ L) (cells + rm.cells) (slots + rm.slots) → Q' v T'.heap L → own_At p e below s Q rc rs T' m (pc + 3) Ls (v.toList ++ rest)) : own_At p e below s Q rc rs T m pc Ls S := by
  subst hstack
  obtain ⟨v, T', L, X', hQ, st⟩ := own_stat X hx hZ hown w1 w2 hy wc wz eT hM (g := mkF m pc Ls (argsL.reverse ++ rest)) rfl hsize hlen rfl (W := W) (by show 2 * 0 + _ ≤ _; omega) hd hf hl hc hs
  exact own_step (fun t k => st _ k) (hF v T' L X' hQ)
section Spec
variable {ret' : Unit}
theorem own_cSpec (X : Stand p l e R s m args below meth c T locs cells slots) (hx : p.tables.exec = Jvm.exec) (hZ : Z.Warmed39 s.vm) {y : MethodName} {bytes : ByteArray} {maxL W : Nat} {rm : Room} {Q' : Option Value → Heap → List Loc → Prop} {own : String} {index : Nat} {b : Addr} {rest : List Value} (argsL : List Value) (hy1 : y.name = "<init>") (hown : s.vm.findClass own = some m.cls) (w1 : (Jvm.Cond.methodLink own index y).before a0 Z = true) (w2 : (Jvm.Cond.instanceMethod y).before a0 Z = true) (hy : y.cls ≠ "java/lang/invoke/MethodHandle" ∧ y.cls ≠ "java/lang/invoke/VarHandle") (wc : (Jvm.Cond.code y bytes maxL none).before a0 Z = true) (wz : (Jvm.Cond.initialized y.cls).before a0 Z = true) (eT : T.heap = h) (hM : own_Met l y bytes maxL none [] rm Z (.ref b :: argsL).toArray h Q') (hsize : Ls.size = c.maxLocals) (hlen : ∀ sig, parseMethodDescriptor y.desc = some sig → argsL.length = sig.parameters.length) (hstack : S = argsL.reverse ++ .ref b :: rest) (hW : (rest.map fun v => v.category).sum ≤ W) (hd : decode c.code pc = .ok (.invokespecial index, 3)) (hf : rm.frames + 1 ≤ R.frames) (hl : W + (maxL + 11) + rm.locals ≤ R.locals) (hc : cells + rm.cells ≤ R.cells) (hs : slots + rm.slots ≤ R.slots) (hF : ∀ (v : Option Value) (T' : State) (L : List Loc), Stand p l e R s m args below meth c T' (locs ++ L) (cells + rm.cells) (slots + rm.slots) → Q' v T'.heap L → own_At p e below s Q rc rs T' m (pc + 3) Ls (v.toList ++ rest)) : own_At p e below s Q rc rs T m pc Ls S := by
  subst hstack
  obtain ⟨v, T', L, X', hQ, st⟩ := own_spec X hx hZ hy1 hown w1 w2 hy wc wz eT hM (g := mkF m pc Ls (argsL.reverse ++ .ref b :: rest)) rfl hsize hlen rfl (W := W) (by show 2 * 0 + _ ≤ _; omega) hd hf hl hc hs
  exact own_step (fun t k => st _ k) (hF v T' L X' hQ)
end Spec
end OwnSteps
section OwnPriv
variable {p : Program} {l : Launch} {e : Env} {R : Room} {s : State} {m : MethodId} {args : Array Value} {below : List Frame} {meth : Method} {c : Code} {T : State} {locs : List Loc} {cells slots : Nat} {Z : State} {a0 : Array Value} {h : Heap}
variable {y : MethodName} {bytes : ByteArray} {maxL W n : Nat} {ret : Option FieldType} {rm : Room} {Q : Option Value → Heap → List Loc → Prop} {own C : String} {index : Nat} {b : Addr} {argsL rest : List Value} {g : JFrame}
theorem own_priv (X : Stand p l e R s m args below meth c T locs cells slots) (hx : p.tables.exec = Jvm.exec) (hZ : Z.Warmed39 s.vm) (hown : s.vm.findClass own = some m.cls) (w1 : (Jvm.Cond.methodLink own index y).before a0 Z = true) (w2 : (Jvm.Cond.instanceMethod y).before a0 Z = true) (w3 : (Jvm.Cond.privateMethod y).before a0 Z = true) (wi : (Jvm.Cond.instantiable y.cls n).before a0 Z = true) (hy : y.cls ≠ "java/lang/invoke/MethodHandle" ∧ y.cls ≠ "java/lang/invoke/VarHandle")
    (wc : (Jvm.Cond.code y bytes maxL ret).before a0 Z = true) (wz : (Jvm.Cond.initialized y.cls).before a0 Z = true) (eT : T.heap = h) (E : Exa Z h b C) (hM : own_Met l y bytes maxL ret [] rm Z (.ref b :: argsL).toArray h Q) (hg : g.method = m) (hsize : g.locals.size = c.maxLocals) (hlen : ∀ sig, parseMethodDescriptor y.desc = some sig → argsL.length = sig.parameters.length)
    (hstack : g.stack = argsL.reverse ++ .ref b :: rest) (hW : 2 * g.monitorRoom + (rest.map fun v => v.category).sum ≤ W) (hd : decode c.code g.pc = .ok (.invokevirtual index, 3)) (hf : rm.frames + 1 ≤ R.frames) (hl : W + (maxL + 11) + rm.locals ≤ R.locals) (hc : cells + rm.cells ≤ R.cells) (hs : slots + rm.slots ≤ R.slots) :
    ∃ (v : Option Value) (T' : State) (L : List Loc), Stand p l e R s m args below meth c T' (locs ++ L) (cells + rm.cells) (slots + rm.slots) ∧ Q v T'.heap L ∧ ∀ t, Steps p.tables e below (T'.setTop { g with pc := g.pc + 3, stack := v.toList ++ rest }) t → Steps p.tables e below (T.setTop g) t := by
  obtain ⟨cq, q1, q2⟩ := E.cell
  obtain ⟨v, vm1, ⟨T', L', k', n'⟩, -, X', ⟨L, hQ, hl', hk', hn'⟩, st⟩ := X.privateBack hx (y := y) hown (mvT hZ w1) (mvT hZ w2) (Jvm.Kit.selects_private hy (mvT hZ wi) (mvP hZ w3) (mvT hZ w2)) (Cond.privateMethod_at (mvP hZ w3 (args := #[]))) (mvT hZ wc) hy (backOf (W := W) hM hZ wc wz hf hl) hg hsize (Steps.refl _) (by rw [eT]; exact q1) q2 hlen hstack hW hd (fun _ _ => ⟨rfl, eT, hc, hs⟩)
  dsimp only [Pt.U, Pt.locs, Pt.cells, Pt.slots] at X' hl' hk' hn' st hQ
  subst hl' hk' hn'
  exact ⟨v, T', L, X', hQ, fun t k => st.trans k⟩
theorem own_cPriv {Q' : Option Value → Heap → List Loc → Prop} {rc rs pc : Nat} {Ls : Array Slot} {S : List Value} (X : Stand p l e R s m args below meth c T locs cells slots) (hx : p.tables.exec = Jvm.exec) (hZ : Z.Warmed39 s.vm) (argsL : List Value) (hown : s.vm.findClass own = some m.cls) (w1 : (Jvm.Cond.methodLink own index y).before a0 Z = true) (w2 : (Jvm.Cond.instanceMethod y).before a0 Z = true) (w3 : (Jvm.Cond.privateMethod y).before a0 Z = true) (wi : (Jvm.Cond.instantiable y.cls n).before a0 Z = true) (hy : y.cls ≠ "java/lang/invoke/MethodHandle" ∧ y.cls ≠ "java/lang/invoke/VarHandle")
    (wc : (Jvm.Cond.code y bytes maxL ret).before a0 Z = true) (wz : (Jvm.Cond.initialized y.cls).before a0 Z = true) (eT : T.heap = h) (E : Exa Z h b C) (hM : own_Met l y bytes maxL ret [] rm Z (.ref b :: argsL).toArray h Q') (hsize : Ls.size = c.maxLocals) (hlen : ∀ sig, parseMethodDescriptor y.desc = some sig → argsL.length = sig.parameters.length) (hstack : S = argsL.reverse ++ .ref b :: rest) (hW : (rest.map fun v => v.category).sum ≤ W) (hd : decode c.code pc = .ok (.invokevirtual index, 3)) (hf : rm.frames + 1 ≤ R.frames) (hl : W + (maxL + 11) + rm.locals ≤ R.locals) (hc : cells + rm.cells ≤ R.cells) (hs : slots + rm.slots ≤ R.slots)
    (hF : ∀ (v : Option Value) (T' : State) (L : List Loc), Stand p l e R s m args below meth c T' (locs ++ L) (cells + rm.cells) (slots + rm.slots) → Q' v T'.heap L → own_At p e below s Q rc rs T' m (pc + 3) Ls (v.toList ++ rest)) : own_At p e below s Q rc rs T m pc Ls S := by
  subst hstack
  obtain ⟨v, T', L, X', hQ, st⟩ := own_priv X hx hZ hown w1 w2 w3 wi hy wc wz eT E hM (g := mkF m pc Ls (argsL.reverse ++ .ref b :: rest)) rfl hsize hlen rfl (W := W) (by show 2 * 0 + _ ≤ _; omega) hd hf hl hc hs
  exact own_step (fun t k => st _ k) (hF v T' L X' hQ)
end OwnPriv
theorem own_negLt {a b : Int64} (ha : ¬ a = (-9223372036854775808 : Int64)) (hb : ¬ b = (-9223372036854775808 : Int64)) (q : a < b) : (-b) < (-a) := by
  have e1 := c_lneg a
  have e2 := c_lneg b
  have r1 := rng64 a
  have r2 := rng64 b
  have r3 := rng64 (-a)
  have r4 := rng64 (-b)
  have k : (-9223372036854775808 : Int64).toInt = -9223372036854775808 := by decide
  simp only [← Int64.toInt_inj, k] at ha hb
  simp only [Int64.lt_iff_toInt_lt] at *
  omega
theorem own_trans {a b d : Int64} (q : a < b) (r : b < d) : a < d := by
  simp only [Int64.lt_iff_toInt_lt] at *
  omega
def own_bet (z : Int32) (x p : Int64) : Int32 := if z = (0 : Int32) then (if x < p then 1 else 0) else (if p < x then 1 else 0)
theorem own_sto {Z : State} {h : Heap} {a y : Addr} {k : ClassId} {C : String} {n : Int32} {vs : List Value} {d : Value} (F : Arv Z h a k (.object C) n vs d) (O : Ovr Z k C) (E : Exa Z h y C) : Sto Z h a (.ref y) := by
  obtain ⟨cl, A, q, -⟩ := F
  exact Sto.ofV A q O (Ins.self E)
def own_Lad0 (Z : State) (h : Heap) (o ra la sd : Addr) (kr kl : ClassId) : Prop := Exa Z h o "com/example/kurslot/kurslot/engine/PriceLadder" ∧ Fld Z h o "com/example/kurslot/kurslot/engine/PriceLadder" "ranks" "[J" (.ref ra) ∧ Fld Z h o "com/example/kurslot/kurslot/engine/PriceLadder" "levels" "[Lcom/example/kurslot/kurslot/engine/PriceLevel;" (.ref la) ∧ Fld Z h o "com/example/kurslot/kurslot/engine/PriceLadder" "size" "I" (.int (0 : Int32)) ∧ Fld Z h o "com/example/kurslot/kurslot/engine/PriceLadder" "side" "Lcom/example/kurslot/kurslot/engine/Side;" (.ref sd) ∧ Exa Z h ra "[J" ∧ Exa Z h la "[Lcom/example/kurslot/kurslot/engine/PriceLevel;" ∧ Arv Z h ra kr .long (16 : Int32) [(.long (0 : Int64)), (.long (0 : Int64)), (.long (0 : Int64)), (.long (0 : Int64)), (.long (0 : Int64)), (.long (0 : Int64)), (.long (0 : Int64)), (.long (0 : Int64)), (.long (0 : Int64)), (.long (0 : Int64)), (.long (0 : Int64)), (.long (0 : Int64)), (.long (0 : Int64)), (.long (0 : Int64)), (.long (0 : Int64)), (.long (0 : Int64))] (.long (0 : Int64)) ∧ Arv Z h la kl (.object "com/example/kurslot/kurslot/engine/PriceLevel") (16 : Int32) [.null, .null, .null, .null, .null, .null, .null, .null, .null, .null, .null, .null, .null, .null, .null, .null] .null ∧ Ovr Z kl "com/example/kurslot/kurslot/engine/PriceLevel"
def own_Lad1 (Z : State) (h : Heap) (o ra la sd : Addr) (kr kl : ClassId) (r0 : Int64) (l0 : Addr) : Prop := Exa Z h o "com/example/kurslot/kurslot/engine/PriceLadder" ∧ Fld Z h o "com/example/kurslot/kurslot/engine/PriceLadder" "ranks" "[J" (.ref ra) ∧ Fld Z h o "com/example/kurslot/kurslot/engine/PriceLadder" "levels" "[Lcom/example/kurslot/kurslot/engine/PriceLevel;" (.ref la) ∧ Fld Z h o "com/example/kurslot/kurslot/engine/PriceLadder" "size" "I" (.int (1 : Int32)) ∧ Fld Z h o "com/example/kurslot/kurslot/engine/PriceLadder" "side" "Lcom/example/kurslot/kurslot/engine/Side;" (.ref sd) ∧ Exa Z h ra "[J" ∧ Exa Z h la "[Lcom/example/kurslot/kurslot/engine/PriceLevel;" ∧ Arv Z h ra kr .long (16 : Int32) [(.long r0), (.long (0 : Int64)), (.long (0 : Int64)), (.long (0 : Int64)), (.long (0 : Int64)), (.long (0 : Int64)), (.long (0 : Int64)), (.long (0 : Int64)), (.long (0 : Int64)), (.long (0 : Int64)), (.long (0 : Int64)), (.long (0 : Int64)), (.long (0 : Int64)), (.long (0 : Int64)), (.long (0 : Int64)), (.long (0 : Int64))] (.long (0 : Int64)) ∧ Arv Z h la kl (.object "com/example/kurslot/kurslot/engine/PriceLevel") (16 : Int32) [(.ref l0), .null, .null, .null, .null, .null, .null, .null, .null, .null, .null, .null, .null, .null, .null, .null] .null ∧ Ovr Z kl "com/example/kurslot/kurslot/engine/PriceLevel" ∧ Exa Z h l0 "com/example/kurslot/kurslot/engine/PriceLevel"
def own_Lad2 (Z : State) (h : Heap) (o ra la sd : Addr) (kr kl : ClassId) (r0 r1 : Int64) (l0 l1 : Addr) : Prop := Exa Z h o "com/example/kurslot/kurslot/engine/PriceLadder" ∧ Fld Z h o "com/example/kurslot/kurslot/engine/PriceLadder" "ranks" "[J" (.ref ra) ∧ Fld Z h o "com/example/kurslot/kurslot/engine/PriceLadder" "levels" "[Lcom/example/kurslot/kurslot/engine/PriceLevel;" (.ref la) ∧ Fld Z h o "com/example/kurslot/kurslot/engine/PriceLadder" "size" "I" (.int (2 : Int32)) ∧ Fld Z h o "com/example/kurslot/kurslot/engine/PriceLadder" "side" "Lcom/example/kurslot/kurslot/engine/Side;" (.ref sd) ∧ Exa Z h ra "[J" ∧ Exa Z h la "[Lcom/example/kurslot/kurslot/engine/PriceLevel;" ∧ Arv Z h ra kr .long (16 : Int32) [(.long r0), (.long r1), (.long (0 : Int64)), (.long (0 : Int64)), (.long (0 : Int64)), (.long (0 : Int64)), (.long (0 : Int64)), (.long (0 : Int64)), (.long (0 : Int64)), (.long (0 : Int64)), (.long (0 : Int64)), (.long (0 : Int64)), (.long (0 : Int64)), (.long (0 : Int64)), (.long (0 : Int64)), (.long (0 : Int64))] (.long (0 : Int64)) ∧ Arv Z h la kl (.object "com/example/kurslot/kurslot/engine/PriceLevel") (16 : Int32) [(.ref l0), (.ref l1), .null, .null, .null, .null, .null, .null, .null, .null, .null, .null, .null, .null, .null, .null] .null ∧ Ovr Z kl "com/example/kurslot/kurslot/engine/PriceLevel" ∧ Exa Z h l0 "com/example/kurslot/kurslot/engine/PriceLevel" ∧ Exa Z h l1 "com/example/kurslot/kurslot/engine/PriceLevel"
def own_Lad3 (Z : State) (h : Heap) (o ra la sd : Addr) (kr kl : ClassId) (r0 r1 r2 : Int64) (l0 l1 l2 : Addr) : Prop := Exa Z h o "com/example/kurslot/kurslot/engine/PriceLadder" ∧ Fld Z h o "com/example/kurslot/kurslot/engine/PriceLadder" "ranks" "[J" (.ref ra) ∧ Fld Z h o "com/example/kurslot/kurslot/engine/PriceLadder" "levels" "[Lcom/example/kurslot/kurslot/engine/PriceLevel;" (.ref la) ∧ Fld Z h o "com/example/kurslot/kurslot/engine/PriceLadder" "size" "I" (.int (3 : Int32)) ∧ Fld Z h o "com/example/kurslot/kurslot/engine/PriceLadder" "side" "Lcom/example/kurslot/kurslot/engine/Side;" (.ref sd) ∧ Exa Z h ra "[J" ∧ Exa Z h la "[Lcom/example/kurslot/kurslot/engine/PriceLevel;" ∧ Arv Z h ra kr .long (16 : Int32) [(.long r0), (.long r1), (.long r2), (.long (0 : Int64)), (.long (0 : Int64)), (.long (0 : Int64)), (.long (0 : Int64)), (.long (0 : Int64)), (.long (0 : Int64)), (.long (0 : Int64)), (.long (0 : Int64)), (.long (0 : Int64)), (.long (0 : Int64)), (.long (0 : Int64)), (.long (0 : Int64)), (.long (0 : Int64))] (.long (0 : Int64)) ∧ Arv Z h la kl (.object "com/example/kurslot/kurslot/engine/PriceLevel") (16 : Int32) [(.ref l0), (.ref l1), (.ref l2), .null, .null, .null, .null, .null, .null, .null, .null, .null, .null, .null, .null, .null] .null ∧ Ovr Z kl "com/example/kurslot/kurslot/engine/PriceLevel" ∧ Exa Z h l0 "com/example/kurslot/kurslot/engine/PriceLevel" ∧ Exa Z h l1 "com/example/kurslot/kurslot/engine/PriceLevel" ∧ Exa Z h l2 "com/example/kurslot/kurslot/engine/PriceLevel"
theorem own_min1 : ¬ (-9223372036854775807 : Int64) = (-9223372036854775808 : Int64) := by decide
theorem d1_0 : decode method_3_code 0 = .ok (.iload_n 0, 1) := by decide +kernel
theorem d1_1 : decode method_3_code 1 = .ok (.ifCond .ne 17, 3) := by decide +kernel
theorem d1_4 : decode method_3_code 4 = .ok (.lload_n 1, 1) := by decide +kernel
theorem d1_5 : decode method_3_code 5 = .ok (.ldc2_w 45, 3) := by decide +kernel
theorem d1_8 : decode method_3_code 8 = .ok (.lcmp, 1) := by decide +kernel
theorem d1_9 : decode method_3_code 9 = .ok (.ifCond .ne 9, 3) := by decide +kernel
theorem d1_12 : decode method_3_code 12 = .ok (.ldc2_w 47, 3) := by decide +kernel
theorem d1_15 : decode method_3_code 15 = .ok (.goto 4, 3) := by decide +kernel
theorem d1_18 : decode method_3_code 18 = .ok (.lload_n 1, 1) := by decide +kernel
theorem d1_19 : decode method_3_code 19 = .ok (.lreturn, 1) := by decide +kernel
theorem pn_0 : plainName "com/example/kurslot/kurslot/engine/PriceLadderLevelPinLaw" = true := by first | (simp [plainName, overriddenIn]; done) | decide +kernel
set_option maxRecDepth 65536 in
set_option maxHeartbeats 40000000 in
theorem rmFix_0 (l : Launch) (Z : State) (a0 : Array Value) (hw : ∀ d ∈ tables_1, d.before a0 Z = true) (ws : List Jvm.Cond)  (q1 : Int64) (h0 : Heap) (n0 : Nat) (Z0 : n0 ≤ h0.size) :
    own_Met l (⟨"com/example/kurslot/kurslot/engine/PriceLadderLevelPinLaw", "fix", "(ZJ)J"⟩ : MethodName) method_3_code 3 (some .long) ws ({ frames := 0, cells := 0, slots := 0, locals := 0 } : Room) Z #[(.int (0 : Int32)), (.long q1)] h0 (fun v h L => ∃ q : Int64, v = some (.long q) ∧ Fr n0 L ∧ h = h0 ∧ ¬ q = (-9223372036854775808 : Int64)) := by
  refine own_body (plainFor_of_name pn_0) ?_
  intro p e s m below meth c s₁ X0 hx hby hml hown hnm hret hlk hZ e0
  replace hown : s.vm.findClass "com/example/kurslot/kurslot/engine/PriceLadderLevelPinLaw" = some m.cls := hown
  replace hml : c.maxLocals = 3 := hml
  replace hret : meth.sig.returnType = (some .long) := hret
  have N0 := Fr.nil n0
  have ef : entryFrame m #[(.int (0 : Int32)), (.long q1)] 3 = mkF m 0 #[.val (.int (0 : Int32)), .val (.long q1), .second] [] := by first | (simp [entryFrame, mkF, argsToLocals, Value.category]; done) | rfl
  refine own_step (S' := (s₁.setTop (mkF m 0 #[.val (.int (0 : Int32)), .val (.long q1), .second] []))) (fun _ k => castTop ef k) ?_
  refine own_iloadN X0 hx (hb hby d1_0) rfl ?_
  refine own_ifNo X0 hx (hb hby d1_1) (teq (by decide : (0 : Int32) = (0 : Int32))).2 ?_
  refine own_lloadN X0 hx (hb hby d1_4) rfl ?_
  refine own_ldcL X0 hx hZ hown (hw _ (List.mem_of_getElem? (i := 4) rfl)) (hb hby d1_5) ?_
  refine own_lcmp X0 hx (hb hby d1_8) ?_
  by_cases hc1 : q1 = (-9223372036854775808 : Int64)
  · refine own_ifNo X0 hx (hb hby d1_9) (teq ((lw_eq q1 (-9223372036854775808 : Int64)).mpr hc1)).2 ?_
    refine own_ldcL X0 hx hZ hown (hw _ (List.mem_of_getElem? (i := 77) rfl)) (hb hby d1_12) ?_
    refine own_goto X0 hx 19 (hb hby d1_15) (by decide) (by decide) ?_
    refine own_retL X0 hx hlk hret (hb hby d1_19) (by decide) (by decide) ?_
    try rw [e0]
    exact ⟨_, rfl, N0, rfl, own_min1⟩
  · refine own_ifYes X0 hx 18 (hb hby d1_9) (feq (fun q => hc1 ((lw_eq q1 (-9223372036854775808 : Int64)).mp q))).2 (by decide) (by decide) ?_
    refine own_lloadN X0 hx (hb hby d1_18) rfl ?_
    refine own_retL X0 hx hlk hret (hb hby d1_19) (by decide) (by decide) ?_
    try rw [e0]
    exact ⟨_, rfl, N0, rfl, hc1⟩
set_option maxRecDepth 65536 in
set_option maxHeartbeats 40000000 in
theorem rmFix_1 (l : Launch) (Z : State) (a0 : Array Value) (hw : ∀ d ∈ tables_1, d.before a0 Z = true) (ws : List Jvm.Cond)  (q1 : Int64) (h0 : Heap) (n0 : Nat) (Z0 : n0 ≤ h0.size) :
    own_Met l (⟨"com/example/kurslot/kurslot/engine/PriceLadderLevelPinLaw", "fix", "(ZJ)J"⟩ : MethodName) method_3_code 3 (some .long) ws ({ frames := 0, cells := 0, slots := 0, locals := 0 } : Room) Z #[(.int (1 : Int32)), (.long q1)] h0 (fun v h L => ∃ q : Int64, v = some (.long q) ∧ Fr n0 L ∧ h = h0 ∧ True) := by
  refine own_body (plainFor_of_name pn_0) ?_
  intro p e s m below meth c s₁ X0 hx hby hml hown hnm hret hlk hZ e0
  replace hown : s.vm.findClass "com/example/kurslot/kurslot/engine/PriceLadderLevelPinLaw" = some m.cls := hown
  replace hml : c.maxLocals = 3 := hml
  replace hret : meth.sig.returnType = (some .long) := hret
  have N0 := Fr.nil n0
  have ef : entryFrame m #[(.int (1 : Int32)), (.long q1)] 3 = mkF m 0 #[.val (.int (1 : Int32)), .val (.long q1), .second] [] := by first | (simp [entryFrame, mkF, argsToLocals, Value.category]; done) | rfl
  refine own_step (S' := (s₁.setTop (mkF m 0 #[.val (.int (1 : Int32)), .val (.long q1), .second] []))) (fun _ k => castTop ef k) ?_
  refine own_iloadN X0 hx (hb hby d1_0) rfl ?_
  refine own_ifYes X0 hx 18 (hb hby d1_1) (feq (by decide : ¬ ((1 : Int32) = (0 : Int32)))).2 (by decide) (by decide) ?_
  refine own_lloadN X0 hx (hb hby d1_18) rfl ?_
  refine own_retL X0 hx hlk hret (hb hby d1_19) (by decide) (by decide) ?_
  try rw [e0]
  exact ⟨_, rfl, N0, rfl, trivial⟩
theorem d2_0 : decode prog_27_method_1_code 0 = .ok (.aload_n 0, 1) := by decide +kernel
theorem d2_1 : decode prog_27_method_1_code 1 = .ok (.invokespecial 1, 3) := by decide +kernel
theorem d2_4 : decode prog_27_method_1_code 4 = .ok (.aload_n 0, 1) := by decide +kernel
theorem d2_5 : decode prog_27_method_1_code 5 = .ok (.bipush 16, 2) := by decide +kernel
theorem d2_7 : decode prog_27_method_1_code 7 = .ok (.newarray .long, 2) := by decide +kernel
theorem d2_9 : decode prog_27_method_1_code 9 = .ok (.putfield 7, 3) := by decide +kernel
theorem d2_12 : decode prog_27_method_1_code 12 = .ok (.aload_n 0, 1) := by decide +kernel
theorem d2_13 : decode prog_27_method_1_code 13 = .ok (.bipush 16, 2) := by decide +kernel
theorem d2_15 : decode prog_27_method_1_code 15 = .ok (.anewarray 13, 3) := by decide +kernel
theorem d2_18 : decode prog_27_method_1_code 18 = .ok (.putfield 15, 3) := by decide +kernel
theorem d2_21 : decode prog_27_method_1_code 21 = .ok (.aload_n 0, 1) := by decide +kernel
theorem d2_22 : decode prog_27_method_1_code 22 = .ok (.aload_n 1, 1) := by decide +kernel
theorem d2_23 : decode prog_27_method_1_code 23 = .ok (.putfield 19, 3) := by decide +kernel
theorem d2_26 : decode prog_27_method_1_code 26 = .ok (.return_, 1) := by decide +kernel
theorem pn_1 : plainName "com/example/kurslot/kurslot/engine/PriceLadder" = true := by first | (simp [plainName, overriddenIn]; done) | decide +kernel
set_option maxRecDepth 65536 in
set_option maxHeartbeats 40000000 in
theorem rmIni (l : Launch) (Z : State) (a0 : Array Value) (hw : ∀ d ∈ tables_1, d.before a0 Z = true) (ws : List Jvm.Cond)  (o : Addr) (sd : Addr) (h0 : Heap) (n0 : Nat) (Z0 : n0 ≤ h0.size) (Eo : Exa Z h0 o "com/example/kurslot/kurslot/engine/PriceLadder") (F1 : Fld Z h0 o "com/example/kurslot/kurslot/engine/PriceLadder" "ranks" "[J" .null) (F2 : Fld Z h0 o "com/example/kurslot/kurslot/engine/PriceLadder" "levels" "[Lcom/example/kurslot/kurslot/engine/PriceLevel;" .null) (F3 : Fld Z h0 o "com/example/kurslot/kurslot/engine/PriceLadder" "size" "I" (.int (0 : Int32))) (F4 : Fld Z h0 o "com/example/kurslot/kurslot/engine/PriceLadder" "side" "Lcom/example/kurslot/kurslot/engine/Side;" .null) (g_o : n0 ≤ o) :
    own_Met l (⟨"com/example/kurslot/kurslot/engine/PriceLadder", "<init>", "(Lcom/example/kurslot/kurslot/engine/Side;)V"⟩ : MethodName) prog_27_method_1_code 2 none ws ({ frames := 1, cells := 2, slots := 32, locals := 12 } : Room) Z #[(.ref o), (.ref sd)] h0 (fun v h L => v = none ∧ Fr n0 L ∧ Keep h0 h [o] ∧ ∃ ra la kr kl, h0.size ≤ ra ∧ h0.size ≤ la ∧ n0 ≤ ra ∧ n0 ≤ la ∧ own_Lad0 Z h o ra la sd kr kl) := by
  refine own_body (plainFor_of_name pn_1) ?_
  intro p e s m below meth c s₁ X0 hx hby hml hown hnm hret hlk hZ e0
  replace hown : s.vm.findClass "com/example/kurslot/kurslot/engine/PriceLadder" = some m.cls := hown
  replace hml : c.maxLocals = 2 := hml
  replace hret : meth.sig.returnType = none := hret
  have N0 := Fr.nil n0
  have ef : entryFrame m #[(.ref o), (.ref sd)] 2 = mkF m 0 #[.val (.ref o), .val (.ref sd)] [] := by first | (simp [entryFrame, mkF, argsToLocals, Value.category]; done) | rfl
  refine own_step (S' := (s₁.setTop (mkF m 0 #[.val (.ref o), .val (.ref sd)] []))) (fun _ k => castTop ef k) ?_
  refine own_aloadN X0 hx (hb hby d2_0) rfl rfl ?_
  refine own_initO (W := 0) X0 hx hZ hown (hw _ (List.mem_of_getElem? (i := 14) rfl)) (hw _ (List.mem_of_getElem? (i := 15) rfl)) (hw _ (List.mem_of_getElem? (i := 16) rfl)) e0 (by rw [hml]; rfl) (hb hby d2_1) (by decide) (Nat.le_of_eq rfl) (by decide) fun T2 X2 e2 => ?_
  refine own_aloadN X2 hx (hb hby d2_4) rfl rfl ?_
  refine own_bipush X2 hx (16 : Int32) (hb hby d2_5) rfl ?_
  refine own_newP (n := (16 : Int32)) (cap := 16) (ad := "[J") X2 hx hZ (hw _ (List.mem_of_getElem? (i := 17) rfl)) e2 (hb hby d2_7) (by decide) (by decide) (by decide) (by decide) (by decide) (by decide) fun T3 h3 k3 b3 g3 X3 e3 E3 A3 Ex3 => ?_
  have g_b3 : n0 ≤ b3 := Nat.le_trans Z0 (Nat.le_of_eq g3.symm)
  have szo_b3 : h0.size ≤ b3 := Nat.le_trans (Nat.le_refl h0.size) (Nat.le_of_eq g3.symm)
  have V3 : Arv Z h3 b3 k3 .long (16 : Int32) [(.long (0 : Int64)), (.long (0 : Int64)), (.long (0 : Int64)), (.long (0 : Int64)), (.long (0 : Int64)), (.long (0 : Int64)), (.long (0 : Int64)), (.long (0 : Int64)), (.long (0 : Int64)), (.long (0 : Int64)), (.long (0 : Int64)), (.long (0 : Int64)), (.long (0 : Int64)), (.long (0 : Int64)), (.long (0 : Int64)), (.long (0 : Int64))] (.long (0 : Int64)) := (Arv.new A3 (by decide)).pad (pad_rep [] (.long (0 : Int64)) 16)
  refine own_putF X3 hx hZ hown (host := "") (Or.inl (hw _ (List.mem_of_getElem? (i := 18) rfl))) Via.refl e3 (Fld.ext E3 F1) (Exa.ext E3 Eo) (Or.inl (hw _ (List.mem_of_getElem? (i := 19) rfl))) (hw _ (List.mem_of_getElem? (i := 6) rfl)) (ty := (.array .long)) (by decide) rfl rfl (hb hby d2_9) fun T4 h4 X4 e4 W4 => ?_
  have Fw4 := Fld.same W4 (Fld.ext E3 F1)
  have N4 := Fr.snoc X4 N0 g_o
  refine own_aloadN X4 hx (hb hby d2_12) rfl rfl ?_
  refine own_bipush X4 hx (16 : Int32) (hb hby d2_13) rfl ?_
  refine own_newR (n := (16 : Int32)) (cap := 16) (ad := "[Lcom/example/kurslot/kurslot/engine/PriceLevel;") X4 hx hZ hown (hw _ (List.mem_of_getElem? (i := 20) rfl)) (hw _ (List.mem_of_getElem? (i := 21) rfl)) e4 (hb hby d2_15) (by decide) (by decide) (by decide) (by decide) (by decide) (by decide) fun T5 h5 k5 b5 g5 X5 e5 E5 A5 Ex5 O5 => ?_
  have g_b5 : n0 ≤ b5 := Nat.le_trans (Nat.le_trans (Nat.le_trans Z0 E3.1) (Keep.of_wr W4).1) (Nat.le_of_eq g5.symm)
  have szo_b5 : h0.size ≤ b5 := Nat.le_trans (Nat.le_trans (Nat.le_trans (Nat.le_refl h0.size) E3.1) (Keep.of_wr W4).1) (Nat.le_of_eq g5.symm)
  have V5 : Arv Z h5 b5 k5 (.object "com/example/kurslot/kurslot/engine/PriceLevel") (16 : Int32) [.null, .null, .null, .null, .null, .null, .null, .null, .null, .null, .null, .null, .null, .null, .null, .null] .null := (Arv.new A5 (by decide)).pad (pad_rep [] .null 16)
  refine own_putF X5 hx hZ hown (host := "") (Or.inl (hw _ (List.mem_of_getElem? (i := 22) rfl))) Via.refl e5 (Fld.ext E5 (Fld.other W4 (Fld.ext E3 F2) (Or.inr (slot_ne (Or.inl (hw _ (List.mem_of_getElem? (i := 23) rfl))) (Or.inl (hw _ (List.mem_of_getElem? (i := 19) rfl))) (by decide) (t := (.array (.object "com/example/kurslot/kurslot/engine/PriceLevel"))) (t' := (.array .long)) (by decide) (by decide))))) (Exa.ext E5 (Exa.wr W4 (Exa.ext E3 Eo))) (Or.inl (hw _ (List.mem_of_getElem? (i := 23) rfl))) (hw _ (List.mem_of_getElem? (i := 6) rfl)) (ty := (.array (.object "com/example/kurslot/kurslot/engine/PriceLevel"))) (by decide) rfl rfl (hb hby d2_18) fun T6 h6 X6 e6 W6 => ?_
  have Fw6 := Fld.same W6 (Fld.ext E5 (Fld.other W4 (Fld.ext E3 F2) (Or.inr (slot_ne (Or.inl (hw _ (List.mem_of_getElem? (i := 23) rfl))) (Or.inl (hw _ (List.mem_of_getElem? (i := 19) rfl))) (by decide) (t := (.array (.object "com/example/kurslot/kurslot/engine/PriceLevel"))) (t' := (.array .long)) (by decide) (by decide)))))
  have N6 := Fr.snoc X6 N4 g_o
  refine own_aloadN X6 hx (hb hby d2_21) rfl rfl ?_
  refine own_aloadN X6 hx (hb hby d2_22) rfl rfl ?_
  refine own_putF X6 hx hZ hown (host := "") (Or.inl (hw _ (List.mem_of_getElem? (i := 24) rfl))) Via.refl e6 (Fld.other W6 (Fld.ext E5 (Fld.other W4 (Fld.ext E3 F4) (Or.inr (slot_ne (Or.inr (hw _ (List.mem_of_getElem? (i := 25) rfl))) (Or.inl (hw _ (List.mem_of_getElem? (i := 19) rfl))) (by decide) (t := (.object "com/example/kurslot/kurslot/engine/Side")) (t' := (.array .long)) (by decide) (by decide))))) (Or.inr (slot_ne (Or.inr (hw _ (List.mem_of_getElem? (i := 25) rfl))) (Or.inl (hw _ (List.mem_of_getElem? (i := 23) rfl))) (by decide) (t := (.object "com/example/kurslot/kurslot/engine/Side")) (t' := (.array (.object "com/example/kurslot/kurslot/engine/PriceLevel"))) (by decide) (by decide)))) (Exa.wr W6 (Exa.ext E5 (Exa.wr W4 (Exa.ext E3 Eo)))) (Or.inr ⟨(hw _ (List.mem_of_getElem? (i := 25) rfl)), rfl, hnm⟩) (hw _ (List.mem_of_getElem? (i := 6) rfl)) (ty := (.object "com/example/kurslot/kurslot/engine/Side")) (by decide) rfl rfl (hb hby d2_23) fun T7 h7 X7 e7 W7 => ?_
  have Fw7 := Fld.same W7 (Fld.other W6 (Fld.ext E5 (Fld.other W4 (Fld.ext E3 F4) (Or.inr (slot_ne (Or.inr (hw _ (List.mem_of_getElem? (i := 25) rfl))) (Or.inl (hw _ (List.mem_of_getElem? (i := 19) rfl))) (by decide) (t := (.object "com/example/kurslot/kurslot/engine/Side")) (t' := (.array .long)) (by decide) (by decide))))) (Or.inr (slot_ne (Or.inr (hw _ (List.mem_of_getElem? (i := 25) rfl))) (Or.inl (hw _ (List.mem_of_getElem? (i := 23) rfl))) (by decide) (t := (.object "com/example/kurslot/kurslot/engine/Side")) (t' := (.array (.object "com/example/kurslot/kurslot/engine/PriceLevel"))) (by decide) (by decide))))
  have N7 := Fr.snoc X7 N6 g_o
  refine own_retV X7 hx hlk hret (hb hby d2_26) (by decide) (by decide) ?_
  try rw [e7]
  exact ⟨rfl, N7, (Keep.wr (Keep.wr (Keep.ext (Keep.wr (Keep.ext (Keep.refl h0 [o]) E3) W4 (Or.inl (List.mem_of_getElem? (i := 0) rfl))) E5) W6 (Or.inl (List.mem_of_getElem? (i := 0) rfl))) W7 (Or.inl (List.mem_of_getElem? (i := 0) rfl))), b3, b5, k3, k5, szo_b3, szo_b5, g_b3, g_b5, ⟨(Exa.wr W7 (Exa.wr W6 (Exa.ext E5 (Exa.wr W4 (Exa.ext E3 Eo))))), (Fld.other W7 (Fld.other W6 (Fld.ext E5 Fw4) (Or.inr (slot_ne (Or.inl (hw _ (List.mem_of_getElem? (i := 19) rfl))) (Or.inl (hw _ (List.mem_of_getElem? (i := 23) rfl))) (by decide) (t := (.array .long)) (t' := (.array (.object "com/example/kurslot/kurslot/engine/PriceLevel"))) (by decide) (by decide)))) (Or.inr (slot_ne (Or.inl (hw _ (List.mem_of_getElem? (i := 19) rfl))) (Or.inr (hw _ (List.mem_of_getElem? (i := 25) rfl))) (by decide) (t := (.array .long)) (t' := (.object "com/example/kurslot/kurslot/engine/Side")) (by decide) (by decide)))), (Fld.other W7 Fw6 (Or.inr (slot_ne (Or.inl (hw _ (List.mem_of_getElem? (i := 23) rfl))) (Or.inr (hw _ (List.mem_of_getElem? (i := 25) rfl))) (by decide) (t := (.array (.object "com/example/kurslot/kurslot/engine/PriceLevel"))) (t' := (.object "com/example/kurslot/kurslot/engine/Side")) (by decide) (by decide)))), (Fld.other W7 (Fld.other W6 (Fld.ext E5 (Fld.other W4 (Fld.ext E3 F3) (Or.inr (slot_ne (Or.inl (hw _ (List.mem_of_getElem? (i := 38) rfl))) (Or.inl (hw _ (List.mem_of_getElem? (i := 19) rfl))) (by decide) (t := .int) (t' := (.array .long)) (by decide) (by decide))))) (Or.inr (slot_ne (Or.inl (hw _ (List.mem_of_getElem? (i := 38) rfl))) (Or.inl (hw _ (List.mem_of_getElem? (i := 23) rfl))) (by decide) (t := .int) (t' := (.array (.object "com/example/kurslot/kurslot/engine/PriceLevel"))) (by decide) (by decide)))) (Or.inr (slot_ne (Or.inl (hw _ (List.mem_of_getElem? (i := 38) rfl))) (Or.inr (hw _ (List.mem_of_getElem? (i := 25) rfl))) (by decide) (t := .int) (t' := (.object "com/example/kurslot/kurslot/engine/Side")) (by decide) (by decide)))), Fw7, (Exa.wr W7 (Exa.wr W6 (Exa.ext E5 (Exa.wr W4 Ex3)))), (Exa.wr W7 (Exa.wr W6 Ex5)), (Arv.other (Arv.other ((Arv.other V3 W4 (Ne.symm (Nat.ne_of_lt (Nat.lt_of_lt_of_le Eo.lt (Nat.le_of_eq g3.symm))))).ext E5) W6 (Ne.symm (Nat.ne_of_lt (Nat.lt_of_lt_of_le Eo.lt (Nat.le_of_eq g3.symm))))) W7 (Ne.symm (Nat.ne_of_lt (Nat.lt_of_lt_of_le Eo.lt (Nat.le_of_eq g3.symm))))), (Arv.other (Arv.other V5 W6 (Ne.symm (Nat.ne_of_lt (Nat.lt_of_lt_of_le Fw4.lt (Nat.le_of_eq g5.symm))))) W7 (Ne.symm (Nat.ne_of_lt (Nat.lt_of_lt_of_le Fw4.lt (Nat.le_of_eq g5.symm))))), O5⟩⟩
theorem d5_0 : decode prog_27_method_9_code 0 = .ok (.aload_n 0, 1) := by decide +kernel
theorem d5_1 : decode prog_27_method_9_code 1 = .ok (.getfield 19, 3) := by decide +kernel
theorem d5_4 : decode prog_27_method_9_code 4 = .ok (.getstatic 27, 3) := by decide +kernel
theorem d5_7 : decode prog_27_method_9_code 7 = .ok (.if_acmp .ne 7, 3) := by decide +kernel
theorem d5_10 : decode prog_27_method_9_code 10 = .ok (.lload_n 1, 1) := by decide +kernel
theorem d5_11 : decode prog_27_method_9_code 11 = .ok (.goto 5, 3) := by decide +kernel
theorem d5_14 : decode prog_27_method_9_code 14 = .ok (.lload_n 1, 1) := by decide +kernel
theorem d5_15 : decode prog_27_method_9_code 15 = .ok (.lneg, 1) := by decide +kernel
theorem d5_16 : decode prog_27_method_9_code 16 = .ok (.lreturn, 1) := by decide +kernel
set_option maxRecDepth 65536 in
set_option maxHeartbeats 40000000 in
theorem rmRank (l : Launch) (Z : State) (a0 : Array Value) (hw : ∀ d ∈ tables_1, d.before a0 Z = true) (ws : List Jvm.Cond) (o sd wB : Addr) (r : Int64) (q1 : Int64) (h0 : Heap) (n0 : Nat) (Z0 : n0 ≤ h0.size) (F1 : Fld Z h0 o "com/example/kurslot/kurslot/engine/PriceLadder" "side" "Lcom/example/kurslot/kurslot/engine/Side;" (.ref sd)) (SB : Sta Z h0 "com/example/kurslot/kurslot/engine/Side" "BUY" "Lcom/example/kurslot/kurslot/engine/Side;" (.ref wB)) (hs : (sd = wB ∧ r = q1) ∨ (¬ sd = wB ∧ r = (-q1))) :
    own_Met l (⟨"com/example/kurslot/kurslot/engine/PriceLadder", "rank", "(J)J"⟩ : MethodName) prog_27_method_9_code 3 (some .long) ws ({ frames := 0, cells := 0, slots := 0, locals := 0 } : Room) Z #[(.ref o), (.long q1)] h0 (fun v h L => v = some (.long r) ∧ Fr n0 L ∧ h = h0) := by
  refine own_body (plainFor_of_name pn_1) ?_
  intro p e s m below meth c s₁ X0 hx hby hml hown hnm hret hlk hZ e0
  replace hown : s.vm.findClass "com/example/kurslot/kurslot/engine/PriceLadder" = some m.cls := hown
  replace hml : c.maxLocals = 3 := hml
  replace hret : meth.sig.returnType = (some .long) := hret
  have N0 := Fr.nil n0
  have ef : entryFrame m #[(.ref o), (.long q1)] 3 = mkF m 0 #[.val (.ref o), .val (.long q1), .second] [] := by first | (simp [entryFrame, mkF, argsToLocals, Value.category]; done) | rfl
  refine own_step (S' := (s₁.setTop (mkF m 0 #[.val (.ref o), .val (.long q1), .second] []))) (fun _ k => castTop ef k) ?_
  refine own_aloadN X0 hx (hb hby d5_0) rfl rfl ?_
  refine own_getF X0 hx hZ hown (host := "") (Or.inl (hw _ (List.mem_of_getElem? (i := 24) rfl))) Via.refl e0 F1 (hb hby d5_1) fun T8 X8 e8 => ?_
  refine own_getS X8 hx hZ hown (host := "") (Or.inl (hw _ (List.mem_of_getElem? (i := 35) rfl))) Via.refl e8 SB (hb hby d5_4) fun T9 X9 e9 => ?_
  by_cases hc10 : sd = wB
  · refine own_acmp X9 hx 10 true (hb hby d5_7) rfl rfl (decide_eq_true (congrArg Value.ref hc10)) (by decide) (by decide) ?_
    refine own_lloadN X9 hx (hb hby d5_10) rfl ?_
    refine own_goto X9 hx 16 (hb hby d5_11) (by decide) (by decide) ?_
    refine own_retL X9 hx hlk hret (hb hby d5_16) (by decide) (by decide) ?_
    try rw [e9]
    have hr : r = q1 := hs.elim (fun u => u.2) (fun u => absurd hc10 u.1)
    rw [hr]
    exact ⟨rfl, N0, rfl⟩
  · refine own_acmp X9 hx 14 false (hb hby d5_7) rfl rfl (decide_eq_false fun q => hc10 (Value.ref.inj q)) (by decide) (by decide) ?_
    refine own_lloadN X9 hx (hb hby d5_14) rfl ?_
    refine own_lneg X9 hx (hb hby d5_15) ?_
    refine own_retL X9 hx hlk hret (hb hby d5_16) (by decide) (by decide) ?_
    try rw [e9]
    have hr : r = (-q1) := hs.elim (fun u => absurd u.1 hc10) (fun u => u.2)
    rw [hr]
    exact ⟨rfl, N0, rfl⟩
theorem d12_0 : decode method_4_code 0 = .ok (.iload_n 0, 1) := by decide +kernel
theorem d12_1 : decode method_4_code 1 = .ok (.ifCond .eq 17, 3) := by decide +kernel
theorem d12_4 : decode method_4_code 4 = .ok (.lload_n 1, 1) := by decide +kernel
theorem d12_5 : decode method_4_code 5 = .ok (.lload_n 3, 1) := by decide +kernel
theorem d12_6 : decode method_4_code 6 = .ok (.lcmp, 1) := by decide +kernel
theorem d12_7 : decode method_4_code 7 = .ok (.ifCond .le 7, 3) := by decide +kernel
theorem d12_10 : decode method_4_code 10 = .ok (.iconst 1, 1) := by decide +kernel
theorem d12_11 : decode method_4_code 11 = .ok (.goto 18, 3) := by decide +kernel
theorem d12_14 : decode method_4_code 14 = .ok (.iconst 0, 1) := by decide +kernel
theorem d12_15 : decode method_4_code 15 = .ok (.goto 14, 3) := by decide +kernel
theorem d12_18 : decode method_4_code 18 = .ok (.lload_n 1, 1) := by decide +kernel
theorem d12_19 : decode method_4_code 19 = .ok (.lload_n 3, 1) := by decide +kernel
theorem d12_20 : decode method_4_code 20 = .ok (.lcmp, 1) := by decide +kernel
theorem d12_21 : decode method_4_code 21 = .ok (.ifCond .ge 7, 3) := by decide +kernel
theorem d12_24 : decode method_4_code 24 = .ok (.iconst 1, 1) := by decide +kernel
theorem d12_25 : decode method_4_code 25 = .ok (.goto 4, 3) := by decide +kernel
theorem d12_28 : decode method_4_code 28 = .ok (.iconst 0, 1) := by decide +kernel
theorem d12_29 : decode method_4_code 29 = .ok (.istore 5, 2) := by decide +kernel
theorem d12_31 : decode method_4_code 31 = .ok (.iload 5, 2) := by decide +kernel
theorem d12_33 : decode method_4_code 33 = .ok (.ifCond .eq 7, 3) := by decide +kernel
theorem d12_36 : decode method_4_code 36 = .ok (.iconst 1, 1) := by decide +kernel
theorem d12_37 : decode method_4_code 37 = .ok (.goto 4, 3) := by decide +kernel
theorem d12_40 : decode method_4_code 40 = .ok (.iconst 0, 1) := by decide +kernel
theorem d12_41 : decode method_4_code 41 = .ok (.ireturn, 1) := by decide +kernel
set_option maxRecDepth 65536 in
set_option maxHeartbeats 40000000 in
theorem rmBt (l : Launch) (Z : State) (a0 : Array Value) (hw : ∀ d ∈ tables_1, d.before a0 Z = true) (ws : List Jvm.Cond)  (z : Int32) (q1 : Int64) (q2 : Int64) (h0 : Heap) (n0 : Nat) (Z0 : n0 ≤ h0.size) :
    own_Met l (⟨"com/example/kurslot/kurslot/engine/PriceLadderLevelPinLaw", "better", "(ZJJ)I"⟩ : MethodName) method_4_code 6 (some .int) ws ({ frames := 0, cells := 0, slots := 0, locals := 0 } : Room) Z #[(.int z), (.long q1), (.long q2)] h0 (fun v h L => v = some (.int (own_bet z q1 q2)) ∧ Fr n0 L ∧ h = h0) := by
  refine own_body (plainFor_of_name pn_0) ?_
  intro p e s m below meth c s₁ X0 hx hby hml hown hnm hret hlk hZ e0
  replace hown : s.vm.findClass "com/example/kurslot/kurslot/engine/PriceLadderLevelPinLaw" = some m.cls := hown
  replace hml : c.maxLocals = 6 := hml
  replace hret : meth.sig.returnType = (some .int) := hret
  have N0 := Fr.nil n0
  have ef : entryFrame m #[(.int z), (.long q1), (.long q2)] 6 = mkF m 0 #[.val (.int z), .val (.long q1), .second, .val (.long q2), .second, .unset] [] := by first | (simp [entryFrame, mkF, argsToLocals, Value.category]; done) | rfl
  refine own_step (S' := (s₁.setTop (mkF m 0 #[.val (.int z), .val (.long q1), .second, .val (.long q2), .second, .unset] []))) (fun _ k => castTop ef k) ?_
  refine own_iloadN X0 hx (hb hby d12_0) rfl ?_
  by_cases hc11 : z = (0 : Int32)
  · refine own_ifYes X0 hx 18 (hb hby d12_1) (teq hc11).1 (by decide) (by decide) ?_
    refine own_lloadN X0 hx (hb hby d12_18) rfl ?_
    refine own_lloadN X0 hx (hb hby d12_19) rfl ?_
    refine own_lcmp X0 hx (hb hby d12_20) ?_
    by_cases hc12 : q1 < q2
    · refine own_ifNo X0 hx (hb hby d12_21) (tlt ((lw_lt q1 q2).mpr hc12)).2.1 ?_
      refine own_iconst X0 hx (1 : Int32) (hb hby d12_24) rfl ?_
      refine own_goto X0 hx 29 (hb hby d12_25) (by decide) (by decide) ?_
      refine own_istore (l' := #[.val (.int z), .val (.long q1), .second, .val (.long q2), .second, .val (.int (1 : Int32))]) X0 hx (hb hby d12_29) rfl ?_
      refine own_iload X0 hx (hb hby d12_31) rfl ?_
      refine own_ifNo X0 hx (hb hby d12_33) (feq (by decide : ¬ ((1 : Int32) = (0 : Int32)))).1 ?_
      refine own_iconst X0 hx (1 : Int32) (hb hby d12_36) rfl ?_
      refine own_goto X0 hx 41 (hb hby d12_37) (by decide) (by decide) ?_
      refine own_retI X0 hx hlk hret (hb hby d12_41) (by decide) (by decide) ?_
      try rw [e0]
      exact ⟨by simp [own_bet, hc11, hc12], N0, rfl⟩
    · refine own_ifYes X0 hx 28 (hb hby d12_21) (flt (fun q => hc12 ((lw_lt q1 q2).mp q))).2.1 (by decide) (by decide) ?_
      refine own_iconst X0 hx (0 : Int32) (hb hby d12_28) rfl ?_
      refine own_istore (l' := #[.val (.int z), .val (.long q1), .second, .val (.long q2), .second, .val (.int (0 : Int32))]) X0 hx (hb hby d12_29) rfl ?_
      refine own_iload X0 hx (hb hby d12_31) rfl ?_
      refine own_ifYes X0 hx 40 (hb hby d12_33) (teq (by decide : (0 : Int32) = (0 : Int32))).1 (by decide) (by decide) ?_
      refine own_iconst X0 hx (0 : Int32) (hb hby d12_40) rfl ?_
      refine own_retI X0 hx hlk hret (hb hby d12_41) (by decide) (by decide) ?_
      try rw [e0]
      exact ⟨by simp [own_bet, hc11, hc12], N0, rfl⟩
  · refine own_ifNo X0 hx (hb hby d12_1) (feq hc11).1 ?_
    refine own_lloadN X0 hx (hb hby d12_4) rfl ?_
    refine own_lloadN X0 hx (hb hby d12_5) rfl ?_
    refine own_lcmp X0 hx (hb hby d12_6) ?_
    by_cases hc13 : q2 < q1
    · refine own_ifNo X0 hx (hb hby d12_7) (tlt ((lw_gt q1 q2).mpr hc13)).2.2.2 ?_
      refine own_iconst X0 hx (1 : Int32) (hb hby d12_10) rfl ?_
      refine own_goto X0 hx 29 (hb hby d12_11) (by decide) (by decide) ?_
      refine own_istore (l' := #[.val (.int z), .val (.long q1), .second, .val (.long q2), .second, .val (.int (1 : Int32))]) X0 hx (hb hby d12_29) rfl ?_
      refine own_iload X0 hx (hb hby d12_31) rfl ?_
      refine own_ifNo X0 hx (hb hby d12_33) (feq (by decide : ¬ ((1 : Int32) = (0 : Int32)))).1 ?_
      refine own_iconst X0 hx (1 : Int32) (hb hby d12_36) rfl ?_
      refine own_goto X0 hx 41 (hb hby d12_37) (by decide) (by decide) ?_
      refine own_retI X0 hx hlk hret (hb hby d12_41) (by decide) (by decide) ?_
      try rw [e0]
      exact ⟨by simp [own_bet, hc11, hc13], N0, rfl⟩
    · refine own_ifYes X0 hx 14 (hb hby d12_7) (flt (fun q => hc13 ((lw_gt q1 q2).mp q))).2.2.2 (by decide) (by decide) ?_
      refine own_iconst X0 hx (0 : Int32) (hb hby d12_14) rfl ?_
      refine own_goto X0 hx 29 (hb hby d12_15) (by decide) (by decide) ?_
      refine own_istore (l' := #[.val (.int z), .val (.long q1), .second, .val (.long q2), .second, .val (.int (0 : Int32))]) X0 hx (hb hby d12_29) rfl ?_
      refine own_iload X0 hx (hb hby d12_31) rfl ?_
      refine own_ifYes X0 hx 40 (hb hby d12_33) (teq (by decide : (0 : Int32) = (0 : Int32))).1 (by decide) (by decide) ?_
      refine own_iconst X0 hx (0 : Int32) (hb hby d12_40) rfl ?_
      refine own_retI X0 hx hlk hret (hb hby d12_41) (by decide) (by decide) ?_
      try rw [e0]
      exact ⟨by simp [own_bet, hc11, hc13], N0, rfl⟩
theorem d11_0 : decode method_5_code 0 = .ok (.iload_n 0, 1) := by decide +kernel
theorem d11_1 : decode method_5_code 1 = .ok (.lload_n 1, 1) := by decide +kernel
theorem d11_2 : decode method_5_code 2 = .ok (.lload 9, 2) := by decide +kernel
theorem d11_4 : decode method_5_code 4 = .ok (.invokestatic 49, 3) := by decide +kernel
theorem d11_7 : decode method_5_code 7 = .ok (.istore 11, 2) := by decide +kernel
theorem d11_9 : decode method_5_code 9 = .ok (.iload 7, 2) := by decide +kernel
theorem d11_11 : decode method_5_code 11 = .ok (.ifCond .eq 15, 3) := by decide +kernel
theorem d11_14 : decode method_5_code 14 = .ok (.iload 11, 2) := by decide +kernel
theorem d11_16 : decode method_5_code 16 = .ok (.iload_n 0, 1) := by decide +kernel
theorem d11_17 : decode method_5_code 17 = .ok (.lload_n 3, 1) := by decide +kernel
theorem d11_18 : decode method_5_code 18 = .ok (.lload 9, 2) := by decide +kernel
theorem d11_20 : decode method_5_code 20 = .ok (.invokestatic 49, 3) := by decide +kernel
theorem d11_23 : decode method_5_code 23 = .ok (.iadd, 1) := by decide +kernel
theorem d11_24 : decode method_5_code 24 = .ok (.istore 11, 2) := by decide +kernel
theorem d11_26 : decode method_5_code 26 = .ok (.iload 8, 2) := by decide +kernel
theorem d11_28 : decode method_5_code 28 = .ok (.ifCond .eq 16, 3) := by decide +kernel
theorem d11_31 : decode method_5_code 31 = .ok (.iload 11, 2) := by decide +kernel
theorem d11_33 : decode method_5_code 33 = .ok (.iload_n 0, 1) := by decide +kernel
theorem d11_34 : decode method_5_code 34 = .ok (.lload 5, 2) := by decide +kernel
theorem d11_36 : decode method_5_code 36 = .ok (.lload 9, 2) := by decide +kernel
theorem d11_38 : decode method_5_code 38 = .ok (.invokestatic 49, 3) := by decide +kernel
theorem d11_41 : decode method_5_code 41 = .ok (.iadd, 1) := by decide +kernel
theorem d11_42 : decode method_5_code 42 = .ok (.istore 11, 2) := by decide +kernel
theorem d11_44 : decode method_5_code 44 = .ok (.iload 11, 2) := by decide +kernel
theorem d11_46 : decode method_5_code 46 = .ok (.ireturn, 1) := by decide +kernel
theorem pd_0 : parseMethodDescriptor "(ZJJ)I" = some ⟨[.boolean, .long, .long], some .int⟩ := by decide +kernel
set_option maxRecDepth 65536 in
set_option maxHeartbeats 40000000 in
theorem rmDep_00 (l : Launch) (Z : State) (a0 : Array Value) (hw : ∀ d ∈ tables_1, d.before a0 Z = true) (ws : List Jvm.Cond)  (z : Int32) (q0 : Int64) (q1 : Int64) (q2 : Int64) (p0 : Int64) (h0 : Heap) (n0 : Nat) (Z0 : n0 ≤ h0.size) :
    own_Met l (⟨"com/example/kurslot/kurslot/engine/PriceLadderLevelPinLaw", "depthOf", "(ZJJJZZJ)I"⟩ : MethodName) method_5_code 12 (some .int) ws ({ frames := 1, cells := 0, slots := 0, locals := 20 } : Room) Z #[(.int z), (.long q0), (.long q1), (.long q2), (.int (0 : Int32)), (.int (0 : Int32)), (.long p0)] h0 (fun v h L => v = some (.int (own_bet z q0 p0)) ∧ Fr n0 L ∧ h = h0) := by
  refine own_body (plainFor_of_name pn_0) ?_
  intro p e s m below meth c s₁ X0 hx hby hml hown hnm hret hlk hZ e0
  replace hown : s.vm.findClass "com/example/kurslot/kurslot/engine/PriceLadderLevelPinLaw" = some m.cls := hown
  replace hml : c.maxLocals = 12 := hml
  replace hret : meth.sig.returnType = (some .int) := hret
  have N0 := Fr.nil n0
  have ef : entryFrame m #[(.int z), (.long q0), (.long q1), (.long q2), (.int (0 : Int32)), (.int (0 : Int32)), (.long p0)] 12 = mkF m 0 #[.val (.int z), .val (.long q0), .second, .val (.long q1), .second, .val (.long q2), .second, .val (.int (0 : Int32)), .val (.int (0 : Int32)), .val (.long p0), .second, .unset] [] := by first | (simp [entryFrame, mkF, argsToLocals, Value.category]; done) | rfl
  refine own_step (S' := (s₁.setTop (mkF m 0 #[.val (.int z), .val (.long q0), .second, .val (.long q1), .second, .val (.long q2), .second, .val (.int (0 : Int32)), .val (.int (0 : Int32)), .val (.long p0), .second, .unset] []))) (fun _ k => castTop ef k) ?_
  refine own_iloadN X0 hx (hb hby d11_0) rfl ?_
  refine own_lloadN X0 hx (hb hby d11_1) rfl ?_
  refine own_lload X0 hx (hb hby d11_2) rfl ?_
  refine own_cStat (W := 0) (rest := []) X0 hx hZ [(.int z), (.long q0), (.long p0)] hown (hw _ (List.mem_of_getElem? (i := 68) rfl)) (hw _ (List.mem_of_getElem? (i := 69) rfl)) (by decide) (hw _ (List.mem_of_getElem? (i := 70) rfl)) (hw _ (List.mem_of_getElem? (i := 2) rfl)) e0 (rmBt l Z a0 hw [] z q0 p0 h0 n0 Z0) (by rw [hml]; rfl) (lenOf pd_0 rfl) rfl (Nat.le_of_eq rfl) (hb hby d11_4) (by decide) (by decide) (by decide) (by decide) fun v14 T14 L14 X14 hQ14 => ?_
  obtain ⟨rfl, N14q, e14⟩ := hQ14
  have N14 := Fr.app N0 N14q
  show own_At p e below s _ _ _ T14 m 7 _ [(.int (own_bet z q0 p0))]
  refine own_istore (l' := #[.val (.int z), .val (.long q0), .second, .val (.long q1), .second, .val (.long q2), .second, .val (.int (0 : Int32)), .val (.int (0 : Int32)), .val (.long p0), .second, .val (.int (own_bet z q0 p0))]) X14 hx (hb hby d11_7) rfl ?_
  refine own_iload X14 hx (hb hby d11_9) rfl ?_
  refine own_ifYes X14 hx 26 (hb hby d11_11) (teq (by decide : (0 : Int32) = (0 : Int32))).1 (by decide) (by decide) ?_
  refine own_iload X14 hx (hb hby d11_26) rfl ?_
  refine own_ifYes X14 hx 44 (hb hby d11_28) (teq (by decide : (0 : Int32) = (0 : Int32))).1 (by decide) (by decide) ?_
  refine own_iload X14 hx (hb hby d11_44) rfl ?_
  refine own_retI X14 hx hlk hret (hb hby d11_46) (by decide) (by decide) ?_
  try rw [e14]
  exact ⟨rfl, N14, rfl⟩
set_option maxRecDepth 65536 in
set_option maxHeartbeats 40000000 in
theorem rmDep_01 (l : Launch) (Z : State) (a0 : Array Value) (hw : ∀ d ∈ tables_1, d.before a0 Z = true) (ws : List Jvm.Cond)  (z : Int32) (q0 : Int64) (q1 : Int64) (q2 : Int64) (p0 : Int64) (h0 : Heap) (n0 : Nat) (Z0 : n0 ≤ h0.size) :
    own_Met l (⟨"com/example/kurslot/kurslot/engine/PriceLadderLevelPinLaw", "depthOf", "(ZJJJZZJ)I"⟩ : MethodName) method_5_code 12 (some .int) ws ({ frames := 1, cells := 0, slots := 0, locals := 20 } : Room) Z #[(.int z), (.long q0), (.long q1), (.long q2), (.int (0 : Int32)), (.int (1 : Int32)), (.long p0)] h0 (fun v h L => v = some (.int ((own_bet z q0 p0) + (own_bet z q2 p0))) ∧ Fr n0 L ∧ h = h0) := by
  refine own_body (plainFor_of_name pn_0) ?_
  intro p e s m below meth c s₁ X0 hx hby hml hown hnm hret hlk hZ e0
  replace hown : s.vm.findClass "com/example/kurslot/kurslot/engine/PriceLadderLevelPinLaw" = some m.cls := hown
  replace hml : c.maxLocals = 12 := hml
  replace hret : meth.sig.returnType = (some .int) := hret
  have N0 := Fr.nil n0
  have ef : entryFrame m #[(.int z), (.long q0), (.long q1), (.long q2), (.int (0 : Int32)), (.int (1 : Int32)), (.long p0)] 12 = mkF m 0 #[.val (.int z), .val (.long q0), .second, .val (.long q1), .second, .val (.long q2), .second, .val (.int (0 : Int32)), .val (.int (1 : Int32)), .val (.long p0), .second, .unset] [] := by first | (simp [entryFrame, mkF, argsToLocals, Value.category]; done) | rfl
  refine own_step (S' := (s₁.setTop (mkF m 0 #[.val (.int z), .val (.long q0), .second, .val (.long q1), .second, .val (.long q2), .second, .val (.int (0 : Int32)), .val (.int (1 : Int32)), .val (.long p0), .second, .unset] []))) (fun _ k => castTop ef k) ?_
  refine own_iloadN X0 hx (hb hby d11_0) rfl ?_
  refine own_lloadN X0 hx (hb hby d11_1) rfl ?_
  refine own_lload X0 hx (hb hby d11_2) rfl ?_
  refine own_cStat (W := 0) (rest := []) X0 hx hZ [(.int z), (.long q0), (.long p0)] hown (hw _ (List.mem_of_getElem? (i := 68) rfl)) (hw _ (List.mem_of_getElem? (i := 69) rfl)) (by decide) (hw _ (List.mem_of_getElem? (i := 70) rfl)) (hw _ (List.mem_of_getElem? (i := 2) rfl)) e0 (rmBt l Z a0 hw [] z q0 p0 h0 n0 Z0) (by rw [hml]; rfl) (lenOf pd_0 rfl) rfl (Nat.le_of_eq rfl) (hb hby d11_4) (by decide) (by decide) (by decide) (by decide) fun v15 T15 L15 X15 hQ15 => ?_
  obtain ⟨rfl, N15q, e15⟩ := hQ15
  have N15 := Fr.app N0 N15q
  show own_At p e below s _ _ _ T15 m 7 _ [(.int (own_bet z q0 p0))]
  refine own_istore (l' := #[.val (.int z), .val (.long q0), .second, .val (.long q1), .second, .val (.long q2), .second, .val (.int (0 : Int32)), .val (.int (1 : Int32)), .val (.long p0), .second, .val (.int (own_bet z q0 p0))]) X15 hx (hb hby d11_7) rfl ?_
  refine own_iload X15 hx (hb hby d11_9) rfl ?_
  refine own_ifYes X15 hx 26 (hb hby d11_11) (teq (by decide : (0 : Int32) = (0 : Int32))).1 (by decide) (by decide) ?_
  refine own_iload X15 hx (hb hby d11_26) rfl ?_
  refine own_ifNo X15 hx (hb hby d11_28) (feq (by decide : ¬ ((1 : Int32) = (0 : Int32)))).1 ?_
  refine own_iload X15 hx (hb hby d11_31) rfl ?_
  refine own_iloadN X15 hx (hb hby d11_33) rfl ?_
  refine own_lload X15 hx (hb hby d11_34) rfl ?_
  refine own_lload X15 hx (hb hby d11_36) rfl ?_
  refine own_cStat (W := 1) (rest := [(.int (own_bet z q0 p0))]) X15 hx hZ [(.int z), (.long q2), (.long p0)] hown (hw _ (List.mem_of_getElem? (i := 68) rfl)) (hw _ (List.mem_of_getElem? (i := 69) rfl)) (by decide) (hw _ (List.mem_of_getElem? (i := 70) rfl)) (hw _ (List.mem_of_getElem? (i := 2) rfl)) e15 (rmBt l Z a0 hw [] z q2 p0 h0 n0 Z0) (by rw [hml]; rfl) (lenOf pd_0 rfl) rfl (Nat.le_of_eq rfl) (hb hby d11_38) (by decide) (by decide) (by decide) (by decide) fun v16 T16 L16 X16 hQ16 => ?_
  obtain ⟨rfl, N16q, e16⟩ := hQ16
  have N16 := Fr.app N15 N16q
  show own_At p e below s _ _ _ T16 m 41 _ [(.int (own_bet z q2 p0)), (.int (own_bet z q0 p0))]
  refine own_iadd X16 hx (hb hby d11_41) ?_
  refine own_istore (l' := #[.val (.int z), .val (.long q0), .second, .val (.long q1), .second, .val (.long q2), .second, .val (.int (0 : Int32)), .val (.int (1 : Int32)), .val (.long p0), .second, .val (.int ((own_bet z q0 p0) + (own_bet z q2 p0)))]) X16 hx (hb hby d11_42) rfl ?_
  refine own_iload X16 hx (hb hby d11_44) rfl ?_
  refine own_retI X16 hx hlk hret (hb hby d11_46) (by decide) (by decide) ?_
  try rw [e16]
  exact ⟨rfl, N16, rfl⟩
set_option maxRecDepth 65536 in
set_option maxHeartbeats 40000000 in
theorem rmDep_10 (l : Launch) (Z : State) (a0 : Array Value) (hw : ∀ d ∈ tables_1, d.before a0 Z = true) (ws : List Jvm.Cond)  (z : Int32) (q0 : Int64) (q1 : Int64) (q2 : Int64) (p0 : Int64) (h0 : Heap) (n0 : Nat) (Z0 : n0 ≤ h0.size) :
    own_Met l (⟨"com/example/kurslot/kurslot/engine/PriceLadderLevelPinLaw", "depthOf", "(ZJJJZZJ)I"⟩ : MethodName) method_5_code 12 (some .int) ws ({ frames := 1, cells := 0, slots := 0, locals := 20 } : Room) Z #[(.int z), (.long q0), (.long q1), (.long q2), (.int (1 : Int32)), (.int (0 : Int32)), (.long p0)] h0 (fun v h L => v = some (.int ((own_bet z q0 p0) + (own_bet z q1 p0))) ∧ Fr n0 L ∧ h = h0) := by
  refine own_body (plainFor_of_name pn_0) ?_
  intro p e s m below meth c s₁ X0 hx hby hml hown hnm hret hlk hZ e0
  replace hown : s.vm.findClass "com/example/kurslot/kurslot/engine/PriceLadderLevelPinLaw" = some m.cls := hown
  replace hml : c.maxLocals = 12 := hml
  replace hret : meth.sig.returnType = (some .int) := hret
  have N0 := Fr.nil n0
  have ef : entryFrame m #[(.int z), (.long q0), (.long q1), (.long q2), (.int (1 : Int32)), (.int (0 : Int32)), (.long p0)] 12 = mkF m 0 #[.val (.int z), .val (.long q0), .second, .val (.long q1), .second, .val (.long q2), .second, .val (.int (1 : Int32)), .val (.int (0 : Int32)), .val (.long p0), .second, .unset] [] := by first | (simp [entryFrame, mkF, argsToLocals, Value.category]; done) | rfl
  refine own_step (S' := (s₁.setTop (mkF m 0 #[.val (.int z), .val (.long q0), .second, .val (.long q1), .second, .val (.long q2), .second, .val (.int (1 : Int32)), .val (.int (0 : Int32)), .val (.long p0), .second, .unset] []))) (fun _ k => castTop ef k) ?_
  refine own_iloadN X0 hx (hb hby d11_0) rfl ?_
  refine own_lloadN X0 hx (hb hby d11_1) rfl ?_
  refine own_lload X0 hx (hb hby d11_2) rfl ?_
  refine own_cStat (W := 0) (rest := []) X0 hx hZ [(.int z), (.long q0), (.long p0)] hown (hw _ (List.mem_of_getElem? (i := 68) rfl)) (hw _ (List.mem_of_getElem? (i := 69) rfl)) (by decide) (hw _ (List.mem_of_getElem? (i := 70) rfl)) (hw _ (List.mem_of_getElem? (i := 2) rfl)) e0 (rmBt l Z a0 hw [] z q0 p0 h0 n0 Z0) (by rw [hml]; rfl) (lenOf pd_0 rfl) rfl (Nat.le_of_eq rfl) (hb hby d11_4) (by decide) (by decide) (by decide) (by decide) fun v17 T17 L17 X17 hQ17 => ?_
  obtain ⟨rfl, N17q, e17⟩ := hQ17
  have N17 := Fr.app N0 N17q
  show own_At p e below s _ _ _ T17 m 7 _ [(.int (own_bet z q0 p0))]
  refine own_istore (l' := #[.val (.int z), .val (.long q0), .second, .val (.long q1), .second, .val (.long q2), .second, .val (.int (1 : Int32)), .val (.int (0 : Int32)), .val (.long p0), .second, .val (.int (own_bet z q0 p0))]) X17 hx (hb hby d11_7) rfl ?_
  refine own_iload X17 hx (hb hby d11_9) rfl ?_
  refine own_ifNo X17 hx (hb hby d11_11) (feq (by decide : ¬ ((1 : Int32) = (0 : Int32)))).1 ?_
  refine own_iload X17 hx (hb hby d11_14) rfl ?_
  refine own_iloadN X17 hx (hb hby d11_16) rfl ?_
  refine own_lloadN X17 hx (hb hby d11_17) rfl ?_
  refine own_lload X17 hx (hb hby d11_18) rfl ?_
  refine own_cStat (W := 1) (rest := [(.int (own_bet z q0 p0))]) X17 hx hZ [(.int z), (.long q1), (.long p0)] hown (hw _ (List.mem_of_getElem? (i := 68) rfl)) (hw _ (List.mem_of_getElem? (i := 69) rfl)) (by decide) (hw _ (List.mem_of_getElem? (i := 70) rfl)) (hw _ (List.mem_of_getElem? (i := 2) rfl)) e17 (rmBt l Z a0 hw [] z q1 p0 h0 n0 Z0) (by rw [hml]; rfl) (lenOf pd_0 rfl) rfl (Nat.le_of_eq rfl) (hb hby d11_20) (by decide) (by decide) (by decide) (by decide) fun v18 T18 L18 X18 hQ18 => ?_
  obtain ⟨rfl, N18q, e18⟩ := hQ18
  have N18 := Fr.app N17 N18q
  show own_At p e below s _ _ _ T18 m 23 _ [(.int (own_bet z q1 p0)), (.int (own_bet z q0 p0))]
  refine own_iadd X18 hx (hb hby d11_23) ?_
  refine own_istore (l' := #[.val (.int z), .val (.long q0), .second, .val (.long q1), .second, .val (.long q2), .second, .val (.int (1 : Int32)), .val (.int (0 : Int32)), .val (.long p0), .second, .val (.int ((own_bet z q0 p0) + (own_bet z q1 p0)))]) X18 hx (hb hby d11_24) rfl ?_
  refine own_iload X18 hx (hb hby d11_26) rfl ?_
  refine own_ifYes X18 hx 44 (hb hby d11_28) (teq (by decide : (0 : Int32) = (0 : Int32))).1 (by decide) (by decide) ?_
  refine own_iload X18 hx (hb hby d11_44) rfl ?_
  refine own_retI X18 hx hlk hret (hb hby d11_46) (by decide) (by decide) ?_
  try rw [e18]
  exact ⟨rfl, N18, rfl⟩
set_option maxRecDepth 65536 in
set_option maxHeartbeats 40000000 in
theorem rmDep_11 (l : Launch) (Z : State) (a0 : Array Value) (hw : ∀ d ∈ tables_1, d.before a0 Z = true) (ws : List Jvm.Cond)  (z : Int32) (q0 : Int64) (q1 : Int64) (q2 : Int64) (p0 : Int64) (h0 : Heap) (n0 : Nat) (Z0 : n0 ≤ h0.size) :
    own_Met l (⟨"com/example/kurslot/kurslot/engine/PriceLadderLevelPinLaw", "depthOf", "(ZJJJZZJ)I"⟩ : MethodName) method_5_code 12 (some .int) ws ({ frames := 1, cells := 0, slots := 0, locals := 20 } : Room) Z #[(.int z), (.long q0), (.long q1), (.long q2), (.int (1 : Int32)), (.int (1 : Int32)), (.long p0)] h0 (fun v h L => v = some (.int (((own_bet z q0 p0) + (own_bet z q1 p0)) + (own_bet z q2 p0))) ∧ Fr n0 L ∧ h = h0) := by
  refine own_body (plainFor_of_name pn_0) ?_
  intro p e s m below meth c s₁ X0 hx hby hml hown hnm hret hlk hZ e0
  replace hown : s.vm.findClass "com/example/kurslot/kurslot/engine/PriceLadderLevelPinLaw" = some m.cls := hown
  replace hml : c.maxLocals = 12 := hml
  replace hret : meth.sig.returnType = (some .int) := hret
  have N0 := Fr.nil n0
  have ef : entryFrame m #[(.int z), (.long q0), (.long q1), (.long q2), (.int (1 : Int32)), (.int (1 : Int32)), (.long p0)] 12 = mkF m 0 #[.val (.int z), .val (.long q0), .second, .val (.long q1), .second, .val (.long q2), .second, .val (.int (1 : Int32)), .val (.int (1 : Int32)), .val (.long p0), .second, .unset] [] := by first | (simp [entryFrame, mkF, argsToLocals, Value.category]; done) | rfl
  refine own_step (S' := (s₁.setTop (mkF m 0 #[.val (.int z), .val (.long q0), .second, .val (.long q1), .second, .val (.long q2), .second, .val (.int (1 : Int32)), .val (.int (1 : Int32)), .val (.long p0), .second, .unset] []))) (fun _ k => castTop ef k) ?_
  refine own_iloadN X0 hx (hb hby d11_0) rfl ?_
  refine own_lloadN X0 hx (hb hby d11_1) rfl ?_
  refine own_lload X0 hx (hb hby d11_2) rfl ?_
  refine own_cStat (W := 0) (rest := []) X0 hx hZ [(.int z), (.long q0), (.long p0)] hown (hw _ (List.mem_of_getElem? (i := 68) rfl)) (hw _ (List.mem_of_getElem? (i := 69) rfl)) (by decide) (hw _ (List.mem_of_getElem? (i := 70) rfl)) (hw _ (List.mem_of_getElem? (i := 2) rfl)) e0 (rmBt l Z a0 hw [] z q0 p0 h0 n0 Z0) (by rw [hml]; rfl) (lenOf pd_0 rfl) rfl (Nat.le_of_eq rfl) (hb hby d11_4) (by decide) (by decide) (by decide) (by decide) fun v19 T19 L19 X19 hQ19 => ?_
  obtain ⟨rfl, N19q, e19⟩ := hQ19
  have N19 := Fr.app N0 N19q
  show own_At p e below s _ _ _ T19 m 7 _ [(.int (own_bet z q0 p0))]
  refine own_istore (l' := #[.val (.int z), .val (.long q0), .second, .val (.long q1), .second, .val (.long q2), .second, .val (.int (1 : Int32)), .val (.int (1 : Int32)), .val (.long p0), .second, .val (.int (own_bet z q0 p0))]) X19 hx (hb hby d11_7) rfl ?_
  refine own_iload X19 hx (hb hby d11_9) rfl ?_
  refine own_ifNo X19 hx (hb hby d11_11) (feq (by decide : ¬ ((1 : Int32) = (0 : Int32)))).1 ?_
  refine own_iload X19 hx (hb hby d11_14) rfl ?_
  refine own_iloadN X19 hx (hb hby d11_16) rfl ?_
  refine own_lloadN X19 hx (hb hby d11_17) rfl ?_
  refine own_lload X19 hx (hb hby d11_18) rfl ?_
  refine own_cStat (W := 1) (rest := [(.int (own_bet z q0 p0))]) X19 hx hZ [(.int z), (.long q1), (.long p0)] hown (hw _ (List.mem_of_getElem? (i := 68) rfl)) (hw _ (List.mem_of_getElem? (i := 69) rfl)) (by decide) (hw _ (List.mem_of_getElem? (i := 70) rfl)) (hw _ (List.mem_of_getElem? (i := 2) rfl)) e19 (rmBt l Z a0 hw [] z q1 p0 h0 n0 Z0) (by rw [hml]; rfl) (lenOf pd_0 rfl) rfl (Nat.le_of_eq rfl) (hb hby d11_20) (by decide) (by decide) (by decide) (by decide) fun v20 T20 L20 X20 hQ20 => ?_
  obtain ⟨rfl, N20q, e20⟩ := hQ20
  have N20 := Fr.app N19 N20q
  show own_At p e below s _ _ _ T20 m 23 _ [(.int (own_bet z q1 p0)), (.int (own_bet z q0 p0))]
  refine own_iadd X20 hx (hb hby d11_23) ?_
  refine own_istore (l' := #[.val (.int z), .val (.long q0), .second, .val (.long q1), .second, .val (.long q2), .second, .val (.int (1 : Int32)), .val (.int (1 : Int32)), .val (.long p0), .second, .val (.int ((own_bet z q0 p0) + (own_bet z q1 p0)))]) X20 hx (hb hby d11_24) rfl ?_
  refine own_iload X20 hx (hb hby d11_26) rfl ?_
  refine own_ifNo X20 hx (hb hby d11_28) (feq (by decide : ¬ ((1 : Int32) = (0 : Int32)))).1 ?_
  refine own_iload X20 hx (hb hby d11_31) rfl ?_
  refine own_iloadN X20 hx (hb hby d11_33) rfl ?_
  refine own_lload X20 hx (hb hby d11_34) rfl ?_
  refine own_lload X20 hx (hb hby d11_36) rfl ?_
  refine own_cStat (W := 1) (rest := [(.int ((own_bet z q0 p0) + (own_bet z q1 p0)))]) X20 hx hZ [(.int z), (.long q2), (.long p0)] hown (hw _ (List.mem_of_getElem? (i := 68) rfl)) (hw _ (List.mem_of_getElem? (i := 69) rfl)) (by decide) (hw _ (List.mem_of_getElem? (i := 70) rfl)) (hw _ (List.mem_of_getElem? (i := 2) rfl)) e20 (rmBt l Z a0 hw [] z q2 p0 h0 n0 Z0) (by rw [hml]; rfl) (lenOf pd_0 rfl) rfl (Nat.le_of_eq rfl) (hb hby d11_38) (by decide) (by decide) (by decide) (by decide) fun v21 T21 L21 X21 hQ21 => ?_
  obtain ⟨rfl, N21q, e21⟩ := hQ21
  have N21 := Fr.app N20 N21q
  show own_At p e below s _ _ _ T21 m 41 _ [(.int (own_bet z q2 p0)), (.int ((own_bet z q0 p0) + (own_bet z q1 p0)))]
  refine own_iadd X21 hx (hb hby d11_41) ?_
  refine own_istore (l' := #[.val (.int z), .val (.long q0), .second, .val (.long q1), .second, .val (.long q2), .second, .val (.int (1 : Int32)), .val (.int (1 : Int32)), .val (.long p0), .second, .val (.int (((own_bet z q0 p0) + (own_bet z q1 p0)) + (own_bet z q2 p0)))]) X21 hx (hb hby d11_42) rfl ?_
  refine own_iload X21 hx (hb hby d11_44) rfl ?_
  refine own_retI X21 hx hlk hret (hb hby d11_46) (by decide) (by decide) ?_
  try rw [e21]
  exact ⟨rfl, N21, rfl⟩
/-- r is the rank of the price q on that side -/
def own_RK (z : Int32) (q r : Int64) : Prop := (z = (0 : Int32) ∧ r = (-q) ∧ ¬ q = (-9223372036854775808 : Int64)) ∨ (¬ z = (0 : Int32) ∧ r = q)
theorem own_betY {z : Int32} {x p rx rp : Int64} (hx : own_RK z x rx) (hp : own_RK z p rp) (q : rp < rx) : own_bet z x p = (1 : Int32) := by
  rcases hx with ⟨h1, rfl, h2⟩ | ⟨h1, rfl⟩ <;> rcases hp with ⟨h3, rfl, h4⟩ | ⟨h3, rfl⟩
  · have : x < p := by
      rcases own_tri x p with h | rfl | h
      · exact h
      · exact absurd q (own_irr _)
      · exact absurd q (own_asym (own_negLt h4 h2 h))
    simp [own_bet, h1, this]
  · exact absurd h1 h3
  · exact absurd h3 h1
  · simp [own_bet, h1, q]
theorem own_betN {z : Int32} {x p rx rp : Int64} (hx : own_RK z x rx) (hp : own_RK z p rp) (q : ¬ rp < rx) : own_bet z x p = (0 : Int32) := by
  rcases hx with ⟨h1, rfl, h2⟩ | ⟨h1, rfl⟩ <;> rcases hp with ⟨h3, rfl, h4⟩ | ⟨h3, rfl⟩
  · have : ¬ x < p := fun u => q (own_negLt h2 h4 u)
    simp [own_bet, h1, this]
  · exact absurd h1 h3
  · exact absurd h3 h1
  · simp [own_bet, h1, q]
theorem own_rkI {z : Int32} {x p r : Int64} (hx : own_RK z x r) (hp : own_RK z p r) : x = p := by
  rcases hx with ⟨h1, e1, h2⟩ | ⟨h1, e1⟩ <;> rcases hp with ⟨h3, e3, h4⟩ | ⟨h3, e3⟩
  · have h : -x = -p := e1.symm.trans e3
    have := congrArg (fun u => -u) h
    simpa using this
  · exact absurd h1 h3
  · exact absurd h3 h1
  · exact e1.symm.trans e3
theorem own_rkN {z : Int32} {x p rx rp : Int64} (hx : own_RK z x rx) (hp : own_RK z p rp) (q : ¬ rx = rp) : ¬ x = p := fun u => by
  subst u
  rcases hx with ⟨h1, e1, h2⟩ | ⟨h1, e1⟩ <;> rcases hp with ⟨h3, e3, h4⟩ | ⟨h3, e3⟩
  · exact q (e1.trans e3.symm)
  · exact absurd h1 h3
  · exact absurd h3 h1
  · exact q (e1.trans e3.symm)
theorem d10_0 : decode prog_27_method_2_code 0 = .ok (.aload_n 0, 1) := by decide +kernel
theorem d10_1 : decode prog_27_method_2_code 1 = .ok (.getfield 23, 3) := by decide +kernel
theorem d10_4 : decode prog_27_method_2_code 4 = .ok (.ireturn, 1) := by decide +kernel
set_option maxRecDepth 65536 in
set_option maxHeartbeats 40000000 in
theorem rmSize (l : Launch) (Z : State) (a0 : Array Value) (hw : ∀ d ∈ tables_1, d.before a0 Z = true) (ws : List Jvm.Cond) (o : Addr) (i : Int32)  (h0 : Heap) (n0 : Nat) (Z0 : n0 ≤ h0.size) (F1 : Fld Z h0 o "com/example/kurslot/kurslot/engine/PriceLadder" "size" "I" (.int i)) :
    own_Met l (⟨"com/example/kurslot/kurslot/engine/PriceLadder", "size", "()I"⟩ : MethodName) prog_27_method_2_code 1 (some .int) ws ({ frames := 0, cells := 0, slots := 0, locals := 0 } : Room) Z #[(.ref o)] h0 (fun v h L => v = some (.int i) ∧ Fr n0 L ∧ h = h0) := by
  refine own_body (plainFor_of_name pn_1) ?_
  intro p e s m below meth c s₁ X0 hx hby hml hown hnm hret hlk hZ e0
  replace hown : s.vm.findClass "com/example/kurslot/kurslot/engine/PriceLadder" = some m.cls := hown
  replace hml : c.maxLocals = 1 := hml
  replace hret : meth.sig.returnType = (some .int) := hret
  have N0 := Fr.nil n0
  have ef : entryFrame m #[(.ref o)] 1 = mkF m 0 #[.val (.ref o)] [] := by first | (simp [entryFrame, mkF, argsToLocals, Value.category]; done) | rfl
  refine own_step (S' := (s₁.setTop (mkF m 0 #[.val (.ref o)] []))) (fun _ k => castTop ef k) ?_
  refine own_aloadN X0 hx (hb hby d10_0) rfl rfl ?_
  refine own_getF X0 hx hZ hown (host := "") (Or.inl (hw _ (List.mem_of_getElem? (i := 37) rfl))) Via.refl e0 F1 (hb hby d10_1) fun T22 X22 e22 => ?_
  refine own_retI X22 hx hlk hret (hb hby d10_4) (by decide) (by decide) ?_
  try rw [e22]
  exact ⟨rfl, N0, rfl⟩
theorem d13_0 : decode prog_27_method_4_code 0 = .ok (.aload_n 0, 1) := by decide +kernel
theorem d13_1 : decode prog_27_method_4_code 1 = .ok (.getfield 15, 3) := by decide +kernel
theorem d13_4 : decode prog_27_method_4_code 4 = .ok (.aload_n 0, 1) := by decide +kernel
theorem d13_5 : decode prog_27_method_4_code 5 = .ok (.getfield 23, 3) := by decide +kernel
theorem d13_8 : decode prog_27_method_4_code 8 = .ok (.iconst 1, 1) := by decide +kernel
theorem d13_9 : decode prog_27_method_4_code 9 = .ok (.isub, 1) := by decide +kernel
theorem d13_10 : decode prog_27_method_4_code 10 = .ok (.iload_n 1, 1) := by decide +kernel
theorem d13_11 : decode prog_27_method_4_code 11 = .ok (.isub, 1) := by decide +kernel
theorem d13_12 : decode prog_27_method_4_code 12 = .ok (.aaload, 1) := by decide +kernel
theorem d13_13 : decode prog_27_method_4_code 13 = .ok (.areturn, 1) := by decide +kernel
set_option maxRecDepth 65536 in
set_option maxHeartbeats 40000000 in
theorem rmLev_1_0 (l : Launch) (Z : State) (a0 : Array Value) (hw : ∀ d ∈ tables_1, d.before a0 Z = true) (ws : List Jvm.Cond) (o ra la sd : Addr) (kr kl : ClassId) (r0 : Int64) (l0 : Addr)  (h0 : Heap) (n0 : Nat) (Z0 : n0 ≤ h0.size) (LD : own_Lad1 Z h0 o ra la sd kr kl r0 l0) :
    own_Met l (⟨"com/example/kurslot/kurslot/engine/PriceLadder", "level", "(I)Lcom/example/kurslot/kurslot/engine/PriceLevel;"⟩ : MethodName) prog_27_method_4_code 2 (some (.object "com/example/kurslot/kurslot/engine/PriceLevel")) ws ({ frames := 0, cells := 0, slots := 0, locals := 0 } : Room) Z #[(.ref o), (.int (0 : Int32))] h0 (fun v h L => v = some (.ref l0) ∧ Fr n0 L ∧ h = h0) := by
  refine own_body (plainFor_of_name pn_1) ?_
  intro p e s m below meth c s₁ X0 hx hby hml hown hnm hret hlk hZ e0
  replace hown : s.vm.findClass "com/example/kurslot/kurslot/engine/PriceLadder" = some m.cls := hown
  replace hml : c.maxLocals = 2 := hml
  replace hret : meth.sig.returnType = (some (.object "com/example/kurslot/kurslot/engine/PriceLevel")) := hret
  have N0 := Fr.nil n0
  have ef : entryFrame m #[(.ref o), (.int (0 : Int32))] 2 = mkF m 0 #[.val (.ref o), .val (.int (0 : Int32))] [] := by first | (simp [entryFrame, mkF, argsToLocals, Value.category]; done) | rfl
  refine own_step (S' := (s₁.setTop (mkF m 0 #[.val (.ref o), .val (.int (0 : Int32))] []))) (fun _ k => castTop ef k) ?_
  obtain ⟨Eo, Fr_, Fl_, Fz_, Fs_, Era, Ela, Vr, Vl, Ov, El0⟩ := LD
  refine own_aloadN X0 hx (hb hby d13_0) rfl rfl ?_
  refine own_getF X0 hx hZ hown (host := "") (Or.inl (hw _ (List.mem_of_getElem? (i := 22) rfl))) Via.refl e0 Fl_ (hb hby d13_1) fun T23 X23 e23 => ?_
  refine own_aloadN X23 hx (hb hby d13_4) rfl rfl ?_
  refine own_getF X23 hx hZ hown (host := "") (Or.inl (hw _ (List.mem_of_getElem? (i := 37) rfl))) Via.refl e23 Fz_ (hb hby d13_5) fun T24 X24 e24 => ?_
  refine own_iconst X24 hx (1 : Int32) (hb hby d13_8) rfl ?_
  refine own_isub X24 hx (hb hby d13_9) ?_
  rw [show ((1 : Int32) - (1 : Int32)) = (0 : Int32) from by decide]
  refine own_iloadN X24 hx (hb hby d13_10) rfl ?_
  refine own_isub X24 hx (hb hby d13_11) ?_
  rw [show ((0 : Int32) - (0 : Int32)) = (0 : Int32) from by decide]
  refine own_aaload X24 hx hZ (.ref l0) e24 Vl rfl ⟨by decide, by decide⟩ rfl (hb hby d13_12) ?_
  refine own_retA X24 hx hlk hret rfl rfl rfl (hb hby d13_13) (by decide) (by decide) ?_
  try rw [e24]
  exact ⟨rfl, N0, rfl⟩
set_option maxRecDepth 65536 in
set_option maxHeartbeats 40000000 in
theorem rmLev_2_0 (l : Launch) (Z : State) (a0 : Array Value) (hw : ∀ d ∈ tables_1, d.before a0 Z = true) (ws : List Jvm.Cond) (o ra la sd : Addr) (kr kl : ClassId) (r0 r1 : Int64) (l0 l1 : Addr)  (h0 : Heap) (n0 : Nat) (Z0 : n0 ≤ h0.size) (LD : own_Lad2 Z h0 o ra la sd kr kl r0 r1 l0 l1) :
    own_Met l (⟨"com/example/kurslot/kurslot/engine/PriceLadder", "level", "(I)Lcom/example/kurslot/kurslot/engine/PriceLevel;"⟩ : MethodName) prog_27_method_4_code 2 (some (.object "com/example/kurslot/kurslot/engine/PriceLevel")) ws ({ frames := 0, cells := 0, slots := 0, locals := 0 } : Room) Z #[(.ref o), (.int (0 : Int32))] h0 (fun v h L => v = some (.ref l1) ∧ Fr n0 L ∧ h = h0) := by
  refine own_body (plainFor_of_name pn_1) ?_
  intro p e s m below meth c s₁ X0 hx hby hml hown hnm hret hlk hZ e0
  replace hown : s.vm.findClass "com/example/kurslot/kurslot/engine/PriceLadder" = some m.cls := hown
  replace hml : c.maxLocals = 2 := hml
  replace hret : meth.sig.returnType = (some (.object "com/example/kurslot/kurslot/engine/PriceLevel")) := hret
  have N0 := Fr.nil n0
  have ef : entryFrame m #[(.ref o), (.int (0 : Int32))] 2 = mkF m 0 #[.val (.ref o), .val (.int (0 : Int32))] [] := by first | (simp [entryFrame, mkF, argsToLocals, Value.category]; done) | rfl
  refine own_step (S' := (s₁.setTop (mkF m 0 #[.val (.ref o), .val (.int (0 : Int32))] []))) (fun _ k => castTop ef k) ?_
  obtain ⟨Eo, Fr_, Fl_, Fz_, Fs_, Era, Ela, Vr, Vl, Ov, El0, El1⟩ := LD
  refine own_aloadN X0 hx (hb hby d13_0) rfl rfl ?_
  refine own_getF X0 hx hZ hown (host := "") (Or.inl (hw _ (List.mem_of_getElem? (i := 22) rfl))) Via.refl e0 Fl_ (hb hby d13_1) fun T25 X25 e25 => ?_
  refine own_aloadN X25 hx (hb hby d13_4) rfl rfl ?_
  refine own_getF X25 hx hZ hown (host := "") (Or.inl (hw _ (List.mem_of_getElem? (i := 37) rfl))) Via.refl e25 Fz_ (hb hby d13_5) fun T26 X26 e26 => ?_
  refine own_iconst X26 hx (1 : Int32) (hb hby d13_8) rfl ?_
  refine own_isub X26 hx (hb hby d13_9) ?_
  rw [show ((2 : Int32) - (1 : Int32)) = (1 : Int32) from by decide]
  refine own_iloadN X26 hx (hb hby d13_10) rfl ?_
  refine own_isub X26 hx (hb hby d13_11) ?_
  rw [show ((1 : Int32) - (0 : Int32)) = (1 : Int32) from by decide]
  refine own_aaload X26 hx hZ (.ref l1) e26 Vl rfl ⟨by decide, by decide⟩ rfl (hb hby d13_12) ?_
  refine own_retA X26 hx hlk hret rfl rfl rfl (hb hby d13_13) (by decide) (by decide) ?_
  try rw [e26]
  exact ⟨rfl, N0, rfl⟩
set_option maxRecDepth 65536 in
set_option maxHeartbeats 40000000 in
theorem rmLev_2_1 (l : Launch) (Z : State) (a0 : Array Value) (hw : ∀ d ∈ tables_1, d.before a0 Z = true) (ws : List Jvm.Cond) (o ra la sd : Addr) (kr kl : ClassId) (r0 r1 : Int64) (l0 l1 : Addr)  (h0 : Heap) (n0 : Nat) (Z0 : n0 ≤ h0.size) (LD : own_Lad2 Z h0 o ra la sd kr kl r0 r1 l0 l1) :
    own_Met l (⟨"com/example/kurslot/kurslot/engine/PriceLadder", "level", "(I)Lcom/example/kurslot/kurslot/engine/PriceLevel;"⟩ : MethodName) prog_27_method_4_code 2 (some (.object "com/example/kurslot/kurslot/engine/PriceLevel")) ws ({ frames := 0, cells := 0, slots := 0, locals := 0 } : Room) Z #[(.ref o), (.int (1 : Int32))] h0 (fun v h L => v = some (.ref l0) ∧ Fr n0 L ∧ h = h0) := by
  refine own_body (plainFor_of_name pn_1) ?_
  intro p e s m below meth c s₁ X0 hx hby hml hown hnm hret hlk hZ e0
  replace hown : s.vm.findClass "com/example/kurslot/kurslot/engine/PriceLadder" = some m.cls := hown
  replace hml : c.maxLocals = 2 := hml
  replace hret : meth.sig.returnType = (some (.object "com/example/kurslot/kurslot/engine/PriceLevel")) := hret
  have N0 := Fr.nil n0
  have ef : entryFrame m #[(.ref o), (.int (1 : Int32))] 2 = mkF m 0 #[.val (.ref o), .val (.int (1 : Int32))] [] := by first | (simp [entryFrame, mkF, argsToLocals, Value.category]; done) | rfl
  refine own_step (S' := (s₁.setTop (mkF m 0 #[.val (.ref o), .val (.int (1 : Int32))] []))) (fun _ k => castTop ef k) ?_
  obtain ⟨Eo, Fr_, Fl_, Fz_, Fs_, Era, Ela, Vr, Vl, Ov, El0, El1⟩ := LD
  refine own_aloadN X0 hx (hb hby d13_0) rfl rfl ?_
  refine own_getF X0 hx hZ hown (host := "") (Or.inl (hw _ (List.mem_of_getElem? (i := 22) rfl))) Via.refl e0 Fl_ (hb hby d13_1) fun T27 X27 e27 => ?_
  refine own_aloadN X27 hx (hb hby d13_4) rfl rfl ?_
  refine own_getF X27 hx hZ hown (host := "") (Or.inl (hw _ (List.mem_of_getElem? (i := 37) rfl))) Via.refl e27 Fz_ (hb hby d13_5) fun T28 X28 e28 => ?_
  refine own_iconst X28 hx (1 : Int32) (hb hby d13_8) rfl ?_
  refine own_isub X28 hx (hb hby d13_9) ?_
  rw [show ((2 : Int32) - (1 : Int32)) = (1 : Int32) from by decide]
  refine own_iloadN X28 hx (hb hby d13_10) rfl ?_
  refine own_isub X28 hx (hb hby d13_11) ?_
  rw [show ((1 : Int32) - (1 : Int32)) = (0 : Int32) from by decide]
  refine own_aaload X28 hx hZ (.ref l0) e28 Vl rfl ⟨by decide, by decide⟩ rfl (hb hby d13_12) ?_
  refine own_retA X28 hx hlk hret rfl rfl rfl (hb hby d13_13) (by decide) (by decide) ?_
  try rw [e28]
  exact ⟨rfl, N0, rfl⟩
set_option maxRecDepth 65536 in
set_option maxHeartbeats 40000000 in
theorem rmLev_3_0 (l : Launch) (Z : State) (a0 : Array Value) (hw : ∀ d ∈ tables_1, d.before a0 Z = true) (ws : List Jvm.Cond) (o ra la sd : Addr) (kr kl : ClassId) (r0 r1 r2 : Int64) (l0 l1 l2 : Addr)  (h0 : Heap) (n0 : Nat) (Z0 : n0 ≤ h0.size) (LD : own_Lad3 Z h0 o ra la sd kr kl r0 r1 r2 l0 l1 l2) :
    own_Met l (⟨"com/example/kurslot/kurslot/engine/PriceLadder", "level", "(I)Lcom/example/kurslot/kurslot/engine/PriceLevel;"⟩ : MethodName) prog_27_method_4_code 2 (some (.object "com/example/kurslot/kurslot/engine/PriceLevel")) ws ({ frames := 0, cells := 0, slots := 0, locals := 0 } : Room) Z #[(.ref o), (.int (0 : Int32))] h0 (fun v h L => v = some (.ref l2) ∧ Fr n0 L ∧ h = h0) := by
  refine own_body (plainFor_of_name pn_1) ?_
  intro p e s m below meth c s₁ X0 hx hby hml hown hnm hret hlk hZ e0
  replace hown : s.vm.findClass "com/example/kurslot/kurslot/engine/PriceLadder" = some m.cls := hown
  replace hml : c.maxLocals = 2 := hml
  replace hret : meth.sig.returnType = (some (.object "com/example/kurslot/kurslot/engine/PriceLevel")) := hret
  have N0 := Fr.nil n0
  have ef : entryFrame m #[(.ref o), (.int (0 : Int32))] 2 = mkF m 0 #[.val (.ref o), .val (.int (0 : Int32))] [] := by first | (simp [entryFrame, mkF, argsToLocals, Value.category]; done) | rfl
  refine own_step (S' := (s₁.setTop (mkF m 0 #[.val (.ref o), .val (.int (0 : Int32))] []))) (fun _ k => castTop ef k) ?_
  obtain ⟨Eo, Fr_, Fl_, Fz_, Fs_, Era, Ela, Vr, Vl, Ov, El0, El1, El2⟩ := LD
  refine own_aloadN X0 hx (hb hby d13_0) rfl rfl ?_
  refine own_getF X0 hx hZ hown (host := "") (Or.inl (hw _ (List.mem_of_getElem? (i := 22) rfl))) Via.refl e0 Fl_ (hb hby d13_1) fun T29 X29 e29 => ?_
  refine own_aloadN X29 hx (hb hby d13_4) rfl rfl ?_
  refine own_getF X29 hx hZ hown (host := "") (Or.inl (hw _ (List.mem_of_getElem? (i := 37) rfl))) Via.refl e29 Fz_ (hb hby d13_5) fun T30 X30 e30 => ?_
  refine own_iconst X30 hx (1 : Int32) (hb hby d13_8) rfl ?_
  refine own_isub X30 hx (hb hby d13_9) ?_
  rw [show ((3 : Int32) - (1 : Int32)) = (2 : Int32) from by decide]
  refine own_iloadN X30 hx (hb hby d13_10) rfl ?_
  refine own_isub X30 hx (hb hby d13_11) ?_
  rw [show ((2 : Int32) - (0 : Int32)) = (2 : Int32) from by decide]
  refine own_aaload X30 hx hZ (.ref l2) e30 Vl rfl ⟨by decide, by decide⟩ rfl (hb hby d13_12) ?_
  refine own_retA X30 hx hlk hret rfl rfl rfl (hb hby d13_13) (by decide) (by decide) ?_
  try rw [e30]
  exact ⟨rfl, N0, rfl⟩
set_option maxRecDepth 65536 in
set_option maxHeartbeats 40000000 in
theorem rmLev_3_1 (l : Launch) (Z : State) (a0 : Array Value) (hw : ∀ d ∈ tables_1, d.before a0 Z = true) (ws : List Jvm.Cond) (o ra la sd : Addr) (kr kl : ClassId) (r0 r1 r2 : Int64) (l0 l1 l2 : Addr)  (h0 : Heap) (n0 : Nat) (Z0 : n0 ≤ h0.size) (LD : own_Lad3 Z h0 o ra la sd kr kl r0 r1 r2 l0 l1 l2) :
    own_Met l (⟨"com/example/kurslot/kurslot/engine/PriceLadder", "level", "(I)Lcom/example/kurslot/kurslot/engine/PriceLevel;"⟩ : MethodName) prog_27_method_4_code 2 (some (.object "com/example/kurslot/kurslot/engine/PriceLevel")) ws ({ frames := 0, cells := 0, slots := 0, locals := 0 } : Room) Z #[(.ref o), (.int (1 : Int32))] h0 (fun v h L => v = some (.ref l1) ∧ Fr n0 L ∧ h = h0) := by
  refine own_body (plainFor_of_name pn_1) ?_
  intro p e s m below meth c s₁ X0 hx hby hml hown hnm hret hlk hZ e0
  replace hown : s.vm.findClass "com/example/kurslot/kurslot/engine/PriceLadder" = some m.cls := hown
  replace hml : c.maxLocals = 2 := hml
  replace hret : meth.sig.returnType = (some (.object "com/example/kurslot/kurslot/engine/PriceLevel")) := hret
  have N0 := Fr.nil n0
  have ef : entryFrame m #[(.ref o), (.int (1 : Int32))] 2 = mkF m 0 #[.val (.ref o), .val (.int (1 : Int32))] [] := by first | (simp [entryFrame, mkF, argsToLocals, Value.category]; done) | rfl
  refine own_step (S' := (s₁.setTop (mkF m 0 #[.val (.ref o), .val (.int (1 : Int32))] []))) (fun _ k => castTop ef k) ?_
  obtain ⟨Eo, Fr_, Fl_, Fz_, Fs_, Era, Ela, Vr, Vl, Ov, El0, El1, El2⟩ := LD
  refine own_aloadN X0 hx (hb hby d13_0) rfl rfl ?_
  refine own_getF X0 hx hZ hown (host := "") (Or.inl (hw _ (List.mem_of_getElem? (i := 22) rfl))) Via.refl e0 Fl_ (hb hby d13_1) fun T31 X31 e31 => ?_
  refine own_aloadN X31 hx (hb hby d13_4) rfl rfl ?_
  refine own_getF X31 hx hZ hown (host := "") (Or.inl (hw _ (List.mem_of_getElem? (i := 37) rfl))) Via.refl e31 Fz_ (hb hby d13_5) fun T32 X32 e32 => ?_
  refine own_iconst X32 hx (1 : Int32) (hb hby d13_8) rfl ?_
  refine own_isub X32 hx (hb hby d13_9) ?_
  rw [show ((3 : Int32) - (1 : Int32)) = (2 : Int32) from by decide]
  refine own_iloadN X32 hx (hb hby d13_10) rfl ?_
  refine own_isub X32 hx (hb hby d13_11) ?_
  rw [show ((2 : Int32) - (1 : Int32)) = (1 : Int32) from by decide]
  refine own_aaload X32 hx hZ (.ref l1) e32 Vl rfl ⟨by decide, by decide⟩ rfl (hb hby d13_12) ?_
  refine own_retA X32 hx hlk hret rfl rfl rfl (hb hby d13_13) (by decide) (by decide) ?_
  try rw [e32]
  exact ⟨rfl, N0, rfl⟩
set_option maxRecDepth 65536 in
set_option maxHeartbeats 40000000 in
theorem rmLev_3_2 (l : Launch) (Z : State) (a0 : Array Value) (hw : ∀ d ∈ tables_1, d.before a0 Z = true) (ws : List Jvm.Cond) (o ra la sd : Addr) (kr kl : ClassId) (r0 r1 r2 : Int64) (l0 l1 l2 : Addr)  (h0 : Heap) (n0 : Nat) (Z0 : n0 ≤ h0.size) (LD : own_Lad3 Z h0 o ra la sd kr kl r0 r1 r2 l0 l1 l2) :
    own_Met l (⟨"com/example/kurslot/kurslot/engine/PriceLadder", "level", "(I)Lcom/example/kurslot/kurslot/engine/PriceLevel;"⟩ : MethodName) prog_27_method_4_code 2 (some (.object "com/example/kurslot/kurslot/engine/PriceLevel")) ws ({ frames := 0, cells := 0, slots := 0, locals := 0 } : Room) Z #[(.ref o), (.int (2 : Int32))] h0 (fun v h L => v = some (.ref l0) ∧ Fr n0 L ∧ h = h0) := by
  refine own_body (plainFor_of_name pn_1) ?_
  intro p e s m below meth c s₁ X0 hx hby hml hown hnm hret hlk hZ e0
  replace hown : s.vm.findClass "com/example/kurslot/kurslot/engine/PriceLadder" = some m.cls := hown
  replace hml : c.maxLocals = 2 := hml
  replace hret : meth.sig.returnType = (some (.object "com/example/kurslot/kurslot/engine/PriceLevel")) := hret
  have N0 := Fr.nil n0
  have ef : entryFrame m #[(.ref o), (.int (2 : Int32))] 2 = mkF m 0 #[.val (.ref o), .val (.int (2 : Int32))] [] := by first | (simp [entryFrame, mkF, argsToLocals, Value.category]; done) | rfl
  refine own_step (S' := (s₁.setTop (mkF m 0 #[.val (.ref o), .val (.int (2 : Int32))] []))) (fun _ k => castTop ef k) ?_
  obtain ⟨Eo, Fr_, Fl_, Fz_, Fs_, Era, Ela, Vr, Vl, Ov, El0, El1, El2⟩ := LD
  refine own_aloadN X0 hx (hb hby d13_0) rfl rfl ?_
  refine own_getF X0 hx hZ hown (host := "") (Or.inl (hw _ (List.mem_of_getElem? (i := 22) rfl))) Via.refl e0 Fl_ (hb hby d13_1) fun T33 X33 e33 => ?_
  refine own_aloadN X33 hx (hb hby d13_4) rfl rfl ?_
  refine own_getF X33 hx hZ hown (host := "") (Or.inl (hw _ (List.mem_of_getElem? (i := 37) rfl))) Via.refl e33 Fz_ (hb hby d13_5) fun T34 X34 e34 => ?_
  refine own_iconst X34 hx (1 : Int32) (hb hby d13_8) rfl ?_
  refine own_isub X34 hx (hb hby d13_9) ?_
  rw [show ((3 : Int32) - (1 : Int32)) = (2 : Int32) from by decide]
  refine own_iloadN X34 hx (hb hby d13_10) rfl ?_
  refine own_isub X34 hx (hb hby d13_11) ?_
  rw [show ((2 : Int32) - (2 : Int32)) = (0 : Int32) from by decide]
  refine own_aaload X34 hx hZ (.ref l0) e34 Vl rfl ⟨by decide, by decide⟩ rfl (hb hby d13_12) ?_
  refine own_retA X34 hx hlk hret rfl rfl rfl (hb hby d13_13) (by decide) (by decide) ?_
  try rw [e34]
  exact ⟨rfl, N0, rfl⟩
theorem d7_0 : decode jdk_65_method_30_code 0 = .ok (.iload_n 1, 1) := by decide +kernel
theorem d7_1 : decode jdk_65_method_30_code 1 = .ok (.iload_n 2, 1) := by decide +kernel
theorem d7_2 : decode jdk_65_method_30_code 2 = .ok (.if_icmp .le 44, 3) := by decide +kernel
theorem d7_5 : decode jdk_65_method_30_code 5 = .ok (.new 43, 3) := by decide +kernel
theorem d7_8 : decode jdk_65_method_30_code 8 = .ok (.dup, 1) := by decide +kernel
theorem d7_9 : decode jdk_65_method_30_code 9 = .ok (.new 45, 3) := by decide +kernel
theorem d7_12 : decode jdk_65_method_30_code 12 = .ok (.dup, 1) := by decide +kernel
theorem d7_13 : decode jdk_65_method_30_code 13 = .ok (.invokespecial 47, 3) := by decide +kernel
theorem d7_16 : decode jdk_65_method_30_code 16 = .ok (.ldc 48, 2) := by decide +kernel
theorem d7_18 : decode jdk_65_method_30_code 18 = .ok (.invokevirtual 50, 3) := by decide +kernel
theorem d7_21 : decode jdk_65_method_30_code 21 = .ok (.iload_n 1, 1) := by decide +kernel
theorem d7_22 : decode jdk_65_method_30_code 22 = .ok (.invokevirtual 54, 3) := by decide +kernel
theorem d7_25 : decode jdk_65_method_30_code 25 = .ok (.ldc 57, 2) := by decide +kernel
theorem d7_27 : decode jdk_65_method_30_code 27 = .ok (.invokevirtual 50, 3) := by decide +kernel
theorem d7_30 : decode jdk_65_method_30_code 30 = .ok (.iload_n 2, 1) := by decide +kernel
theorem d7_31 : decode jdk_65_method_30_code 31 = .ok (.invokevirtual 54, 3) := by decide +kernel
theorem d7_34 : decode jdk_65_method_30_code 34 = .ok (.ldc 59, 2) := by decide +kernel
theorem d7_36 : decode jdk_65_method_30_code 36 = .ok (.invokevirtual 50, 3) := by decide +kernel
theorem d7_39 : decode jdk_65_method_30_code 39 = .ok (.invokevirtual 61, 3) := by decide +kernel
theorem d7_42 : decode jdk_65_method_30_code 42 = .ok (.invokespecial 65, 3) := by decide +kernel
theorem d7_45 : decode jdk_65_method_30_code 45 = .ok (.athrow, 1) := by decide +kernel
theorem d7_46 : decode jdk_65_method_30_code 46 = .ok (.iload_n 1, 1) := by decide +kernel
theorem d7_47 : decode jdk_65_method_30_code 47 = .ok (.ifCond .ge 12, 3) := by decide +kernel
theorem d7_50 : decode jdk_65_method_30_code 50 = .ok (.new 68, 3) := by decide +kernel
theorem d7_53 : decode jdk_65_method_30_code 53 = .ok (.dup, 1) := by decide +kernel
theorem d7_54 : decode jdk_65_method_30_code 54 = .ok (.iload_n 1, 1) := by decide +kernel
theorem d7_55 : decode jdk_65_method_30_code 55 = .ok (.invokespecial 70, 3) := by decide +kernel
theorem d7_58 : decode jdk_65_method_30_code 58 = .ok (.athrow, 1) := by decide +kernel
theorem d7_59 : decode jdk_65_method_30_code 59 = .ok (.iload_n 2, 1) := by decide +kernel
theorem d7_60 : decode jdk_65_method_30_code 60 = .ok (.iload_n 0, 1) := by decide +kernel
theorem d7_61 : decode jdk_65_method_30_code 61 = .ok (.if_icmp .le 12, 3) := by decide +kernel
theorem d7_64 : decode jdk_65_method_30_code 64 = .ok (.new 68, 3) := by decide +kernel
theorem d7_67 : decode jdk_65_method_30_code 67 = .ok (.dup, 1) := by decide +kernel
theorem d7_68 : decode jdk_65_method_30_code 68 = .ok (.iload_n 2, 1) := by decide +kernel
theorem d7_69 : decode jdk_65_method_30_code 69 = .ok (.invokespecial 70, 3) := by decide +kernel
theorem d7_72 : decode jdk_65_method_30_code 72 = .ok (.athrow, 1) := by decide +kernel
theorem d7_73 : decode jdk_65_method_30_code 73 = .ok (.return_, 1) := by decide +kernel
theorem pn_2 : plainName "java/util/Arrays" = true := by first | (simp [plainName, overriddenIn]; done) | decide +kernel
set_option maxRecDepth 65536 in
set_option maxHeartbeats 40000000 in
theorem rmRC_0 (l : Launch) (Z : State) (a0 : Array Value) (hw : ∀ d ∈ tables_1, d.before a0 Z = true) (ws : List Jvm.Cond)   (h0 : Heap) (n0 : Nat) (Z0 : n0 ≤ h0.size) :
    own_Met l (⟨"java/util/Arrays", "rangeCheck", "(III)V"⟩ : MethodName) jdk_65_method_30_code 3 none ws ({ frames := 0, cells := 0, slots := 0, locals := 0 } : Room) Z #[(.int (16 : Int32)), (.int (0 : Int32)), (.int (0 : Int32))] h0 (fun v h L => v = none ∧ Fr n0 L ∧ h = h0) := by
  refine own_body (plainFor_of_name pn_2) ?_
  intro p e s m below meth c s₁ X0 hx hby hml hown hnm hret hlk hZ e0
  replace hown : s.vm.findClass "java/util/Arrays" = some m.cls := hown
  replace hml : c.maxLocals = 3 := hml
  replace hret : meth.sig.returnType = none := hret
  have N0 := Fr.nil n0
  have ef : entryFrame m #[(.int (16 : Int32)), (.int (0 : Int32)), (.int (0 : Int32))] 3 = mkF m 0 #[.val (.int (16 : Int32)), .val (.int (0 : Int32)), .val (.int (0 : Int32))] [] := by first | (simp [entryFrame, mkF, argsToLocals, Value.category]; done) | rfl
  refine own_step (S' := (s₁.setTop (mkF m 0 #[.val (.int (16 : Int32)), .val (.int (0 : Int32)), .val (.int (0 : Int32))] []))) (fun _ k => castTop ef k) ?_
  refine own_iloadN X0 hx (hb hby d7_0) rfl ?_
  refine own_iloadN X0 hx (hb hby d7_1) rfl ?_
  refine own_icmpYes X0 hx 46 (hb hby d7_2) (flt (by decide : ¬ ((0 : Int32) < (0 : Int32)))).2.2.2 (by decide) (by decide) ?_
  refine own_iloadN X0 hx (hb hby d7_46) rfl ?_
  refine own_ifYes X0 hx 59 (hb hby d7_47) (flt (by decide : ¬ ((0 : Int32) < (0 : Int32)))).2.1 (by decide) (by decide) ?_
  refine own_iloadN X0 hx (hb hby d7_59) rfl ?_
  refine own_iloadN X0 hx (hb hby d7_60) rfl ?_
  refine own_icmpYes X0 hx 73 (hb hby d7_61) (flt (by decide : ¬ ((16 : Int32) < (0 : Int32)))).2.2.2 (by decide) (by decide) ?_
  refine own_retV X0 hx hlk hret (hb hby d7_73) (by decide) (by decide) ?_
  try rw [e0]
  exact ⟨rfl, N0, rfl⟩
set_option maxRecDepth 65536 in
set_option maxHeartbeats 40000000 in
theorem rmRC_1 (l : Launch) (Z : State) (a0 : Array Value) (hw : ∀ d ∈ tables_1, d.before a0 Z = true) (ws : List Jvm.Cond)   (h0 : Heap) (n0 : Nat) (Z0 : n0 ≤ h0.size) :
    own_Met l (⟨"java/util/Arrays", "rangeCheck", "(III)V"⟩ : MethodName) jdk_65_method_30_code 3 none ws ({ frames := 0, cells := 0, slots := 0, locals := 0 } : Room) Z #[(.int (16 : Int32)), (.int (0 : Int32)), (.int (1 : Int32))] h0 (fun v h L => v = none ∧ Fr n0 L ∧ h = h0) := by
  refine own_body (plainFor_of_name pn_2) ?_
  intro p e s m below meth c s₁ X0 hx hby hml hown hnm hret hlk hZ e0
  replace hown : s.vm.findClass "java/util/Arrays" = some m.cls := hown
  replace hml : c.maxLocals = 3 := hml
  replace hret : meth.sig.returnType = none := hret
  have N0 := Fr.nil n0
  have ef : entryFrame m #[(.int (16 : Int32)), (.int (0 : Int32)), (.int (1 : Int32))] 3 = mkF m 0 #[.val (.int (16 : Int32)), .val (.int (0 : Int32)), .val (.int (1 : Int32))] [] := by first | (simp [entryFrame, mkF, argsToLocals, Value.category]; done) | rfl
  refine own_step (S' := (s₁.setTop (mkF m 0 #[.val (.int (16 : Int32)), .val (.int (0 : Int32)), .val (.int (1 : Int32))] []))) (fun _ k => castTop ef k) ?_
  refine own_iloadN X0 hx (hb hby d7_0) rfl ?_
  refine own_iloadN X0 hx (hb hby d7_1) rfl ?_
  refine own_icmpYes X0 hx 46 (hb hby d7_2) (flt (by decide : ¬ ((1 : Int32) < (0 : Int32)))).2.2.2 (by decide) (by decide) ?_
  refine own_iloadN X0 hx (hb hby d7_46) rfl ?_
  refine own_ifYes X0 hx 59 (hb hby d7_47) (flt (by decide : ¬ ((0 : Int32) < (0 : Int32)))).2.1 (by decide) (by decide) ?_
  refine own_iloadN X0 hx (hb hby d7_59) rfl ?_
  refine own_iloadN X0 hx (hb hby d7_60) rfl ?_
  refine own_icmpYes X0 hx 73 (hb hby d7_61) (flt (by decide : ¬ ((16 : Int32) < (1 : Int32)))).2.2.2 (by decide) (by decide) ?_
  refine own_retV X0 hx hlk hret (hb hby d7_73) (by decide) (by decide) ?_
  try rw [e0]
  exact ⟨rfl, N0, rfl⟩
set_option maxRecDepth 65536 in
set_option maxHeartbeats 40000000 in
theorem rmRC_2 (l : Launch) (Z : State) (a0 : Array Value) (hw : ∀ d ∈ tables_1, d.before a0 Z = true) (ws : List Jvm.Cond)   (h0 : Heap) (n0 : Nat) (Z0 : n0 ≤ h0.size) :
    own_Met l (⟨"java/util/Arrays", "rangeCheck", "(III)V"⟩ : MethodName) jdk_65_method_30_code 3 none ws ({ frames := 0, cells := 0, slots := 0, locals := 0 } : Room) Z #[(.int (16 : Int32)), (.int (0 : Int32)), (.int (2 : Int32))] h0 (fun v h L => v = none ∧ Fr n0 L ∧ h = h0) := by
  refine own_body (plainFor_of_name pn_2) ?_
  intro p e s m below meth c s₁ X0 hx hby hml hown hnm hret hlk hZ e0
  replace hown : s.vm.findClass "java/util/Arrays" = some m.cls := hown
  replace hml : c.maxLocals = 3 := hml
  replace hret : meth.sig.returnType = none := hret
  have N0 := Fr.nil n0
  have ef : entryFrame m #[(.int (16 : Int32)), (.int (0 : Int32)), (.int (2 : Int32))] 3 = mkF m 0 #[.val (.int (16 : Int32)), .val (.int (0 : Int32)), .val (.int (2 : Int32))] [] := by first | (simp [entryFrame, mkF, argsToLocals, Value.category]; done) | rfl
  refine own_step (S' := (s₁.setTop (mkF m 0 #[.val (.int (16 : Int32)), .val (.int (0 : Int32)), .val (.int (2 : Int32))] []))) (fun _ k => castTop ef k) ?_
  refine own_iloadN X0 hx (hb hby d7_0) rfl ?_
  refine own_iloadN X0 hx (hb hby d7_1) rfl ?_
  refine own_icmpYes X0 hx 46 (hb hby d7_2) (flt (by decide : ¬ ((2 : Int32) < (0 : Int32)))).2.2.2 (by decide) (by decide) ?_
  refine own_iloadN X0 hx (hb hby d7_46) rfl ?_
  refine own_ifYes X0 hx 59 (hb hby d7_47) (flt (by decide : ¬ ((0 : Int32) < (0 : Int32)))).2.1 (by decide) (by decide) ?_
  refine own_iloadN X0 hx (hb hby d7_59) rfl ?_
  refine own_iloadN X0 hx (hb hby d7_60) rfl ?_
  refine own_icmpYes X0 hx 73 (hb hby d7_61) (flt (by decide : ¬ ((16 : Int32) < (2 : Int32)))).2.2.2 (by decide) (by decide) ?_
  refine own_retV X0 hx hlk hret (hb hby d7_73) (by decide) (by decide) ?_
  try rw [e0]
  exact ⟨rfl, N0, rfl⟩
theorem d9_0 : decode prog_29_method_1_code 0 = .ok (.aload_n 0, 1) := by decide +kernel
theorem d9_1 : decode prog_29_method_1_code 1 = .ok (.invokespecial 1, 3) := by decide +kernel
theorem d9_4 : decode prog_29_method_1_code 4 = .ok (.return_, 1) := by decide +kernel
theorem pn_3 : plainName "com/example/kurslot/kurslot/engine/PriceLevel" = true := by first | (simp [plainName, overriddenIn]; done) | decide +kernel
set_option maxRecDepth 65536 in
set_option maxHeartbeats 40000000 in
theorem rmPLI (l : Launch) (Z : State) (a0 : Array Value) (hw : ∀ d ∈ tables_1, d.before a0 Z = true) (ws : List Jvm.Cond)  (a : Addr) (h0 : Heap) (n0 : Nat) (Z0 : n0 ≤ h0.size) :
    own_Met l (⟨"com/example/kurslot/kurslot/engine/PriceLevel", "<init>", "()V"⟩ : MethodName) prog_29_method_1_code 1 none ws ({ frames := 1, cells := 0, slots := 0, locals := 12 } : Room) Z #[(.ref a)] h0 (fun v h L => v = none ∧ Fr n0 L ∧ h = h0) := by
  refine own_body (plainFor_of_name pn_3) ?_
  intro p e s m below meth c s₁ X0 hx hby hml hown hnm hret hlk hZ e0
  replace hown : s.vm.findClass "com/example/kurslot/kurslot/engine/PriceLevel" = some m.cls := hown
  replace hml : c.maxLocals = 1 := hml
  replace hret : meth.sig.returnType = none := hret
  have N0 := Fr.nil n0
  have ef : entryFrame m #[(.ref a)] 1 = mkF m 0 #[.val (.ref a)] [] := by first | (simp [entryFrame, mkF, argsToLocals, Value.category]; done) | rfl
  refine own_step (S' := (s₁.setTop (mkF m 0 #[.val (.ref a)] []))) (fun _ k => castTop ef k) ?_
  refine own_aloadN X0 hx (hb hby d9_0) rfl rfl ?_
  refine own_initO (W := 0) X0 hx hZ hown (hw _ (List.mem_of_getElem? (i := 58) rfl)) (hw _ (List.mem_of_getElem? (i := 15) rfl)) (hw _ (List.mem_of_getElem? (i := 16) rfl)) e0 (by rw [hml]; rfl) (hb hby d9_1) (by decide) (Nat.le_of_eq rfl) (by decide) fun T35 X35 e35 => ?_
  refine own_retV X35 hx hlk hret (hb hby d9_4) (by decide) (by decide) ?_
  try rw [e35]
  exact ⟨rfl, N0, rfl⟩
theorem d8_0 : decode jdk_65_method_56_code 0 = .ok (.iload_n 1, 1) := by decide +kernel
theorem d8_1 : decode jdk_65_method_56_code 1 = .ok (.istore 5, 2) := by decide +kernel
theorem d8_3 : decode jdk_65_method_56_code 3 = .ok (.iload_n 2, 1) := by decide +kernel
theorem d8_4 : decode jdk_65_method_56_code 4 = .ok (.iconst 1, 1) := by decide +kernel
theorem d8_5 : decode jdk_65_method_56_code 5 = .ok (.isub, 1) := by decide +kernel
theorem d8_6 : decode jdk_65_method_56_code 6 = .ok (.istore 6, 2) := by decide +kernel
theorem d8_8 : decode jdk_65_method_56_code 8 = .ok (.iload 5, 2) := by decide +kernel
theorem d8_10 : decode jdk_65_method_56_code 10 = .ok (.iload 6, 2) := by decide +kernel
theorem d8_12 : decode jdk_65_method_56_code 12 = .ok (.if_icmp .gt 56, 3) := by decide +kernel
theorem d8_15 : decode jdk_65_method_56_code 15 = .ok (.iload 5, 2) := by decide +kernel
theorem d8_17 : decode jdk_65_method_56_code 17 = .ok (.iload 6, 2) := by decide +kernel
theorem d8_19 : decode jdk_65_method_56_code 19 = .ok (.iadd, 1) := by decide +kernel
theorem d8_20 : decode jdk_65_method_56_code 20 = .ok (.iconst 1, 1) := by decide +kernel
theorem d8_21 : decode jdk_65_method_56_code 21 = .ok (.iushr, 1) := by decide +kernel
theorem d8_22 : decode jdk_65_method_56_code 22 = .ok (.istore 7, 2) := by decide +kernel
theorem d8_24 : decode jdk_65_method_56_code 24 = .ok (.aload_n 0, 1) := by decide +kernel
theorem d8_25 : decode jdk_65_method_56_code 25 = .ok (.iload 7, 2) := by decide +kernel
theorem d8_27 : decode jdk_65_method_56_code 27 = .ok (.laload, 1) := by decide +kernel
theorem d8_28 : decode jdk_65_method_56_code 28 = .ok (.lstore 8, 2) := by decide +kernel
theorem d8_30 : decode jdk_65_method_56_code 30 = .ok (.lload 8, 2) := by decide +kernel
theorem d8_32 : decode jdk_65_method_56_code 32 = .ok (.lload_n 3, 1) := by decide +kernel
theorem d8_33 : decode jdk_65_method_56_code 33 = .ok (.lcmp, 1) := by decide +kernel
theorem d8_34 : decode jdk_65_method_56_code 34 = .ok (.ifCond .ge 12, 3) := by decide +kernel
theorem d8_37 : decode jdk_65_method_56_code 37 = .ok (.iload 7, 2) := by decide +kernel
theorem d8_39 : decode jdk_65_method_56_code 39 = .ok (.iconst 1, 1) := by decide +kernel
theorem d8_40 : decode jdk_65_method_56_code 40 = .ok (.iadd, 1) := by decide +kernel
theorem d8_41 : decode jdk_65_method_56_code 41 = .ok (.istore 5, 2) := by decide +kernel
theorem d8_43 : decode jdk_65_method_56_code 43 = .ok (.goto 22, 3) := by decide +kernel
theorem d8_46 : decode jdk_65_method_56_code 46 = .ok (.lload 8, 2) := by decide +kernel
theorem d8_48 : decode jdk_65_method_56_code 48 = .ok (.lload_n 3, 1) := by decide +kernel
theorem d8_49 : decode jdk_65_method_56_code 49 = .ok (.lcmp, 1) := by decide +kernel
theorem d8_50 : decode jdk_65_method_56_code 50 = .ok (.ifCond .le 12, 3) := by decide +kernel
theorem d8_53 : decode jdk_65_method_56_code 53 = .ok (.iload 7, 2) := by decide +kernel
theorem d8_55 : decode jdk_65_method_56_code 55 = .ok (.iconst 1, 1) := by decide +kernel
theorem d8_56 : decode jdk_65_method_56_code 56 = .ok (.isub, 1) := by decide +kernel
theorem d8_57 : decode jdk_65_method_56_code 57 = .ok (.istore 6, 2) := by decide +kernel
theorem d8_59 : decode jdk_65_method_56_code 59 = .ok (.goto 6, 3) := by decide +kernel
theorem d8_62 : decode jdk_65_method_56_code 62 = .ok (.iload 7, 2) := by decide +kernel
theorem d8_64 : decode jdk_65_method_56_code 64 = .ok (.ireturn, 1) := by decide +kernel
theorem d8_65 : decode jdk_65_method_56_code 65 = .ok (.goto (-57), 3) := by decide +kernel
theorem d8_68 : decode jdk_65_method_56_code 68 = .ok (.iload 5, 2) := by decide +kernel
theorem d8_70 : decode jdk_65_method_56_code 70 = .ok (.iconst 1, 1) := by decide +kernel
theorem d8_71 : decode jdk_65_method_56_code 71 = .ok (.iadd, 1) := by decide +kernel
theorem d8_72 : decode jdk_65_method_56_code 72 = .ok (.ineg, 1) := by decide +kernel
theorem d8_73 : decode jdk_65_method_56_code 73 = .ok (.ireturn, 1) := by decide +kernel
set_option maxRecDepth 65536 in
set_option maxHeartbeats 40000000 in
theorem rmB0_0_ins0 (l : Launch) (Z : State) (a0 : Array Value) (hw : ∀ d ∈ tables_1, d.before a0 Z = true) (ws : List Jvm.Cond) (ra : Addr) (kr : ClassId) (r : Int64)  (h0 : Heap) (n0 : Nat) (Z0 : n0 ≤ h0.size) (Vr : Arv Z h0 ra kr .long (16 : Int32) [(.long (0 : Int64)), (.long (0 : Int64)), (.long (0 : Int64)), (.long (0 : Int64)), (.long (0 : Int64)), (.long (0 : Int64)), (.long (0 : Int64)), (.long (0 : Int64)), (.long (0 : Int64)), (.long (0 : Int64)), (.long (0 : Int64)), (.long (0 : Int64)), (.long (0 : Int64)), (.long (0 : Int64)), (.long (0 : Int64)), (.long (0 : Int64))] (.long (0 : Int64))) :
    own_Met l (⟨"java/util/Arrays", "binarySearch0", "([JIIJ)I"⟩ : MethodName) jdk_65_method_56_code 10 (some .int) ws ({ frames := 0, cells := 0, slots := 0, locals := 0 } : Room) Z #[(.ref ra), (.int (0 : Int32)), (.int (0 : Int32)), (.long r)] h0 (fun v h L => v = some (.int (-1 : Int32)) ∧ Fr n0 L ∧ h = h0) := by
  refine own_body (plainFor_of_name pn_2) ?_
  intro p e s m below meth c s₁ X0 hx hby hml hown hnm hret hlk hZ e0
  replace hown : s.vm.findClass "java/util/Arrays" = some m.cls := hown
  replace hml : c.maxLocals = 10 := hml
  replace hret : meth.sig.returnType = (some .int) := hret
  have N0 := Fr.nil n0
  have ef : entryFrame m #[(.ref ra), (.int (0 : Int32)), (.int (0 : Int32)), (.long r)] 10 = mkF m 0 #[.val (.ref ra), .val (.int (0 : Int32)), .val (.int (0 : Int32)), .val (.long r), .second, .unset, .unset, .unset, .unset, .unset] [] := by first | (simp [entryFrame, mkF, argsToLocals, Value.category]; done) | rfl
  refine own_step (S' := (s₁.setTop (mkF m 0 #[.val (.ref ra), .val (.int (0 : Int32)), .val (.int (0 : Int32)), .val (.long r), .second, .unset, .unset, .unset, .unset, .unset] []))) (fun _ k => castTop ef k) ?_
  refine own_iloadN X0 hx (hb hby d8_0) rfl ?_
  refine own_istore (l' := #[.val (.ref ra), .val (.int (0 : Int32)), .val (.int (0 : Int32)), .val (.long r), .second, .val (.int (0 : Int32)), .unset, .unset, .unset, .unset]) X0 hx (hb hby d8_1) rfl ?_
  refine own_iloadN X0 hx (hb hby d8_3) rfl ?_
  refine own_iconst X0 hx (1 : Int32) (hb hby d8_4) rfl ?_
  refine own_isub X0 hx (hb hby d8_5) ?_
  rw [show ((0 : Int32) - (1 : Int32)) = (-1 : Int32) from by decide]
  refine own_istore (l' := #[.val (.ref ra), .val (.int (0 : Int32)), .val (.int (0 : Int32)), .val (.long r), .second, .val (.int (0 : Int32)), .val (.int (-1 : Int32)), .unset, .unset, .unset]) X0 hx (hb hby d8_6) rfl ?_
  refine own_iload X0 hx (hb hby d8_8) rfl ?_
  refine own_iload X0 hx (hb hby d8_10) rfl ?_
  refine own_icmpYes X0 hx 68 (hb hby d8_12) (tlt (by decide : (-1 : Int32) < (0 : Int32))).2.2.1 (by decide) (by decide) ?_
  refine own_iload X0 hx (hb hby d8_68) rfl ?_
  refine own_iconst X0 hx (1 : Int32) (hb hby d8_70) rfl ?_
  refine own_iadd X0 hx (hb hby d8_71) ?_
  rw [show ((0 : Int32) + (1 : Int32)) = (1 : Int32) from by decide]
  refine own_ineg X0 hx (hb hby d8_72) ?_
  refine own_retI X0 hx hlk hret (hb hby d8_73) (by decide) (by decide) ?_
  try rw [e0]
  exact ⟨rfl, N0, rfl⟩
theorem d6_0 : decode jdk_65_method_55_code 0 = .ok (.aload_n 0, 1) := by decide +kernel
theorem d6_1 : decode jdk_65_method_55_code 1 = .ok (.arraylength, 1) := by decide +kernel
theorem d6_2 : decode jdk_65_method_55_code 2 = .ok (.iload_n 1, 1) := by decide +kernel
theorem d6_3 : decode jdk_65_method_55_code 3 = .ok (.iload_n 2, 1) := by decide +kernel
theorem d6_4 : decode jdk_65_method_55_code 4 = .ok (.invokestatic 13, 3) := by decide +kernel
theorem d6_7 : decode jdk_65_method_55_code 7 = .ok (.aload_n 0, 1) := by decide +kernel
theorem d6_8 : decode jdk_65_method_55_code 8 = .ok (.iload_n 1, 1) := by decide +kernel
theorem d6_9 : decode jdk_65_method_55_code 9 = .ok (.iload_n 2, 1) := by decide +kernel
theorem d6_10 : decode jdk_65_method_55_code 10 = .ok (.lload_n 3, 1) := by decide +kernel
theorem d6_11 : decode jdk_65_method_55_code 11 = .ok (.invokestatic 205, 3) := by decide +kernel
theorem d6_14 : decode jdk_65_method_55_code 14 = .ok (.ireturn, 1) := by decide +kernel
theorem pd_1 : parseMethodDescriptor "(III)V" = some ⟨[.int, .int, .int], none⟩ := by decide +kernel
theorem pd_2 : parseMethodDescriptor "([JIIJ)I" = some ⟨[(.array .long), .int, .int, .long], some .int⟩ := by decide +kernel
set_option maxRecDepth 65536 in
set_option maxHeartbeats 40000000 in
theorem rmBS_0_ins0 (l : Launch) (Z : State) (a0 : Array Value) (hw : ∀ d ∈ tables_1, d.before a0 Z = true) (ws : List Jvm.Cond) (ra : Addr) (kr : ClassId) (r : Int64)  (h0 : Heap) (n0 : Nat) (Z0 : n0 ≤ h0.size) (Vr : Arv Z h0 ra kr .long (16 : Int32) [(.long (0 : Int64)), (.long (0 : Int64)), (.long (0 : Int64)), (.long (0 : Int64)), (.long (0 : Int64)), (.long (0 : Int64)), (.long (0 : Int64)), (.long (0 : Int64)), (.long (0 : Int64)), (.long (0 : Int64)), (.long (0 : Int64)), (.long (0 : Int64)), (.long (0 : Int64)), (.long (0 : Int64)), (.long (0 : Int64)), (.long (0 : Int64))] (.long (0 : Int64))) :
    own_Met l (⟨"java/util/Arrays", "binarySearch", "([JIIJ)I"⟩ : MethodName) jdk_65_method_55_code 5 (some .int) ws ({ frames := 1, cells := 0, slots := 0, locals := 21 } : Room) Z #[(.ref ra), (.int (0 : Int32)), (.int (0 : Int32)), (.long r)] h0 (fun v h L => v = some (.int (-1 : Int32)) ∧ Fr n0 L ∧ h = h0) := by
  refine own_body (plainFor_of_name pn_2) ?_
  intro p e s m below meth c s₁ X0 hx hby hml hown hnm hret hlk hZ e0
  replace hown : s.vm.findClass "java/util/Arrays" = some m.cls := hown
  replace hml : c.maxLocals = 5 := hml
  replace hret : meth.sig.returnType = (some .int) := hret
  have N0 := Fr.nil n0
  have ef : entryFrame m #[(.ref ra), (.int (0 : Int32)), (.int (0 : Int32)), (.long r)] 5 = mkF m 0 #[.val (.ref ra), .val (.int (0 : Int32)), .val (.int (0 : Int32)), .val (.long r), .second] [] := by first | (simp [entryFrame, mkF, argsToLocals, Value.category]; done) | rfl
  refine own_step (S' := (s₁.setTop (mkF m 0 #[.val (.ref ra), .val (.int (0 : Int32)), .val (.int (0 : Int32)), .val (.long r), .second] []))) (fun _ k => castTop ef k) ?_
  refine own_aloadN X0 hx (hb hby d6_0) rfl rfl ?_
  refine own_arraylength X0 hx hZ e0 (own_alnV Vr) (hb hby d6_1) ?_
  refine own_iloadN X0 hx (hb hby d6_2) rfl ?_
  refine own_iloadN X0 hx (hb hby d6_3) rfl ?_
  refine own_cStat (W := 0) (rest := []) X0 hx hZ [(.int (16 : Int32)), (.int (0 : Int32)), (.int (0 : Int32))] hown (hw _ (List.mem_of_getElem? (i := 43) rfl)) (hw _ (List.mem_of_getElem? (i := 44) rfl)) (by decide) (hw _ (List.mem_of_getElem? (i := 45) rfl)) (hw _ (List.mem_of_getElem? (i := 41) rfl)) e0 (rmRC_0 l Z a0 hw [] h0 n0 Z0) (by rw [hml]; rfl) (lenOf pd_1 rfl) rfl (Nat.le_of_eq rfl) (hb hby d6_4) (by decide) (by decide) (by decide) (by decide) fun v36 T36 L36 X36 hQ36 => ?_
  obtain ⟨rfl, N36q, e36⟩ := hQ36
  have N36 := Fr.app N0 N36q
  show own_At p e below s _ _ _ T36 m 7 _ []
  refine own_aloadN X36 hx (hb hby d6_7) rfl rfl ?_
  refine own_iloadN X36 hx (hb hby d6_8) rfl ?_
  refine own_iloadN X36 hx (hb hby d6_9) rfl ?_
  refine own_lloadN X36 hx (hb hby d6_10) rfl ?_
  refine own_cStat (W := 0) (rest := []) X36 hx hZ [(.ref ra), (.int (0 : Int32)), (.int (0 : Int32)), (.long r)] hown (hw _ (List.mem_of_getElem? (i := 46) rfl)) (hw _ (List.mem_of_getElem? (i := 47) rfl)) (by decide) (hw _ (List.mem_of_getElem? (i := 48) rfl)) (hw _ (List.mem_of_getElem? (i := 41) rfl)) e36 (rmB0_0_ins0 l Z a0 hw [] ra kr r h0 n0 Z0 Vr ) (by rw [hml]; rfl) (lenOf pd_2 rfl) rfl (Nat.le_of_eq rfl) (hb hby d6_11) (by decide) (by decide) (by decide) (by decide) fun v37 T37 L37 X37 hQ37 => ?_
  obtain ⟨rfl, N37q, e37⟩ := hQ37
  have N37 := Fr.app N36 N37q
  show own_At p e below s _ _ _ T37 m 14 _ [(.int (-1 : Int32))]
  refine own_retI X37 hx hlk hret (hb hby d6_14) (by decide) (by decide) ?_
  try rw [e37]
  exact ⟨rfl, N37, rfl⟩
theorem d4_0 : decode prog_27_method_7_code 0 = .ok (.aload_n 0, 1) := by decide +kernel
theorem d4_1 : decode prog_27_method_7_code 1 = .ok (.lload_n 1, 1) := by decide +kernel
theorem d4_2 : decode prog_27_method_7_code 2 = .ok (.invokevirtual 32, 3) := by decide +kernel
theorem d4_5 : decode prog_27_method_7_code 5 = .ok (.lstore_n 3, 1) := by decide +kernel
theorem d4_6 : decode prog_27_method_7_code 6 = .ok (.aload_n 0, 1) := by decide +kernel
theorem d4_7 : decode prog_27_method_7_code 7 = .ok (.getfield 7, 3) := by decide +kernel
theorem d4_10 : decode prog_27_method_7_code 10 = .ok (.iconst 0, 1) := by decide +kernel
theorem d4_11 : decode prog_27_method_7_code 11 = .ok (.aload_n 0, 1) := by decide +kernel
theorem d4_12 : decode prog_27_method_7_code 12 = .ok (.getfield 23, 3) := by decide +kernel
theorem d4_15 : decode prog_27_method_7_code 15 = .ok (.lload_n 3, 1) := by decide +kernel
theorem d4_16 : decode prog_27_method_7_code 16 = .ok (.invokestatic 36, 3) := by decide +kernel
theorem d4_19 : decode prog_27_method_7_code 19 = .ok (.istore 5, 2) := by decide +kernel
theorem d4_21 : decode prog_27_method_7_code 21 = .ok (.iload 5, 2) := by decide +kernel
theorem d4_23 : decode prog_27_method_7_code 23 = .ok (.ifCond .lt 11, 3) := by decide +kernel
theorem d4_26 : decode prog_27_method_7_code 26 = .ok (.aload_n 0, 1) := by decide +kernel
theorem d4_27 : decode prog_27_method_7_code 27 = .ok (.getfield 15, 3) := by decide +kernel
theorem d4_30 : decode prog_27_method_7_code 30 = .ok (.iload 5, 2) := by decide +kernel
theorem d4_32 : decode prog_27_method_7_code 32 = .ok (.aaload, 1) := by decide +kernel
theorem d4_33 : decode prog_27_method_7_code 33 = .ok (.areturn, 1) := by decide +kernel
theorem d4_34 : decode prog_27_method_7_code 34 = .ok (.iload 5, 2) := by decide +kernel
theorem d4_36 : decode prog_27_method_7_code 36 = .ok (.ineg, 1) := by decide +kernel
theorem d4_37 : decode prog_27_method_7_code 37 = .ok (.iconst 1, 1) := by decide +kernel
theorem d4_38 : decode prog_27_method_7_code 38 = .ok (.isub, 1) := by decide +kernel
theorem d4_39 : decode prog_27_method_7_code 39 = .ok (.istore 5, 2) := by decide +kernel
theorem d4_41 : decode prog_27_method_7_code 41 = .ok (.aload_n 0, 1) := by decide +kernel
theorem d4_42 : decode prog_27_method_7_code 42 = .ok (.getfield 23, 3) := by decide +kernel
theorem d4_45 : decode prog_27_method_7_code 45 = .ok (.aload_n 0, 1) := by decide +kernel
theorem d4_46 : decode prog_27_method_7_code 46 = .ok (.getfield 7, 3) := by decide +kernel
theorem d4_49 : decode prog_27_method_7_code 49 = .ok (.arraylength, 1) := by decide +kernel
theorem d4_50 : decode prog_27_method_7_code 50 = .ok (.if_icmp .ne 40, 3) := by decide +kernel
theorem d4_53 : decode prog_27_method_7_code 53 = .ok (.aload_n 0, 1) := by decide +kernel
theorem d4_54 : decode prog_27_method_7_code 54 = .ok (.aload_n 0, 1) := by decide +kernel
theorem d4_55 : decode prog_27_method_7_code 55 = .ok (.getfield 7, 3) := by decide +kernel
theorem d4_58 : decode prog_27_method_7_code 58 = .ok (.aload_n 0, 1) := by decide +kernel
theorem d4_59 : decode prog_27_method_7_code 59 = .ok (.getfield 23, 3) := by decide +kernel
theorem d4_62 : decode prog_27_method_7_code 62 = .ok (.iconst 2, 1) := by decide +kernel
theorem d4_63 : decode prog_27_method_7_code 63 = .ok (.imul, 1) := by decide +kernel
theorem d4_64 : decode prog_27_method_7_code 64 = .ok (.invokestatic 42, 3) := by decide +kernel
theorem d4_67 : decode prog_27_method_7_code 67 = .ok (.putfield 7, 3) := by decide +kernel
theorem d4_70 : decode prog_27_method_7_code 70 = .ok (.aload_n 0, 1) := by decide +kernel
theorem d4_71 : decode prog_27_method_7_code 71 = .ok (.aload_n 0, 1) := by decide +kernel
theorem d4_72 : decode prog_27_method_7_code 72 = .ok (.getfield 15, 3) := by decide +kernel
theorem d4_75 : decode prog_27_method_7_code 75 = .ok (.aload_n 0, 1) := by decide +kernel
theorem d4_76 : decode prog_27_method_7_code 76 = .ok (.getfield 23, 3) := by decide +kernel
theorem d4_79 : decode prog_27_method_7_code 79 = .ok (.iconst 2, 1) := by decide +kernel
theorem d4_80 : decode prog_27_method_7_code 80 = .ok (.imul, 1) := by decide +kernel
theorem d4_81 : decode prog_27_method_7_code 81 = .ok (.invokestatic 46, 3) := by decide +kernel
theorem d4_84 : decode prog_27_method_7_code 84 = .ok (.checkcast 49, 3) := by decide +kernel
theorem d4_87 : decode prog_27_method_7_code 87 = .ok (.putfield 15, 3) := by decide +kernel
theorem d4_90 : decode prog_27_method_7_code 90 = .ok (.aload_n 0, 1) := by decide +kernel
theorem d4_91 : decode prog_27_method_7_code 91 = .ok (.getfield 7, 3) := by decide +kernel
theorem d4_94 : decode prog_27_method_7_code 94 = .ok (.iload 5, 2) := by decide +kernel
theorem d4_96 : decode prog_27_method_7_code 96 = .ok (.aload_n 0, 1) := by decide +kernel
theorem d4_97 : decode prog_27_method_7_code 97 = .ok (.getfield 7, 3) := by decide +kernel
theorem d4_100 : decode prog_27_method_7_code 100 = .ok (.iload 5, 2) := by decide +kernel
theorem d4_102 : decode prog_27_method_7_code 102 = .ok (.iconst 1, 1) := by decide +kernel
theorem d4_103 : decode prog_27_method_7_code 103 = .ok (.iadd, 1) := by decide +kernel
theorem d4_104 : decode prog_27_method_7_code 104 = .ok (.aload_n 0, 1) := by decide +kernel
theorem d4_105 : decode prog_27_method_7_code 105 = .ok (.getfield 23, 3) := by decide +kernel
theorem d4_108 : decode prog_27_method_7_code 108 = .ok (.iload 5, 2) := by decide +kernel
theorem d4_110 : decode prog_27_method_7_code 110 = .ok (.isub, 1) := by decide +kernel
theorem d4_111 : decode prog_27_method_7_code 111 = .ok (.invokestatic 50, 3) := by decide +kernel
theorem d4_114 : decode prog_27_method_7_code 114 = .ok (.aload_n 0, 1) := by decide +kernel
theorem d4_115 : decode prog_27_method_7_code 115 = .ok (.getfield 15, 3) := by decide +kernel
theorem d4_118 : decode prog_27_method_7_code 118 = .ok (.iload 5, 2) := by decide +kernel
theorem d4_120 : decode prog_27_method_7_code 120 = .ok (.aload_n 0, 1) := by decide +kernel
theorem d4_121 : decode prog_27_method_7_code 121 = .ok (.getfield 15, 3) := by decide +kernel
theorem d4_124 : decode prog_27_method_7_code 124 = .ok (.iload 5, 2) := by decide +kernel
theorem d4_126 : decode prog_27_method_7_code 126 = .ok (.iconst 1, 1) := by decide +kernel
theorem d4_127 : decode prog_27_method_7_code 127 = .ok (.iadd, 1) := by decide +kernel
theorem d4_128 : decode prog_27_method_7_code 128 = .ok (.aload_n 0, 1) := by decide +kernel
theorem d4_129 : decode prog_27_method_7_code 129 = .ok (.getfield 23, 3) := by decide +kernel
theorem d4_132 : decode prog_27_method_7_code 132 = .ok (.iload 5, 2) := by decide +kernel
theorem d4_134 : decode prog_27_method_7_code 134 = .ok (.isub, 1) := by decide +kernel
theorem d4_135 : decode prog_27_method_7_code 135 = .ok (.invokestatic 50, 3) := by decide +kernel
theorem d4_138 : decode prog_27_method_7_code 138 = .ok (.new 13, 3) := by decide +kernel
theorem d4_141 : decode prog_27_method_7_code 141 = .ok (.dup, 1) := by decide +kernel
theorem d4_142 : decode prog_27_method_7_code 142 = .ok (.invokespecial 56, 3) := by decide +kernel
theorem d4_145 : decode prog_27_method_7_code 145 = .ok (.astore 6, 2) := by decide +kernel
theorem d4_147 : decode prog_27_method_7_code 147 = .ok (.aload_n 0, 1) := by decide +kernel
theorem d4_148 : decode prog_27_method_7_code 148 = .ok (.getfield 7, 3) := by decide +kernel
theorem d4_151 : decode prog_27_method_7_code 151 = .ok (.iload 5, 2) := by decide +kernel
theorem d4_153 : decode prog_27_method_7_code 153 = .ok (.lload_n 3, 1) := by decide +kernel
theorem d4_154 : decode prog_27_method_7_code 154 = .ok (.lastore, 1) := by decide +kernel
theorem d4_155 : decode prog_27_method_7_code 155 = .ok (.aload_n 0, 1) := by decide +kernel
theorem d4_156 : decode prog_27_method_7_code 156 = .ok (.getfield 15, 3) := by decide +kernel
theorem d4_159 : decode prog_27_method_7_code 159 = .ok (.iload 5, 2) := by decide +kernel
theorem d4_161 : decode prog_27_method_7_code 161 = .ok (.aload 6, 2) := by decide +kernel
theorem d4_163 : decode prog_27_method_7_code 163 = .ok (.aastore, 1) := by decide +kernel
theorem d4_164 : decode prog_27_method_7_code 164 = .ok (.aload_n 0, 1) := by decide +kernel
theorem d4_165 : decode prog_27_method_7_code 165 = .ok (.dup, 1) := by decide +kernel
theorem d4_166 : decode prog_27_method_7_code 166 = .ok (.getfield 23, 3) := by decide +kernel
theorem d4_169 : decode prog_27_method_7_code 169 = .ok (.iconst 1, 1) := by decide +kernel
theorem d4_170 : decode prog_27_method_7_code 170 = .ok (.iadd, 1) := by decide +kernel
theorem d4_171 : decode prog_27_method_7_code 171 = .ok (.putfield 23, 3) := by decide +kernel
theorem d4_174 : decode prog_27_method_7_code 174 = .ok (.aload 6, 2) := by decide +kernel
theorem d4_176 : decode prog_27_method_7_code 176 = .ok (.areturn, 1) := by decide +kernel
theorem pd_3 : parseMethodDescriptor "(J)J" = some ⟨[.long], some .long⟩ := by decide +kernel
theorem pd_4 : parseMethodDescriptor "()V" = some ⟨[], none⟩ := by decide +kernel
set_option maxRecDepth 65536 in
set_option maxHeartbeats 40000000 in
theorem rmAt_0_ins0 (l : Launch) (Z : State) (a0 : Array Value) (hw : ∀ d ∈ tables_1, d.before a0 Z = true) (ws : List Jvm.Cond) (o ra la sd wB : Addr) (kr kl : ClassId) (r q1 : Int64)  (h0 : Heap) (n0 : Nat) (Z0 : n0 ≤ h0.size) (LD : own_Lad0 Z h0 o ra la sd kr kl  ) (SB : Sta Z h0 "com/example/kurslot/kurslot/engine/Side" "BUY" "Lcom/example/kurslot/kurslot/engine/Side;" (.ref wB)) (hs : (sd = wB ∧ r = q1) ∨ (¬ sd = wB ∧ r = (-q1))) (g_o : n0 ≤ o) (g_ra : n0 ≤ ra) (g_la : n0 ≤ la) :
    own_Met l (⟨"com/example/kurslot/kurslot/engine/PriceLadder", "levelAt", "(J)Lcom/example/kurslot/kurslot/engine/PriceLevel;"⟩ : MethodName) prog_27_method_7_code 7 (some (.object "com/example/kurslot/kurslot/engine/PriceLevel")) ws ({ frames := 2, cells := 1, slots := 2, locals := 50 } : Room) Z #[(.ref o), (.long q1)] h0 (fun v h L => ∃ b, v = some (.ref b) ∧ Fr n0 L ∧ Keep h0 h [o, ra, la] ∧ h0.size ≤ b ∧ own_Lad1 Z h o ra la sd kr kl r b) := by
  refine own_body (plainFor_of_name pn_1) ?_
  intro p e s m below meth c s₁ X0 hx hby hml hown hnm hret hlk hZ e0
  replace hown : s.vm.findClass "com/example/kurslot/kurslot/engine/PriceLadder" = some m.cls := hown
  replace hml : c.maxLocals = 7 := hml
  replace hret : meth.sig.returnType = (some (.object "com/example/kurslot/kurslot/engine/PriceLevel")) := hret
  have N0 := Fr.nil n0
  have ef : entryFrame m #[(.ref o), (.long q1)] 7 = mkF m 0 #[.val (.ref o), .val (.long q1), .second, .unset, .unset, .unset, .unset] [] := by first | (simp [entryFrame, mkF, argsToLocals, Value.category]; done) | rfl
  refine own_step (S' := (s₁.setTop (mkF m 0 #[.val (.ref o), .val (.long q1), .second, .unset, .unset, .unset, .unset] []))) (fun _ k => castTop ef k) ?_
  obtain ⟨Eo, Fr_, Fl_, Fz_, Fs_, Era, Ela, Vr, Vl, Ov⟩ := LD
  refine own_aloadN X0 hx (hb hby d4_0) rfl rfl ?_
  refine own_lloadN X0 hx (hb hby d4_1) rfl ?_
  refine own_cPriv (W := 0) (rest := []) X0 hx hZ [(.long q1)] hown (hw _ (List.mem_of_getElem? (i := 31) rfl)) (hw _ (List.mem_of_getElem? (i := 32) rfl)) (hw _ (List.mem_of_getElem? (i := 33) rfl)) (hw _ (List.mem_of_getElem? (i := 6) rfl)) (by decide) (hw _ (List.mem_of_getElem? (i := 34) rfl)) (hw _ (List.mem_of_getElem? (i := 7) rfl)) e0 Eo (rmRank l Z a0 hw [] o sd wB r q1 h0 n0 Z0 Fs_ SB hs) (by rw [hml]; rfl) (lenOf pd_3 rfl) rfl (Nat.le_of_eq rfl) (hb hby d4_2) (by decide) (by decide) (by decide) (by decide) fun v38 T38 L38 X38 hQ38 => ?_
  obtain ⟨rfl, N38q, e38⟩ := hQ38
  have N38 := Fr.app N0 N38q
  show own_At p e below s _ _ _ T38 m 5 _ [(.long r)]
  refine own_lstoreN (l' := #[.val (.ref o), .val (.long q1), .second, .val (.long r), .second, .unset, .unset]) X38 hx (hb hby d4_5) rfl ?_
  refine own_aloadN X38 hx (hb hby d4_6) rfl rfl ?_
  refine own_getF X38 hx hZ hown (host := "") (Or.inl (hw _ (List.mem_of_getElem? (i := 18) rfl))) Via.refl e38 Fr_ (hb hby d4_7) fun T39 X39 e39 => ?_
  refine own_iconst X39 hx (0 : Int32) (hb hby d4_10) rfl ?_
  refine own_aloadN X39 hx (hb hby d4_11) rfl rfl ?_
  refine own_getF X39 hx hZ hown (host := "") (Or.inl (hw _ (List.mem_of_getElem? (i := 37) rfl))) Via.refl e39 Fz_ (hb hby d4_12) fun T40 X40 e40 => ?_
  refine own_lloadN X40 hx (hb hby d4_15) rfl ?_
  refine own_cStat (W := 0) (rest := []) X40 hx hZ [(.ref ra), (.int (0 : Int32)), (.int (0 : Int32)), (.long r)] hown (hw _ (List.mem_of_getElem? (i := 39) rfl)) (hw _ (List.mem_of_getElem? (i := 40) rfl)) (by decide) (hw _ (List.mem_of_getElem? (i := 42) rfl)) (hw _ (List.mem_of_getElem? (i := 41) rfl)) e40 (rmBS_0_ins0 l Z a0 hw [] ra kr r h0 n0 Z0 Vr ) (by rw [hml]; rfl) (lenOf pd_2 rfl) rfl (Nat.le_of_eq rfl) (hb hby d4_16) (by decide) (by decide) (by decide) (by decide) fun v41 T41 L41 X41 hQ41 => ?_
  obtain ⟨rfl, N41q, e41⟩ := hQ41
  have N41 := Fr.app N38 N41q
  show own_At p e below s _ _ _ T41 m 19 _ [(.int (-1 : Int32))]
  refine own_istore (l' := #[.val (.ref o), .val (.long q1), .second, .val (.long r), .second, .val (.int (-1 : Int32)), .unset]) X41 hx (hb hby d4_19) rfl ?_
  refine own_iload X41 hx (hb hby d4_21) rfl ?_
  refine own_ifYes X41 hx 34 (hb hby d4_23) (tlt (by decide : (-1 : Int32) < (0 : Int32))).1 (by decide) (by decide) ?_
  refine own_iload X41 hx (hb hby d4_34) rfl ?_
  refine own_ineg X41 hx (hb hby d4_36) ?_
  rw [show (-(-1 : Int32)) = (1 : Int32) from by decide]
  refine own_iconst X41 hx (1 : Int32) (hb hby d4_37) rfl ?_
  refine own_isub X41 hx (hb hby d4_38) ?_
  rw [show ((1 : Int32) - (1 : Int32)) = (0 : Int32) from by decide]
  refine own_istore (l' := #[.val (.ref o), .val (.long q1), .second, .val (.long r), .second, .val (.int (0 : Int32)), .unset]) X41 hx (hb hby d4_39) rfl ?_
  refine own_aloadN X41 hx (hb hby d4_41) rfl rfl ?_
  refine own_getF X41 hx hZ hown (host := "") (Or.inl (hw _ (List.mem_of_getElem? (i := 37) rfl))) Via.refl e41 Fz_ (hb hby d4_42) fun T42 X42 e42 => ?_
  refine own_aloadN X42 hx (hb hby d4_45) rfl rfl ?_
  refine own_getF X42 hx hZ hown (host := "") (Or.inl (hw _ (List.mem_of_getElem? (i := 18) rfl))) Via.refl e42 Fr_ (hb hby d4_46) fun T43 X43 e43 => ?_
  refine own_arraylength X43 hx hZ e43 (own_alnV Vr) (hb hby d4_49) ?_
  refine own_icmpYes X43 hx 90 (hb hby d4_50) (feq (by decide : ¬ ((0 : Int32) = (16 : Int32)))).2 (by decide) (by decide) ?_
  refine own_aloadN X43 hx (hb hby d4_90) rfl rfl ?_
  refine own_getF X43 hx hZ hown (host := "") (Or.inl (hw _ (List.mem_of_getElem? (i := 18) rfl))) Via.refl e43 Fr_ (hb hby d4_91) fun T44 X44 e44 => ?_
  refine own_iload X44 hx (hb hby d4_94) rfl ?_
  refine own_aloadN X44 hx (hb hby d4_96) rfl rfl ?_
  refine own_getF X44 hx hZ hown (host := "") (Or.inl (hw _ (List.mem_of_getElem? (i := 18) rfl))) Via.refl e44 Fr_ (hb hby d4_97) fun T45 X45 e45 => ?_
  refine own_iload X45 hx (hb hby d4_100) rfl ?_
  refine own_iconst X45 hx (1 : Int32) (hb hby d4_102) rfl ?_
  refine own_iadd X45 hx (hb hby d4_103) ?_
  rw [show ((0 : Int32) + (1 : Int32)) = (1 : Int32) from by decide]
  refine own_aloadN X45 hx (hb hby d4_104) rfl rfl ?_
  refine own_getF X45 hx hZ hown (host := "") (Or.inl (hw _ (List.mem_of_getElem? (i := 37) rfl))) Via.refl e45 Fz_ (hb hby d4_105) fun T46 X46 e46 => ?_
  refine own_iload X46 hx (hb hby d4_108) rfl ?_
  refine own_isub X46 hx (hb hby d4_110) ?_
  rw [show ((0 : Int32) - (0 : Int32)) = (0 : Int32) from by decide]
  obtain ⟨T47, h47, L47, X47, e47, N47, K47, V47', st47⟩ := cpA (us := []) X46 hx hZ hown (hw _ (List.mem_of_getElem? (i := 49) rfl)) (hw _ (List.mem_of_getElem? (i := 52) rfl)) (hw _ (List.mem_of_getElem? (i := 50) rfl)) (hw _ (List.mem_of_getElem? (i := 51) rfl)) e46 Vr Vr (Or.inl ⟨rfl, rfl⟩) (by decide) (by decide) (by decide) (by decide) (by decide) rfl (Nat.le_of_ble_eq_true rfl) N41 g_ra (g := (mkF m 111 #[.val (.ref o), .val (.long q1), .second, .val (.long r), .second, .val (.int (0 : Int32)), .unset] [(.int (0 : Int32)), (.int (1 : Int32)), (.ref ra), (.int (0 : Int32)), (.ref ra)])) rfl (by rw [hml]; rfl) rfl (hb hby d4_111) (by decide) (W := 0) (by show 2 * 0 + _ ≤ _; exact Nat.le_of_eq rfl) (by decide)
  have V47 : Arv Z h47 ra kr .long (16 : Int32) [(.long (0 : Int64)), (.long (0 : Int64)), (.long (0 : Int64)), (.long (0 : Int64)), (.long (0 : Int64)), (.long (0 : Int64)), (.long (0 : Int64)), (.long (0 : Int64)), (.long (0 : Int64)), (.long (0 : Int64)), (.long (0 : Int64)), (.long (0 : Int64)), (.long (0 : Int64)), (.long (0 : Int64)), (.long (0 : Int64)), (.long (0 : Int64))] (.long (0 : Int64)) := V47'
  refine own_step (S' := (T47.setTop (mkF m 114 #[.val (.ref o), .val (.long q1), .second, .val (.long r), .second, .val (.int (0 : Int32)), .unset] []))) (fun _ k => st47 _ k) ?_
  refine own_aloadN X47 hx (hb hby d4_114) rfl rfl ?_
  refine own_getF X47 hx hZ hown (host := "") (Or.inl (hw _ (List.mem_of_getElem? (i := 22) rfl))) Via.refl e47 (Fld.keep Fl_ K47 (ninS (ne_exa Eo Era (by decide)) nin0)) (hb hby d4_115) fun T48 X48 e48 => ?_
  refine own_iload X48 hx (hb hby d4_118) rfl ?_
  refine own_aloadN X48 hx (hb hby d4_120) rfl rfl ?_
  refine own_getF X48 hx hZ hown (host := "") (Or.inl (hw _ (List.mem_of_getElem? (i := 22) rfl))) Via.refl e48 (Fld.keep Fl_ K47 (ninS (ne_exa Eo Era (by decide)) nin0)) (hb hby d4_121) fun T49 X49 e49 => ?_
  refine own_iload X49 hx (hb hby d4_124) rfl ?_
  refine own_iconst X49 hx (1 : Int32) (hb hby d4_126) rfl ?_
  refine own_iadd X49 hx (hb hby d4_127) ?_
  rw [show ((0 : Int32) + (1 : Int32)) = (1 : Int32) from by decide]
  refine own_aloadN X49 hx (hb hby d4_128) rfl rfl ?_
  refine own_getF X49 hx hZ hown (host := "") (Or.inl (hw _ (List.mem_of_getElem? (i := 37) rfl))) Via.refl e49 (Fld.keep Fz_ K47 (ninS (ne_exa Eo Era (by decide)) nin0)) (hb hby d4_129) fun T50 X50 e50 => ?_
  refine own_iload X50 hx (hb hby d4_132) rfl ?_
  refine own_isub X50 hx (hb hby d4_134) ?_
  rw [show ((0 : Int32) - (0 : Int32)) = (0 : Int32) from by decide]
  obtain ⟨T51, h51, L51, X51, e51, N51, K51, V51', st51⟩ := cpA (us := []) X50 hx hZ hown (hw _ (List.mem_of_getElem? (i := 49) rfl)) (hw _ (List.mem_of_getElem? (i := 52) rfl)) (hw _ (List.mem_of_getElem? (i := 50) rfl)) (hw _ (List.mem_of_getElem? (i := 51) rfl)) e50 (Arv.keep Vl K47 (ninS (ne_exa Ela Era (by decide)) nin0)) (Arv.keep Vl K47 (ninS (ne_exa Ela Era (by decide)) nin0)) (Or.inr ⟨rfl, rfl, trivial⟩) (by decide) (by decide) (by decide) (by decide) (by decide) rfl (Nat.le_of_ble_eq_true rfl) N47 g_la (g := (mkF m 135 #[.val (.ref o), .val (.long q1), .second, .val (.long r), .second, .val (.int (0 : Int32)), .unset] [(.int (0 : Int32)), (.int (1 : Int32)), (.ref la), (.int (0 : Int32)), (.ref la)])) rfl (by rw [hml]; rfl) rfl (hb hby d4_135) (by decide) (W := 0) (by show 2 * 0 + _ ≤ _; exact Nat.le_of_eq rfl) (by decide)
  have V51 : Arv Z h51 la kl (.object "com/example/kurslot/kurslot/engine/PriceLevel") (16 : Int32) [.null, .null, .null, .null, .null, .null, .null, .null, .null, .null, .null, .null, .null, .null, .null, .null] .null := V51'
  refine own_step (S' := (T51.setTop (mkF m 138 #[.val (.ref o), .val (.long q1), .second, .val (.long r), .second, .val (.int (0 : Int32)), .unset] []))) (fun _ k => st51 _ k) ?_
  refine own_newO X51 hx hZ hown (hw _ (List.mem_of_getElem? (i := 20) rfl)) (hw _ (List.mem_of_getElem? (i := 53) rfl)) (hw _ (List.mem_of_getElem? (i := 54) rfl)) e51 (hb hby d4_138) (by decide) (by decide) fun T52 h52 b52 g52 X52 e52 E52 A52 D52 => ?_
  have g_b52 : n0 ≤ b52 := Nat.le_trans (Nat.le_trans (Nat.le_trans Z0 K47.1) K51.1) (Nat.le_of_eq g52.symm)
  have szo_b52 : h0.size ≤ b52 := Nat.le_trans (Nat.le_trans (Nat.le_trans (Nat.le_refl h0.size) K47.1) K51.1) (Nat.le_of_eq g52.symm)
  refine own_dup X52 hx (hb hby d4_141) rfl ?_
  refine own_cSpec (b := b52) (W := 1) (rest := [(.ref b52)]) X52 hx hZ [] rfl hown (hw _ (List.mem_of_getElem? (i := 55) rfl)) (hw _ (List.mem_of_getElem? (i := 56) rfl)) (by decide) (hw _ (List.mem_of_getElem? (i := 57) rfl)) (hw _ (List.mem_of_getElem? (i := 54) rfl)) e52 (rmPLI l Z a0 hw [] b52 h52 n0 (Nat.le_trans (Nat.le_trans (Nat.le_trans Z0 K47.1) K51.1) E52.1)) (by rw [hml]; rfl) (lenOf pd_4 rfl) rfl (Nat.le_of_eq rfl) (hb hby d4_142) (by decide) (by decide) (by decide) (by decide) fun v53 T53 L53 X53 hQ53 => ?_
  obtain ⟨rfl, N53q, e53⟩ := hQ53
  have N53 := Fr.app N51 N53q
  show own_At p e below s _ _ _ T53 m 145 _ [(.ref b52)]
  refine own_astore (l' := #[.val (.ref o), .val (.long q1), .second, .val (.long r), .second, .val (.int (0 : Int32)), .val (.ref b52)]) X53 hx (hb hby d4_145) rfl rfl ?_
  refine own_aloadN X53 hx (hb hby d4_147) rfl rfl ?_
  refine own_getF X53 hx hZ hown (host := "") (Or.inl (hw _ (List.mem_of_getElem? (i := 18) rfl))) Via.refl e53 (Fld.ext E52 (Fld.keep (Fld.keep Fr_ K47 (ninS (ne_exa Eo Era (by decide)) nin0)) K51 (ninS (ne_exa Eo Ela (by decide)) nin0))) (hb hby d4_148) fun T54 X54 e54 => ?_
  refine own_iload X54 hx (hb hby d4_151) rfl ?_
  refine own_lloadN X54 hx (hb hby d4_153) rfl ?_
  refine own_stJ (vs' := [(.long r), (.long (0 : Int64)), (.long (0 : Int64)), (.long (0 : Int64)), (.long (0 : Int64)), (.long (0 : Int64)), (.long (0 : Int64)), (.long (0 : Int64)), (.long (0 : Int64)), (.long (0 : Int64)), (.long (0 : Int64)), (.long (0 : Int64)), (.long (0 : Int64)), (.long (0 : Int64)), (.long (0 : Int64)), (.long (0 : Int64))]) (w := (.long r)) X54 hx hZ e54 ((Arv.keep V47 K51 (ninS (ne_exa Era Ela (by decide)) nin0)).ext E52) ⟨by decide, by decide⟩ 0 rfl (Nat.le_of_ble_eq_true rfl) rfl rfl (hb hby d4_154) fun T55 h55 X55 e55 W55 V55 => ?_
  have N55 := Fr.snoc X55 N53 g_ra
  refine own_aloadN X55 hx (hb hby d4_155) rfl rfl ?_
  refine own_getF X55 hx hZ hown (host := "") (Or.inl (hw _ (List.mem_of_getElem? (i := 22) rfl))) Via.refl e55 (Fld.other W55 (Fld.ext E52 (Fld.keep (Fld.keep Fl_ K47 (ninS (ne_exa Eo Era (by decide)) nin0)) K51 (ninS (ne_exa Eo Ela (by decide)) nin0))) (Or.inl (ne_exa Eo Era (by decide)))) (hb hby d4_156) fun T56 X56 e56 => ?_
  refine own_iload X56 hx (hb hby d4_159) rfl ?_
  refine own_aload X56 hx (hb hby d4_161) rfl rfl ?_
  refine own_stR (vs' := [(.ref b52), .null, .null, .null, .null, .null, .null, .null, .null, .null, .null, .null, .null, .null, .null, .null]) X56 hx hZ e56 (Arv.other (V51.ext E52) W55 (ne_exa Ela Era (by decide))) ⟨by decide, by decide⟩ 0 rfl (Nat.le_of_ble_eq_true rfl) rfl (Or.inr ⟨_, rfl, Ov, Ins.self (Exa.wr W55 A52)⟩) rfl (hb hby d4_163) fun T57 h57 X57 e57 W57 V57 => ?_
  have N57 := Fr.snoc X57 N55 g_la
  refine own_aloadN X57 hx (hb hby d4_164) rfl rfl ?_
  refine own_dup X57 hx (hb hby d4_165) rfl ?_
  refine own_getF X57 hx hZ hown (host := "") (Or.inl (hw _ (List.mem_of_getElem? (i := 37) rfl))) Via.refl e57 (Fld.other W57 (Fld.other W55 (Fld.ext E52 (Fld.keep (Fld.keep Fz_ K47 (ninS (ne_exa Eo Era (by decide)) nin0)) K51 (ninS (ne_exa Eo Ela (by decide)) nin0))) (Or.inl (ne_exa Eo Era (by decide)))) (Or.inl (ne_exa Eo Ela (by decide)))) (hb hby d4_166) fun T58 X58 e58 => ?_
  refine own_iconst X58 hx (1 : Int32) (hb hby d4_169) rfl ?_
  refine own_iadd X58 hx (hb hby d4_170) ?_
  rw [show ((0 : Int32) + (1 : Int32)) = (1 : Int32) from by decide]
  refine own_putF X58 hx hZ hown (host := "") (Or.inl (hw _ (List.mem_of_getElem? (i := 37) rfl))) Via.refl e58 (Fld.other W57 (Fld.other W55 (Fld.ext E52 (Fld.keep (Fld.keep Fz_ K47 (ninS (ne_exa Eo Era (by decide)) nin0)) K51 (ninS (ne_exa Eo Ela (by decide)) nin0))) (Or.inl (ne_exa Eo Era (by decide)))) (Or.inl (ne_exa Eo Ela (by decide)))) (Exa.wr W57 (Exa.wr W55 (Exa.ext E52 (Exa.keep (Exa.keep Eo K47) K51)))) (Or.inl (hw _ (List.mem_of_getElem? (i := 38) rfl))) (hw _ (List.mem_of_getElem? (i := 6) rfl)) (ty := .int) (by decide) rfl rfl (hb hby d4_171) fun T59 h59 X59 e59 W59 => ?_
  have Fw59 := Fld.same W59 (Fld.other W57 (Fld.other W55 (Fld.ext E52 (Fld.keep (Fld.keep Fz_ K47 (ninS (ne_exa Eo Era (by decide)) nin0)) K51 (ninS (ne_exa Eo Ela (by decide)) nin0))) (Or.inl (ne_exa Eo Era (by decide)))) (Or.inl (ne_exa Eo Ela (by decide))))
  have N59 := Fr.snoc X59 N57 g_o
  refine own_aload X59 hx (hb hby d4_174) rfl rfl ?_
  refine own_retA X59 hx hlk hret rfl rfl rfl (hb hby d4_176) (by decide) (by decide) ?_
  try rw [e59]
  exact ⟨b52, rfl, N59, (Keep.wr (Keep.wr (Keep.wr (Keep.ext (Keep.trans (Keep.trans (Keep.refl h0 [o, ra, la]) K47 (allS (Or.inl (List.mem_of_getElem? (i := 1) rfl)) all0)) K51 (allS (Or.inl (List.mem_of_getElem? (i := 2) rfl)) all0)) E52) W55 (Or.inl (List.mem_of_getElem? (i := 1) rfl))) W57 (Or.inl (List.mem_of_getElem? (i := 2) rfl))) W59 (Or.inl (List.mem_of_getElem? (i := 0) rfl))), szo_b52, ⟨(Exa.wr W59 (Exa.wr W57 (Exa.wr W55 (Exa.ext E52 (Exa.keep (Exa.keep Eo K47) K51))))), (Fld.other W59 (Fld.other W57 (Fld.other W55 (Fld.ext E52 (Fld.keep (Fld.keep Fr_ K47 (ninS (ne_exa Eo Era (by decide)) nin0)) K51 (ninS (ne_exa Eo Ela (by decide)) nin0))) (Or.inl (ne_exa Eo Era (by decide)))) (Or.inl (ne_exa Eo Ela (by decide)))) (Or.inr (slot_ne (Or.inl (hw _ (List.mem_of_getElem? (i := 19) rfl))) (Or.inl (hw _ (List.mem_of_getElem? (i := 38) rfl))) (by decide) (t := (.array .long)) (t' := .int) (by decide) (by decide)))), (Fld.other W59 (Fld.other W57 (Fld.other W55 (Fld.ext E52 (Fld.keep (Fld.keep Fl_ K47 (ninS (ne_exa Eo Era (by decide)) nin0)) K51 (ninS (ne_exa Eo Ela (by decide)) nin0))) (Or.inl (ne_exa Eo Era (by decide)))) (Or.inl (ne_exa Eo Ela (by decide)))) (Or.inr (slot_ne (Or.inl (hw _ (List.mem_of_getElem? (i := 23) rfl))) (Or.inl (hw _ (List.mem_of_getElem? (i := 38) rfl))) (by decide) (t := (.array (.object "com/example/kurslot/kurslot/engine/PriceLevel"))) (t' := .int) (by decide) (by decide)))), Fw59, (Fld.other W59 (Fld.other W57 (Fld.other W55 (Fld.ext E52 (Fld.keep (Fld.keep Fs_ K47 (ninS (ne_exa Eo Era (by decide)) nin0)) K51 (ninS (ne_exa Eo Ela (by decide)) nin0))) (Or.inl (ne_exa Eo Era (by decide)))) (Or.inl (ne_exa Eo Ela (by decide)))) (Or.inr (slot_ne (Or.inr (hw _ (List.mem_of_getElem? (i := 25) rfl))) (Or.inl (hw _ (List.mem_of_getElem? (i := 38) rfl))) (by decide) (t := (.object "com/example/kurslot/kurslot/engine/Side")) (t' := .int) (by decide) (by decide)))), (Exa.wr W59 (Exa.wr W57 (Exa.wr W55 (Exa.ext E52 (Exa.keep (Exa.keep Era K47) K51))))), (Exa.wr W59 (Exa.wr W57 (Exa.wr W55 (Exa.ext E52 (Exa.keep (Exa.keep Ela K47) K51))))), (Arv.other (Arv.other V55 W57 (ne_exa Era Ela (by decide))) W59 (ne_exa Era Eo (by decide))), (Arv.other V57 W59 (ne_exa Ela Eo (by decide))), Ov, (Exa.wr W59 (Exa.wr W57 (Exa.wr W55 A52)))⟩⟩
set_option maxRecDepth 65536 in
set_option maxHeartbeats 40000000 in
theorem rmB0_1_found0 (l : Launch) (Z : State) (a0 : Array Value) (hw : ∀ d ∈ tables_1, d.before a0 Z = true) (ws : List Jvm.Cond) (ra : Addr) (kr : ClassId) (r : Int64)  (h0 : Heap) (n0 : Nat) (Z0 : n0 ≤ h0.size) (Vr : Arv Z h0 ra kr .long (16 : Int32) [(.long r), (.long (0 : Int64)), (.long (0 : Int64)), (.long (0 : Int64)), (.long (0 : Int64)), (.long (0 : Int64)), (.long (0 : Int64)), (.long (0 : Int64)), (.long (0 : Int64)), (.long (0 : Int64)), (.long (0 : Int64)), (.long (0 : Int64)), (.long (0 : Int64)), (.long (0 : Int64)), (.long (0 : Int64)), (.long (0 : Int64))] (.long (0 : Int64))) :
    own_Met l (⟨"java/util/Arrays", "binarySearch0", "([JIIJ)I"⟩ : MethodName) jdk_65_method_56_code 10 (some .int) ws ({ frames := 0, cells := 0, slots := 0, locals := 0 } : Room) Z #[(.ref ra), (.int (0 : Int32)), (.int (1 : Int32)), (.long r)] h0 (fun v h L => v = some (.int (0 : Int32)) ∧ Fr n0 L ∧ h = h0) := by
  refine own_body (plainFor_of_name pn_2) ?_
  intro p e s m below meth c s₁ X0 hx hby hml hown hnm hret hlk hZ e0
  replace hown : s.vm.findClass "java/util/Arrays" = some m.cls := hown
  replace hml : c.maxLocals = 10 := hml
  replace hret : meth.sig.returnType = (some .int) := hret
  have N0 := Fr.nil n0
  have ef : entryFrame m #[(.ref ra), (.int (0 : Int32)), (.int (1 : Int32)), (.long r)] 10 = mkF m 0 #[.val (.ref ra), .val (.int (0 : Int32)), .val (.int (1 : Int32)), .val (.long r), .second, .unset, .unset, .unset, .unset, .unset] [] := by first | (simp [entryFrame, mkF, argsToLocals, Value.category]; done) | rfl
  refine own_step (S' := (s₁.setTop (mkF m 0 #[.val (.ref ra), .val (.int (0 : Int32)), .val (.int (1 : Int32)), .val (.long r), .second, .unset, .unset, .unset, .unset, .unset] []))) (fun _ k => castTop ef k) ?_
  refine own_iloadN X0 hx (hb hby d8_0) rfl ?_
  refine own_istore (l' := #[.val (.ref ra), .val (.int (0 : Int32)), .val (.int (1 : Int32)), .val (.long r), .second, .val (.int (0 : Int32)), .unset, .unset, .unset, .unset]) X0 hx (hb hby d8_1) rfl ?_
  refine own_iloadN X0 hx (hb hby d8_3) rfl ?_
  refine own_iconst X0 hx (1 : Int32) (hb hby d8_4) rfl ?_
  refine own_isub X0 hx (hb hby d8_5) ?_
  rw [show ((1 : Int32) - (1 : Int32)) = (0 : Int32) from by decide]
  refine own_istore (l' := #[.val (.ref ra), .val (.int (0 : Int32)), .val (.int (1 : Int32)), .val (.long r), .second, .val (.int (0 : Int32)), .val (.int (0 : Int32)), .unset, .unset, .unset]) X0 hx (hb hby d8_6) rfl ?_
  refine own_iload X0 hx (hb hby d8_8) rfl ?_
  refine own_iload X0 hx (hb hby d8_10) rfl ?_
  refine own_icmpNo X0 hx (hb hby d8_12) (flt (by decide : ¬ ((0 : Int32) < (0 : Int32)))).2.2.1 ?_
  refine own_iload X0 hx (hb hby d8_15) rfl ?_
  refine own_iload X0 hx (hb hby d8_17) rfl ?_
  refine own_iadd X0 hx (hb hby d8_19) ?_
  rw [show ((0 : Int32) + (0 : Int32)) = (0 : Int32) from by decide]
  refine own_iconst X0 hx (1 : Int32) (hb hby d8_20) rfl ?_
  refine own_iushr X0 hx (hb hby d8_21) ?_
  rw [show (((0 : Int32).toUInt32 >>> ((1 : Int32) &&& 31).toUInt32).toInt32) = (0 : Int32) from by decide]
  refine own_istore (l' := #[.val (.ref ra), .val (.int (0 : Int32)), .val (.int (1 : Int32)), .val (.long r), .second, .val (.int (0 : Int32)), .val (.int (0 : Int32)), .val (.int (0 : Int32)), .unset, .unset]) X0 hx (hb hby d8_22) rfl ?_
  refine own_aloadN X0 hx (hb hby d8_24) rfl rfl ?_
  refine own_iload X0 hx (hb hby d8_25) rfl ?_
  refine own_laload X0 hx hZ (.long r) e0 Vr ⟨by decide, by decide⟩ rfl (hb hby d8_27) ?_
  refine own_lstore (l' := #[.val (.ref ra), .val (.int (0 : Int32)), .val (.int (1 : Int32)), .val (.long r), .second, .val (.int (0 : Int32)), .val (.int (0 : Int32)), .val (.int (0 : Int32)), .val (.long r), .second]) X0 hx (hb hby d8_28) rfl ?_
  refine own_lload X0 hx (hb hby d8_30) rfl ?_
  refine own_lloadN X0 hx (hb hby d8_32) rfl ?_
  refine own_lcmp X0 hx (hb hby d8_33) ?_
  refine own_ifYes X0 hx 46 (hb hby d8_34) (flt (fun q => (own_irr _) ((lw_lt r r).mp q))).2.1 (by decide) (by decide) ?_
  refine own_lload X0 hx (hb hby d8_46) rfl ?_
  refine own_lloadN X0 hx (hb hby d8_48) rfl ?_
  refine own_lcmp X0 hx (hb hby d8_49) ?_
  refine own_ifYes X0 hx 62 (hb hby d8_50) (flt (fun q => (own_irr _) ((lw_gt r r).mp q))).2.2.2 (by decide) (by decide) ?_
  refine own_iload X0 hx (hb hby d8_62) rfl ?_
  refine own_retI X0 hx hlk hret (hb hby d8_64) (by decide) (by decide) ?_
  try rw [e0]
  exact ⟨rfl, N0, rfl⟩
set_option maxRecDepth 65536 in
set_option maxHeartbeats 40000000 in
theorem rmBS_1_found0 (l : Launch) (Z : State) (a0 : Array Value) (hw : ∀ d ∈ tables_1, d.before a0 Z = true) (ws : List Jvm.Cond) (ra : Addr) (kr : ClassId) (r : Int64)  (h0 : Heap) (n0 : Nat) (Z0 : n0 ≤ h0.size) (Vr : Arv Z h0 ra kr .long (16 : Int32) [(.long r), (.long (0 : Int64)), (.long (0 : Int64)), (.long (0 : Int64)), (.long (0 : Int64)), (.long (0 : Int64)), (.long (0 : Int64)), (.long (0 : Int64)), (.long (0 : Int64)), (.long (0 : Int64)), (.long (0 : Int64)), (.long (0 : Int64)), (.long (0 : Int64)), (.long (0 : Int64)), (.long (0 : Int64)), (.long (0 : Int64))] (.long (0 : Int64))) :
    own_Met l (⟨"java/util/Arrays", "binarySearch", "([JIIJ)I"⟩ : MethodName) jdk_65_method_55_code 5 (some .int) ws ({ frames := 1, cells := 0, slots := 0, locals := 21 } : Room) Z #[(.ref ra), (.int (0 : Int32)), (.int (1 : Int32)), (.long r)] h0 (fun v h L => v = some (.int (0 : Int32)) ∧ Fr n0 L ∧ h = h0) := by
  refine own_body (plainFor_of_name pn_2) ?_
  intro p e s m below meth c s₁ X0 hx hby hml hown hnm hret hlk hZ e0
  replace hown : s.vm.findClass "java/util/Arrays" = some m.cls := hown
  replace hml : c.maxLocals = 5 := hml
  replace hret : meth.sig.returnType = (some .int) := hret
  have N0 := Fr.nil n0
  have ef : entryFrame m #[(.ref ra), (.int (0 : Int32)), (.int (1 : Int32)), (.long r)] 5 = mkF m 0 #[.val (.ref ra), .val (.int (0 : Int32)), .val (.int (1 : Int32)), .val (.long r), .second] [] := by first | (simp [entryFrame, mkF, argsToLocals, Value.category]; done) | rfl
  refine own_step (S' := (s₁.setTop (mkF m 0 #[.val (.ref ra), .val (.int (0 : Int32)), .val (.int (1 : Int32)), .val (.long r), .second] []))) (fun _ k => castTop ef k) ?_
  refine own_aloadN X0 hx (hb hby d6_0) rfl rfl ?_
  refine own_arraylength X0 hx hZ e0 (own_alnV Vr) (hb hby d6_1) ?_
  refine own_iloadN X0 hx (hb hby d6_2) rfl ?_
  refine own_iloadN X0 hx (hb hby d6_3) rfl ?_
  refine own_cStat (W := 0) (rest := []) X0 hx hZ [(.int (16 : Int32)), (.int (0 : Int32)), (.int (1 : Int32))] hown (hw _ (List.mem_of_getElem? (i := 43) rfl)) (hw _ (List.mem_of_getElem? (i := 44) rfl)) (by decide) (hw _ (List.mem_of_getElem? (i := 45) rfl)) (hw _ (List.mem_of_getElem? (i := 41) rfl)) e0 (rmRC_1 l Z a0 hw [] h0 n0 Z0) (by rw [hml]; rfl) (lenOf pd_1 rfl) rfl (Nat.le_of_eq rfl) (hb hby d6_4) (by decide) (by decide) (by decide) (by decide) fun v60 T60 L60 X60 hQ60 => ?_
  obtain ⟨rfl, N60q, e60⟩ := hQ60
  have N60 := Fr.app N0 N60q
  show own_At p e below s _ _ _ T60 m 7 _ []
  refine own_aloadN X60 hx (hb hby d6_7) rfl rfl ?_
  refine own_iloadN X60 hx (hb hby d6_8) rfl ?_
  refine own_iloadN X60 hx (hb hby d6_9) rfl ?_
  refine own_lloadN X60 hx (hb hby d6_10) rfl ?_
  refine own_cStat (W := 0) (rest := []) X60 hx hZ [(.ref ra), (.int (0 : Int32)), (.int (1 : Int32)), (.long r)] hown (hw _ (List.mem_of_getElem? (i := 46) rfl)) (hw _ (List.mem_of_getElem? (i := 47) rfl)) (by decide) (hw _ (List.mem_of_getElem? (i := 48) rfl)) (hw _ (List.mem_of_getElem? (i := 41) rfl)) e60 (rmB0_1_found0 l Z a0 hw [] ra kr r h0 n0 Z0 Vr ) (by rw [hml]; rfl) (lenOf pd_2 rfl) rfl (Nat.le_of_eq rfl) (hb hby d6_11) (by decide) (by decide) (by decide) (by decide) fun v61 T61 L61 X61 hQ61 => ?_
  obtain ⟨rfl, N61q, e61⟩ := hQ61
  have N61 := Fr.app N60 N61q
  show own_At p e below s _ _ _ T61 m 14 _ [(.int (0 : Int32))]
  refine own_retI X61 hx hlk hret (hb hby d6_14) (by decide) (by decide) ?_
  try rw [e61]
  exact ⟨rfl, N61, rfl⟩
set_option maxRecDepth 65536 in
set_option maxHeartbeats 40000000 in
theorem rmAt_1_found0 (l : Launch) (Z : State) (a0 : Array Value) (hw : ∀ d ∈ tables_1, d.before a0 Z = true) (ws : List Jvm.Cond) (o ra la sd wB l0 : Addr) (kr kl : ClassId) (r q1 : Int64)  (h0 : Heap) (n0 : Nat) (Z0 : n0 ≤ h0.size) (LD : own_Lad1 Z h0 o ra la sd kr kl r l0) (SB : Sta Z h0 "com/example/kurslot/kurslot/engine/Side" "BUY" "Lcom/example/kurslot/kurslot/engine/Side;" (.ref wB)) (hs : (sd = wB ∧ r = q1) ∨ (¬ sd = wB ∧ r = (-q1))) (g_o : n0 ≤ o) (g_ra : n0 ≤ ra) (g_la : n0 ≤ la) :
    own_Met l (⟨"com/example/kurslot/kurslot/engine/PriceLadder", "levelAt", "(J)Lcom/example/kurslot/kurslot/engine/PriceLevel;"⟩ : MethodName) prog_27_method_7_code 7 (some (.object "com/example/kurslot/kurslot/engine/PriceLevel")) ws ({ frames := 2, cells := 0, slots := 0, locals := 50 } : Room) Z #[(.ref o), (.long q1)] h0 (fun v h L => v = some (.ref l0) ∧ Fr n0 L ∧ h = h0) := by
  refine own_body (plainFor_of_name pn_1) ?_
  intro p e s m below meth c s₁ X0 hx hby hml hown hnm hret hlk hZ e0
  replace hown : s.vm.findClass "com/example/kurslot/kurslot/engine/PriceLadder" = some m.cls := hown
  replace hml : c.maxLocals = 7 := hml
  replace hret : meth.sig.returnType = (some (.object "com/example/kurslot/kurslot/engine/PriceLevel")) := hret
  have N0 := Fr.nil n0
  have ef : entryFrame m #[(.ref o), (.long q1)] 7 = mkF m 0 #[.val (.ref o), .val (.long q1), .second, .unset, .unset, .unset, .unset] [] := by first | (simp [entryFrame, mkF, argsToLocals, Value.category]; done) | rfl
  refine own_step (S' := (s₁.setTop (mkF m 0 #[.val (.ref o), .val (.long q1), .second, .unset, .unset, .unset, .unset] []))) (fun _ k => castTop ef k) ?_
  obtain ⟨Eo, Fr_, Fl_, Fz_, Fs_, Era, Ela, Vr, Vl, Ov, El0⟩ := LD
  refine own_aloadN X0 hx (hb hby d4_0) rfl rfl ?_
  refine own_lloadN X0 hx (hb hby d4_1) rfl ?_
  refine own_cPriv (W := 0) (rest := []) X0 hx hZ [(.long q1)] hown (hw _ (List.mem_of_getElem? (i := 31) rfl)) (hw _ (List.mem_of_getElem? (i := 32) rfl)) (hw _ (List.mem_of_getElem? (i := 33) rfl)) (hw _ (List.mem_of_getElem? (i := 6) rfl)) (by decide) (hw _ (List.mem_of_getElem? (i := 34) rfl)) (hw _ (List.mem_of_getElem? (i := 7) rfl)) e0 Eo (rmRank l Z a0 hw [] o sd wB r q1 h0 n0 Z0 Fs_ SB hs) (by rw [hml]; rfl) (lenOf pd_3 rfl) rfl (Nat.le_of_eq rfl) (hb hby d4_2) (by decide) (by decide) (by decide) (by decide) fun v62 T62 L62 X62 hQ62 => ?_
  obtain ⟨rfl, N62q, e62⟩ := hQ62
  have N62 := Fr.app N0 N62q
  show own_At p e below s _ _ _ T62 m 5 _ [(.long r)]
  refine own_lstoreN (l' := #[.val (.ref o), .val (.long q1), .second, .val (.long r), .second, .unset, .unset]) X62 hx (hb hby d4_5) rfl ?_
  refine own_aloadN X62 hx (hb hby d4_6) rfl rfl ?_
  refine own_getF X62 hx hZ hown (host := "") (Or.inl (hw _ (List.mem_of_getElem? (i := 18) rfl))) Via.refl e62 Fr_ (hb hby d4_7) fun T63 X63 e63 => ?_
  refine own_iconst X63 hx (0 : Int32) (hb hby d4_10) rfl ?_
  refine own_aloadN X63 hx (hb hby d4_11) rfl rfl ?_
  refine own_getF X63 hx hZ hown (host := "") (Or.inl (hw _ (List.mem_of_getElem? (i := 37) rfl))) Via.refl e63 Fz_ (hb hby d4_12) fun T64 X64 e64 => ?_
  refine own_lloadN X64 hx (hb hby d4_15) rfl ?_
  refine own_cStat (W := 0) (rest := []) X64 hx hZ [(.ref ra), (.int (0 : Int32)), (.int (1 : Int32)), (.long r)] hown (hw _ (List.mem_of_getElem? (i := 39) rfl)) (hw _ (List.mem_of_getElem? (i := 40) rfl)) (by decide) (hw _ (List.mem_of_getElem? (i := 42) rfl)) (hw _ (List.mem_of_getElem? (i := 41) rfl)) e64 (rmBS_1_found0 l Z a0 hw [] ra kr r h0 n0 Z0 Vr ) (by rw [hml]; rfl) (lenOf pd_2 rfl) rfl (Nat.le_of_eq rfl) (hb hby d4_16) (by decide) (by decide) (by decide) (by decide) fun v65 T65 L65 X65 hQ65 => ?_
  obtain ⟨rfl, N65q, e65⟩ := hQ65
  have N65 := Fr.app N62 N65q
  show own_At p e below s _ _ _ T65 m 19 _ [(.int (0 : Int32))]
  refine own_istore (l' := #[.val (.ref o), .val (.long q1), .second, .val (.long r), .second, .val (.int (0 : Int32)), .unset]) X65 hx (hb hby d4_19) rfl ?_
  refine own_iload X65 hx (hb hby d4_21) rfl ?_
  refine own_ifNo X65 hx (hb hby d4_23) (flt (by decide : ¬ ((0 : Int32) < (0 : Int32)))).1 ?_
  refine own_aloadN X65 hx (hb hby d4_26) rfl rfl ?_
  refine own_getF X65 hx hZ hown (host := "") (Or.inl (hw _ (List.mem_of_getElem? (i := 22) rfl))) Via.refl e65 Fl_ (hb hby d4_27) fun T66 X66 e66 => ?_
  refine own_iload X66 hx (hb hby d4_30) rfl ?_
  refine own_aaload X66 hx hZ (.ref l0) e66 Vl rfl ⟨by decide, by decide⟩ rfl (hb hby d4_32) ?_
  refine own_retA X66 hx hlk hret rfl rfl rfl (hb hby d4_33) (by decide) (by decide) ?_
  try rw [e66]
  exact ⟨rfl, N65, rfl⟩
set_option maxRecDepth 65536 in
set_option maxHeartbeats 40000000 in
theorem rmB0_1_ins0 (l : Launch) (Z : State) (a0 : Array Value) (hw : ∀ d ∈ tables_1, d.before a0 Z = true) (ws : List Jvm.Cond) (ra : Addr) (kr : ClassId) (r x0 : Int64)  (h0 : Heap) (n0 : Nat) (Z0 : n0 ≤ h0.size) (Vr : Arv Z h0 ra kr .long (16 : Int32) [(.long x0), (.long (0 : Int64)), (.long (0 : Int64)), (.long (0 : Int64)), (.long (0 : Int64)), (.long (0 : Int64)), (.long (0 : Int64)), (.long (0 : Int64)), (.long (0 : Int64)), (.long (0 : Int64)), (.long (0 : Int64)), (.long (0 : Int64)), (.long (0 : Int64)), (.long (0 : Int64)), (.long (0 : Int64)), (.long (0 : Int64))] (.long (0 : Int64))) (hq0 : r < x0) :
    own_Met l (⟨"java/util/Arrays", "binarySearch0", "([JIIJ)I"⟩ : MethodName) jdk_65_method_56_code 10 (some .int) ws ({ frames := 0, cells := 0, slots := 0, locals := 0 } : Room) Z #[(.ref ra), (.int (0 : Int32)), (.int (1 : Int32)), (.long r)] h0 (fun v h L => v = some (.int (-1 : Int32)) ∧ Fr n0 L ∧ h = h0) := by
  refine own_body (plainFor_of_name pn_2) ?_
  intro p e s m below meth c s₁ X0 hx hby hml hown hnm hret hlk hZ e0
  replace hown : s.vm.findClass "java/util/Arrays" = some m.cls := hown
  replace hml : c.maxLocals = 10 := hml
  replace hret : meth.sig.returnType = (some .int) := hret
  have N0 := Fr.nil n0
  have ef : entryFrame m #[(.ref ra), (.int (0 : Int32)), (.int (1 : Int32)), (.long r)] 10 = mkF m 0 #[.val (.ref ra), .val (.int (0 : Int32)), .val (.int (1 : Int32)), .val (.long r), .second, .unset, .unset, .unset, .unset, .unset] [] := by first | (simp [entryFrame, mkF, argsToLocals, Value.category]; done) | rfl
  refine own_step (S' := (s₁.setTop (mkF m 0 #[.val (.ref ra), .val (.int (0 : Int32)), .val (.int (1 : Int32)), .val (.long r), .second, .unset, .unset, .unset, .unset, .unset] []))) (fun _ k => castTop ef k) ?_
  refine own_iloadN X0 hx (hb hby d8_0) rfl ?_
  refine own_istore (l' := #[.val (.ref ra), .val (.int (0 : Int32)), .val (.int (1 : Int32)), .val (.long r), .second, .val (.int (0 : Int32)), .unset, .unset, .unset, .unset]) X0 hx (hb hby d8_1) rfl ?_
  refine own_iloadN X0 hx (hb hby d8_3) rfl ?_
  refine own_iconst X0 hx (1 : Int32) (hb hby d8_4) rfl ?_
  refine own_isub X0 hx (hb hby d8_5) ?_
  rw [show ((1 : Int32) - (1 : Int32)) = (0 : Int32) from by decide]
  refine own_istore (l' := #[.val (.ref ra), .val (.int (0 : Int32)), .val (.int (1 : Int32)), .val (.long r), .second, .val (.int (0 : Int32)), .val (.int (0 : Int32)), .unset, .unset, .unset]) X0 hx (hb hby d8_6) rfl ?_
  refine own_iload X0 hx (hb hby d8_8) rfl ?_
  refine own_iload X0 hx (hb hby d8_10) rfl ?_
  refine own_icmpNo X0 hx (hb hby d8_12) (flt (by decide : ¬ ((0 : Int32) < (0 : Int32)))).2.2.1 ?_
  refine own_iload X0 hx (hb hby d8_15) rfl ?_
  refine own_iload X0 hx (hb hby d8_17) rfl ?_
  refine own_iadd X0 hx (hb hby d8_19) ?_
  rw [show ((0 : Int32) + (0 : Int32)) = (0 : Int32) from by decide]
  refine own_iconst X0 hx (1 : Int32) (hb hby d8_20) rfl ?_
  refine own_iushr X0 hx (hb hby d8_21) ?_
  rw [show (((0 : Int32).toUInt32 >>> ((1 : Int32) &&& 31).toUInt32).toInt32) = (0 : Int32) from by decide]
  refine own_istore (l' := #[.val (.ref ra), .val (.int (0 : Int32)), .val (.int (1 : Int32)), .val (.long r), .second, .val (.int (0 : Int32)), .val (.int (0 : Int32)), .val (.int (0 : Int32)), .unset, .unset]) X0 hx (hb hby d8_22) rfl ?_
  refine own_aloadN X0 hx (hb hby d8_24) rfl rfl ?_
  refine own_iload X0 hx (hb hby d8_25) rfl ?_
  refine own_laload X0 hx hZ (.long x0) e0 Vr ⟨by decide, by decide⟩ rfl (hb hby d8_27) ?_
  refine own_lstore (l' := #[.val (.ref ra), .val (.int (0 : Int32)), .val (.int (1 : Int32)), .val (.long r), .second, .val (.int (0 : Int32)), .val (.int (0 : Int32)), .val (.int (0 : Int32)), .val (.long x0), .second]) X0 hx (hb hby d8_28) rfl ?_
  refine own_lload X0 hx (hb hby d8_30) rfl ?_
  refine own_lloadN X0 hx (hb hby d8_32) rfl ?_
  refine own_lcmp X0 hx (hb hby d8_33) ?_
  refine own_ifYes X0 hx 46 (hb hby d8_34) (flt (fun q => (own_asym hq0) ((lw_lt x0 r).mp q))).2.1 (by decide) (by decide) ?_
  refine own_lload X0 hx (hb hby d8_46) rfl ?_
  refine own_lloadN X0 hx (hb hby d8_48) rfl ?_
  refine own_lcmp X0 hx (hb hby d8_49) ?_
  refine own_ifNo X0 hx (hb hby d8_50) (tlt ((lw_gt x0 r).mpr hq0)).2.2.2 ?_
  refine own_iload X0 hx (hb hby d8_53) rfl ?_
  refine own_iconst X0 hx (1 : Int32) (hb hby d8_55) rfl ?_
  refine own_isub X0 hx (hb hby d8_56) ?_
  rw [show ((0 : Int32) - (1 : Int32)) = (-1 : Int32) from by decide]
  refine own_istore (l' := #[.val (.ref ra), .val (.int (0 : Int32)), .val (.int (1 : Int32)), .val (.long r), .second, .val (.int (0 : Int32)), .val (.int (-1 : Int32)), .val (.int (0 : Int32)), .val (.long x0), .second]) X0 hx (hb hby d8_57) rfl ?_
  refine own_goto X0 hx 65 (hb hby d8_59) (by decide) (by decide) ?_
  refine own_goto X0 hx 8 (hb hby d8_65) (by decide) (by decide) ?_
  refine own_iload X0 hx (hb hby d8_8) rfl ?_
  refine own_iload X0 hx (hb hby d8_10) rfl ?_
  refine own_icmpYes X0 hx 68 (hb hby d8_12) (tlt (by decide : (-1 : Int32) < (0 : Int32))).2.2.1 (by decide) (by decide) ?_
  refine own_iload X0 hx (hb hby d8_68) rfl ?_
  refine own_iconst X0 hx (1 : Int32) (hb hby d8_70) rfl ?_
  refine own_iadd X0 hx (hb hby d8_71) ?_
  rw [show ((0 : Int32) + (1 : Int32)) = (1 : Int32) from by decide]
  refine own_ineg X0 hx (hb hby d8_72) ?_
  refine own_retI X0 hx hlk hret (hb hby d8_73) (by decide) (by decide) ?_
  try rw [e0]
  exact ⟨rfl, N0, rfl⟩
set_option maxRecDepth 65536 in
set_option maxHeartbeats 40000000 in
theorem rmBS_1_ins0 (l : Launch) (Z : State) (a0 : Array Value) (hw : ∀ d ∈ tables_1, d.before a0 Z = true) (ws : List Jvm.Cond) (ra : Addr) (kr : ClassId) (r x0 : Int64)  (h0 : Heap) (n0 : Nat) (Z0 : n0 ≤ h0.size) (Vr : Arv Z h0 ra kr .long (16 : Int32) [(.long x0), (.long (0 : Int64)), (.long (0 : Int64)), (.long (0 : Int64)), (.long (0 : Int64)), (.long (0 : Int64)), (.long (0 : Int64)), (.long (0 : Int64)), (.long (0 : Int64)), (.long (0 : Int64)), (.long (0 : Int64)), (.long (0 : Int64)), (.long (0 : Int64)), (.long (0 : Int64)), (.long (0 : Int64)), (.long (0 : Int64))] (.long (0 : Int64))) (hq0 : r < x0) :
    own_Met l (⟨"java/util/Arrays", "binarySearch", "([JIIJ)I"⟩ : MethodName) jdk_65_method_55_code 5 (some .int) ws ({ frames := 1, cells := 0, slots := 0, locals := 21 } : Room) Z #[(.ref ra), (.int (0 : Int32)), (.int (1 : Int32)), (.long r)] h0 (fun v h L => v = some (.int (-1 : Int32)) ∧ Fr n0 L ∧ h = h0) := by
  refine own_body (plainFor_of_name pn_2) ?_
  intro p e s m below meth c s₁ X0 hx hby hml hown hnm hret hlk hZ e0
  replace hown : s.vm.findClass "java/util/Arrays" = some m.cls := hown
  replace hml : c.maxLocals = 5 := hml
  replace hret : meth.sig.returnType = (some .int) := hret
  have N0 := Fr.nil n0
  have ef : entryFrame m #[(.ref ra), (.int (0 : Int32)), (.int (1 : Int32)), (.long r)] 5 = mkF m 0 #[.val (.ref ra), .val (.int (0 : Int32)), .val (.int (1 : Int32)), .val (.long r), .second] [] := by first | (simp [entryFrame, mkF, argsToLocals, Value.category]; done) | rfl
  refine own_step (S' := (s₁.setTop (mkF m 0 #[.val (.ref ra), .val (.int (0 : Int32)), .val (.int (1 : Int32)), .val (.long r), .second] []))) (fun _ k => castTop ef k) ?_
  refine own_aloadN X0 hx (hb hby d6_0) rfl rfl ?_
  refine own_arraylength X0 hx hZ e0 (own_alnV Vr) (hb hby d6_1) ?_
  refine own_iloadN X0 hx (hb hby d6_2) rfl ?_
  refine own_iloadN X0 hx (hb hby d6_3) rfl ?_
  refine own_cStat (W := 0) (rest := []) X0 hx hZ [(.int (16 : Int32)), (.int (0 : Int32)), (.int (1 : Int32))] hown (hw _ (List.mem_of_getElem? (i := 43) rfl)) (hw _ (List.mem_of_getElem? (i := 44) rfl)) (by decide) (hw _ (List.mem_of_getElem? (i := 45) rfl)) (hw _ (List.mem_of_getElem? (i := 41) rfl)) e0 (rmRC_1 l Z a0 hw [] h0 n0 Z0) (by rw [hml]; rfl) (lenOf pd_1 rfl) rfl (Nat.le_of_eq rfl) (hb hby d6_4) (by decide) (by decide) (by decide) (by decide) fun v67 T67 L67 X67 hQ67 => ?_
  obtain ⟨rfl, N67q, e67⟩ := hQ67
  have N67 := Fr.app N0 N67q
  show own_At p e below s _ _ _ T67 m 7 _ []
  refine own_aloadN X67 hx (hb hby d6_7) rfl rfl ?_
  refine own_iloadN X67 hx (hb hby d6_8) rfl ?_
  refine own_iloadN X67 hx (hb hby d6_9) rfl ?_
  refine own_lloadN X67 hx (hb hby d6_10) rfl ?_
  refine own_cStat (W := 0) (rest := []) X67 hx hZ [(.ref ra), (.int (0 : Int32)), (.int (1 : Int32)), (.long r)] hown (hw _ (List.mem_of_getElem? (i := 46) rfl)) (hw _ (List.mem_of_getElem? (i := 47) rfl)) (by decide) (hw _ (List.mem_of_getElem? (i := 48) rfl)) (hw _ (List.mem_of_getElem? (i := 41) rfl)) e67 (rmB0_1_ins0 l Z a0 hw [] ra kr r x0 h0 n0 Z0 Vr hq0) (by rw [hml]; rfl) (lenOf pd_2 rfl) rfl (Nat.le_of_eq rfl) (hb hby d6_11) (by decide) (by decide) (by decide) (by decide) fun v68 T68 L68 X68 hQ68 => ?_
  obtain ⟨rfl, N68q, e68⟩ := hQ68
  have N68 := Fr.app N67 N68q
  show own_At p e below s _ _ _ T68 m 14 _ [(.int (-1 : Int32))]
  refine own_retI X68 hx hlk hret (hb hby d6_14) (by decide) (by decide) ?_
  try rw [e68]
  exact ⟨rfl, N68, rfl⟩
set_option maxRecDepth 65536 in
set_option maxHeartbeats 40000000 in
theorem rmAt_1_ins0 (l : Launch) (Z : State) (a0 : Array Value) (hw : ∀ d ∈ tables_1, d.before a0 Z = true) (ws : List Jvm.Cond) (o ra la sd wB l0 : Addr) (kr kl : ClassId) (r x0 q1 : Int64)  (h0 : Heap) (n0 : Nat) (Z0 : n0 ≤ h0.size) (LD : own_Lad1 Z h0 o ra la sd kr kl x0 l0) (SB : Sta Z h0 "com/example/kurslot/kurslot/engine/Side" "BUY" "Lcom/example/kurslot/kurslot/engine/Side;" (.ref wB)) (hs : (sd = wB ∧ r = q1) ∨ (¬ sd = wB ∧ r = (-q1))) (g_o : n0 ≤ o) (g_ra : n0 ≤ ra) (g_la : n0 ≤ la) (hq0 : r < x0) :
    own_Met l (⟨"com/example/kurslot/kurslot/engine/PriceLadder", "levelAt", "(J)Lcom/example/kurslot/kurslot/engine/PriceLevel;"⟩ : MethodName) prog_27_method_7_code 7 (some (.object "com/example/kurslot/kurslot/engine/PriceLevel")) ws ({ frames := 2, cells := 1, slots := 2, locals := 50 } : Room) Z #[(.ref o), (.long q1)] h0 (fun v h L => ∃ b, v = some (.ref b) ∧ Fr n0 L ∧ Keep h0 h [o, ra, la] ∧ h0.size ≤ b ∧ own_Lad2 Z h o ra la sd kr kl r x0 b l0) := by
  refine own_body (plainFor_of_name pn_1) ?_
  intro p e s m below meth c s₁ X0 hx hby hml hown hnm hret hlk hZ e0
  replace hown : s.vm.findClass "com/example/kurslot/kurslot/engine/PriceLadder" = some m.cls := hown
  replace hml : c.maxLocals = 7 := hml
  replace hret : meth.sig.returnType = (some (.object "com/example/kurslot/kurslot/engine/PriceLevel")) := hret
  have N0 := Fr.nil n0
  have ef : entryFrame m #[(.ref o), (.long q1)] 7 = mkF m 0 #[.val (.ref o), .val (.long q1), .second, .unset, .unset, .unset, .unset] [] := by first | (simp [entryFrame, mkF, argsToLocals, Value.category]; done) | rfl
  refine own_step (S' := (s₁.setTop (mkF m 0 #[.val (.ref o), .val (.long q1), .second, .unset, .unset, .unset, .unset] []))) (fun _ k => castTop ef k) ?_
  obtain ⟨Eo, Fr_, Fl_, Fz_, Fs_, Era, Ela, Vr, Vl, Ov, El0⟩ := LD
  refine own_aloadN X0 hx (hb hby d4_0) rfl rfl ?_
  refine own_lloadN X0 hx (hb hby d4_1) rfl ?_
  refine own_cPriv (W := 0) (rest := []) X0 hx hZ [(.long q1)] hown (hw _ (List.mem_of_getElem? (i := 31) rfl)) (hw _ (List.mem_of_getElem? (i := 32) rfl)) (hw _ (List.mem_of_getElem? (i := 33) rfl)) (hw _ (List.mem_of_getElem? (i := 6) rfl)) (by decide) (hw _ (List.mem_of_getElem? (i := 34) rfl)) (hw _ (List.mem_of_getElem? (i := 7) rfl)) e0 Eo (rmRank l Z a0 hw [] o sd wB r q1 h0 n0 Z0 Fs_ SB hs) (by rw [hml]; rfl) (lenOf pd_3 rfl) rfl (Nat.le_of_eq rfl) (hb hby d4_2) (by decide) (by decide) (by decide) (by decide) fun v69 T69 L69 X69 hQ69 => ?_
  obtain ⟨rfl, N69q, e69⟩ := hQ69
  have N69 := Fr.app N0 N69q
  show own_At p e below s _ _ _ T69 m 5 _ [(.long r)]
  refine own_lstoreN (l' := #[.val (.ref o), .val (.long q1), .second, .val (.long r), .second, .unset, .unset]) X69 hx (hb hby d4_5) rfl ?_
  refine own_aloadN X69 hx (hb hby d4_6) rfl rfl ?_
  refine own_getF X69 hx hZ hown (host := "") (Or.inl (hw _ (List.mem_of_getElem? (i := 18) rfl))) Via.refl e69 Fr_ (hb hby d4_7) fun T70 X70 e70 => ?_
  refine own_iconst X70 hx (0 : Int32) (hb hby d4_10) rfl ?_
  refine own_aloadN X70 hx (hb hby d4_11) rfl rfl ?_
  refine own_getF X70 hx hZ hown (host := "") (Or.inl (hw _ (List.mem_of_getElem? (i := 37) rfl))) Via.refl e70 Fz_ (hb hby d4_12) fun T71 X71 e71 => ?_
  refine own_lloadN X71 hx (hb hby d4_15) rfl ?_
  refine own_cStat (W := 0) (rest := []) X71 hx hZ [(.ref ra), (.int (0 : Int32)), (.int (1 : Int32)), (.long r)] hown (hw _ (List.mem_of_getElem? (i := 39) rfl)) (hw _ (List.mem_of_getElem? (i := 40) rfl)) (by decide) (hw _ (List.mem_of_getElem? (i := 42) rfl)) (hw _ (List.mem_of_getElem? (i := 41) rfl)) e71 (rmBS_1_ins0 l Z a0 hw [] ra kr r x0 h0 n0 Z0 Vr hq0) (by rw [hml]; rfl) (lenOf pd_2 rfl) rfl (Nat.le_of_eq rfl) (hb hby d4_16) (by decide) (by decide) (by decide) (by decide) fun v72 T72 L72 X72 hQ72 => ?_
  obtain ⟨rfl, N72q, e72⟩ := hQ72
  have N72 := Fr.app N69 N72q
  show own_At p e below s _ _ _ T72 m 19 _ [(.int (-1 : Int32))]
  refine own_istore (l' := #[.val (.ref o), .val (.long q1), .second, .val (.long r), .second, .val (.int (-1 : Int32)), .unset]) X72 hx (hb hby d4_19) rfl ?_
  refine own_iload X72 hx (hb hby d4_21) rfl ?_
  refine own_ifYes X72 hx 34 (hb hby d4_23) (tlt (by decide : (-1 : Int32) < (0 : Int32))).1 (by decide) (by decide) ?_
  refine own_iload X72 hx (hb hby d4_34) rfl ?_
  refine own_ineg X72 hx (hb hby d4_36) ?_
  rw [show (-(-1 : Int32)) = (1 : Int32) from by decide]
  refine own_iconst X72 hx (1 : Int32) (hb hby d4_37) rfl ?_
  refine own_isub X72 hx (hb hby d4_38) ?_
  rw [show ((1 : Int32) - (1 : Int32)) = (0 : Int32) from by decide]
  refine own_istore (l' := #[.val (.ref o), .val (.long q1), .second, .val (.long r), .second, .val (.int (0 : Int32)), .unset]) X72 hx (hb hby d4_39) rfl ?_
  refine own_aloadN X72 hx (hb hby d4_41) rfl rfl ?_
  refine own_getF X72 hx hZ hown (host := "") (Or.inl (hw _ (List.mem_of_getElem? (i := 37) rfl))) Via.refl e72 Fz_ (hb hby d4_42) fun T73 X73 e73 => ?_
  refine own_aloadN X73 hx (hb hby d4_45) rfl rfl ?_
  refine own_getF X73 hx hZ hown (host := "") (Or.inl (hw _ (List.mem_of_getElem? (i := 18) rfl))) Via.refl e73 Fr_ (hb hby d4_46) fun T74 X74 e74 => ?_
  refine own_arraylength X74 hx hZ e74 (own_alnV Vr) (hb hby d4_49) ?_
  refine own_icmpYes X74 hx 90 (hb hby d4_50) (feq (by decide : ¬ ((1 : Int32) = (16 : Int32)))).2 (by decide) (by decide) ?_
  refine own_aloadN X74 hx (hb hby d4_90) rfl rfl ?_
  refine own_getF X74 hx hZ hown (host := "") (Or.inl (hw _ (List.mem_of_getElem? (i := 18) rfl))) Via.refl e74 Fr_ (hb hby d4_91) fun T75 X75 e75 => ?_
  refine own_iload X75 hx (hb hby d4_94) rfl ?_
  refine own_aloadN X75 hx (hb hby d4_96) rfl rfl ?_
  refine own_getF X75 hx hZ hown (host := "") (Or.inl (hw _ (List.mem_of_getElem? (i := 18) rfl))) Via.refl e75 Fr_ (hb hby d4_97) fun T76 X76 e76 => ?_
  refine own_iload X76 hx (hb hby d4_100) rfl ?_
  refine own_iconst X76 hx (1 : Int32) (hb hby d4_102) rfl ?_
  refine own_iadd X76 hx (hb hby d4_103) ?_
  rw [show ((0 : Int32) + (1 : Int32)) = (1 : Int32) from by decide]
  refine own_aloadN X76 hx (hb hby d4_104) rfl rfl ?_
  refine own_getF X76 hx hZ hown (host := "") (Or.inl (hw _ (List.mem_of_getElem? (i := 37) rfl))) Via.refl e76 Fz_ (hb hby d4_105) fun T77 X77 e77 => ?_
  refine own_iload X77 hx (hb hby d4_108) rfl ?_
  refine own_isub X77 hx (hb hby d4_110) ?_
  rw [show ((1 : Int32) - (0 : Int32)) = (1 : Int32) from by decide]
  obtain ⟨T78, h78, L78, X78, e78, N78, K78, V78', st78⟩ := cpA (us := [(.long x0)]) X77 hx hZ hown (hw _ (List.mem_of_getElem? (i := 49) rfl)) (hw _ (List.mem_of_getElem? (i := 52) rfl)) (hw _ (List.mem_of_getElem? (i := 50) rfl)) (hw _ (List.mem_of_getElem? (i := 51) rfl)) e77 Vr Vr (Or.inl ⟨rfl, rfl⟩) (by decide) (by decide) (by decide) (by decide) (by decide) rfl (Nat.le_of_ble_eq_true rfl) N72 g_ra (g := (mkF m 111 #[.val (.ref o), .val (.long q1), .second, .val (.long r), .second, .val (.int (0 : Int32)), .unset] [(.int (1 : Int32)), (.int (1 : Int32)), (.ref ra), (.int (0 : Int32)), (.ref ra)])) rfl (by rw [hml]; rfl) rfl (hb hby d4_111) (by decide) (W := 0) (by show 2 * 0 + _ ≤ _; exact Nat.le_of_eq rfl) (by decide)
  have V78 : Arv Z h78 ra kr .long (16 : Int32) [(.long x0), (.long x0), (.long (0 : Int64)), (.long (0 : Int64)), (.long (0 : Int64)), (.long (0 : Int64)), (.long (0 : Int64)), (.long (0 : Int64)), (.long (0 : Int64)), (.long (0 : Int64)), (.long (0 : Int64)), (.long (0 : Int64)), (.long (0 : Int64)), (.long (0 : Int64)), (.long (0 : Int64)), (.long (0 : Int64))] (.long (0 : Int64)) := V78'
  refine own_step (S' := (T78.setTop (mkF m 114 #[.val (.ref o), .val (.long q1), .second, .val (.long r), .second, .val (.int (0 : Int32)), .unset] []))) (fun _ k => st78 _ k) ?_
  refine own_aloadN X78 hx (hb hby d4_114) rfl rfl ?_
  refine own_getF X78 hx hZ hown (host := "") (Or.inl (hw _ (List.mem_of_getElem? (i := 22) rfl))) Via.refl e78 (Fld.keep Fl_ K78 (ninS (ne_exa Eo Era (by decide)) nin0)) (hb hby d4_115) fun T79 X79 e79 => ?_
  refine own_iload X79 hx (hb hby d4_118) rfl ?_
  refine own_aloadN X79 hx (hb hby d4_120) rfl rfl ?_
  refine own_getF X79 hx hZ hown (host := "") (Or.inl (hw _ (List.mem_of_getElem? (i := 22) rfl))) Via.refl e79 (Fld.keep Fl_ K78 (ninS (ne_exa Eo Era (by decide)) nin0)) (hb hby d4_121) fun T80 X80 e80 => ?_
  refine own_iload X80 hx (hb hby d4_124) rfl ?_
  refine own_iconst X80 hx (1 : Int32) (hb hby d4_126) rfl ?_
  refine own_iadd X80 hx (hb hby d4_127) ?_
  rw [show ((0 : Int32) + (1 : Int32)) = (1 : Int32) from by decide]
  refine own_aloadN X80 hx (hb hby d4_128) rfl rfl ?_
  refine own_getF X80 hx hZ hown (host := "") (Or.inl (hw _ (List.mem_of_getElem? (i := 37) rfl))) Via.refl e80 (Fld.keep Fz_ K78 (ninS (ne_exa Eo Era (by decide)) nin0)) (hb hby d4_129) fun T81 X81 e81 => ?_
  refine own_iload X81 hx (hb hby d4_132) rfl ?_
  refine own_isub X81 hx (hb hby d4_134) ?_
  rw [show ((1 : Int32) - (0 : Int32)) = (1 : Int32) from by decide]
  obtain ⟨T82, h82, L82, X82, e82, N82, K82, V82', st82⟩ := cpA (us := [(.ref l0)]) X81 hx hZ hown (hw _ (List.mem_of_getElem? (i := 49) rfl)) (hw _ (List.mem_of_getElem? (i := 52) rfl)) (hw _ (List.mem_of_getElem? (i := 50) rfl)) (hw _ (List.mem_of_getElem? (i := 51) rfl)) e81 (Arv.keep Vl K78 (ninS (ne_exa Ela Era (by decide)) nin0)) (Arv.keep Vl K78 (ninS (ne_exa Ela Era (by decide)) nin0)) (Or.inr ⟨rfl, rfl, ⟨own_sto (Arv.keep Vl K78 (ninS (ne_exa Ela Era (by decide)) nin0)) Ov (Exa.keep El0 K78), trivial⟩⟩) (by decide) (by decide) (by decide) (by decide) (by decide) rfl (Nat.le_of_ble_eq_true rfl) N78 g_la (g := (mkF m 135 #[.val (.ref o), .val (.long q1), .second, .val (.long r), .second, .val (.int (0 : Int32)), .unset] [(.int (1 : Int32)), (.int (1 : Int32)), (.ref la), (.int (0 : Int32)), (.ref la)])) rfl (by rw [hml]; rfl) rfl (hb hby d4_135) (by decide) (W := 0) (by show 2 * 0 + _ ≤ _; exact Nat.le_of_eq rfl) (by decide)
  have V82 : Arv Z h82 la kl (.object "com/example/kurslot/kurslot/engine/PriceLevel") (16 : Int32) [(.ref l0), (.ref l0), .null, .null, .null, .null, .null, .null, .null, .null, .null, .null, .null, .null, .null, .null] .null := V82'
  refine own_step (S' := (T82.setTop (mkF m 138 #[.val (.ref o), .val (.long q1), .second, .val (.long r), .second, .val (.int (0 : Int32)), .unset] []))) (fun _ k => st82 _ k) ?_
  refine own_newO X82 hx hZ hown (hw _ (List.mem_of_getElem? (i := 20) rfl)) (hw _ (List.mem_of_getElem? (i := 53) rfl)) (hw _ (List.mem_of_getElem? (i := 54) rfl)) e82 (hb hby d4_138) (by decide) (by decide) fun T83 h83 b83 g83 X83 e83 E83 A83 D83 => ?_
  have g_b83 : n0 ≤ b83 := Nat.le_trans (Nat.le_trans (Nat.le_trans Z0 K78.1) K82.1) (Nat.le_of_eq g83.symm)
  have szo_b83 : h0.size ≤ b83 := Nat.le_trans (Nat.le_trans (Nat.le_trans (Nat.le_refl h0.size) K78.1) K82.1) (Nat.le_of_eq g83.symm)
  refine own_dup X83 hx (hb hby d4_141) rfl ?_
  refine own_cSpec (b := b83) (W := 1) (rest := [(.ref b83)]) X83 hx hZ [] rfl hown (hw _ (List.mem_of_getElem? (i := 55) rfl)) (hw _ (List.mem_of_getElem? (i := 56) rfl)) (by decide) (hw _ (List.mem_of_getElem? (i := 57) rfl)) (hw _ (List.mem_of_getElem? (i := 54) rfl)) e83 (rmPLI l Z a0 hw [] b83 h83 n0 (Nat.le_trans (Nat.le_trans (Nat.le_trans Z0 K78.1) K82.1) E83.1)) (by rw [hml]; rfl) (lenOf pd_4 rfl) rfl (Nat.le_of_eq rfl) (hb hby d4_142) (by decide) (by decide) (by decide) (by decide) fun v84 T84 L84 X84 hQ84 => ?_
  obtain ⟨rfl, N84q, e84⟩ := hQ84
  have N84 := Fr.app N82 N84q
  show own_At p e below s _ _ _ T84 m 145 _ [(.ref b83)]
  refine own_astore (l' := #[.val (.ref o), .val (.long q1), .second, .val (.long r), .second, .val (.int (0 : Int32)), .val (.ref b83)]) X84 hx (hb hby d4_145) rfl rfl ?_
  refine own_aloadN X84 hx (hb hby d4_147) rfl rfl ?_
  refine own_getF X84 hx hZ hown (host := "") (Or.inl (hw _ (List.mem_of_getElem? (i := 18) rfl))) Via.refl e84 (Fld.ext E83 (Fld.keep (Fld.keep Fr_ K78 (ninS (ne_exa Eo Era (by decide)) nin0)) K82 (ninS (ne_exa Eo Ela (by decide)) nin0))) (hb hby d4_148) fun T85 X85 e85 => ?_
  refine own_iload X85 hx (hb hby d4_151) rfl ?_
  refine own_lloadN X85 hx (hb hby d4_153) rfl ?_
  refine own_stJ (vs' := [(.long r), (.long x0), (.long (0 : Int64)), (.long (0 : Int64)), (.long (0 : Int64)), (.long (0 : Int64)), (.long (0 : Int64)), (.long (0 : Int64)), (.long (0 : Int64)), (.long (0 : Int64)), (.long (0 : Int64)), (.long (0 : Int64)), (.long (0 : Int64)), (.long (0 : Int64)), (.long (0 : Int64)), (.long (0 : Int64))]) (w := (.long r)) X85 hx hZ e85 ((Arv.keep V78 K82 (ninS (ne_exa Era Ela (by decide)) nin0)).ext E83) ⟨by decide, by decide⟩ 0 rfl (Nat.le_of_ble_eq_true rfl) rfl rfl (hb hby d4_154) fun T86 h86 X86 e86 W86 V86 => ?_
  have N86 := Fr.snoc X86 N84 g_ra
  refine own_aloadN X86 hx (hb hby d4_155) rfl rfl ?_
  refine own_getF X86 hx hZ hown (host := "") (Or.inl (hw _ (List.mem_of_getElem? (i := 22) rfl))) Via.refl e86 (Fld.other W86 (Fld.ext E83 (Fld.keep (Fld.keep Fl_ K78 (ninS (ne_exa Eo Era (by decide)) nin0)) K82 (ninS (ne_exa Eo Ela (by decide)) nin0))) (Or.inl (ne_exa Eo Era (by decide)))) (hb hby d4_156) fun T87 X87 e87 => ?_
  refine own_iload X87 hx (hb hby d4_159) rfl ?_
  refine own_aload X87 hx (hb hby d4_161) rfl rfl ?_
  refine own_stR (vs' := [(.ref b83), (.ref l0), .null, .null, .null, .null, .null, .null, .null, .null, .null, .null, .null, .null, .null, .null]) X87 hx hZ e87 (Arv.other (V82.ext E83) W86 (ne_exa Ela Era (by decide))) ⟨by decide, by decide⟩ 0 rfl (Nat.le_of_ble_eq_true rfl) rfl (Or.inr ⟨_, rfl, Ov, Ins.self (Exa.wr W86 A83)⟩) rfl (hb hby d4_163) fun T88 h88 X88 e88 W88 V88 => ?_
  have N88 := Fr.snoc X88 N86 g_la
  refine own_aloadN X88 hx (hb hby d4_164) rfl rfl ?_
  refine own_dup X88 hx (hb hby d4_165) rfl ?_
  refine own_getF X88 hx hZ hown (host := "") (Or.inl (hw _ (List.mem_of_getElem? (i := 37) rfl))) Via.refl e88 (Fld.other W88 (Fld.other W86 (Fld.ext E83 (Fld.keep (Fld.keep Fz_ K78 (ninS (ne_exa Eo Era (by decide)) nin0)) K82 (ninS (ne_exa Eo Ela (by decide)) nin0))) (Or.inl (ne_exa Eo Era (by decide)))) (Or.inl (ne_exa Eo Ela (by decide)))) (hb hby d4_166) fun T89 X89 e89 => ?_
  refine own_iconst X89 hx (1 : Int32) (hb hby d4_169) rfl ?_
  refine own_iadd X89 hx (hb hby d4_170) ?_
  rw [show ((1 : Int32) + (1 : Int32)) = (2 : Int32) from by decide]
  refine own_putF X89 hx hZ hown (host := "") (Or.inl (hw _ (List.mem_of_getElem? (i := 37) rfl))) Via.refl e89 (Fld.other W88 (Fld.other W86 (Fld.ext E83 (Fld.keep (Fld.keep Fz_ K78 (ninS (ne_exa Eo Era (by decide)) nin0)) K82 (ninS (ne_exa Eo Ela (by decide)) nin0))) (Or.inl (ne_exa Eo Era (by decide)))) (Or.inl (ne_exa Eo Ela (by decide)))) (Exa.wr W88 (Exa.wr W86 (Exa.ext E83 (Exa.keep (Exa.keep Eo K78) K82)))) (Or.inl (hw _ (List.mem_of_getElem? (i := 38) rfl))) (hw _ (List.mem_of_getElem? (i := 6) rfl)) (ty := .int) (by decide) rfl rfl (hb hby d4_171) fun T90 h90 X90 e90 W90 => ?_
  have Fw90 := Fld.same W90 (Fld.other W88 (Fld.other W86 (Fld.ext E83 (Fld.keep (Fld.keep Fz_ K78 (ninS (ne_exa Eo Era (by decide)) nin0)) K82 (ninS (ne_exa Eo Ela (by decide)) nin0))) (Or.inl (ne_exa Eo Era (by decide)))) (Or.inl (ne_exa Eo Ela (by decide))))
  have N90 := Fr.snoc X90 N88 g_o
  refine own_aload X90 hx (hb hby d4_174) rfl rfl ?_
  refine own_retA X90 hx hlk hret rfl rfl rfl (hb hby d4_176) (by decide) (by decide) ?_
  try rw [e90]
  exact ⟨b83, rfl, N90, (Keep.wr (Keep.wr (Keep.wr (Keep.ext (Keep.trans (Keep.trans (Keep.refl h0 [o, ra, la]) K78 (allS (Or.inl (List.mem_of_getElem? (i := 1) rfl)) all0)) K82 (allS (Or.inl (List.mem_of_getElem? (i := 2) rfl)) all0)) E83) W86 (Or.inl (List.mem_of_getElem? (i := 1) rfl))) W88 (Or.inl (List.mem_of_getElem? (i := 2) rfl))) W90 (Or.inl (List.mem_of_getElem? (i := 0) rfl))), szo_b83, ⟨(Exa.wr W90 (Exa.wr W88 (Exa.wr W86 (Exa.ext E83 (Exa.keep (Exa.keep Eo K78) K82))))), (Fld.other W90 (Fld.other W88 (Fld.other W86 (Fld.ext E83 (Fld.keep (Fld.keep Fr_ K78 (ninS (ne_exa Eo Era (by decide)) nin0)) K82 (ninS (ne_exa Eo Ela (by decide)) nin0))) (Or.inl (ne_exa Eo Era (by decide)))) (Or.inl (ne_exa Eo Ela (by decide)))) (Or.inr (slot_ne (Or.inl (hw _ (List.mem_of_getElem? (i := 19) rfl))) (Or.inl (hw _ (List.mem_of_getElem? (i := 38) rfl))) (by decide) (t := (.array .long)) (t' := .int) (by decide) (by decide)))), (Fld.other W90 (Fld.other W88 (Fld.other W86 (Fld.ext E83 (Fld.keep (Fld.keep Fl_ K78 (ninS (ne_exa Eo Era (by decide)) nin0)) K82 (ninS (ne_exa Eo Ela (by decide)) nin0))) (Or.inl (ne_exa Eo Era (by decide)))) (Or.inl (ne_exa Eo Ela (by decide)))) (Or.inr (slot_ne (Or.inl (hw _ (List.mem_of_getElem? (i := 23) rfl))) (Or.inl (hw _ (List.mem_of_getElem? (i := 38) rfl))) (by decide) (t := (.array (.object "com/example/kurslot/kurslot/engine/PriceLevel"))) (t' := .int) (by decide) (by decide)))), Fw90, (Fld.other W90 (Fld.other W88 (Fld.other W86 (Fld.ext E83 (Fld.keep (Fld.keep Fs_ K78 (ninS (ne_exa Eo Era (by decide)) nin0)) K82 (ninS (ne_exa Eo Ela (by decide)) nin0))) (Or.inl (ne_exa Eo Era (by decide)))) (Or.inl (ne_exa Eo Ela (by decide)))) (Or.inr (slot_ne (Or.inr (hw _ (List.mem_of_getElem? (i := 25) rfl))) (Or.inl (hw _ (List.mem_of_getElem? (i := 38) rfl))) (by decide) (t := (.object "com/example/kurslot/kurslot/engine/Side")) (t' := .int) (by decide) (by decide)))), (Exa.wr W90 (Exa.wr W88 (Exa.wr W86 (Exa.ext E83 (Exa.keep (Exa.keep Era K78) K82))))), (Exa.wr W90 (Exa.wr W88 (Exa.wr W86 (Exa.ext E83 (Exa.keep (Exa.keep Ela K78) K82))))), (Arv.other (Arv.other V86 W88 (ne_exa Era Ela (by decide))) W90 (ne_exa Era Eo (by decide))), (Arv.other V88 W90 (ne_exa Ela Eo (by decide))), Ov, (Exa.wr W90 (Exa.wr W88 (Exa.wr W86 A83))), (Exa.wr W90 (Exa.wr W88 (Exa.wr W86 (Exa.ext E83 (Exa.keep (Exa.keep El0 K78) K82)))))⟩⟩
set_option maxRecDepth 65536 in
set_option maxHeartbeats 40000000 in
theorem rmB0_1_ins1 (l : Launch) (Z : State) (a0 : Array Value) (hw : ∀ d ∈ tables_1, d.before a0 Z = true) (ws : List Jvm.Cond) (ra : Addr) (kr : ClassId) (r x0 : Int64)  (h0 : Heap) (n0 : Nat) (Z0 : n0 ≤ h0.size) (Vr : Arv Z h0 ra kr .long (16 : Int32) [(.long x0), (.long (0 : Int64)), (.long (0 : Int64)), (.long (0 : Int64)), (.long (0 : Int64)), (.long (0 : Int64)), (.long (0 : Int64)), (.long (0 : Int64)), (.long (0 : Int64)), (.long (0 : Int64)), (.long (0 : Int64)), (.long (0 : Int64)), (.long (0 : Int64)), (.long (0 : Int64)), (.long (0 : Int64)), (.long (0 : Int64))] (.long (0 : Int64))) (hq0 : x0 < r) :
    own_Met l (⟨"java/util/Arrays", "binarySearch0", "([JIIJ)I"⟩ : MethodName) jdk_65_method_56_code 10 (some .int) ws ({ frames := 0, cells := 0, slots := 0, locals := 0 } : Room) Z #[(.ref ra), (.int (0 : Int32)), (.int (1 : Int32)), (.long r)] h0 (fun v h L => v = some (.int (-2 : Int32)) ∧ Fr n0 L ∧ h = h0) := by
  refine own_body (plainFor_of_name pn_2) ?_
  intro p e s m below meth c s₁ X0 hx hby hml hown hnm hret hlk hZ e0
  replace hown : s.vm.findClass "java/util/Arrays" = some m.cls := hown
  replace hml : c.maxLocals = 10 := hml
  replace hret : meth.sig.returnType = (some .int) := hret
  have N0 := Fr.nil n0
  have ef : entryFrame m #[(.ref ra), (.int (0 : Int32)), (.int (1 : Int32)), (.long r)] 10 = mkF m 0 #[.val (.ref ra), .val (.int (0 : Int32)), .val (.int (1 : Int32)), .val (.long r), .second, .unset, .unset, .unset, .unset, .unset] [] := by first | (simp [entryFrame, mkF, argsToLocals, Value.category]; done) | rfl
  refine own_step (S' := (s₁.setTop (mkF m 0 #[.val (.ref ra), .val (.int (0 : Int32)), .val (.int (1 : Int32)), .val (.long r), .second, .unset, .unset, .unset, .unset, .unset] []))) (fun _ k => castTop ef k) ?_
  refine own_iloadN X0 hx (hb hby d8_0) rfl ?_
  refine own_istore (l' := #[.val (.ref ra), .val (.int (0 : Int32)), .val (.int (1 : Int32)), .val (.long r), .second, .val (.int (0 : Int32)), .unset, .unset, .unset, .unset]) X0 hx (hb hby d8_1) rfl ?_
  refine own_iloadN X0 hx (hb hby d8_3) rfl ?_
  refine own_iconst X0 hx (1 : Int32) (hb hby d8_4) rfl ?_
  refine own_isub X0 hx (hb hby d8_5) ?_
  rw [show ((1 : Int32) - (1 : Int32)) = (0 : Int32) from by decide]
  refine own_istore (l' := #[.val (.ref ra), .val (.int (0 : Int32)), .val (.int (1 : Int32)), .val (.long r), .second, .val (.int (0 : Int32)), .val (.int (0 : Int32)), .unset, .unset, .unset]) X0 hx (hb hby d8_6) rfl ?_
  refine own_iload X0 hx (hb hby d8_8) rfl ?_
  refine own_iload X0 hx (hb hby d8_10) rfl ?_
  refine own_icmpNo X0 hx (hb hby d8_12) (flt (by decide : ¬ ((0 : Int32) < (0 : Int32)))).2.2.1 ?_
  refine own_iload X0 hx (hb hby d8_15) rfl ?_
  refine own_iload X0 hx (hb hby d8_17) rfl ?_
  refine own_iadd X0 hx (hb hby d8_19) ?_
  rw [show ((0 : Int32) + (0 : Int32)) = (0 : Int32) from by decide]
  refine own_iconst X0 hx (1 : Int32) (hb hby d8_20) rfl ?_
  refine own_iushr X0 hx (hb hby d8_21) ?_
  rw [show (((0 : Int32).toUInt32 >>> ((1 : Int32) &&& 31).toUInt32).toInt32) = (0 : Int32) from by decide]
  refine own_istore (l' := #[.val (.ref ra), .val (.int (0 : Int32)), .val (.int (1 : Int32)), .val (.long r), .second, .val (.int (0 : Int32)), .val (.int (0 : Int32)), .val (.int (0 : Int32)), .unset, .unset]) X0 hx (hb hby d8_22) rfl ?_
  refine own_aloadN X0 hx (hb hby d8_24) rfl rfl ?_
  refine own_iload X0 hx (hb hby d8_25) rfl ?_
  refine own_laload X0 hx hZ (.long x0) e0 Vr ⟨by decide, by decide⟩ rfl (hb hby d8_27) ?_
  refine own_lstore (l' := #[.val (.ref ra), .val (.int (0 : Int32)), .val (.int (1 : Int32)), .val (.long r), .second, .val (.int (0 : Int32)), .val (.int (0 : Int32)), .val (.int (0 : Int32)), .val (.long x0), .second]) X0 hx (hb hby d8_28) rfl ?_
  refine own_lload X0 hx (hb hby d8_30) rfl ?_
  refine own_lloadN X0 hx (hb hby d8_32) rfl ?_
  refine own_lcmp X0 hx (hb hby d8_33) ?_
  refine own_ifNo X0 hx (hb hby d8_34) (tlt ((lw_lt x0 r).mpr hq0)).2.1 ?_
  refine own_iload X0 hx (hb hby d8_37) rfl ?_
  refine own_iconst X0 hx (1 : Int32) (hb hby d8_39) rfl ?_
  refine own_iadd X0 hx (hb hby d8_40) ?_
  rw [show ((0 : Int32) + (1 : Int32)) = (1 : Int32) from by decide]
  refine own_istore (l' := #[.val (.ref ra), .val (.int (0 : Int32)), .val (.int (1 : Int32)), .val (.long r), .second, .val (.int (1 : Int32)), .val (.int (0 : Int32)), .val (.int (0 : Int32)), .val (.long x0), .second]) X0 hx (hb hby d8_41) rfl ?_
  refine own_goto X0 hx 65 (hb hby d8_43) (by decide) (by decide) ?_
  refine own_goto X0 hx 8 (hb hby d8_65) (by decide) (by decide) ?_
  refine own_iload X0 hx (hb hby d8_8) rfl ?_
  refine own_iload X0 hx (hb hby d8_10) rfl ?_
  refine own_icmpYes X0 hx 68 (hb hby d8_12) (tlt (by decide : (0 : Int32) < (1 : Int32))).2.2.1 (by decide) (by decide) ?_
  refine own_iload X0 hx (hb hby d8_68) rfl ?_
  refine own_iconst X0 hx (1 : Int32) (hb hby d8_70) rfl ?_
  refine own_iadd X0 hx (hb hby d8_71) ?_
  rw [show ((1 : Int32) + (1 : Int32)) = (2 : Int32) from by decide]
  refine own_ineg X0 hx (hb hby d8_72) ?_
  refine own_retI X0 hx hlk hret (hb hby d8_73) (by decide) (by decide) ?_
  try rw [e0]
  exact ⟨rfl, N0, rfl⟩
set_option maxRecDepth 65536 in
set_option maxHeartbeats 40000000 in
theorem rmBS_1_ins1 (l : Launch) (Z : State) (a0 : Array Value) (hw : ∀ d ∈ tables_1, d.before a0 Z = true) (ws : List Jvm.Cond) (ra : Addr) (kr : ClassId) (r x0 : Int64)  (h0 : Heap) (n0 : Nat) (Z0 : n0 ≤ h0.size) (Vr : Arv Z h0 ra kr .long (16 : Int32) [(.long x0), (.long (0 : Int64)), (.long (0 : Int64)), (.long (0 : Int64)), (.long (0 : Int64)), (.long (0 : Int64)), (.long (0 : Int64)), (.long (0 : Int64)), (.long (0 : Int64)), (.long (0 : Int64)), (.long (0 : Int64)), (.long (0 : Int64)), (.long (0 : Int64)), (.long (0 : Int64)), (.long (0 : Int64)), (.long (0 : Int64))] (.long (0 : Int64))) (hq0 : x0 < r) :
    own_Met l (⟨"java/util/Arrays", "binarySearch", "([JIIJ)I"⟩ : MethodName) jdk_65_method_55_code 5 (some .int) ws ({ frames := 1, cells := 0, slots := 0, locals := 21 } : Room) Z #[(.ref ra), (.int (0 : Int32)), (.int (1 : Int32)), (.long r)] h0 (fun v h L => v = some (.int (-2 : Int32)) ∧ Fr n0 L ∧ h = h0) := by
  refine own_body (plainFor_of_name pn_2) ?_
  intro p e s m below meth c s₁ X0 hx hby hml hown hnm hret hlk hZ e0
  replace hown : s.vm.findClass "java/util/Arrays" = some m.cls := hown
  replace hml : c.maxLocals = 5 := hml
  replace hret : meth.sig.returnType = (some .int) := hret
  have N0 := Fr.nil n0
  have ef : entryFrame m #[(.ref ra), (.int (0 : Int32)), (.int (1 : Int32)), (.long r)] 5 = mkF m 0 #[.val (.ref ra), .val (.int (0 : Int32)), .val (.int (1 : Int32)), .val (.long r), .second] [] := by first | (simp [entryFrame, mkF, argsToLocals, Value.category]; done) | rfl
  refine own_step (S' := (s₁.setTop (mkF m 0 #[.val (.ref ra), .val (.int (0 : Int32)), .val (.int (1 : Int32)), .val (.long r), .second] []))) (fun _ k => castTop ef k) ?_
  refine own_aloadN X0 hx (hb hby d6_0) rfl rfl ?_
  refine own_arraylength X0 hx hZ e0 (own_alnV Vr) (hb hby d6_1) ?_
  refine own_iloadN X0 hx (hb hby d6_2) rfl ?_
  refine own_iloadN X0 hx (hb hby d6_3) rfl ?_
  refine own_cStat (W := 0) (rest := []) X0 hx hZ [(.int (16 : Int32)), (.int (0 : Int32)), (.int (1 : Int32))] hown (hw _ (List.mem_of_getElem? (i := 43) rfl)) (hw _ (List.mem_of_getElem? (i := 44) rfl)) (by decide) (hw _ (List.mem_of_getElem? (i := 45) rfl)) (hw _ (List.mem_of_getElem? (i := 41) rfl)) e0 (rmRC_1 l Z a0 hw [] h0 n0 Z0) (by rw [hml]; rfl) (lenOf pd_1 rfl) rfl (Nat.le_of_eq rfl) (hb hby d6_4) (by decide) (by decide) (by decide) (by decide) fun v91 T91 L91 X91 hQ91 => ?_
  obtain ⟨rfl, N91q, e91⟩ := hQ91
  have N91 := Fr.app N0 N91q
  show own_At p e below s _ _ _ T91 m 7 _ []
  refine own_aloadN X91 hx (hb hby d6_7) rfl rfl ?_
  refine own_iloadN X91 hx (hb hby d6_8) rfl ?_
  refine own_iloadN X91 hx (hb hby d6_9) rfl ?_
  refine own_lloadN X91 hx (hb hby d6_10) rfl ?_
  refine own_cStat (W := 0) (rest := []) X91 hx hZ [(.ref ra), (.int (0 : Int32)), (.int (1 : Int32)), (.long r)] hown (hw _ (List.mem_of_getElem? (i := 46) rfl)) (hw _ (List.mem_of_getElem? (i := 47) rfl)) (by decide) (hw _ (List.mem_of_getElem? (i := 48) rfl)) (hw _ (List.mem_of_getElem? (i := 41) rfl)) e91 (rmB0_1_ins1 l Z a0 hw [] ra kr r x0 h0 n0 Z0 Vr hq0) (by rw [hml]; rfl) (lenOf pd_2 rfl) rfl (Nat.le_of_eq rfl) (hb hby d6_11) (by decide) (by decide) (by decide) (by decide) fun v92 T92 L92 X92 hQ92 => ?_
  obtain ⟨rfl, N92q, e92⟩ := hQ92
  have N92 := Fr.app N91 N92q
  show own_At p e below s _ _ _ T92 m 14 _ [(.int (-2 : Int32))]
  refine own_retI X92 hx hlk hret (hb hby d6_14) (by decide) (by decide) ?_
  try rw [e92]
  exact ⟨rfl, N92, rfl⟩
set_option maxRecDepth 65536 in
set_option maxHeartbeats 40000000 in
theorem rmAt_1_ins1 (l : Launch) (Z : State) (a0 : Array Value) (hw : ∀ d ∈ tables_1, d.before a0 Z = true) (ws : List Jvm.Cond) (o ra la sd wB l0 : Addr) (kr kl : ClassId) (r x0 q1 : Int64)  (h0 : Heap) (n0 : Nat) (Z0 : n0 ≤ h0.size) (LD : own_Lad1 Z h0 o ra la sd kr kl x0 l0) (SB : Sta Z h0 "com/example/kurslot/kurslot/engine/Side" "BUY" "Lcom/example/kurslot/kurslot/engine/Side;" (.ref wB)) (hs : (sd = wB ∧ r = q1) ∨ (¬ sd = wB ∧ r = (-q1))) (g_o : n0 ≤ o) (g_ra : n0 ≤ ra) (g_la : n0 ≤ la) (hq0 : x0 < r) :
    own_Met l (⟨"com/example/kurslot/kurslot/engine/PriceLadder", "levelAt", "(J)Lcom/example/kurslot/kurslot/engine/PriceLevel;"⟩ : MethodName) prog_27_method_7_code 7 (some (.object "com/example/kurslot/kurslot/engine/PriceLevel")) ws ({ frames := 2, cells := 1, slots := 2, locals := 50 } : Room) Z #[(.ref o), (.long q1)] h0 (fun v h L => ∃ b, v = some (.ref b) ∧ Fr n0 L ∧ Keep h0 h [o, ra, la] ∧ h0.size ≤ b ∧ own_Lad2 Z h o ra la sd kr kl x0 r l0 b) := by
  refine own_body (plainFor_of_name pn_1) ?_
  intro p e s m below meth c s₁ X0 hx hby hml hown hnm hret hlk hZ e0
  replace hown : s.vm.findClass "com/example/kurslot/kurslot/engine/PriceLadder" = some m.cls := hown
  replace hml : c.maxLocals = 7 := hml
  replace hret : meth.sig.returnType = (some (.object "com/example/kurslot/kurslot/engine/PriceLevel")) := hret
  have N0 := Fr.nil n0
  have ef : entryFrame m #[(.ref o), (.long q1)] 7 = mkF m 0 #[.val (.ref o), .val (.long q1), .second, .unset, .unset, .unset, .unset] [] := by first | (simp [entryFrame, mkF, argsToLocals, Value.category]; done) | rfl
  refine own_step (S' := (s₁.setTop (mkF m 0 #[.val (.ref o), .val (.long q1), .second, .unset, .unset, .unset, .unset] []))) (fun _ k => castTop ef k) ?_
  obtain ⟨Eo, Fr_, Fl_, Fz_, Fs_, Era, Ela, Vr, Vl, Ov, El0⟩ := LD
  refine own_aloadN X0 hx (hb hby d4_0) rfl rfl ?_
  refine own_lloadN X0 hx (hb hby d4_1) rfl ?_
  refine own_cPriv (W := 0) (rest := []) X0 hx hZ [(.long q1)] hown (hw _ (List.mem_of_getElem? (i := 31) rfl)) (hw _ (List.mem_of_getElem? (i := 32) rfl)) (hw _ (List.mem_of_getElem? (i := 33) rfl)) (hw _ (List.mem_of_getElem? (i := 6) rfl)) (by decide) (hw _ (List.mem_of_getElem? (i := 34) rfl)) (hw _ (List.mem_of_getElem? (i := 7) rfl)) e0 Eo (rmRank l Z a0 hw [] o sd wB r q1 h0 n0 Z0 Fs_ SB hs) (by rw [hml]; rfl) (lenOf pd_3 rfl) rfl (Nat.le_of_eq rfl) (hb hby d4_2) (by decide) (by decide) (by decide) (by decide) fun v93 T93 L93 X93 hQ93 => ?_
  obtain ⟨rfl, N93q, e93⟩ := hQ93
  have N93 := Fr.app N0 N93q
  show own_At p e below s _ _ _ T93 m 5 _ [(.long r)]
  refine own_lstoreN (l' := #[.val (.ref o), .val (.long q1), .second, .val (.long r), .second, .unset, .unset]) X93 hx (hb hby d4_5) rfl ?_
  refine own_aloadN X93 hx (hb hby d4_6) rfl rfl ?_
  refine own_getF X93 hx hZ hown (host := "") (Or.inl (hw _ (List.mem_of_getElem? (i := 18) rfl))) Via.refl e93 Fr_ (hb hby d4_7) fun T94 X94 e94 => ?_
  refine own_iconst X94 hx (0 : Int32) (hb hby d4_10) rfl ?_
  refine own_aloadN X94 hx (hb hby d4_11) rfl rfl ?_
  refine own_getF X94 hx hZ hown (host := "") (Or.inl (hw _ (List.mem_of_getElem? (i := 37) rfl))) Via.refl e94 Fz_ (hb hby d4_12) fun T95 X95 e95 => ?_
  refine own_lloadN X95 hx (hb hby d4_15) rfl ?_
  refine own_cStat (W := 0) (rest := []) X95 hx hZ [(.ref ra), (.int (0 : Int32)), (.int (1 : Int32)), (.long r)] hown (hw _ (List.mem_of_getElem? (i := 39) rfl)) (hw _ (List.mem_of_getElem? (i := 40) rfl)) (by decide) (hw _ (List.mem_of_getElem? (i := 42) rfl)) (hw _ (List.mem_of_getElem? (i := 41) rfl)) e95 (rmBS_1_ins1 l Z a0 hw [] ra kr r x0 h0 n0 Z0 Vr hq0) (by rw [hml]; rfl) (lenOf pd_2 rfl) rfl (Nat.le_of_eq rfl) (hb hby d4_16) (by decide) (by decide) (by decide) (by decide) fun v96 T96 L96 X96 hQ96 => ?_
  obtain ⟨rfl, N96q, e96⟩ := hQ96
  have N96 := Fr.app N93 N96q
  show own_At p e below s _ _ _ T96 m 19 _ [(.int (-2 : Int32))]
  refine own_istore (l' := #[.val (.ref o), .val (.long q1), .second, .val (.long r), .second, .val (.int (-2 : Int32)), .unset]) X96 hx (hb hby d4_19) rfl ?_
  refine own_iload X96 hx (hb hby d4_21) rfl ?_
  refine own_ifYes X96 hx 34 (hb hby d4_23) (tlt (by decide : (-2 : Int32) < (0 : Int32))).1 (by decide) (by decide) ?_
  refine own_iload X96 hx (hb hby d4_34) rfl ?_
  refine own_ineg X96 hx (hb hby d4_36) ?_
  rw [show (-(-2 : Int32)) = (2 : Int32) from by decide]
  refine own_iconst X96 hx (1 : Int32) (hb hby d4_37) rfl ?_
  refine own_isub X96 hx (hb hby d4_38) ?_
  rw [show ((2 : Int32) - (1 : Int32)) = (1 : Int32) from by decide]
  refine own_istore (l' := #[.val (.ref o), .val (.long q1), .second, .val (.long r), .second, .val (.int (1 : Int32)), .unset]) X96 hx (hb hby d4_39) rfl ?_
  refine own_aloadN X96 hx (hb hby d4_41) rfl rfl ?_
  refine own_getF X96 hx hZ hown (host := "") (Or.inl (hw _ (List.mem_of_getElem? (i := 37) rfl))) Via.refl e96 Fz_ (hb hby d4_42) fun T97 X97 e97 => ?_
  refine own_aloadN X97 hx (hb hby d4_45) rfl rfl ?_
  refine own_getF X97 hx hZ hown (host := "") (Or.inl (hw _ (List.mem_of_getElem? (i := 18) rfl))) Via.refl e97 Fr_ (hb hby d4_46) fun T98 X98 e98 => ?_
  refine own_arraylength X98 hx hZ e98 (own_alnV Vr) (hb hby d4_49) ?_
  refine own_icmpYes X98 hx 90 (hb hby d4_50) (feq (by decide : ¬ ((1 : Int32) = (16 : Int32)))).2 (by decide) (by decide) ?_
  refine own_aloadN X98 hx (hb hby d4_90) rfl rfl ?_
  refine own_getF X98 hx hZ hown (host := "") (Or.inl (hw _ (List.mem_of_getElem? (i := 18) rfl))) Via.refl e98 Fr_ (hb hby d4_91) fun T99 X99 e99 => ?_
  refine own_iload X99 hx (hb hby d4_94) rfl ?_
  refine own_aloadN X99 hx (hb hby d4_96) rfl rfl ?_
  refine own_getF X99 hx hZ hown (host := "") (Or.inl (hw _ (List.mem_of_getElem? (i := 18) rfl))) Via.refl e99 Fr_ (hb hby d4_97) fun T100 X100 e100 => ?_
  refine own_iload X100 hx (hb hby d4_100) rfl ?_
  refine own_iconst X100 hx (1 : Int32) (hb hby d4_102) rfl ?_
  refine own_iadd X100 hx (hb hby d4_103) ?_
  rw [show ((1 : Int32) + (1 : Int32)) = (2 : Int32) from by decide]
  refine own_aloadN X100 hx (hb hby d4_104) rfl rfl ?_
  refine own_getF X100 hx hZ hown (host := "") (Or.inl (hw _ (List.mem_of_getElem? (i := 37) rfl))) Via.refl e100 Fz_ (hb hby d4_105) fun T101 X101 e101 => ?_
  refine own_iload X101 hx (hb hby d4_108) rfl ?_
  refine own_isub X101 hx (hb hby d4_110) ?_
  rw [show ((1 : Int32) - (1 : Int32)) = (0 : Int32) from by decide]
  obtain ⟨T102, h102, L102, X102, e102, N102, K102, V102', st102⟩ := cpA (us := []) X101 hx hZ hown (hw _ (List.mem_of_getElem? (i := 49) rfl)) (hw _ (List.mem_of_getElem? (i := 52) rfl)) (hw _ (List.mem_of_getElem? (i := 50) rfl)) (hw _ (List.mem_of_getElem? (i := 51) rfl)) e101 Vr Vr (Or.inl ⟨rfl, rfl⟩) (by decide) (by decide) (by decide) (by decide) (by decide) rfl (Nat.le_of_ble_eq_true rfl) N96 g_ra (g := (mkF m 111 #[.val (.ref o), .val (.long q1), .second, .val (.long r), .second, .val (.int (1 : Int32)), .unset] [(.int (0 : Int32)), (.int (2 : Int32)), (.ref ra), (.int (1 : Int32)), (.ref ra)])) rfl (by rw [hml]; rfl) rfl (hb hby d4_111) (by decide) (W := 0) (by show 2 * 0 + _ ≤ _; exact Nat.le_of_eq rfl) (by decide)
  have V102 : Arv Z h102 ra kr .long (16 : Int32) [(.long x0), (.long (0 : Int64)), (.long (0 : Int64)), (.long (0 : Int64)), (.long (0 : Int64)), (.long (0 : Int64)), (.long (0 : Int64)), (.long (0 : Int64)), (.long (0 : Int64)), (.long (0 : Int64)), (.long (0 : Int64)), (.long (0 : Int64)), (.long (0 : Int64)), (.long (0 : Int64)), (.long (0 : Int64)), (.long (0 : Int64))] (.long (0 : Int64)) := V102'
  refine own_step (S' := (T102.setTop (mkF m 114 #[.val (.ref o), .val (.long q1), .second, .val (.long r), .second, .val (.int (1 : Int32)), .unset] []))) (fun _ k => st102 _ k) ?_
  refine own_aloadN X102 hx (hb hby d4_114) rfl rfl ?_
  refine own_getF X102 hx hZ hown (host := "") (Or.inl (hw _ (List.mem_of_getElem? (i := 22) rfl))) Via.refl e102 (Fld.keep Fl_ K102 (ninS (ne_exa Eo Era (by decide)) nin0)) (hb hby d4_115) fun T103 X103 e103 => ?_
  refine own_iload X103 hx (hb hby d4_118) rfl ?_
  refine own_aloadN X103 hx (hb hby d4_120) rfl rfl ?_
  refine own_getF X103 hx hZ hown (host := "") (Or.inl (hw _ (List.mem_of_getElem? (i := 22) rfl))) Via.refl e103 (Fld.keep Fl_ K102 (ninS (ne_exa Eo Era (by decide)) nin0)) (hb hby d4_121) fun T104 X104 e104 => ?_
  refine own_iload X104 hx (hb hby d4_124) rfl ?_
  refine own_iconst X104 hx (1 : Int32) (hb hby d4_126) rfl ?_
  refine own_iadd X104 hx (hb hby d4_127) ?_
  rw [show ((1 : Int32) + (1 : Int32)) = (2 : Int32) from by decide]
  refine own_aloadN X104 hx (hb hby d4_128) rfl rfl ?_
  refine own_getF X104 hx hZ hown (host := "") (Or.inl (hw _ (List.mem_of_getElem? (i := 37) rfl))) Via.refl e104 (Fld.keep Fz_ K102 (ninS (ne_exa Eo Era (by decide)) nin0)) (hb hby d4_129) fun T105 X105 e105 => ?_
  refine own_iload X105 hx (hb hby d4_132) rfl ?_
  refine own_isub X105 hx (hb hby d4_134) ?_
  rw [show ((1 : Int32) - (1 : Int32)) = (0 : Int32) from by decide]
  obtain ⟨T106, h106, L106, X106, e106, N106, K106, V106', st106⟩ := cpA (us := []) X105 hx hZ hown (hw _ (List.mem_of_getElem? (i := 49) rfl)) (hw _ (List.mem_of_getElem? (i := 52) rfl)) (hw _ (List.mem_of_getElem? (i := 50) rfl)) (hw _ (List.mem_of_getElem? (i := 51) rfl)) e105 (Arv.keep Vl K102 (ninS (ne_exa Ela Era (by decide)) nin0)) (Arv.keep Vl K102 (ninS (ne_exa Ela Era (by decide)) nin0)) (Or.inr ⟨rfl, rfl, trivial⟩) (by decide) (by decide) (by decide) (by decide) (by decide) rfl (Nat.le_of_ble_eq_true rfl) N102 g_la (g := (mkF m 135 #[.val (.ref o), .val (.long q1), .second, .val (.long r), .second, .val (.int (1 : Int32)), .unset] [(.int (0 : Int32)), (.int (2 : Int32)), (.ref la), (.int (1 : Int32)), (.ref la)])) rfl (by rw [hml]; rfl) rfl (hb hby d4_135) (by decide) (W := 0) (by show 2 * 0 + _ ≤ _; exact Nat.le_of_eq rfl) (by decide)
  have V106 : Arv Z h106 la kl (.object "com/example/kurslot/kurslot/engine/PriceLevel") (16 : Int32) [(.ref l0), .null, .null, .null, .null, .null, .null, .null, .null, .null, .null, .null, .null, .null, .null, .null] .null := V106'
  refine own_step (S' := (T106.setTop (mkF m 138 #[.val (.ref o), .val (.long q1), .second, .val (.long r), .second, .val (.int (1 : Int32)), .unset] []))) (fun _ k => st106 _ k) ?_
  refine own_newO X106 hx hZ hown (hw _ (List.mem_of_getElem? (i := 20) rfl)) (hw _ (List.mem_of_getElem? (i := 53) rfl)) (hw _ (List.mem_of_getElem? (i := 54) rfl)) e106 (hb hby d4_138) (by decide) (by decide) fun T107 h107 b107 g107 X107 e107 E107 A107 D107 => ?_
  have g_b107 : n0 ≤ b107 := Nat.le_trans (Nat.le_trans (Nat.le_trans Z0 K102.1) K106.1) (Nat.le_of_eq g107.symm)
  have szo_b107 : h0.size ≤ b107 := Nat.le_trans (Nat.le_trans (Nat.le_trans (Nat.le_refl h0.size) K102.1) K106.1) (Nat.le_of_eq g107.symm)
  refine own_dup X107 hx (hb hby d4_141) rfl ?_
  refine own_cSpec (b := b107) (W := 1) (rest := [(.ref b107)]) X107 hx hZ [] rfl hown (hw _ (List.mem_of_getElem? (i := 55) rfl)) (hw _ (List.mem_of_getElem? (i := 56) rfl)) (by decide) (hw _ (List.mem_of_getElem? (i := 57) rfl)) (hw _ (List.mem_of_getElem? (i := 54) rfl)) e107 (rmPLI l Z a0 hw [] b107 h107 n0 (Nat.le_trans (Nat.le_trans (Nat.le_trans Z0 K102.1) K106.1) E107.1)) (by rw [hml]; rfl) (lenOf pd_4 rfl) rfl (Nat.le_of_eq rfl) (hb hby d4_142) (by decide) (by decide) (by decide) (by decide) fun v108 T108 L108 X108 hQ108 => ?_
  obtain ⟨rfl, N108q, e108⟩ := hQ108
  have N108 := Fr.app N106 N108q
  show own_At p e below s _ _ _ T108 m 145 _ [(.ref b107)]
  refine own_astore (l' := #[.val (.ref o), .val (.long q1), .second, .val (.long r), .second, .val (.int (1 : Int32)), .val (.ref b107)]) X108 hx (hb hby d4_145) rfl rfl ?_
  refine own_aloadN X108 hx (hb hby d4_147) rfl rfl ?_
  refine own_getF X108 hx hZ hown (host := "") (Or.inl (hw _ (List.mem_of_getElem? (i := 18) rfl))) Via.refl e108 (Fld.ext E107 (Fld.keep (Fld.keep Fr_ K102 (ninS (ne_exa Eo Era (by decide)) nin0)) K106 (ninS (ne_exa Eo Ela (by decide)) nin0))) (hb hby d4_148) fun T109 X109 e109 => ?_
  refine own_iload X109 hx (hb hby d4_151) rfl ?_
  refine own_lloadN X109 hx (hb hby d4_153) rfl ?_
  refine own_stJ (vs' := [(.long x0), (.long r), (.long (0 : Int64)), (.long (0 : Int64)), (.long (0 : Int64)), (.long (0 : Int64)), (.long (0 : Int64)), (.long (0 : Int64)), (.long (0 : Int64)), (.long (0 : Int64)), (.long (0 : Int64)), (.long (0 : Int64)), (.long (0 : Int64)), (.long (0 : Int64)), (.long (0 : Int64)), (.long (0 : Int64))]) (w := (.long r)) X109 hx hZ e109 ((Arv.keep V102 K106 (ninS (ne_exa Era Ela (by decide)) nin0)).ext E107) ⟨by decide, by decide⟩ 1 rfl (Nat.le_of_ble_eq_true rfl) rfl rfl (hb hby d4_154) fun T110 h110 X110 e110 W110 V110 => ?_
  have N110 := Fr.snoc X110 N108 g_ra
  refine own_aloadN X110 hx (hb hby d4_155) rfl rfl ?_
  refine own_getF X110 hx hZ hown (host := "") (Or.inl (hw _ (List.mem_of_getElem? (i := 22) rfl))) Via.refl e110 (Fld.other W110 (Fld.ext E107 (Fld.keep (Fld.keep Fl_ K102 (ninS (ne_exa Eo Era (by decide)) nin0)) K106 (ninS (ne_exa Eo Ela (by decide)) nin0))) (Or.inl (ne_exa Eo Era (by decide)))) (hb hby d4_156) fun T111 X111 e111 => ?_
  refine own_iload X111 hx (hb hby d4_159) rfl ?_
  refine own_aload X111 hx (hb hby d4_161) rfl rfl ?_
  refine own_stR (vs' := [(.ref l0), (.ref b107), .null, .null, .null, .null, .null, .null, .null, .null, .null, .null, .null, .null, .null, .null]) X111 hx hZ e111 (Arv.other (V106.ext E107) W110 (ne_exa Ela Era (by decide))) ⟨by decide, by decide⟩ 1 rfl (Nat.le_of_ble_eq_true rfl) rfl (Or.inr ⟨_, rfl, Ov, Ins.self (Exa.wr W110 A107)⟩) rfl (hb hby d4_163) fun T112 h112 X112 e112 W112 V112 => ?_
  have N112 := Fr.snoc X112 N110 g_la
  refine own_aloadN X112 hx (hb hby d4_164) rfl rfl ?_
  refine own_dup X112 hx (hb hby d4_165) rfl ?_
  refine own_getF X112 hx hZ hown (host := "") (Or.inl (hw _ (List.mem_of_getElem? (i := 37) rfl))) Via.refl e112 (Fld.other W112 (Fld.other W110 (Fld.ext E107 (Fld.keep (Fld.keep Fz_ K102 (ninS (ne_exa Eo Era (by decide)) nin0)) K106 (ninS (ne_exa Eo Ela (by decide)) nin0))) (Or.inl (ne_exa Eo Era (by decide)))) (Or.inl (ne_exa Eo Ela (by decide)))) (hb hby d4_166) fun T113 X113 e113 => ?_
  refine own_iconst X113 hx (1 : Int32) (hb hby d4_169) rfl ?_
  refine own_iadd X113 hx (hb hby d4_170) ?_
  rw [show ((1 : Int32) + (1 : Int32)) = (2 : Int32) from by decide]
  refine own_putF X113 hx hZ hown (host := "") (Or.inl (hw _ (List.mem_of_getElem? (i := 37) rfl))) Via.refl e113 (Fld.other W112 (Fld.other W110 (Fld.ext E107 (Fld.keep (Fld.keep Fz_ K102 (ninS (ne_exa Eo Era (by decide)) nin0)) K106 (ninS (ne_exa Eo Ela (by decide)) nin0))) (Or.inl (ne_exa Eo Era (by decide)))) (Or.inl (ne_exa Eo Ela (by decide)))) (Exa.wr W112 (Exa.wr W110 (Exa.ext E107 (Exa.keep (Exa.keep Eo K102) K106)))) (Or.inl (hw _ (List.mem_of_getElem? (i := 38) rfl))) (hw _ (List.mem_of_getElem? (i := 6) rfl)) (ty := .int) (by decide) rfl rfl (hb hby d4_171) fun T114 h114 X114 e114 W114 => ?_
  have Fw114 := Fld.same W114 (Fld.other W112 (Fld.other W110 (Fld.ext E107 (Fld.keep (Fld.keep Fz_ K102 (ninS (ne_exa Eo Era (by decide)) nin0)) K106 (ninS (ne_exa Eo Ela (by decide)) nin0))) (Or.inl (ne_exa Eo Era (by decide)))) (Or.inl (ne_exa Eo Ela (by decide))))
  have N114 := Fr.snoc X114 N112 g_o
  refine own_aload X114 hx (hb hby d4_174) rfl rfl ?_
  refine own_retA X114 hx hlk hret rfl rfl rfl (hb hby d4_176) (by decide) (by decide) ?_
  try rw [e114]
  exact ⟨b107, rfl, N114, (Keep.wr (Keep.wr (Keep.wr (Keep.ext (Keep.trans (Keep.trans (Keep.refl h0 [o, ra, la]) K102 (allS (Or.inl (List.mem_of_getElem? (i := 1) rfl)) all0)) K106 (allS (Or.inl (List.mem_of_getElem? (i := 2) rfl)) all0)) E107) W110 (Or.inl (List.mem_of_getElem? (i := 1) rfl))) W112 (Or.inl (List.mem_of_getElem? (i := 2) rfl))) W114 (Or.inl (List.mem_of_getElem? (i := 0) rfl))), szo_b107, ⟨(Exa.wr W114 (Exa.wr W112 (Exa.wr W110 (Exa.ext E107 (Exa.keep (Exa.keep Eo K102) K106))))), (Fld.other W114 (Fld.other W112 (Fld.other W110 (Fld.ext E107 (Fld.keep (Fld.keep Fr_ K102 (ninS (ne_exa Eo Era (by decide)) nin0)) K106 (ninS (ne_exa Eo Ela (by decide)) nin0))) (Or.inl (ne_exa Eo Era (by decide)))) (Or.inl (ne_exa Eo Ela (by decide)))) (Or.inr (slot_ne (Or.inl (hw _ (List.mem_of_getElem? (i := 19) rfl))) (Or.inl (hw _ (List.mem_of_getElem? (i := 38) rfl))) (by decide) (t := (.array .long)) (t' := .int) (by decide) (by decide)))), (Fld.other W114 (Fld.other W112 (Fld.other W110 (Fld.ext E107 (Fld.keep (Fld.keep Fl_ K102 (ninS (ne_exa Eo Era (by decide)) nin0)) K106 (ninS (ne_exa Eo Ela (by decide)) nin0))) (Or.inl (ne_exa Eo Era (by decide)))) (Or.inl (ne_exa Eo Ela (by decide)))) (Or.inr (slot_ne (Or.inl (hw _ (List.mem_of_getElem? (i := 23) rfl))) (Or.inl (hw _ (List.mem_of_getElem? (i := 38) rfl))) (by decide) (t := (.array (.object "com/example/kurslot/kurslot/engine/PriceLevel"))) (t' := .int) (by decide) (by decide)))), Fw114, (Fld.other W114 (Fld.other W112 (Fld.other W110 (Fld.ext E107 (Fld.keep (Fld.keep Fs_ K102 (ninS (ne_exa Eo Era (by decide)) nin0)) K106 (ninS (ne_exa Eo Ela (by decide)) nin0))) (Or.inl (ne_exa Eo Era (by decide)))) (Or.inl (ne_exa Eo Ela (by decide)))) (Or.inr (slot_ne (Or.inr (hw _ (List.mem_of_getElem? (i := 25) rfl))) (Or.inl (hw _ (List.mem_of_getElem? (i := 38) rfl))) (by decide) (t := (.object "com/example/kurslot/kurslot/engine/Side")) (t' := .int) (by decide) (by decide)))), (Exa.wr W114 (Exa.wr W112 (Exa.wr W110 (Exa.ext E107 (Exa.keep (Exa.keep Era K102) K106))))), (Exa.wr W114 (Exa.wr W112 (Exa.wr W110 (Exa.ext E107 (Exa.keep (Exa.keep Ela K102) K106))))), (Arv.other (Arv.other V110 W112 (ne_exa Era Ela (by decide))) W114 (ne_exa Era Eo (by decide))), (Arv.other V112 W114 (ne_exa Ela Eo (by decide))), Ov, (Exa.wr W114 (Exa.wr W112 (Exa.wr W110 (Exa.ext E107 (Exa.keep (Exa.keep El0 K102) K106))))), (Exa.wr W114 (Exa.wr W112 (Exa.wr W110 A107)))⟩⟩
set_option maxRecDepth 65536 in
set_option maxHeartbeats 40000000 in
theorem rmB0_2_found0 (l : Launch) (Z : State) (a0 : Array Value) (hw : ∀ d ∈ tables_1, d.before a0 Z = true) (ws : List Jvm.Cond) (ra : Addr) (kr : ClassId) (r x1 : Int64)  (h0 : Heap) (n0 : Nat) (Z0 : n0 ≤ h0.size) (Vr : Arv Z h0 ra kr .long (16 : Int32) [(.long r), (.long x1), (.long (0 : Int64)), (.long (0 : Int64)), (.long (0 : Int64)), (.long (0 : Int64)), (.long (0 : Int64)), (.long (0 : Int64)), (.long (0 : Int64)), (.long (0 : Int64)), (.long (0 : Int64)), (.long (0 : Int64)), (.long (0 : Int64)), (.long (0 : Int64)), (.long (0 : Int64)), (.long (0 : Int64))] (.long (0 : Int64))) :
    own_Met l (⟨"java/util/Arrays", "binarySearch0", "([JIIJ)I"⟩ : MethodName) jdk_65_method_56_code 10 (some .int) ws ({ frames := 0, cells := 0, slots := 0, locals := 0 } : Room) Z #[(.ref ra), (.int (0 : Int32)), (.int (2 : Int32)), (.long r)] h0 (fun v h L => v = some (.int (0 : Int32)) ∧ Fr n0 L ∧ h = h0) := by
  refine own_body (plainFor_of_name pn_2) ?_
  intro p e s m below meth c s₁ X0 hx hby hml hown hnm hret hlk hZ e0
  replace hown : s.vm.findClass "java/util/Arrays" = some m.cls := hown
  replace hml : c.maxLocals = 10 := hml
  replace hret : meth.sig.returnType = (some .int) := hret
  have N0 := Fr.nil n0
  have ef : entryFrame m #[(.ref ra), (.int (0 : Int32)), (.int (2 : Int32)), (.long r)] 10 = mkF m 0 #[.val (.ref ra), .val (.int (0 : Int32)), .val (.int (2 : Int32)), .val (.long r), .second, .unset, .unset, .unset, .unset, .unset] [] := by first | (simp [entryFrame, mkF, argsToLocals, Value.category]; done) | rfl
  refine own_step (S' := (s₁.setTop (mkF m 0 #[.val (.ref ra), .val (.int (0 : Int32)), .val (.int (2 : Int32)), .val (.long r), .second, .unset, .unset, .unset, .unset, .unset] []))) (fun _ k => castTop ef k) ?_
  refine own_iloadN X0 hx (hb hby d8_0) rfl ?_
  refine own_istore (l' := #[.val (.ref ra), .val (.int (0 : Int32)), .val (.int (2 : Int32)), .val (.long r), .second, .val (.int (0 : Int32)), .unset, .unset, .unset, .unset]) X0 hx (hb hby d8_1) rfl ?_
  refine own_iloadN X0 hx (hb hby d8_3) rfl ?_
  refine own_iconst X0 hx (1 : Int32) (hb hby d8_4) rfl ?_
  refine own_isub X0 hx (hb hby d8_5) ?_
  rw [show ((2 : Int32) - (1 : Int32)) = (1 : Int32) from by decide]
  refine own_istore (l' := #[.val (.ref ra), .val (.int (0 : Int32)), .val (.int (2 : Int32)), .val (.long r), .second, .val (.int (0 : Int32)), .val (.int (1 : Int32)), .unset, .unset, .unset]) X0 hx (hb hby d8_6) rfl ?_
  refine own_iload X0 hx (hb hby d8_8) rfl ?_
  refine own_iload X0 hx (hb hby d8_10) rfl ?_
  refine own_icmpNo X0 hx (hb hby d8_12) (flt (by decide : ¬ ((1 : Int32) < (0 : Int32)))).2.2.1 ?_
  refine own_iload X0 hx (hb hby d8_15) rfl ?_
  refine own_iload X0 hx (hb hby d8_17) rfl ?_
  refine own_iadd X0 hx (hb hby d8_19) ?_
  rw [show ((0 : Int32) + (1 : Int32)) = (1 : Int32) from by decide]
  refine own_iconst X0 hx (1 : Int32) (hb hby d8_20) rfl ?_
  refine own_iushr X0 hx (hb hby d8_21) ?_
  rw [show (((1 : Int32).toUInt32 >>> ((1 : Int32) &&& 31).toUInt32).toInt32) = (0 : Int32) from by decide]
  refine own_istore (l' := #[.val (.ref ra), .val (.int (0 : Int32)), .val (.int (2 : Int32)), .val (.long r), .second, .val (.int (0 : Int32)), .val (.int (1 : Int32)), .val (.int (0 : Int32)), .unset, .unset]) X0 hx (hb hby d8_22) rfl ?_
  refine own_aloadN X0 hx (hb hby d8_24) rfl rfl ?_
  refine own_iload X0 hx (hb hby d8_25) rfl ?_
  refine own_laload X0 hx hZ (.long r) e0 Vr ⟨by decide, by decide⟩ rfl (hb hby d8_27) ?_
  refine own_lstore (l' := #[.val (.ref ra), .val (.int (0 : Int32)), .val (.int (2 : Int32)), .val (.long r), .second, .val (.int (0 : Int32)), .val (.int (1 : Int32)), .val (.int (0 : Int32)), .val (.long r), .second]) X0 hx (hb hby d8_28) rfl ?_
  refine own_lload X0 hx (hb hby d8_30) rfl ?_
  refine own_lloadN X0 hx (hb hby d8_32) rfl ?_
  refine own_lcmp X0 hx (hb hby d8_33) ?_
  refine own_ifYes X0 hx 46 (hb hby d8_34) (flt (fun q => (own_irr _) ((lw_lt r r).mp q))).2.1 (by decide) (by decide) ?_
  refine own_lload X0 hx (hb hby d8_46) rfl ?_
  refine own_lloadN X0 hx (hb hby d8_48) rfl ?_
  refine own_lcmp X0 hx (hb hby d8_49) ?_
  refine own_ifYes X0 hx 62 (hb hby d8_50) (flt (fun q => (own_irr _) ((lw_gt r r).mp q))).2.2.2 (by decide) (by decide) ?_
  refine own_iload X0 hx (hb hby d8_62) rfl ?_
  refine own_retI X0 hx hlk hret (hb hby d8_64) (by decide) (by decide) ?_
  try rw [e0]
  exact ⟨rfl, N0, rfl⟩
set_option maxRecDepth 65536 in
set_option maxHeartbeats 40000000 in
theorem rmBS_2_found0 (l : Launch) (Z : State) (a0 : Array Value) (hw : ∀ d ∈ tables_1, d.before a0 Z = true) (ws : List Jvm.Cond) (ra : Addr) (kr : ClassId) (r x1 : Int64)  (h0 : Heap) (n0 : Nat) (Z0 : n0 ≤ h0.size) (Vr : Arv Z h0 ra kr .long (16 : Int32) [(.long r), (.long x1), (.long (0 : Int64)), (.long (0 : Int64)), (.long (0 : Int64)), (.long (0 : Int64)), (.long (0 : Int64)), (.long (0 : Int64)), (.long (0 : Int64)), (.long (0 : Int64)), (.long (0 : Int64)), (.long (0 : Int64)), (.long (0 : Int64)), (.long (0 : Int64)), (.long (0 : Int64)), (.long (0 : Int64))] (.long (0 : Int64))) :
    own_Met l (⟨"java/util/Arrays", "binarySearch", "([JIIJ)I"⟩ : MethodName) jdk_65_method_55_code 5 (some .int) ws ({ frames := 1, cells := 0, slots := 0, locals := 21 } : Room) Z #[(.ref ra), (.int (0 : Int32)), (.int (2 : Int32)), (.long r)] h0 (fun v h L => v = some (.int (0 : Int32)) ∧ Fr n0 L ∧ h = h0) := by
  refine own_body (plainFor_of_name pn_2) ?_
  intro p e s m below meth c s₁ X0 hx hby hml hown hnm hret hlk hZ e0
  replace hown : s.vm.findClass "java/util/Arrays" = some m.cls := hown
  replace hml : c.maxLocals = 5 := hml
  replace hret : meth.sig.returnType = (some .int) := hret
  have N0 := Fr.nil n0
  have ef : entryFrame m #[(.ref ra), (.int (0 : Int32)), (.int (2 : Int32)), (.long r)] 5 = mkF m 0 #[.val (.ref ra), .val (.int (0 : Int32)), .val (.int (2 : Int32)), .val (.long r), .second] [] := by first | (simp [entryFrame, mkF, argsToLocals, Value.category]; done) | rfl
  refine own_step (S' := (s₁.setTop (mkF m 0 #[.val (.ref ra), .val (.int (0 : Int32)), .val (.int (2 : Int32)), .val (.long r), .second] []))) (fun _ k => castTop ef k) ?_
  refine own_aloadN X0 hx (hb hby d6_0) rfl rfl ?_
  refine own_arraylength X0 hx hZ e0 (own_alnV Vr) (hb hby d6_1) ?_
  refine own_iloadN X0 hx (hb hby d6_2) rfl ?_
  refine own_iloadN X0 hx (hb hby d6_3) rfl ?_
  refine own_cStat (W := 0) (rest := []) X0 hx hZ [(.int (16 : Int32)), (.int (0 : Int32)), (.int (2 : Int32))] hown (hw _ (List.mem_of_getElem? (i := 43) rfl)) (hw _ (List.mem_of_getElem? (i := 44) rfl)) (by decide) (hw _ (List.mem_of_getElem? (i := 45) rfl)) (hw _ (List.mem_of_getElem? (i := 41) rfl)) e0 (rmRC_2 l Z a0 hw [] h0 n0 Z0) (by rw [hml]; rfl) (lenOf pd_1 rfl) rfl (Nat.le_of_eq rfl) (hb hby d6_4) (by decide) (by decide) (by decide) (by decide) fun v115 T115 L115 X115 hQ115 => ?_
  obtain ⟨rfl, N115q, e115⟩ := hQ115
  have N115 := Fr.app N0 N115q
  show own_At p e below s _ _ _ T115 m 7 _ []
  refine own_aloadN X115 hx (hb hby d6_7) rfl rfl ?_
  refine own_iloadN X115 hx (hb hby d6_8) rfl ?_
  refine own_iloadN X115 hx (hb hby d6_9) rfl ?_
  refine own_lloadN X115 hx (hb hby d6_10) rfl ?_
  refine own_cStat (W := 0) (rest := []) X115 hx hZ [(.ref ra), (.int (0 : Int32)), (.int (2 : Int32)), (.long r)] hown (hw _ (List.mem_of_getElem? (i := 46) rfl)) (hw _ (List.mem_of_getElem? (i := 47) rfl)) (by decide) (hw _ (List.mem_of_getElem? (i := 48) rfl)) (hw _ (List.mem_of_getElem? (i := 41) rfl)) e115 (rmB0_2_found0 l Z a0 hw [] ra kr r x1 h0 n0 Z0 Vr ) (by rw [hml]; rfl) (lenOf pd_2 rfl) rfl (Nat.le_of_eq rfl) (hb hby d6_11) (by decide) (by decide) (by decide) (by decide) fun v116 T116 L116 X116 hQ116 => ?_
  obtain ⟨rfl, N116q, e116⟩ := hQ116
  have N116 := Fr.app N115 N116q
  show own_At p e below s _ _ _ T116 m 14 _ [(.int (0 : Int32))]
  refine own_retI X116 hx hlk hret (hb hby d6_14) (by decide) (by decide) ?_
  try rw [e116]
  exact ⟨rfl, N116, rfl⟩
set_option maxRecDepth 65536 in
set_option maxHeartbeats 40000000 in
theorem rmAt_2_found0 (l : Launch) (Z : State) (a0 : Array Value) (hw : ∀ d ∈ tables_1, d.before a0 Z = true) (ws : List Jvm.Cond) (o ra la sd wB l0 l1 : Addr) (kr kl : ClassId) (r x1 q1 : Int64)  (h0 : Heap) (n0 : Nat) (Z0 : n0 ≤ h0.size) (LD : own_Lad2 Z h0 o ra la sd kr kl r x1 l0 l1) (SB : Sta Z h0 "com/example/kurslot/kurslot/engine/Side" "BUY" "Lcom/example/kurslot/kurslot/engine/Side;" (.ref wB)) (hs : (sd = wB ∧ r = q1) ∨ (¬ sd = wB ∧ r = (-q1))) (g_o : n0 ≤ o) (g_ra : n0 ≤ ra) (g_la : n0 ≤ la) :
    own_Met l (⟨"com/example/kurslot/kurslot/engine/PriceLadder", "levelAt", "(J)Lcom/example/kurslot/kurslot/engine/PriceLevel;"⟩ : MethodName) prog_27_method_7_code 7 (some (.object "com/example/kurslot/kurslot/engine/PriceLevel")) ws ({ frames := 2, cells := 0, slots := 0, locals := 50 } : Room) Z #[(.ref o), (.long q1)] h0 (fun v h L => v = some (.ref l0) ∧ Fr n0 L ∧ h = h0) := by
  refine own_body (plainFor_of_name pn_1) ?_
  intro p e s m below meth c s₁ X0 hx hby hml hown hnm hret hlk hZ e0
  replace hown : s.vm.findClass "com/example/kurslot/kurslot/engine/PriceLadder" = some m.cls := hown
  replace hml : c.maxLocals = 7 := hml
  replace hret : meth.sig.returnType = (some (.object "com/example/kurslot/kurslot/engine/PriceLevel")) := hret
  have N0 := Fr.nil n0
  have ef : entryFrame m #[(.ref o), (.long q1)] 7 = mkF m 0 #[.val (.ref o), .val (.long q1), .second, .unset, .unset, .unset, .unset] [] := by first | (simp [entryFrame, mkF, argsToLocals, Value.category]; done) | rfl
  refine own_step (S' := (s₁.setTop (mkF m 0 #[.val (.ref o), .val (.long q1), .second, .unset, .unset, .unset, .unset] []))) (fun _ k => castTop ef k) ?_
  obtain ⟨Eo, Fr_, Fl_, Fz_, Fs_, Era, Ela, Vr, Vl, Ov, El0, El1⟩ := LD
  refine own_aloadN X0 hx (hb hby d4_0) rfl rfl ?_
  refine own_lloadN X0 hx (hb hby d4_1) rfl ?_
  refine own_cPriv (W := 0) (rest := []) X0 hx hZ [(.long q1)] hown (hw _ (List.mem_of_getElem? (i := 31) rfl)) (hw _ (List.mem_of_getElem? (i := 32) rfl)) (hw _ (List.mem_of_getElem? (i := 33) rfl)) (hw _ (List.mem_of_getElem? (i := 6) rfl)) (by decide) (hw _ (List.mem_of_getElem? (i := 34) rfl)) (hw _ (List.mem_of_getElem? (i := 7) rfl)) e0 Eo (rmRank l Z a0 hw [] o sd wB r q1 h0 n0 Z0 Fs_ SB hs) (by rw [hml]; rfl) (lenOf pd_3 rfl) rfl (Nat.le_of_eq rfl) (hb hby d4_2) (by decide) (by decide) (by decide) (by decide) fun v117 T117 L117 X117 hQ117 => ?_
  obtain ⟨rfl, N117q, e117⟩ := hQ117
  have N117 := Fr.app N0 N117q
  show own_At p e below s _ _ _ T117 m 5 _ [(.long r)]
  refine own_lstoreN (l' := #[.val (.ref o), .val (.long q1), .second, .val (.long r), .second, .unset, .unset]) X117 hx (hb hby d4_5) rfl ?_
  refine own_aloadN X117 hx (hb hby d4_6) rfl rfl ?_
  refine own_getF X117 hx hZ hown (host := "") (Or.inl (hw _ (List.mem_of_getElem? (i := 18) rfl))) Via.refl e117 Fr_ (hb hby d4_7) fun T118 X118 e118 => ?_
  refine own_iconst X118 hx (0 : Int32) (hb hby d4_10) rfl ?_
  refine own_aloadN X118 hx (hb hby d4_11) rfl rfl ?_
  refine own_getF X118 hx hZ hown (host := "") (Or.inl (hw _ (List.mem_of_getElem? (i := 37) rfl))) Via.refl e118 Fz_ (hb hby d4_12) fun T119 X119 e119 => ?_
  refine own_lloadN X119 hx (hb hby d4_15) rfl ?_
  refine own_cStat (W := 0) (rest := []) X119 hx hZ [(.ref ra), (.int (0 : Int32)), (.int (2 : Int32)), (.long r)] hown (hw _ (List.mem_of_getElem? (i := 39) rfl)) (hw _ (List.mem_of_getElem? (i := 40) rfl)) (by decide) (hw _ (List.mem_of_getElem? (i := 42) rfl)) (hw _ (List.mem_of_getElem? (i := 41) rfl)) e119 (rmBS_2_found0 l Z a0 hw [] ra kr r x1 h0 n0 Z0 Vr ) (by rw [hml]; rfl) (lenOf pd_2 rfl) rfl (Nat.le_of_eq rfl) (hb hby d4_16) (by decide) (by decide) (by decide) (by decide) fun v120 T120 L120 X120 hQ120 => ?_
  obtain ⟨rfl, N120q, e120⟩ := hQ120
  have N120 := Fr.app N117 N120q
  show own_At p e below s _ _ _ T120 m 19 _ [(.int (0 : Int32))]
  refine own_istore (l' := #[.val (.ref o), .val (.long q1), .second, .val (.long r), .second, .val (.int (0 : Int32)), .unset]) X120 hx (hb hby d4_19) rfl ?_
  refine own_iload X120 hx (hb hby d4_21) rfl ?_
  refine own_ifNo X120 hx (hb hby d4_23) (flt (by decide : ¬ ((0 : Int32) < (0 : Int32)))).1 ?_
  refine own_aloadN X120 hx (hb hby d4_26) rfl rfl ?_
  refine own_getF X120 hx hZ hown (host := "") (Or.inl (hw _ (List.mem_of_getElem? (i := 22) rfl))) Via.refl e120 Fl_ (hb hby d4_27) fun T121 X121 e121 => ?_
  refine own_iload X121 hx (hb hby d4_30) rfl ?_
  refine own_aaload X121 hx hZ (.ref l0) e121 Vl rfl ⟨by decide, by decide⟩ rfl (hb hby d4_32) ?_
  refine own_retA X121 hx hlk hret rfl rfl rfl (hb hby d4_33) (by decide) (by decide) ?_
  try rw [e121]
  exact ⟨rfl, N120, rfl⟩
set_option maxRecDepth 65536 in
set_option maxHeartbeats 40000000 in
theorem rmB0_2_ins0 (l : Launch) (Z : State) (a0 : Array Value) (hw : ∀ d ∈ tables_1, d.before a0 Z = true) (ws : List Jvm.Cond) (ra : Addr) (kr : ClassId) (r x0 x1 : Int64)  (h0 : Heap) (n0 : Nat) (Z0 : n0 ≤ h0.size) (Vr : Arv Z h0 ra kr .long (16 : Int32) [(.long x0), (.long x1), (.long (0 : Int64)), (.long (0 : Int64)), (.long (0 : Int64)), (.long (0 : Int64)), (.long (0 : Int64)), (.long (0 : Int64)), (.long (0 : Int64)), (.long (0 : Int64)), (.long (0 : Int64)), (.long (0 : Int64)), (.long (0 : Int64)), (.long (0 : Int64)), (.long (0 : Int64)), (.long (0 : Int64))] (.long (0 : Int64))) (hq0 : r < x0) :
    own_Met l (⟨"java/util/Arrays", "binarySearch0", "([JIIJ)I"⟩ : MethodName) jdk_65_method_56_code 10 (some .int) ws ({ frames := 0, cells := 0, slots := 0, locals := 0 } : Room) Z #[(.ref ra), (.int (0 : Int32)), (.int (2 : Int32)), (.long r)] h0 (fun v h L => v = some (.int (-1 : Int32)) ∧ Fr n0 L ∧ h = h0) := by
  refine own_body (plainFor_of_name pn_2) ?_
  intro p e s m below meth c s₁ X0 hx hby hml hown hnm hret hlk hZ e0
  replace hown : s.vm.findClass "java/util/Arrays" = some m.cls := hown
  replace hml : c.maxLocals = 10 := hml
  replace hret : meth.sig.returnType = (some .int) := hret
  have N0 := Fr.nil n0
  have ef : entryFrame m #[(.ref ra), (.int (0 : Int32)), (.int (2 : Int32)), (.long r)] 10 = mkF m 0 #[.val (.ref ra), .val (.int (0 : Int32)), .val (.int (2 : Int32)), .val (.long r), .second, .unset, .unset, .unset, .unset, .unset] [] := by first | (simp [entryFrame, mkF, argsToLocals, Value.category]; done) | rfl
  refine own_step (S' := (s₁.setTop (mkF m 0 #[.val (.ref ra), .val (.int (0 : Int32)), .val (.int (2 : Int32)), .val (.long r), .second, .unset, .unset, .unset, .unset, .unset] []))) (fun _ k => castTop ef k) ?_
  refine own_iloadN X0 hx (hb hby d8_0) rfl ?_
  refine own_istore (l' := #[.val (.ref ra), .val (.int (0 : Int32)), .val (.int (2 : Int32)), .val (.long r), .second, .val (.int (0 : Int32)), .unset, .unset, .unset, .unset]) X0 hx (hb hby d8_1) rfl ?_
  refine own_iloadN X0 hx (hb hby d8_3) rfl ?_
  refine own_iconst X0 hx (1 : Int32) (hb hby d8_4) rfl ?_
  refine own_isub X0 hx (hb hby d8_5) ?_
  rw [show ((2 : Int32) - (1 : Int32)) = (1 : Int32) from by decide]
  refine own_istore (l' := #[.val (.ref ra), .val (.int (0 : Int32)), .val (.int (2 : Int32)), .val (.long r), .second, .val (.int (0 : Int32)), .val (.int (1 : Int32)), .unset, .unset, .unset]) X0 hx (hb hby d8_6) rfl ?_
  refine own_iload X0 hx (hb hby d8_8) rfl ?_
  refine own_iload X0 hx (hb hby d8_10) rfl ?_
  refine own_icmpNo X0 hx (hb hby d8_12) (flt (by decide : ¬ ((1 : Int32) < (0 : Int32)))).2.2.1 ?_
  refine own_iload X0 hx (hb hby d8_15) rfl ?_
  refine own_iload X0 hx (hb hby d8_17) rfl ?_
  refine own_iadd X0 hx (hb hby d8_19) ?_
  rw [show ((0 : Int32) + (1 : Int32)) = (1 : Int32) from by decide]
  refine own_iconst X0 hx (1 : Int32) (hb hby d8_20) rfl ?_
  refine own_iushr X0 hx (hb hby d8_21) ?_
  rw [show (((1 : Int32).toUInt32 >>> ((1 : Int32) &&& 31).toUInt32).toInt32) = (0 : Int32) from by decide]
  refine own_istore (l' := #[.val (.ref ra), .val (.int (0 : Int32)), .val (.int (2 : Int32)), .val (.long r), .second, .val (.int (0 : Int32)), .val (.int (1 : Int32)), .val (.int (0 : Int32)), .unset, .unset]) X0 hx (hb hby d8_22) rfl ?_
  refine own_aloadN X0 hx (hb hby d8_24) rfl rfl ?_
  refine own_iload X0 hx (hb hby d8_25) rfl ?_
  refine own_laload X0 hx hZ (.long x0) e0 Vr ⟨by decide, by decide⟩ rfl (hb hby d8_27) ?_
  refine own_lstore (l' := #[.val (.ref ra), .val (.int (0 : Int32)), .val (.int (2 : Int32)), .val (.long r), .second, .val (.int (0 : Int32)), .val (.int (1 : Int32)), .val (.int (0 : Int32)), .val (.long x0), .second]) X0 hx (hb hby d8_28) rfl ?_
  refine own_lload X0 hx (hb hby d8_30) rfl ?_
  refine own_lloadN X0 hx (hb hby d8_32) rfl ?_
  refine own_lcmp X0 hx (hb hby d8_33) ?_
  refine own_ifYes X0 hx 46 (hb hby d8_34) (flt (fun q => (own_asym hq0) ((lw_lt x0 r).mp q))).2.1 (by decide) (by decide) ?_
  refine own_lload X0 hx (hb hby d8_46) rfl ?_
  refine own_lloadN X0 hx (hb hby d8_48) rfl ?_
  refine own_lcmp X0 hx (hb hby d8_49) ?_
  refine own_ifNo X0 hx (hb hby d8_50) (tlt ((lw_gt x0 r).mpr hq0)).2.2.2 ?_
  refine own_iload X0 hx (hb hby d8_53) rfl ?_
  refine own_iconst X0 hx (1 : Int32) (hb hby d8_55) rfl ?_
  refine own_isub X0 hx (hb hby d8_56) ?_
  rw [show ((0 : Int32) - (1 : Int32)) = (-1 : Int32) from by decide]
  refine own_istore (l' := #[.val (.ref ra), .val (.int (0 : Int32)), .val (.int (2 : Int32)), .val (.long r), .second, .val (.int (0 : Int32)), .val (.int (-1 : Int32)), .val (.int (0 : Int32)), .val (.long x0), .second]) X0 hx (hb hby d8_57) rfl ?_
  refine own_goto X0 hx 65 (hb hby d8_59) (by decide) (by decide) ?_
  refine own_goto X0 hx 8 (hb hby d8_65) (by decide) (by decide) ?_
  refine own_iload X0 hx (hb hby d8_8) rfl ?_
  refine own_iload X0 hx (hb hby d8_10) rfl ?_
  refine own_icmpYes X0 hx 68 (hb hby d8_12) (tlt (by decide : (-1 : Int32) < (0 : Int32))).2.2.1 (by decide) (by decide) ?_
  refine own_iload X0 hx (hb hby d8_68) rfl ?_
  refine own_iconst X0 hx (1 : Int32) (hb hby d8_70) rfl ?_
  refine own_iadd X0 hx (hb hby d8_71) ?_
  rw [show ((0 : Int32) + (1 : Int32)) = (1 : Int32) from by decide]
  refine own_ineg X0 hx (hb hby d8_72) ?_
  refine own_retI X0 hx hlk hret (hb hby d8_73) (by decide) (by decide) ?_
  try rw [e0]
  exact ⟨rfl, N0, rfl⟩
set_option maxRecDepth 65536 in
set_option maxHeartbeats 40000000 in
theorem rmBS_2_ins0 (l : Launch) (Z : State) (a0 : Array Value) (hw : ∀ d ∈ tables_1, d.before a0 Z = true) (ws : List Jvm.Cond) (ra : Addr) (kr : ClassId) (r x0 x1 : Int64)  (h0 : Heap) (n0 : Nat) (Z0 : n0 ≤ h0.size) (Vr : Arv Z h0 ra kr .long (16 : Int32) [(.long x0), (.long x1), (.long (0 : Int64)), (.long (0 : Int64)), (.long (0 : Int64)), (.long (0 : Int64)), (.long (0 : Int64)), (.long (0 : Int64)), (.long (0 : Int64)), (.long (0 : Int64)), (.long (0 : Int64)), (.long (0 : Int64)), (.long (0 : Int64)), (.long (0 : Int64)), (.long (0 : Int64)), (.long (0 : Int64))] (.long (0 : Int64))) (hq0 : r < x0) :
    own_Met l (⟨"java/util/Arrays", "binarySearch", "([JIIJ)I"⟩ : MethodName) jdk_65_method_55_code 5 (some .int) ws ({ frames := 1, cells := 0, slots := 0, locals := 21 } : Room) Z #[(.ref ra), (.int (0 : Int32)), (.int (2 : Int32)), (.long r)] h0 (fun v h L => v = some (.int (-1 : Int32)) ∧ Fr n0 L ∧ h = h0) := by
  refine own_body (plainFor_of_name pn_2) ?_
  intro p e s m below meth c s₁ X0 hx hby hml hown hnm hret hlk hZ e0
  replace hown : s.vm.findClass "java/util/Arrays" = some m.cls := hown
  replace hml : c.maxLocals = 5 := hml
  replace hret : meth.sig.returnType = (some .int) := hret
  have N0 := Fr.nil n0
  have ef : entryFrame m #[(.ref ra), (.int (0 : Int32)), (.int (2 : Int32)), (.long r)] 5 = mkF m 0 #[.val (.ref ra), .val (.int (0 : Int32)), .val (.int (2 : Int32)), .val (.long r), .second] [] := by first | (simp [entryFrame, mkF, argsToLocals, Value.category]; done) | rfl
  refine own_step (S' := (s₁.setTop (mkF m 0 #[.val (.ref ra), .val (.int (0 : Int32)), .val (.int (2 : Int32)), .val (.long r), .second] []))) (fun _ k => castTop ef k) ?_
  refine own_aloadN X0 hx (hb hby d6_0) rfl rfl ?_
  refine own_arraylength X0 hx hZ e0 (own_alnV Vr) (hb hby d6_1) ?_
  refine own_iloadN X0 hx (hb hby d6_2) rfl ?_
  refine own_iloadN X0 hx (hb hby d6_3) rfl ?_
  refine own_cStat (W := 0) (rest := []) X0 hx hZ [(.int (16 : Int32)), (.int (0 : Int32)), (.int (2 : Int32))] hown (hw _ (List.mem_of_getElem? (i := 43) rfl)) (hw _ (List.mem_of_getElem? (i := 44) rfl)) (by decide) (hw _ (List.mem_of_getElem? (i := 45) rfl)) (hw _ (List.mem_of_getElem? (i := 41) rfl)) e0 (rmRC_2 l Z a0 hw [] h0 n0 Z0) (by rw [hml]; rfl) (lenOf pd_1 rfl) rfl (Nat.le_of_eq rfl) (hb hby d6_4) (by decide) (by decide) (by decide) (by decide) fun v122 T122 L122 X122 hQ122 => ?_
  obtain ⟨rfl, N122q, e122⟩ := hQ122
  have N122 := Fr.app N0 N122q
  show own_At p e below s _ _ _ T122 m 7 _ []
  refine own_aloadN X122 hx (hb hby d6_7) rfl rfl ?_
  refine own_iloadN X122 hx (hb hby d6_8) rfl ?_
  refine own_iloadN X122 hx (hb hby d6_9) rfl ?_
  refine own_lloadN X122 hx (hb hby d6_10) rfl ?_
  refine own_cStat (W := 0) (rest := []) X122 hx hZ [(.ref ra), (.int (0 : Int32)), (.int (2 : Int32)), (.long r)] hown (hw _ (List.mem_of_getElem? (i := 46) rfl)) (hw _ (List.mem_of_getElem? (i := 47) rfl)) (by decide) (hw _ (List.mem_of_getElem? (i := 48) rfl)) (hw _ (List.mem_of_getElem? (i := 41) rfl)) e122 (rmB0_2_ins0 l Z a0 hw [] ra kr r x0 x1 h0 n0 Z0 Vr hq0) (by rw [hml]; rfl) (lenOf pd_2 rfl) rfl (Nat.le_of_eq rfl) (hb hby d6_11) (by decide) (by decide) (by decide) (by decide) fun v123 T123 L123 X123 hQ123 => ?_
  obtain ⟨rfl, N123q, e123⟩ := hQ123
  have N123 := Fr.app N122 N123q
  show own_At p e below s _ _ _ T123 m 14 _ [(.int (-1 : Int32))]
  refine own_retI X123 hx hlk hret (hb hby d6_14) (by decide) (by decide) ?_
  try rw [e123]
  exact ⟨rfl, N123, rfl⟩
set_option maxRecDepth 65536 in
set_option maxHeartbeats 40000000 in
theorem rmAt_2_ins0 (l : Launch) (Z : State) (a0 : Array Value) (hw : ∀ d ∈ tables_1, d.before a0 Z = true) (ws : List Jvm.Cond) (o ra la sd wB l0 l1 : Addr) (kr kl : ClassId) (r x0 x1 q1 : Int64)  (h0 : Heap) (n0 : Nat) (Z0 : n0 ≤ h0.size) (LD : own_Lad2 Z h0 o ra la sd kr kl x0 x1 l0 l1) (SB : Sta Z h0 "com/example/kurslot/kurslot/engine/Side" "BUY" "Lcom/example/kurslot/kurslot/engine/Side;" (.ref wB)) (hs : (sd = wB ∧ r = q1) ∨ (¬ sd = wB ∧ r = (-q1))) (g_o : n0 ≤ o) (g_ra : n0 ≤ ra) (g_la : n0 ≤ la) (hq0 : r < x0) :
    own_Met l (⟨"com/example/kurslot/kurslot/engine/PriceLadder", "levelAt", "(J)Lcom/example/kurslot/kurslot/engine/PriceLevel;"⟩ : MethodName) prog_27_method_7_code 7 (some (.object "com/example/kurslot/kurslot/engine/PriceLevel")) ws ({ frames := 2, cells := 1, slots := 2, locals := 50 } : Room) Z #[(.ref o), (.long q1)] h0 (fun v h L => ∃ b, v = some (.ref b) ∧ Fr n0 L ∧ Keep h0 h [o, ra, la] ∧ h0.size ≤ b ∧ own_Lad3 Z h o ra la sd kr kl r x0 x1 b l0 l1) := by
  refine own_body (plainFor_of_name pn_1) ?_
  intro p e s m below meth c s₁ X0 hx hby hml hown hnm hret hlk hZ e0
  replace hown : s.vm.findClass "com/example/kurslot/kurslot/engine/PriceLadder" = some m.cls := hown
  replace hml : c.maxLocals = 7 := hml
  replace hret : meth.sig.returnType = (some (.object "com/example/kurslot/kurslot/engine/PriceLevel")) := hret
  have N0 := Fr.nil n0
  have ef : entryFrame m #[(.ref o), (.long q1)] 7 = mkF m 0 #[.val (.ref o), .val (.long q1), .second, .unset, .unset, .unset, .unset] [] := by first | (simp [entryFrame, mkF, argsToLocals, Value.category]; done) | rfl
  refine own_step (S' := (s₁.setTop (mkF m 0 #[.val (.ref o), .val (.long q1), .second, .unset, .unset, .unset, .unset] []))) (fun _ k => castTop ef k) ?_
  obtain ⟨Eo, Fr_, Fl_, Fz_, Fs_, Era, Ela, Vr, Vl, Ov, El0, El1⟩ := LD
  refine own_aloadN X0 hx (hb hby d4_0) rfl rfl ?_
  refine own_lloadN X0 hx (hb hby d4_1) rfl ?_
  refine own_cPriv (W := 0) (rest := []) X0 hx hZ [(.long q1)] hown (hw _ (List.mem_of_getElem? (i := 31) rfl)) (hw _ (List.mem_of_getElem? (i := 32) rfl)) (hw _ (List.mem_of_getElem? (i := 33) rfl)) (hw _ (List.mem_of_getElem? (i := 6) rfl)) (by decide) (hw _ (List.mem_of_getElem? (i := 34) rfl)) (hw _ (List.mem_of_getElem? (i := 7) rfl)) e0 Eo (rmRank l Z a0 hw [] o sd wB r q1 h0 n0 Z0 Fs_ SB hs) (by rw [hml]; rfl) (lenOf pd_3 rfl) rfl (Nat.le_of_eq rfl) (hb hby d4_2) (by decide) (by decide) (by decide) (by decide) fun v124 T124 L124 X124 hQ124 => ?_
  obtain ⟨rfl, N124q, e124⟩ := hQ124
  have N124 := Fr.app N0 N124q
  show own_At p e below s _ _ _ T124 m 5 _ [(.long r)]
  refine own_lstoreN (l' := #[.val (.ref o), .val (.long q1), .second, .val (.long r), .second, .unset, .unset]) X124 hx (hb hby d4_5) rfl ?_
  refine own_aloadN X124 hx (hb hby d4_6) rfl rfl ?_
  refine own_getF X124 hx hZ hown (host := "") (Or.inl (hw _ (List.mem_of_getElem? (i := 18) rfl))) Via.refl e124 Fr_ (hb hby d4_7) fun T125 X125 e125 => ?_
  refine own_iconst X125 hx (0 : Int32) (hb hby d4_10) rfl ?_
  refine own_aloadN X125 hx (hb hby d4_11) rfl rfl ?_
  refine own_getF X125 hx hZ hown (host := "") (Or.inl (hw _ (List.mem_of_getElem? (i := 37) rfl))) Via.refl e125 Fz_ (hb hby d4_12) fun T126 X126 e126 => ?_
  refine own_lloadN X126 hx (hb hby d4_15) rfl ?_
  refine own_cStat (W := 0) (rest := []) X126 hx hZ [(.ref ra), (.int (0 : Int32)), (.int (2 : Int32)), (.long r)] hown (hw _ (List.mem_of_getElem? (i := 39) rfl)) (hw _ (List.mem_of_getElem? (i := 40) rfl)) (by decide) (hw _ (List.mem_of_getElem? (i := 42) rfl)) (hw _ (List.mem_of_getElem? (i := 41) rfl)) e126 (rmBS_2_ins0 l Z a0 hw [] ra kr r x0 x1 h0 n0 Z0 Vr hq0) (by rw [hml]; rfl) (lenOf pd_2 rfl) rfl (Nat.le_of_eq rfl) (hb hby d4_16) (by decide) (by decide) (by decide) (by decide) fun v127 T127 L127 X127 hQ127 => ?_
  obtain ⟨rfl, N127q, e127⟩ := hQ127
  have N127 := Fr.app N124 N127q
  show own_At p e below s _ _ _ T127 m 19 _ [(.int (-1 : Int32))]
  refine own_istore (l' := #[.val (.ref o), .val (.long q1), .second, .val (.long r), .second, .val (.int (-1 : Int32)), .unset]) X127 hx (hb hby d4_19) rfl ?_
  refine own_iload X127 hx (hb hby d4_21) rfl ?_
  refine own_ifYes X127 hx 34 (hb hby d4_23) (tlt (by decide : (-1 : Int32) < (0 : Int32))).1 (by decide) (by decide) ?_
  refine own_iload X127 hx (hb hby d4_34) rfl ?_
  refine own_ineg X127 hx (hb hby d4_36) ?_
  rw [show (-(-1 : Int32)) = (1 : Int32) from by decide]
  refine own_iconst X127 hx (1 : Int32) (hb hby d4_37) rfl ?_
  refine own_isub X127 hx (hb hby d4_38) ?_
  rw [show ((1 : Int32) - (1 : Int32)) = (0 : Int32) from by decide]
  refine own_istore (l' := #[.val (.ref o), .val (.long q1), .second, .val (.long r), .second, .val (.int (0 : Int32)), .unset]) X127 hx (hb hby d4_39) rfl ?_
  refine own_aloadN X127 hx (hb hby d4_41) rfl rfl ?_
  refine own_getF X127 hx hZ hown (host := "") (Or.inl (hw _ (List.mem_of_getElem? (i := 37) rfl))) Via.refl e127 Fz_ (hb hby d4_42) fun T128 X128 e128 => ?_
  refine own_aloadN X128 hx (hb hby d4_45) rfl rfl ?_
  refine own_getF X128 hx hZ hown (host := "") (Or.inl (hw _ (List.mem_of_getElem? (i := 18) rfl))) Via.refl e128 Fr_ (hb hby d4_46) fun T129 X129 e129 => ?_
  refine own_arraylength X129 hx hZ e129 (own_alnV Vr) (hb hby d4_49) ?_
  refine own_icmpYes X129 hx 90 (hb hby d4_50) (feq (by decide : ¬ ((2 : Int32) = (16 : Int32)))).2 (by decide) (by decide) ?_
  refine own_aloadN X129 hx (hb hby d4_90) rfl rfl ?_
  refine own_getF X129 hx hZ hown (host := "") (Or.inl (hw _ (List.mem_of_getElem? (i := 18) rfl))) Via.refl e129 Fr_ (hb hby d4_91) fun T130 X130 e130 => ?_
  refine own_iload X130 hx (hb hby d4_94) rfl ?_
  refine own_aloadN X130 hx (hb hby d4_96) rfl rfl ?_
  refine own_getF X130 hx hZ hown (host := "") (Or.inl (hw _ (List.mem_of_getElem? (i := 18) rfl))) Via.refl e130 Fr_ (hb hby d4_97) fun T131 X131 e131 => ?_
  refine own_iload X131 hx (hb hby d4_100) rfl ?_
  refine own_iconst X131 hx (1 : Int32) (hb hby d4_102) rfl ?_
  refine own_iadd X131 hx (hb hby d4_103) ?_
  rw [show ((0 : Int32) + (1 : Int32)) = (1 : Int32) from by decide]
  refine own_aloadN X131 hx (hb hby d4_104) rfl rfl ?_
  refine own_getF X131 hx hZ hown (host := "") (Or.inl (hw _ (List.mem_of_getElem? (i := 37) rfl))) Via.refl e131 Fz_ (hb hby d4_105) fun T132 X132 e132 => ?_
  refine own_iload X132 hx (hb hby d4_108) rfl ?_
  refine own_isub X132 hx (hb hby d4_110) ?_
  rw [show ((2 : Int32) - (0 : Int32)) = (2 : Int32) from by decide]
  obtain ⟨T133, h133, L133, X133, e133, N133, K133, V133', st133⟩ := cpA (us := [(.long x0), (.long x1)]) X132 hx hZ hown (hw _ (List.mem_of_getElem? (i := 49) rfl)) (hw _ (List.mem_of_getElem? (i := 52) rfl)) (hw _ (List.mem_of_getElem? (i := 50) rfl)) (hw _ (List.mem_of_getElem? (i := 51) rfl)) e132 Vr Vr (Or.inl ⟨rfl, rfl⟩) (by decide) (by decide) (by decide) (by decide) (by decide) rfl (Nat.le_of_ble_eq_true rfl) N127 g_ra (g := (mkF m 111 #[.val (.ref o), .val (.long q1), .second, .val (.long r), .second, .val (.int (0 : Int32)), .unset] [(.int (2 : Int32)), (.int (1 : Int32)), (.ref ra), (.int (0 : Int32)), (.ref ra)])) rfl (by rw [hml]; rfl) rfl (hb hby d4_111) (by decide) (W := 0) (by show 2 * 0 + _ ≤ _; exact Nat.le_of_eq rfl) (by decide)
  have V133 : Arv Z h133 ra kr .long (16 : Int32) [(.long x0), (.long x0), (.long x1), (.long (0 : Int64)), (.long (0 : Int64)), (.long (0 : Int64)), (.long (0 : Int64)), (.long (0 : Int64)), (.long (0 : Int64)), (.long (0 : Int64)), (.long (0 : Int64)), (.long (0 : Int64)), (.long (0 : Int64)), (.long (0 : Int64)), (.long (0 : Int64)), (.long (0 : Int64))] (.long (0 : Int64)) := V133'
  refine own_step (S' := (T133.setTop (mkF m 114 #[.val (.ref o), .val (.long q1), .second, .val (.long r), .second, .val (.int (0 : Int32)), .unset] []))) (fun _ k => st133 _ k) ?_
  refine own_aloadN X133 hx (hb hby d4_114) rfl rfl ?_
  refine own_getF X133 hx hZ hown (host := "") (Or.inl (hw _ (List.mem_of_getElem? (i := 22) rfl))) Via.refl e133 (Fld.keep Fl_ K133 (ninS (ne_exa Eo Era (by decide)) nin0)) (hb hby d4_115) fun T134 X134 e134 => ?_
  refine own_iload X134 hx (hb hby d4_118) rfl ?_
  refine own_aloadN X134 hx (hb hby d4_120) rfl rfl ?_
  refine own_getF X134 hx hZ hown (host := "") (Or.inl (hw _ (List.mem_of_getElem? (i := 22) rfl))) Via.refl e134 (Fld.keep Fl_ K133 (ninS (ne_exa Eo Era (by decide)) nin0)) (hb hby d4_121) fun T135 X135 e135 => ?_
  refine own_iload X135 hx (hb hby d4_124) rfl ?_
  refine own_iconst X135 hx (1 : Int32) (hb hby d4_126) rfl ?_
  refine own_iadd X135 hx (hb hby d4_127) ?_
  rw [show ((0 : Int32) + (1 : Int32)) = (1 : Int32) from by decide]
  refine own_aloadN X135 hx (hb hby d4_128) rfl rfl ?_
  refine own_getF X135 hx hZ hown (host := "") (Or.inl (hw _ (List.mem_of_getElem? (i := 37) rfl))) Via.refl e135 (Fld.keep Fz_ K133 (ninS (ne_exa Eo Era (by decide)) nin0)) (hb hby d4_129) fun T136 X136 e136 => ?_
  refine own_iload X136 hx (hb hby d4_132) rfl ?_
  refine own_isub X136 hx (hb hby d4_134) ?_
  rw [show ((2 : Int32) - (0 : Int32)) = (2 : Int32) from by decide]
  obtain ⟨T137, h137, L137, X137, e137, N137, K137, V137', st137⟩ := cpA (us := [(.ref l0), (.ref l1)]) X136 hx hZ hown (hw _ (List.mem_of_getElem? (i := 49) rfl)) (hw _ (List.mem_of_getElem? (i := 52) rfl)) (hw _ (List.mem_of_getElem? (i := 50) rfl)) (hw _ (List.mem_of_getElem? (i := 51) rfl)) e136 (Arv.keep Vl K133 (ninS (ne_exa Ela Era (by decide)) nin0)) (Arv.keep Vl K133 (ninS (ne_exa Ela Era (by decide)) nin0)) (Or.inr ⟨rfl, rfl, ⟨own_sto (Arv.keep Vl K133 (ninS (ne_exa Ela Era (by decide)) nin0)) Ov (Exa.keep El0 K133), ⟨own_sto (Arv.keep Vl K133 (ninS (ne_exa Ela Era (by decide)) nin0)) Ov (Exa.keep El1 K133), trivial⟩⟩⟩) (by decide) (by decide) (by decide) (by decide) (by decide) rfl (Nat.le_of_ble_eq_true rfl) N133 g_la (g := (mkF m 135 #[.val (.ref o), .val (.long q1), .second, .val (.long r), .second, .val (.int (0 : Int32)), .unset] [(.int (2 : Int32)), (.int (1 : Int32)), (.ref la), (.int (0 : Int32)), (.ref la)])) rfl (by rw [hml]; rfl) rfl (hb hby d4_135) (by decide) (W := 0) (by show 2 * 0 + _ ≤ _; exact Nat.le_of_eq rfl) (by decide)
  have V137 : Arv Z h137 la kl (.object "com/example/kurslot/kurslot/engine/PriceLevel") (16 : Int32) [(.ref l0), (.ref l0), (.ref l1), .null, .null, .null, .null, .null, .null, .null, .null, .null, .null, .null, .null, .null] .null := V137'
  refine own_step (S' := (T137.setTop (mkF m 138 #[.val (.ref o), .val (.long q1), .second, .val (.long r), .second, .val (.int (0 : Int32)), .unset] []))) (fun _ k => st137 _ k) ?_
  refine own_newO X137 hx hZ hown (hw _ (List.mem_of_getElem? (i := 20) rfl)) (hw _ (List.mem_of_getElem? (i := 53) rfl)) (hw _ (List.mem_of_getElem? (i := 54) rfl)) e137 (hb hby d4_138) (by decide) (by decide) fun T138 h138 b138 g138 X138 e138 E138 A138 D138 => ?_
  have g_b138 : n0 ≤ b138 := Nat.le_trans (Nat.le_trans (Nat.le_trans Z0 K133.1) K137.1) (Nat.le_of_eq g138.symm)
  have szo_b138 : h0.size ≤ b138 := Nat.le_trans (Nat.le_trans (Nat.le_trans (Nat.le_refl h0.size) K133.1) K137.1) (Nat.le_of_eq g138.symm)
  refine own_dup X138 hx (hb hby d4_141) rfl ?_
  refine own_cSpec (b := b138) (W := 1) (rest := [(.ref b138)]) X138 hx hZ [] rfl hown (hw _ (List.mem_of_getElem? (i := 55) rfl)) (hw _ (List.mem_of_getElem? (i := 56) rfl)) (by decide) (hw _ (List.mem_of_getElem? (i := 57) rfl)) (hw _ (List.mem_of_getElem? (i := 54) rfl)) e138 (rmPLI l Z a0 hw [] b138 h138 n0 (Nat.le_trans (Nat.le_trans (Nat.le_trans Z0 K133.1) K137.1) E138.1)) (by rw [hml]; rfl) (lenOf pd_4 rfl) rfl (Nat.le_of_eq rfl) (hb hby d4_142) (by decide) (by decide) (by decide) (by decide) fun v139 T139 L139 X139 hQ139 => ?_
  obtain ⟨rfl, N139q, e139⟩ := hQ139
  have N139 := Fr.app N137 N139q
  show own_At p e below s _ _ _ T139 m 145 _ [(.ref b138)]
  refine own_astore (l' := #[.val (.ref o), .val (.long q1), .second, .val (.long r), .second, .val (.int (0 : Int32)), .val (.ref b138)]) X139 hx (hb hby d4_145) rfl rfl ?_
  refine own_aloadN X139 hx (hb hby d4_147) rfl rfl ?_
  refine own_getF X139 hx hZ hown (host := "") (Or.inl (hw _ (List.mem_of_getElem? (i := 18) rfl))) Via.refl e139 (Fld.ext E138 (Fld.keep (Fld.keep Fr_ K133 (ninS (ne_exa Eo Era (by decide)) nin0)) K137 (ninS (ne_exa Eo Ela (by decide)) nin0))) (hb hby d4_148) fun T140 X140 e140 => ?_
  refine own_iload X140 hx (hb hby d4_151) rfl ?_
  refine own_lloadN X140 hx (hb hby d4_153) rfl ?_
  refine own_stJ (vs' := [(.long r), (.long x0), (.long x1), (.long (0 : Int64)), (.long (0 : Int64)), (.long (0 : Int64)), (.long (0 : Int64)), (.long (0 : Int64)), (.long (0 : Int64)), (.long (0 : Int64)), (.long (0 : Int64)), (.long (0 : Int64)), (.long (0 : Int64)), (.long (0 : Int64)), (.long (0 : Int64)), (.long (0 : Int64))]) (w := (.long r)) X140 hx hZ e140 ((Arv.keep V133 K137 (ninS (ne_exa Era Ela (by decide)) nin0)).ext E138) ⟨by decide, by decide⟩ 0 rfl (Nat.le_of_ble_eq_true rfl) rfl rfl (hb hby d4_154) fun T141 h141 X141 e141 W141 V141 => ?_
  have N141 := Fr.snoc X141 N139 g_ra
  refine own_aloadN X141 hx (hb hby d4_155) rfl rfl ?_
  refine own_getF X141 hx hZ hown (host := "") (Or.inl (hw _ (List.mem_of_getElem? (i := 22) rfl))) Via.refl e141 (Fld.other W141 (Fld.ext E138 (Fld.keep (Fld.keep Fl_ K133 (ninS (ne_exa Eo Era (by decide)) nin0)) K137 (ninS (ne_exa Eo Ela (by decide)) nin0))) (Or.inl (ne_exa Eo Era (by decide)))) (hb hby d4_156) fun T142 X142 e142 => ?_
  refine own_iload X142 hx (hb hby d4_159) rfl ?_
  refine own_aload X142 hx (hb hby d4_161) rfl rfl ?_
  refine own_stR (vs' := [(.ref b138), (.ref l0), (.ref l1), .null, .null, .null, .null, .null, .null, .null, .null, .null, .null, .null, .null, .null]) X142 hx hZ e142 (Arv.other (V137.ext E138) W141 (ne_exa Ela Era (by decide))) ⟨by decide, by decide⟩ 0 rfl (Nat.le_of_ble_eq_true rfl) rfl (Or.inr ⟨_, rfl, Ov, Ins.self (Exa.wr W141 A138)⟩) rfl (hb hby d4_163) fun T143 h143 X143 e143 W143 V143 => ?_
  have N143 := Fr.snoc X143 N141 g_la
  refine own_aloadN X143 hx (hb hby d4_164) rfl rfl ?_
  refine own_dup X143 hx (hb hby d4_165) rfl ?_
  refine own_getF X143 hx hZ hown (host := "") (Or.inl (hw _ (List.mem_of_getElem? (i := 37) rfl))) Via.refl e143 (Fld.other W143 (Fld.other W141 (Fld.ext E138 (Fld.keep (Fld.keep Fz_ K133 (ninS (ne_exa Eo Era (by decide)) nin0)) K137 (ninS (ne_exa Eo Ela (by decide)) nin0))) (Or.inl (ne_exa Eo Era (by decide)))) (Or.inl (ne_exa Eo Ela (by decide)))) (hb hby d4_166) fun T144 X144 e144 => ?_
  refine own_iconst X144 hx (1 : Int32) (hb hby d4_169) rfl ?_
  refine own_iadd X144 hx (hb hby d4_170) ?_
  rw [show ((2 : Int32) + (1 : Int32)) = (3 : Int32) from by decide]
  refine own_putF X144 hx hZ hown (host := "") (Or.inl (hw _ (List.mem_of_getElem? (i := 37) rfl))) Via.refl e144 (Fld.other W143 (Fld.other W141 (Fld.ext E138 (Fld.keep (Fld.keep Fz_ K133 (ninS (ne_exa Eo Era (by decide)) nin0)) K137 (ninS (ne_exa Eo Ela (by decide)) nin0))) (Or.inl (ne_exa Eo Era (by decide)))) (Or.inl (ne_exa Eo Ela (by decide)))) (Exa.wr W143 (Exa.wr W141 (Exa.ext E138 (Exa.keep (Exa.keep Eo K133) K137)))) (Or.inl (hw _ (List.mem_of_getElem? (i := 38) rfl))) (hw _ (List.mem_of_getElem? (i := 6) rfl)) (ty := .int) (by decide) rfl rfl (hb hby d4_171) fun T145 h145 X145 e145 W145 => ?_
  have Fw145 := Fld.same W145 (Fld.other W143 (Fld.other W141 (Fld.ext E138 (Fld.keep (Fld.keep Fz_ K133 (ninS (ne_exa Eo Era (by decide)) nin0)) K137 (ninS (ne_exa Eo Ela (by decide)) nin0))) (Or.inl (ne_exa Eo Era (by decide)))) (Or.inl (ne_exa Eo Ela (by decide))))
  have N145 := Fr.snoc X145 N143 g_o
  refine own_aload X145 hx (hb hby d4_174) rfl rfl ?_
  refine own_retA X145 hx hlk hret rfl rfl rfl (hb hby d4_176) (by decide) (by decide) ?_
  try rw [e145]
  exact ⟨b138, rfl, N145, (Keep.wr (Keep.wr (Keep.wr (Keep.ext (Keep.trans (Keep.trans (Keep.refl h0 [o, ra, la]) K133 (allS (Or.inl (List.mem_of_getElem? (i := 1) rfl)) all0)) K137 (allS (Or.inl (List.mem_of_getElem? (i := 2) rfl)) all0)) E138) W141 (Or.inl (List.mem_of_getElem? (i := 1) rfl))) W143 (Or.inl (List.mem_of_getElem? (i := 2) rfl))) W145 (Or.inl (List.mem_of_getElem? (i := 0) rfl))), szo_b138, ⟨(Exa.wr W145 (Exa.wr W143 (Exa.wr W141 (Exa.ext E138 (Exa.keep (Exa.keep Eo K133) K137))))), (Fld.other W145 (Fld.other W143 (Fld.other W141 (Fld.ext E138 (Fld.keep (Fld.keep Fr_ K133 (ninS (ne_exa Eo Era (by decide)) nin0)) K137 (ninS (ne_exa Eo Ela (by decide)) nin0))) (Or.inl (ne_exa Eo Era (by decide)))) (Or.inl (ne_exa Eo Ela (by decide)))) (Or.inr (slot_ne (Or.inl (hw _ (List.mem_of_getElem? (i := 19) rfl))) (Or.inl (hw _ (List.mem_of_getElem? (i := 38) rfl))) (by decide) (t := (.array .long)) (t' := .int) (by decide) (by decide)))), (Fld.other W145 (Fld.other W143 (Fld.other W141 (Fld.ext E138 (Fld.keep (Fld.keep Fl_ K133 (ninS (ne_exa Eo Era (by decide)) nin0)) K137 (ninS (ne_exa Eo Ela (by decide)) nin0))) (Or.inl (ne_exa Eo Era (by decide)))) (Or.inl (ne_exa Eo Ela (by decide)))) (Or.inr (slot_ne (Or.inl (hw _ (List.mem_of_getElem? (i := 23) rfl))) (Or.inl (hw _ (List.mem_of_getElem? (i := 38) rfl))) (by decide) (t := (.array (.object "com/example/kurslot/kurslot/engine/PriceLevel"))) (t' := .int) (by decide) (by decide)))), Fw145, (Fld.other W145 (Fld.other W143 (Fld.other W141 (Fld.ext E138 (Fld.keep (Fld.keep Fs_ K133 (ninS (ne_exa Eo Era (by decide)) nin0)) K137 (ninS (ne_exa Eo Ela (by decide)) nin0))) (Or.inl (ne_exa Eo Era (by decide)))) (Or.inl (ne_exa Eo Ela (by decide)))) (Or.inr (slot_ne (Or.inr (hw _ (List.mem_of_getElem? (i := 25) rfl))) (Or.inl (hw _ (List.mem_of_getElem? (i := 38) rfl))) (by decide) (t := (.object "com/example/kurslot/kurslot/engine/Side")) (t' := .int) (by decide) (by decide)))), (Exa.wr W145 (Exa.wr W143 (Exa.wr W141 (Exa.ext E138 (Exa.keep (Exa.keep Era K133) K137))))), (Exa.wr W145 (Exa.wr W143 (Exa.wr W141 (Exa.ext E138 (Exa.keep (Exa.keep Ela K133) K137))))), (Arv.other (Arv.other V141 W143 (ne_exa Era Ela (by decide))) W145 (ne_exa Era Eo (by decide))), (Arv.other V143 W145 (ne_exa Ela Eo (by decide))), Ov, (Exa.wr W145 (Exa.wr W143 (Exa.wr W141 A138))), (Exa.wr W145 (Exa.wr W143 (Exa.wr W141 (Exa.ext E138 (Exa.keep (Exa.keep El0 K133) K137))))), (Exa.wr W145 (Exa.wr W143 (Exa.wr W141 (Exa.ext E138 (Exa.keep (Exa.keep El1 K133) K137)))))⟩⟩
set_option maxRecDepth 65536 in
set_option maxHeartbeats 40000000 in
theorem rmB0_2_found1 (l : Launch) (Z : State) (a0 : Array Value) (hw : ∀ d ∈ tables_1, d.before a0 Z = true) (ws : List Jvm.Cond) (ra : Addr) (kr : ClassId) (r x0 : Int64)  (h0 : Heap) (n0 : Nat) (Z0 : n0 ≤ h0.size) (Vr : Arv Z h0 ra kr .long (16 : Int32) [(.long x0), (.long r), (.long (0 : Int64)), (.long (0 : Int64)), (.long (0 : Int64)), (.long (0 : Int64)), (.long (0 : Int64)), (.long (0 : Int64)), (.long (0 : Int64)), (.long (0 : Int64)), (.long (0 : Int64)), (.long (0 : Int64)), (.long (0 : Int64)), (.long (0 : Int64)), (.long (0 : Int64)), (.long (0 : Int64))] (.long (0 : Int64))) (hq0 : x0 < r) :
    own_Met l (⟨"java/util/Arrays", "binarySearch0", "([JIIJ)I"⟩ : MethodName) jdk_65_method_56_code 10 (some .int) ws ({ frames := 0, cells := 0, slots := 0, locals := 0 } : Room) Z #[(.ref ra), (.int (0 : Int32)), (.int (2 : Int32)), (.long r)] h0 (fun v h L => v = some (.int (1 : Int32)) ∧ Fr n0 L ∧ h = h0) := by
  refine own_body (plainFor_of_name pn_2) ?_
  intro p e s m below meth c s₁ X0 hx hby hml hown hnm hret hlk hZ e0
  replace hown : s.vm.findClass "java/util/Arrays" = some m.cls := hown
  replace hml : c.maxLocals = 10 := hml
  replace hret : meth.sig.returnType = (some .int) := hret
  have N0 := Fr.nil n0
  have ef : entryFrame m #[(.ref ra), (.int (0 : Int32)), (.int (2 : Int32)), (.long r)] 10 = mkF m 0 #[.val (.ref ra), .val (.int (0 : Int32)), .val (.int (2 : Int32)), .val (.long r), .second, .unset, .unset, .unset, .unset, .unset] [] := by first | (simp [entryFrame, mkF, argsToLocals, Value.category]; done) | rfl
  refine own_step (S' := (s₁.setTop (mkF m 0 #[.val (.ref ra), .val (.int (0 : Int32)), .val (.int (2 : Int32)), .val (.long r), .second, .unset, .unset, .unset, .unset, .unset] []))) (fun _ k => castTop ef k) ?_
  refine own_iloadN X0 hx (hb hby d8_0) rfl ?_
  refine own_istore (l' := #[.val (.ref ra), .val (.int (0 : Int32)), .val (.int (2 : Int32)), .val (.long r), .second, .val (.int (0 : Int32)), .unset, .unset, .unset, .unset]) X0 hx (hb hby d8_1) rfl ?_
  refine own_iloadN X0 hx (hb hby d8_3) rfl ?_
  refine own_iconst X0 hx (1 : Int32) (hb hby d8_4) rfl ?_
  refine own_isub X0 hx (hb hby d8_5) ?_
  rw [show ((2 : Int32) - (1 : Int32)) = (1 : Int32) from by decide]
  refine own_istore (l' := #[.val (.ref ra), .val (.int (0 : Int32)), .val (.int (2 : Int32)), .val (.long r), .second, .val (.int (0 : Int32)), .val (.int (1 : Int32)), .unset, .unset, .unset]) X0 hx (hb hby d8_6) rfl ?_
  refine own_iload X0 hx (hb hby d8_8) rfl ?_
  refine own_iload X0 hx (hb hby d8_10) rfl ?_
  refine own_icmpNo X0 hx (hb hby d8_12) (flt (by decide : ¬ ((1 : Int32) < (0 : Int32)))).2.2.1 ?_
  refine own_iload X0 hx (hb hby d8_15) rfl ?_
  refine own_iload X0 hx (hb hby d8_17) rfl ?_
  refine own_iadd X0 hx (hb hby d8_19) ?_
  rw [show ((0 : Int32) + (1 : Int32)) = (1 : Int32) from by decide]
  refine own_iconst X0 hx (1 : Int32) (hb hby d8_20) rfl ?_
  refine own_iushr X0 hx (hb hby d8_21) ?_
  rw [show (((1 : Int32).toUInt32 >>> ((1 : Int32) &&& 31).toUInt32).toInt32) = (0 : Int32) from by decide]
  refine own_istore (l' := #[.val (.ref ra), .val (.int (0 : Int32)), .val (.int (2 : Int32)), .val (.long r), .second, .val (.int (0 : Int32)), .val (.int (1 : Int32)), .val (.int (0 : Int32)), .unset, .unset]) X0 hx (hb hby d8_22) rfl ?_
  refine own_aloadN X0 hx (hb hby d8_24) rfl rfl ?_
  refine own_iload X0 hx (hb hby d8_25) rfl ?_
  refine own_laload X0 hx hZ (.long x0) e0 Vr ⟨by decide, by decide⟩ rfl (hb hby d8_27) ?_
  refine own_lstore (l' := #[.val (.ref ra), .val (.int (0 : Int32)), .val (.int (2 : Int32)), .val (.long r), .second, .val (.int (0 : Int32)), .val (.int (1 : Int32)), .val (.int (0 : Int32)), .val (.long x0), .second]) X0 hx (hb hby d8_28) rfl ?_
  refine own_lload X0 hx (hb hby d8_30) rfl ?_
  refine own_lloadN X0 hx (hb hby d8_32) rfl ?_
  refine own_lcmp X0 hx (hb hby d8_33) ?_
  refine own_ifNo X0 hx (hb hby d8_34) (tlt ((lw_lt x0 r).mpr hq0)).2.1 ?_
  refine own_iload X0 hx (hb hby d8_37) rfl ?_
  refine own_iconst X0 hx (1 : Int32) (hb hby d8_39) rfl ?_
  refine own_iadd X0 hx (hb hby d8_40) ?_
  rw [show ((0 : Int32) + (1 : Int32)) = (1 : Int32) from by decide]
  refine own_istore (l' := #[.val (.ref ra), .val (.int (0 : Int32)), .val (.int (2 : Int32)), .val (.long r), .second, .val (.int (1 : Int32)), .val (.int (1 : Int32)), .val (.int (0 : Int32)), .val (.long x0), .second]) X0 hx (hb hby d8_41) rfl ?_
  refine own_goto X0 hx 65 (hb hby d8_43) (by decide) (by decide) ?_
  refine own_goto X0 hx 8 (hb hby d8_65) (by decide) (by decide) ?_
  refine own_iload X0 hx (hb hby d8_8) rfl ?_
  refine own_iload X0 hx (hb hby d8_10) rfl ?_
  refine own_icmpNo X0 hx (hb hby d8_12) (flt (by decide : ¬ ((1 : Int32) < (1 : Int32)))).2.2.1 ?_
  refine own_iload X0 hx (hb hby d8_15) rfl ?_
  refine own_iload X0 hx (hb hby d8_17) rfl ?_
  refine own_iadd X0 hx (hb hby d8_19) ?_
  rw [show ((1 : Int32) + (1 : Int32)) = (2 : Int32) from by decide]
  refine own_iconst X0 hx (1 : Int32) (hb hby d8_20) rfl ?_
  refine own_iushr X0 hx (hb hby d8_21) ?_
  rw [show (((2 : Int32).toUInt32 >>> ((1 : Int32) &&& 31).toUInt32).toInt32) = (1 : Int32) from by decide]
  refine own_istore (l' := #[.val (.ref ra), .val (.int (0 : Int32)), .val (.int (2 : Int32)), .val (.long r), .second, .val (.int (1 : Int32)), .val (.int (1 : Int32)), .val (.int (1 : Int32)), .val (.long x0), .second]) X0 hx (hb hby d8_22) rfl ?_
  refine own_aloadN X0 hx (hb hby d8_24) rfl rfl ?_
  refine own_iload X0 hx (hb hby d8_25) rfl ?_
  refine own_laload X0 hx hZ (.long r) e0 Vr ⟨by decide, by decide⟩ rfl (hb hby d8_27) ?_
  refine own_lstore (l' := #[.val (.ref ra), .val (.int (0 : Int32)), .val (.int (2 : Int32)), .val (.long r), .second, .val (.int (1 : Int32)), .val (.int (1 : Int32)), .val (.int (1 : Int32)), .val (.long r), .second]) X0 hx (hb hby d8_28) rfl ?_
  refine own_lload X0 hx (hb hby d8_30) rfl ?_
  refine own_lloadN X0 hx (hb hby d8_32) rfl ?_
  refine own_lcmp X0 hx (hb hby d8_33) ?_
  refine own_ifYes X0 hx 46 (hb hby d8_34) (flt (fun q => (own_irr _) ((lw_lt r r).mp q))).2.1 (by decide) (by decide) ?_
  refine own_lload X0 hx (hb hby d8_46) rfl ?_
  refine own_lloadN X0 hx (hb hby d8_48) rfl ?_
  refine own_lcmp X0 hx (hb hby d8_49) ?_
  refine own_ifYes X0 hx 62 (hb hby d8_50) (flt (fun q => (own_irr _) ((lw_gt r r).mp q))).2.2.2 (by decide) (by decide) ?_
  refine own_iload X0 hx (hb hby d8_62) rfl ?_
  refine own_retI X0 hx hlk hret (hb hby d8_64) (by decide) (by decide) ?_
  try rw [e0]
  exact ⟨rfl, N0, rfl⟩
set_option maxRecDepth 65536 in
set_option maxHeartbeats 40000000 in
theorem rmBS_2_found1 (l : Launch) (Z : State) (a0 : Array Value) (hw : ∀ d ∈ tables_1, d.before a0 Z = true) (ws : List Jvm.Cond) (ra : Addr) (kr : ClassId) (r x0 : Int64)  (h0 : Heap) (n0 : Nat) (Z0 : n0 ≤ h0.size) (Vr : Arv Z h0 ra kr .long (16 : Int32) [(.long x0), (.long r), (.long (0 : Int64)), (.long (0 : Int64)), (.long (0 : Int64)), (.long (0 : Int64)), (.long (0 : Int64)), (.long (0 : Int64)), (.long (0 : Int64)), (.long (0 : Int64)), (.long (0 : Int64)), (.long (0 : Int64)), (.long (0 : Int64)), (.long (0 : Int64)), (.long (0 : Int64)), (.long (0 : Int64))] (.long (0 : Int64))) (hq0 : x0 < r) :
    own_Met l (⟨"java/util/Arrays", "binarySearch", "([JIIJ)I"⟩ : MethodName) jdk_65_method_55_code 5 (some .int) ws ({ frames := 1, cells := 0, slots := 0, locals := 21 } : Room) Z #[(.ref ra), (.int (0 : Int32)), (.int (2 : Int32)), (.long r)] h0 (fun v h L => v = some (.int (1 : Int32)) ∧ Fr n0 L ∧ h = h0) := by
  refine own_body (plainFor_of_name pn_2) ?_
  intro p e s m below meth c s₁ X0 hx hby hml hown hnm hret hlk hZ e0
  replace hown : s.vm.findClass "java/util/Arrays" = some m.cls := hown
  replace hml : c.maxLocals = 5 := hml
  replace hret : meth.sig.returnType = (some .int) := hret
  have N0 := Fr.nil n0
  have ef : entryFrame m #[(.ref ra), (.int (0 : Int32)), (.int (2 : Int32)), (.long r)] 5 = mkF m 0 #[.val (.ref ra), .val (.int (0 : Int32)), .val (.int (2 : Int32)), .val (.long r), .second] [] := by first | (simp [entryFrame, mkF, argsToLocals, Value.category]; done) | rfl
  refine own_step (S' := (s₁.setTop (mkF m 0 #[.val (.ref ra), .val (.int (0 : Int32)), .val (.int (2 : Int32)), .val (.long r), .second] []))) (fun _ k => castTop ef k) ?_
  refine own_aloadN X0 hx (hb hby d6_0) rfl rfl ?_
  refine own_arraylength X0 hx hZ e0 (own_alnV Vr) (hb hby d6_1) ?_
  refine own_iloadN X0 hx (hb hby d6_2) rfl ?_
  refine own_iloadN X0 hx (hb hby d6_3) rfl ?_
  refine own_cStat (W := 0) (rest := []) X0 hx hZ [(.int (16 : Int32)), (.int (0 : Int32)), (.int (2 : Int32))] hown (hw _ (List.mem_of_getElem? (i := 43) rfl)) (hw _ (List.mem_of_getElem? (i := 44) rfl)) (by decide) (hw _ (List.mem_of_getElem? (i := 45) rfl)) (hw _ (List.mem_of_getElem? (i := 41) rfl)) e0 (rmRC_2 l Z a0 hw [] h0 n0 Z0) (by rw [hml]; rfl) (lenOf pd_1 rfl) rfl (Nat.le_of_eq rfl) (hb hby d6_4) (by decide) (by decide) (by decide) (by decide) fun v146 T146 L146 X146 hQ146 => ?_
  obtain ⟨rfl, N146q, e146⟩ := hQ146
  have N146 := Fr.app N0 N146q
  show own_At p e below s _ _ _ T146 m 7 _ []
  refine own_aloadN X146 hx (hb hby d6_7) rfl rfl ?_
  refine own_iloadN X146 hx (hb hby d6_8) rfl ?_
  refine own_iloadN X146 hx (hb hby d6_9) rfl ?_
  refine own_lloadN X146 hx (hb hby d6_10) rfl ?_
  refine own_cStat (W := 0) (rest := []) X146 hx hZ [(.ref ra), (.int (0 : Int32)), (.int (2 : Int32)), (.long r)] hown (hw _ (List.mem_of_getElem? (i := 46) rfl)) (hw _ (List.mem_of_getElem? (i := 47) rfl)) (by decide) (hw _ (List.mem_of_getElem? (i := 48) rfl)) (hw _ (List.mem_of_getElem? (i := 41) rfl)) e146 (rmB0_2_found1 l Z a0 hw [] ra kr r x0 h0 n0 Z0 Vr hq0) (by rw [hml]; rfl) (lenOf pd_2 rfl) rfl (Nat.le_of_eq rfl) (hb hby d6_11) (by decide) (by decide) (by decide) (by decide) fun v147 T147 L147 X147 hQ147 => ?_
  obtain ⟨rfl, N147q, e147⟩ := hQ147
  have N147 := Fr.app N146 N147q
  show own_At p e below s _ _ _ T147 m 14 _ [(.int (1 : Int32))]
  refine own_retI X147 hx hlk hret (hb hby d6_14) (by decide) (by decide) ?_
  try rw [e147]
  exact ⟨rfl, N147, rfl⟩
set_option maxRecDepth 65536 in
set_option maxHeartbeats 40000000 in
theorem rmAt_2_found1 (l : Launch) (Z : State) (a0 : Array Value) (hw : ∀ d ∈ tables_1, d.before a0 Z = true) (ws : List Jvm.Cond) (o ra la sd wB l0 l1 : Addr) (kr kl : ClassId) (r x0 q1 : Int64)  (h0 : Heap) (n0 : Nat) (Z0 : n0 ≤ h0.size) (LD : own_Lad2 Z h0 o ra la sd kr kl x0 r l0 l1) (SB : Sta Z h0 "com/example/kurslot/kurslot/engine/Side" "BUY" "Lcom/example/kurslot/kurslot/engine/Side;" (.ref wB)) (hs : (sd = wB ∧ r = q1) ∨ (¬ sd = wB ∧ r = (-q1))) (g_o : n0 ≤ o) (g_ra : n0 ≤ ra) (g_la : n0 ≤ la) (hq0 : x0 < r) :
    own_Met l (⟨"com/example/kurslot/kurslot/engine/PriceLadder", "levelAt", "(J)Lcom/example/kurslot/kurslot/engine/PriceLevel;"⟩ : MethodName) prog_27_method_7_code 7 (some (.object "com/example/kurslot/kurslot/engine/PriceLevel")) ws ({ frames := 2, cells := 0, slots := 0, locals := 50 } : Room) Z #[(.ref o), (.long q1)] h0 (fun v h L => v = some (.ref l1) ∧ Fr n0 L ∧ h = h0) := by
  refine own_body (plainFor_of_name pn_1) ?_
  intro p e s m below meth c s₁ X0 hx hby hml hown hnm hret hlk hZ e0
  replace hown : s.vm.findClass "com/example/kurslot/kurslot/engine/PriceLadder" = some m.cls := hown
  replace hml : c.maxLocals = 7 := hml
  replace hret : meth.sig.returnType = (some (.object "com/example/kurslot/kurslot/engine/PriceLevel")) := hret
  have N0 := Fr.nil n0
  have ef : entryFrame m #[(.ref o), (.long q1)] 7 = mkF m 0 #[.val (.ref o), .val (.long q1), .second, .unset, .unset, .unset, .unset] [] := by first | (simp [entryFrame, mkF, argsToLocals, Value.category]; done) | rfl
  refine own_step (S' := (s₁.setTop (mkF m 0 #[.val (.ref o), .val (.long q1), .second, .unset, .unset, .unset, .unset] []))) (fun _ k => castTop ef k) ?_
  obtain ⟨Eo, Fr_, Fl_, Fz_, Fs_, Era, Ela, Vr, Vl, Ov, El0, El1⟩ := LD
  refine own_aloadN X0 hx (hb hby d4_0) rfl rfl ?_
  refine own_lloadN X0 hx (hb hby d4_1) rfl ?_
  refine own_cPriv (W := 0) (rest := []) X0 hx hZ [(.long q1)] hown (hw _ (List.mem_of_getElem? (i := 31) rfl)) (hw _ (List.mem_of_getElem? (i := 32) rfl)) (hw _ (List.mem_of_getElem? (i := 33) rfl)) (hw _ (List.mem_of_getElem? (i := 6) rfl)) (by decide) (hw _ (List.mem_of_getElem? (i := 34) rfl)) (hw _ (List.mem_of_getElem? (i := 7) rfl)) e0 Eo (rmRank l Z a0 hw [] o sd wB r q1 h0 n0 Z0 Fs_ SB hs) (by rw [hml]; rfl) (lenOf pd_3 rfl) rfl (Nat.le_of_eq rfl) (hb hby d4_2) (by decide) (by decide) (by decide) (by decide) fun v148 T148 L148 X148 hQ148 => ?_
  obtain ⟨rfl, N148q, e148⟩ := hQ148
  have N148 := Fr.app N0 N148q
  show own_At p e below s _ _ _ T148 m 5 _ [(.long r)]
  refine own_lstoreN (l' := #[.val (.ref o), .val (.long q1), .second, .val (.long r), .second, .unset, .unset]) X148 hx (hb hby d4_5) rfl ?_
  refine own_aloadN X148 hx (hb hby d4_6) rfl rfl ?_
  refine own_getF X148 hx hZ hown (host := "") (Or.inl (hw _ (List.mem_of_getElem? (i := 18) rfl))) Via.refl e148 Fr_ (hb hby d4_7) fun T149 X149 e149 => ?_
  refine own_iconst X149 hx (0 : Int32) (hb hby d4_10) rfl ?_
  refine own_aloadN X149 hx (hb hby d4_11) rfl rfl ?_
  refine own_getF X149 hx hZ hown (host := "") (Or.inl (hw _ (List.mem_of_getElem? (i := 37) rfl))) Via.refl e149 Fz_ (hb hby d4_12) fun T150 X150 e150 => ?_
  refine own_lloadN X150 hx (hb hby d4_15) rfl ?_
  refine own_cStat (W := 0) (rest := []) X150 hx hZ [(.ref ra), (.int (0 : Int32)), (.int (2 : Int32)), (.long r)] hown (hw _ (List.mem_of_getElem? (i := 39) rfl)) (hw _ (List.mem_of_getElem? (i := 40) rfl)) (by decide) (hw _ (List.mem_of_getElem? (i := 42) rfl)) (hw _ (List.mem_of_getElem? (i := 41) rfl)) e150 (rmBS_2_found1 l Z a0 hw [] ra kr r x0 h0 n0 Z0 Vr hq0) (by rw [hml]; rfl) (lenOf pd_2 rfl) rfl (Nat.le_of_eq rfl) (hb hby d4_16) (by decide) (by decide) (by decide) (by decide) fun v151 T151 L151 X151 hQ151 => ?_
  obtain ⟨rfl, N151q, e151⟩ := hQ151
  have N151 := Fr.app N148 N151q
  show own_At p e below s _ _ _ T151 m 19 _ [(.int (1 : Int32))]
  refine own_istore (l' := #[.val (.ref o), .val (.long q1), .second, .val (.long r), .second, .val (.int (1 : Int32)), .unset]) X151 hx (hb hby d4_19) rfl ?_
  refine own_iload X151 hx (hb hby d4_21) rfl ?_
  refine own_ifNo X151 hx (hb hby d4_23) (flt (by decide : ¬ ((1 : Int32) < (0 : Int32)))).1 ?_
  refine own_aloadN X151 hx (hb hby d4_26) rfl rfl ?_
  refine own_getF X151 hx hZ hown (host := "") (Or.inl (hw _ (List.mem_of_getElem? (i := 22) rfl))) Via.refl e151 Fl_ (hb hby d4_27) fun T152 X152 e152 => ?_
  refine own_iload X152 hx (hb hby d4_30) rfl ?_
  refine own_aaload X152 hx hZ (.ref l1) e152 Vl rfl ⟨by decide, by decide⟩ rfl (hb hby d4_32) ?_
  refine own_retA X152 hx hlk hret rfl rfl rfl (hb hby d4_33) (by decide) (by decide) ?_
  try rw [e152]
  exact ⟨rfl, N151, rfl⟩
set_option maxRecDepth 65536 in
set_option maxHeartbeats 40000000 in
theorem rmB0_2_ins1 (l : Launch) (Z : State) (a0 : Array Value) (hw : ∀ d ∈ tables_1, d.before a0 Z = true) (ws : List Jvm.Cond) (ra : Addr) (kr : ClassId) (r x0 x1 : Int64)  (h0 : Heap) (n0 : Nat) (Z0 : n0 ≤ h0.size) (Vr : Arv Z h0 ra kr .long (16 : Int32) [(.long x0), (.long x1), (.long (0 : Int64)), (.long (0 : Int64)), (.long (0 : Int64)), (.long (0 : Int64)), (.long (0 : Int64)), (.long (0 : Int64)), (.long (0 : Int64)), (.long (0 : Int64)), (.long (0 : Int64)), (.long (0 : Int64)), (.long (0 : Int64)), (.long (0 : Int64)), (.long (0 : Int64)), (.long (0 : Int64))] (.long (0 : Int64))) (hq0 : x0 < r) (hq1 : r < x1) :
    own_Met l (⟨"java/util/Arrays", "binarySearch0", "([JIIJ)I"⟩ : MethodName) jdk_65_method_56_code 10 (some .int) ws ({ frames := 0, cells := 0, slots := 0, locals := 0 } : Room) Z #[(.ref ra), (.int (0 : Int32)), (.int (2 : Int32)), (.long r)] h0 (fun v h L => v = some (.int (-2 : Int32)) ∧ Fr n0 L ∧ h = h0) := by
  refine own_body (plainFor_of_name pn_2) ?_
  intro p e s m below meth c s₁ X0 hx hby hml hown hnm hret hlk hZ e0
  replace hown : s.vm.findClass "java/util/Arrays" = some m.cls := hown
  replace hml : c.maxLocals = 10 := hml
  replace hret : meth.sig.returnType = (some .int) := hret
  have N0 := Fr.nil n0
  have ef : entryFrame m #[(.ref ra), (.int (0 : Int32)), (.int (2 : Int32)), (.long r)] 10 = mkF m 0 #[.val (.ref ra), .val (.int (0 : Int32)), .val (.int (2 : Int32)), .val (.long r), .second, .unset, .unset, .unset, .unset, .unset] [] := by first | (simp [entryFrame, mkF, argsToLocals, Value.category]; done) | rfl
  refine own_step (S' := (s₁.setTop (mkF m 0 #[.val (.ref ra), .val (.int (0 : Int32)), .val (.int (2 : Int32)), .val (.long r), .second, .unset, .unset, .unset, .unset, .unset] []))) (fun _ k => castTop ef k) ?_
  refine own_iloadN X0 hx (hb hby d8_0) rfl ?_
  refine own_istore (l' := #[.val (.ref ra), .val (.int (0 : Int32)), .val (.int (2 : Int32)), .val (.long r), .second, .val (.int (0 : Int32)), .unset, .unset, .unset, .unset]) X0 hx (hb hby d8_1) rfl ?_
  refine own_iloadN X0 hx (hb hby d8_3) rfl ?_
  refine own_iconst X0 hx (1 : Int32) (hb hby d8_4) rfl ?_
  refine own_isub X0 hx (hb hby d8_5) ?_
  rw [show ((2 : Int32) - (1 : Int32)) = (1 : Int32) from by decide]
  refine own_istore (l' := #[.val (.ref ra), .val (.int (0 : Int32)), .val (.int (2 : Int32)), .val (.long r), .second, .val (.int (0 : Int32)), .val (.int (1 : Int32)), .unset, .unset, .unset]) X0 hx (hb hby d8_6) rfl ?_
  refine own_iload X0 hx (hb hby d8_8) rfl ?_
  refine own_iload X0 hx (hb hby d8_10) rfl ?_
  refine own_icmpNo X0 hx (hb hby d8_12) (flt (by decide : ¬ ((1 : Int32) < (0 : Int32)))).2.2.1 ?_
  refine own_iload X0 hx (hb hby d8_15) rfl ?_
  refine own_iload X0 hx (hb hby d8_17) rfl ?_
  refine own_iadd X0 hx (hb hby d8_19) ?_
  rw [show ((0 : Int32) + (1 : Int32)) = (1 : Int32) from by decide]
  refine own_iconst X0 hx (1 : Int32) (hb hby d8_20) rfl ?_
  refine own_iushr X0 hx (hb hby d8_21) ?_
  rw [show (((1 : Int32).toUInt32 >>> ((1 : Int32) &&& 31).toUInt32).toInt32) = (0 : Int32) from by decide]
  refine own_istore (l' := #[.val (.ref ra), .val (.int (0 : Int32)), .val (.int (2 : Int32)), .val (.long r), .second, .val (.int (0 : Int32)), .val (.int (1 : Int32)), .val (.int (0 : Int32)), .unset, .unset]) X0 hx (hb hby d8_22) rfl ?_
  refine own_aloadN X0 hx (hb hby d8_24) rfl rfl ?_
  refine own_iload X0 hx (hb hby d8_25) rfl ?_
  refine own_laload X0 hx hZ (.long x0) e0 Vr ⟨by decide, by decide⟩ rfl (hb hby d8_27) ?_
  refine own_lstore (l' := #[.val (.ref ra), .val (.int (0 : Int32)), .val (.int (2 : Int32)), .val (.long r), .second, .val (.int (0 : Int32)), .val (.int (1 : Int32)), .val (.int (0 : Int32)), .val (.long x0), .second]) X0 hx (hb hby d8_28) rfl ?_
  refine own_lload X0 hx (hb hby d8_30) rfl ?_
  refine own_lloadN X0 hx (hb hby d8_32) rfl ?_
  refine own_lcmp X0 hx (hb hby d8_33) ?_
  refine own_ifNo X0 hx (hb hby d8_34) (tlt ((lw_lt x0 r).mpr hq0)).2.1 ?_
  refine own_iload X0 hx (hb hby d8_37) rfl ?_
  refine own_iconst X0 hx (1 : Int32) (hb hby d8_39) rfl ?_
  refine own_iadd X0 hx (hb hby d8_40) ?_
  rw [show ((0 : Int32) + (1 : Int32)) = (1 : Int32) from by decide]
  refine own_istore (l' := #[.val (.ref ra), .val (.int (0 : Int32)), .val (.int (2 : Int32)), .val (.long r), .second, .val (.int (1 : Int32)), .val (.int (1 : Int32)), .val (.int (0 : Int32)), .val (.long x0), .second]) X0 hx (hb hby d8_41) rfl ?_
  refine own_goto X0 hx 65 (hb hby d8_43) (by decide) (by decide) ?_
  refine own_goto X0 hx 8 (hb hby d8_65) (by decide) (by decide) ?_
  refine own_iload X0 hx (hb hby d8_8) rfl ?_
  refine own_iload X0 hx (hb hby d8_10) rfl ?_
  refine own_icmpNo X0 hx (hb hby d8_12) (flt (by decide : ¬ ((1 : Int32) < (1 : Int32)))).2.2.1 ?_
  refine own_iload X0 hx (hb hby d8_15) rfl ?_
  refine own_iload X0 hx (hb hby d8_17) rfl ?_
  refine own_iadd X0 hx (hb hby d8_19) ?_
  rw [show ((1 : Int32) + (1 : Int32)) = (2 : Int32) from by decide]
  refine own_iconst X0 hx (1 : Int32) (hb hby d8_20) rfl ?_
  refine own_iushr X0 hx (hb hby d8_21) ?_
  rw [show (((2 : Int32).toUInt32 >>> ((1 : Int32) &&& 31).toUInt32).toInt32) = (1 : Int32) from by decide]
  refine own_istore (l' := #[.val (.ref ra), .val (.int (0 : Int32)), .val (.int (2 : Int32)), .val (.long r), .second, .val (.int (1 : Int32)), .val (.int (1 : Int32)), .val (.int (1 : Int32)), .val (.long x0), .second]) X0 hx (hb hby d8_22) rfl ?_
  refine own_aloadN X0 hx (hb hby d8_24) rfl rfl ?_
  refine own_iload X0 hx (hb hby d8_25) rfl ?_
  refine own_laload X0 hx hZ (.long x1) e0 Vr ⟨by decide, by decide⟩ rfl (hb hby d8_27) ?_
  refine own_lstore (l' := #[.val (.ref ra), .val (.int (0 : Int32)), .val (.int (2 : Int32)), .val (.long r), .second, .val (.int (1 : Int32)), .val (.int (1 : Int32)), .val (.int (1 : Int32)), .val (.long x1), .second]) X0 hx (hb hby d8_28) rfl ?_
  refine own_lload X0 hx (hb hby d8_30) rfl ?_
  refine own_lloadN X0 hx (hb hby d8_32) rfl ?_
  refine own_lcmp X0 hx (hb hby d8_33) ?_
  refine own_ifYes X0 hx 46 (hb hby d8_34) (flt (fun q => (own_asym hq1) ((lw_lt x1 r).mp q))).2.1 (by decide) (by decide) ?_
  refine own_lload X0 hx (hb hby d8_46) rfl ?_
  refine own_lloadN X0 hx (hb hby d8_48) rfl ?_
  refine own_lcmp X0 hx (hb hby d8_49) ?_
  refine own_ifNo X0 hx (hb hby d8_50) (tlt ((lw_gt x1 r).mpr hq1)).2.2.2 ?_
  refine own_iload X0 hx (hb hby d8_53) rfl ?_
  refine own_iconst X0 hx (1 : Int32) (hb hby d8_55) rfl ?_
  refine own_isub X0 hx (hb hby d8_56) ?_
  rw [show ((1 : Int32) - (1 : Int32)) = (0 : Int32) from by decide]
  refine own_istore (l' := #[.val (.ref ra), .val (.int (0 : Int32)), .val (.int (2 : Int32)), .val (.long r), .second, .val (.int (1 : Int32)), .val (.int (0 : Int32)), .val (.int (1 : Int32)), .val (.long x1), .second]) X0 hx (hb hby d8_57) rfl ?_
  refine own_goto X0 hx 65 (hb hby d8_59) (by decide) (by decide) ?_
  refine own_goto X0 hx 8 (hb hby d8_65) (by decide) (by decide) ?_
  refine own_iload X0 hx (hb hby d8_8) rfl ?_
  refine own_iload X0 hx (hb hby d8_10) rfl ?_
  refine own_icmpYes X0 hx 68 (hb hby d8_12) (tlt (by decide : (0 : Int32) < (1 : Int32))).2.2.1 (by decide) (by decide) ?_
  refine own_iload X0 hx (hb hby d8_68) rfl ?_
  refine own_iconst X0 hx (1 : Int32) (hb hby d8_70) rfl ?_
  refine own_iadd X0 hx (hb hby d8_71) ?_
  rw [show ((1 : Int32) + (1 : Int32)) = (2 : Int32) from by decide]
  refine own_ineg X0 hx (hb hby d8_72) ?_
  refine own_retI X0 hx hlk hret (hb hby d8_73) (by decide) (by decide) ?_
  try rw [e0]
  exact ⟨rfl, N0, rfl⟩
set_option maxRecDepth 65536 in
set_option maxHeartbeats 40000000 in
theorem rmBS_2_ins1 (l : Launch) (Z : State) (a0 : Array Value) (hw : ∀ d ∈ tables_1, d.before a0 Z = true) (ws : List Jvm.Cond) (ra : Addr) (kr : ClassId) (r x0 x1 : Int64)  (h0 : Heap) (n0 : Nat) (Z0 : n0 ≤ h0.size) (Vr : Arv Z h0 ra kr .long (16 : Int32) [(.long x0), (.long x1), (.long (0 : Int64)), (.long (0 : Int64)), (.long (0 : Int64)), (.long (0 : Int64)), (.long (0 : Int64)), (.long (0 : Int64)), (.long (0 : Int64)), (.long (0 : Int64)), (.long (0 : Int64)), (.long (0 : Int64)), (.long (0 : Int64)), (.long (0 : Int64)), (.long (0 : Int64)), (.long (0 : Int64))] (.long (0 : Int64))) (hq0 : x0 < r) (hq1 : r < x1) :
    own_Met l (⟨"java/util/Arrays", "binarySearch", "([JIIJ)I"⟩ : MethodName) jdk_65_method_55_code 5 (some .int) ws ({ frames := 1, cells := 0, slots := 0, locals := 21 } : Room) Z #[(.ref ra), (.int (0 : Int32)), (.int (2 : Int32)), (.long r)] h0 (fun v h L => v = some (.int (-2 : Int32)) ∧ Fr n0 L ∧ h = h0) := by
  refine own_body (plainFor_of_name pn_2) ?_
  intro p e s m below meth c s₁ X0 hx hby hml hown hnm hret hlk hZ e0
  replace hown : s.vm.findClass "java/util/Arrays" = some m.cls := hown
  replace hml : c.maxLocals = 5 := hml
  replace hret : meth.sig.returnType = (some .int) := hret
  have N0 := Fr.nil n0
  have ef : entryFrame m #[(.ref ra), (.int (0 : Int32)), (.int (2 : Int32)), (.long r)] 5 = mkF m 0 #[.val (.ref ra), .val (.int (0 : Int32)), .val (.int (2 : Int32)), .val (.long r), .second] [] := by first | (simp [entryFrame, mkF, argsToLocals, Value.category]; done) | rfl
  refine own_step (S' := (s₁.setTop (mkF m 0 #[.val (.ref ra), .val (.int (0 : Int32)), .val (.int (2 : Int32)), .val (.long r), .second] []))) (fun _ k => castTop ef k) ?_
  refine own_aloadN X0 hx (hb hby d6_0) rfl rfl ?_
  refine own_arraylength X0 hx hZ e0 (own_alnV Vr) (hb hby d6_1) ?_
  refine own_iloadN X0 hx (hb hby d6_2) rfl ?_
  refine own_iloadN X0 hx (hb hby d6_3) rfl ?_
  refine own_cStat (W := 0) (rest := []) X0 hx hZ [(.int (16 : Int32)), (.int (0 : Int32)), (.int (2 : Int32))] hown (hw _ (List.mem_of_getElem? (i := 43) rfl)) (hw _ (List.mem_of_getElem? (i := 44) rfl)) (by decide) (hw _ (List.mem_of_getElem? (i := 45) rfl)) (hw _ (List.mem_of_getElem? (i := 41) rfl)) e0 (rmRC_2 l Z a0 hw [] h0 n0 Z0) (by rw [hml]; rfl) (lenOf pd_1 rfl) rfl (Nat.le_of_eq rfl) (hb hby d6_4) (by decide) (by decide) (by decide) (by decide) fun v153 T153 L153 X153 hQ153 => ?_
  obtain ⟨rfl, N153q, e153⟩ := hQ153
  have N153 := Fr.app N0 N153q
  show own_At p e below s _ _ _ T153 m 7 _ []
  refine own_aloadN X153 hx (hb hby d6_7) rfl rfl ?_
  refine own_iloadN X153 hx (hb hby d6_8) rfl ?_
  refine own_iloadN X153 hx (hb hby d6_9) rfl ?_
  refine own_lloadN X153 hx (hb hby d6_10) rfl ?_
  refine own_cStat (W := 0) (rest := []) X153 hx hZ [(.ref ra), (.int (0 : Int32)), (.int (2 : Int32)), (.long r)] hown (hw _ (List.mem_of_getElem? (i := 46) rfl)) (hw _ (List.mem_of_getElem? (i := 47) rfl)) (by decide) (hw _ (List.mem_of_getElem? (i := 48) rfl)) (hw _ (List.mem_of_getElem? (i := 41) rfl)) e153 (rmB0_2_ins1 l Z a0 hw [] ra kr r x0 x1 h0 n0 Z0 Vr hq0 hq1) (by rw [hml]; rfl) (lenOf pd_2 rfl) rfl (Nat.le_of_eq rfl) (hb hby d6_11) (by decide) (by decide) (by decide) (by decide) fun v154 T154 L154 X154 hQ154 => ?_
  obtain ⟨rfl, N154q, e154⟩ := hQ154
  have N154 := Fr.app N153 N154q
  show own_At p e below s _ _ _ T154 m 14 _ [(.int (-2 : Int32))]
  refine own_retI X154 hx hlk hret (hb hby d6_14) (by decide) (by decide) ?_
  try rw [e154]
  exact ⟨rfl, N154, rfl⟩
set_option maxRecDepth 65536 in
set_option maxHeartbeats 40000000 in
theorem rmAt_2_ins1 (l : Launch) (Z : State) (a0 : Array Value) (hw : ∀ d ∈ tables_1, d.before a0 Z = true) (ws : List Jvm.Cond) (o ra la sd wB l0 l1 : Addr) (kr kl : ClassId) (r x0 x1 q1 : Int64)  (h0 : Heap) (n0 : Nat) (Z0 : n0 ≤ h0.size) (LD : own_Lad2 Z h0 o ra la sd kr kl x0 x1 l0 l1) (SB : Sta Z h0 "com/example/kurslot/kurslot/engine/Side" "BUY" "Lcom/example/kurslot/kurslot/engine/Side;" (.ref wB)) (hs : (sd = wB ∧ r = q1) ∨ (¬ sd = wB ∧ r = (-q1))) (g_o : n0 ≤ o) (g_ra : n0 ≤ ra) (g_la : n0 ≤ la) (hq0 : x0 < r) (hq1 : r < x1) :
    own_Met l (⟨"com/example/kurslot/kurslot/engine/PriceLadder", "levelAt", "(J)Lcom/example/kurslot/kurslot/engine/PriceLevel;"⟩ : MethodName) prog_27_method_7_code 7 (some (.object "com/example/kurslot/kurslot/engine/PriceLevel")) ws ({ frames := 2, cells := 1, slots := 2, locals := 50 } : Room) Z #[(.ref o), (.long q1)] h0 (fun v h L => ∃ b, v = some (.ref b) ∧ Fr n0 L ∧ Keep h0 h [o, ra, la] ∧ h0.size ≤ b ∧ own_Lad3 Z h o ra la sd kr kl x0 r x1 l0 b l1) := by
  refine own_body (plainFor_of_name pn_1) ?_
  intro p e s m below meth c s₁ X0 hx hby hml hown hnm hret hlk hZ e0
  replace hown : s.vm.findClass "com/example/kurslot/kurslot/engine/PriceLadder" = some m.cls := hown
  replace hml : c.maxLocals = 7 := hml
  replace hret : meth.sig.returnType = (some (.object "com/example/kurslot/kurslot/engine/PriceLevel")) := hret
  have N0 := Fr.nil n0
  have ef : entryFrame m #[(.ref o), (.long q1)] 7 = mkF m 0 #[.val (.ref o), .val (.long q1), .second, .unset, .unset, .unset, .unset] [] := by first | (simp [entryFrame, mkF, argsToLocals, Value.category]; done) | rfl
  refine own_step (S' := (s₁.setTop (mkF m 0 #[.val (.ref o), .val (.long q1), .second, .unset, .unset, .unset, .unset] []))) (fun _ k => castTop ef k) ?_
  obtain ⟨Eo, Fr_, Fl_, Fz_, Fs_, Era, Ela, Vr, Vl, Ov, El0, El1⟩ := LD
  refine own_aloadN X0 hx (hb hby d4_0) rfl rfl ?_
  refine own_lloadN X0 hx (hb hby d4_1) rfl ?_
  refine own_cPriv (W := 0) (rest := []) X0 hx hZ [(.long q1)] hown (hw _ (List.mem_of_getElem? (i := 31) rfl)) (hw _ (List.mem_of_getElem? (i := 32) rfl)) (hw _ (List.mem_of_getElem? (i := 33) rfl)) (hw _ (List.mem_of_getElem? (i := 6) rfl)) (by decide) (hw _ (List.mem_of_getElem? (i := 34) rfl)) (hw _ (List.mem_of_getElem? (i := 7) rfl)) e0 Eo (rmRank l Z a0 hw [] o sd wB r q1 h0 n0 Z0 Fs_ SB hs) (by rw [hml]; rfl) (lenOf pd_3 rfl) rfl (Nat.le_of_eq rfl) (hb hby d4_2) (by decide) (by decide) (by decide) (by decide) fun v155 T155 L155 X155 hQ155 => ?_
  obtain ⟨rfl, N155q, e155⟩ := hQ155
  have N155 := Fr.app N0 N155q
  show own_At p e below s _ _ _ T155 m 5 _ [(.long r)]
  refine own_lstoreN (l' := #[.val (.ref o), .val (.long q1), .second, .val (.long r), .second, .unset, .unset]) X155 hx (hb hby d4_5) rfl ?_
  refine own_aloadN X155 hx (hb hby d4_6) rfl rfl ?_
  refine own_getF X155 hx hZ hown (host := "") (Or.inl (hw _ (List.mem_of_getElem? (i := 18) rfl))) Via.refl e155 Fr_ (hb hby d4_7) fun T156 X156 e156 => ?_
  refine own_iconst X156 hx (0 : Int32) (hb hby d4_10) rfl ?_
  refine own_aloadN X156 hx (hb hby d4_11) rfl rfl ?_
  refine own_getF X156 hx hZ hown (host := "") (Or.inl (hw _ (List.mem_of_getElem? (i := 37) rfl))) Via.refl e156 Fz_ (hb hby d4_12) fun T157 X157 e157 => ?_
  refine own_lloadN X157 hx (hb hby d4_15) rfl ?_
  refine own_cStat (W := 0) (rest := []) X157 hx hZ [(.ref ra), (.int (0 : Int32)), (.int (2 : Int32)), (.long r)] hown (hw _ (List.mem_of_getElem? (i := 39) rfl)) (hw _ (List.mem_of_getElem? (i := 40) rfl)) (by decide) (hw _ (List.mem_of_getElem? (i := 42) rfl)) (hw _ (List.mem_of_getElem? (i := 41) rfl)) e157 (rmBS_2_ins1 l Z a0 hw [] ra kr r x0 x1 h0 n0 Z0 Vr hq0 hq1) (by rw [hml]; rfl) (lenOf pd_2 rfl) rfl (Nat.le_of_eq rfl) (hb hby d4_16) (by decide) (by decide) (by decide) (by decide) fun v158 T158 L158 X158 hQ158 => ?_
  obtain ⟨rfl, N158q, e158⟩ := hQ158
  have N158 := Fr.app N155 N158q
  show own_At p e below s _ _ _ T158 m 19 _ [(.int (-2 : Int32))]
  refine own_istore (l' := #[.val (.ref o), .val (.long q1), .second, .val (.long r), .second, .val (.int (-2 : Int32)), .unset]) X158 hx (hb hby d4_19) rfl ?_
  refine own_iload X158 hx (hb hby d4_21) rfl ?_
  refine own_ifYes X158 hx 34 (hb hby d4_23) (tlt (by decide : (-2 : Int32) < (0 : Int32))).1 (by decide) (by decide) ?_
  refine own_iload X158 hx (hb hby d4_34) rfl ?_
  refine own_ineg X158 hx (hb hby d4_36) ?_
  rw [show (-(-2 : Int32)) = (2 : Int32) from by decide]
  refine own_iconst X158 hx (1 : Int32) (hb hby d4_37) rfl ?_
  refine own_isub X158 hx (hb hby d4_38) ?_
  rw [show ((2 : Int32) - (1 : Int32)) = (1 : Int32) from by decide]
  refine own_istore (l' := #[.val (.ref o), .val (.long q1), .second, .val (.long r), .second, .val (.int (1 : Int32)), .unset]) X158 hx (hb hby d4_39) rfl ?_
  refine own_aloadN X158 hx (hb hby d4_41) rfl rfl ?_
  refine own_getF X158 hx hZ hown (host := "") (Or.inl (hw _ (List.mem_of_getElem? (i := 37) rfl))) Via.refl e158 Fz_ (hb hby d4_42) fun T159 X159 e159 => ?_
  refine own_aloadN X159 hx (hb hby d4_45) rfl rfl ?_
  refine own_getF X159 hx hZ hown (host := "") (Or.inl (hw _ (List.mem_of_getElem? (i := 18) rfl))) Via.refl e159 Fr_ (hb hby d4_46) fun T160 X160 e160 => ?_
  refine own_arraylength X160 hx hZ e160 (own_alnV Vr) (hb hby d4_49) ?_
  refine own_icmpYes X160 hx 90 (hb hby d4_50) (feq (by decide : ¬ ((2 : Int32) = (16 : Int32)))).2 (by decide) (by decide) ?_
  refine own_aloadN X160 hx (hb hby d4_90) rfl rfl ?_
  refine own_getF X160 hx hZ hown (host := "") (Or.inl (hw _ (List.mem_of_getElem? (i := 18) rfl))) Via.refl e160 Fr_ (hb hby d4_91) fun T161 X161 e161 => ?_
  refine own_iload X161 hx (hb hby d4_94) rfl ?_
  refine own_aloadN X161 hx (hb hby d4_96) rfl rfl ?_
  refine own_getF X161 hx hZ hown (host := "") (Or.inl (hw _ (List.mem_of_getElem? (i := 18) rfl))) Via.refl e161 Fr_ (hb hby d4_97) fun T162 X162 e162 => ?_
  refine own_iload X162 hx (hb hby d4_100) rfl ?_
  refine own_iconst X162 hx (1 : Int32) (hb hby d4_102) rfl ?_
  refine own_iadd X162 hx (hb hby d4_103) ?_
  rw [show ((1 : Int32) + (1 : Int32)) = (2 : Int32) from by decide]
  refine own_aloadN X162 hx (hb hby d4_104) rfl rfl ?_
  refine own_getF X162 hx hZ hown (host := "") (Or.inl (hw _ (List.mem_of_getElem? (i := 37) rfl))) Via.refl e162 Fz_ (hb hby d4_105) fun T163 X163 e163 => ?_
  refine own_iload X163 hx (hb hby d4_108) rfl ?_
  refine own_isub X163 hx (hb hby d4_110) ?_
  rw [show ((2 : Int32) - (1 : Int32)) = (1 : Int32) from by decide]
  obtain ⟨T164, h164, L164, X164, e164, N164, K164, V164', st164⟩ := cpA (us := [(.long x1)]) X163 hx hZ hown (hw _ (List.mem_of_getElem? (i := 49) rfl)) (hw _ (List.mem_of_getElem? (i := 52) rfl)) (hw _ (List.mem_of_getElem? (i := 50) rfl)) (hw _ (List.mem_of_getElem? (i := 51) rfl)) e163 Vr Vr (Or.inl ⟨rfl, rfl⟩) (by decide) (by decide) (by decide) (by decide) (by decide) rfl (Nat.le_of_ble_eq_true rfl) N158 g_ra (g := (mkF m 111 #[.val (.ref o), .val (.long q1), .second, .val (.long r), .second, .val (.int (1 : Int32)), .unset] [(.int (1 : Int32)), (.int (2 : Int32)), (.ref ra), (.int (1 : Int32)), (.ref ra)])) rfl (by rw [hml]; rfl) rfl (hb hby d4_111) (by decide) (W := 0) (by show 2 * 0 + _ ≤ _; exact Nat.le_of_eq rfl) (by decide)
  have V164 : Arv Z h164 ra kr .long (16 : Int32) [(.long x0), (.long x1), (.long x1), (.long (0 : Int64)), (.long (0 : Int64)), (.long (0 : Int64)), (.long (0 : Int64)), (.long (0 : Int64)), (.long (0 : Int64)), (.long (0 : Int64)), (.long (0 : Int64)), (.long (0 : Int64)), (.long (0 : Int64)), (.long (0 : Int64)), (.long (0 : Int64)), (.long (0 : Int64))] (.long (0 : Int64)) := V164'
  refine own_step (S' := (T164.setTop (mkF m 114 #[.val (.ref o), .val (.long q1), .second, .val (.long r), .second, .val (.int (1 : Int32)), .unset] []))) (fun _ k => st164 _ k) ?_
  refine own_aloadN X164 hx (hb hby d4_114) rfl rfl ?_
  refine own_getF X164 hx hZ hown (host := "") (Or.inl (hw _ (List.mem_of_getElem? (i := 22) rfl))) Via.refl e164 (Fld.keep Fl_ K164 (ninS (ne_exa Eo Era (by decide)) nin0)) (hb hby d4_115) fun T165 X165 e165 => ?_
  refine own_iload X165 hx (hb hby d4_118) rfl ?_
  refine own_aloadN X165 hx (hb hby d4_120) rfl rfl ?_
  refine own_getF X165 hx hZ hown (host := "") (Or.inl (hw _ (List.mem_of_getElem? (i := 22) rfl))) Via.refl e165 (Fld.keep Fl_ K164 (ninS (ne_exa Eo Era (by decide)) nin0)) (hb hby d4_121) fun T166 X166 e166 => ?_
  refine own_iload X166 hx (hb hby d4_124) rfl ?_
  refine own_iconst X166 hx (1 : Int32) (hb hby d4_126) rfl ?_
  refine own_iadd X166 hx (hb hby d4_127) ?_
  rw [show ((1 : Int32) + (1 : Int32)) = (2 : Int32) from by decide]
  refine own_aloadN X166 hx (hb hby d4_128) rfl rfl ?_
  refine own_getF X166 hx hZ hown (host := "") (Or.inl (hw _ (List.mem_of_getElem? (i := 37) rfl))) Via.refl e166 (Fld.keep Fz_ K164 (ninS (ne_exa Eo Era (by decide)) nin0)) (hb hby d4_129) fun T167 X167 e167 => ?_
  refine own_iload X167 hx (hb hby d4_132) rfl ?_
  refine own_isub X167 hx (hb hby d4_134) ?_
  rw [show ((2 : Int32) - (1 : Int32)) = (1 : Int32) from by decide]
  obtain ⟨T168, h168, L168, X168, e168, N168, K168, V168', st168⟩ := cpA (us := [(.ref l1)]) X167 hx hZ hown (hw _ (List.mem_of_getElem? (i := 49) rfl)) (hw _ (List.mem_of_getElem? (i := 52) rfl)) (hw _ (List.mem_of_getElem? (i := 50) rfl)) (hw _ (List.mem_of_getElem? (i := 51) rfl)) e167 (Arv.keep Vl K164 (ninS (ne_exa Ela Era (by decide)) nin0)) (Arv.keep Vl K164 (ninS (ne_exa Ela Era (by decide)) nin0)) (Or.inr ⟨rfl, rfl, ⟨own_sto (Arv.keep Vl K164 (ninS (ne_exa Ela Era (by decide)) nin0)) Ov (Exa.keep El1 K164), trivial⟩⟩) (by decide) (by decide) (by decide) (by decide) (by decide) rfl (Nat.le_of_ble_eq_true rfl) N164 g_la (g := (mkF m 135 #[.val (.ref o), .val (.long q1), .second, .val (.long r), .second, .val (.int (1 : Int32)), .unset] [(.int (1 : Int32)), (.int (2 : Int32)), (.ref la), (.int (1 : Int32)), (.ref la)])) rfl (by rw [hml]; rfl) rfl (hb hby d4_135) (by decide) (W := 0) (by show 2 * 0 + _ ≤ _; exact Nat.le_of_eq rfl) (by decide)
  have V168 : Arv Z h168 la kl (.object "com/example/kurslot/kurslot/engine/PriceLevel") (16 : Int32) [(.ref l0), (.ref l1), (.ref l1), .null, .null, .null, .null, .null, .null, .null, .null, .null, .null, .null, .null, .null] .null := V168'
  refine own_step (S' := (T168.setTop (mkF m 138 #[.val (.ref o), .val (.long q1), .second, .val (.long r), .second, .val (.int (1 : Int32)), .unset] []))) (fun _ k => st168 _ k) ?_
  refine own_newO X168 hx hZ hown (hw _ (List.mem_of_getElem? (i := 20) rfl)) (hw _ (List.mem_of_getElem? (i := 53) rfl)) (hw _ (List.mem_of_getElem? (i := 54) rfl)) e168 (hb hby d4_138) (by decide) (by decide) fun T169 h169 b169 g169 X169 e169 E169 A169 D169 => ?_
  have g_b169 : n0 ≤ b169 := Nat.le_trans (Nat.le_trans (Nat.le_trans Z0 K164.1) K168.1) (Nat.le_of_eq g169.symm)
  have szo_b169 : h0.size ≤ b169 := Nat.le_trans (Nat.le_trans (Nat.le_trans (Nat.le_refl h0.size) K164.1) K168.1) (Nat.le_of_eq g169.symm)
  refine own_dup X169 hx (hb hby d4_141) rfl ?_
  refine own_cSpec (b := b169) (W := 1) (rest := [(.ref b169)]) X169 hx hZ [] rfl hown (hw _ (List.mem_of_getElem? (i := 55) rfl)) (hw _ (List.mem_of_getElem? (i := 56) rfl)) (by decide) (hw _ (List.mem_of_getElem? (i := 57) rfl)) (hw _ (List.mem_of_getElem? (i := 54) rfl)) e169 (rmPLI l Z a0 hw [] b169 h169 n0 (Nat.le_trans (Nat.le_trans (Nat.le_trans Z0 K164.1) K168.1) E169.1)) (by rw [hml]; rfl) (lenOf pd_4 rfl) rfl (Nat.le_of_eq rfl) (hb hby d4_142) (by decide) (by decide) (by decide) (by decide) fun v170 T170 L170 X170 hQ170 => ?_
  obtain ⟨rfl, N170q, e170⟩ := hQ170
  have N170 := Fr.app N168 N170q
  show own_At p e below s _ _ _ T170 m 145 _ [(.ref b169)]
  refine own_astore (l' := #[.val (.ref o), .val (.long q1), .second, .val (.long r), .second, .val (.int (1 : Int32)), .val (.ref b169)]) X170 hx (hb hby d4_145) rfl rfl ?_
  refine own_aloadN X170 hx (hb hby d4_147) rfl rfl ?_
  refine own_getF X170 hx hZ hown (host := "") (Or.inl (hw _ (List.mem_of_getElem? (i := 18) rfl))) Via.refl e170 (Fld.ext E169 (Fld.keep (Fld.keep Fr_ K164 (ninS (ne_exa Eo Era (by decide)) nin0)) K168 (ninS (ne_exa Eo Ela (by decide)) nin0))) (hb hby d4_148) fun T171 X171 e171 => ?_
  refine own_iload X171 hx (hb hby d4_151) rfl ?_
  refine own_lloadN X171 hx (hb hby d4_153) rfl ?_
  refine own_stJ (vs' := [(.long x0), (.long r), (.long x1), (.long (0 : Int64)), (.long (0 : Int64)), (.long (0 : Int64)), (.long (0 : Int64)), (.long (0 : Int64)), (.long (0 : Int64)), (.long (0 : Int64)), (.long (0 : Int64)), (.long (0 : Int64)), (.long (0 : Int64)), (.long (0 : Int64)), (.long (0 : Int64)), (.long (0 : Int64))]) (w := (.long r)) X171 hx hZ e171 ((Arv.keep V164 K168 (ninS (ne_exa Era Ela (by decide)) nin0)).ext E169) ⟨by decide, by decide⟩ 1 rfl (Nat.le_of_ble_eq_true rfl) rfl rfl (hb hby d4_154) fun T172 h172 X172 e172 W172 V172 => ?_
  have N172 := Fr.snoc X172 N170 g_ra
  refine own_aloadN X172 hx (hb hby d4_155) rfl rfl ?_
  refine own_getF X172 hx hZ hown (host := "") (Or.inl (hw _ (List.mem_of_getElem? (i := 22) rfl))) Via.refl e172 (Fld.other W172 (Fld.ext E169 (Fld.keep (Fld.keep Fl_ K164 (ninS (ne_exa Eo Era (by decide)) nin0)) K168 (ninS (ne_exa Eo Ela (by decide)) nin0))) (Or.inl (ne_exa Eo Era (by decide)))) (hb hby d4_156) fun T173 X173 e173 => ?_
  refine own_iload X173 hx (hb hby d4_159) rfl ?_
  refine own_aload X173 hx (hb hby d4_161) rfl rfl ?_
  refine own_stR (vs' := [(.ref l0), (.ref b169), (.ref l1), .null, .null, .null, .null, .null, .null, .null, .null, .null, .null, .null, .null, .null]) X173 hx hZ e173 (Arv.other (V168.ext E169) W172 (ne_exa Ela Era (by decide))) ⟨by decide, by decide⟩ 1 rfl (Nat.le_of_ble_eq_true rfl) rfl (Or.inr ⟨_, rfl, Ov, Ins.self (Exa.wr W172 A169)⟩) rfl (hb hby d4_163) fun T174 h174 X174 e174 W174 V174 => ?_
  have N174 := Fr.snoc X174 N172 g_la
  refine own_aloadN X174 hx (hb hby d4_164) rfl rfl ?_
  refine own_dup X174 hx (hb hby d4_165) rfl ?_
  refine own_getF X174 hx hZ hown (host := "") (Or.inl (hw _ (List.mem_of_getElem? (i := 37) rfl))) Via.refl e174 (Fld.other W174 (Fld.other W172 (Fld.ext E169 (Fld.keep (Fld.keep Fz_ K164 (ninS (ne_exa Eo Era (by decide)) nin0)) K168 (ninS (ne_exa Eo Ela (by decide)) nin0))) (Or.inl (ne_exa Eo Era (by decide)))) (Or.inl (ne_exa Eo Ela (by decide)))) (hb hby d4_166) fun T175 X175 e175 => ?_
  refine own_iconst X175 hx (1 : Int32) (hb hby d4_169) rfl ?_
  refine own_iadd X175 hx (hb hby d4_170) ?_
  rw [show ((2 : Int32) + (1 : Int32)) = (3 : Int32) from by decide]
  refine own_putF X175 hx hZ hown (host := "") (Or.inl (hw _ (List.mem_of_getElem? (i := 37) rfl))) Via.refl e175 (Fld.other W174 (Fld.other W172 (Fld.ext E169 (Fld.keep (Fld.keep Fz_ K164 (ninS (ne_exa Eo Era (by decide)) nin0)) K168 (ninS (ne_exa Eo Ela (by decide)) nin0))) (Or.inl (ne_exa Eo Era (by decide)))) (Or.inl (ne_exa Eo Ela (by decide)))) (Exa.wr W174 (Exa.wr W172 (Exa.ext E169 (Exa.keep (Exa.keep Eo K164) K168)))) (Or.inl (hw _ (List.mem_of_getElem? (i := 38) rfl))) (hw _ (List.mem_of_getElem? (i := 6) rfl)) (ty := .int) (by decide) rfl rfl (hb hby d4_171) fun T176 h176 X176 e176 W176 => ?_
  have Fw176 := Fld.same W176 (Fld.other W174 (Fld.other W172 (Fld.ext E169 (Fld.keep (Fld.keep Fz_ K164 (ninS (ne_exa Eo Era (by decide)) nin0)) K168 (ninS (ne_exa Eo Ela (by decide)) nin0))) (Or.inl (ne_exa Eo Era (by decide)))) (Or.inl (ne_exa Eo Ela (by decide))))
  have N176 := Fr.snoc X176 N174 g_o
  refine own_aload X176 hx (hb hby d4_174) rfl rfl ?_
  refine own_retA X176 hx hlk hret rfl rfl rfl (hb hby d4_176) (by decide) (by decide) ?_
  try rw [e176]
  exact ⟨b169, rfl, N176, (Keep.wr (Keep.wr (Keep.wr (Keep.ext (Keep.trans (Keep.trans (Keep.refl h0 [o, ra, la]) K164 (allS (Or.inl (List.mem_of_getElem? (i := 1) rfl)) all0)) K168 (allS (Or.inl (List.mem_of_getElem? (i := 2) rfl)) all0)) E169) W172 (Or.inl (List.mem_of_getElem? (i := 1) rfl))) W174 (Or.inl (List.mem_of_getElem? (i := 2) rfl))) W176 (Or.inl (List.mem_of_getElem? (i := 0) rfl))), szo_b169, ⟨(Exa.wr W176 (Exa.wr W174 (Exa.wr W172 (Exa.ext E169 (Exa.keep (Exa.keep Eo K164) K168))))), (Fld.other W176 (Fld.other W174 (Fld.other W172 (Fld.ext E169 (Fld.keep (Fld.keep Fr_ K164 (ninS (ne_exa Eo Era (by decide)) nin0)) K168 (ninS (ne_exa Eo Ela (by decide)) nin0))) (Or.inl (ne_exa Eo Era (by decide)))) (Or.inl (ne_exa Eo Ela (by decide)))) (Or.inr (slot_ne (Or.inl (hw _ (List.mem_of_getElem? (i := 19) rfl))) (Or.inl (hw _ (List.mem_of_getElem? (i := 38) rfl))) (by decide) (t := (.array .long)) (t' := .int) (by decide) (by decide)))), (Fld.other W176 (Fld.other W174 (Fld.other W172 (Fld.ext E169 (Fld.keep (Fld.keep Fl_ K164 (ninS (ne_exa Eo Era (by decide)) nin0)) K168 (ninS (ne_exa Eo Ela (by decide)) nin0))) (Or.inl (ne_exa Eo Era (by decide)))) (Or.inl (ne_exa Eo Ela (by decide)))) (Or.inr (slot_ne (Or.inl (hw _ (List.mem_of_getElem? (i := 23) rfl))) (Or.inl (hw _ (List.mem_of_getElem? (i := 38) rfl))) (by decide) (t := (.array (.object "com/example/kurslot/kurslot/engine/PriceLevel"))) (t' := .int) (by decide) (by decide)))), Fw176, (Fld.other W176 (Fld.other W174 (Fld.other W172 (Fld.ext E169 (Fld.keep (Fld.keep Fs_ K164 (ninS (ne_exa Eo Era (by decide)) nin0)) K168 (ninS (ne_exa Eo Ela (by decide)) nin0))) (Or.inl (ne_exa Eo Era (by decide)))) (Or.inl (ne_exa Eo Ela (by decide)))) (Or.inr (slot_ne (Or.inr (hw _ (List.mem_of_getElem? (i := 25) rfl))) (Or.inl (hw _ (List.mem_of_getElem? (i := 38) rfl))) (by decide) (t := (.object "com/example/kurslot/kurslot/engine/Side")) (t' := .int) (by decide) (by decide)))), (Exa.wr W176 (Exa.wr W174 (Exa.wr W172 (Exa.ext E169 (Exa.keep (Exa.keep Era K164) K168))))), (Exa.wr W176 (Exa.wr W174 (Exa.wr W172 (Exa.ext E169 (Exa.keep (Exa.keep Ela K164) K168))))), (Arv.other (Arv.other V172 W174 (ne_exa Era Ela (by decide))) W176 (ne_exa Era Eo (by decide))), (Arv.other V174 W176 (ne_exa Ela Eo (by decide))), Ov, (Exa.wr W176 (Exa.wr W174 (Exa.wr W172 (Exa.ext E169 (Exa.keep (Exa.keep El0 K164) K168))))), (Exa.wr W176 (Exa.wr W174 (Exa.wr W172 A169))), (Exa.wr W176 (Exa.wr W174 (Exa.wr W172 (Exa.ext E169 (Exa.keep (Exa.keep El1 K164) K168)))))⟩⟩
set_option maxRecDepth 65536 in
set_option maxHeartbeats 40000000 in
theorem rmB0_2_ins2 (l : Launch) (Z : State) (a0 : Array Value) (hw : ∀ d ∈ tables_1, d.before a0 Z = true) (ws : List Jvm.Cond) (ra : Addr) (kr : ClassId) (r x0 x1 : Int64)  (h0 : Heap) (n0 : Nat) (Z0 : n0 ≤ h0.size) (Vr : Arv Z h0 ra kr .long (16 : Int32) [(.long x0), (.long x1), (.long (0 : Int64)), (.long (0 : Int64)), (.long (0 : Int64)), (.long (0 : Int64)), (.long (0 : Int64)), (.long (0 : Int64)), (.long (0 : Int64)), (.long (0 : Int64)), (.long (0 : Int64)), (.long (0 : Int64)), (.long (0 : Int64)), (.long (0 : Int64)), (.long (0 : Int64)), (.long (0 : Int64))] (.long (0 : Int64))) (hq0 : x0 < r) (hq1 : x1 < r) :
    own_Met l (⟨"java/util/Arrays", "binarySearch0", "([JIIJ)I"⟩ : MethodName) jdk_65_method_56_code 10 (some .int) ws ({ frames := 0, cells := 0, slots := 0, locals := 0 } : Room) Z #[(.ref ra), (.int (0 : Int32)), (.int (2 : Int32)), (.long r)] h0 (fun v h L => v = some (.int (-3 : Int32)) ∧ Fr n0 L ∧ h = h0) := by
  refine own_body (plainFor_of_name pn_2) ?_
  intro p e s m below meth c s₁ X0 hx hby hml hown hnm hret hlk hZ e0
  replace hown : s.vm.findClass "java/util/Arrays" = some m.cls := hown
  replace hml : c.maxLocals = 10 := hml
  replace hret : meth.sig.returnType = (some .int) := hret
  have N0 := Fr.nil n0
  have ef : entryFrame m #[(.ref ra), (.int (0 : Int32)), (.int (2 : Int32)), (.long r)] 10 = mkF m 0 #[.val (.ref ra), .val (.int (0 : Int32)), .val (.int (2 : Int32)), .val (.long r), .second, .unset, .unset, .unset, .unset, .unset] [] := by first | (simp [entryFrame, mkF, argsToLocals, Value.category]; done) | rfl
  refine own_step (S' := (s₁.setTop (mkF m 0 #[.val (.ref ra), .val (.int (0 : Int32)), .val (.int (2 : Int32)), .val (.long r), .second, .unset, .unset, .unset, .unset, .unset] []))) (fun _ k => castTop ef k) ?_
  refine own_iloadN X0 hx (hb hby d8_0) rfl ?_
  refine own_istore (l' := #[.val (.ref ra), .val (.int (0 : Int32)), .val (.int (2 : Int32)), .val (.long r), .second, .val (.int (0 : Int32)), .unset, .unset, .unset, .unset]) X0 hx (hb hby d8_1) rfl ?_
  refine own_iloadN X0 hx (hb hby d8_3) rfl ?_
  refine own_iconst X0 hx (1 : Int32) (hb hby d8_4) rfl ?_
  refine own_isub X0 hx (hb hby d8_5) ?_
  rw [show ((2 : Int32) - (1 : Int32)) = (1 : Int32) from by decide]
  refine own_istore (l' := #[.val (.ref ra), .val (.int (0 : Int32)), .val (.int (2 : Int32)), .val (.long r), .second, .val (.int (0 : Int32)), .val (.int (1 : Int32)), .unset, .unset, .unset]) X0 hx (hb hby d8_6) rfl ?_
  refine own_iload X0 hx (hb hby d8_8) rfl ?_
  refine own_iload X0 hx (hb hby d8_10) rfl ?_
  refine own_icmpNo X0 hx (hb hby d8_12) (flt (by decide : ¬ ((1 : Int32) < (0 : Int32)))).2.2.1 ?_
  refine own_iload X0 hx (hb hby d8_15) rfl ?_
  refine own_iload X0 hx (hb hby d8_17) rfl ?_
  refine own_iadd X0 hx (hb hby d8_19) ?_
  rw [show ((0 : Int32) + (1 : Int32)) = (1 : Int32) from by decide]
  refine own_iconst X0 hx (1 : Int32) (hb hby d8_20) rfl ?_
  refine own_iushr X0 hx (hb hby d8_21) ?_
  rw [show (((1 : Int32).toUInt32 >>> ((1 : Int32) &&& 31).toUInt32).toInt32) = (0 : Int32) from by decide]
  refine own_istore (l' := #[.val (.ref ra), .val (.int (0 : Int32)), .val (.int (2 : Int32)), .val (.long r), .second, .val (.int (0 : Int32)), .val (.int (1 : Int32)), .val (.int (0 : Int32)), .unset, .unset]) X0 hx (hb hby d8_22) rfl ?_
  refine own_aloadN X0 hx (hb hby d8_24) rfl rfl ?_
  refine own_iload X0 hx (hb hby d8_25) rfl ?_
  refine own_laload X0 hx hZ (.long x0) e0 Vr ⟨by decide, by decide⟩ rfl (hb hby d8_27) ?_
  refine own_lstore (l' := #[.val (.ref ra), .val (.int (0 : Int32)), .val (.int (2 : Int32)), .val (.long r), .second, .val (.int (0 : Int32)), .val (.int (1 : Int32)), .val (.int (0 : Int32)), .val (.long x0), .second]) X0 hx (hb hby d8_28) rfl ?_
  refine own_lload X0 hx (hb hby d8_30) rfl ?_
  refine own_lloadN X0 hx (hb hby d8_32) rfl ?_
  refine own_lcmp X0 hx (hb hby d8_33) ?_
  refine own_ifNo X0 hx (hb hby d8_34) (tlt ((lw_lt x0 r).mpr hq0)).2.1 ?_
  refine own_iload X0 hx (hb hby d8_37) rfl ?_
  refine own_iconst X0 hx (1 : Int32) (hb hby d8_39) rfl ?_
  refine own_iadd X0 hx (hb hby d8_40) ?_
  rw [show ((0 : Int32) + (1 : Int32)) = (1 : Int32) from by decide]
  refine own_istore (l' := #[.val (.ref ra), .val (.int (0 : Int32)), .val (.int (2 : Int32)), .val (.long r), .second, .val (.int (1 : Int32)), .val (.int (1 : Int32)), .val (.int (0 : Int32)), .val (.long x0), .second]) X0 hx (hb hby d8_41) rfl ?_
  refine own_goto X0 hx 65 (hb hby d8_43) (by decide) (by decide) ?_
  refine own_goto X0 hx 8 (hb hby d8_65) (by decide) (by decide) ?_
  refine own_iload X0 hx (hb hby d8_8) rfl ?_
  refine own_iload X0 hx (hb hby d8_10) rfl ?_
  refine own_icmpNo X0 hx (hb hby d8_12) (flt (by decide : ¬ ((1 : Int32) < (1 : Int32)))).2.2.1 ?_
  refine own_iload X0 hx (hb hby d8_15) rfl ?_
  refine own_iload X0 hx (hb hby d8_17) rfl ?_
  refine own_iadd X0 hx (hb hby d8_19) ?_
  rw [show ((1 : Int32) + (1 : Int32)) = (2 : Int32) from by decide]
  refine own_iconst X0 hx (1 : Int32) (hb hby d8_20) rfl ?_
  refine own_iushr X0 hx (hb hby d8_21) ?_
  rw [show (((2 : Int32).toUInt32 >>> ((1 : Int32) &&& 31).toUInt32).toInt32) = (1 : Int32) from by decide]
  refine own_istore (l' := #[.val (.ref ra), .val (.int (0 : Int32)), .val (.int (2 : Int32)), .val (.long r), .second, .val (.int (1 : Int32)), .val (.int (1 : Int32)), .val (.int (1 : Int32)), .val (.long x0), .second]) X0 hx (hb hby d8_22) rfl ?_
  refine own_aloadN X0 hx (hb hby d8_24) rfl rfl ?_
  refine own_iload X0 hx (hb hby d8_25) rfl ?_
  refine own_laload X0 hx hZ (.long x1) e0 Vr ⟨by decide, by decide⟩ rfl (hb hby d8_27) ?_
  refine own_lstore (l' := #[.val (.ref ra), .val (.int (0 : Int32)), .val (.int (2 : Int32)), .val (.long r), .second, .val (.int (1 : Int32)), .val (.int (1 : Int32)), .val (.int (1 : Int32)), .val (.long x1), .second]) X0 hx (hb hby d8_28) rfl ?_
  refine own_lload X0 hx (hb hby d8_30) rfl ?_
  refine own_lloadN X0 hx (hb hby d8_32) rfl ?_
  refine own_lcmp X0 hx (hb hby d8_33) ?_
  refine own_ifNo X0 hx (hb hby d8_34) (tlt ((lw_lt x1 r).mpr hq1)).2.1 ?_
  refine own_iload X0 hx (hb hby d8_37) rfl ?_
  refine own_iconst X0 hx (1 : Int32) (hb hby d8_39) rfl ?_
  refine own_iadd X0 hx (hb hby d8_40) ?_
  rw [show ((1 : Int32) + (1 : Int32)) = (2 : Int32) from by decide]
  refine own_istore (l' := #[.val (.ref ra), .val (.int (0 : Int32)), .val (.int (2 : Int32)), .val (.long r), .second, .val (.int (2 : Int32)), .val (.int (1 : Int32)), .val (.int (1 : Int32)), .val (.long x1), .second]) X0 hx (hb hby d8_41) rfl ?_
  refine own_goto X0 hx 65 (hb hby d8_43) (by decide) (by decide) ?_
  refine own_goto X0 hx 8 (hb hby d8_65) (by decide) (by decide) ?_
  refine own_iload X0 hx (hb hby d8_8) rfl ?_
  refine own_iload X0 hx (hb hby d8_10) rfl ?_
  refine own_icmpYes X0 hx 68 (hb hby d8_12) (tlt (by decide : (1 : Int32) < (2 : Int32))).2.2.1 (by decide) (by decide) ?_
  refine own_iload X0 hx (hb hby d8_68) rfl ?_
  refine own_iconst X0 hx (1 : Int32) (hb hby d8_70) rfl ?_
  refine own_iadd X0 hx (hb hby d8_71) ?_
  rw [show ((2 : Int32) + (1 : Int32)) = (3 : Int32) from by decide]
  refine own_ineg X0 hx (hb hby d8_72) ?_
  refine own_retI X0 hx hlk hret (hb hby d8_73) (by decide) (by decide) ?_
  try rw [e0]
  exact ⟨rfl, N0, rfl⟩
set_option maxRecDepth 65536 in
set_option maxHeartbeats 40000000 in
theorem rmBS_2_ins2 (l : Launch) (Z : State) (a0 : Array Value) (hw : ∀ d ∈ tables_1, d.before a0 Z = true) (ws : List Jvm.Cond) (ra : Addr) (kr : ClassId) (r x0 x1 : Int64)  (h0 : Heap) (n0 : Nat) (Z0 : n0 ≤ h0.size) (Vr : Arv Z h0 ra kr .long (16 : Int32) [(.long x0), (.long x1), (.long (0 : Int64)), (.long (0 : Int64)), (.long (0 : Int64)), (.long (0 : Int64)), (.long (0 : Int64)), (.long (0 : Int64)), (.long (0 : Int64)), (.long (0 : Int64)), (.long (0 : Int64)), (.long (0 : Int64)), (.long (0 : Int64)), (.long (0 : Int64)), (.long (0 : Int64)), (.long (0 : Int64))] (.long (0 : Int64))) (hq0 : x0 < r) (hq1 : x1 < r) :
    own_Met l (⟨"java/util/Arrays", "binarySearch", "([JIIJ)I"⟩ : MethodName) jdk_65_method_55_code 5 (some .int) ws ({ frames := 1, cells := 0, slots := 0, locals := 21 } : Room) Z #[(.ref ra), (.int (0 : Int32)), (.int (2 : Int32)), (.long r)] h0 (fun v h L => v = some (.int (-3 : Int32)) ∧ Fr n0 L ∧ h = h0) := by
  refine own_body (plainFor_of_name pn_2) ?_
  intro p e s m below meth c s₁ X0 hx hby hml hown hnm hret hlk hZ e0
  replace hown : s.vm.findClass "java/util/Arrays" = some m.cls := hown
  replace hml : c.maxLocals = 5 := hml
  replace hret : meth.sig.returnType = (some .int) := hret
  have N0 := Fr.nil n0
  have ef : entryFrame m #[(.ref ra), (.int (0 : Int32)), (.int (2 : Int32)), (.long r)] 5 = mkF m 0 #[.val (.ref ra), .val (.int (0 : Int32)), .val (.int (2 : Int32)), .val (.long r), .second] [] := by first | (simp [entryFrame, mkF, argsToLocals, Value.category]; done) | rfl
  refine own_step (S' := (s₁.setTop (mkF m 0 #[.val (.ref ra), .val (.int (0 : Int32)), .val (.int (2 : Int32)), .val (.long r), .second] []))) (fun _ k => castTop ef k) ?_
  refine own_aloadN X0 hx (hb hby d6_0) rfl rfl ?_
  refine own_arraylength X0 hx hZ e0 (own_alnV Vr) (hb hby d6_1) ?_
  refine own_iloadN X0 hx (hb hby d6_2) rfl ?_
  refine own_iloadN X0 hx (hb hby d6_3) rfl ?_
  refine own_cStat (W := 0) (rest := []) X0 hx hZ [(.int (16 : Int32)), (.int (0 : Int32)), (.int (2 : Int32))] hown (hw _ (List.mem_of_getElem? (i := 43) rfl)) (hw _ (List.mem_of_getElem? (i := 44) rfl)) (by decide) (hw _ (List.mem_of_getElem? (i := 45) rfl)) (hw _ (List.mem_of_getElem? (i := 41) rfl)) e0 (rmRC_2 l Z a0 hw [] h0 n0 Z0) (by rw [hml]; rfl) (lenOf pd_1 rfl) rfl (Nat.le_of_eq rfl) (hb hby d6_4) (by decide) (by decide) (by decide) (by decide) fun v177 T177 L177 X177 hQ177 => ?_
  obtain ⟨rfl, N177q, e177⟩ := hQ177
  have N177 := Fr.app N0 N177q
  show own_At p e below s _ _ _ T177 m 7 _ []
  refine own_aloadN X177 hx (hb hby d6_7) rfl rfl ?_
  refine own_iloadN X177 hx (hb hby d6_8) rfl ?_
  refine own_iloadN X177 hx (hb hby d6_9) rfl ?_
  refine own_lloadN X177 hx (hb hby d6_10) rfl ?_
  refine own_cStat (W := 0) (rest := []) X177 hx hZ [(.ref ra), (.int (0 : Int32)), (.int (2 : Int32)), (.long r)] hown (hw _ (List.mem_of_getElem? (i := 46) rfl)) (hw _ (List.mem_of_getElem? (i := 47) rfl)) (by decide) (hw _ (List.mem_of_getElem? (i := 48) rfl)) (hw _ (List.mem_of_getElem? (i := 41) rfl)) e177 (rmB0_2_ins2 l Z a0 hw [] ra kr r x0 x1 h0 n0 Z0 Vr hq0 hq1) (by rw [hml]; rfl) (lenOf pd_2 rfl) rfl (Nat.le_of_eq rfl) (hb hby d6_11) (by decide) (by decide) (by decide) (by decide) fun v178 T178 L178 X178 hQ178 => ?_
  obtain ⟨rfl, N178q, e178⟩ := hQ178
  have N178 := Fr.app N177 N178q
  show own_At p e below s _ _ _ T178 m 14 _ [(.int (-3 : Int32))]
  refine own_retI X178 hx hlk hret (hb hby d6_14) (by decide) (by decide) ?_
  try rw [e178]
  exact ⟨rfl, N178, rfl⟩
set_option maxRecDepth 65536 in
set_option maxHeartbeats 40000000 in
theorem rmAt_2_ins2 (l : Launch) (Z : State) (a0 : Array Value) (hw : ∀ d ∈ tables_1, d.before a0 Z = true) (ws : List Jvm.Cond) (o ra la sd wB l0 l1 : Addr) (kr kl : ClassId) (r x0 x1 q1 : Int64)  (h0 : Heap) (n0 : Nat) (Z0 : n0 ≤ h0.size) (LD : own_Lad2 Z h0 o ra la sd kr kl x0 x1 l0 l1) (SB : Sta Z h0 "com/example/kurslot/kurslot/engine/Side" "BUY" "Lcom/example/kurslot/kurslot/engine/Side;" (.ref wB)) (hs : (sd = wB ∧ r = q1) ∨ (¬ sd = wB ∧ r = (-q1))) (g_o : n0 ≤ o) (g_ra : n0 ≤ ra) (g_la : n0 ≤ la) (hq0 : x0 < r) (hq1 : x1 < r) :
    own_Met l (⟨"com/example/kurslot/kurslot/engine/PriceLadder", "levelAt", "(J)Lcom/example/kurslot/kurslot/engine/PriceLevel;"⟩ : MethodName) prog_27_method_7_code 7 (some (.object "com/example/kurslot/kurslot/engine/PriceLevel")) ws ({ frames := 2, cells := 1, slots := 2, locals := 50 } : Room) Z #[(.ref o), (.long q1)] h0 (fun v h L => ∃ b, v = some (.ref b) ∧ Fr n0 L ∧ Keep h0 h [o, ra, la] ∧ h0.size ≤ b ∧ own_Lad3 Z h o ra la sd kr kl x0 x1 r l0 l1 b) := by
  refine own_body (plainFor_of_name pn_1) ?_
  intro p e s m below meth c s₁ X0 hx hby hml hown hnm hret hlk hZ e0
  replace hown : s.vm.findClass "com/example/kurslot/kurslot/engine/PriceLadder" = some m.cls := hown
  replace hml : c.maxLocals = 7 := hml
  replace hret : meth.sig.returnType = (some (.object "com/example/kurslot/kurslot/engine/PriceLevel")) := hret
  have N0 := Fr.nil n0
  have ef : entryFrame m #[(.ref o), (.long q1)] 7 = mkF m 0 #[.val (.ref o), .val (.long q1), .second, .unset, .unset, .unset, .unset] [] := by first | (simp [entryFrame, mkF, argsToLocals, Value.category]; done) | rfl
  refine own_step (S' := (s₁.setTop (mkF m 0 #[.val (.ref o), .val (.long q1), .second, .unset, .unset, .unset, .unset] []))) (fun _ k => castTop ef k) ?_
  obtain ⟨Eo, Fr_, Fl_, Fz_, Fs_, Era, Ela, Vr, Vl, Ov, El0, El1⟩ := LD
  refine own_aloadN X0 hx (hb hby d4_0) rfl rfl ?_
  refine own_lloadN X0 hx (hb hby d4_1) rfl ?_
  refine own_cPriv (W := 0) (rest := []) X0 hx hZ [(.long q1)] hown (hw _ (List.mem_of_getElem? (i := 31) rfl)) (hw _ (List.mem_of_getElem? (i := 32) rfl)) (hw _ (List.mem_of_getElem? (i := 33) rfl)) (hw _ (List.mem_of_getElem? (i := 6) rfl)) (by decide) (hw _ (List.mem_of_getElem? (i := 34) rfl)) (hw _ (List.mem_of_getElem? (i := 7) rfl)) e0 Eo (rmRank l Z a0 hw [] o sd wB r q1 h0 n0 Z0 Fs_ SB hs) (by rw [hml]; rfl) (lenOf pd_3 rfl) rfl (Nat.le_of_eq rfl) (hb hby d4_2) (by decide) (by decide) (by decide) (by decide) fun v179 T179 L179 X179 hQ179 => ?_
  obtain ⟨rfl, N179q, e179⟩ := hQ179
  have N179 := Fr.app N0 N179q
  show own_At p e below s _ _ _ T179 m 5 _ [(.long r)]
  refine own_lstoreN (l' := #[.val (.ref o), .val (.long q1), .second, .val (.long r), .second, .unset, .unset]) X179 hx (hb hby d4_5) rfl ?_
  refine own_aloadN X179 hx (hb hby d4_6) rfl rfl ?_
  refine own_getF X179 hx hZ hown (host := "") (Or.inl (hw _ (List.mem_of_getElem? (i := 18) rfl))) Via.refl e179 Fr_ (hb hby d4_7) fun T180 X180 e180 => ?_
  refine own_iconst X180 hx (0 : Int32) (hb hby d4_10) rfl ?_
  refine own_aloadN X180 hx (hb hby d4_11) rfl rfl ?_
  refine own_getF X180 hx hZ hown (host := "") (Or.inl (hw _ (List.mem_of_getElem? (i := 37) rfl))) Via.refl e180 Fz_ (hb hby d4_12) fun T181 X181 e181 => ?_
  refine own_lloadN X181 hx (hb hby d4_15) rfl ?_
  refine own_cStat (W := 0) (rest := []) X181 hx hZ [(.ref ra), (.int (0 : Int32)), (.int (2 : Int32)), (.long r)] hown (hw _ (List.mem_of_getElem? (i := 39) rfl)) (hw _ (List.mem_of_getElem? (i := 40) rfl)) (by decide) (hw _ (List.mem_of_getElem? (i := 42) rfl)) (hw _ (List.mem_of_getElem? (i := 41) rfl)) e181 (rmBS_2_ins2 l Z a0 hw [] ra kr r x0 x1 h0 n0 Z0 Vr hq0 hq1) (by rw [hml]; rfl) (lenOf pd_2 rfl) rfl (Nat.le_of_eq rfl) (hb hby d4_16) (by decide) (by decide) (by decide) (by decide) fun v182 T182 L182 X182 hQ182 => ?_
  obtain ⟨rfl, N182q, e182⟩ := hQ182
  have N182 := Fr.app N179 N182q
  show own_At p e below s _ _ _ T182 m 19 _ [(.int (-3 : Int32))]
  refine own_istore (l' := #[.val (.ref o), .val (.long q1), .second, .val (.long r), .second, .val (.int (-3 : Int32)), .unset]) X182 hx (hb hby d4_19) rfl ?_
  refine own_iload X182 hx (hb hby d4_21) rfl ?_
  refine own_ifYes X182 hx 34 (hb hby d4_23) (tlt (by decide : (-3 : Int32) < (0 : Int32))).1 (by decide) (by decide) ?_
  refine own_iload X182 hx (hb hby d4_34) rfl ?_
  refine own_ineg X182 hx (hb hby d4_36) ?_
  rw [show (-(-3 : Int32)) = (3 : Int32) from by decide]
  refine own_iconst X182 hx (1 : Int32) (hb hby d4_37) rfl ?_
  refine own_isub X182 hx (hb hby d4_38) ?_
  rw [show ((3 : Int32) - (1 : Int32)) = (2 : Int32) from by decide]
  refine own_istore (l' := #[.val (.ref o), .val (.long q1), .second, .val (.long r), .second, .val (.int (2 : Int32)), .unset]) X182 hx (hb hby d4_39) rfl ?_
  refine own_aloadN X182 hx (hb hby d4_41) rfl rfl ?_
  refine own_getF X182 hx hZ hown (host := "") (Or.inl (hw _ (List.mem_of_getElem? (i := 37) rfl))) Via.refl e182 Fz_ (hb hby d4_42) fun T183 X183 e183 => ?_
  refine own_aloadN X183 hx (hb hby d4_45) rfl rfl ?_
  refine own_getF X183 hx hZ hown (host := "") (Or.inl (hw _ (List.mem_of_getElem? (i := 18) rfl))) Via.refl e183 Fr_ (hb hby d4_46) fun T184 X184 e184 => ?_
  refine own_arraylength X184 hx hZ e184 (own_alnV Vr) (hb hby d4_49) ?_
  refine own_icmpYes X184 hx 90 (hb hby d4_50) (feq (by decide : ¬ ((2 : Int32) = (16 : Int32)))).2 (by decide) (by decide) ?_
  refine own_aloadN X184 hx (hb hby d4_90) rfl rfl ?_
  refine own_getF X184 hx hZ hown (host := "") (Or.inl (hw _ (List.mem_of_getElem? (i := 18) rfl))) Via.refl e184 Fr_ (hb hby d4_91) fun T185 X185 e185 => ?_
  refine own_iload X185 hx (hb hby d4_94) rfl ?_
  refine own_aloadN X185 hx (hb hby d4_96) rfl rfl ?_
  refine own_getF X185 hx hZ hown (host := "") (Or.inl (hw _ (List.mem_of_getElem? (i := 18) rfl))) Via.refl e185 Fr_ (hb hby d4_97) fun T186 X186 e186 => ?_
  refine own_iload X186 hx (hb hby d4_100) rfl ?_
  refine own_iconst X186 hx (1 : Int32) (hb hby d4_102) rfl ?_
  refine own_iadd X186 hx (hb hby d4_103) ?_
  rw [show ((2 : Int32) + (1 : Int32)) = (3 : Int32) from by decide]
  refine own_aloadN X186 hx (hb hby d4_104) rfl rfl ?_
  refine own_getF X186 hx hZ hown (host := "") (Or.inl (hw _ (List.mem_of_getElem? (i := 37) rfl))) Via.refl e186 Fz_ (hb hby d4_105) fun T187 X187 e187 => ?_
  refine own_iload X187 hx (hb hby d4_108) rfl ?_
  refine own_isub X187 hx (hb hby d4_110) ?_
  rw [show ((2 : Int32) - (2 : Int32)) = (0 : Int32) from by decide]
  obtain ⟨T188, h188, L188, X188, e188, N188, K188, V188', st188⟩ := cpA (us := []) X187 hx hZ hown (hw _ (List.mem_of_getElem? (i := 49) rfl)) (hw _ (List.mem_of_getElem? (i := 52) rfl)) (hw _ (List.mem_of_getElem? (i := 50) rfl)) (hw _ (List.mem_of_getElem? (i := 51) rfl)) e187 Vr Vr (Or.inl ⟨rfl, rfl⟩) (by decide) (by decide) (by decide) (by decide) (by decide) rfl (Nat.le_of_ble_eq_true rfl) N182 g_ra (g := (mkF m 111 #[.val (.ref o), .val (.long q1), .second, .val (.long r), .second, .val (.int (2 : Int32)), .unset] [(.int (0 : Int32)), (.int (3 : Int32)), (.ref ra), (.int (2 : Int32)), (.ref ra)])) rfl (by rw [hml]; rfl) rfl (hb hby d4_111) (by decide) (W := 0) (by show 2 * 0 + _ ≤ _; exact Nat.le_of_eq rfl) (by decide)
  have V188 : Arv Z h188 ra kr .long (16 : Int32) [(.long x0), (.long x1), (.long (0 : Int64)), (.long (0 : Int64)), (.long (0 : Int64)), (.long (0 : Int64)), (.long (0 : Int64)), (.long (0 : Int64)), (.long (0 : Int64)), (.long (0 : Int64)), (.long (0 : Int64)), (.long (0 : Int64)), (.long (0 : Int64)), (.long (0 : Int64)), (.long (0 : Int64)), (.long (0 : Int64))] (.long (0 : Int64)) := V188'
  refine own_step (S' := (T188.setTop (mkF m 114 #[.val (.ref o), .val (.long q1), .second, .val (.long r), .second, .val (.int (2 : Int32)), .unset] []))) (fun _ k => st188 _ k) ?_
  refine own_aloadN X188 hx (hb hby d4_114) rfl rfl ?_
  refine own_getF X188 hx hZ hown (host := "") (Or.inl (hw _ (List.mem_of_getElem? (i := 22) rfl))) Via.refl e188 (Fld.keep Fl_ K188 (ninS (ne_exa Eo Era (by decide)) nin0)) (hb hby d4_115) fun T189 X189 e189 => ?_
  refine own_iload X189 hx (hb hby d4_118) rfl ?_
  refine own_aloadN X189 hx (hb hby d4_120) rfl rfl ?_
  refine own_getF X189 hx hZ hown (host := "") (Or.inl (hw _ (List.mem_of_getElem? (i := 22) rfl))) Via.refl e189 (Fld.keep Fl_ K188 (ninS (ne_exa Eo Era (by decide)) nin0)) (hb hby d4_121) fun T190 X190 e190 => ?_
  refine own_iload X190 hx (hb hby d4_124) rfl ?_
  refine own_iconst X190 hx (1 : Int32) (hb hby d4_126) rfl ?_
  refine own_iadd X190 hx (hb hby d4_127) ?_
  rw [show ((2 : Int32) + (1 : Int32)) = (3 : Int32) from by decide]
  refine own_aloadN X190 hx (hb hby d4_128) rfl rfl ?_
  refine own_getF X190 hx hZ hown (host := "") (Or.inl (hw _ (List.mem_of_getElem? (i := 37) rfl))) Via.refl e190 (Fld.keep Fz_ K188 (ninS (ne_exa Eo Era (by decide)) nin0)) (hb hby d4_129) fun T191 X191 e191 => ?_
  refine own_iload X191 hx (hb hby d4_132) rfl ?_
  refine own_isub X191 hx (hb hby d4_134) ?_
  rw [show ((2 : Int32) - (2 : Int32)) = (0 : Int32) from by decide]
  obtain ⟨T192, h192, L192, X192, e192, N192, K192, V192', st192⟩ := cpA (us := []) X191 hx hZ hown (hw _ (List.mem_of_getElem? (i := 49) rfl)) (hw _ (List.mem_of_getElem? (i := 52) rfl)) (hw _ (List.mem_of_getElem? (i := 50) rfl)) (hw _ (List.mem_of_getElem? (i := 51) rfl)) e191 (Arv.keep Vl K188 (ninS (ne_exa Ela Era (by decide)) nin0)) (Arv.keep Vl K188 (ninS (ne_exa Ela Era (by decide)) nin0)) (Or.inr ⟨rfl, rfl, trivial⟩) (by decide) (by decide) (by decide) (by decide) (by decide) rfl (Nat.le_of_ble_eq_true rfl) N188 g_la (g := (mkF m 135 #[.val (.ref o), .val (.long q1), .second, .val (.long r), .second, .val (.int (2 : Int32)), .unset] [(.int (0 : Int32)), (.int (3 : Int32)), (.ref la), (.int (2 : Int32)), (.ref la)])) rfl (by rw [hml]; rfl) rfl (hb hby d4_135) (by decide) (W := 0) (by show 2 * 0 + _ ≤ _; exact Nat.le_of_eq rfl) (by decide)
  have V192 : Arv Z h192 la kl (.object "com/example/kurslot/kurslot/engine/PriceLevel") (16 : Int32) [(.ref l0), (.ref l1), .null, .null, .null, .null, .null, .null, .null, .null, .null, .null, .null, .null, .null, .null] .null := V192'
  refine own_step (S' := (T192.setTop (mkF m 138 #[.val (.ref o), .val (.long q1), .second, .val (.long r), .second, .val (.int (2 : Int32)), .unset] []))) (fun _ k => st192 _ k) ?_
  refine own_newO X192 hx hZ hown (hw _ (List.mem_of_getElem? (i := 20) rfl)) (hw _ (List.mem_of_getElem? (i := 53) rfl)) (hw _ (List.mem_of_getElem? (i := 54) rfl)) e192 (hb hby d4_138) (by decide) (by decide) fun T193 h193 b193 g193 X193 e193 E193 A193 D193 => ?_
  have g_b193 : n0 ≤ b193 := Nat.le_trans (Nat.le_trans (Nat.le_trans Z0 K188.1) K192.1) (Nat.le_of_eq g193.symm)
  have szo_b193 : h0.size ≤ b193 := Nat.le_trans (Nat.le_trans (Nat.le_trans (Nat.le_refl h0.size) K188.1) K192.1) (Nat.le_of_eq g193.symm)
  refine own_dup X193 hx (hb hby d4_141) rfl ?_
  refine own_cSpec (b := b193) (W := 1) (rest := [(.ref b193)]) X193 hx hZ [] rfl hown (hw _ (List.mem_of_getElem? (i := 55) rfl)) (hw _ (List.mem_of_getElem? (i := 56) rfl)) (by decide) (hw _ (List.mem_of_getElem? (i := 57) rfl)) (hw _ (List.mem_of_getElem? (i := 54) rfl)) e193 (rmPLI l Z a0 hw [] b193 h193 n0 (Nat.le_trans (Nat.le_trans (Nat.le_trans Z0 K188.1) K192.1) E193.1)) (by rw [hml]; rfl) (lenOf pd_4 rfl) rfl (Nat.le_of_eq rfl) (hb hby d4_142) (by decide) (by decide) (by decide) (by decide) fun v194 T194 L194 X194 hQ194 => ?_
  obtain ⟨rfl, N194q, e194⟩ := hQ194
  have N194 := Fr.app N192 N194q
  show own_At p e below s _ _ _ T194 m 145 _ [(.ref b193)]
  refine own_astore (l' := #[.val (.ref o), .val (.long q1), .second, .val (.long r), .second, .val (.int (2 : Int32)), .val (.ref b193)]) X194 hx (hb hby d4_145) rfl rfl ?_
  refine own_aloadN X194 hx (hb hby d4_147) rfl rfl ?_
  refine own_getF X194 hx hZ hown (host := "") (Or.inl (hw _ (List.mem_of_getElem? (i := 18) rfl))) Via.refl e194 (Fld.ext E193 (Fld.keep (Fld.keep Fr_ K188 (ninS (ne_exa Eo Era (by decide)) nin0)) K192 (ninS (ne_exa Eo Ela (by decide)) nin0))) (hb hby d4_148) fun T195 X195 e195 => ?_
  refine own_iload X195 hx (hb hby d4_151) rfl ?_
  refine own_lloadN X195 hx (hb hby d4_153) rfl ?_
  refine own_stJ (vs' := [(.long x0), (.long x1), (.long r), (.long (0 : Int64)), (.long (0 : Int64)), (.long (0 : Int64)), (.long (0 : Int64)), (.long (0 : Int64)), (.long (0 : Int64)), (.long (0 : Int64)), (.long (0 : Int64)), (.long (0 : Int64)), (.long (0 : Int64)), (.long (0 : Int64)), (.long (0 : Int64)), (.long (0 : Int64))]) (w := (.long r)) X195 hx hZ e195 ((Arv.keep V188 K192 (ninS (ne_exa Era Ela (by decide)) nin0)).ext E193) ⟨by decide, by decide⟩ 2 rfl (Nat.le_of_ble_eq_true rfl) rfl rfl (hb hby d4_154) fun T196 h196 X196 e196 W196 V196 => ?_
  have N196 := Fr.snoc X196 N194 g_ra
  refine own_aloadN X196 hx (hb hby d4_155) rfl rfl ?_
  refine own_getF X196 hx hZ hown (host := "") (Or.inl (hw _ (List.mem_of_getElem? (i := 22) rfl))) Via.refl e196 (Fld.other W196 (Fld.ext E193 (Fld.keep (Fld.keep Fl_ K188 (ninS (ne_exa Eo Era (by decide)) nin0)) K192 (ninS (ne_exa Eo Ela (by decide)) nin0))) (Or.inl (ne_exa Eo Era (by decide)))) (hb hby d4_156) fun T197 X197 e197 => ?_
  refine own_iload X197 hx (hb hby d4_159) rfl ?_
  refine own_aload X197 hx (hb hby d4_161) rfl rfl ?_
  refine own_stR (vs' := [(.ref l0), (.ref l1), (.ref b193), .null, .null, .null, .null, .null, .null, .null, .null, .null, .null, .null, .null, .null]) X197 hx hZ e197 (Arv.other (V192.ext E193) W196 (ne_exa Ela Era (by decide))) ⟨by decide, by decide⟩ 2 rfl (Nat.le_of_ble_eq_true rfl) rfl (Or.inr ⟨_, rfl, Ov, Ins.self (Exa.wr W196 A193)⟩) rfl (hb hby d4_163) fun T198 h198 X198 e198 W198 V198 => ?_
  have N198 := Fr.snoc X198 N196 g_la
  refine own_aloadN X198 hx (hb hby d4_164) rfl rfl ?_
  refine own_dup X198 hx (hb hby d4_165) rfl ?_
  refine own_getF X198 hx hZ hown (host := "") (Or.inl (hw _ (List.mem_of_getElem? (i := 37) rfl))) Via.refl e198 (Fld.other W198 (Fld.other W196 (Fld.ext E193 (Fld.keep (Fld.keep Fz_ K188 (ninS (ne_exa Eo Era (by decide)) nin0)) K192 (ninS (ne_exa Eo Ela (by decide)) nin0))) (Or.inl (ne_exa Eo Era (by decide)))) (Or.inl (ne_exa Eo Ela (by decide)))) (hb hby d4_166) fun T199 X199 e199 => ?_
  refine own_iconst X199 hx (1 : Int32) (hb hby d4_169) rfl ?_
  refine own_iadd X199 hx (hb hby d4_170) ?_
  rw [show ((2 : Int32) + (1 : Int32)) = (3 : Int32) from by decide]
  refine own_putF X199 hx hZ hown (host := "") (Or.inl (hw _ (List.mem_of_getElem? (i := 37) rfl))) Via.refl e199 (Fld.other W198 (Fld.other W196 (Fld.ext E193 (Fld.keep (Fld.keep Fz_ K188 (ninS (ne_exa Eo Era (by decide)) nin0)) K192 (ninS (ne_exa Eo Ela (by decide)) nin0))) (Or.inl (ne_exa Eo Era (by decide)))) (Or.inl (ne_exa Eo Ela (by decide)))) (Exa.wr W198 (Exa.wr W196 (Exa.ext E193 (Exa.keep (Exa.keep Eo K188) K192)))) (Or.inl (hw _ (List.mem_of_getElem? (i := 38) rfl))) (hw _ (List.mem_of_getElem? (i := 6) rfl)) (ty := .int) (by decide) rfl rfl (hb hby d4_171) fun T200 h200 X200 e200 W200 => ?_
  have Fw200 := Fld.same W200 (Fld.other W198 (Fld.other W196 (Fld.ext E193 (Fld.keep (Fld.keep Fz_ K188 (ninS (ne_exa Eo Era (by decide)) nin0)) K192 (ninS (ne_exa Eo Ela (by decide)) nin0))) (Or.inl (ne_exa Eo Era (by decide)))) (Or.inl (ne_exa Eo Ela (by decide))))
  have N200 := Fr.snoc X200 N198 g_o
  refine own_aload X200 hx (hb hby d4_174) rfl rfl ?_
  refine own_retA X200 hx hlk hret rfl rfl rfl (hb hby d4_176) (by decide) (by decide) ?_
  try rw [e200]
  exact ⟨b193, rfl, N200, (Keep.wr (Keep.wr (Keep.wr (Keep.ext (Keep.trans (Keep.trans (Keep.refl h0 [o, ra, la]) K188 (allS (Or.inl (List.mem_of_getElem? (i := 1) rfl)) all0)) K192 (allS (Or.inl (List.mem_of_getElem? (i := 2) rfl)) all0)) E193) W196 (Or.inl (List.mem_of_getElem? (i := 1) rfl))) W198 (Or.inl (List.mem_of_getElem? (i := 2) rfl))) W200 (Or.inl (List.mem_of_getElem? (i := 0) rfl))), szo_b193, ⟨(Exa.wr W200 (Exa.wr W198 (Exa.wr W196 (Exa.ext E193 (Exa.keep (Exa.keep Eo K188) K192))))), (Fld.other W200 (Fld.other W198 (Fld.other W196 (Fld.ext E193 (Fld.keep (Fld.keep Fr_ K188 (ninS (ne_exa Eo Era (by decide)) nin0)) K192 (ninS (ne_exa Eo Ela (by decide)) nin0))) (Or.inl (ne_exa Eo Era (by decide)))) (Or.inl (ne_exa Eo Ela (by decide)))) (Or.inr (slot_ne (Or.inl (hw _ (List.mem_of_getElem? (i := 19) rfl))) (Or.inl (hw _ (List.mem_of_getElem? (i := 38) rfl))) (by decide) (t := (.array .long)) (t' := .int) (by decide) (by decide)))), (Fld.other W200 (Fld.other W198 (Fld.other W196 (Fld.ext E193 (Fld.keep (Fld.keep Fl_ K188 (ninS (ne_exa Eo Era (by decide)) nin0)) K192 (ninS (ne_exa Eo Ela (by decide)) nin0))) (Or.inl (ne_exa Eo Era (by decide)))) (Or.inl (ne_exa Eo Ela (by decide)))) (Or.inr (slot_ne (Or.inl (hw _ (List.mem_of_getElem? (i := 23) rfl))) (Or.inl (hw _ (List.mem_of_getElem? (i := 38) rfl))) (by decide) (t := (.array (.object "com/example/kurslot/kurslot/engine/PriceLevel"))) (t' := .int) (by decide) (by decide)))), Fw200, (Fld.other W200 (Fld.other W198 (Fld.other W196 (Fld.ext E193 (Fld.keep (Fld.keep Fs_ K188 (ninS (ne_exa Eo Era (by decide)) nin0)) K192 (ninS (ne_exa Eo Ela (by decide)) nin0))) (Or.inl (ne_exa Eo Era (by decide)))) (Or.inl (ne_exa Eo Ela (by decide)))) (Or.inr (slot_ne (Or.inr (hw _ (List.mem_of_getElem? (i := 25) rfl))) (Or.inl (hw _ (List.mem_of_getElem? (i := 38) rfl))) (by decide) (t := (.object "com/example/kurslot/kurslot/engine/Side")) (t' := .int) (by decide) (by decide)))), (Exa.wr W200 (Exa.wr W198 (Exa.wr W196 (Exa.ext E193 (Exa.keep (Exa.keep Era K188) K192))))), (Exa.wr W200 (Exa.wr W198 (Exa.wr W196 (Exa.ext E193 (Exa.keep (Exa.keep Ela K188) K192))))), (Arv.other (Arv.other V196 W198 (ne_exa Era Ela (by decide))) W200 (ne_exa Era Eo (by decide))), (Arv.other V198 W200 (ne_exa Ela Eo (by decide))), Ov, (Exa.wr W200 (Exa.wr W198 (Exa.wr W196 (Exa.ext E193 (Exa.keep (Exa.keep El0 K188) K192))))), (Exa.wr W200 (Exa.wr W198 (Exa.wr W196 (Exa.ext E193 (Exa.keep (Exa.keep El1 K188) K192))))), (Exa.wr W200 (Exa.wr W198 (Exa.wr W196 A193)))⟩⟩
theorem pd_5 : parseMethodDescriptor "(J)Lcom/example/kurslot/kurslot/engine/PriceLevel;" = some ⟨[.long], some (.object "com/example/kurslot/kurslot/engine/PriceLevel")⟩ := by decide +kernel
theorem pd_6 : parseMethodDescriptor "()I" = some ⟨[], some .int⟩ := by decide +kernel
theorem pd_7 : parseMethodDescriptor "(ZJJJZZJ)I" = some ⟨[.boolean, .long, .long, .long, .boolean, .boolean, .long], some .int⟩ := by decide +kernel
theorem pd_8 : parseMethodDescriptor "(I)Lcom/example/kurslot/kurslot/engine/PriceLevel;" = some ⟨[.int], some (.object "com/example/kurslot/kurslot/engine/PriceLevel")⟩ := by decide +kernel
set_option maxRecDepth 65536 in
set_option maxHeartbeats 40000000 in
theorem rmT_1 {p : Program} {l : Launch} {e : Env} {s : State} {m : MethodId} {args : Array Value} {below : List Frame} {meth : Method} {c : Code} {T0 : State} {locs : List Loc} {Z : State} {a0 : Array Value} (hw : ∀ d ∈ tables_1, d.before a0 Z = true) (z p1 : Int32) (j1 j2 j3 q0 q1 q2 r0 r1 r2 : Int64) (o ra la sd wB : Addr) (kr kl : ClassId) (h0 : Heap) (n0 : Nat) (Z0 : n0 ≤ h0.size) (X0 : Stand p l e room_1 s m args below meth c T0 locs 3 36) (hx : p.tables.exec = Jvm.exec) (hby : c.code = code) (hml : c.maxLocals = 22) (hown : s.vm.findClass "com/example/kurslot/kurslot/engine/PriceLadderLevelPinLaw" = some m.cls) (hret : meth.sig.returnType = (some .boolean)) (hlk : meth.locks = false) (hZ : Z.Warmed39 s.vm) (e0 : T0.heap = h0) (N0 : Fr n0 locs) (LD : own_Lad0 Z h0 o ra la sd kr kl  ) (SB : Sta Z h0 "com/example/kurslot/kurslot/engine/Side" "BUY" "Lcom/example/kurslot/kurslot/engine/Side;" (.ref wB)) (RK0 : own_RK z q0 r0) (RK1 : own_RK z q1 r1) (RK2 : own_RK z q2 r2) (hs0 : (sd = wB ∧ r0 = q0) ∨ (¬ sd = wB ∧ r0 = (-q0))) (hs1 : (sd = wB ∧ r1 = q1) ∨ (¬ sd = wB ∧ r1 = (-q1))) (hs2 : (sd = wB ∧ r2 = q2) ∨ (¬ sd = wB ∧ r2 = (-q2))) (g_o : n0 ≤ o) (g_ra : n0 ≤ ra) (g_la : n0 ≤ la) :
    own_At p e below s (fun v h L => v = some (.int 1) ∧ Fr n0 L) room_1.cells room_1.slots T0 m 68 #[.val (.int p1), .val (.long j1), .second, .val (.long j2), .second, .val (.long j3), .second, .val (.int z), .val (.int (1 : Int32)), .val (.long q0), .second, .val (.long q1), .second, .val (.long q2), .second, .unset, .unset, .unset, .unset, .unset, .unset, .unset] [(.ref o)] := by
  have Eo := LD.1
  have Era := LD.2.2.2.2.2.1
  have Ela := LD.2.2.2.2.2.2.1
  have FZ := LD.2.2.2.1
  refine own_astore (l' := #[.val (.int p1), .val (.long j1), .second, .val (.long j2), .second, .val (.long j3), .second, .val (.int z), .val (.int (1 : Int32)), .val (.long q0), .second, .val (.long q1), .second, .val (.long q2), .second, .val (.ref o), .unset, .unset, .unset, .unset, .unset, .unset]) X0 hx (hb hby at_68) rfl rfl ?_
  refine own_aload X0 hx (hb hby at_70) rfl rfl ?_
  refine own_lload X0 hx (hb hby at_72) rfl ?_
  refine own_cVirt (W := 0) (rest := []) X0 hx hZ [(.long q0)] hown (hw _ (List.mem_of_getElem? (i := 26) rfl)) (hw _ (List.mem_of_getElem? (i := 27) rfl)) (notFace_of_selects (args := #[]) (mvT hZ (hw _ (List.mem_of_getElem? (i := 29) rfl)))) (hw _ (List.mem_of_getElem? (i := 29) rfl)) (hw _ (List.mem_of_getElem? (i := 28) rfl)) (by decide) (hw _ (List.mem_of_getElem? (i := 30) rfl)) (hw _ (List.mem_of_getElem? (i := 7) rfl)) e0 Eo (rmAt_0_ins0 l Z a0 hw [] o ra la sd wB kr kl r0 q0 h0 n0 Z0 LD SB hs0 g_o g_ra g_la ) (by rw [hml]; rfl) (lenOf pd_5 rfl) rfl (Nat.le_of_eq rfl) (hb hby at_74) (by decide) (by decide) (by decide) (by decide) fun v201 T201 L201 X201 hQ201 => ?_
  obtain ⟨b201, rfl, N201q, K201, szb201, LD201⟩ := hQ201
  have N201 := Fr.app N0 N201q
  have f202 := (own_staKeep SB K201 (allS (own_exaStat Eo) (allS (own_exaStat Era) (allS (own_exaStat Ela) all0))))
  have f203 := (Exa.keep Eo K201)
  have f204 := (Exa.keep Era K201)
  have f205 := (Exa.keep Ela K201)
  have Zs206 : n0 ≤ T201.heap.size := (Nat.le_trans Z0 K201.1)
  have FZ201 := LD201.2.2.2.1
  show own_At p e below s _ _ _ T201 m 77 _ [(.ref b201)]
  refine own_astore (l' := #[.val (.int p1), .val (.long j1), .second, .val (.long j2), .second, .val (.long j3), .second, .val (.int z), .val (.int (1 : Int32)), .val (.long q0), .second, .val (.long q1), .second, .val (.long q2), .second, .val (.ref o), .val (.ref b201), .unset, .unset, .unset, .unset, .unset]) X201 hx (hb hby at_77) rfl rfl ?_
  refine own_iload X201 hx (hb hby at_79) rfl ?_
  refine own_iconst X201 hx (2 : Int32) (hb hby at_81) rfl ?_
  refine own_icmpYes X201 hx 95 (hb hby at_82) (tlt (by decide : (1 : Int32) < (2 : Int32))).1 (by decide) (by decide) ?_
  refine own_aconstNull X201 hx (hb hby at_95) ?_
  refine own_astore (l' := #[.val (.int p1), .val (.long j1), .second, .val (.long j2), .second, .val (.long j3), .second, .val (.int z), .val (.int (1 : Int32)), .val (.long q0), .second, .val (.long q1), .second, .val (.long q2), .second, .val (.ref o), .val (.ref b201), .val .null, .unset, .unset, .unset, .unset]) X201 hx (hb hby at_96) rfl rfl ?_
  refine own_iload X201 hx (hb hby at_98) rfl ?_
  refine own_iconst X201 hx (3 : Int32) (hb hby at_100) rfl ?_
  refine own_icmpYes X201 hx 114 (hb hby at_101) (tlt (by decide : (1 : Int32) < (3 : Int32))).1 (by decide) (by decide) ?_
  refine own_aconstNull X201 hx (hb hby at_114) ?_
  refine own_astore (l' := #[.val (.int p1), .val (.long j1), .second, .val (.long j2), .second, .val (.long j3), .second, .val (.int z), .val (.int (1 : Int32)), .val (.long q0), .second, .val (.long q1), .second, .val (.long q2), .second, .val (.ref o), .val (.ref b201), .val .null, .val .null, .unset, .unset, .unset]) X201 hx (hb hby at_115) rfl rfl ?_
  refine own_iload X201 hx (hb hby at_117) rfl ?_
  refine own_iconst X201 hx (2 : Int32) (hb hby at_119) rfl ?_
  refine own_icmpYes X201 hx 135 (hb hby at_120) (tlt (by decide : (1 : Int32) < (2 : Int32))).1 (by decide) (by decide) ?_
  refine own_iconst X201 hx (0 : Int32) (hb hby at_135) rfl ?_
  refine own_istore (l' := #[.val (.int p1), .val (.long j1), .second, .val (.long j2), .second, .val (.long j3), .second, .val (.int z), .val (.int (1 : Int32)), .val (.long q0), .second, .val (.long q1), .second, .val (.long q2), .second, .val (.ref o), .val (.ref b201), .val .null, .val .null, .val (.int (0 : Int32)), .unset, .unset]) X201 hx (hb hby at_136) rfl ?_
  refine own_iload X201 hx (hb hby at_138) rfl ?_
  refine own_iconst X201 hx (3 : Int32) (hb hby at_140) rfl ?_
  refine own_icmpYes X201 hx 164 (hb hby at_141) (tlt (by decide : (1 : Int32) < (3 : Int32))).1 (by decide) (by decide) ?_
  refine own_iconst X201 hx (0 : Int32) (hb hby at_164) rfl ?_
  refine own_istore (l' := #[.val (.int p1), .val (.long j1), .second, .val (.long j2), .second, .val (.long j3), .second, .val (.int z), .val (.int (1 : Int32)), .val (.long q0), .second, .val (.long q1), .second, .val (.long q2), .second, .val (.ref o), .val (.ref b201), .val .null, .val .null, .val (.int (0 : Int32)), .val (.int (0 : Int32)), .unset]) X201 hx (hb hby at_165) rfl ?_
  refine own_iconst X201 hx (1 : Int32) (hb hby at_167) rfl ?_
  refine own_iload X201 hx (hb hby at_168) rfl ?_
  refine own_ifYes X201 hx 177 (hb hby at_170) (teq (by decide : (0 : Int32) = (0 : Int32))).1 (by decide) (by decide) ?_
  refine own_iconst X201 hx (0 : Int32) (hb hby at_177) rfl ?_
  refine own_iadd X201 hx (hb hby at_178) ?_
  rw [show ((1 : Int32) + (0 : Int32)) = (1 : Int32) from by decide]
  refine own_iload X201 hx (hb hby at_179) rfl ?_
  refine own_ifYes X201 hx 188 (hb hby at_181) (teq (by decide : (0 : Int32) = (0 : Int32))).1 (by decide) (by decide) ?_
  refine own_iconst X201 hx (0 : Int32) (hb hby at_188) rfl ?_
  refine own_iadd X201 hx (hb hby at_189) ?_
  rw [show ((1 : Int32) + (0 : Int32)) = (1 : Int32) from by decide]
  refine own_istore (l' := #[.val (.int p1), .val (.long j1), .second, .val (.long j2), .second, .val (.long j3), .second, .val (.int z), .val (.int (1 : Int32)), .val (.long q0), .second, .val (.long q1), .second, .val (.long q2), .second, .val (.ref o), .val (.ref b201), .val .null, .val .null, .val (.int (0 : Int32)), .val (.int (0 : Int32)), .val (.int (1 : Int32))]) X201 hx (hb hby at_190) rfl ?_
  refine own_aload X201 hx (hb hby at_192) rfl rfl ?_
  refine own_cVirt (W := 0) (rest := []) X201 hx hZ [] hown (hw _ (List.mem_of_getElem? (i := 60) rfl)) (hw _ (List.mem_of_getElem? (i := 61) rfl)) (notFace_of_selects (args := #[]) (mvT hZ (hw _ (List.mem_of_getElem? (i := 63) rfl)))) (hw _ (List.mem_of_getElem? (i := 63) rfl)) (hw _ (List.mem_of_getElem? (i := 62) rfl)) (by decide) (hw _ (List.mem_of_getElem? (i := 64) rfl)) (hw _ (List.mem_of_getElem? (i := 7) rfl)) rfl f203 (rmSize l Z a0 hw [] o (1 : Int32) T201.heap n0 Zs206 FZ201) (by rw [hml]; rfl) (lenOf pd_6 rfl) rfl (Nat.le_of_eq rfl) (hb hby at_194) (by decide) (by decide) (by decide) (by decide) fun v207 T207 L207 X207 hQ207 => ?_
  obtain ⟨rfl, N207q, e207⟩ := hQ207
  have N207 := Fr.app N201 N207q
  show own_At p e below s _ _ _ T207 m 197 _ [(.int (1 : Int32))]
  refine own_iload X207 hx (hb hby at_197) rfl ?_
  refine own_icmpYes X207 hx 204 (hb hby at_199) (teq (by decide : (1 : Int32) = (1 : Int32))).1 (by decide) (by decide) ?_
  refine own_aload X207 hx (hb hby at_204) rfl rfl ?_
  refine own_iload X207 hx (hb hby at_206) rfl ?_
  refine own_lload X207 hx (hb hby at_208) rfl ?_
  refine own_lload X207 hx (hb hby at_210) rfl ?_
  refine own_lload X207 hx (hb hby at_212) rfl ?_
  refine own_iload X207 hx (hb hby at_214) rfl ?_
  refine own_iload X207 hx (hb hby at_216) rfl ?_
  refine own_lload X207 hx (hb hby at_218) rfl ?_
  refine own_cStat (W := 1) (rest := [(.ref o)]) X207 hx hZ [(.int z), (.long q0), (.long q1), (.long q2), (.int (0 : Int32)), (.int (0 : Int32)), (.long q0)] hown (hw _ (List.mem_of_getElem? (i := 65) rfl)) (hw _ (List.mem_of_getElem? (i := 66) rfl)) (by decide) (hw _ (List.mem_of_getElem? (i := 67) rfl)) (hw _ (List.mem_of_getElem? (i := 2) rfl)) e207 (rmDep_00 l Z a0 hw [] z q0 q1 q2 q0 T201.heap n0 Zs206) (by rw [hml]; rfl) (lenOf pd_7 rfl) rfl (Nat.le_of_eq rfl) (hb hby at_220) (by decide) (by decide) (by decide) (by decide) fun v208 T208 L208 X208 hQ208 => ?_
  obtain ⟨rfl, N208q, e208⟩ := hQ208
  have N208 := Fr.app N207 N208q
  show own_At p e below s _ _ _ T208 m 223 _ [(.int (own_bet z q0 q0)), (.ref o)]
  rw [show (own_bet z q0 q0) = (0 : Int32) from by rw [own_betN RK0 RK0 (own_irr _)]]
  refine own_cVirt (W := 0) (rest := []) X208 hx hZ [(.int (0 : Int32))] hown (hw _ (List.mem_of_getElem? (i := 71) rfl)) (hw _ (List.mem_of_getElem? (i := 72) rfl)) (notFace_of_selects (args := #[]) (mvT hZ (hw _ (List.mem_of_getElem? (i := 74) rfl)))) (hw _ (List.mem_of_getElem? (i := 74) rfl)) (hw _ (List.mem_of_getElem? (i := 73) rfl)) (by decide) (hw _ (List.mem_of_getElem? (i := 75) rfl)) (hw _ (List.mem_of_getElem? (i := 7) rfl)) e208 f203 (rmLev_1_0 l Z a0 hw [] o ra la sd kr kl r0 b201 T201.heap n0 Zs206 LD201) (by rw [hml]; rfl) (lenOf pd_8 rfl) rfl (Nat.le_of_eq rfl) (hb hby at_223) (by decide) (by decide) (by decide) (by decide) fun v209 T209 L209 X209 hQ209 => ?_
  obtain ⟨rfl, N209q, e209⟩ := hQ209
  have N209 := Fr.app N208 N209q
  show own_At p e below s _ _ _ T209 m 226 _ [(.ref b201)]
  refine own_aload X209 hx (hb hby at_226) rfl rfl ?_
  refine own_acmp X209 hx 233 true (hb hby at_228) rfl rfl (decide_eq_true rfl) (by decide) (by decide) ?_
  refine own_iload X209 hx (hb hby at_233) rfl ?_
  refine own_iconst X209 hx (2 : Int32) (hb hby at_235) rfl ?_
  refine own_icmpYes X209 hx 268 (hb hby at_236) (tlt (by decide : (1 : Int32) < (2 : Int32))).1 (by decide) (by decide) ?_
  refine own_iload X209 hx (hb hby at_268) rfl ?_
  refine own_iconst X209 hx (3 : Int32) (hb hby at_270) rfl ?_
  refine own_icmpYes X209 hx 303 (hb hby at_271) (tlt (by decide : (1 : Int32) < (3 : Int32))).1 (by decide) (by decide) ?_
  refine own_iconst X209 hx (1 : Int32) (hb hby at_303) rfl ?_
  refine own_retN X209 hx hlk hret (by simp) (by decide) (hb hby at_304) (by decide) (by decide) ?_
  try rw [e209]
  exact ⟨rfl, N209⟩
set_option maxRecDepth 65536 in
set_option maxHeartbeats 40000000 in
theorem rmT_2 {p : Program} {l : Launch} {e : Env} {s : State} {m : MethodId} {args : Array Value} {below : List Frame} {meth : Method} {c : Code} {T0 : State} {locs : List Loc} {Z : State} {a0 : Array Value} (hw : ∀ d ∈ tables_1, d.before a0 Z = true) (z p1 : Int32) (j1 j2 j3 q0 q1 q2 r0 r1 r2 : Int64) (o ra la sd wB : Addr) (kr kl : ClassId) (h0 : Heap) (n0 : Nat) (Z0 : n0 ≤ h0.size) (X0 : Stand p l e room_1 s m args below meth c T0 locs 3 36) (hx : p.tables.exec = Jvm.exec) (hby : c.code = code) (hml : c.maxLocals = 22) (hown : s.vm.findClass "com/example/kurslot/kurslot/engine/PriceLadderLevelPinLaw" = some m.cls) (hret : meth.sig.returnType = (some .boolean)) (hlk : meth.locks = false) (hZ : Z.Warmed39 s.vm) (e0 : T0.heap = h0) (N0 : Fr n0 locs) (LD : own_Lad0 Z h0 o ra la sd kr kl  ) (SB : Sta Z h0 "com/example/kurslot/kurslot/engine/Side" "BUY" "Lcom/example/kurslot/kurslot/engine/Side;" (.ref wB)) (RK0 : own_RK z q0 r0) (RK1 : own_RK z q1 r1) (RK2 : own_RK z q2 r2) (hs0 : (sd = wB ∧ r0 = q0) ∨ (¬ sd = wB ∧ r0 = (-q0))) (hs1 : (sd = wB ∧ r1 = q1) ∨ (¬ sd = wB ∧ r1 = (-q1))) (hs2 : (sd = wB ∧ r2 = q2) ∨ (¬ sd = wB ∧ r2 = (-q2))) (g_o : n0 ≤ o) (g_ra : n0 ≤ ra) (g_la : n0 ≤ la) :
    own_At p e below s (fun v h L => v = some (.int 1) ∧ Fr n0 L) room_1.cells room_1.slots T0 m 68 #[.val (.int p1), .val (.long j1), .second, .val (.long j2), .second, .val (.long j3), .second, .val (.int z), .val (.int (2 : Int32)), .val (.long q0), .second, .val (.long q1), .second, .val (.long q2), .second, .unset, .unset, .unset, .unset, .unset, .unset, .unset] [(.ref o)] := by
  have Eo := LD.1
  have Era := LD.2.2.2.2.2.1
  have Ela := LD.2.2.2.2.2.2.1
  have FZ := LD.2.2.2.1
  rcases own_tri r0 r1 with ht210 | rfl | ht210
  · refine own_astore (l' := #[.val (.int p1), .val (.long j1), .second, .val (.long j2), .second, .val (.long j3), .second, .val (.int z), .val (.int (2 : Int32)), .val (.long q0), .second, .val (.long q1), .second, .val (.long q2), .second, .val (.ref o), .unset, .unset, .unset, .unset, .unset, .unset]) X0 hx (hb hby at_68) rfl rfl ?_
    refine own_aload X0 hx (hb hby at_70) rfl rfl ?_
    refine own_lload X0 hx (hb hby at_72) rfl ?_
    refine own_cVirt (W := 0) (rest := []) X0 hx hZ [(.long q0)] hown (hw _ (List.mem_of_getElem? (i := 26) rfl)) (hw _ (List.mem_of_getElem? (i := 27) rfl)) (notFace_of_selects (args := #[]) (mvT hZ (hw _ (List.mem_of_getElem? (i := 29) rfl)))) (hw _ (List.mem_of_getElem? (i := 29) rfl)) (hw _ (List.mem_of_getElem? (i := 28) rfl)) (by decide) (hw _ (List.mem_of_getElem? (i := 30) rfl)) (hw _ (List.mem_of_getElem? (i := 7) rfl)) e0 Eo (rmAt_0_ins0 l Z a0 hw [] o ra la sd wB kr kl r0 q0 h0 n0 Z0 LD SB hs0 g_o g_ra g_la ) (by rw [hml]; rfl) (lenOf pd_5 rfl) rfl (Nat.le_of_eq rfl) (hb hby at_74) (by decide) (by decide) (by decide) (by decide) fun v211 T211 L211 X211 hQ211 => ?_
    obtain ⟨b211, rfl, N211q, K211, szb211, LD211⟩ := hQ211
    have N211 := Fr.app N0 N211q
    have f212 := (own_staKeep SB K211 (allS (own_exaStat Eo) (allS (own_exaStat Era) (allS (own_exaStat Ela) all0))))
    have f213 := (Exa.keep Eo K211)
    have f214 := (Exa.keep Era K211)
    have f215 := (Exa.keep Ela K211)
    have Zs216 : n0 ≤ T211.heap.size := (Nat.le_trans Z0 K211.1)
    have FZ211 := LD211.2.2.2.1
    show own_At p e below s _ _ _ T211 m 77 _ [(.ref b211)]
    refine own_astore (l' := #[.val (.int p1), .val (.long j1), .second, .val (.long j2), .second, .val (.long j3), .second, .val (.int z), .val (.int (2 : Int32)), .val (.long q0), .second, .val (.long q1), .second, .val (.long q2), .second, .val (.ref o), .val (.ref b211), .unset, .unset, .unset, .unset, .unset]) X211 hx (hb hby at_77) rfl rfl ?_
    refine own_iload X211 hx (hb hby at_79) rfl ?_
    refine own_iconst X211 hx (2 : Int32) (hb hby at_81) rfl ?_
    refine own_icmpNo X211 hx (hb hby at_82) (flt (by decide : ¬ ((2 : Int32) < (2 : Int32)))).1 ?_
    refine own_aload X211 hx (hb hby at_85) rfl rfl ?_
    refine own_lload X211 hx (hb hby at_87) rfl ?_
    refine own_cVirt (W := 0) (rest := []) X211 hx hZ [(.long q1)] hown (hw _ (List.mem_of_getElem? (i := 26) rfl)) (hw _ (List.mem_of_getElem? (i := 27) rfl)) (notFace_of_selects (args := #[]) (mvT hZ (hw _ (List.mem_of_getElem? (i := 29) rfl)))) (hw _ (List.mem_of_getElem? (i := 29) rfl)) (hw _ (List.mem_of_getElem? (i := 28) rfl)) (by decide) (hw _ (List.mem_of_getElem? (i := 30) rfl)) (hw _ (List.mem_of_getElem? (i := 7) rfl)) rfl f213 (rmAt_1_ins1 l Z a0 hw [] o ra la sd wB b211 kr kl r1 r0 q1 T211.heap n0 Zs216 LD211 f212 hs1 g_o g_ra g_la ht210) (by rw [hml]; rfl) (lenOf pd_5 rfl) rfl (Nat.le_of_eq rfl) (hb hby at_89) (by decide) (by decide) (by decide) (by decide) fun v217 T217 L217 X217 hQ217 => ?_
    obtain ⟨b217, rfl, N217q, K217, szb217, LD217⟩ := hQ217
    have N217 := Fr.app N211 N217q
    have f218 := (own_staKeep f212 K217 (allS (own_exaStat f213) (allS (own_exaStat f214) (allS (own_exaStat f215) all0))))
    have f219 := (Exa.keep f213 K217)
    have f220 := (Exa.keep f214 K217)
    have f221 := (Exa.keep f215 K217)
    have Zs222 : n0 ≤ T217.heap.size := (Nat.le_trans Zs216 K217.1)
    have FZ217 := LD217.2.2.2.1
    show own_At p e below s _ _ _ T217 m 92 _ [(.ref b217)]
    refine own_goto X217 hx 96 (hb hby at_92) (by decide) (by decide) ?_
    refine own_astore (l' := #[.val (.int p1), .val (.long j1), .second, .val (.long j2), .second, .val (.long j3), .second, .val (.int z), .val (.int (2 : Int32)), .val (.long q0), .second, .val (.long q1), .second, .val (.long q2), .second, .val (.ref o), .val (.ref b211), .val (.ref b217), .unset, .unset, .unset, .unset]) X217 hx (hb hby at_96) rfl rfl ?_
    refine own_iload X217 hx (hb hby at_98) rfl ?_
    refine own_iconst X217 hx (3 : Int32) (hb hby at_100) rfl ?_
    refine own_icmpYes X217 hx 114 (hb hby at_101) (tlt (by decide : (2 : Int32) < (3 : Int32))).1 (by decide) (by decide) ?_
    refine own_aconstNull X217 hx (hb hby at_114) ?_
    refine own_astore (l' := #[.val (.int p1), .val (.long j1), .second, .val (.long j2), .second, .val (.long j3), .second, .val (.int z), .val (.int (2 : Int32)), .val (.long q0), .second, .val (.long q1), .second, .val (.long q2), .second, .val (.ref o), .val (.ref b211), .val (.ref b217), .val .null, .unset, .unset, .unset]) X217 hx (hb hby at_115) rfl rfl ?_
    refine own_iload X217 hx (hb hby at_117) rfl ?_
    refine own_iconst X217 hx (2 : Int32) (hb hby at_119) rfl ?_
    refine own_icmpNo X217 hx (hb hby at_120) (flt (by decide : ¬ ((2 : Int32) < (2 : Int32)))).1 ?_
    refine own_lload X217 hx (hb hby at_123) rfl ?_
    refine own_lload X217 hx (hb hby at_125) rfl ?_
    refine own_lcmp X217 hx (hb hby at_127) ?_
    refine own_ifNo X217 hx (hb hby at_128) (feq (fun q => (own_rkN RK1 RK0 (own_gtne ht210)) ((lw_eq q1 q0).mp q))).1 ?_
    refine own_iconst X217 hx (1 : Int32) (hb hby at_131) rfl ?_
    refine own_goto X217 hx 136 (hb hby at_132) (by decide) (by decide) ?_
    refine own_istore (l' := #[.val (.int p1), .val (.long j1), .second, .val (.long j2), .second, .val (.long j3), .second, .val (.int z), .val (.int (2 : Int32)), .val (.long q0), .second, .val (.long q1), .second, .val (.long q2), .second, .val (.ref o), .val (.ref b211), .val (.ref b217), .val .null, .val (.int (1 : Int32)), .unset, .unset]) X217 hx (hb hby at_136) rfl ?_
    refine own_iload X217 hx (hb hby at_138) rfl ?_
    refine own_iconst X217 hx (3 : Int32) (hb hby at_140) rfl ?_
    refine own_icmpYes X217 hx 164 (hb hby at_141) (tlt (by decide : (2 : Int32) < (3 : Int32))).1 (by decide) (by decide) ?_
    refine own_iconst X217 hx (0 : Int32) (hb hby at_164) rfl ?_
    refine own_istore (l' := #[.val (.int p1), .val (.long j1), .second, .val (.long j2), .second, .val (.long j3), .second, .val (.int z), .val (.int (2 : Int32)), .val (.long q0), .second, .val (.long q1), .second, .val (.long q2), .second, .val (.ref o), .val (.ref b211), .val (.ref b217), .val .null, .val (.int (1 : Int32)), .val (.int (0 : Int32)), .unset]) X217 hx (hb hby at_165) rfl ?_
    refine own_iconst X217 hx (1 : Int32) (hb hby at_167) rfl ?_
    refine own_iload X217 hx (hb hby at_168) rfl ?_
    refine own_ifNo X217 hx (hb hby at_170) (feq (by decide : ¬ ((1 : Int32) = (0 : Int32)))).1 ?_
    refine own_iconst X217 hx (1 : Int32) (hb hby at_173) rfl ?_
    refine own_goto X217 hx 178 (hb hby at_174) (by decide) (by decide) ?_
    refine own_iadd X217 hx (hb hby at_178) ?_
    rw [show ((1 : Int32) + (1 : Int32)) = (2 : Int32) from by decide]
    refine own_iload X217 hx (hb hby at_179) rfl ?_
    refine own_ifYes X217 hx 188 (hb hby at_181) (teq (by decide : (0 : Int32) = (0 : Int32))).1 (by decide) (by decide) ?_
    refine own_iconst X217 hx (0 : Int32) (hb hby at_188) rfl ?_
    refine own_iadd X217 hx (hb hby at_189) ?_
    rw [show ((2 : Int32) + (0 : Int32)) = (2 : Int32) from by decide]
    refine own_istore (l' := #[.val (.int p1), .val (.long j1), .second, .val (.long j2), .second, .val (.long j3), .second, .val (.int z), .val (.int (2 : Int32)), .val (.long q0), .second, .val (.long q1), .second, .val (.long q2), .second, .val (.ref o), .val (.ref b211), .val (.ref b217), .val .null, .val (.int (1 : Int32)), .val (.int (0 : Int32)), .val (.int (2 : Int32))]) X217 hx (hb hby at_190) rfl ?_
    refine own_aload X217 hx (hb hby at_192) rfl rfl ?_
    refine own_cVirt (W := 0) (rest := []) X217 hx hZ [] hown (hw _ (List.mem_of_getElem? (i := 60) rfl)) (hw _ (List.mem_of_getElem? (i := 61) rfl)) (notFace_of_selects (args := #[]) (mvT hZ (hw _ (List.mem_of_getElem? (i := 63) rfl)))) (hw _ (List.mem_of_getElem? (i := 63) rfl)) (hw _ (List.mem_of_getElem? (i := 62) rfl)) (by decide) (hw _ (List.mem_of_getElem? (i := 64) rfl)) (hw _ (List.mem_of_getElem? (i := 7) rfl)) rfl f219 (rmSize l Z a0 hw [] o (2 : Int32) T217.heap n0 Zs222 FZ217) (by rw [hml]; rfl) (lenOf pd_6 rfl) rfl (Nat.le_of_eq rfl) (hb hby at_194) (by decide) (by decide) (by decide) (by decide) fun v223 T223 L223 X223 hQ223 => ?_
    obtain ⟨rfl, N223q, e223⟩ := hQ223
    have N223 := Fr.app N217 N223q
    show own_At p e below s _ _ _ T223 m 197 _ [(.int (2 : Int32))]
    refine own_iload X223 hx (hb hby at_197) rfl ?_
    refine own_icmpYes X223 hx 204 (hb hby at_199) (teq (by decide : (2 : Int32) = (2 : Int32))).1 (by decide) (by decide) ?_
    refine own_aload X223 hx (hb hby at_204) rfl rfl ?_
    refine own_iload X223 hx (hb hby at_206) rfl ?_
    refine own_lload X223 hx (hb hby at_208) rfl ?_
    refine own_lload X223 hx (hb hby at_210) rfl ?_
    refine own_lload X223 hx (hb hby at_212) rfl ?_
    refine own_iload X223 hx (hb hby at_214) rfl ?_
    refine own_iload X223 hx (hb hby at_216) rfl ?_
    refine own_lload X223 hx (hb hby at_218) rfl ?_
    refine own_cStat (W := 1) (rest := [(.ref o)]) X223 hx hZ [(.int z), (.long q0), (.long q1), (.long q2), (.int (1 : Int32)), (.int (0 : Int32)), (.long q0)] hown (hw _ (List.mem_of_getElem? (i := 65) rfl)) (hw _ (List.mem_of_getElem? (i := 66) rfl)) (by decide) (hw _ (List.mem_of_getElem? (i := 67) rfl)) (hw _ (List.mem_of_getElem? (i := 2) rfl)) e223 (rmDep_10 l Z a0 hw [] z q0 q1 q2 q0 T217.heap n0 Zs222) (by rw [hml]; rfl) (lenOf pd_7 rfl) rfl (Nat.le_of_eq rfl) (hb hby at_220) (by decide) (by decide) (by decide) (by decide) fun v224 T224 L224 X224 hQ224 => ?_
    obtain ⟨rfl, N224q, e224⟩ := hQ224
    have N224 := Fr.app N223 N224q
    show own_At p e below s _ _ _ T224 m 223 _ [(.int ((own_bet z q0 q0) + (own_bet z q1 q0))), (.ref o)]
    rw [show ((own_bet z q0 q0) + (own_bet z q1 q0)) = (1 : Int32) from by rw [own_betN RK0 RK0 (own_irr _), own_betY RK1 RK0 ht210]; decide]
    refine own_cVirt (W := 0) (rest := []) X224 hx hZ [(.int (1 : Int32))] hown (hw _ (List.mem_of_getElem? (i := 71) rfl)) (hw _ (List.mem_of_getElem? (i := 72) rfl)) (notFace_of_selects (args := #[]) (mvT hZ (hw _ (List.mem_of_getElem? (i := 74) rfl)))) (hw _ (List.mem_of_getElem? (i := 74) rfl)) (hw _ (List.mem_of_getElem? (i := 73) rfl)) (by decide) (hw _ (List.mem_of_getElem? (i := 75) rfl)) (hw _ (List.mem_of_getElem? (i := 7) rfl)) e224 f219 (rmLev_2_1 l Z a0 hw [] o ra la sd kr kl r0 r1 b211 b217 T217.heap n0 Zs222 LD217) (by rw [hml]; rfl) (lenOf pd_8 rfl) rfl (Nat.le_of_eq rfl) (hb hby at_223) (by decide) (by decide) (by decide) (by decide) fun v225 T225 L225 X225 hQ225 => ?_
    obtain ⟨rfl, N225q, e225⟩ := hQ225
    have N225 := Fr.app N224 N225q
    show own_At p e below s _ _ _ T225 m 226 _ [(.ref b211)]
    refine own_aload X225 hx (hb hby at_226) rfl rfl ?_
    refine own_acmp X225 hx 233 true (hb hby at_228) rfl rfl (decide_eq_true rfl) (by decide) (by decide) ?_
    refine own_iload X225 hx (hb hby at_233) rfl ?_
    refine own_iconst X225 hx (2 : Int32) (hb hby at_235) rfl ?_
    refine own_icmpNo X225 hx (hb hby at_236) (flt (by decide : ¬ ((2 : Int32) < (2 : Int32)))).1 ?_
    refine own_aload X225 hx (hb hby at_239) rfl rfl ?_
    refine own_iload X225 hx (hb hby at_241) rfl ?_
    refine own_lload X225 hx (hb hby at_243) rfl ?_
    refine own_lload X225 hx (hb hby at_245) rfl ?_
    refine own_lload X225 hx (hb hby at_247) rfl ?_
    refine own_iload X225 hx (hb hby at_249) rfl ?_
    refine own_iload X225 hx (hb hby at_251) rfl ?_
    refine own_lload X225 hx (hb hby at_253) rfl ?_
    refine own_cStat (W := 1) (rest := [(.ref o)]) X225 hx hZ [(.int z), (.long q0), (.long q1), (.long q2), (.int (1 : Int32)), (.int (0 : Int32)), (.long q1)] hown (hw _ (List.mem_of_getElem? (i := 65) rfl)) (hw _ (List.mem_of_getElem? (i := 66) rfl)) (by decide) (hw _ (List.mem_of_getElem? (i := 67) rfl)) (hw _ (List.mem_of_getElem? (i := 2) rfl)) e225 (rmDep_10 l Z a0 hw [] z q0 q1 q2 q1 T217.heap n0 Zs222) (by rw [hml]; rfl) (lenOf pd_7 rfl) rfl (Nat.le_of_eq rfl) (hb hby at_255) (by decide) (by decide) (by decide) (by decide) fun v226 T226 L226 X226 hQ226 => ?_
    obtain ⟨rfl, N226q, e226⟩ := hQ226
    have N226 := Fr.app N225 N226q
    show own_At p e below s _ _ _ T226 m 258 _ [(.int ((own_bet z q0 q1) + (own_bet z q1 q1))), (.ref o)]
    rw [show ((own_bet z q0 q1) + (own_bet z q1 q1)) = (0 : Int32) from by rw [own_betN RK0 RK1 (own_asym ht210), own_betN RK1 RK1 (own_irr _)]; decide]
    refine own_cVirt (W := 0) (rest := []) X226 hx hZ [(.int (0 : Int32))] hown (hw _ (List.mem_of_getElem? (i := 71) rfl)) (hw _ (List.mem_of_getElem? (i := 72) rfl)) (notFace_of_selects (args := #[]) (mvT hZ (hw _ (List.mem_of_getElem? (i := 74) rfl)))) (hw _ (List.mem_of_getElem? (i := 74) rfl)) (hw _ (List.mem_of_getElem? (i := 73) rfl)) (by decide) (hw _ (List.mem_of_getElem? (i := 75) rfl)) (hw _ (List.mem_of_getElem? (i := 7) rfl)) e226 f219 (rmLev_2_0 l Z a0 hw [] o ra la sd kr kl r0 r1 b211 b217 T217.heap n0 Zs222 LD217) (by rw [hml]; rfl) (lenOf pd_8 rfl) rfl (Nat.le_of_eq rfl) (hb hby at_258) (by decide) (by decide) (by decide) (by decide) fun v227 T227 L227 X227 hQ227 => ?_
    obtain ⟨rfl, N227q, e227⟩ := hQ227
    have N227 := Fr.app N226 N227q
    show own_At p e below s _ _ _ T227 m 261 _ [(.ref b217)]
    refine own_aload X227 hx (hb hby at_261) rfl rfl ?_
    refine own_acmp X227 hx 268 true (hb hby at_263) rfl rfl (decide_eq_true rfl) (by decide) (by decide) ?_
    refine own_iload X227 hx (hb hby at_268) rfl ?_
    refine own_iconst X227 hx (3 : Int32) (hb hby at_270) rfl ?_
    refine own_icmpYes X227 hx 303 (hb hby at_271) (tlt (by decide : (2 : Int32) < (3 : Int32))).1 (by decide) (by decide) ?_
    refine own_iconst X227 hx (1 : Int32) (hb hby at_303) rfl ?_
    refine own_retN X227 hx hlk hret (by simp) (by decide) (hb hby at_304) (by decide) (by decide) ?_
    try rw [e227]
    exact ⟨rfl, N227⟩
  · obtain rfl := own_rkI RK0 RK1
    refine own_astore (l' := #[.val (.int p1), .val (.long j1), .second, .val (.long j2), .second, .val (.long j3), .second, .val (.int z), .val (.int (2 : Int32)), .val (.long q0), .second, .val (.long q0), .second, .val (.long q2), .second, .val (.ref o), .unset, .unset, .unset, .unset, .unset, .unset]) X0 hx (hb hby at_68) rfl rfl ?_
    refine own_aload X0 hx (hb hby at_70) rfl rfl ?_
    refine own_lload X0 hx (hb hby at_72) rfl ?_
    refine own_cVirt (W := 0) (rest := []) X0 hx hZ [(.long q0)] hown (hw _ (List.mem_of_getElem? (i := 26) rfl)) (hw _ (List.mem_of_getElem? (i := 27) rfl)) (notFace_of_selects (args := #[]) (mvT hZ (hw _ (List.mem_of_getElem? (i := 29) rfl)))) (hw _ (List.mem_of_getElem? (i := 29) rfl)) (hw _ (List.mem_of_getElem? (i := 28) rfl)) (by decide) (hw _ (List.mem_of_getElem? (i := 30) rfl)) (hw _ (List.mem_of_getElem? (i := 7) rfl)) e0 Eo (rmAt_0_ins0 l Z a0 hw [] o ra la sd wB kr kl r0 q0 h0 n0 Z0 LD SB hs0 g_o g_ra g_la ) (by rw [hml]; rfl) (lenOf pd_5 rfl) rfl (Nat.le_of_eq rfl) (hb hby at_74) (by decide) (by decide) (by decide) (by decide) fun v228 T228 L228 X228 hQ228 => ?_
    obtain ⟨b228, rfl, N228q, K228, szb228, LD228⟩ := hQ228
    have N228 := Fr.app N0 N228q
    have f229 := (own_staKeep SB K228 (allS (own_exaStat Eo) (allS (own_exaStat Era) (allS (own_exaStat Ela) all0))))
    have f230 := (Exa.keep Eo K228)
    have f231 := (Exa.keep Era K228)
    have f232 := (Exa.keep Ela K228)
    have Zs233 : n0 ≤ T228.heap.size := (Nat.le_trans Z0 K228.1)
    have FZ228 := LD228.2.2.2.1
    show own_At p e below s _ _ _ T228 m 77 _ [(.ref b228)]
    refine own_astore (l' := #[.val (.int p1), .val (.long j1), .second, .val (.long j2), .second, .val (.long j3), .second, .val (.int z), .val (.int (2 : Int32)), .val (.long q0), .second, .val (.long q0), .second, .val (.long q2), .second, .val (.ref o), .val (.ref b228), .unset, .unset, .unset, .unset, .unset]) X228 hx (hb hby at_77) rfl rfl ?_
    refine own_iload X228 hx (hb hby at_79) rfl ?_
    refine own_iconst X228 hx (2 : Int32) (hb hby at_81) rfl ?_
    refine own_icmpNo X228 hx (hb hby at_82) (flt (by decide : ¬ ((2 : Int32) < (2 : Int32)))).1 ?_
    refine own_aload X228 hx (hb hby at_85) rfl rfl ?_
    refine own_lload X228 hx (hb hby at_87) rfl ?_
    refine own_cVirt (W := 0) (rest := []) X228 hx hZ [(.long q0)] hown (hw _ (List.mem_of_getElem? (i := 26) rfl)) (hw _ (List.mem_of_getElem? (i := 27) rfl)) (notFace_of_selects (args := #[]) (mvT hZ (hw _ (List.mem_of_getElem? (i := 29) rfl)))) (hw _ (List.mem_of_getElem? (i := 29) rfl)) (hw _ (List.mem_of_getElem? (i := 28) rfl)) (by decide) (hw _ (List.mem_of_getElem? (i := 30) rfl)) (hw _ (List.mem_of_getElem? (i := 7) rfl)) rfl f230 (rmAt_1_found0 l Z a0 hw [] o ra la sd wB b228 kr kl r0 q0 T228.heap n0 Zs233 LD228 f229 hs0 g_o g_ra g_la ) (by rw [hml]; rfl) (lenOf pd_5 rfl) rfl (Nat.le_of_eq rfl) (hb hby at_89) (by decide) (by decide) (by decide) (by decide) fun v234 T234 L234 X234 hQ234 => ?_
    obtain ⟨rfl, N234q, e234⟩ := hQ234
    have N234 := Fr.app N228 N234q
    show own_At p e below s _ _ _ T234 m 92 _ [(.ref b228)]
    refine own_goto X234 hx 96 (hb hby at_92) (by decide) (by decide) ?_
    refine own_astore (l' := #[.val (.int p1), .val (.long j1), .second, .val (.long j2), .second, .val (.long j3), .second, .val (.int z), .val (.int (2 : Int32)), .val (.long q0), .second, .val (.long q0), .second, .val (.long q2), .second, .val (.ref o), .val (.ref b228), .val (.ref b228), .unset, .unset, .unset, .unset]) X234 hx (hb hby at_96) rfl rfl ?_
    refine own_iload X234 hx (hb hby at_98) rfl ?_
    refine own_iconst X234 hx (3 : Int32) (hb hby at_100) rfl ?_
    refine own_icmpYes X234 hx 114 (hb hby at_101) (tlt (by decide : (2 : Int32) < (3 : Int32))).1 (by decide) (by decide) ?_
    refine own_aconstNull X234 hx (hb hby at_114) ?_
    refine own_astore (l' := #[.val (.int p1), .val (.long j1), .second, .val (.long j2), .second, .val (.long j3), .second, .val (.int z), .val (.int (2 : Int32)), .val (.long q0), .second, .val (.long q0), .second, .val (.long q2), .second, .val (.ref o), .val (.ref b228), .val (.ref b228), .val .null, .unset, .unset, .unset]) X234 hx (hb hby at_115) rfl rfl ?_
    refine own_iload X234 hx (hb hby at_117) rfl ?_
    refine own_iconst X234 hx (2 : Int32) (hb hby at_119) rfl ?_
    refine own_icmpNo X234 hx (hb hby at_120) (flt (by decide : ¬ ((2 : Int32) < (2 : Int32)))).1 ?_
    refine own_lload X234 hx (hb hby at_123) rfl ?_
    refine own_lload X234 hx (hb hby at_125) rfl ?_
    refine own_lcmp X234 hx (hb hby at_127) ?_
    refine own_ifYes X234 hx 135 (hb hby at_128) (teq ((lw_eq q0 q0).mpr (rfl : q0 = q0))).1 (by decide) (by decide) ?_
    refine own_iconst X234 hx (0 : Int32) (hb hby at_135) rfl ?_
    refine own_istore (l' := #[.val (.int p1), .val (.long j1), .second, .val (.long j2), .second, .val (.long j3), .second, .val (.int z), .val (.int (2 : Int32)), .val (.long q0), .second, .val (.long q0), .second, .val (.long q2), .second, .val (.ref o), .val (.ref b228), .val (.ref b228), .val .null, .val (.int (0 : Int32)), .unset, .unset]) X234 hx (hb hby at_136) rfl ?_
    refine own_iload X234 hx (hb hby at_138) rfl ?_
    refine own_iconst X234 hx (3 : Int32) (hb hby at_140) rfl ?_
    refine own_icmpYes X234 hx 164 (hb hby at_141) (tlt (by decide : (2 : Int32) < (3 : Int32))).1 (by decide) (by decide) ?_
    refine own_iconst X234 hx (0 : Int32) (hb hby at_164) rfl ?_
    refine own_istore (l' := #[.val (.int p1), .val (.long j1), .second, .val (.long j2), .second, .val (.long j3), .second, .val (.int z), .val (.int (2 : Int32)), .val (.long q0), .second, .val (.long q0), .second, .val (.long q2), .second, .val (.ref o), .val (.ref b228), .val (.ref b228), .val .null, .val (.int (0 : Int32)), .val (.int (0 : Int32)), .unset]) X234 hx (hb hby at_165) rfl ?_
    refine own_iconst X234 hx (1 : Int32) (hb hby at_167) rfl ?_
    refine own_iload X234 hx (hb hby at_168) rfl ?_
    refine own_ifYes X234 hx 177 (hb hby at_170) (teq (by decide : (0 : Int32) = (0 : Int32))).1 (by decide) (by decide) ?_
    refine own_iconst X234 hx (0 : Int32) (hb hby at_177) rfl ?_
    refine own_iadd X234 hx (hb hby at_178) ?_
    rw [show ((1 : Int32) + (0 : Int32)) = (1 : Int32) from by decide]
    refine own_iload X234 hx (hb hby at_179) rfl ?_
    refine own_ifYes X234 hx 188 (hb hby at_181) (teq (by decide : (0 : Int32) = (0 : Int32))).1 (by decide) (by decide) ?_
    refine own_iconst X234 hx (0 : Int32) (hb hby at_188) rfl ?_
    refine own_iadd X234 hx (hb hby at_189) ?_
    rw [show ((1 : Int32) + (0 : Int32)) = (1 : Int32) from by decide]
    refine own_istore (l' := #[.val (.int p1), .val (.long j1), .second, .val (.long j2), .second, .val (.long j3), .second, .val (.int z), .val (.int (2 : Int32)), .val (.long q0), .second, .val (.long q0), .second, .val (.long q2), .second, .val (.ref o), .val (.ref b228), .val (.ref b228), .val .null, .val (.int (0 : Int32)), .val (.int (0 : Int32)), .val (.int (1 : Int32))]) X234 hx (hb hby at_190) rfl ?_
    refine own_aload X234 hx (hb hby at_192) rfl rfl ?_
    refine own_cVirt (W := 0) (rest := []) X234 hx hZ [] hown (hw _ (List.mem_of_getElem? (i := 60) rfl)) (hw _ (List.mem_of_getElem? (i := 61) rfl)) (notFace_of_selects (args := #[]) (mvT hZ (hw _ (List.mem_of_getElem? (i := 63) rfl)))) (hw _ (List.mem_of_getElem? (i := 63) rfl)) (hw _ (List.mem_of_getElem? (i := 62) rfl)) (by decide) (hw _ (List.mem_of_getElem? (i := 64) rfl)) (hw _ (List.mem_of_getElem? (i := 7) rfl)) e234 f230 (rmSize l Z a0 hw [] o (1 : Int32) T228.heap n0 Zs233 FZ228) (by rw [hml]; rfl) (lenOf pd_6 rfl) rfl (Nat.le_of_eq rfl) (hb hby at_194) (by decide) (by decide) (by decide) (by decide) fun v235 T235 L235 X235 hQ235 => ?_
    obtain ⟨rfl, N235q, e235⟩ := hQ235
    have N235 := Fr.app N234 N235q
    show own_At p e below s _ _ _ T235 m 197 _ [(.int (1 : Int32))]
    refine own_iload X235 hx (hb hby at_197) rfl ?_
    refine own_icmpYes X235 hx 204 (hb hby at_199) (teq (by decide : (1 : Int32) = (1 : Int32))).1 (by decide) (by decide) ?_
    refine own_aload X235 hx (hb hby at_204) rfl rfl ?_
    refine own_iload X235 hx (hb hby at_206) rfl ?_
    refine own_lload X235 hx (hb hby at_208) rfl ?_
    refine own_lload X235 hx (hb hby at_210) rfl ?_
    refine own_lload X235 hx (hb hby at_212) rfl ?_
    refine own_iload X235 hx (hb hby at_214) rfl ?_
    refine own_iload X235 hx (hb hby at_216) rfl ?_
    refine own_lload X235 hx (hb hby at_218) rfl ?_
    refine own_cStat (W := 1) (rest := [(.ref o)]) X235 hx hZ [(.int z), (.long q0), (.long q0), (.long q2), (.int (0 : Int32)), (.int (0 : Int32)), (.long q0)] hown (hw _ (List.mem_of_getElem? (i := 65) rfl)) (hw _ (List.mem_of_getElem? (i := 66) rfl)) (by decide) (hw _ (List.mem_of_getElem? (i := 67) rfl)) (hw _ (List.mem_of_getElem? (i := 2) rfl)) e235 (rmDep_00 l Z a0 hw [] z q0 q0 q2 q0 T228.heap n0 Zs233) (by rw [hml]; rfl) (lenOf pd_7 rfl) rfl (Nat.le_of_eq rfl) (hb hby at_220) (by decide) (by decide) (by decide) (by decide) fun v236 T236 L236 X236 hQ236 => ?_
    obtain ⟨rfl, N236q, e236⟩ := hQ236
    have N236 := Fr.app N235 N236q
    show own_At p e below s _ _ _ T236 m 223 _ [(.int (own_bet z q0 q0)), (.ref o)]
    rw [show (own_bet z q0 q0) = (0 : Int32) from by rw [own_betN RK0 RK0 (own_irr _)]]
    refine own_cVirt (W := 0) (rest := []) X236 hx hZ [(.int (0 : Int32))] hown (hw _ (List.mem_of_getElem? (i := 71) rfl)) (hw _ (List.mem_of_getElem? (i := 72) rfl)) (notFace_of_selects (args := #[]) (mvT hZ (hw _ (List.mem_of_getElem? (i := 74) rfl)))) (hw _ (List.mem_of_getElem? (i := 74) rfl)) (hw _ (List.mem_of_getElem? (i := 73) rfl)) (by decide) (hw _ (List.mem_of_getElem? (i := 75) rfl)) (hw _ (List.mem_of_getElem? (i := 7) rfl)) e236 f230 (rmLev_1_0 l Z a0 hw [] o ra la sd kr kl r0 b228 T228.heap n0 Zs233 LD228) (by rw [hml]; rfl) (lenOf pd_8 rfl) rfl (Nat.le_of_eq rfl) (hb hby at_223) (by decide) (by decide) (by decide) (by decide) fun v237 T237 L237 X237 hQ237 => ?_
    obtain ⟨rfl, N237q, e237⟩ := hQ237
    have N237 := Fr.app N236 N237q
    show own_At p e below s _ _ _ T237 m 226 _ [(.ref b228)]
    refine own_aload X237 hx (hb hby at_226) rfl rfl ?_
    refine own_acmp X237 hx 233 true (hb hby at_228) rfl rfl (decide_eq_true rfl) (by decide) (by decide) ?_
    refine own_iload X237 hx (hb hby at_233) rfl ?_
    refine own_iconst X237 hx (2 : Int32) (hb hby at_235) rfl ?_
    refine own_icmpNo X237 hx (hb hby at_236) (flt (by decide : ¬ ((2 : Int32) < (2 : Int32)))).1 ?_
    refine own_aload X237 hx (hb hby at_239) rfl rfl ?_
    refine own_iload X237 hx (hb hby at_241) rfl ?_
    refine own_lload X237 hx (hb hby at_243) rfl ?_
    refine own_lload X237 hx (hb hby at_245) rfl ?_
    refine own_lload X237 hx (hb hby at_247) rfl ?_
    refine own_iload X237 hx (hb hby at_249) rfl ?_
    refine own_iload X237 hx (hb hby at_251) rfl ?_
    refine own_lload X237 hx (hb hby at_253) rfl ?_
    refine own_cStat (W := 1) (rest := [(.ref o)]) X237 hx hZ [(.int z), (.long q0), (.long q0), (.long q2), (.int (0 : Int32)), (.int (0 : Int32)), (.long q0)] hown (hw _ (List.mem_of_getElem? (i := 65) rfl)) (hw _ (List.mem_of_getElem? (i := 66) rfl)) (by decide) (hw _ (List.mem_of_getElem? (i := 67) rfl)) (hw _ (List.mem_of_getElem? (i := 2) rfl)) e237 (rmDep_00 l Z a0 hw [] z q0 q0 q2 q0 T228.heap n0 Zs233) (by rw [hml]; rfl) (lenOf pd_7 rfl) rfl (Nat.le_of_eq rfl) (hb hby at_255) (by decide) (by decide) (by decide) (by decide) fun v238 T238 L238 X238 hQ238 => ?_
    obtain ⟨rfl, N238q, e238⟩ := hQ238
    have N238 := Fr.app N237 N238q
    show own_At p e below s _ _ _ T238 m 258 _ [(.int (own_bet z q0 q0)), (.ref o)]
    rw [show (own_bet z q0 q0) = (0 : Int32) from by rw [own_betN RK0 RK0 (own_irr _)]]
    refine own_cVirt (W := 0) (rest := []) X238 hx hZ [(.int (0 : Int32))] hown (hw _ (List.mem_of_getElem? (i := 71) rfl)) (hw _ (List.mem_of_getElem? (i := 72) rfl)) (notFace_of_selects (args := #[]) (mvT hZ (hw _ (List.mem_of_getElem? (i := 74) rfl)))) (hw _ (List.mem_of_getElem? (i := 74) rfl)) (hw _ (List.mem_of_getElem? (i := 73) rfl)) (by decide) (hw _ (List.mem_of_getElem? (i := 75) rfl)) (hw _ (List.mem_of_getElem? (i := 7) rfl)) e238 f230 (rmLev_1_0 l Z a0 hw [] o ra la sd kr kl r0 b228 T228.heap n0 Zs233 LD228) (by rw [hml]; rfl) (lenOf pd_8 rfl) rfl (Nat.le_of_eq rfl) (hb hby at_258) (by decide) (by decide) (by decide) (by decide) fun v239 T239 L239 X239 hQ239 => ?_
    obtain ⟨rfl, N239q, e239⟩ := hQ239
    have N239 := Fr.app N238 N239q
    show own_At p e below s _ _ _ T239 m 261 _ [(.ref b228)]
    refine own_aload X239 hx (hb hby at_261) rfl rfl ?_
    refine own_acmp X239 hx 268 true (hb hby at_263) rfl rfl (decide_eq_true rfl) (by decide) (by decide) ?_
    refine own_iload X239 hx (hb hby at_268) rfl ?_
    refine own_iconst X239 hx (3 : Int32) (hb hby at_270) rfl ?_
    refine own_icmpYes X239 hx 303 (hb hby at_271) (tlt (by decide : (2 : Int32) < (3 : Int32))).1 (by decide) (by decide) ?_
    refine own_iconst X239 hx (1 : Int32) (hb hby at_303) rfl ?_
    refine own_retN X239 hx hlk hret (by simp) (by decide) (hb hby at_304) (by decide) (by decide) ?_
    try rw [e239]
    exact ⟨rfl, N239⟩
  · refine own_astore (l' := #[.val (.int p1), .val (.long j1), .second, .val (.long j2), .second, .val (.long j3), .second, .val (.int z), .val (.int (2 : Int32)), .val (.long q0), .second, .val (.long q1), .second, .val (.long q2), .second, .val (.ref o), .unset, .unset, .unset, .unset, .unset, .unset]) X0 hx (hb hby at_68) rfl rfl ?_
    refine own_aload X0 hx (hb hby at_70) rfl rfl ?_
    refine own_lload X0 hx (hb hby at_72) rfl ?_
    refine own_cVirt (W := 0) (rest := []) X0 hx hZ [(.long q0)] hown (hw _ (List.mem_of_getElem? (i := 26) rfl)) (hw _ (List.mem_of_getElem? (i := 27) rfl)) (notFace_of_selects (args := #[]) (mvT hZ (hw _ (List.mem_of_getElem? (i := 29) rfl)))) (hw _ (List.mem_of_getElem? (i := 29) rfl)) (hw _ (List.mem_of_getElem? (i := 28) rfl)) (by decide) (hw _ (List.mem_of_getElem? (i := 30) rfl)) (hw _ (List.mem_of_getElem? (i := 7) rfl)) e0 Eo (rmAt_0_ins0 l Z a0 hw [] o ra la sd wB kr kl r0 q0 h0 n0 Z0 LD SB hs0 g_o g_ra g_la ) (by rw [hml]; rfl) (lenOf pd_5 rfl) rfl (Nat.le_of_eq rfl) (hb hby at_74) (by decide) (by decide) (by decide) (by decide) fun v240 T240 L240 X240 hQ240 => ?_
    obtain ⟨b240, rfl, N240q, K240, szb240, LD240⟩ := hQ240
    have N240 := Fr.app N0 N240q
    have f241 := (own_staKeep SB K240 (allS (own_exaStat Eo) (allS (own_exaStat Era) (allS (own_exaStat Ela) all0))))
    have f242 := (Exa.keep Eo K240)
    have f243 := (Exa.keep Era K240)
    have f244 := (Exa.keep Ela K240)
    have Zs245 : n0 ≤ T240.heap.size := (Nat.le_trans Z0 K240.1)
    have FZ240 := LD240.2.2.2.1
    show own_At p e below s _ _ _ T240 m 77 _ [(.ref b240)]
    refine own_astore (l' := #[.val (.int p1), .val (.long j1), .second, .val (.long j2), .second, .val (.long j3), .second, .val (.int z), .val (.int (2 : Int32)), .val (.long q0), .second, .val (.long q1), .second, .val (.long q2), .second, .val (.ref o), .val (.ref b240), .unset, .unset, .unset, .unset, .unset]) X240 hx (hb hby at_77) rfl rfl ?_
    refine own_iload X240 hx (hb hby at_79) rfl ?_
    refine own_iconst X240 hx (2 : Int32) (hb hby at_81) rfl ?_
    refine own_icmpNo X240 hx (hb hby at_82) (flt (by decide : ¬ ((2 : Int32) < (2 : Int32)))).1 ?_
    refine own_aload X240 hx (hb hby at_85) rfl rfl ?_
    refine own_lload X240 hx (hb hby at_87) rfl ?_
    refine own_cVirt (W := 0) (rest := []) X240 hx hZ [(.long q1)] hown (hw _ (List.mem_of_getElem? (i := 26) rfl)) (hw _ (List.mem_of_getElem? (i := 27) rfl)) (notFace_of_selects (args := #[]) (mvT hZ (hw _ (List.mem_of_getElem? (i := 29) rfl)))) (hw _ (List.mem_of_getElem? (i := 29) rfl)) (hw _ (List.mem_of_getElem? (i := 28) rfl)) (by decide) (hw _ (List.mem_of_getElem? (i := 30) rfl)) (hw _ (List.mem_of_getElem? (i := 7) rfl)) rfl f242 (rmAt_1_ins0 l Z a0 hw [] o ra la sd wB b240 kr kl r1 r0 q1 T240.heap n0 Zs245 LD240 f241 hs1 g_o g_ra g_la ht210) (by rw [hml]; rfl) (lenOf pd_5 rfl) rfl (Nat.le_of_eq rfl) (hb hby at_89) (by decide) (by decide) (by decide) (by decide) fun v246 T246 L246 X246 hQ246 => ?_
    obtain ⟨b246, rfl, N246q, K246, szb246, LD246⟩ := hQ246
    have N246 := Fr.app N240 N246q
    have f247 := (own_staKeep f241 K246 (allS (own_exaStat f242) (allS (own_exaStat f243) (allS (own_exaStat f244) all0))))
    have f248 := (Exa.keep f242 K246)
    have f249 := (Exa.keep f243 K246)
    have f250 := (Exa.keep f244 K246)
    have Zs251 : n0 ≤ T246.heap.size := (Nat.le_trans Zs245 K246.1)
    have FZ246 := LD246.2.2.2.1
    show own_At p e below s _ _ _ T246 m 92 _ [(.ref b246)]
    refine own_goto X246 hx 96 (hb hby at_92) (by decide) (by decide) ?_
    refine own_astore (l' := #[.val (.int p1), .val (.long j1), .second, .val (.long j2), .second, .val (.long j3), .second, .val (.int z), .val (.int (2 : Int32)), .val (.long q0), .second, .val (.long q1), .second, .val (.long q2), .second, .val (.ref o), .val (.ref b240), .val (.ref b246), .unset, .unset, .unset, .unset]) X246 hx (hb hby at_96) rfl rfl ?_
    refine own_iload X246 hx (hb hby at_98) rfl ?_
    refine own_iconst X246 hx (3 : Int32) (hb hby at_100) rfl ?_
    refine own_icmpYes X246 hx 114 (hb hby at_101) (tlt (by decide : (2 : Int32) < (3 : Int32))).1 (by decide) (by decide) ?_
    refine own_aconstNull X246 hx (hb hby at_114) ?_
    refine own_astore (l' := #[.val (.int p1), .val (.long j1), .second, .val (.long j2), .second, .val (.long j3), .second, .val (.int z), .val (.int (2 : Int32)), .val (.long q0), .second, .val (.long q1), .second, .val (.long q2), .second, .val (.ref o), .val (.ref b240), .val (.ref b246), .val .null, .unset, .unset, .unset]) X246 hx (hb hby at_115) rfl rfl ?_
    refine own_iload X246 hx (hb hby at_117) rfl ?_
    refine own_iconst X246 hx (2 : Int32) (hb hby at_119) rfl ?_
    refine own_icmpNo X246 hx (hb hby at_120) (flt (by decide : ¬ ((2 : Int32) < (2 : Int32)))).1 ?_
    refine own_lload X246 hx (hb hby at_123) rfl ?_
    refine own_lload X246 hx (hb hby at_125) rfl ?_
    refine own_lcmp X246 hx (hb hby at_127) ?_
    refine own_ifNo X246 hx (hb hby at_128) (feq (fun q => (own_rkN RK1 RK0 (own_ltne ht210)) ((lw_eq q1 q0).mp q))).1 ?_
    refine own_iconst X246 hx (1 : Int32) (hb hby at_131) rfl ?_
    refine own_goto X246 hx 136 (hb hby at_132) (by decide) (by decide) ?_
    refine own_istore (l' := #[.val (.int p1), .val (.long j1), .second, .val (.long j2), .second, .val (.long j3), .second, .val (.int z), .val (.int (2 : Int32)), .val (.long q0), .second, .val (.long q1), .second, .val (.long q2), .second, .val (.ref o), .val (.ref b240), .val (.ref b246), .val .null, .val (.int (1 : Int32)), .unset, .unset]) X246 hx (hb hby at_136) rfl ?_
    refine own_iload X246 hx (hb hby at_138) rfl ?_
    refine own_iconst X246 hx (3 : Int32) (hb hby at_140) rfl ?_
    refine own_icmpYes X246 hx 164 (hb hby at_141) (tlt (by decide : (2 : Int32) < (3 : Int32))).1 (by decide) (by decide) ?_
    refine own_iconst X246 hx (0 : Int32) (hb hby at_164) rfl ?_
    refine own_istore (l' := #[.val (.int p1), .val (.long j1), .second, .val (.long j2), .second, .val (.long j3), .second, .val (.int z), .val (.int (2 : Int32)), .val (.long q0), .second, .val (.long q1), .second, .val (.long q2), .second, .val (.ref o), .val (.ref b240), .val (.ref b246), .val .null, .val (.int (1 : Int32)), .val (.int (0 : Int32)), .unset]) X246 hx (hb hby at_165) rfl ?_
    refine own_iconst X246 hx (1 : Int32) (hb hby at_167) rfl ?_
    refine own_iload X246 hx (hb hby at_168) rfl ?_
    refine own_ifNo X246 hx (hb hby at_170) (feq (by decide : ¬ ((1 : Int32) = (0 : Int32)))).1 ?_
    refine own_iconst X246 hx (1 : Int32) (hb hby at_173) rfl ?_
    refine own_goto X246 hx 178 (hb hby at_174) (by decide) (by decide) ?_
    refine own_iadd X246 hx (hb hby at_178) ?_
    rw [show ((1 : Int32) + (1 : Int32)) = (2 : Int32) from by decide]
    refine own_iload X246 hx (hb hby at_179) rfl ?_
    refine own_ifYes X246 hx 188 (hb hby at_181) (teq (by decide : (0 : Int32) = (0 : Int32))).1 (by decide) (by decide) ?_
    refine own_iconst X246 hx (0 : Int32) (hb hby at_188) rfl ?_
    refine own_iadd X246 hx (hb hby at_189) ?_
    rw [show ((2 : Int32) + (0 : Int32)) = (2 : Int32) from by decide]
    refine own_istore (l' := #[.val (.int p1), .val (.long j1), .second, .val (.long j2), .second, .val (.long j3), .second, .val (.int z), .val (.int (2 : Int32)), .val (.long q0), .second, .val (.long q1), .second, .val (.long q2), .second, .val (.ref o), .val (.ref b240), .val (.ref b246), .val .null, .val (.int (1 : Int32)), .val (.int (0 : Int32)), .val (.int (2 : Int32))]) X246 hx (hb hby at_190) rfl ?_
    refine own_aload X246 hx (hb hby at_192) rfl rfl ?_
    refine own_cVirt (W := 0) (rest := []) X246 hx hZ [] hown (hw _ (List.mem_of_getElem? (i := 60) rfl)) (hw _ (List.mem_of_getElem? (i := 61) rfl)) (notFace_of_selects (args := #[]) (mvT hZ (hw _ (List.mem_of_getElem? (i := 63) rfl)))) (hw _ (List.mem_of_getElem? (i := 63) rfl)) (hw _ (List.mem_of_getElem? (i := 62) rfl)) (by decide) (hw _ (List.mem_of_getElem? (i := 64) rfl)) (hw _ (List.mem_of_getElem? (i := 7) rfl)) rfl f248 (rmSize l Z a0 hw [] o (2 : Int32) T246.heap n0 Zs251 FZ246) (by rw [hml]; rfl) (lenOf pd_6 rfl) rfl (Nat.le_of_eq rfl) (hb hby at_194) (by decide) (by decide) (by decide) (by decide) fun v252 T252 L252 X252 hQ252 => ?_
    obtain ⟨rfl, N252q, e252⟩ := hQ252
    have N252 := Fr.app N246 N252q
    show own_At p e below s _ _ _ T252 m 197 _ [(.int (2 : Int32))]
    refine own_iload X252 hx (hb hby at_197) rfl ?_
    refine own_icmpYes X252 hx 204 (hb hby at_199) (teq (by decide : (2 : Int32) = (2 : Int32))).1 (by decide) (by decide) ?_
    refine own_aload X252 hx (hb hby at_204) rfl rfl ?_
    refine own_iload X252 hx (hb hby at_206) rfl ?_
    refine own_lload X252 hx (hb hby at_208) rfl ?_
    refine own_lload X252 hx (hb hby at_210) rfl ?_
    refine own_lload X252 hx (hb hby at_212) rfl ?_
    refine own_iload X252 hx (hb hby at_214) rfl ?_
    refine own_iload X252 hx (hb hby at_216) rfl ?_
    refine own_lload X252 hx (hb hby at_218) rfl ?_
    refine own_cStat (W := 1) (rest := [(.ref o)]) X252 hx hZ [(.int z), (.long q0), (.long q1), (.long q2), (.int (1 : Int32)), (.int (0 : Int32)), (.long q0)] hown (hw _ (List.mem_of_getElem? (i := 65) rfl)) (hw _ (List.mem_of_getElem? (i := 66) rfl)) (by decide) (hw _ (List.mem_of_getElem? (i := 67) rfl)) (hw _ (List.mem_of_getElem? (i := 2) rfl)) e252 (rmDep_10 l Z a0 hw [] z q0 q1 q2 q0 T246.heap n0 Zs251) (by rw [hml]; rfl) (lenOf pd_7 rfl) rfl (Nat.le_of_eq rfl) (hb hby at_220) (by decide) (by decide) (by decide) (by decide) fun v253 T253 L253 X253 hQ253 => ?_
    obtain ⟨rfl, N253q, e253⟩ := hQ253
    have N253 := Fr.app N252 N253q
    show own_At p e below s _ _ _ T253 m 223 _ [(.int ((own_bet z q0 q0) + (own_bet z q1 q0))), (.ref o)]
    rw [show ((own_bet z q0 q0) + (own_bet z q1 q0)) = (0 : Int32) from by rw [own_betN RK0 RK0 (own_irr _), own_betN RK1 RK0 (own_asym ht210)]; decide]
    refine own_cVirt (W := 0) (rest := []) X253 hx hZ [(.int (0 : Int32))] hown (hw _ (List.mem_of_getElem? (i := 71) rfl)) (hw _ (List.mem_of_getElem? (i := 72) rfl)) (notFace_of_selects (args := #[]) (mvT hZ (hw _ (List.mem_of_getElem? (i := 74) rfl)))) (hw _ (List.mem_of_getElem? (i := 74) rfl)) (hw _ (List.mem_of_getElem? (i := 73) rfl)) (by decide) (hw _ (List.mem_of_getElem? (i := 75) rfl)) (hw _ (List.mem_of_getElem? (i := 7) rfl)) e253 f248 (rmLev_2_0 l Z a0 hw [] o ra la sd kr kl r1 r0 b246 b240 T246.heap n0 Zs251 LD246) (by rw [hml]; rfl) (lenOf pd_8 rfl) rfl (Nat.le_of_eq rfl) (hb hby at_223) (by decide) (by decide) (by decide) (by decide) fun v254 T254 L254 X254 hQ254 => ?_
    obtain ⟨rfl, N254q, e254⟩ := hQ254
    have N254 := Fr.app N253 N254q
    show own_At p e below s _ _ _ T254 m 226 _ [(.ref b240)]
    refine own_aload X254 hx (hb hby at_226) rfl rfl ?_
    refine own_acmp X254 hx 233 true (hb hby at_228) rfl rfl (decide_eq_true rfl) (by decide) (by decide) ?_
    refine own_iload X254 hx (hb hby at_233) rfl ?_
    refine own_iconst X254 hx (2 : Int32) (hb hby at_235) rfl ?_
    refine own_icmpNo X254 hx (hb hby at_236) (flt (by decide : ¬ ((2 : Int32) < (2 : Int32)))).1 ?_
    refine own_aload X254 hx (hb hby at_239) rfl rfl ?_
    refine own_iload X254 hx (hb hby at_241) rfl ?_
    refine own_lload X254 hx (hb hby at_243) rfl ?_
    refine own_lload X254 hx (hb hby at_245) rfl ?_
    refine own_lload X254 hx (hb hby at_247) rfl ?_
    refine own_iload X254 hx (hb hby at_249) rfl ?_
    refine own_iload X254 hx (hb hby at_251) rfl ?_
    refine own_lload X254 hx (hb hby at_253) rfl ?_
    refine own_cStat (W := 1) (rest := [(.ref o)]) X254 hx hZ [(.int z), (.long q0), (.long q1), (.long q2), (.int (1 : Int32)), (.int (0 : Int32)), (.long q1)] hown (hw _ (List.mem_of_getElem? (i := 65) rfl)) (hw _ (List.mem_of_getElem? (i := 66) rfl)) (by decide) (hw _ (List.mem_of_getElem? (i := 67) rfl)) (hw _ (List.mem_of_getElem? (i := 2) rfl)) e254 (rmDep_10 l Z a0 hw [] z q0 q1 q2 q1 T246.heap n0 Zs251) (by rw [hml]; rfl) (lenOf pd_7 rfl) rfl (Nat.le_of_eq rfl) (hb hby at_255) (by decide) (by decide) (by decide) (by decide) fun v255 T255 L255 X255 hQ255 => ?_
    obtain ⟨rfl, N255q, e255⟩ := hQ255
    have N255 := Fr.app N254 N255q
    show own_At p e below s _ _ _ T255 m 258 _ [(.int ((own_bet z q0 q1) + (own_bet z q1 q1))), (.ref o)]
    rw [show ((own_bet z q0 q1) + (own_bet z q1 q1)) = (1 : Int32) from by rw [own_betY RK0 RK1 ht210, own_betN RK1 RK1 (own_irr _)]; decide]
    refine own_cVirt (W := 0) (rest := []) X255 hx hZ [(.int (1 : Int32))] hown (hw _ (List.mem_of_getElem? (i := 71) rfl)) (hw _ (List.mem_of_getElem? (i := 72) rfl)) (notFace_of_selects (args := #[]) (mvT hZ (hw _ (List.mem_of_getElem? (i := 74) rfl)))) (hw _ (List.mem_of_getElem? (i := 74) rfl)) (hw _ (List.mem_of_getElem? (i := 73) rfl)) (by decide) (hw _ (List.mem_of_getElem? (i := 75) rfl)) (hw _ (List.mem_of_getElem? (i := 7) rfl)) e255 f248 (rmLev_2_1 l Z a0 hw [] o ra la sd kr kl r1 r0 b246 b240 T246.heap n0 Zs251 LD246) (by rw [hml]; rfl) (lenOf pd_8 rfl) rfl (Nat.le_of_eq rfl) (hb hby at_258) (by decide) (by decide) (by decide) (by decide) fun v256 T256 L256 X256 hQ256 => ?_
    obtain ⟨rfl, N256q, e256⟩ := hQ256
    have N256 := Fr.app N255 N256q
    show own_At p e below s _ _ _ T256 m 261 _ [(.ref b246)]
    refine own_aload X256 hx (hb hby at_261) rfl rfl ?_
    refine own_acmp X256 hx 268 true (hb hby at_263) rfl rfl (decide_eq_true rfl) (by decide) (by decide) ?_
    refine own_iload X256 hx (hb hby at_268) rfl ?_
    refine own_iconst X256 hx (3 : Int32) (hb hby at_270) rfl ?_
    refine own_icmpYes X256 hx 303 (hb hby at_271) (tlt (by decide : (2 : Int32) < (3 : Int32))).1 (by decide) (by decide) ?_
    refine own_iconst X256 hx (1 : Int32) (hb hby at_303) rfl ?_
    refine own_retN X256 hx hlk hret (by simp) (by decide) (hb hby at_304) (by decide) (by decide) ?_
    try rw [e256]
    exact ⟨rfl, N256⟩
set_option maxRecDepth 65536 in
set_option maxHeartbeats 40000000 in
theorem rmT_3 {p : Program} {l : Launch} {e : Env} {s : State} {m : MethodId} {args : Array Value} {below : List Frame} {meth : Method} {c : Code} {T0 : State} {locs : List Loc} {Z : State} {a0 : Array Value} (hw : ∀ d ∈ tables_1, d.before a0 Z = true) (z p1 : Int32) (j1 j2 j3 q0 q1 q2 r0 r1 r2 : Int64) (o ra la sd wB : Addr) (kr kl : ClassId) (h0 : Heap) (n0 : Nat) (Z0 : n0 ≤ h0.size) (X0 : Stand p l e room_1 s m args below meth c T0 locs 3 36) (hx : p.tables.exec = Jvm.exec) (hby : c.code = code) (hml : c.maxLocals = 22) (hown : s.vm.findClass "com/example/kurslot/kurslot/engine/PriceLadderLevelPinLaw" = some m.cls) (hret : meth.sig.returnType = (some .boolean)) (hlk : meth.locks = false) (hZ : Z.Warmed39 s.vm) (e0 : T0.heap = h0) (N0 : Fr n0 locs) (LD : own_Lad0 Z h0 o ra la sd kr kl  ) (SB : Sta Z h0 "com/example/kurslot/kurslot/engine/Side" "BUY" "Lcom/example/kurslot/kurslot/engine/Side;" (.ref wB)) (RK0 : own_RK z q0 r0) (RK1 : own_RK z q1 r1) (RK2 : own_RK z q2 r2) (hs0 : (sd = wB ∧ r0 = q0) ∨ (¬ sd = wB ∧ r0 = (-q0))) (hs1 : (sd = wB ∧ r1 = q1) ∨ (¬ sd = wB ∧ r1 = (-q1))) (hs2 : (sd = wB ∧ r2 = q2) ∨ (¬ sd = wB ∧ r2 = (-q2))) (g_o : n0 ≤ o) (g_ra : n0 ≤ ra) (g_la : n0 ≤ la) :
    own_At p e below s (fun v h L => v = some (.int 1) ∧ Fr n0 L) room_1.cells room_1.slots T0 m 68 #[.val (.int p1), .val (.long j1), .second, .val (.long j2), .second, .val (.long j3), .second, .val (.int z), .val (.int (3 : Int32)), .val (.long q0), .second, .val (.long q1), .second, .val (.long q2), .second, .unset, .unset, .unset, .unset, .unset, .unset, .unset] [(.ref o)] := by
  have Eo := LD.1
  have Era := LD.2.2.2.2.2.1
  have Ela := LD.2.2.2.2.2.2.1
  have FZ := LD.2.2.2.1
  rcases own_tri r0 r1 with ht257 | rfl | ht257
  · rcases own_tri r0 r2 with ht258 | rfl | ht258
    · rcases own_tri r1 r2 with ht259 | rfl | ht259
      · refine own_astore (l' := #[.val (.int p1), .val (.long j1), .second, .val (.long j2), .second, .val (.long j3), .second, .val (.int z), .val (.int (3 : Int32)), .val (.long q0), .second, .val (.long q1), .second, .val (.long q2), .second, .val (.ref o), .unset, .unset, .unset, .unset, .unset, .unset]) X0 hx (hb hby at_68) rfl rfl ?_
        refine own_aload X0 hx (hb hby at_70) rfl rfl ?_
        refine own_lload X0 hx (hb hby at_72) rfl ?_
        refine own_cVirt (W := 0) (rest := []) X0 hx hZ [(.long q0)] hown (hw _ (List.mem_of_getElem? (i := 26) rfl)) (hw _ (List.mem_of_getElem? (i := 27) rfl)) (notFace_of_selects (args := #[]) (mvT hZ (hw _ (List.mem_of_getElem? (i := 29) rfl)))) (hw _ (List.mem_of_getElem? (i := 29) rfl)) (hw _ (List.mem_of_getElem? (i := 28) rfl)) (by decide) (hw _ (List.mem_of_getElem? (i := 30) rfl)) (hw _ (List.mem_of_getElem? (i := 7) rfl)) e0 Eo (rmAt_0_ins0 l Z a0 hw [] o ra la sd wB kr kl r0 q0 h0 n0 Z0 LD SB hs0 g_o g_ra g_la ) (by rw [hml]; rfl) (lenOf pd_5 rfl) rfl (Nat.le_of_eq rfl) (hb hby at_74) (by decide) (by decide) (by decide) (by decide) fun v260 T260 L260 X260 hQ260 => ?_
        obtain ⟨b260, rfl, N260q, K260, szb260, LD260⟩ := hQ260
        have N260 := Fr.app N0 N260q
        have f261 := (own_staKeep SB K260 (allS (own_exaStat Eo) (allS (own_exaStat Era) (allS (own_exaStat Ela) all0))))
        have f262 := (Exa.keep Eo K260)
        have f263 := (Exa.keep Era K260)
        have f264 := (Exa.keep Ela K260)
        have Zs265 : n0 ≤ T260.heap.size := (Nat.le_trans Z0 K260.1)
        have FZ260 := LD260.2.2.2.1
        show own_At p e below s _ _ _ T260 m 77 _ [(.ref b260)]
        refine own_astore (l' := #[.val (.int p1), .val (.long j1), .second, .val (.long j2), .second, .val (.long j3), .second, .val (.int z), .val (.int (3 : Int32)), .val (.long q0), .second, .val (.long q1), .second, .val (.long q2), .second, .val (.ref o), .val (.ref b260), .unset, .unset, .unset, .unset, .unset]) X260 hx (hb hby at_77) rfl rfl ?_
        refine own_iload X260 hx (hb hby at_79) rfl ?_
        refine own_iconst X260 hx (2 : Int32) (hb hby at_81) rfl ?_
        refine own_icmpNo X260 hx (hb hby at_82) (flt (by decide : ¬ ((3 : Int32) < (2 : Int32)))).1 ?_
        refine own_aload X260 hx (hb hby at_85) rfl rfl ?_
        refine own_lload X260 hx (hb hby at_87) rfl ?_
        refine own_cVirt (W := 0) (rest := []) X260 hx hZ [(.long q1)] hown (hw _ (List.mem_of_getElem? (i := 26) rfl)) (hw _ (List.mem_of_getElem? (i := 27) rfl)) (notFace_of_selects (args := #[]) (mvT hZ (hw _ (List.mem_of_getElem? (i := 29) rfl)))) (hw _ (List.mem_of_getElem? (i := 29) rfl)) (hw _ (List.mem_of_getElem? (i := 28) rfl)) (by decide) (hw _ (List.mem_of_getElem? (i := 30) rfl)) (hw _ (List.mem_of_getElem? (i := 7) rfl)) rfl f262 (rmAt_1_ins1 l Z a0 hw [] o ra la sd wB b260 kr kl r1 r0 q1 T260.heap n0 Zs265 LD260 f261 hs1 g_o g_ra g_la ht257) (by rw [hml]; rfl) (lenOf pd_5 rfl) rfl (Nat.le_of_eq rfl) (hb hby at_89) (by decide) (by decide) (by decide) (by decide) fun v266 T266 L266 X266 hQ266 => ?_
        obtain ⟨b266, rfl, N266q, K266, szb266, LD266⟩ := hQ266
        have N266 := Fr.app N260 N266q
        have f267 := (own_staKeep f261 K266 (allS (own_exaStat f262) (allS (own_exaStat f263) (allS (own_exaStat f264) all0))))
        have f268 := (Exa.keep f262 K266)
        have f269 := (Exa.keep f263 K266)
        have f270 := (Exa.keep f264 K266)
        have Zs271 : n0 ≤ T266.heap.size := (Nat.le_trans Zs265 K266.1)
        have FZ266 := LD266.2.2.2.1
        show own_At p e below s _ _ _ T266 m 92 _ [(.ref b266)]
        refine own_goto X266 hx 96 (hb hby at_92) (by decide) (by decide) ?_
        refine own_astore (l' := #[.val (.int p1), .val (.long j1), .second, .val (.long j2), .second, .val (.long j3), .second, .val (.int z), .val (.int (3 : Int32)), .val (.long q0), .second, .val (.long q1), .second, .val (.long q2), .second, .val (.ref o), .val (.ref b260), .val (.ref b266), .unset, .unset, .unset, .unset]) X266 hx (hb hby at_96) rfl rfl ?_
        refine own_iload X266 hx (hb hby at_98) rfl ?_
        refine own_iconst X266 hx (3 : Int32) (hb hby at_100) rfl ?_
        refine own_icmpNo X266 hx (hb hby at_101) (flt (by decide : ¬ ((3 : Int32) < (3 : Int32)))).1 ?_
        refine own_aload X266 hx (hb hby at_104) rfl rfl ?_
        refine own_lload X266 hx (hb hby at_106) rfl ?_
        refine own_cVirt (W := 0) (rest := []) X266 hx hZ [(.long q2)] hown (hw _ (List.mem_of_getElem? (i := 26) rfl)) (hw _ (List.mem_of_getElem? (i := 27) rfl)) (notFace_of_selects (args := #[]) (mvT hZ (hw _ (List.mem_of_getElem? (i := 29) rfl)))) (hw _ (List.mem_of_getElem? (i := 29) rfl)) (hw _ (List.mem_of_getElem? (i := 28) rfl)) (by decide) (hw _ (List.mem_of_getElem? (i := 30) rfl)) (hw _ (List.mem_of_getElem? (i := 7) rfl)) rfl f268 (rmAt_2_ins2 l Z a0 hw [] o ra la sd wB b260 b266 kr kl r2 r0 r1 q2 T266.heap n0 Zs271 LD266 f267 hs2 g_o g_ra g_la ht258 ht259) (by rw [hml]; rfl) (lenOf pd_5 rfl) rfl (Nat.le_of_eq rfl) (hb hby at_108) (by decide) (by decide) (by decide) (by decide) fun v272 T272 L272 X272 hQ272 => ?_
        obtain ⟨b272, rfl, N272q, K272, szb272, LD272⟩ := hQ272
        have N272 := Fr.app N266 N272q
        have f273 := (own_staKeep f267 K272 (allS (own_exaStat f268) (allS (own_exaStat f269) (allS (own_exaStat f270) all0))))
        have f274 := (Exa.keep f268 K272)
        have f275 := (Exa.keep f269 K272)
        have f276 := (Exa.keep f270 K272)
        have Zs277 : n0 ≤ T272.heap.size := (Nat.le_trans Zs271 K272.1)
        have FZ272 := LD272.2.2.2.1
        show own_At p e below s _ _ _ T272 m 111 _ [(.ref b272)]
        refine own_goto X272 hx 115 (hb hby at_111) (by decide) (by decide) ?_
        refine own_astore (l' := #[.val (.int p1), .val (.long j1), .second, .val (.long j2), .second, .val (.long j3), .second, .val (.int z), .val (.int (3 : Int32)), .val (.long q0), .second, .val (.long q1), .second, .val (.long q2), .second, .val (.ref o), .val (.ref b260), .val (.ref b266), .val (.ref b272), .unset, .unset, .unset]) X272 hx (hb hby at_115) rfl rfl ?_
        refine own_iload X272 hx (hb hby at_117) rfl ?_
        refine own_iconst X272 hx (2 : Int32) (hb hby at_119) rfl ?_
        refine own_icmpNo X272 hx (hb hby at_120) (flt (by decide : ¬ ((3 : Int32) < (2 : Int32)))).1 ?_
        refine own_lload X272 hx (hb hby at_123) rfl ?_
        refine own_lload X272 hx (hb hby at_125) rfl ?_
        refine own_lcmp X272 hx (hb hby at_127) ?_
        refine own_ifNo X272 hx (hb hby at_128) (feq (fun q => (own_rkN RK1 RK0 (own_gtne ht257)) ((lw_eq q1 q0).mp q))).1 ?_
        refine own_iconst X272 hx (1 : Int32) (hb hby at_131) rfl ?_
        refine own_goto X272 hx 136 (hb hby at_132) (by decide) (by decide) ?_
        refine own_istore (l' := #[.val (.int p1), .val (.long j1), .second, .val (.long j2), .second, .val (.long j3), .second, .val (.int z), .val (.int (3 : Int32)), .val (.long q0), .second, .val (.long q1), .second, .val (.long q2), .second, .val (.ref o), .val (.ref b260), .val (.ref b266), .val (.ref b272), .val (.int (1 : Int32)), .unset, .unset]) X272 hx (hb hby at_136) rfl ?_
        refine own_iload X272 hx (hb hby at_138) rfl ?_
        refine own_iconst X272 hx (3 : Int32) (hb hby at_140) rfl ?_
        refine own_icmpNo X272 hx (hb hby at_141) (flt (by decide : ¬ ((3 : Int32) < (3 : Int32)))).1 ?_
        refine own_lload X272 hx (hb hby at_144) rfl ?_
        refine own_lload X272 hx (hb hby at_146) rfl ?_
        refine own_lcmp X272 hx (hb hby at_148) ?_
        refine own_ifNo X272 hx (hb hby at_149) (feq (fun q => (own_rkN RK2 RK0 (own_gtne ht258)) ((lw_eq q2 q0).mp q))).1 ?_
        refine own_lload X272 hx (hb hby at_152) rfl ?_
        refine own_lload X272 hx (hb hby at_154) rfl ?_
        refine own_lcmp X272 hx (hb hby at_156) ?_
        refine own_ifNo X272 hx (hb hby at_157) (feq (fun q => (own_rkN RK2 RK1 (own_gtne ht259)) ((lw_eq q2 q1).mp q))).1 ?_
        refine own_iconst X272 hx (1 : Int32) (hb hby at_160) rfl ?_
        refine own_goto X272 hx 165 (hb hby at_161) (by decide) (by decide) ?_
        refine own_istore (l' := #[.val (.int p1), .val (.long j1), .second, .val (.long j2), .second, .val (.long j3), .second, .val (.int z), .val (.int (3 : Int32)), .val (.long q0), .second, .val (.long q1), .second, .val (.long q2), .second, .val (.ref o), .val (.ref b260), .val (.ref b266), .val (.ref b272), .val (.int (1 : Int32)), .val (.int (1 : Int32)), .unset]) X272 hx (hb hby at_165) rfl ?_
        refine own_iconst X272 hx (1 : Int32) (hb hby at_167) rfl ?_
        refine own_iload X272 hx (hb hby at_168) rfl ?_
        refine own_ifNo X272 hx (hb hby at_170) (feq (by decide : ¬ ((1 : Int32) = (0 : Int32)))).1 ?_
        refine own_iconst X272 hx (1 : Int32) (hb hby at_173) rfl ?_
        refine own_goto X272 hx 178 (hb hby at_174) (by decide) (by decide) ?_
        refine own_iadd X272 hx (hb hby at_178) ?_
        rw [show ((1 : Int32) + (1 : Int32)) = (2 : Int32) from by decide]
        refine own_iload X272 hx (hb hby at_179) rfl ?_
        refine own_ifNo X272 hx (hb hby at_181) (feq (by decide : ¬ ((1 : Int32) = (0 : Int32)))).1 ?_
        refine own_iconst X272 hx (1 : Int32) (hb hby at_184) rfl ?_
        refine own_goto X272 hx 189 (hb hby at_185) (by decide) (by decide) ?_
        refine own_iadd X272 hx (hb hby at_189) ?_
        rw [show ((2 : Int32) + (1 : Int32)) = (3 : Int32) from by decide]
        refine own_istore (l' := #[.val (.int p1), .val (.long j1), .second, .val (.long j2), .second, .val (.long j3), .second, .val (.int z), .val (.int (3 : Int32)), .val (.long q0), .second, .val (.long q1), .second, .val (.long q2), .second, .val (.ref o), .val (.ref b260), .val (.ref b266), .val (.ref b272), .val (.int (1 : Int32)), .val (.int (1 : Int32)), .val (.int (3 : Int32))]) X272 hx (hb hby at_190) rfl ?_
        refine own_aload X272 hx (hb hby at_192) rfl rfl ?_
        refine own_cVirt (W := 0) (rest := []) X272 hx hZ [] hown (hw _ (List.mem_of_getElem? (i := 60) rfl)) (hw _ (List.mem_of_getElem? (i := 61) rfl)) (notFace_of_selects (args := #[]) (mvT hZ (hw _ (List.mem_of_getElem? (i := 63) rfl)))) (hw _ (List.mem_of_getElem? (i := 63) rfl)) (hw _ (List.mem_of_getElem? (i := 62) rfl)) (by decide) (hw _ (List.mem_of_getElem? (i := 64) rfl)) (hw _ (List.mem_of_getElem? (i := 7) rfl)) rfl f274 (rmSize l Z a0 hw [] o (3 : Int32) T272.heap n0 Zs277 FZ272) (by rw [hml]; rfl) (lenOf pd_6 rfl) rfl (Nat.le_of_eq rfl) (hb hby at_194) (by decide) (by decide) (by decide) (by decide) fun v278 T278 L278 X278 hQ278 => ?_
        obtain ⟨rfl, N278q, e278⟩ := hQ278
        have N278 := Fr.app N272 N278q
        show own_At p e below s _ _ _ T278 m 197 _ [(.int (3 : Int32))]
        refine own_iload X278 hx (hb hby at_197) rfl ?_
        refine own_icmpYes X278 hx 204 (hb hby at_199) (teq (by decide : (3 : Int32) = (3 : Int32))).1 (by decide) (by decide) ?_
        refine own_aload X278 hx (hb hby at_204) rfl rfl ?_
        refine own_iload X278 hx (hb hby at_206) rfl ?_
        refine own_lload X278 hx (hb hby at_208) rfl ?_
        refine own_lload X278 hx (hb hby at_210) rfl ?_
        refine own_lload X278 hx (hb hby at_212) rfl ?_
        refine own_iload X278 hx (hb hby at_214) rfl ?_
        refine own_iload X278 hx (hb hby at_216) rfl ?_
        refine own_lload X278 hx (hb hby at_218) rfl ?_
        refine own_cStat (W := 1) (rest := [(.ref o)]) X278 hx hZ [(.int z), (.long q0), (.long q1), (.long q2), (.int (1 : Int32)), (.int (1 : Int32)), (.long q0)] hown (hw _ (List.mem_of_getElem? (i := 65) rfl)) (hw _ (List.mem_of_getElem? (i := 66) rfl)) (by decide) (hw _ (List.mem_of_getElem? (i := 67) rfl)) (hw _ (List.mem_of_getElem? (i := 2) rfl)) e278 (rmDep_11 l Z a0 hw [] z q0 q1 q2 q0 T272.heap n0 Zs277) (by rw [hml]; rfl) (lenOf pd_7 rfl) rfl (Nat.le_of_eq rfl) (hb hby at_220) (by decide) (by decide) (by decide) (by decide) fun v279 T279 L279 X279 hQ279 => ?_
        obtain ⟨rfl, N279q, e279⟩ := hQ279
        have N279 := Fr.app N278 N279q
        show own_At p e below s _ _ _ T279 m 223 _ [(.int (((own_bet z q0 q0) + (own_bet z q1 q0)) + (own_bet z q2 q0))), (.ref o)]
        rw [show (((own_bet z q0 q0) + (own_bet z q1 q0)) + (own_bet z q2 q0)) = (2 : Int32) from by rw [own_betN RK0 RK0 (own_irr _), own_betY RK1 RK0 ht257, own_betY RK2 RK0 ht258]; decide]
        refine own_cVirt (W := 0) (rest := []) X279 hx hZ [(.int (2 : Int32))] hown (hw _ (List.mem_of_getElem? (i := 71) rfl)) (hw _ (List.mem_of_getElem? (i := 72) rfl)) (notFace_of_selects (args := #[]) (mvT hZ (hw _ (List.mem_of_getElem? (i := 74) rfl)))) (hw _ (List.mem_of_getElem? (i := 74) rfl)) (hw _ (List.mem_of_getElem? (i := 73) rfl)) (by decide) (hw _ (List.mem_of_getElem? (i := 75) rfl)) (hw _ (List.mem_of_getElem? (i := 7) rfl)) e279 f274 (rmLev_3_2 l Z a0 hw [] o ra la sd kr kl r0 r1 r2 b260 b266 b272 T272.heap n0 Zs277 LD272) (by rw [hml]; rfl) (lenOf pd_8 rfl) rfl (Nat.le_of_eq rfl) (hb hby at_223) (by decide) (by decide) (by decide) (by decide) fun v280 T280 L280 X280 hQ280 => ?_
        obtain ⟨rfl, N280q, e280⟩ := hQ280
        have N280 := Fr.app N279 N280q
        show own_At p e below s _ _ _ T280 m 226 _ [(.ref b260)]
        refine own_aload X280 hx (hb hby at_226) rfl rfl ?_
        refine own_acmp X280 hx 233 true (hb hby at_228) rfl rfl (decide_eq_true rfl) (by decide) (by decide) ?_
        refine own_iload X280 hx (hb hby at_233) rfl ?_
        refine own_iconst X280 hx (2 : Int32) (hb hby at_235) rfl ?_
        refine own_icmpNo X280 hx (hb hby at_236) (flt (by decide : ¬ ((3 : Int32) < (2 : Int32)))).1 ?_
        refine own_aload X280 hx (hb hby at_239) rfl rfl ?_
        refine own_iload X280 hx (hb hby at_241) rfl ?_
        refine own_lload X280 hx (hb hby at_243) rfl ?_
        refine own_lload X280 hx (hb hby at_245) rfl ?_
        refine own_lload X280 hx (hb hby at_247) rfl ?_
        refine own_iload X280 hx (hb hby at_249) rfl ?_
        refine own_iload X280 hx (hb hby at_251) rfl ?_
        refine own_lload X280 hx (hb hby at_253) rfl ?_
        refine own_cStat (W := 1) (rest := [(.ref o)]) X280 hx hZ [(.int z), (.long q0), (.long q1), (.long q2), (.int (1 : Int32)), (.int (1 : Int32)), (.long q1)] hown (hw _ (List.mem_of_getElem? (i := 65) rfl)) (hw _ (List.mem_of_getElem? (i := 66) rfl)) (by decide) (hw _ (List.mem_of_getElem? (i := 67) rfl)) (hw _ (List.mem_of_getElem? (i := 2) rfl)) e280 (rmDep_11 l Z a0 hw [] z q0 q1 q2 q1 T272.heap n0 Zs277) (by rw [hml]; rfl) (lenOf pd_7 rfl) rfl (Nat.le_of_eq rfl) (hb hby at_255) (by decide) (by decide) (by decide) (by decide) fun v281 T281 L281 X281 hQ281 => ?_
        obtain ⟨rfl, N281q, e281⟩ := hQ281
        have N281 := Fr.app N280 N281q
        show own_At p e below s _ _ _ T281 m 258 _ [(.int (((own_bet z q0 q1) + (own_bet z q1 q1)) + (own_bet z q2 q1))), (.ref o)]
        rw [show (((own_bet z q0 q1) + (own_bet z q1 q1)) + (own_bet z q2 q1)) = (1 : Int32) from by rw [own_betN RK0 RK1 (own_asym ht257), own_betN RK1 RK1 (own_irr _), own_betY RK2 RK1 ht259]; decide]
        refine own_cVirt (W := 0) (rest := []) X281 hx hZ [(.int (1 : Int32))] hown (hw _ (List.mem_of_getElem? (i := 71) rfl)) (hw _ (List.mem_of_getElem? (i := 72) rfl)) (notFace_of_selects (args := #[]) (mvT hZ (hw _ (List.mem_of_getElem? (i := 74) rfl)))) (hw _ (List.mem_of_getElem? (i := 74) rfl)) (hw _ (List.mem_of_getElem? (i := 73) rfl)) (by decide) (hw _ (List.mem_of_getElem? (i := 75) rfl)) (hw _ (List.mem_of_getElem? (i := 7) rfl)) e281 f274 (rmLev_3_1 l Z a0 hw [] o ra la sd kr kl r0 r1 r2 b260 b266 b272 T272.heap n0 Zs277 LD272) (by rw [hml]; rfl) (lenOf pd_8 rfl) rfl (Nat.le_of_eq rfl) (hb hby at_258) (by decide) (by decide) (by decide) (by decide) fun v282 T282 L282 X282 hQ282 => ?_
        obtain ⟨rfl, N282q, e282⟩ := hQ282
        have N282 := Fr.app N281 N282q
        show own_At p e below s _ _ _ T282 m 261 _ [(.ref b266)]
        refine own_aload X282 hx (hb hby at_261) rfl rfl ?_
        refine own_acmp X282 hx 268 true (hb hby at_263) rfl rfl (decide_eq_true rfl) (by decide) (by decide) ?_
        refine own_iload X282 hx (hb hby at_268) rfl ?_
        refine own_iconst X282 hx (3 : Int32) (hb hby at_270) rfl ?_
        refine own_icmpNo X282 hx (hb hby at_271) (flt (by decide : ¬ ((3 : Int32) < (3 : Int32)))).1 ?_
        refine own_aload X282 hx (hb hby at_274) rfl rfl ?_
        refine own_iload X282 hx (hb hby at_276) rfl ?_
        refine own_lload X282 hx (hb hby at_278) rfl ?_
        refine own_lload X282 hx (hb hby at_280) rfl ?_
        refine own_lload X282 hx (hb hby at_282) rfl ?_
        refine own_iload X282 hx (hb hby at_284) rfl ?_
        refine own_iload X282 hx (hb hby at_286) rfl ?_
        refine own_lload X282 hx (hb hby at_288) rfl ?_
        refine own_cStat (W := 1) (rest := [(.ref o)]) X282 hx hZ [(.int z), (.long q0), (.long q1), (.long q2), (.int (1 : Int32)), (.int (1 : Int32)), (.long q2)] hown (hw _ (List.mem_of_getElem? (i := 65) rfl)) (hw _ (List.mem_of_getElem? (i := 66) rfl)) (by decide) (hw _ (List.mem_of_getElem? (i := 67) rfl)) (hw _ (List.mem_of_getElem? (i := 2) rfl)) e282 (rmDep_11 l Z a0 hw [] z q0 q1 q2 q2 T272.heap n0 Zs277) (by rw [hml]; rfl) (lenOf pd_7 rfl) rfl (Nat.le_of_eq rfl) (hb hby at_290) (by decide) (by decide) (by decide) (by decide) fun v283 T283 L283 X283 hQ283 => ?_
        obtain ⟨rfl, N283q, e283⟩ := hQ283
        have N283 := Fr.app N282 N283q
        show own_At p e below s _ _ _ T283 m 293 _ [(.int (((own_bet z q0 q2) + (own_bet z q1 q2)) + (own_bet z q2 q2))), (.ref o)]
        rw [show (((own_bet z q0 q2) + (own_bet z q1 q2)) + (own_bet z q2 q2)) = (0 : Int32) from by rw [own_betN RK0 RK2 (own_asym ht258), own_betN RK1 RK2 (own_asym ht259), own_betN RK2 RK2 (own_irr _)]; decide]
        refine own_cVirt (W := 0) (rest := []) X283 hx hZ [(.int (0 : Int32))] hown (hw _ (List.mem_of_getElem? (i := 71) rfl)) (hw _ (List.mem_of_getElem? (i := 72) rfl)) (notFace_of_selects (args := #[]) (mvT hZ (hw _ (List.mem_of_getElem? (i := 74) rfl)))) (hw _ (List.mem_of_getElem? (i := 74) rfl)) (hw _ (List.mem_of_getElem? (i := 73) rfl)) (by decide) (hw _ (List.mem_of_getElem? (i := 75) rfl)) (hw _ (List.mem_of_getElem? (i := 7) rfl)) e283 f274 (rmLev_3_0 l Z a0 hw [] o ra la sd kr kl r0 r1 r2 b260 b266 b272 T272.heap n0 Zs277 LD272) (by rw [hml]; rfl) (lenOf pd_8 rfl) rfl (Nat.le_of_eq rfl) (hb hby at_293) (by decide) (by decide) (by decide) (by decide) fun v284 T284 L284 X284 hQ284 => ?_
        obtain ⟨rfl, N284q, e284⟩ := hQ284
        have N284 := Fr.app N283 N284q
        show own_At p e below s _ _ _ T284 m 296 _ [(.ref b272)]
        refine own_aload X284 hx (hb hby at_296) rfl rfl ?_
        refine own_acmp X284 hx 303 true (hb hby at_298) rfl rfl (decide_eq_true rfl) (by decide) (by decide) ?_
        refine own_iconst X284 hx (1 : Int32) (hb hby at_303) rfl ?_
        refine own_retN X284 hx hlk hret (by simp) (by decide) (hb hby at_304) (by decide) (by decide) ?_
        try rw [e284]
        exact ⟨rfl, N284⟩
      · obtain rfl := own_rkI RK1 RK2
        refine own_astore (l' := #[.val (.int p1), .val (.long j1), .second, .val (.long j2), .second, .val (.long j3), .second, .val (.int z), .val (.int (3 : Int32)), .val (.long q0), .second, .val (.long q1), .second, .val (.long q1), .second, .val (.ref o), .unset, .unset, .unset, .unset, .unset, .unset]) X0 hx (hb hby at_68) rfl rfl ?_
        refine own_aload X0 hx (hb hby at_70) rfl rfl ?_
        refine own_lload X0 hx (hb hby at_72) rfl ?_
        refine own_cVirt (W := 0) (rest := []) X0 hx hZ [(.long q0)] hown (hw _ (List.mem_of_getElem? (i := 26) rfl)) (hw _ (List.mem_of_getElem? (i := 27) rfl)) (notFace_of_selects (args := #[]) (mvT hZ (hw _ (List.mem_of_getElem? (i := 29) rfl)))) (hw _ (List.mem_of_getElem? (i := 29) rfl)) (hw _ (List.mem_of_getElem? (i := 28) rfl)) (by decide) (hw _ (List.mem_of_getElem? (i := 30) rfl)) (hw _ (List.mem_of_getElem? (i := 7) rfl)) e0 Eo (rmAt_0_ins0 l Z a0 hw [] o ra la sd wB kr kl r0 q0 h0 n0 Z0 LD SB hs0 g_o g_ra g_la ) (by rw [hml]; rfl) (lenOf pd_5 rfl) rfl (Nat.le_of_eq rfl) (hb hby at_74) (by decide) (by decide) (by decide) (by decide) fun v285 T285 L285 X285 hQ285 => ?_
        obtain ⟨b285, rfl, N285q, K285, szb285, LD285⟩ := hQ285
        have N285 := Fr.app N0 N285q
        have f286 := (own_staKeep SB K285 (allS (own_exaStat Eo) (allS (own_exaStat Era) (allS (own_exaStat Ela) all0))))
        have f287 := (Exa.keep Eo K285)
        have f288 := (Exa.keep Era K285)
        have f289 := (Exa.keep Ela K285)
        have Zs290 : n0 ≤ T285.heap.size := (Nat.le_trans Z0 K285.1)
        have FZ285 := LD285.2.2.2.1
        show own_At p e below s _ _ _ T285 m 77 _ [(.ref b285)]
        refine own_astore (l' := #[.val (.int p1), .val (.long j1), .second, .val (.long j2), .second, .val (.long j3), .second, .val (.int z), .val (.int (3 : Int32)), .val (.long q0), .second, .val (.long q1), .second, .val (.long q1), .second, .val (.ref o), .val (.ref b285), .unset, .unset, .unset, .unset, .unset]) X285 hx (hb hby at_77) rfl rfl ?_
        refine own_iload X285 hx (hb hby at_79) rfl ?_
        refine own_iconst X285 hx (2 : Int32) (hb hby at_81) rfl ?_
        refine own_icmpNo X285 hx (hb hby at_82) (flt (by decide : ¬ ((3 : Int32) < (2 : Int32)))).1 ?_
        refine own_aload X285 hx (hb hby at_85) rfl rfl ?_
        refine own_lload X285 hx (hb hby at_87) rfl ?_
        refine own_cVirt (W := 0) (rest := []) X285 hx hZ [(.long q1)] hown (hw _ (List.mem_of_getElem? (i := 26) rfl)) (hw _ (List.mem_of_getElem? (i := 27) rfl)) (notFace_of_selects (args := #[]) (mvT hZ (hw _ (List.mem_of_getElem? (i := 29) rfl)))) (hw _ (List.mem_of_getElem? (i := 29) rfl)) (hw _ (List.mem_of_getElem? (i := 28) rfl)) (by decide) (hw _ (List.mem_of_getElem? (i := 30) rfl)) (hw _ (List.mem_of_getElem? (i := 7) rfl)) rfl f287 (rmAt_1_ins1 l Z a0 hw [] o ra la sd wB b285 kr kl r1 r0 q1 T285.heap n0 Zs290 LD285 f286 hs1 g_o g_ra g_la ht258) (by rw [hml]; rfl) (lenOf pd_5 rfl) rfl (Nat.le_of_eq rfl) (hb hby at_89) (by decide) (by decide) (by decide) (by decide) fun v291 T291 L291 X291 hQ291 => ?_
        obtain ⟨b291, rfl, N291q, K291, szb291, LD291⟩ := hQ291
        have N291 := Fr.app N285 N291q
        have f292 := (own_staKeep f286 K291 (allS (own_exaStat f287) (allS (own_exaStat f288) (allS (own_exaStat f289) all0))))
        have f293 := (Exa.keep f287 K291)
        have f294 := (Exa.keep f288 K291)
        have f295 := (Exa.keep f289 K291)
        have Zs296 : n0 ≤ T291.heap.size := (Nat.le_trans Zs290 K291.1)
        have FZ291 := LD291.2.2.2.1
        show own_At p e below s _ _ _ T291 m 92 _ [(.ref b291)]
        refine own_goto X291 hx 96 (hb hby at_92) (by decide) (by decide) ?_
        refine own_astore (l' := #[.val (.int p1), .val (.long j1), .second, .val (.long j2), .second, .val (.long j3), .second, .val (.int z), .val (.int (3 : Int32)), .val (.long q0), .second, .val (.long q1), .second, .val (.long q1), .second, .val (.ref o), .val (.ref b285), .val (.ref b291), .unset, .unset, .unset, .unset]) X291 hx (hb hby at_96) rfl rfl ?_
        refine own_iload X291 hx (hb hby at_98) rfl ?_
        refine own_iconst X291 hx (3 : Int32) (hb hby at_100) rfl ?_
        refine own_icmpNo X291 hx (hb hby at_101) (flt (by decide : ¬ ((3 : Int32) < (3 : Int32)))).1 ?_
        refine own_aload X291 hx (hb hby at_104) rfl rfl ?_
        refine own_lload X291 hx (hb hby at_106) rfl ?_
        refine own_cVirt (W := 0) (rest := []) X291 hx hZ [(.long q1)] hown (hw _ (List.mem_of_getElem? (i := 26) rfl)) (hw _ (List.mem_of_getElem? (i := 27) rfl)) (notFace_of_selects (args := #[]) (mvT hZ (hw _ (List.mem_of_getElem? (i := 29) rfl)))) (hw _ (List.mem_of_getElem? (i := 29) rfl)) (hw _ (List.mem_of_getElem? (i := 28) rfl)) (by decide) (hw _ (List.mem_of_getElem? (i := 30) rfl)) (hw _ (List.mem_of_getElem? (i := 7) rfl)) rfl f293 (rmAt_2_found1 l Z a0 hw [] o ra la sd wB b285 b291 kr kl r1 r0 q1 T291.heap n0 Zs296 LD291 f292 hs1 g_o g_ra g_la ht258) (by rw [hml]; rfl) (lenOf pd_5 rfl) rfl (Nat.le_of_eq rfl) (hb hby at_108) (by decide) (by decide) (by decide) (by decide) fun v297 T297 L297 X297 hQ297 => ?_
        obtain ⟨rfl, N297q, e297⟩ := hQ297
        have N297 := Fr.app N291 N297q
        show own_At p e below s _ _ _ T297 m 111 _ [(.ref b291)]
        refine own_goto X297 hx 115 (hb hby at_111) (by decide) (by decide) ?_
        refine own_astore (l' := #[.val (.int p1), .val (.long j1), .second, .val (.long j2), .second, .val (.long j3), .second, .val (.int z), .val (.int (3 : Int32)), .val (.long q0), .second, .val (.long q1), .second, .val (.long q1), .second, .val (.ref o), .val (.ref b285), .val (.ref b291), .val (.ref b291), .unset, .unset, .unset]) X297 hx (hb hby at_115) rfl rfl ?_
        refine own_iload X297 hx (hb hby at_117) rfl ?_
        refine own_iconst X297 hx (2 : Int32) (hb hby at_119) rfl ?_
        refine own_icmpNo X297 hx (hb hby at_120) (flt (by decide : ¬ ((3 : Int32) < (2 : Int32)))).1 ?_
        refine own_lload X297 hx (hb hby at_123) rfl ?_
        refine own_lload X297 hx (hb hby at_125) rfl ?_
        refine own_lcmp X297 hx (hb hby at_127) ?_
        refine own_ifNo X297 hx (hb hby at_128) (feq (fun q => (own_rkN RK1 RK0 (own_gtne ht258)) ((lw_eq q1 q0).mp q))).1 ?_
        refine own_iconst X297 hx (1 : Int32) (hb hby at_131) rfl ?_
        refine own_goto X297 hx 136 (hb hby at_132) (by decide) (by decide) ?_
        refine own_istore (l' := #[.val (.int p1), .val (.long j1), .second, .val (.long j2), .second, .val (.long j3), .second, .val (.int z), .val (.int (3 : Int32)), .val (.long q0), .second, .val (.long q1), .second, .val (.long q1), .second, .val (.ref o), .val (.ref b285), .val (.ref b291), .val (.ref b291), .val (.int (1 : Int32)), .unset, .unset]) X297 hx (hb hby at_136) rfl ?_
        refine own_iload X297 hx (hb hby at_138) rfl ?_
        refine own_iconst X297 hx (3 : Int32) (hb hby at_140) rfl ?_
        refine own_icmpNo X297 hx (hb hby at_141) (flt (by decide : ¬ ((3 : Int32) < (3 : Int32)))).1 ?_
        refine own_lload X297 hx (hb hby at_144) rfl ?_
        refine own_lload X297 hx (hb hby at_146) rfl ?_
        refine own_lcmp X297 hx (hb hby at_148) ?_
        refine own_ifNo X297 hx (hb hby at_149) (feq (fun q => (own_rkN RK1 RK0 (own_gtne ht258)) ((lw_eq q1 q0).mp q))).1 ?_
        refine own_lload X297 hx (hb hby at_152) rfl ?_
        refine own_lload X297 hx (hb hby at_154) rfl ?_
        refine own_lcmp X297 hx (hb hby at_156) ?_
        refine own_ifYes X297 hx 164 (hb hby at_157) (teq ((lw_eq q1 q1).mpr (rfl : q1 = q1))).1 (by decide) (by decide) ?_
        refine own_iconst X297 hx (0 : Int32) (hb hby at_164) rfl ?_
        refine own_istore (l' := #[.val (.int p1), .val (.long j1), .second, .val (.long j2), .second, .val (.long j3), .second, .val (.int z), .val (.int (3 : Int32)), .val (.long q0), .second, .val (.long q1), .second, .val (.long q1), .second, .val (.ref o), .val (.ref b285), .val (.ref b291), .val (.ref b291), .val (.int (1 : Int32)), .val (.int (0 : Int32)), .unset]) X297 hx (hb hby at_165) rfl ?_
        refine own_iconst X297 hx (1 : Int32) (hb hby at_167) rfl ?_
        refine own_iload X297 hx (hb hby at_168) rfl ?_
        refine own_ifNo X297 hx (hb hby at_170) (feq (by decide : ¬ ((1 : Int32) = (0 : Int32)))).1 ?_
        refine own_iconst X297 hx (1 : Int32) (hb hby at_173) rfl ?_
        refine own_goto X297 hx 178 (hb hby at_174) (by decide) (by decide) ?_
        refine own_iadd X297 hx (hb hby at_178) ?_
        rw [show ((1 : Int32) + (1 : Int32)) = (2 : Int32) from by decide]
        refine own_iload X297 hx (hb hby at_179) rfl ?_
        refine own_ifYes X297 hx 188 (hb hby at_181) (teq (by decide : (0 : Int32) = (0 : Int32))).1 (by decide) (by decide) ?_
        refine own_iconst X297 hx (0 : Int32) (hb hby at_188) rfl ?_
        refine own_iadd X297 hx (hb hby at_189) ?_
        rw [show ((2 : Int32) + (0 : Int32)) = (2 : Int32) from by decide]
        refine own_istore (l' := #[.val (.int p1), .val (.long j1), .second, .val (.long j2), .second, .val (.long j3), .second, .val (.int z), .val (.int (3 : Int32)), .val (.long q0), .second, .val (.long q1), .second, .val (.long q1), .second, .val (.ref o), .val (.ref b285), .val (.ref b291), .val (.ref b291), .val (.int (1 : Int32)), .val (.int (0 : Int32)), .val (.int (2 : Int32))]) X297 hx (hb hby at_190) rfl ?_
        refine own_aload X297 hx (hb hby at_192) rfl rfl ?_
        refine own_cVirt (W := 0) (rest := []) X297 hx hZ [] hown (hw _ (List.mem_of_getElem? (i := 60) rfl)) (hw _ (List.mem_of_getElem? (i := 61) rfl)) (notFace_of_selects (args := #[]) (mvT hZ (hw _ (List.mem_of_getElem? (i := 63) rfl)))) (hw _ (List.mem_of_getElem? (i := 63) rfl)) (hw _ (List.mem_of_getElem? (i := 62) rfl)) (by decide) (hw _ (List.mem_of_getElem? (i := 64) rfl)) (hw _ (List.mem_of_getElem? (i := 7) rfl)) e297 f293 (rmSize l Z a0 hw [] o (2 : Int32) T291.heap n0 Zs296 FZ291) (by rw [hml]; rfl) (lenOf pd_6 rfl) rfl (Nat.le_of_eq rfl) (hb hby at_194) (by decide) (by decide) (by decide) (by decide) fun v298 T298 L298 X298 hQ298 => ?_
        obtain ⟨rfl, N298q, e298⟩ := hQ298
        have N298 := Fr.app N297 N298q
        show own_At p e below s _ _ _ T298 m 197 _ [(.int (2 : Int32))]
        refine own_iload X298 hx (hb hby at_197) rfl ?_
        refine own_icmpYes X298 hx 204 (hb hby at_199) (teq (by decide : (2 : Int32) = (2 : Int32))).1 (by decide) (by decide) ?_
        refine own_aload X298 hx (hb hby at_204) rfl rfl ?_
        refine own_iload X298 hx (hb hby at_206) rfl ?_
        refine own_lload X298 hx (hb hby at_208) rfl ?_
        refine own_lload X298 hx (hb hby at_210) rfl ?_
        refine own_lload X298 hx (hb hby at_212) rfl ?_
        refine own_iload X298 hx (hb hby at_214) rfl ?_
        refine own_iload X298 hx (hb hby at_216) rfl ?_
        refine own_lload X298 hx (hb hby at_218) rfl ?_
        refine own_cStat (W := 1) (rest := [(.ref o)]) X298 hx hZ [(.int z), (.long q0), (.long q1), (.long q1), (.int (1 : Int32)), (.int (0 : Int32)), (.long q0)] hown (hw _ (List.mem_of_getElem? (i := 65) rfl)) (hw _ (List.mem_of_getElem? (i := 66) rfl)) (by decide) (hw _ (List.mem_of_getElem? (i := 67) rfl)) (hw _ (List.mem_of_getElem? (i := 2) rfl)) e298 (rmDep_10 l Z a0 hw [] z q0 q1 q1 q0 T291.heap n0 Zs296) (by rw [hml]; rfl) (lenOf pd_7 rfl) rfl (Nat.le_of_eq rfl) (hb hby at_220) (by decide) (by decide) (by decide) (by decide) fun v299 T299 L299 X299 hQ299 => ?_
        obtain ⟨rfl, N299q, e299⟩ := hQ299
        have N299 := Fr.app N298 N299q
        show own_At p e below s _ _ _ T299 m 223 _ [(.int ((own_bet z q0 q0) + (own_bet z q1 q0))), (.ref o)]
        rw [show ((own_bet z q0 q0) + (own_bet z q1 q0)) = (1 : Int32) from by rw [own_betN RK0 RK0 (own_irr _), own_betY RK1 RK0 ht258]; decide]
        refine own_cVirt (W := 0) (rest := []) X299 hx hZ [(.int (1 : Int32))] hown (hw _ (List.mem_of_getElem? (i := 71) rfl)) (hw _ (List.mem_of_getElem? (i := 72) rfl)) (notFace_of_selects (args := #[]) (mvT hZ (hw _ (List.mem_of_getElem? (i := 74) rfl)))) (hw _ (List.mem_of_getElem? (i := 74) rfl)) (hw _ (List.mem_of_getElem? (i := 73) rfl)) (by decide) (hw _ (List.mem_of_getElem? (i := 75) rfl)) (hw _ (List.mem_of_getElem? (i := 7) rfl)) e299 f293 (rmLev_2_1 l Z a0 hw [] o ra la sd kr kl r0 r1 b285 b291 T291.heap n0 Zs296 LD291) (by rw [hml]; rfl) (lenOf pd_8 rfl) rfl (Nat.le_of_eq rfl) (hb hby at_223) (by decide) (by decide) (by decide) (by decide) fun v300 T300 L300 X300 hQ300 => ?_
        obtain ⟨rfl, N300q, e300⟩ := hQ300
        have N300 := Fr.app N299 N300q
        show own_At p e below s _ _ _ T300 m 226 _ [(.ref b285)]
        refine own_aload X300 hx (hb hby at_226) rfl rfl ?_
        refine own_acmp X300 hx 233 true (hb hby at_228) rfl rfl (decide_eq_true rfl) (by decide) (by decide) ?_
        refine own_iload X300 hx (hb hby at_233) rfl ?_
        refine own_iconst X300 hx (2 : Int32) (hb hby at_235) rfl ?_
        refine own_icmpNo X300 hx (hb hby at_236) (flt (by decide : ¬ ((3 : Int32) < (2 : Int32)))).1 ?_
        refine own_aload X300 hx (hb hby at_239) rfl rfl ?_
        refine own_iload X300 hx (hb hby at_241) rfl ?_
        refine own_lload X300 hx (hb hby at_243) rfl ?_
        refine own_lload X300 hx (hb hby at_245) rfl ?_
        refine own_lload X300 hx (hb hby at_247) rfl ?_
        refine own_iload X300 hx (hb hby at_249) rfl ?_
        refine own_iload X300 hx (hb hby at_251) rfl ?_
        refine own_lload X300 hx (hb hby at_253) rfl ?_
        refine own_cStat (W := 1) (rest := [(.ref o)]) X300 hx hZ [(.int z), (.long q0), (.long q1), (.long q1), (.int (1 : Int32)), (.int (0 : Int32)), (.long q1)] hown (hw _ (List.mem_of_getElem? (i := 65) rfl)) (hw _ (List.mem_of_getElem? (i := 66) rfl)) (by decide) (hw _ (List.mem_of_getElem? (i := 67) rfl)) (hw _ (List.mem_of_getElem? (i := 2) rfl)) e300 (rmDep_10 l Z a0 hw [] z q0 q1 q1 q1 T291.heap n0 Zs296) (by rw [hml]; rfl) (lenOf pd_7 rfl) rfl (Nat.le_of_eq rfl) (hb hby at_255) (by decide) (by decide) (by decide) (by decide) fun v301 T301 L301 X301 hQ301 => ?_
        obtain ⟨rfl, N301q, e301⟩ := hQ301
        have N301 := Fr.app N300 N301q
        show own_At p e below s _ _ _ T301 m 258 _ [(.int ((own_bet z q0 q1) + (own_bet z q1 q1))), (.ref o)]
        rw [show ((own_bet z q0 q1) + (own_bet z q1 q1)) = (0 : Int32) from by rw [own_betN RK0 RK1 (own_asym ht258), own_betN RK1 RK1 (own_irr _)]; decide]
        refine own_cVirt (W := 0) (rest := []) X301 hx hZ [(.int (0 : Int32))] hown (hw _ (List.mem_of_getElem? (i := 71) rfl)) (hw _ (List.mem_of_getElem? (i := 72) rfl)) (notFace_of_selects (args := #[]) (mvT hZ (hw _ (List.mem_of_getElem? (i := 74) rfl)))) (hw _ (List.mem_of_getElem? (i := 74) rfl)) (hw _ (List.mem_of_getElem? (i := 73) rfl)) (by decide) (hw _ (List.mem_of_getElem? (i := 75) rfl)) (hw _ (List.mem_of_getElem? (i := 7) rfl)) e301 f293 (rmLev_2_0 l Z a0 hw [] o ra la sd kr kl r0 r1 b285 b291 T291.heap n0 Zs296 LD291) (by rw [hml]; rfl) (lenOf pd_8 rfl) rfl (Nat.le_of_eq rfl) (hb hby at_258) (by decide) (by decide) (by decide) (by decide) fun v302 T302 L302 X302 hQ302 => ?_
        obtain ⟨rfl, N302q, e302⟩ := hQ302
        have N302 := Fr.app N301 N302q
        show own_At p e below s _ _ _ T302 m 261 _ [(.ref b291)]
        refine own_aload X302 hx (hb hby at_261) rfl rfl ?_
        refine own_acmp X302 hx 268 true (hb hby at_263) rfl rfl (decide_eq_true rfl) (by decide) (by decide) ?_
        refine own_iload X302 hx (hb hby at_268) rfl ?_
        refine own_iconst X302 hx (3 : Int32) (hb hby at_270) rfl ?_
        refine own_icmpNo X302 hx (hb hby at_271) (flt (by decide : ¬ ((3 : Int32) < (3 : Int32)))).1 ?_
        refine own_aload X302 hx (hb hby at_274) rfl rfl ?_
        refine own_iload X302 hx (hb hby at_276) rfl ?_
        refine own_lload X302 hx (hb hby at_278) rfl ?_
        refine own_lload X302 hx (hb hby at_280) rfl ?_
        refine own_lload X302 hx (hb hby at_282) rfl ?_
        refine own_iload X302 hx (hb hby at_284) rfl ?_
        refine own_iload X302 hx (hb hby at_286) rfl ?_
        refine own_lload X302 hx (hb hby at_288) rfl ?_
        refine own_cStat (W := 1) (rest := [(.ref o)]) X302 hx hZ [(.int z), (.long q0), (.long q1), (.long q1), (.int (1 : Int32)), (.int (0 : Int32)), (.long q1)] hown (hw _ (List.mem_of_getElem? (i := 65) rfl)) (hw _ (List.mem_of_getElem? (i := 66) rfl)) (by decide) (hw _ (List.mem_of_getElem? (i := 67) rfl)) (hw _ (List.mem_of_getElem? (i := 2) rfl)) e302 (rmDep_10 l Z a0 hw [] z q0 q1 q1 q1 T291.heap n0 Zs296) (by rw [hml]; rfl) (lenOf pd_7 rfl) rfl (Nat.le_of_eq rfl) (hb hby at_290) (by decide) (by decide) (by decide) (by decide) fun v303 T303 L303 X303 hQ303 => ?_
        obtain ⟨rfl, N303q, e303⟩ := hQ303
        have N303 := Fr.app N302 N303q
        show own_At p e below s _ _ _ T303 m 293 _ [(.int ((own_bet z q0 q1) + (own_bet z q1 q1))), (.ref o)]
        rw [show ((own_bet z q0 q1) + (own_bet z q1 q1)) = (0 : Int32) from by rw [own_betN RK0 RK1 (own_asym ht258), own_betN RK1 RK1 (own_irr _)]; decide]
        refine own_cVirt (W := 0) (rest := []) X303 hx hZ [(.int (0 : Int32))] hown (hw _ (List.mem_of_getElem? (i := 71) rfl)) (hw _ (List.mem_of_getElem? (i := 72) rfl)) (notFace_of_selects (args := #[]) (mvT hZ (hw _ (List.mem_of_getElem? (i := 74) rfl)))) (hw _ (List.mem_of_getElem? (i := 74) rfl)) (hw _ (List.mem_of_getElem? (i := 73) rfl)) (by decide) (hw _ (List.mem_of_getElem? (i := 75) rfl)) (hw _ (List.mem_of_getElem? (i := 7) rfl)) e303 f293 (rmLev_2_0 l Z a0 hw [] o ra la sd kr kl r0 r1 b285 b291 T291.heap n0 Zs296 LD291) (by rw [hml]; rfl) (lenOf pd_8 rfl) rfl (Nat.le_of_eq rfl) (hb hby at_293) (by decide) (by decide) (by decide) (by decide) fun v304 T304 L304 X304 hQ304 => ?_
        obtain ⟨rfl, N304q, e304⟩ := hQ304
        have N304 := Fr.app N303 N304q
        show own_At p e below s _ _ _ T304 m 296 _ [(.ref b291)]
        refine own_aload X304 hx (hb hby at_296) rfl rfl ?_
        refine own_acmp X304 hx 303 true (hb hby at_298) rfl rfl (decide_eq_true rfl) (by decide) (by decide) ?_
        refine own_iconst X304 hx (1 : Int32) (hb hby at_303) rfl ?_
        refine own_retN X304 hx hlk hret (by simp) (by decide) (hb hby at_304) (by decide) (by decide) ?_
        try rw [e304]
        exact ⟨rfl, N304⟩
      · refine own_astore (l' := #[.val (.int p1), .val (.long j1), .second, .val (.long j2), .second, .val (.long j3), .second, .val (.int z), .val (.int (3 : Int32)), .val (.long q0), .second, .val (.long q1), .second, .val (.long q2), .second, .val (.ref o), .unset, .unset, .unset, .unset, .unset, .unset]) X0 hx (hb hby at_68) rfl rfl ?_
        refine own_aload X0 hx (hb hby at_70) rfl rfl ?_
        refine own_lload X0 hx (hb hby at_72) rfl ?_
        refine own_cVirt (W := 0) (rest := []) X0 hx hZ [(.long q0)] hown (hw _ (List.mem_of_getElem? (i := 26) rfl)) (hw _ (List.mem_of_getElem? (i := 27) rfl)) (notFace_of_selects (args := #[]) (mvT hZ (hw _ (List.mem_of_getElem? (i := 29) rfl)))) (hw _ (List.mem_of_getElem? (i := 29) rfl)) (hw _ (List.mem_of_getElem? (i := 28) rfl)) (by decide) (hw _ (List.mem_of_getElem? (i := 30) rfl)) (hw _ (List.mem_of_getElem? (i := 7) rfl)) e0 Eo (rmAt_0_ins0 l Z a0 hw [] o ra la sd wB kr kl r0 q0 h0 n0 Z0 LD SB hs0 g_o g_ra g_la ) (by rw [hml]; rfl) (lenOf pd_5 rfl) rfl (Nat.le_of_eq rfl) (hb hby at_74) (by decide) (by decide) (by decide) (by decide) fun v305 T305 L305 X305 hQ305 => ?_
        obtain ⟨b305, rfl, N305q, K305, szb305, LD305⟩ := hQ305
        have N305 := Fr.app N0 N305q
        have f306 := (own_staKeep SB K305 (allS (own_exaStat Eo) (allS (own_exaStat Era) (allS (own_exaStat Ela) all0))))
        have f307 := (Exa.keep Eo K305)
        have f308 := (Exa.keep Era K305)
        have f309 := (Exa.keep Ela K305)
        have Zs310 : n0 ≤ T305.heap.size := (Nat.le_trans Z0 K305.1)
        have FZ305 := LD305.2.2.2.1
        show own_At p e below s _ _ _ T305 m 77 _ [(.ref b305)]
        refine own_astore (l' := #[.val (.int p1), .val (.long j1), .second, .val (.long j2), .second, .val (.long j3), .second, .val (.int z), .val (.int (3 : Int32)), .val (.long q0), .second, .val (.long q1), .second, .val (.long q2), .second, .val (.ref o), .val (.ref b305), .unset, .unset, .unset, .unset, .unset]) X305 hx (hb hby at_77) rfl rfl ?_
        refine own_iload X305 hx (hb hby at_79) rfl ?_
        refine own_iconst X305 hx (2 : Int32) (hb hby at_81) rfl ?_
        refine own_icmpNo X305 hx (hb hby at_82) (flt (by decide : ¬ ((3 : Int32) < (2 : Int32)))).1 ?_
        refine own_aload X305 hx (hb hby at_85) rfl rfl ?_
        refine own_lload X305 hx (hb hby at_87) rfl ?_
        refine own_cVirt (W := 0) (rest := []) X305 hx hZ [(.long q1)] hown (hw _ (List.mem_of_getElem? (i := 26) rfl)) (hw _ (List.mem_of_getElem? (i := 27) rfl)) (notFace_of_selects (args := #[]) (mvT hZ (hw _ (List.mem_of_getElem? (i := 29) rfl)))) (hw _ (List.mem_of_getElem? (i := 29) rfl)) (hw _ (List.mem_of_getElem? (i := 28) rfl)) (by decide) (hw _ (List.mem_of_getElem? (i := 30) rfl)) (hw _ (List.mem_of_getElem? (i := 7) rfl)) rfl f307 (rmAt_1_ins1 l Z a0 hw [] o ra la sd wB b305 kr kl r1 r0 q1 T305.heap n0 Zs310 LD305 f306 hs1 g_o g_ra g_la ht257) (by rw [hml]; rfl) (lenOf pd_5 rfl) rfl (Nat.le_of_eq rfl) (hb hby at_89) (by decide) (by decide) (by decide) (by decide) fun v311 T311 L311 X311 hQ311 => ?_
        obtain ⟨b311, rfl, N311q, K311, szb311, LD311⟩ := hQ311
        have N311 := Fr.app N305 N311q
        have f312 := (own_staKeep f306 K311 (allS (own_exaStat f307) (allS (own_exaStat f308) (allS (own_exaStat f309) all0))))
        have f313 := (Exa.keep f307 K311)
        have f314 := (Exa.keep f308 K311)
        have f315 := (Exa.keep f309 K311)
        have Zs316 : n0 ≤ T311.heap.size := (Nat.le_trans Zs310 K311.1)
        have FZ311 := LD311.2.2.2.1
        show own_At p e below s _ _ _ T311 m 92 _ [(.ref b311)]
        refine own_goto X311 hx 96 (hb hby at_92) (by decide) (by decide) ?_
        refine own_astore (l' := #[.val (.int p1), .val (.long j1), .second, .val (.long j2), .second, .val (.long j3), .second, .val (.int z), .val (.int (3 : Int32)), .val (.long q0), .second, .val (.long q1), .second, .val (.long q2), .second, .val (.ref o), .val (.ref b305), .val (.ref b311), .unset, .unset, .unset, .unset]) X311 hx (hb hby at_96) rfl rfl ?_
        refine own_iload X311 hx (hb hby at_98) rfl ?_
        refine own_iconst X311 hx (3 : Int32) (hb hby at_100) rfl ?_
        refine own_icmpNo X311 hx (hb hby at_101) (flt (by decide : ¬ ((3 : Int32) < (3 : Int32)))).1 ?_
        refine own_aload X311 hx (hb hby at_104) rfl rfl ?_
        refine own_lload X311 hx (hb hby at_106) rfl ?_
        refine own_cVirt (W := 0) (rest := []) X311 hx hZ [(.long q2)] hown (hw _ (List.mem_of_getElem? (i := 26) rfl)) (hw _ (List.mem_of_getElem? (i := 27) rfl)) (notFace_of_selects (args := #[]) (mvT hZ (hw _ (List.mem_of_getElem? (i := 29) rfl)))) (hw _ (List.mem_of_getElem? (i := 29) rfl)) (hw _ (List.mem_of_getElem? (i := 28) rfl)) (by decide) (hw _ (List.mem_of_getElem? (i := 30) rfl)) (hw _ (List.mem_of_getElem? (i := 7) rfl)) rfl f313 (rmAt_2_ins1 l Z a0 hw [] o ra la sd wB b305 b311 kr kl r2 r0 r1 q2 T311.heap n0 Zs316 LD311 f312 hs2 g_o g_ra g_la ht258 ht259) (by rw [hml]; rfl) (lenOf pd_5 rfl) rfl (Nat.le_of_eq rfl) (hb hby at_108) (by decide) (by decide) (by decide) (by decide) fun v317 T317 L317 X317 hQ317 => ?_
        obtain ⟨b317, rfl, N317q, K317, szb317, LD317⟩ := hQ317
        have N317 := Fr.app N311 N317q
        have f318 := (own_staKeep f312 K317 (allS (own_exaStat f313) (allS (own_exaStat f314) (allS (own_exaStat f315) all0))))
        have f319 := (Exa.keep f313 K317)
        have f320 := (Exa.keep f314 K317)
        have f321 := (Exa.keep f315 K317)
        have Zs322 : n0 ≤ T317.heap.size := (Nat.le_trans Zs316 K317.1)
        have FZ317 := LD317.2.2.2.1
        show own_At p e below s _ _ _ T317 m 111 _ [(.ref b317)]
        refine own_goto X317 hx 115 (hb hby at_111) (by decide) (by decide) ?_
        refine own_astore (l' := #[.val (.int p1), .val (.long j1), .second, .val (.long j2), .second, .val (.long j3), .second, .val (.int z), .val (.int (3 : Int32)), .val (.long q0), .second, .val (.long q1), .second, .val (.long q2), .second, .val (.ref o), .val (.ref b305), .val (.ref b311), .val (.ref b317), .unset, .unset, .unset]) X317 hx (hb hby at_115) rfl rfl ?_
        refine own_iload X317 hx (hb hby at_117) rfl ?_
        refine own_iconst X317 hx (2 : Int32) (hb hby at_119) rfl ?_
        refine own_icmpNo X317 hx (hb hby at_120) (flt (by decide : ¬ ((3 : Int32) < (2 : Int32)))).1 ?_
        refine own_lload X317 hx (hb hby at_123) rfl ?_
        refine own_lload X317 hx (hb hby at_125) rfl ?_
        refine own_lcmp X317 hx (hb hby at_127) ?_
        refine own_ifNo X317 hx (hb hby at_128) (feq (fun q => (own_rkN RK1 RK0 (own_gtne ht257)) ((lw_eq q1 q0).mp q))).1 ?_
        refine own_iconst X317 hx (1 : Int32) (hb hby at_131) rfl ?_
        refine own_goto X317 hx 136 (hb hby at_132) (by decide) (by decide) ?_
        refine own_istore (l' := #[.val (.int p1), .val (.long j1), .second, .val (.long j2), .second, .val (.long j3), .second, .val (.int z), .val (.int (3 : Int32)), .val (.long q0), .second, .val (.long q1), .second, .val (.long q2), .second, .val (.ref o), .val (.ref b305), .val (.ref b311), .val (.ref b317), .val (.int (1 : Int32)), .unset, .unset]) X317 hx (hb hby at_136) rfl ?_
        refine own_iload X317 hx (hb hby at_138) rfl ?_
        refine own_iconst X317 hx (3 : Int32) (hb hby at_140) rfl ?_
        refine own_icmpNo X317 hx (hb hby at_141) (flt (by decide : ¬ ((3 : Int32) < (3 : Int32)))).1 ?_
        refine own_lload X317 hx (hb hby at_144) rfl ?_
        refine own_lload X317 hx (hb hby at_146) rfl ?_
        refine own_lcmp X317 hx (hb hby at_148) ?_
        refine own_ifNo X317 hx (hb hby at_149) (feq (fun q => (own_rkN RK2 RK0 (own_gtne ht258)) ((lw_eq q2 q0).mp q))).1 ?_
        refine own_lload X317 hx (hb hby at_152) rfl ?_
        refine own_lload X317 hx (hb hby at_154) rfl ?_
        refine own_lcmp X317 hx (hb hby at_156) ?_
        refine own_ifNo X317 hx (hb hby at_157) (feq (fun q => (own_rkN RK2 RK1 (own_ltne ht259)) ((lw_eq q2 q1).mp q))).1 ?_
        refine own_iconst X317 hx (1 : Int32) (hb hby at_160) rfl ?_
        refine own_goto X317 hx 165 (hb hby at_161) (by decide) (by decide) ?_
        refine own_istore (l' := #[.val (.int p1), .val (.long j1), .second, .val (.long j2), .second, .val (.long j3), .second, .val (.int z), .val (.int (3 : Int32)), .val (.long q0), .second, .val (.long q1), .second, .val (.long q2), .second, .val (.ref o), .val (.ref b305), .val (.ref b311), .val (.ref b317), .val (.int (1 : Int32)), .val (.int (1 : Int32)), .unset]) X317 hx (hb hby at_165) rfl ?_
        refine own_iconst X317 hx (1 : Int32) (hb hby at_167) rfl ?_
        refine own_iload X317 hx (hb hby at_168) rfl ?_
        refine own_ifNo X317 hx (hb hby at_170) (feq (by decide : ¬ ((1 : Int32) = (0 : Int32)))).1 ?_
        refine own_iconst X317 hx (1 : Int32) (hb hby at_173) rfl ?_
        refine own_goto X317 hx 178 (hb hby at_174) (by decide) (by decide) ?_
        refine own_iadd X317 hx (hb hby at_178) ?_
        rw [show ((1 : Int32) + (1 : Int32)) = (2 : Int32) from by decide]
        refine own_iload X317 hx (hb hby at_179) rfl ?_
        refine own_ifNo X317 hx (hb hby at_181) (feq (by decide : ¬ ((1 : Int32) = (0 : Int32)))).1 ?_
        refine own_iconst X317 hx (1 : Int32) (hb hby at_184) rfl ?_
        refine own_goto X317 hx 189 (hb hby at_185) (by decide) (by decide) ?_
        refine own_iadd X317 hx (hb hby at_189) ?_
        rw [show ((2 : Int32) + (1 : Int32)) = (3 : Int32) from by decide]
        refine own_istore (l' := #[.val (.int p1), .val (.long j1), .second, .val (.long j2), .second, .val (.long j3), .second, .val (.int z), .val (.int (3 : Int32)), .val (.long q0), .second, .val (.long q1), .second, .val (.long q2), .second, .val (.ref o), .val (.ref b305), .val (.ref b311), .val (.ref b317), .val (.int (1 : Int32)), .val (.int (1 : Int32)), .val (.int (3 : Int32))]) X317 hx (hb hby at_190) rfl ?_
        refine own_aload X317 hx (hb hby at_192) rfl rfl ?_
        refine own_cVirt (W := 0) (rest := []) X317 hx hZ [] hown (hw _ (List.mem_of_getElem? (i := 60) rfl)) (hw _ (List.mem_of_getElem? (i := 61) rfl)) (notFace_of_selects (args := #[]) (mvT hZ (hw _ (List.mem_of_getElem? (i := 63) rfl)))) (hw _ (List.mem_of_getElem? (i := 63) rfl)) (hw _ (List.mem_of_getElem? (i := 62) rfl)) (by decide) (hw _ (List.mem_of_getElem? (i := 64) rfl)) (hw _ (List.mem_of_getElem? (i := 7) rfl)) rfl f319 (rmSize l Z a0 hw [] o (3 : Int32) T317.heap n0 Zs322 FZ317) (by rw [hml]; rfl) (lenOf pd_6 rfl) rfl (Nat.le_of_eq rfl) (hb hby at_194) (by decide) (by decide) (by decide) (by decide) fun v323 T323 L323 X323 hQ323 => ?_
        obtain ⟨rfl, N323q, e323⟩ := hQ323
        have N323 := Fr.app N317 N323q
        show own_At p e below s _ _ _ T323 m 197 _ [(.int (3 : Int32))]
        refine own_iload X323 hx (hb hby at_197) rfl ?_
        refine own_icmpYes X323 hx 204 (hb hby at_199) (teq (by decide : (3 : Int32) = (3 : Int32))).1 (by decide) (by decide) ?_
        refine own_aload X323 hx (hb hby at_204) rfl rfl ?_
        refine own_iload X323 hx (hb hby at_206) rfl ?_
        refine own_lload X323 hx (hb hby at_208) rfl ?_
        refine own_lload X323 hx (hb hby at_210) rfl ?_
        refine own_lload X323 hx (hb hby at_212) rfl ?_
        refine own_iload X323 hx (hb hby at_214) rfl ?_
        refine own_iload X323 hx (hb hby at_216) rfl ?_
        refine own_lload X323 hx (hb hby at_218) rfl ?_
        refine own_cStat (W := 1) (rest := [(.ref o)]) X323 hx hZ [(.int z), (.long q0), (.long q1), (.long q2), (.int (1 : Int32)), (.int (1 : Int32)), (.long q0)] hown (hw _ (List.mem_of_getElem? (i := 65) rfl)) (hw _ (List.mem_of_getElem? (i := 66) rfl)) (by decide) (hw _ (List.mem_of_getElem? (i := 67) rfl)) (hw _ (List.mem_of_getElem? (i := 2) rfl)) e323 (rmDep_11 l Z a0 hw [] z q0 q1 q2 q0 T317.heap n0 Zs322) (by rw [hml]; rfl) (lenOf pd_7 rfl) rfl (Nat.le_of_eq rfl) (hb hby at_220) (by decide) (by decide) (by decide) (by decide) fun v324 T324 L324 X324 hQ324 => ?_
        obtain ⟨rfl, N324q, e324⟩ := hQ324
        have N324 := Fr.app N323 N324q
        show own_At p e below s _ _ _ T324 m 223 _ [(.int (((own_bet z q0 q0) + (own_bet z q1 q0)) + (own_bet z q2 q0))), (.ref o)]
        rw [show (((own_bet z q0 q0) + (own_bet z q1 q0)) + (own_bet z q2 q0)) = (2 : Int32) from by rw [own_betN RK0 RK0 (own_irr _), own_betY RK1 RK0 ht257, own_betY RK2 RK0 ht258]; decide]
        refine own_cVirt (W := 0) (rest := []) X324 hx hZ [(.int (2 : Int32))] hown (hw _ (List.mem_of_getElem? (i := 71) rfl)) (hw _ (List.mem_of_getElem? (i := 72) rfl)) (notFace_of_selects (args := #[]) (mvT hZ (hw _ (List.mem_of_getElem? (i := 74) rfl)))) (hw _ (List.mem_of_getElem? (i := 74) rfl)) (hw _ (List.mem_of_getElem? (i := 73) rfl)) (by decide) (hw _ (List.mem_of_getElem? (i := 75) rfl)) (hw _ (List.mem_of_getElem? (i := 7) rfl)) e324 f319 (rmLev_3_2 l Z a0 hw [] o ra la sd kr kl r0 r2 r1 b305 b317 b311 T317.heap n0 Zs322 LD317) (by rw [hml]; rfl) (lenOf pd_8 rfl) rfl (Nat.le_of_eq rfl) (hb hby at_223) (by decide) (by decide) (by decide) (by decide) fun v325 T325 L325 X325 hQ325 => ?_
        obtain ⟨rfl, N325q, e325⟩ := hQ325
        have N325 := Fr.app N324 N325q
        show own_At p e below s _ _ _ T325 m 226 _ [(.ref b305)]
        refine own_aload X325 hx (hb hby at_226) rfl rfl ?_
        refine own_acmp X325 hx 233 true (hb hby at_228) rfl rfl (decide_eq_true rfl) (by decide) (by decide) ?_
        refine own_iload X325 hx (hb hby at_233) rfl ?_
        refine own_iconst X325 hx (2 : Int32) (hb hby at_235) rfl ?_
        refine own_icmpNo X325 hx (hb hby at_236) (flt (by decide : ¬ ((3 : Int32) < (2 : Int32)))).1 ?_
        refine own_aload X325 hx (hb hby at_239) rfl rfl ?_
        refine own_iload X325 hx (hb hby at_241) rfl ?_
        refine own_lload X325 hx (hb hby at_243) rfl ?_
        refine own_lload X325 hx (hb hby at_245) rfl ?_
        refine own_lload X325 hx (hb hby at_247) rfl ?_
        refine own_iload X325 hx (hb hby at_249) rfl ?_
        refine own_iload X325 hx (hb hby at_251) rfl ?_
        refine own_lload X325 hx (hb hby at_253) rfl ?_
        refine own_cStat (W := 1) (rest := [(.ref o)]) X325 hx hZ [(.int z), (.long q0), (.long q1), (.long q2), (.int (1 : Int32)), (.int (1 : Int32)), (.long q1)] hown (hw _ (List.mem_of_getElem? (i := 65) rfl)) (hw _ (List.mem_of_getElem? (i := 66) rfl)) (by decide) (hw _ (List.mem_of_getElem? (i := 67) rfl)) (hw _ (List.mem_of_getElem? (i := 2) rfl)) e325 (rmDep_11 l Z a0 hw [] z q0 q1 q2 q1 T317.heap n0 Zs322) (by rw [hml]; rfl) (lenOf pd_7 rfl) rfl (Nat.le_of_eq rfl) (hb hby at_255) (by decide) (by decide) (by decide) (by decide) fun v326 T326 L326 X326 hQ326 => ?_
        obtain ⟨rfl, N326q, e326⟩ := hQ326
        have N326 := Fr.app N325 N326q
        show own_At p e below s _ _ _ T326 m 258 _ [(.int (((own_bet z q0 q1) + (own_bet z q1 q1)) + (own_bet z q2 q1))), (.ref o)]
        rw [show (((own_bet z q0 q1) + (own_bet z q1 q1)) + (own_bet z q2 q1)) = (0 : Int32) from by rw [own_betN RK0 RK1 (own_asym ht257), own_betN RK1 RK1 (own_irr _), own_betN RK2 RK1 (own_asym ht259)]; decide]
        refine own_cVirt (W := 0) (rest := []) X326 hx hZ [(.int (0 : Int32))] hown (hw _ (List.mem_of_getElem? (i := 71) rfl)) (hw _ (List.mem_of_getElem? (i := 72) rfl)) (notFace_of_selects (args := #[]) (mvT hZ (hw _ (List.mem_of_getElem? (i := 74) rfl)))) (hw _ (List.mem_of_getElem? (i := 74) rfl)) (hw _ (List.mem_of_getElem? (i := 73) rfl)) (by decide) (hw _ (List.mem_of_getElem? (i := 75) rfl)) (hw _ (List.mem_of_getElem? (i := 7) rfl)) e326 f319 (rmLev_3_0 l Z a0 hw [] o ra la sd kr kl r0 r2 r1 b305 b317 b311 T317.heap n0 Zs322 LD317) (by rw [hml]; rfl) (lenOf pd_8 rfl) rfl (Nat.le_of_eq rfl) (hb hby at_258) (by decide) (by decide) (by decide) (by decide) fun v327 T327 L327 X327 hQ327 => ?_
        obtain ⟨rfl, N327q, e327⟩ := hQ327
        have N327 := Fr.app N326 N327q
        show own_At p e below s _ _ _ T327 m 261 _ [(.ref b311)]
        refine own_aload X327 hx (hb hby at_261) rfl rfl ?_
        refine own_acmp X327 hx 268 true (hb hby at_263) rfl rfl (decide_eq_true rfl) (by decide) (by decide) ?_
        refine own_iload X327 hx (hb hby at_268) rfl ?_
        refine own_iconst X327 hx (3 : Int32) (hb hby at_270) rfl ?_
        refine own_icmpNo X327 hx (hb hby at_271) (flt (by decide : ¬ ((3 : Int32) < (3 : Int32)))).1 ?_
        refine own_aload X327 hx (hb hby at_274) rfl rfl ?_
        refine own_iload X327 hx (hb hby at_276) rfl ?_
        refine own_lload X327 hx (hb hby at_278) rfl ?_
        refine own_lload X327 hx (hb hby at_280) rfl ?_
        refine own_lload X327 hx (hb hby at_282) rfl ?_
        refine own_iload X327 hx (hb hby at_284) rfl ?_
        refine own_iload X327 hx (hb hby at_286) rfl ?_
        refine own_lload X327 hx (hb hby at_288) rfl ?_
        refine own_cStat (W := 1) (rest := [(.ref o)]) X327 hx hZ [(.int z), (.long q0), (.long q1), (.long q2), (.int (1 : Int32)), (.int (1 : Int32)), (.long q2)] hown (hw _ (List.mem_of_getElem? (i := 65) rfl)) (hw _ (List.mem_of_getElem? (i := 66) rfl)) (by decide) (hw _ (List.mem_of_getElem? (i := 67) rfl)) (hw _ (List.mem_of_getElem? (i := 2) rfl)) e327 (rmDep_11 l Z a0 hw [] z q0 q1 q2 q2 T317.heap n0 Zs322) (by rw [hml]; rfl) (lenOf pd_7 rfl) rfl (Nat.le_of_eq rfl) (hb hby at_290) (by decide) (by decide) (by decide) (by decide) fun v328 T328 L328 X328 hQ328 => ?_
        obtain ⟨rfl, N328q, e328⟩ := hQ328
        have N328 := Fr.app N327 N328q
        show own_At p e below s _ _ _ T328 m 293 _ [(.int (((own_bet z q0 q2) + (own_bet z q1 q2)) + (own_bet z q2 q2))), (.ref o)]
        rw [show (((own_bet z q0 q2) + (own_bet z q1 q2)) + (own_bet z q2 q2)) = (1 : Int32) from by rw [own_betN RK0 RK2 (own_asym ht258), own_betY RK1 RK2 ht259, own_betN RK2 RK2 (own_irr _)]; decide]
        refine own_cVirt (W := 0) (rest := []) X328 hx hZ [(.int (1 : Int32))] hown (hw _ (List.mem_of_getElem? (i := 71) rfl)) (hw _ (List.mem_of_getElem? (i := 72) rfl)) (notFace_of_selects (args := #[]) (mvT hZ (hw _ (List.mem_of_getElem? (i := 74) rfl)))) (hw _ (List.mem_of_getElem? (i := 74) rfl)) (hw _ (List.mem_of_getElem? (i := 73) rfl)) (by decide) (hw _ (List.mem_of_getElem? (i := 75) rfl)) (hw _ (List.mem_of_getElem? (i := 7) rfl)) e328 f319 (rmLev_3_1 l Z a0 hw [] o ra la sd kr kl r0 r2 r1 b305 b317 b311 T317.heap n0 Zs322 LD317) (by rw [hml]; rfl) (lenOf pd_8 rfl) rfl (Nat.le_of_eq rfl) (hb hby at_293) (by decide) (by decide) (by decide) (by decide) fun v329 T329 L329 X329 hQ329 => ?_
        obtain ⟨rfl, N329q, e329⟩ := hQ329
        have N329 := Fr.app N328 N329q
        show own_At p e below s _ _ _ T329 m 296 _ [(.ref b317)]
        refine own_aload X329 hx (hb hby at_296) rfl rfl ?_
        refine own_acmp X329 hx 303 true (hb hby at_298) rfl rfl (decide_eq_true rfl) (by decide) (by decide) ?_
        refine own_iconst X329 hx (1 : Int32) (hb hby at_303) rfl ?_
        refine own_retN X329 hx hlk hret (by simp) (by decide) (hb hby at_304) (by decide) (by decide) ?_
        try rw [e329]
        exact ⟨rfl, N329⟩
    · obtain rfl := own_rkI RK0 RK2
      refine own_astore (l' := #[.val (.int p1), .val (.long j1), .second, .val (.long j2), .second, .val (.long j3), .second, .val (.int z), .val (.int (3 : Int32)), .val (.long q0), .second, .val (.long q1), .second, .val (.long q0), .second, .val (.ref o), .unset, .unset, .unset, .unset, .unset, .unset]) X0 hx (hb hby at_68) rfl rfl ?_
      refine own_aload X0 hx (hb hby at_70) rfl rfl ?_
      refine own_lload X0 hx (hb hby at_72) rfl ?_
      refine own_cVirt (W := 0) (rest := []) X0 hx hZ [(.long q0)] hown (hw _ (List.mem_of_getElem? (i := 26) rfl)) (hw _ (List.mem_of_getElem? (i := 27) rfl)) (notFace_of_selects (args := #[]) (mvT hZ (hw _ (List.mem_of_getElem? (i := 29) rfl)))) (hw _ (List.mem_of_getElem? (i := 29) rfl)) (hw _ (List.mem_of_getElem? (i := 28) rfl)) (by decide) (hw _ (List.mem_of_getElem? (i := 30) rfl)) (hw _ (List.mem_of_getElem? (i := 7) rfl)) e0 Eo (rmAt_0_ins0 l Z a0 hw [] o ra la sd wB kr kl r0 q0 h0 n0 Z0 LD SB hs0 g_o g_ra g_la ) (by rw [hml]; rfl) (lenOf pd_5 rfl) rfl (Nat.le_of_eq rfl) (hb hby at_74) (by decide) (by decide) (by decide) (by decide) fun v330 T330 L330 X330 hQ330 => ?_
      obtain ⟨b330, rfl, N330q, K330, szb330, LD330⟩ := hQ330
      have N330 := Fr.app N0 N330q
      have f331 := (own_staKeep SB K330 (allS (own_exaStat Eo) (allS (own_exaStat Era) (allS (own_exaStat Ela) all0))))
      have f332 := (Exa.keep Eo K330)
      have f333 := (Exa.keep Era K330)
      have f334 := (Exa.keep Ela K330)
      have Zs335 : n0 ≤ T330.heap.size := (Nat.le_trans Z0 K330.1)
      have FZ330 := LD330.2.2.2.1
      show own_At p e below s _ _ _ T330 m 77 _ [(.ref b330)]
      refine own_astore (l' := #[.val (.int p1), .val (.long j1), .second, .val (.long j2), .second, .val (.long j3), .second, .val (.int z), .val (.int (3 : Int32)), .val (.long q0), .second, .val (.long q1), .second, .val (.long q0), .second, .val (.ref o), .val (.ref b330), .unset, .unset, .unset, .unset, .unset]) X330 hx (hb hby at_77) rfl rfl ?_
      refine own_iload X330 hx (hb hby at_79) rfl ?_
      refine own_iconst X330 hx (2 : Int32) (hb hby at_81) rfl ?_
      refine own_icmpNo X330 hx (hb hby at_82) (flt (by decide : ¬ ((3 : Int32) < (2 : Int32)))).1 ?_
      refine own_aload X330 hx (hb hby at_85) rfl rfl ?_
      refine own_lload X330 hx (hb hby at_87) rfl ?_
      refine own_cVirt (W := 0) (rest := []) X330 hx hZ [(.long q1)] hown (hw _ (List.mem_of_getElem? (i := 26) rfl)) (hw _ (List.mem_of_getElem? (i := 27) rfl)) (notFace_of_selects (args := #[]) (mvT hZ (hw _ (List.mem_of_getElem? (i := 29) rfl)))) (hw _ (List.mem_of_getElem? (i := 29) rfl)) (hw _ (List.mem_of_getElem? (i := 28) rfl)) (by decide) (hw _ (List.mem_of_getElem? (i := 30) rfl)) (hw _ (List.mem_of_getElem? (i := 7) rfl)) rfl f332 (rmAt_1_ins1 l Z a0 hw [] o ra la sd wB b330 kr kl r1 r0 q1 T330.heap n0 Zs335 LD330 f331 hs1 g_o g_ra g_la ht257) (by rw [hml]; rfl) (lenOf pd_5 rfl) rfl (Nat.le_of_eq rfl) (hb hby at_89) (by decide) (by decide) (by decide) (by decide) fun v336 T336 L336 X336 hQ336 => ?_
      obtain ⟨b336, rfl, N336q, K336, szb336, LD336⟩ := hQ336
      have N336 := Fr.app N330 N336q
      have f337 := (own_staKeep f331 K336 (allS (own_exaStat f332) (allS (own_exaStat f333) (allS (own_exaStat f334) all0))))
      have f338 := (Exa.keep f332 K336)
      have f339 := (Exa.keep f333 K336)
      have f340 := (Exa.keep f334 K336)
      have Zs341 : n0 ≤ T336.heap.size := (Nat.le_trans Zs335 K336.1)
      have FZ336 := LD336.2.2.2.1
      show own_At p e below s _ _ _ T336 m 92 _ [(.ref b336)]
      refine own_goto X336 hx 96 (hb hby at_92) (by decide) (by decide) ?_
      refine own_astore (l' := #[.val (.int p1), .val (.long j1), .second, .val (.long j2), .second, .val (.long j3), .second, .val (.int z), .val (.int (3 : Int32)), .val (.long q0), .second, .val (.long q1), .second, .val (.long q0), .second, .val (.ref o), .val (.ref b330), .val (.ref b336), .unset, .unset, .unset, .unset]) X336 hx (hb hby at_96) rfl rfl ?_
      refine own_iload X336 hx (hb hby at_98) rfl ?_
      refine own_iconst X336 hx (3 : Int32) (hb hby at_100) rfl ?_
      refine own_icmpNo X336 hx (hb hby at_101) (flt (by decide : ¬ ((3 : Int32) < (3 : Int32)))).1 ?_
      refine own_aload X336 hx (hb hby at_104) rfl rfl ?_
      refine own_lload X336 hx (hb hby at_106) rfl ?_
      refine own_cVirt (W := 0) (rest := []) X336 hx hZ [(.long q0)] hown (hw _ (List.mem_of_getElem? (i := 26) rfl)) (hw _ (List.mem_of_getElem? (i := 27) rfl)) (notFace_of_selects (args := #[]) (mvT hZ (hw _ (List.mem_of_getElem? (i := 29) rfl)))) (hw _ (List.mem_of_getElem? (i := 29) rfl)) (hw _ (List.mem_of_getElem? (i := 28) rfl)) (by decide) (hw _ (List.mem_of_getElem? (i := 30) rfl)) (hw _ (List.mem_of_getElem? (i := 7) rfl)) rfl f338 (rmAt_2_found0 l Z a0 hw [] o ra la sd wB b330 b336 kr kl r0 r1 q0 T336.heap n0 Zs341 LD336 f337 hs0 g_o g_ra g_la ) (by rw [hml]; rfl) (lenOf pd_5 rfl) rfl (Nat.le_of_eq rfl) (hb hby at_108) (by decide) (by decide) (by decide) (by decide) fun v342 T342 L342 X342 hQ342 => ?_
      obtain ⟨rfl, N342q, e342⟩ := hQ342
      have N342 := Fr.app N336 N342q
      show own_At p e below s _ _ _ T342 m 111 _ [(.ref b330)]
      refine own_goto X342 hx 115 (hb hby at_111) (by decide) (by decide) ?_
      refine own_astore (l' := #[.val (.int p1), .val (.long j1), .second, .val (.long j2), .second, .val (.long j3), .second, .val (.int z), .val (.int (3 : Int32)), .val (.long q0), .second, .val (.long q1), .second, .val (.long q0), .second, .val (.ref o), .val (.ref b330), .val (.ref b336), .val (.ref b330), .unset, .unset, .unset]) X342 hx (hb hby at_115) rfl rfl ?_
      refine own_iload X342 hx (hb hby at_117) rfl ?_
      refine own_iconst X342 hx (2 : Int32) (hb hby at_119) rfl ?_
      refine own_icmpNo X342 hx (hb hby at_120) (flt (by decide : ¬ ((3 : Int32) < (2 : Int32)))).1 ?_
      refine own_lload X342 hx (hb hby at_123) rfl ?_
      refine own_lload X342 hx (hb hby at_125) rfl ?_
      refine own_lcmp X342 hx (hb hby at_127) ?_
      refine own_ifNo X342 hx (hb hby at_128) (feq (fun q => (own_rkN RK1 RK0 (own_gtne ht257)) ((lw_eq q1 q0).mp q))).1 ?_
      refine own_iconst X342 hx (1 : Int32) (hb hby at_131) rfl ?_
      refine own_goto X342 hx 136 (hb hby at_132) (by decide) (by decide) ?_
      refine own_istore (l' := #[.val (.int p1), .val (.long j1), .second, .val (.long j2), .second, .val (.long j3), .second, .val (.int z), .val (.int (3 : Int32)), .val (.long q0), .second, .val (.long q1), .second, .val (.long q0), .second, .val (.ref o), .val (.ref b330), .val (.ref b336), .val (.ref b330), .val (.int (1 : Int32)), .unset, .unset]) X342 hx (hb hby at_136) rfl ?_
      refine own_iload X342 hx (hb hby at_138) rfl ?_
      refine own_iconst X342 hx (3 : Int32) (hb hby at_140) rfl ?_
      refine own_icmpNo X342 hx (hb hby at_141) (flt (by decide : ¬ ((3 : Int32) < (3 : Int32)))).1 ?_
      refine own_lload X342 hx (hb hby at_144) rfl ?_
      refine own_lload X342 hx (hb hby at_146) rfl ?_
      refine own_lcmp X342 hx (hb hby at_148) ?_
      refine own_ifYes X342 hx 164 (hb hby at_149) (teq ((lw_eq q0 q0).mpr (rfl : q0 = q0))).1 (by decide) (by decide) ?_
      refine own_iconst X342 hx (0 : Int32) (hb hby at_164) rfl ?_
      refine own_istore (l' := #[.val (.int p1), .val (.long j1), .second, .val (.long j2), .second, .val (.long j3), .second, .val (.int z), .val (.int (3 : Int32)), .val (.long q0), .second, .val (.long q1), .second, .val (.long q0), .second, .val (.ref o), .val (.ref b330), .val (.ref b336), .val (.ref b330), .val (.int (1 : Int32)), .val (.int (0 : Int32)), .unset]) X342 hx (hb hby at_165) rfl ?_
      refine own_iconst X342 hx (1 : Int32) (hb hby at_167) rfl ?_
      refine own_iload X342 hx (hb hby at_168) rfl ?_
      refine own_ifNo X342 hx (hb hby at_170) (feq (by decide : ¬ ((1 : Int32) = (0 : Int32)))).1 ?_
      refine own_iconst X342 hx (1 : Int32) (hb hby at_173) rfl ?_
      refine own_goto X342 hx 178 (hb hby at_174) (by decide) (by decide) ?_
      refine own_iadd X342 hx (hb hby at_178) ?_
      rw [show ((1 : Int32) + (1 : Int32)) = (2 : Int32) from by decide]
      refine own_iload X342 hx (hb hby at_179) rfl ?_
      refine own_ifYes X342 hx 188 (hb hby at_181) (teq (by decide : (0 : Int32) = (0 : Int32))).1 (by decide) (by decide) ?_
      refine own_iconst X342 hx (0 : Int32) (hb hby at_188) rfl ?_
      refine own_iadd X342 hx (hb hby at_189) ?_
      rw [show ((2 : Int32) + (0 : Int32)) = (2 : Int32) from by decide]
      refine own_istore (l' := #[.val (.int p1), .val (.long j1), .second, .val (.long j2), .second, .val (.long j3), .second, .val (.int z), .val (.int (3 : Int32)), .val (.long q0), .second, .val (.long q1), .second, .val (.long q0), .second, .val (.ref o), .val (.ref b330), .val (.ref b336), .val (.ref b330), .val (.int (1 : Int32)), .val (.int (0 : Int32)), .val (.int (2 : Int32))]) X342 hx (hb hby at_190) rfl ?_
      refine own_aload X342 hx (hb hby at_192) rfl rfl ?_
      refine own_cVirt (W := 0) (rest := []) X342 hx hZ [] hown (hw _ (List.mem_of_getElem? (i := 60) rfl)) (hw _ (List.mem_of_getElem? (i := 61) rfl)) (notFace_of_selects (args := #[]) (mvT hZ (hw _ (List.mem_of_getElem? (i := 63) rfl)))) (hw _ (List.mem_of_getElem? (i := 63) rfl)) (hw _ (List.mem_of_getElem? (i := 62) rfl)) (by decide) (hw _ (List.mem_of_getElem? (i := 64) rfl)) (hw _ (List.mem_of_getElem? (i := 7) rfl)) e342 f338 (rmSize l Z a0 hw [] o (2 : Int32) T336.heap n0 Zs341 FZ336) (by rw [hml]; rfl) (lenOf pd_6 rfl) rfl (Nat.le_of_eq rfl) (hb hby at_194) (by decide) (by decide) (by decide) (by decide) fun v343 T343 L343 X343 hQ343 => ?_
      obtain ⟨rfl, N343q, e343⟩ := hQ343
      have N343 := Fr.app N342 N343q
      show own_At p e below s _ _ _ T343 m 197 _ [(.int (2 : Int32))]
      refine own_iload X343 hx (hb hby at_197) rfl ?_
      refine own_icmpYes X343 hx 204 (hb hby at_199) (teq (by decide : (2 : Int32) = (2 : Int32))).1 (by decide) (by decide) ?_
      refine own_aload X343 hx (hb hby at_204) rfl rfl ?_
      refine own_iload X343 hx (hb hby at_206) rfl ?_
      refine own_lload X343 hx (hb hby at_208) rfl ?_
      refine own_lload X343 hx (hb hby at_210) rfl ?_
      refine own_lload X343 hx (hb hby at_212) rfl ?_
      refine own_iload X343 hx (hb hby at_214) rfl ?_
      refine own_iload X343 hx (hb hby at_216) rfl ?_
      refine own_lload X343 hx (hb hby at_218) rfl ?_
      refine own_cStat (W := 1) (rest := [(.ref o)]) X343 hx hZ [(.int z), (.long q0), (.long q1), (.long q0), (.int (1 : Int32)), (.int (0 : Int32)), (.long q0)] hown (hw _ (List.mem_of_getElem? (i := 65) rfl)) (hw _ (List.mem_of_getElem? (i := 66) rfl)) (by decide) (hw _ (List.mem_of_getElem? (i := 67) rfl)) (hw _ (List.mem_of_getElem? (i := 2) rfl)) e343 (rmDep_10 l Z a0 hw [] z q0 q1 q0 q0 T336.heap n0 Zs341) (by rw [hml]; rfl) (lenOf pd_7 rfl) rfl (Nat.le_of_eq rfl) (hb hby at_220) (by decide) (by decide) (by decide) (by decide) fun v344 T344 L344 X344 hQ344 => ?_
      obtain ⟨rfl, N344q, e344⟩ := hQ344
      have N344 := Fr.app N343 N344q
      show own_At p e below s _ _ _ T344 m 223 _ [(.int ((own_bet z q0 q0) + (own_bet z q1 q0))), (.ref o)]
      rw [show ((own_bet z q0 q0) + (own_bet z q1 q0)) = (1 : Int32) from by rw [own_betN RK0 RK0 (own_irr _), own_betY RK1 RK0 ht257]; decide]
      refine own_cVirt (W := 0) (rest := []) X344 hx hZ [(.int (1 : Int32))] hown (hw _ (List.mem_of_getElem? (i := 71) rfl)) (hw _ (List.mem_of_getElem? (i := 72) rfl)) (notFace_of_selects (args := #[]) (mvT hZ (hw _ (List.mem_of_getElem? (i := 74) rfl)))) (hw _ (List.mem_of_getElem? (i := 74) rfl)) (hw _ (List.mem_of_getElem? (i := 73) rfl)) (by decide) (hw _ (List.mem_of_getElem? (i := 75) rfl)) (hw _ (List.mem_of_getElem? (i := 7) rfl)) e344 f338 (rmLev_2_1 l Z a0 hw [] o ra la sd kr kl r0 r1 b330 b336 T336.heap n0 Zs341 LD336) (by rw [hml]; rfl) (lenOf pd_8 rfl) rfl (Nat.le_of_eq rfl) (hb hby at_223) (by decide) (by decide) (by decide) (by decide) fun v345 T345 L345 X345 hQ345 => ?_
      obtain ⟨rfl, N345q, e345⟩ := hQ345
      have N345 := Fr.app N344 N345q
      show own_At p e below s _ _ _ T345 m 226 _ [(.ref b330)]
      refine own_aload X345 hx (hb hby at_226) rfl rfl ?_
      refine own_acmp X345 hx 233 true (hb hby at_228) rfl rfl (decide_eq_true rfl) (by decide) (by decide) ?_
      refine own_iload X345 hx (hb hby at_233) rfl ?_
      refine own_iconst X345 hx (2 : Int32) (hb hby at_235) rfl ?_
      refine own_icmpNo X345 hx (hb hby at_236) (flt (by decide : ¬ ((3 : Int32) < (2 : Int32)))).1 ?_
      refine own_aload X345 hx (hb hby at_239) rfl rfl ?_
      refine own_iload X345 hx (hb hby at_241) rfl ?_
      refine own_lload X345 hx (hb hby at_243) rfl ?_
      refine own_lload X345 hx (hb hby at_245) rfl ?_
      refine own_lload X345 hx (hb hby at_247) rfl ?_
      refine own_iload X345 hx (hb hby at_249) rfl ?_
      refine own_iload X345 hx (hb hby at_251) rfl ?_
      refine own_lload X345 hx (hb hby at_253) rfl ?_
      refine own_cStat (W := 1) (rest := [(.ref o)]) X345 hx hZ [(.int z), (.long q0), (.long q1), (.long q0), (.int (1 : Int32)), (.int (0 : Int32)), (.long q1)] hown (hw _ (List.mem_of_getElem? (i := 65) rfl)) (hw _ (List.mem_of_getElem? (i := 66) rfl)) (by decide) (hw _ (List.mem_of_getElem? (i := 67) rfl)) (hw _ (List.mem_of_getElem? (i := 2) rfl)) e345 (rmDep_10 l Z a0 hw [] z q0 q1 q0 q1 T336.heap n0 Zs341) (by rw [hml]; rfl) (lenOf pd_7 rfl) rfl (Nat.le_of_eq rfl) (hb hby at_255) (by decide) (by decide) (by decide) (by decide) fun v346 T346 L346 X346 hQ346 => ?_
      obtain ⟨rfl, N346q, e346⟩ := hQ346
      have N346 := Fr.app N345 N346q
      show own_At p e below s _ _ _ T346 m 258 _ [(.int ((own_bet z q0 q1) + (own_bet z q1 q1))), (.ref o)]
      rw [show ((own_bet z q0 q1) + (own_bet z q1 q1)) = (0 : Int32) from by rw [own_betN RK0 RK1 (own_asym ht257), own_betN RK1 RK1 (own_irr _)]; decide]
      refine own_cVirt (W := 0) (rest := []) X346 hx hZ [(.int (0 : Int32))] hown (hw _ (List.mem_of_getElem? (i := 71) rfl)) (hw _ (List.mem_of_getElem? (i := 72) rfl)) (notFace_of_selects (args := #[]) (mvT hZ (hw _ (List.mem_of_getElem? (i := 74) rfl)))) (hw _ (List.mem_of_getElem? (i := 74) rfl)) (hw _ (List.mem_of_getElem? (i := 73) rfl)) (by decide) (hw _ (List.mem_of_getElem? (i := 75) rfl)) (hw _ (List.mem_of_getElem? (i := 7) rfl)) e346 f338 (rmLev_2_0 l Z a0 hw [] o ra la sd kr kl r0 r1 b330 b336 T336.heap n0 Zs341 LD336) (by rw [hml]; rfl) (lenOf pd_8 rfl) rfl (Nat.le_of_eq rfl) (hb hby at_258) (by decide) (by decide) (by decide) (by decide) fun v347 T347 L347 X347 hQ347 => ?_
      obtain ⟨rfl, N347q, e347⟩ := hQ347
      have N347 := Fr.app N346 N347q
      show own_At p e below s _ _ _ T347 m 261 _ [(.ref b336)]
      refine own_aload X347 hx (hb hby at_261) rfl rfl ?_
      refine own_acmp X347 hx 268 true (hb hby at_263) rfl rfl (decide_eq_true rfl) (by decide) (by decide) ?_
      refine own_iload X347 hx (hb hby at_268) rfl ?_
      refine own_iconst X347 hx (3 : Int32) (hb hby at_270) rfl ?_
      refine own_icmpNo X347 hx (hb hby at_271) (flt (by decide : ¬ ((3 : Int32) < (3 : Int32)))).1 ?_
      refine own_aload X347 hx (hb hby at_274) rfl rfl ?_
      refine own_iload X347 hx (hb hby at_276) rfl ?_
      refine own_lload X347 hx (hb hby at_278) rfl ?_
      refine own_lload X347 hx (hb hby at_280) rfl ?_
      refine own_lload X347 hx (hb hby at_282) rfl ?_
      refine own_iload X347 hx (hb hby at_284) rfl ?_
      refine own_iload X347 hx (hb hby at_286) rfl ?_
      refine own_lload X347 hx (hb hby at_288) rfl ?_
      refine own_cStat (W := 1) (rest := [(.ref o)]) X347 hx hZ [(.int z), (.long q0), (.long q1), (.long q0), (.int (1 : Int32)), (.int (0 : Int32)), (.long q0)] hown (hw _ (List.mem_of_getElem? (i := 65) rfl)) (hw _ (List.mem_of_getElem? (i := 66) rfl)) (by decide) (hw _ (List.mem_of_getElem? (i := 67) rfl)) (hw _ (List.mem_of_getElem? (i := 2) rfl)) e347 (rmDep_10 l Z a0 hw [] z q0 q1 q0 q0 T336.heap n0 Zs341) (by rw [hml]; rfl) (lenOf pd_7 rfl) rfl (Nat.le_of_eq rfl) (hb hby at_290) (by decide) (by decide) (by decide) (by decide) fun v348 T348 L348 X348 hQ348 => ?_
      obtain ⟨rfl, N348q, e348⟩ := hQ348
      have N348 := Fr.app N347 N348q
      show own_At p e below s _ _ _ T348 m 293 _ [(.int ((own_bet z q0 q0) + (own_bet z q1 q0))), (.ref o)]
      rw [show ((own_bet z q0 q0) + (own_bet z q1 q0)) = (1 : Int32) from by rw [own_betN RK0 RK0 (own_irr _), own_betY RK1 RK0 ht257]; decide]
      refine own_cVirt (W := 0) (rest := []) X348 hx hZ [(.int (1 : Int32))] hown (hw _ (List.mem_of_getElem? (i := 71) rfl)) (hw _ (List.mem_of_getElem? (i := 72) rfl)) (notFace_of_selects (args := #[]) (mvT hZ (hw _ (List.mem_of_getElem? (i := 74) rfl)))) (hw _ (List.mem_of_getElem? (i := 74) rfl)) (hw _ (List.mem_of_getElem? (i := 73) rfl)) (by decide) (hw _ (List.mem_of_getElem? (i := 75) rfl)) (hw _ (List.mem_of_getElem? (i := 7) rfl)) e348 f338 (rmLev_2_1 l Z a0 hw [] o ra la sd kr kl r0 r1 b330 b336 T336.heap n0 Zs341 LD336) (by rw [hml]; rfl) (lenOf pd_8 rfl) rfl (Nat.le_of_eq rfl) (hb hby at_293) (by decide) (by decide) (by decide) (by decide) fun v349 T349 L349 X349 hQ349 => ?_
      obtain ⟨rfl, N349q, e349⟩ := hQ349
      have N349 := Fr.app N348 N349q
      show own_At p e below s _ _ _ T349 m 296 _ [(.ref b330)]
      refine own_aload X349 hx (hb hby at_296) rfl rfl ?_
      refine own_acmp X349 hx 303 true (hb hby at_298) rfl rfl (decide_eq_true rfl) (by decide) (by decide) ?_
      refine own_iconst X349 hx (1 : Int32) (hb hby at_303) rfl ?_
      refine own_retN X349 hx hlk hret (by simp) (by decide) (hb hby at_304) (by decide) (by decide) ?_
      try rw [e349]
      exact ⟨rfl, N349⟩
    · refine own_astore (l' := #[.val (.int p1), .val (.long j1), .second, .val (.long j2), .second, .val (.long j3), .second, .val (.int z), .val (.int (3 : Int32)), .val (.long q0), .second, .val (.long q1), .second, .val (.long q2), .second, .val (.ref o), .unset, .unset, .unset, .unset, .unset, .unset]) X0 hx (hb hby at_68) rfl rfl ?_
      refine own_aload X0 hx (hb hby at_70) rfl rfl ?_
      refine own_lload X0 hx (hb hby at_72) rfl ?_
      refine own_cVirt (W := 0) (rest := []) X0 hx hZ [(.long q0)] hown (hw _ (List.mem_of_getElem? (i := 26) rfl)) (hw _ (List.mem_of_getElem? (i := 27) rfl)) (notFace_of_selects (args := #[]) (mvT hZ (hw _ (List.mem_of_getElem? (i := 29) rfl)))) (hw _ (List.mem_of_getElem? (i := 29) rfl)) (hw _ (List.mem_of_getElem? (i := 28) rfl)) (by decide) (hw _ (List.mem_of_getElem? (i := 30) rfl)) (hw _ (List.mem_of_getElem? (i := 7) rfl)) e0 Eo (rmAt_0_ins0 l Z a0 hw [] o ra la sd wB kr kl r0 q0 h0 n0 Z0 LD SB hs0 g_o g_ra g_la ) (by rw [hml]; rfl) (lenOf pd_5 rfl) rfl (Nat.le_of_eq rfl) (hb hby at_74) (by decide) (by decide) (by decide) (by decide) fun v350 T350 L350 X350 hQ350 => ?_
      obtain ⟨b350, rfl, N350q, K350, szb350, LD350⟩ := hQ350
      have N350 := Fr.app N0 N350q
      have f351 := (own_staKeep SB K350 (allS (own_exaStat Eo) (allS (own_exaStat Era) (allS (own_exaStat Ela) all0))))
      have f352 := (Exa.keep Eo K350)
      have f353 := (Exa.keep Era K350)
      have f354 := (Exa.keep Ela K350)
      have Zs355 : n0 ≤ T350.heap.size := (Nat.le_trans Z0 K350.1)
      have FZ350 := LD350.2.2.2.1
      show own_At p e below s _ _ _ T350 m 77 _ [(.ref b350)]
      refine own_astore (l' := #[.val (.int p1), .val (.long j1), .second, .val (.long j2), .second, .val (.long j3), .second, .val (.int z), .val (.int (3 : Int32)), .val (.long q0), .second, .val (.long q1), .second, .val (.long q2), .second, .val (.ref o), .val (.ref b350), .unset, .unset, .unset, .unset, .unset]) X350 hx (hb hby at_77) rfl rfl ?_
      refine own_iload X350 hx (hb hby at_79) rfl ?_
      refine own_iconst X350 hx (2 : Int32) (hb hby at_81) rfl ?_
      refine own_icmpNo X350 hx (hb hby at_82) (flt (by decide : ¬ ((3 : Int32) < (2 : Int32)))).1 ?_
      refine own_aload X350 hx (hb hby at_85) rfl rfl ?_
      refine own_lload X350 hx (hb hby at_87) rfl ?_
      refine own_cVirt (W := 0) (rest := []) X350 hx hZ [(.long q1)] hown (hw _ (List.mem_of_getElem? (i := 26) rfl)) (hw _ (List.mem_of_getElem? (i := 27) rfl)) (notFace_of_selects (args := #[]) (mvT hZ (hw _ (List.mem_of_getElem? (i := 29) rfl)))) (hw _ (List.mem_of_getElem? (i := 29) rfl)) (hw _ (List.mem_of_getElem? (i := 28) rfl)) (by decide) (hw _ (List.mem_of_getElem? (i := 30) rfl)) (hw _ (List.mem_of_getElem? (i := 7) rfl)) rfl f352 (rmAt_1_ins1 l Z a0 hw [] o ra la sd wB b350 kr kl r1 r0 q1 T350.heap n0 Zs355 LD350 f351 hs1 g_o g_ra g_la ht257) (by rw [hml]; rfl) (lenOf pd_5 rfl) rfl (Nat.le_of_eq rfl) (hb hby at_89) (by decide) (by decide) (by decide) (by decide) fun v356 T356 L356 X356 hQ356 => ?_
      obtain ⟨b356, rfl, N356q, K356, szb356, LD356⟩ := hQ356
      have N356 := Fr.app N350 N356q
      have f357 := (own_staKeep f351 K356 (allS (own_exaStat f352) (allS (own_exaStat f353) (allS (own_exaStat f354) all0))))
      have f358 := (Exa.keep f352 K356)
      have f359 := (Exa.keep f353 K356)
      have f360 := (Exa.keep f354 K356)
      have Zs361 : n0 ≤ T356.heap.size := (Nat.le_trans Zs355 K356.1)
      have FZ356 := LD356.2.2.2.1
      show own_At p e below s _ _ _ T356 m 92 _ [(.ref b356)]
      refine own_goto X356 hx 96 (hb hby at_92) (by decide) (by decide) ?_
      refine own_astore (l' := #[.val (.int p1), .val (.long j1), .second, .val (.long j2), .second, .val (.long j3), .second, .val (.int z), .val (.int (3 : Int32)), .val (.long q0), .second, .val (.long q1), .second, .val (.long q2), .second, .val (.ref o), .val (.ref b350), .val (.ref b356), .unset, .unset, .unset, .unset]) X356 hx (hb hby at_96) rfl rfl ?_
      refine own_iload X356 hx (hb hby at_98) rfl ?_
      refine own_iconst X356 hx (3 : Int32) (hb hby at_100) rfl ?_
      refine own_icmpNo X356 hx (hb hby at_101) (flt (by decide : ¬ ((3 : Int32) < (3 : Int32)))).1 ?_
      refine own_aload X356 hx (hb hby at_104) rfl rfl ?_
      refine own_lload X356 hx (hb hby at_106) rfl ?_
      refine own_cVirt (W := 0) (rest := []) X356 hx hZ [(.long q2)] hown (hw _ (List.mem_of_getElem? (i := 26) rfl)) (hw _ (List.mem_of_getElem? (i := 27) rfl)) (notFace_of_selects (args := #[]) (mvT hZ (hw _ (List.mem_of_getElem? (i := 29) rfl)))) (hw _ (List.mem_of_getElem? (i := 29) rfl)) (hw _ (List.mem_of_getElem? (i := 28) rfl)) (by decide) (hw _ (List.mem_of_getElem? (i := 30) rfl)) (hw _ (List.mem_of_getElem? (i := 7) rfl)) rfl f358 (rmAt_2_ins0 l Z a0 hw [] o ra la sd wB b350 b356 kr kl r2 r0 r1 q2 T356.heap n0 Zs361 LD356 f357 hs2 g_o g_ra g_la ht258) (by rw [hml]; rfl) (lenOf pd_5 rfl) rfl (Nat.le_of_eq rfl) (hb hby at_108) (by decide) (by decide) (by decide) (by decide) fun v362 T362 L362 X362 hQ362 => ?_
      obtain ⟨b362, rfl, N362q, K362, szb362, LD362⟩ := hQ362
      have N362 := Fr.app N356 N362q
      have f363 := (own_staKeep f357 K362 (allS (own_exaStat f358) (allS (own_exaStat f359) (allS (own_exaStat f360) all0))))
      have f364 := (Exa.keep f358 K362)
      have f365 := (Exa.keep f359 K362)
      have f366 := (Exa.keep f360 K362)
      have Zs367 : n0 ≤ T362.heap.size := (Nat.le_trans Zs361 K362.1)
      have FZ362 := LD362.2.2.2.1
      show own_At p e below s _ _ _ T362 m 111 _ [(.ref b362)]
      refine own_goto X362 hx 115 (hb hby at_111) (by decide) (by decide) ?_
      refine own_astore (l' := #[.val (.int p1), .val (.long j1), .second, .val (.long j2), .second, .val (.long j3), .second, .val (.int z), .val (.int (3 : Int32)), .val (.long q0), .second, .val (.long q1), .second, .val (.long q2), .second, .val (.ref o), .val (.ref b350), .val (.ref b356), .val (.ref b362), .unset, .unset, .unset]) X362 hx (hb hby at_115) rfl rfl ?_
      refine own_iload X362 hx (hb hby at_117) rfl ?_
      refine own_iconst X362 hx (2 : Int32) (hb hby at_119) rfl ?_
      refine own_icmpNo X362 hx (hb hby at_120) (flt (by decide : ¬ ((3 : Int32) < (2 : Int32)))).1 ?_
      refine own_lload X362 hx (hb hby at_123) rfl ?_
      refine own_lload X362 hx (hb hby at_125) rfl ?_
      refine own_lcmp X362 hx (hb hby at_127) ?_
      refine own_ifNo X362 hx (hb hby at_128) (feq (fun q => (own_rkN RK1 RK0 (own_gtne ht257)) ((lw_eq q1 q0).mp q))).1 ?_
      refine own_iconst X362 hx (1 : Int32) (hb hby at_131) rfl ?_
      refine own_goto X362 hx 136 (hb hby at_132) (by decide) (by decide) ?_
      refine own_istore (l' := #[.val (.int p1), .val (.long j1), .second, .val (.long j2), .second, .val (.long j3), .second, .val (.int z), .val (.int (3 : Int32)), .val (.long q0), .second, .val (.long q1), .second, .val (.long q2), .second, .val (.ref o), .val (.ref b350), .val (.ref b356), .val (.ref b362), .val (.int (1 : Int32)), .unset, .unset]) X362 hx (hb hby at_136) rfl ?_
      refine own_iload X362 hx (hb hby at_138) rfl ?_
      refine own_iconst X362 hx (3 : Int32) (hb hby at_140) rfl ?_
      refine own_icmpNo X362 hx (hb hby at_141) (flt (by decide : ¬ ((3 : Int32) < (3 : Int32)))).1 ?_
      refine own_lload X362 hx (hb hby at_144) rfl ?_
      refine own_lload X362 hx (hb hby at_146) rfl ?_
      refine own_lcmp X362 hx (hb hby at_148) ?_
      refine own_ifNo X362 hx (hb hby at_149) (feq (fun q => (own_rkN RK2 RK0 (own_ltne ht258)) ((lw_eq q2 q0).mp q))).1 ?_
      refine own_lload X362 hx (hb hby at_152) rfl ?_
      refine own_lload X362 hx (hb hby at_154) rfl ?_
      refine own_lcmp X362 hx (hb hby at_156) ?_
      refine own_ifNo X362 hx (hb hby at_157) (feq (fun q => (own_rkN RK2 RK1 (own_ltne (own_trans ht258 ht257))) ((lw_eq q2 q1).mp q))).1 ?_
      refine own_iconst X362 hx (1 : Int32) (hb hby at_160) rfl ?_
      refine own_goto X362 hx 165 (hb hby at_161) (by decide) (by decide) ?_
      refine own_istore (l' := #[.val (.int p1), .val (.long j1), .second, .val (.long j2), .second, .val (.long j3), .second, .val (.int z), .val (.int (3 : Int32)), .val (.long q0), .second, .val (.long q1), .second, .val (.long q2), .second, .val (.ref o), .val (.ref b350), .val (.ref b356), .val (.ref b362), .val (.int (1 : Int32)), .val (.int (1 : Int32)), .unset]) X362 hx (hb hby at_165) rfl ?_
      refine own_iconst X362 hx (1 : Int32) (hb hby at_167) rfl ?_
      refine own_iload X362 hx (hb hby at_168) rfl ?_
      refine own_ifNo X362 hx (hb hby at_170) (feq (by decide : ¬ ((1 : Int32) = (0 : Int32)))).1 ?_
      refine own_iconst X362 hx (1 : Int32) (hb hby at_173) rfl ?_
      refine own_goto X362 hx 178 (hb hby at_174) (by decide) (by decide) ?_
      refine own_iadd X362 hx (hb hby at_178) ?_
      rw [show ((1 : Int32) + (1 : Int32)) = (2 : Int32) from by decide]
      refine own_iload X362 hx (hb hby at_179) rfl ?_
      refine own_ifNo X362 hx (hb hby at_181) (feq (by decide : ¬ ((1 : Int32) = (0 : Int32)))).1 ?_
      refine own_iconst X362 hx (1 : Int32) (hb hby at_184) rfl ?_
      refine own_goto X362 hx 189 (hb hby at_185) (by decide) (by decide) ?_
      refine own_iadd X362 hx (hb hby at_189) ?_
      rw [show ((2 : Int32) + (1 : Int32)) = (3 : Int32) from by decide]
      refine own_istore (l' := #[.val (.int p1), .val (.long j1), .second, .val (.long j2), .second, .val (.long j3), .second, .val (.int z), .val (.int (3 : Int32)), .val (.long q0), .second, .val (.long q1), .second, .val (.long q2), .second, .val (.ref o), .val (.ref b350), .val (.ref b356), .val (.ref b362), .val (.int (1 : Int32)), .val (.int (1 : Int32)), .val (.int (3 : Int32))]) X362 hx (hb hby at_190) rfl ?_
      refine own_aload X362 hx (hb hby at_192) rfl rfl ?_
      refine own_cVirt (W := 0) (rest := []) X362 hx hZ [] hown (hw _ (List.mem_of_getElem? (i := 60) rfl)) (hw _ (List.mem_of_getElem? (i := 61) rfl)) (notFace_of_selects (args := #[]) (mvT hZ (hw _ (List.mem_of_getElem? (i := 63) rfl)))) (hw _ (List.mem_of_getElem? (i := 63) rfl)) (hw _ (List.mem_of_getElem? (i := 62) rfl)) (by decide) (hw _ (List.mem_of_getElem? (i := 64) rfl)) (hw _ (List.mem_of_getElem? (i := 7) rfl)) rfl f364 (rmSize l Z a0 hw [] o (3 : Int32) T362.heap n0 Zs367 FZ362) (by rw [hml]; rfl) (lenOf pd_6 rfl) rfl (Nat.le_of_eq rfl) (hb hby at_194) (by decide) (by decide) (by decide) (by decide) fun v368 T368 L368 X368 hQ368 => ?_
      obtain ⟨rfl, N368q, e368⟩ := hQ368
      have N368 := Fr.app N362 N368q
      show own_At p e below s _ _ _ T368 m 197 _ [(.int (3 : Int32))]
      refine own_iload X368 hx (hb hby at_197) rfl ?_
      refine own_icmpYes X368 hx 204 (hb hby at_199) (teq (by decide : (3 : Int32) = (3 : Int32))).1 (by decide) (by decide) ?_
      refine own_aload X368 hx (hb hby at_204) rfl rfl ?_
      refine own_iload X368 hx (hb hby at_206) rfl ?_
      refine own_lload X368 hx (hb hby at_208) rfl ?_
      refine own_lload X368 hx (hb hby at_210) rfl ?_
      refine own_lload X368 hx (hb hby at_212) rfl ?_
      refine own_iload X368 hx (hb hby at_214) rfl ?_
      refine own_iload X368 hx (hb hby at_216) rfl ?_
      refine own_lload X368 hx (hb hby at_218) rfl ?_
      refine own_cStat (W := 1) (rest := [(.ref o)]) X368 hx hZ [(.int z), (.long q0), (.long q1), (.long q2), (.int (1 : Int32)), (.int (1 : Int32)), (.long q0)] hown (hw _ (List.mem_of_getElem? (i := 65) rfl)) (hw _ (List.mem_of_getElem? (i := 66) rfl)) (by decide) (hw _ (List.mem_of_getElem? (i := 67) rfl)) (hw _ (List.mem_of_getElem? (i := 2) rfl)) e368 (rmDep_11 l Z a0 hw [] z q0 q1 q2 q0 T362.heap n0 Zs367) (by rw [hml]; rfl) (lenOf pd_7 rfl) rfl (Nat.le_of_eq rfl) (hb hby at_220) (by decide) (by decide) (by decide) (by decide) fun v369 T369 L369 X369 hQ369 => ?_
      obtain ⟨rfl, N369q, e369⟩ := hQ369
      have N369 := Fr.app N368 N369q
      show own_At p e below s _ _ _ T369 m 223 _ [(.int (((own_bet z q0 q0) + (own_bet z q1 q0)) + (own_bet z q2 q0))), (.ref o)]
      rw [show (((own_bet z q0 q0) + (own_bet z q1 q0)) + (own_bet z q2 q0)) = (1 : Int32) from by rw [own_betN RK0 RK0 (own_irr _), own_betY RK1 RK0 ht257, own_betN RK2 RK0 (own_asym ht258)]; decide]
      refine own_cVirt (W := 0) (rest := []) X369 hx hZ [(.int (1 : Int32))] hown (hw _ (List.mem_of_getElem? (i := 71) rfl)) (hw _ (List.mem_of_getElem? (i := 72) rfl)) (notFace_of_selects (args := #[]) (mvT hZ (hw _ (List.mem_of_getElem? (i := 74) rfl)))) (hw _ (List.mem_of_getElem? (i := 74) rfl)) (hw _ (List.mem_of_getElem? (i := 73) rfl)) (by decide) (hw _ (List.mem_of_getElem? (i := 75) rfl)) (hw _ (List.mem_of_getElem? (i := 7) rfl)) e369 f364 (rmLev_3_1 l Z a0 hw [] o ra la sd kr kl r2 r0 r1 b362 b350 b356 T362.heap n0 Zs367 LD362) (by rw [hml]; rfl) (lenOf pd_8 rfl) rfl (Nat.le_of_eq rfl) (hb hby at_223) (by decide) (by decide) (by decide) (by decide) fun v370 T370 L370 X370 hQ370 => ?_
      obtain ⟨rfl, N370q, e370⟩ := hQ370
      have N370 := Fr.app N369 N370q
      show own_At p e below s _ _ _ T370 m 226 _ [(.ref b350)]
      refine own_aload X370 hx (hb hby at_226) rfl rfl ?_
      refine own_acmp X370 hx 233 true (hb hby at_228) rfl rfl (decide_eq_true rfl) (by decide) (by decide) ?_
      refine own_iload X370 hx (hb hby at_233) rfl ?_
      refine own_iconst X370 hx (2 : Int32) (hb hby at_235) rfl ?_
      refine own_icmpNo X370 hx (hb hby at_236) (flt (by decide : ¬ ((3 : Int32) < (2 : Int32)))).1 ?_
      refine own_aload X370 hx (hb hby at_239) rfl rfl ?_
      refine own_iload X370 hx (hb hby at_241) rfl ?_
      refine own_lload X370 hx (hb hby at_243) rfl ?_
      refine own_lload X370 hx (hb hby at_245) rfl ?_
      refine own_lload X370 hx (hb hby at_247) rfl ?_
      refine own_iload X370 hx (hb hby at_249) rfl ?_
      refine own_iload X370 hx (hb hby at_251) rfl ?_
      refine own_lload X370 hx (hb hby at_253) rfl ?_
      refine own_cStat (W := 1) (rest := [(.ref o)]) X370 hx hZ [(.int z), (.long q0), (.long q1), (.long q2), (.int (1 : Int32)), (.int (1 : Int32)), (.long q1)] hown (hw _ (List.mem_of_getElem? (i := 65) rfl)) (hw _ (List.mem_of_getElem? (i := 66) rfl)) (by decide) (hw _ (List.mem_of_getElem? (i := 67) rfl)) (hw _ (List.mem_of_getElem? (i := 2) rfl)) e370 (rmDep_11 l Z a0 hw [] z q0 q1 q2 q1 T362.heap n0 Zs367) (by rw [hml]; rfl) (lenOf pd_7 rfl) rfl (Nat.le_of_eq rfl) (hb hby at_255) (by decide) (by decide) (by decide) (by decide) fun v371 T371 L371 X371 hQ371 => ?_
      obtain ⟨rfl, N371q, e371⟩ := hQ371
      have N371 := Fr.app N370 N371q
      show own_At p e below s _ _ _ T371 m 258 _ [(.int (((own_bet z q0 q1) + (own_bet z q1 q1)) + (own_bet z q2 q1))), (.ref o)]
      rw [show (((own_bet z q0 q1) + (own_bet z q1 q1)) + (own_bet z q2 q1)) = (0 : Int32) from by rw [own_betN RK0 RK1 (own_asym ht257), own_betN RK1 RK1 (own_irr _), own_betN RK2 RK1 (own_asym (own_trans ht258 ht257))]; decide]
      refine own_cVirt (W := 0) (rest := []) X371 hx hZ [(.int (0 : Int32))] hown (hw _ (List.mem_of_getElem? (i := 71) rfl)) (hw _ (List.mem_of_getElem? (i := 72) rfl)) (notFace_of_selects (args := #[]) (mvT hZ (hw _ (List.mem_of_getElem? (i := 74) rfl)))) (hw _ (List.mem_of_getElem? (i := 74) rfl)) (hw _ (List.mem_of_getElem? (i := 73) rfl)) (by decide) (hw _ (List.mem_of_getElem? (i := 75) rfl)) (hw _ (List.mem_of_getElem? (i := 7) rfl)) e371 f364 (rmLev_3_0 l Z a0 hw [] o ra la sd kr kl r2 r0 r1 b362 b350 b356 T362.heap n0 Zs367 LD362) (by rw [hml]; rfl) (lenOf pd_8 rfl) rfl (Nat.le_of_eq rfl) (hb hby at_258) (by decide) (by decide) (by decide) (by decide) fun v372 T372 L372 X372 hQ372 => ?_
      obtain ⟨rfl, N372q, e372⟩ := hQ372
      have N372 := Fr.app N371 N372q
      show own_At p e below s _ _ _ T372 m 261 _ [(.ref b356)]
      refine own_aload X372 hx (hb hby at_261) rfl rfl ?_
      refine own_acmp X372 hx 268 true (hb hby at_263) rfl rfl (decide_eq_true rfl) (by decide) (by decide) ?_
      refine own_iload X372 hx (hb hby at_268) rfl ?_
      refine own_iconst X372 hx (3 : Int32) (hb hby at_270) rfl ?_
      refine own_icmpNo X372 hx (hb hby at_271) (flt (by decide : ¬ ((3 : Int32) < (3 : Int32)))).1 ?_
      refine own_aload X372 hx (hb hby at_274) rfl rfl ?_
      refine own_iload X372 hx (hb hby at_276) rfl ?_
      refine own_lload X372 hx (hb hby at_278) rfl ?_
      refine own_lload X372 hx (hb hby at_280) rfl ?_
      refine own_lload X372 hx (hb hby at_282) rfl ?_
      refine own_iload X372 hx (hb hby at_284) rfl ?_
      refine own_iload X372 hx (hb hby at_286) rfl ?_
      refine own_lload X372 hx (hb hby at_288) rfl ?_
      refine own_cStat (W := 1) (rest := [(.ref o)]) X372 hx hZ [(.int z), (.long q0), (.long q1), (.long q2), (.int (1 : Int32)), (.int (1 : Int32)), (.long q2)] hown (hw _ (List.mem_of_getElem? (i := 65) rfl)) (hw _ (List.mem_of_getElem? (i := 66) rfl)) (by decide) (hw _ (List.mem_of_getElem? (i := 67) rfl)) (hw _ (List.mem_of_getElem? (i := 2) rfl)) e372 (rmDep_11 l Z a0 hw [] z q0 q1 q2 q2 T362.heap n0 Zs367) (by rw [hml]; rfl) (lenOf pd_7 rfl) rfl (Nat.le_of_eq rfl) (hb hby at_290) (by decide) (by decide) (by decide) (by decide) fun v373 T373 L373 X373 hQ373 => ?_
      obtain ⟨rfl, N373q, e373⟩ := hQ373
      have N373 := Fr.app N372 N373q
      show own_At p e below s _ _ _ T373 m 293 _ [(.int (((own_bet z q0 q2) + (own_bet z q1 q2)) + (own_bet z q2 q2))), (.ref o)]
      rw [show (((own_bet z q0 q2) + (own_bet z q1 q2)) + (own_bet z q2 q2)) = (2 : Int32) from by rw [own_betY RK0 RK2 ht258, own_betY RK1 RK2 (own_trans ht258 ht257), own_betN RK2 RK2 (own_irr _)]; decide]
      refine own_cVirt (W := 0) (rest := []) X373 hx hZ [(.int (2 : Int32))] hown (hw _ (List.mem_of_getElem? (i := 71) rfl)) (hw _ (List.mem_of_getElem? (i := 72) rfl)) (notFace_of_selects (args := #[]) (mvT hZ (hw _ (List.mem_of_getElem? (i := 74) rfl)))) (hw _ (List.mem_of_getElem? (i := 74) rfl)) (hw _ (List.mem_of_getElem? (i := 73) rfl)) (by decide) (hw _ (List.mem_of_getElem? (i := 75) rfl)) (hw _ (List.mem_of_getElem? (i := 7) rfl)) e373 f364 (rmLev_3_2 l Z a0 hw [] o ra la sd kr kl r2 r0 r1 b362 b350 b356 T362.heap n0 Zs367 LD362) (by rw [hml]; rfl) (lenOf pd_8 rfl) rfl (Nat.le_of_eq rfl) (hb hby at_293) (by decide) (by decide) (by decide) (by decide) fun v374 T374 L374 X374 hQ374 => ?_
      obtain ⟨rfl, N374q, e374⟩ := hQ374
      have N374 := Fr.app N373 N374q
      show own_At p e below s _ _ _ T374 m 296 _ [(.ref b362)]
      refine own_aload X374 hx (hb hby at_296) rfl rfl ?_
      refine own_acmp X374 hx 303 true (hb hby at_298) rfl rfl (decide_eq_true rfl) (by decide) (by decide) ?_
      refine own_iconst X374 hx (1 : Int32) (hb hby at_303) rfl ?_
      refine own_retN X374 hx hlk hret (by simp) (by decide) (hb hby at_304) (by decide) (by decide) ?_
      try rw [e374]
      exact ⟨rfl, N374⟩
  · obtain rfl := own_rkI RK0 RK1
    rcases own_tri r0 r2 with ht375 | rfl | ht375
    · refine own_astore (l' := #[.val (.int p1), .val (.long j1), .second, .val (.long j2), .second, .val (.long j3), .second, .val (.int z), .val (.int (3 : Int32)), .val (.long q0), .second, .val (.long q0), .second, .val (.long q2), .second, .val (.ref o), .unset, .unset, .unset, .unset, .unset, .unset]) X0 hx (hb hby at_68) rfl rfl ?_
      refine own_aload X0 hx (hb hby at_70) rfl rfl ?_
      refine own_lload X0 hx (hb hby at_72) rfl ?_
      refine own_cVirt (W := 0) (rest := []) X0 hx hZ [(.long q0)] hown (hw _ (List.mem_of_getElem? (i := 26) rfl)) (hw _ (List.mem_of_getElem? (i := 27) rfl)) (notFace_of_selects (args := #[]) (mvT hZ (hw _ (List.mem_of_getElem? (i := 29) rfl)))) (hw _ (List.mem_of_getElem? (i := 29) rfl)) (hw _ (List.mem_of_getElem? (i := 28) rfl)) (by decide) (hw _ (List.mem_of_getElem? (i := 30) rfl)) (hw _ (List.mem_of_getElem? (i := 7) rfl)) e0 Eo (rmAt_0_ins0 l Z a0 hw [] o ra la sd wB kr kl r0 q0 h0 n0 Z0 LD SB hs0 g_o g_ra g_la ) (by rw [hml]; rfl) (lenOf pd_5 rfl) rfl (Nat.le_of_eq rfl) (hb hby at_74) (by decide) (by decide) (by decide) (by decide) fun v376 T376 L376 X376 hQ376 => ?_
      obtain ⟨b376, rfl, N376q, K376, szb376, LD376⟩ := hQ376
      have N376 := Fr.app N0 N376q
      have f377 := (own_staKeep SB K376 (allS (own_exaStat Eo) (allS (own_exaStat Era) (allS (own_exaStat Ela) all0))))
      have f378 := (Exa.keep Eo K376)
      have f379 := (Exa.keep Era K376)
      have f380 := (Exa.keep Ela K376)
      have Zs381 : n0 ≤ T376.heap.size := (Nat.le_trans Z0 K376.1)
      have FZ376 := LD376.2.2.2.1
      show own_At p e below s _ _ _ T376 m 77 _ [(.ref b376)]
      refine own_astore (l' := #[.val (.int p1), .val (.long j1), .second, .val (.long j2), .second, .val (.long j3), .second, .val (.int z), .val (.int (3 : Int32)), .val (.long q0), .second, .val (.long q0), .second, .val (.long q2), .second, .val (.ref o), .val (.ref b376), .unset, .unset, .unset, .unset, .unset]) X376 hx (hb hby at_77) rfl rfl ?_
      refine own_iload X376 hx (hb hby at_79) rfl ?_
      refine own_iconst X376 hx (2 : Int32) (hb hby at_81) rfl ?_
      refine own_icmpNo X376 hx (hb hby at_82) (flt (by decide : ¬ ((3 : Int32) < (2 : Int32)))).1 ?_
      refine own_aload X376 hx (hb hby at_85) rfl rfl ?_
      refine own_lload X376 hx (hb hby at_87) rfl ?_
      refine own_cVirt (W := 0) (rest := []) X376 hx hZ [(.long q0)] hown (hw _ (List.mem_of_getElem? (i := 26) rfl)) (hw _ (List.mem_of_getElem? (i := 27) rfl)) (notFace_of_selects (args := #[]) (mvT hZ (hw _ (List.mem_of_getElem? (i := 29) rfl)))) (hw _ (List.mem_of_getElem? (i := 29) rfl)) (hw _ (List.mem_of_getElem? (i := 28) rfl)) (by decide) (hw _ (List.mem_of_getElem? (i := 30) rfl)) (hw _ (List.mem_of_getElem? (i := 7) rfl)) rfl f378 (rmAt_1_found0 l Z a0 hw [] o ra la sd wB b376 kr kl r0 q0 T376.heap n0 Zs381 LD376 f377 hs0 g_o g_ra g_la ) (by rw [hml]; rfl) (lenOf pd_5 rfl) rfl (Nat.le_of_eq rfl) (hb hby at_89) (by decide) (by decide) (by decide) (by decide) fun v382 T382 L382 X382 hQ382 => ?_
      obtain ⟨rfl, N382q, e382⟩ := hQ382
      have N382 := Fr.app N376 N382q
      show own_At p e below s _ _ _ T382 m 92 _ [(.ref b376)]
      refine own_goto X382 hx 96 (hb hby at_92) (by decide) (by decide) ?_
      refine own_astore (l' := #[.val (.int p1), .val (.long j1), .second, .val (.long j2), .second, .val (.long j3), .second, .val (.int z), .val (.int (3 : Int32)), .val (.long q0), .second, .val (.long q0), .second, .val (.long q2), .second, .val (.ref o), .val (.ref b376), .val (.ref b376), .unset, .unset, .unset, .unset]) X382 hx (hb hby at_96) rfl rfl ?_
      refine own_iload X382 hx (hb hby at_98) rfl ?_
      refine own_iconst X382 hx (3 : Int32) (hb hby at_100) rfl ?_
      refine own_icmpNo X382 hx (hb hby at_101) (flt (by decide : ¬ ((3 : Int32) < (3 : Int32)))).1 ?_
      refine own_aload X382 hx (hb hby at_104) rfl rfl ?_
      refine own_lload X382 hx (hb hby at_106) rfl ?_
      refine own_cVirt (W := 0) (rest := []) X382 hx hZ [(.long q2)] hown (hw _ (List.mem_of_getElem? (i := 26) rfl)) (hw _ (List.mem_of_getElem? (i := 27) rfl)) (notFace_of_selects (args := #[]) (mvT hZ (hw _ (List.mem_of_getElem? (i := 29) rfl)))) (hw _ (List.mem_of_getElem? (i := 29) rfl)) (hw _ (List.mem_of_getElem? (i := 28) rfl)) (by decide) (hw _ (List.mem_of_getElem? (i := 30) rfl)) (hw _ (List.mem_of_getElem? (i := 7) rfl)) e382 f378 (rmAt_1_ins1 l Z a0 hw [] o ra la sd wB b376 kr kl r2 r0 q2 T376.heap n0 Zs381 LD376 f377 hs2 g_o g_ra g_la ht375) (by rw [hml]; rfl) (lenOf pd_5 rfl) rfl (Nat.le_of_eq rfl) (hb hby at_108) (by decide) (by decide) (by decide) (by decide) fun v383 T383 L383 X383 hQ383 => ?_
      obtain ⟨b383, rfl, N383q, K383, szb383, LD383⟩ := hQ383
      have N383 := Fr.app N382 N383q
      have f384 := (own_staKeep f377 K383 (allS (own_exaStat f378) (allS (own_exaStat f379) (allS (own_exaStat f380) all0))))
      have f385 := (Exa.keep f378 K383)
      have f386 := (Exa.keep f379 K383)
      have f387 := (Exa.keep f380 K383)
      have Zs388 : n0 ≤ T383.heap.size := (Nat.le_trans Zs381 K383.1)
      have FZ383 := LD383.2.2.2.1
      show own_At p e below s _ _ _ T383 m 111 _ [(.ref b383)]
      refine own_goto X383 hx 115 (hb hby at_111) (by decide) (by decide) ?_
      refine own_astore (l' := #[.val (.int p1), .val (.long j1), .second, .val (.long j2), .second, .val (.long j3), .second, .val (.int z), .val (.int (3 : Int32)), .val (.long q0), .second, .val (.long q0), .second, .val (.long q2), .second, .val (.ref o), .val (.ref b376), .val (.ref b376), .val (.ref b383), .unset, .unset, .unset]) X383 hx (hb hby at_115) rfl rfl ?_
      refine own_iload X383 hx (hb hby at_117) rfl ?_
      refine own_iconst X383 hx (2 : Int32) (hb hby at_119) rfl ?_
      refine own_icmpNo X383 hx (hb hby at_120) (flt (by decide : ¬ ((3 : Int32) < (2 : Int32)))).1 ?_
      refine own_lload X383 hx (hb hby at_123) rfl ?_
      refine own_lload X383 hx (hb hby at_125) rfl ?_
      refine own_lcmp X383 hx (hb hby at_127) ?_
      refine own_ifYes X383 hx 135 (hb hby at_128) (teq ((lw_eq q0 q0).mpr (rfl : q0 = q0))).1 (by decide) (by decide) ?_
      refine own_iconst X383 hx (0 : Int32) (hb hby at_135) rfl ?_
      refine own_istore (l' := #[.val (.int p1), .val (.long j1), .second, .val (.long j2), .second, .val (.long j3), .second, .val (.int z), .val (.int (3 : Int32)), .val (.long q0), .second, .val (.long q0), .second, .val (.long q2), .second, .val (.ref o), .val (.ref b376), .val (.ref b376), .val (.ref b383), .val (.int (0 : Int32)), .unset, .unset]) X383 hx (hb hby at_136) rfl ?_
      refine own_iload X383 hx (hb hby at_138) rfl ?_
      refine own_iconst X383 hx (3 : Int32) (hb hby at_140) rfl ?_
      refine own_icmpNo X383 hx (hb hby at_141) (flt (by decide : ¬ ((3 : Int32) < (3 : Int32)))).1 ?_
      refine own_lload X383 hx (hb hby at_144) rfl ?_
      refine own_lload X383 hx (hb hby at_146) rfl ?_
      refine own_lcmp X383 hx (hb hby at_148) ?_
      refine own_ifNo X383 hx (hb hby at_149) (feq (fun q => (own_rkN RK2 RK0 (own_gtne ht375)) ((lw_eq q2 q0).mp q))).1 ?_
      refine own_lload X383 hx (hb hby at_152) rfl ?_
      refine own_lload X383 hx (hb hby at_154) rfl ?_
      refine own_lcmp X383 hx (hb hby at_156) ?_
      refine own_ifNo X383 hx (hb hby at_157) (feq (fun q => (own_rkN RK2 RK0 (own_gtne ht375)) ((lw_eq q2 q0).mp q))).1 ?_
      refine own_iconst X383 hx (1 : Int32) (hb hby at_160) rfl ?_
      refine own_goto X383 hx 165 (hb hby at_161) (by decide) (by decide) ?_
      refine own_istore (l' := #[.val (.int p1), .val (.long j1), .second, .val (.long j2), .second, .val (.long j3), .second, .val (.int z), .val (.int (3 : Int32)), .val (.long q0), .second, .val (.long q0), .second, .val (.long q2), .second, .val (.ref o), .val (.ref b376), .val (.ref b376), .val (.ref b383), .val (.int (0 : Int32)), .val (.int (1 : Int32)), .unset]) X383 hx (hb hby at_165) rfl ?_
      refine own_iconst X383 hx (1 : Int32) (hb hby at_167) rfl ?_
      refine own_iload X383 hx (hb hby at_168) rfl ?_
      refine own_ifYes X383 hx 177 (hb hby at_170) (teq (by decide : (0 : Int32) = (0 : Int32))).1 (by decide) (by decide) ?_
      refine own_iconst X383 hx (0 : Int32) (hb hby at_177) rfl ?_
      refine own_iadd X383 hx (hb hby at_178) ?_
      rw [show ((1 : Int32) + (0 : Int32)) = (1 : Int32) from by decide]
      refine own_iload X383 hx (hb hby at_179) rfl ?_
      refine own_ifNo X383 hx (hb hby at_181) (feq (by decide : ¬ ((1 : Int32) = (0 : Int32)))).1 ?_
      refine own_iconst X383 hx (1 : Int32) (hb hby at_184) rfl ?_
      refine own_goto X383 hx 189 (hb hby at_185) (by decide) (by decide) ?_
      refine own_iadd X383 hx (hb hby at_189) ?_
      rw [show ((1 : Int32) + (1 : Int32)) = (2 : Int32) from by decide]
      refine own_istore (l' := #[.val (.int p1), .val (.long j1), .second, .val (.long j2), .second, .val (.long j3), .second, .val (.int z), .val (.int (3 : Int32)), .val (.long q0), .second, .val (.long q0), .second, .val (.long q2), .second, .val (.ref o), .val (.ref b376), .val (.ref b376), .val (.ref b383), .val (.int (0 : Int32)), .val (.int (1 : Int32)), .val (.int (2 : Int32))]) X383 hx (hb hby at_190) rfl ?_
      refine own_aload X383 hx (hb hby at_192) rfl rfl ?_
      refine own_cVirt (W := 0) (rest := []) X383 hx hZ [] hown (hw _ (List.mem_of_getElem? (i := 60) rfl)) (hw _ (List.mem_of_getElem? (i := 61) rfl)) (notFace_of_selects (args := #[]) (mvT hZ (hw _ (List.mem_of_getElem? (i := 63) rfl)))) (hw _ (List.mem_of_getElem? (i := 63) rfl)) (hw _ (List.mem_of_getElem? (i := 62) rfl)) (by decide) (hw _ (List.mem_of_getElem? (i := 64) rfl)) (hw _ (List.mem_of_getElem? (i := 7) rfl)) rfl f385 (rmSize l Z a0 hw [] o (2 : Int32) T383.heap n0 Zs388 FZ383) (by rw [hml]; rfl) (lenOf pd_6 rfl) rfl (Nat.le_of_eq rfl) (hb hby at_194) (by decide) (by decide) (by decide) (by decide) fun v389 T389 L389 X389 hQ389 => ?_
      obtain ⟨rfl, N389q, e389⟩ := hQ389
      have N389 := Fr.app N383 N389q
      show own_At p e below s _ _ _ T389 m 197 _ [(.int (2 : Int32))]
      refine own_iload X389 hx (hb hby at_197) rfl ?_
      refine own_icmpYes X389 hx 204 (hb hby at_199) (teq (by decide : (2 : Int32) = (2 : Int32))).1 (by decide) (by decide) ?_
      refine own_aload X389 hx (hb hby at_204) rfl rfl ?_
      refine own_iload X389 hx (hb hby at_206) rfl ?_
      refine own_lload X389 hx (hb hby at_208) rfl ?_
      refine own_lload X389 hx (hb hby at_210) rfl ?_
      refine own_lload X389 hx (hb hby at_212) rfl ?_
      refine own_iload X389 hx (hb hby at_214) rfl ?_
      refine own_iload X389 hx (hb hby at_216) rfl ?_
      refine own_lload X389 hx (hb hby at_218) rfl ?_
      refine own_cStat (W := 1) (rest := [(.ref o)]) X389 hx hZ [(.int z), (.long q0), (.long q0), (.long q2), (.int (0 : Int32)), (.int (1 : Int32)), (.long q0)] hown (hw _ (List.mem_of_getElem? (i := 65) rfl)) (hw _ (List.mem_of_getElem? (i := 66) rfl)) (by decide) (hw _ (List.mem_of_getElem? (i := 67) rfl)) (hw _ (List.mem_of_getElem? (i := 2) rfl)) e389 (rmDep_01 l Z a0 hw [] z q0 q0 q2 q0 T383.heap n0 Zs388) (by rw [hml]; rfl) (lenOf pd_7 rfl) rfl (Nat.le_of_eq rfl) (hb hby at_220) (by decide) (by decide) (by decide) (by decide) fun v390 T390 L390 X390 hQ390 => ?_
      obtain ⟨rfl, N390q, e390⟩ := hQ390
      have N390 := Fr.app N389 N390q
      show own_At p e below s _ _ _ T390 m 223 _ [(.int ((own_bet z q0 q0) + (own_bet z q2 q0))), (.ref o)]
      rw [show ((own_bet z q0 q0) + (own_bet z q2 q0)) = (1 : Int32) from by rw [own_betN RK0 RK0 (own_irr _), own_betY RK2 RK0 ht375]; decide]
      refine own_cVirt (W := 0) (rest := []) X390 hx hZ [(.int (1 : Int32))] hown (hw _ (List.mem_of_getElem? (i := 71) rfl)) (hw _ (List.mem_of_getElem? (i := 72) rfl)) (notFace_of_selects (args := #[]) (mvT hZ (hw _ (List.mem_of_getElem? (i := 74) rfl)))) (hw _ (List.mem_of_getElem? (i := 74) rfl)) (hw _ (List.mem_of_getElem? (i := 73) rfl)) (by decide) (hw _ (List.mem_of_getElem? (i := 75) rfl)) (hw _ (List.mem_of_getElem? (i := 7) rfl)) e390 f385 (rmLev_2_1 l Z a0 hw [] o ra la sd kr kl r0 r2 b376 b383 T383.heap n0 Zs388 LD383) (by rw [hml]; rfl) (lenOf pd_8 rfl) rfl (Nat.le_of_eq rfl) (hb hby at_223) (by decide) (by decide) (by decide) (by decide) fun v391 T391 L391 X391 hQ391 => ?_
      obtain ⟨rfl, N391q, e391⟩ := hQ391
      have N391 := Fr.app N390 N391q
      show own_At p e below s _ _ _ T391 m 226 _ [(.ref b376)]
      refine own_aload X391 hx (hb hby at_226) rfl rfl ?_
      refine own_acmp X391 hx 233 true (hb hby at_228) rfl rfl (decide_eq_true rfl) (by decide) (by decide) ?_
      refine own_iload X391 hx (hb hby at_233) rfl ?_
      refine own_iconst X391 hx (2 : Int32) (hb hby at_235) rfl ?_
      refine own_icmpNo X391 hx (hb hby at_236) (flt (by decide : ¬ ((3 : Int32) < (2 : Int32)))).1 ?_
      refine own_aload X391 hx (hb hby at_239) rfl rfl ?_
      refine own_iload X391 hx (hb hby at_241) rfl ?_
      refine own_lload X391 hx (hb hby at_243) rfl ?_
      refine own_lload X391 hx (hb hby at_245) rfl ?_
      refine own_lload X391 hx (hb hby at_247) rfl ?_
      refine own_iload X391 hx (hb hby at_249) rfl ?_
      refine own_iload X391 hx (hb hby at_251) rfl ?_
      refine own_lload X391 hx (hb hby at_253) rfl ?_
      refine own_cStat (W := 1) (rest := [(.ref o)]) X391 hx hZ [(.int z), (.long q0), (.long q0), (.long q2), (.int (0 : Int32)), (.int (1 : Int32)), (.long q0)] hown (hw _ (List.mem_of_getElem? (i := 65) rfl)) (hw _ (List.mem_of_getElem? (i := 66) rfl)) (by decide) (hw _ (List.mem_of_getElem? (i := 67) rfl)) (hw _ (List.mem_of_getElem? (i := 2) rfl)) e391 (rmDep_01 l Z a0 hw [] z q0 q0 q2 q0 T383.heap n0 Zs388) (by rw [hml]; rfl) (lenOf pd_7 rfl) rfl (Nat.le_of_eq rfl) (hb hby at_255) (by decide) (by decide) (by decide) (by decide) fun v392 T392 L392 X392 hQ392 => ?_
      obtain ⟨rfl, N392q, e392⟩ := hQ392
      have N392 := Fr.app N391 N392q
      show own_At p e below s _ _ _ T392 m 258 _ [(.int ((own_bet z q0 q0) + (own_bet z q2 q0))), (.ref o)]
      rw [show ((own_bet z q0 q0) + (own_bet z q2 q0)) = (1 : Int32) from by rw [own_betN RK0 RK0 (own_irr _), own_betY RK2 RK0 ht375]; decide]
      refine own_cVirt (W := 0) (rest := []) X392 hx hZ [(.int (1 : Int32))] hown (hw _ (List.mem_of_getElem? (i := 71) rfl)) (hw _ (List.mem_of_getElem? (i := 72) rfl)) (notFace_of_selects (args := #[]) (mvT hZ (hw _ (List.mem_of_getElem? (i := 74) rfl)))) (hw _ (List.mem_of_getElem? (i := 74) rfl)) (hw _ (List.mem_of_getElem? (i := 73) rfl)) (by decide) (hw _ (List.mem_of_getElem? (i := 75) rfl)) (hw _ (List.mem_of_getElem? (i := 7) rfl)) e392 f385 (rmLev_2_1 l Z a0 hw [] o ra la sd kr kl r0 r2 b376 b383 T383.heap n0 Zs388 LD383) (by rw [hml]; rfl) (lenOf pd_8 rfl) rfl (Nat.le_of_eq rfl) (hb hby at_258) (by decide) (by decide) (by decide) (by decide) fun v393 T393 L393 X393 hQ393 => ?_
      obtain ⟨rfl, N393q, e393⟩ := hQ393
      have N393 := Fr.app N392 N393q
      show own_At p e below s _ _ _ T393 m 261 _ [(.ref b376)]
      refine own_aload X393 hx (hb hby at_261) rfl rfl ?_
      refine own_acmp X393 hx 268 true (hb hby at_263) rfl rfl (decide_eq_true rfl) (by decide) (by decide) ?_
      refine own_iload X393 hx (hb hby at_268) rfl ?_
      refine own_iconst X393 hx (3 : Int32) (hb hby at_270) rfl ?_
      refine own_icmpNo X393 hx (hb hby at_271) (flt (by decide : ¬ ((3 : Int32) < (3 : Int32)))).1 ?_
      refine own_aload X393 hx (hb hby at_274) rfl rfl ?_
      refine own_iload X393 hx (hb hby at_276) rfl ?_
      refine own_lload X393 hx (hb hby at_278) rfl ?_
      refine own_lload X393 hx (hb hby at_280) rfl ?_
      refine own_lload X393 hx (hb hby at_282) rfl ?_
      refine own_iload X393 hx (hb hby at_284) rfl ?_
      refine own_iload X393 hx (hb hby at_286) rfl ?_
      refine own_lload X393 hx (hb hby at_288) rfl ?_
      refine own_cStat (W := 1) (rest := [(.ref o)]) X393 hx hZ [(.int z), (.long q0), (.long q0), (.long q2), (.int (0 : Int32)), (.int (1 : Int32)), (.long q2)] hown (hw _ (List.mem_of_getElem? (i := 65) rfl)) (hw _ (List.mem_of_getElem? (i := 66) rfl)) (by decide) (hw _ (List.mem_of_getElem? (i := 67) rfl)) (hw _ (List.mem_of_getElem? (i := 2) rfl)) e393 (rmDep_01 l Z a0 hw [] z q0 q0 q2 q2 T383.heap n0 Zs388) (by rw [hml]; rfl) (lenOf pd_7 rfl) rfl (Nat.le_of_eq rfl) (hb hby at_290) (by decide) (by decide) (by decide) (by decide) fun v394 T394 L394 X394 hQ394 => ?_
      obtain ⟨rfl, N394q, e394⟩ := hQ394
      have N394 := Fr.app N393 N394q
      show own_At p e below s _ _ _ T394 m 293 _ [(.int ((own_bet z q0 q2) + (own_bet z q2 q2))), (.ref o)]
      rw [show ((own_bet z q0 q2) + (own_bet z q2 q2)) = (0 : Int32) from by rw [own_betN RK0 RK2 (own_asym ht375), own_betN RK2 RK2 (own_irr _)]; decide]
      refine own_cVirt (W := 0) (rest := []) X394 hx hZ [(.int (0 : Int32))] hown (hw _ (List.mem_of_getElem? (i := 71) rfl)) (hw _ (List.mem_of_getElem? (i := 72) rfl)) (notFace_of_selects (args := #[]) (mvT hZ (hw _ (List.mem_of_getElem? (i := 74) rfl)))) (hw _ (List.mem_of_getElem? (i := 74) rfl)) (hw _ (List.mem_of_getElem? (i := 73) rfl)) (by decide) (hw _ (List.mem_of_getElem? (i := 75) rfl)) (hw _ (List.mem_of_getElem? (i := 7) rfl)) e394 f385 (rmLev_2_0 l Z a0 hw [] o ra la sd kr kl r0 r2 b376 b383 T383.heap n0 Zs388 LD383) (by rw [hml]; rfl) (lenOf pd_8 rfl) rfl (Nat.le_of_eq rfl) (hb hby at_293) (by decide) (by decide) (by decide) (by decide) fun v395 T395 L395 X395 hQ395 => ?_
      obtain ⟨rfl, N395q, e395⟩ := hQ395
      have N395 := Fr.app N394 N395q
      show own_At p e below s _ _ _ T395 m 296 _ [(.ref b383)]
      refine own_aload X395 hx (hb hby at_296) rfl rfl ?_
      refine own_acmp X395 hx 303 true (hb hby at_298) rfl rfl (decide_eq_true rfl) (by decide) (by decide) ?_
      refine own_iconst X395 hx (1 : Int32) (hb hby at_303) rfl ?_
      refine own_retN X395 hx hlk hret (by simp) (by decide) (hb hby at_304) (by decide) (by decide) ?_
      try rw [e395]
      exact ⟨rfl, N395⟩
    · obtain rfl := own_rkI RK0 RK2
      refine own_astore (l' := #[.val (.int p1), .val (.long j1), .second, .val (.long j2), .second, .val (.long j3), .second, .val (.int z), .val (.int (3 : Int32)), .val (.long q0), .second, .val (.long q0), .second, .val (.long q0), .second, .val (.ref o), .unset, .unset, .unset, .unset, .unset, .unset]) X0 hx (hb hby at_68) rfl rfl ?_
      refine own_aload X0 hx (hb hby at_70) rfl rfl ?_
      refine own_lload X0 hx (hb hby at_72) rfl ?_
      refine own_cVirt (W := 0) (rest := []) X0 hx hZ [(.long q0)] hown (hw _ (List.mem_of_getElem? (i := 26) rfl)) (hw _ (List.mem_of_getElem? (i := 27) rfl)) (notFace_of_selects (args := #[]) (mvT hZ (hw _ (List.mem_of_getElem? (i := 29) rfl)))) (hw _ (List.mem_of_getElem? (i := 29) rfl)) (hw _ (List.mem_of_getElem? (i := 28) rfl)) (by decide) (hw _ (List.mem_of_getElem? (i := 30) rfl)) (hw _ (List.mem_of_getElem? (i := 7) rfl)) e0 Eo (rmAt_0_ins0 l Z a0 hw [] o ra la sd wB kr kl r0 q0 h0 n0 Z0 LD SB hs0 g_o g_ra g_la ) (by rw [hml]; rfl) (lenOf pd_5 rfl) rfl (Nat.le_of_eq rfl) (hb hby at_74) (by decide) (by decide) (by decide) (by decide) fun v396 T396 L396 X396 hQ396 => ?_
      obtain ⟨b396, rfl, N396q, K396, szb396, LD396⟩ := hQ396
      have N396 := Fr.app N0 N396q
      have f397 := (own_staKeep SB K396 (allS (own_exaStat Eo) (allS (own_exaStat Era) (allS (own_exaStat Ela) all0))))
      have f398 := (Exa.keep Eo K396)
      have f399 := (Exa.keep Era K396)
      have f400 := (Exa.keep Ela K396)
      have Zs401 : n0 ≤ T396.heap.size := (Nat.le_trans Z0 K396.1)
      have FZ396 := LD396.2.2.2.1
      show own_At p e below s _ _ _ T396 m 77 _ [(.ref b396)]
      refine own_astore (l' := #[.val (.int p1), .val (.long j1), .second, .val (.long j2), .second, .val (.long j3), .second, .val (.int z), .val (.int (3 : Int32)), .val (.long q0), .second, .val (.long q0), .second, .val (.long q0), .second, .val (.ref o), .val (.ref b396), .unset, .unset, .unset, .unset, .unset]) X396 hx (hb hby at_77) rfl rfl ?_
      refine own_iload X396 hx (hb hby at_79) rfl ?_
      refine own_iconst X396 hx (2 : Int32) (hb hby at_81) rfl ?_
      refine own_icmpNo X396 hx (hb hby at_82) (flt (by decide : ¬ ((3 : Int32) < (2 : Int32)))).1 ?_
      refine own_aload X396 hx (hb hby at_85) rfl rfl ?_
      refine own_lload X396 hx (hb hby at_87) rfl ?_
      refine own_cVirt (W := 0) (rest := []) X396 hx hZ [(.long q0)] hown (hw _ (List.mem_of_getElem? (i := 26) rfl)) (hw _ (List.mem_of_getElem? (i := 27) rfl)) (notFace_of_selects (args := #[]) (mvT hZ (hw _ (List.mem_of_getElem? (i := 29) rfl)))) (hw _ (List.mem_of_getElem? (i := 29) rfl)) (hw _ (List.mem_of_getElem? (i := 28) rfl)) (by decide) (hw _ (List.mem_of_getElem? (i := 30) rfl)) (hw _ (List.mem_of_getElem? (i := 7) rfl)) rfl f398 (rmAt_1_found0 l Z a0 hw [] o ra la sd wB b396 kr kl r0 q0 T396.heap n0 Zs401 LD396 f397 hs0 g_o g_ra g_la ) (by rw [hml]; rfl) (lenOf pd_5 rfl) rfl (Nat.le_of_eq rfl) (hb hby at_89) (by decide) (by decide) (by decide) (by decide) fun v402 T402 L402 X402 hQ402 => ?_
      obtain ⟨rfl, N402q, e402⟩ := hQ402
      have N402 := Fr.app N396 N402q
      show own_At p e below s _ _ _ T402 m 92 _ [(.ref b396)]
      refine own_goto X402 hx 96 (hb hby at_92) (by decide) (by decide) ?_
      refine own_astore (l' := #[.val (.int p1), .val (.long j1), .second, .val (.long j2), .second, .val (.long j3), .second, .val (.int z), .val (.int (3 : Int32)), .val (.long q0), .second, .val (.long q0), .second, .val (.long q0), .second, .val (.ref o), .val (.ref b396), .val (.ref b396), .unset, .unset, .unset, .unset]) X402 hx (hb hby at_96) rfl rfl ?_
      refine own_iload X402 hx (hb hby at_98) rfl ?_
      refine own_iconst X402 hx (3 : Int32) (hb hby at_100) rfl ?_
      refine own_icmpNo X402 hx (hb hby at_101) (flt (by decide : ¬ ((3 : Int32) < (3 : Int32)))).1 ?_
      refine own_aload X402 hx (hb hby at_104) rfl rfl ?_
      refine own_lload X402 hx (hb hby at_106) rfl ?_
      refine own_cVirt (W := 0) (rest := []) X402 hx hZ [(.long q0)] hown (hw _ (List.mem_of_getElem? (i := 26) rfl)) (hw _ (List.mem_of_getElem? (i := 27) rfl)) (notFace_of_selects (args := #[]) (mvT hZ (hw _ (List.mem_of_getElem? (i := 29) rfl)))) (hw _ (List.mem_of_getElem? (i := 29) rfl)) (hw _ (List.mem_of_getElem? (i := 28) rfl)) (by decide) (hw _ (List.mem_of_getElem? (i := 30) rfl)) (hw _ (List.mem_of_getElem? (i := 7) rfl)) e402 f398 (rmAt_1_found0 l Z a0 hw [] o ra la sd wB b396 kr kl r0 q0 T396.heap n0 Zs401 LD396 f397 hs0 g_o g_ra g_la ) (by rw [hml]; rfl) (lenOf pd_5 rfl) rfl (Nat.le_of_eq rfl) (hb hby at_108) (by decide) (by decide) (by decide) (by decide) fun v403 T403 L403 X403 hQ403 => ?_
      obtain ⟨rfl, N403q, e403⟩ := hQ403
      have N403 := Fr.app N402 N403q
      show own_At p e below s _ _ _ T403 m 111 _ [(.ref b396)]
      refine own_goto X403 hx 115 (hb hby at_111) (by decide) (by decide) ?_
      refine own_astore (l' := #[.val (.int p1), .val (.long j1), .second, .val (.long j2), .second, .val (.long j3), .second, .val (.int z), .val (.int (3 : Int32)), .val (.long q0), .second, .val (.long q0), .second, .val (.long q0), .second, .val (.ref o), .val (.ref b396), .val (.ref b396), .val (.ref b396), .unset, .unset, .unset]) X403 hx (hb hby at_115) rfl rfl ?_
      refine own_iload X403 hx (hb hby at_117) rfl ?_
      refine own_iconst X403 hx (2 : Int32) (hb hby at_119) rfl ?_
      refine own_icmpNo X403 hx (hb hby at_120) (flt (by decide : ¬ ((3 : Int32) < (2 : Int32)))).1 ?_
      refine own_lload X403 hx (hb hby at_123) rfl ?_
      refine own_lload X403 hx (hb hby at_125) rfl ?_
      refine own_lcmp X403 hx (hb hby at_127) ?_
      refine own_ifYes X403 hx 135 (hb hby at_128) (teq ((lw_eq q0 q0).mpr (rfl : q0 = q0))).1 (by decide) (by decide) ?_
      refine own_iconst X403 hx (0 : Int32) (hb hby at_135) rfl ?_
      refine own_istore (l' := #[.val (.int p1), .val (.long j1), .second, .val (.long j2), .second, .val (.long j3), .second, .val (.int z), .val (.int (3 : Int32)), .val (.long q0), .second, .val (.long q0), .second, .val (.long q0), .second, .val (.ref o), .val (.ref b396), .val (.ref b396), .val (.ref b396), .val (.int (0 : Int32)), .unset, .unset]) X403 hx (hb hby at_136) rfl ?_
      refine own_iload X403 hx (hb hby at_138) rfl ?_
      refine own_iconst X403 hx (3 : Int32) (hb hby at_140) rfl ?_
      refine own_icmpNo X403 hx (hb hby at_141) (flt (by decide : ¬ ((3 : Int32) < (3 : Int32)))).1 ?_
      refine own_lload X403 hx (hb hby at_144) rfl ?_
      refine own_lload X403 hx (hb hby at_146) rfl ?_
      refine own_lcmp X403 hx (hb hby at_148) ?_
      refine own_ifYes X403 hx 164 (hb hby at_149) (teq ((lw_eq q0 q0).mpr (rfl : q0 = q0))).1 (by decide) (by decide) ?_
      refine own_iconst X403 hx (0 : Int32) (hb hby at_164) rfl ?_
      refine own_istore (l' := #[.val (.int p1), .val (.long j1), .second, .val (.long j2), .second, .val (.long j3), .second, .val (.int z), .val (.int (3 : Int32)), .val (.long q0), .second, .val (.long q0), .second, .val (.long q0), .second, .val (.ref o), .val (.ref b396), .val (.ref b396), .val (.ref b396), .val (.int (0 : Int32)), .val (.int (0 : Int32)), .unset]) X403 hx (hb hby at_165) rfl ?_
      refine own_iconst X403 hx (1 : Int32) (hb hby at_167) rfl ?_
      refine own_iload X403 hx (hb hby at_168) rfl ?_
      refine own_ifYes X403 hx 177 (hb hby at_170) (teq (by decide : (0 : Int32) = (0 : Int32))).1 (by decide) (by decide) ?_
      refine own_iconst X403 hx (0 : Int32) (hb hby at_177) rfl ?_
      refine own_iadd X403 hx (hb hby at_178) ?_
      rw [show ((1 : Int32) + (0 : Int32)) = (1 : Int32) from by decide]
      refine own_iload X403 hx (hb hby at_179) rfl ?_
      refine own_ifYes X403 hx 188 (hb hby at_181) (teq (by decide : (0 : Int32) = (0 : Int32))).1 (by decide) (by decide) ?_
      refine own_iconst X403 hx (0 : Int32) (hb hby at_188) rfl ?_
      refine own_iadd X403 hx (hb hby at_189) ?_
      rw [show ((1 : Int32) + (0 : Int32)) = (1 : Int32) from by decide]
      refine own_istore (l' := #[.val (.int p1), .val (.long j1), .second, .val (.long j2), .second, .val (.long j3), .second, .val (.int z), .val (.int (3 : Int32)), .val (.long q0), .second, .val (.long q0), .second, .val (.long q0), .second, .val (.ref o), .val (.ref b396), .val (.ref b396), .val (.ref b396), .val (.int (0 : Int32)), .val (.int (0 : Int32)), .val (.int (1 : Int32))]) X403 hx (hb hby at_190) rfl ?_
      refine own_aload X403 hx (hb hby at_192) rfl rfl ?_
      refine own_cVirt (W := 0) (rest := []) X403 hx hZ [] hown (hw _ (List.mem_of_getElem? (i := 60) rfl)) (hw _ (List.mem_of_getElem? (i := 61) rfl)) (notFace_of_selects (args := #[]) (mvT hZ (hw _ (List.mem_of_getElem? (i := 63) rfl)))) (hw _ (List.mem_of_getElem? (i := 63) rfl)) (hw _ (List.mem_of_getElem? (i := 62) rfl)) (by decide) (hw _ (List.mem_of_getElem? (i := 64) rfl)) (hw _ (List.mem_of_getElem? (i := 7) rfl)) e403 f398 (rmSize l Z a0 hw [] o (1 : Int32) T396.heap n0 Zs401 FZ396) (by rw [hml]; rfl) (lenOf pd_6 rfl) rfl (Nat.le_of_eq rfl) (hb hby at_194) (by decide) (by decide) (by decide) (by decide) fun v404 T404 L404 X404 hQ404 => ?_
      obtain ⟨rfl, N404q, e404⟩ := hQ404
      have N404 := Fr.app N403 N404q
      show own_At p e below s _ _ _ T404 m 197 _ [(.int (1 : Int32))]
      refine own_iload X404 hx (hb hby at_197) rfl ?_
      refine own_icmpYes X404 hx 204 (hb hby at_199) (teq (by decide : (1 : Int32) = (1 : Int32))).1 (by decide) (by decide) ?_
      refine own_aload X404 hx (hb hby at_204) rfl rfl ?_
      refine own_iload X404 hx (hb hby at_206) rfl ?_
      refine own_lload X404 hx (hb hby at_208) rfl ?_
      refine own_lload X404 hx (hb hby at_210) rfl ?_
      refine own_lload X404 hx (hb hby at_212) rfl ?_
      refine own_iload X404 hx (hb hby at_214) rfl ?_
      refine own_iload X404 hx (hb hby at_216) rfl ?_
      refine own_lload X404 hx (hb hby at_218) rfl ?_
      refine own_cStat (W := 1) (rest := [(.ref o)]) X404 hx hZ [(.int z), (.long q0), (.long q0), (.long q0), (.int (0 : Int32)), (.int (0 : Int32)), (.long q0)] hown (hw _ (List.mem_of_getElem? (i := 65) rfl)) (hw _ (List.mem_of_getElem? (i := 66) rfl)) (by decide) (hw _ (List.mem_of_getElem? (i := 67) rfl)) (hw _ (List.mem_of_getElem? (i := 2) rfl)) e404 (rmDep_00 l Z a0 hw [] z q0 q0 q0 q0 T396.heap n0 Zs401) (by rw [hml]; rfl) (lenOf pd_7 rfl) rfl (Nat.le_of_eq rfl) (hb hby at_220) (by decide) (by decide) (by decide) (by decide) fun v405 T405 L405 X405 hQ405 => ?_
      obtain ⟨rfl, N405q, e405⟩ := hQ405
      have N405 := Fr.app N404 N405q
      show own_At p e below s _ _ _ T405 m 223 _ [(.int (own_bet z q0 q0)), (.ref o)]
      rw [show (own_bet z q0 q0) = (0 : Int32) from by rw [own_betN RK0 RK0 (own_irr _)]]
      refine own_cVirt (W := 0) (rest := []) X405 hx hZ [(.int (0 : Int32))] hown (hw _ (List.mem_of_getElem? (i := 71) rfl)) (hw _ (List.mem_of_getElem? (i := 72) rfl)) (notFace_of_selects (args := #[]) (mvT hZ (hw _ (List.mem_of_getElem? (i := 74) rfl)))) (hw _ (List.mem_of_getElem? (i := 74) rfl)) (hw _ (List.mem_of_getElem? (i := 73) rfl)) (by decide) (hw _ (List.mem_of_getElem? (i := 75) rfl)) (hw _ (List.mem_of_getElem? (i := 7) rfl)) e405 f398 (rmLev_1_0 l Z a0 hw [] o ra la sd kr kl r0 b396 T396.heap n0 Zs401 LD396) (by rw [hml]; rfl) (lenOf pd_8 rfl) rfl (Nat.le_of_eq rfl) (hb hby at_223) (by decide) (by decide) (by decide) (by decide) fun v406 T406 L406 X406 hQ406 => ?_
      obtain ⟨rfl, N406q, e406⟩ := hQ406
      have N406 := Fr.app N405 N406q
      show own_At p e below s _ _ _ T406 m 226 _ [(.ref b396)]
      refine own_aload X406 hx (hb hby at_226) rfl rfl ?_
      refine own_acmp X406 hx 233 true (hb hby at_228) rfl rfl (decide_eq_true rfl) (by decide) (by decide) ?_
      refine own_iload X406 hx (hb hby at_233) rfl ?_
      refine own_iconst X406 hx (2 : Int32) (hb hby at_235) rfl ?_
      refine own_icmpNo X406 hx (hb hby at_236) (flt (by decide : ¬ ((3 : Int32) < (2 : Int32)))).1 ?_
      refine own_aload X406 hx (hb hby at_239) rfl rfl ?_
      refine own_iload X406 hx (hb hby at_241) rfl ?_
      refine own_lload X406 hx (hb hby at_243) rfl ?_
      refine own_lload X406 hx (hb hby at_245) rfl ?_
      refine own_lload X406 hx (hb hby at_247) rfl ?_
      refine own_iload X406 hx (hb hby at_249) rfl ?_
      refine own_iload X406 hx (hb hby at_251) rfl ?_
      refine own_lload X406 hx (hb hby at_253) rfl ?_
      refine own_cStat (W := 1) (rest := [(.ref o)]) X406 hx hZ [(.int z), (.long q0), (.long q0), (.long q0), (.int (0 : Int32)), (.int (0 : Int32)), (.long q0)] hown (hw _ (List.mem_of_getElem? (i := 65) rfl)) (hw _ (List.mem_of_getElem? (i := 66) rfl)) (by decide) (hw _ (List.mem_of_getElem? (i := 67) rfl)) (hw _ (List.mem_of_getElem? (i := 2) rfl)) e406 (rmDep_00 l Z a0 hw [] z q0 q0 q0 q0 T396.heap n0 Zs401) (by rw [hml]; rfl) (lenOf pd_7 rfl) rfl (Nat.le_of_eq rfl) (hb hby at_255) (by decide) (by decide) (by decide) (by decide) fun v407 T407 L407 X407 hQ407 => ?_
      obtain ⟨rfl, N407q, e407⟩ := hQ407
      have N407 := Fr.app N406 N407q
      show own_At p e below s _ _ _ T407 m 258 _ [(.int (own_bet z q0 q0)), (.ref o)]
      rw [show (own_bet z q0 q0) = (0 : Int32) from by rw [own_betN RK0 RK0 (own_irr _)]]
      refine own_cVirt (W := 0) (rest := []) X407 hx hZ [(.int (0 : Int32))] hown (hw _ (List.mem_of_getElem? (i := 71) rfl)) (hw _ (List.mem_of_getElem? (i := 72) rfl)) (notFace_of_selects (args := #[]) (mvT hZ (hw _ (List.mem_of_getElem? (i := 74) rfl)))) (hw _ (List.mem_of_getElem? (i := 74) rfl)) (hw _ (List.mem_of_getElem? (i := 73) rfl)) (by decide) (hw _ (List.mem_of_getElem? (i := 75) rfl)) (hw _ (List.mem_of_getElem? (i := 7) rfl)) e407 f398 (rmLev_1_0 l Z a0 hw [] o ra la sd kr kl r0 b396 T396.heap n0 Zs401 LD396) (by rw [hml]; rfl) (lenOf pd_8 rfl) rfl (Nat.le_of_eq rfl) (hb hby at_258) (by decide) (by decide) (by decide) (by decide) fun v408 T408 L408 X408 hQ408 => ?_
      obtain ⟨rfl, N408q, e408⟩ := hQ408
      have N408 := Fr.app N407 N408q
      show own_At p e below s _ _ _ T408 m 261 _ [(.ref b396)]
      refine own_aload X408 hx (hb hby at_261) rfl rfl ?_
      refine own_acmp X408 hx 268 true (hb hby at_263) rfl rfl (decide_eq_true rfl) (by decide) (by decide) ?_
      refine own_iload X408 hx (hb hby at_268) rfl ?_
      refine own_iconst X408 hx (3 : Int32) (hb hby at_270) rfl ?_
      refine own_icmpNo X408 hx (hb hby at_271) (flt (by decide : ¬ ((3 : Int32) < (3 : Int32)))).1 ?_
      refine own_aload X408 hx (hb hby at_274) rfl rfl ?_
      refine own_iload X408 hx (hb hby at_276) rfl ?_
      refine own_lload X408 hx (hb hby at_278) rfl ?_
      refine own_lload X408 hx (hb hby at_280) rfl ?_
      refine own_lload X408 hx (hb hby at_282) rfl ?_
      refine own_iload X408 hx (hb hby at_284) rfl ?_
      refine own_iload X408 hx (hb hby at_286) rfl ?_
      refine own_lload X408 hx (hb hby at_288) rfl ?_
      refine own_cStat (W := 1) (rest := [(.ref o)]) X408 hx hZ [(.int z), (.long q0), (.long q0), (.long q0), (.int (0 : Int32)), (.int (0 : Int32)), (.long q0)] hown (hw _ (List.mem_of_getElem? (i := 65) rfl)) (hw _ (List.mem_of_getElem? (i := 66) rfl)) (by decide) (hw _ (List.mem_of_getElem? (i := 67) rfl)) (hw _ (List.mem_of_getElem? (i := 2) rfl)) e408 (rmDep_00 l Z a0 hw [] z q0 q0 q0 q0 T396.heap n0 Zs401) (by rw [hml]; rfl) (lenOf pd_7 rfl) rfl (Nat.le_of_eq rfl) (hb hby at_290) (by decide) (by decide) (by decide) (by decide) fun v409 T409 L409 X409 hQ409 => ?_
      obtain ⟨rfl, N409q, e409⟩ := hQ409
      have N409 := Fr.app N408 N409q
      show own_At p e below s _ _ _ T409 m 293 _ [(.int (own_bet z q0 q0)), (.ref o)]
      rw [show (own_bet z q0 q0) = (0 : Int32) from by rw [own_betN RK0 RK0 (own_irr _)]]
      refine own_cVirt (W := 0) (rest := []) X409 hx hZ [(.int (0 : Int32))] hown (hw _ (List.mem_of_getElem? (i := 71) rfl)) (hw _ (List.mem_of_getElem? (i := 72) rfl)) (notFace_of_selects (args := #[]) (mvT hZ (hw _ (List.mem_of_getElem? (i := 74) rfl)))) (hw _ (List.mem_of_getElem? (i := 74) rfl)) (hw _ (List.mem_of_getElem? (i := 73) rfl)) (by decide) (hw _ (List.mem_of_getElem? (i := 75) rfl)) (hw _ (List.mem_of_getElem? (i := 7) rfl)) e409 f398 (rmLev_1_0 l Z a0 hw [] o ra la sd kr kl r0 b396 T396.heap n0 Zs401 LD396) (by rw [hml]; rfl) (lenOf pd_8 rfl) rfl (Nat.le_of_eq rfl) (hb hby at_293) (by decide) (by decide) (by decide) (by decide) fun v410 T410 L410 X410 hQ410 => ?_
      obtain ⟨rfl, N410q, e410⟩ := hQ410
      have N410 := Fr.app N409 N410q
      show own_At p e below s _ _ _ T410 m 296 _ [(.ref b396)]
      refine own_aload X410 hx (hb hby at_296) rfl rfl ?_
      refine own_acmp X410 hx 303 true (hb hby at_298) rfl rfl (decide_eq_true rfl) (by decide) (by decide) ?_
      refine own_iconst X410 hx (1 : Int32) (hb hby at_303) rfl ?_
      refine own_retN X410 hx hlk hret (by simp) (by decide) (hb hby at_304) (by decide) (by decide) ?_
      try rw [e410]
      exact ⟨rfl, N410⟩
    · refine own_astore (l' := #[.val (.int p1), .val (.long j1), .second, .val (.long j2), .second, .val (.long j3), .second, .val (.int z), .val (.int (3 : Int32)), .val (.long q0), .second, .val (.long q0), .second, .val (.long q2), .second, .val (.ref o), .unset, .unset, .unset, .unset, .unset, .unset]) X0 hx (hb hby at_68) rfl rfl ?_
      refine own_aload X0 hx (hb hby at_70) rfl rfl ?_
      refine own_lload X0 hx (hb hby at_72) rfl ?_
      refine own_cVirt (W := 0) (rest := []) X0 hx hZ [(.long q0)] hown (hw _ (List.mem_of_getElem? (i := 26) rfl)) (hw _ (List.mem_of_getElem? (i := 27) rfl)) (notFace_of_selects (args := #[]) (mvT hZ (hw _ (List.mem_of_getElem? (i := 29) rfl)))) (hw _ (List.mem_of_getElem? (i := 29) rfl)) (hw _ (List.mem_of_getElem? (i := 28) rfl)) (by decide) (hw _ (List.mem_of_getElem? (i := 30) rfl)) (hw _ (List.mem_of_getElem? (i := 7) rfl)) e0 Eo (rmAt_0_ins0 l Z a0 hw [] o ra la sd wB kr kl r0 q0 h0 n0 Z0 LD SB hs0 g_o g_ra g_la ) (by rw [hml]; rfl) (lenOf pd_5 rfl) rfl (Nat.le_of_eq rfl) (hb hby at_74) (by decide) (by decide) (by decide) (by decide) fun v411 T411 L411 X411 hQ411 => ?_
      obtain ⟨b411, rfl, N411q, K411, szb411, LD411⟩ := hQ411
      have N411 := Fr.app N0 N411q
      have f412 := (own_staKeep SB K411 (allS (own_exaStat Eo) (allS (own_exaStat Era) (allS (own_exaStat Ela) all0))))
      have f413 := (Exa.keep Eo K411)
      have f414 := (Exa.keep Era K411)
      have f415 := (Exa.keep Ela K411)
      have Zs416 : n0 ≤ T411.heap.size := (Nat.le_trans Z0 K411.1)
      have FZ411 := LD411.2.2.2.1
      show own_At p e below s _ _ _ T411 m 77 _ [(.ref b411)]
      refine own_astore (l' := #[.val (.int p1), .val (.long j1), .second, .val (.long j2), .second, .val (.long j3), .second, .val (.int z), .val (.int (3 : Int32)), .val (.long q0), .second, .val (.long q0), .second, .val (.long q2), .second, .val (.ref o), .val (.ref b411), .unset, .unset, .unset, .unset, .unset]) X411 hx (hb hby at_77) rfl rfl ?_
      refine own_iload X411 hx (hb hby at_79) rfl ?_
      refine own_iconst X411 hx (2 : Int32) (hb hby at_81) rfl ?_
      refine own_icmpNo X411 hx (hb hby at_82) (flt (by decide : ¬ ((3 : Int32) < (2 : Int32)))).1 ?_
      refine own_aload X411 hx (hb hby at_85) rfl rfl ?_
      refine own_lload X411 hx (hb hby at_87) rfl ?_
      refine own_cVirt (W := 0) (rest := []) X411 hx hZ [(.long q0)] hown (hw _ (List.mem_of_getElem? (i := 26) rfl)) (hw _ (List.mem_of_getElem? (i := 27) rfl)) (notFace_of_selects (args := #[]) (mvT hZ (hw _ (List.mem_of_getElem? (i := 29) rfl)))) (hw _ (List.mem_of_getElem? (i := 29) rfl)) (hw _ (List.mem_of_getElem? (i := 28) rfl)) (by decide) (hw _ (List.mem_of_getElem? (i := 30) rfl)) (hw _ (List.mem_of_getElem? (i := 7) rfl)) rfl f413 (rmAt_1_found0 l Z a0 hw [] o ra la sd wB b411 kr kl r0 q0 T411.heap n0 Zs416 LD411 f412 hs0 g_o g_ra g_la ) (by rw [hml]; rfl) (lenOf pd_5 rfl) rfl (Nat.le_of_eq rfl) (hb hby at_89) (by decide) (by decide) (by decide) (by decide) fun v417 T417 L417 X417 hQ417 => ?_
      obtain ⟨rfl, N417q, e417⟩ := hQ417
      have N417 := Fr.app N411 N417q
      show own_At p e below s _ _ _ T417 m 92 _ [(.ref b411)]
      refine own_goto X417 hx 96 (hb hby at_92) (by decide) (by decide) ?_
      refine own_astore (l' := #[.val (.int p1), .val (.long j1), .second, .val (.long j2), .second, .val (.long j3), .second, .val (.int z), .val (.int (3 : Int32)), .val (.long q0), .second, .val (.long q0), .second, .val (.long q2), .second, .val (.ref o), .val (.ref b411), .val (.ref b411), .unset, .unset, .unset, .unset]) X417 hx (hb hby at_96) rfl rfl ?_
      refine own_iload X417 hx (hb hby at_98) rfl ?_
      refine own_iconst X417 hx (3 : Int32) (hb hby at_100) rfl ?_
      refine own_icmpNo X417 hx (hb hby at_101) (flt (by decide : ¬ ((3 : Int32) < (3 : Int32)))).1 ?_
      refine own_aload X417 hx (hb hby at_104) rfl rfl ?_
      refine own_lload X417 hx (hb hby at_106) rfl ?_
      refine own_cVirt (W := 0) (rest := []) X417 hx hZ [(.long q2)] hown (hw _ (List.mem_of_getElem? (i := 26) rfl)) (hw _ (List.mem_of_getElem? (i := 27) rfl)) (notFace_of_selects (args := #[]) (mvT hZ (hw _ (List.mem_of_getElem? (i := 29) rfl)))) (hw _ (List.mem_of_getElem? (i := 29) rfl)) (hw _ (List.mem_of_getElem? (i := 28) rfl)) (by decide) (hw _ (List.mem_of_getElem? (i := 30) rfl)) (hw _ (List.mem_of_getElem? (i := 7) rfl)) e417 f413 (rmAt_1_ins0 l Z a0 hw [] o ra la sd wB b411 kr kl r2 r0 q2 T411.heap n0 Zs416 LD411 f412 hs2 g_o g_ra g_la ht375) (by rw [hml]; rfl) (lenOf pd_5 rfl) rfl (Nat.le_of_eq rfl) (hb hby at_108) (by decide) (by decide) (by decide) (by decide) fun v418 T418 L418 X418 hQ418 => ?_
      obtain ⟨b418, rfl, N418q, K418, szb418, LD418⟩ := hQ418
      have N418 := Fr.app N417 N418q
      have f419 := (own_staKeep f412 K418 (allS (own_exaStat f413) (allS (own_exaStat f414) (allS (own_exaStat f415) all0))))
      have f420 := (Exa.keep f413 K418)
      have f421 := (Exa.keep f414 K418)
      have f422 := (Exa.keep f415 K418)
      have Zs423 : n0 ≤ T418.heap.size := (Nat.le_trans Zs416 K418.1)
      have FZ418 := LD418.2.2.2.1
      show own_At p e below s _ _ _ T418 m 111 _ [(.ref b418)]
      refine own_goto X418 hx 115 (hb hby at_111) (by decide) (by decide) ?_
      refine own_astore (l' := #[.val (.int p1), .val (.long j1), .second, .val (.long j2), .second, .val (.long j3), .second, .val (.int z), .val (.int (3 : Int32)), .val (.long q0), .second, .val (.long q0), .second, .val (.long q2), .second, .val (.ref o), .val (.ref b411), .val (.ref b411), .val (.ref b418), .unset, .unset, .unset]) X418 hx (hb hby at_115) rfl rfl ?_
      refine own_iload X418 hx (hb hby at_117) rfl ?_
      refine own_iconst X418 hx (2 : Int32) (hb hby at_119) rfl ?_
      refine own_icmpNo X418 hx (hb hby at_120) (flt (by decide : ¬ ((3 : Int32) < (2 : Int32)))).1 ?_
      refine own_lload X418 hx (hb hby at_123) rfl ?_
      refine own_lload X418 hx (hb hby at_125) rfl ?_
      refine own_lcmp X418 hx (hb hby at_127) ?_
      refine own_ifYes X418 hx 135 (hb hby at_128) (teq ((lw_eq q0 q0).mpr (rfl : q0 = q0))).1 (by decide) (by decide) ?_
      refine own_iconst X418 hx (0 : Int32) (hb hby at_135) rfl ?_
      refine own_istore (l' := #[.val (.int p1), .val (.long j1), .second, .val (.long j2), .second, .val (.long j3), .second, .val (.int z), .val (.int (3 : Int32)), .val (.long q0), .second, .val (.long q0), .second, .val (.long q2), .second, .val (.ref o), .val (.ref b411), .val (.ref b411), .val (.ref b418), .val (.int (0 : Int32)), .unset, .unset]) X418 hx (hb hby at_136) rfl ?_
      refine own_iload X418 hx (hb hby at_138) rfl ?_
      refine own_iconst X418 hx (3 : Int32) (hb hby at_140) rfl ?_
      refine own_icmpNo X418 hx (hb hby at_141) (flt (by decide : ¬ ((3 : Int32) < (3 : Int32)))).1 ?_
      refine own_lload X418 hx (hb hby at_144) rfl ?_
      refine own_lload X418 hx (hb hby at_146) rfl ?_
      refine own_lcmp X418 hx (hb hby at_148) ?_
      refine own_ifNo X418 hx (hb hby at_149) (feq (fun q => (own_rkN RK2 RK0 (own_ltne ht375)) ((lw_eq q2 q0).mp q))).1 ?_
      refine own_lload X418 hx (hb hby at_152) rfl ?_
      refine own_lload X418 hx (hb hby at_154) rfl ?_
      refine own_lcmp X418 hx (hb hby at_156) ?_
      refine own_ifNo X418 hx (hb hby at_157) (feq (fun q => (own_rkN RK2 RK0 (own_ltne ht375)) ((lw_eq q2 q0).mp q))).1 ?_
      refine own_iconst X418 hx (1 : Int32) (hb hby at_160) rfl ?_
      refine own_goto X418 hx 165 (hb hby at_161) (by decide) (by decide) ?_
      refine own_istore (l' := #[.val (.int p1), .val (.long j1), .second, .val (.long j2), .second, .val (.long j3), .second, .val (.int z), .val (.int (3 : Int32)), .val (.long q0), .second, .val (.long q0), .second, .val (.long q2), .second, .val (.ref o), .val (.ref b411), .val (.ref b411), .val (.ref b418), .val (.int (0 : Int32)), .val (.int (1 : Int32)), .unset]) X418 hx (hb hby at_165) rfl ?_
      refine own_iconst X418 hx (1 : Int32) (hb hby at_167) rfl ?_
      refine own_iload X418 hx (hb hby at_168) rfl ?_
      refine own_ifYes X418 hx 177 (hb hby at_170) (teq (by decide : (0 : Int32) = (0 : Int32))).1 (by decide) (by decide) ?_
      refine own_iconst X418 hx (0 : Int32) (hb hby at_177) rfl ?_
      refine own_iadd X418 hx (hb hby at_178) ?_
      rw [show ((1 : Int32) + (0 : Int32)) = (1 : Int32) from by decide]
      refine own_iload X418 hx (hb hby at_179) rfl ?_
      refine own_ifNo X418 hx (hb hby at_181) (feq (by decide : ¬ ((1 : Int32) = (0 : Int32)))).1 ?_
      refine own_iconst X418 hx (1 : Int32) (hb hby at_184) rfl ?_
      refine own_goto X418 hx 189 (hb hby at_185) (by decide) (by decide) ?_
      refine own_iadd X418 hx (hb hby at_189) ?_
      rw [show ((1 : Int32) + (1 : Int32)) = (2 : Int32) from by decide]
      refine own_istore (l' := #[.val (.int p1), .val (.long j1), .second, .val (.long j2), .second, .val (.long j3), .second, .val (.int z), .val (.int (3 : Int32)), .val (.long q0), .second, .val (.long q0), .second, .val (.long q2), .second, .val (.ref o), .val (.ref b411), .val (.ref b411), .val (.ref b418), .val (.int (0 : Int32)), .val (.int (1 : Int32)), .val (.int (2 : Int32))]) X418 hx (hb hby at_190) rfl ?_
      refine own_aload X418 hx (hb hby at_192) rfl rfl ?_
      refine own_cVirt (W := 0) (rest := []) X418 hx hZ [] hown (hw _ (List.mem_of_getElem? (i := 60) rfl)) (hw _ (List.mem_of_getElem? (i := 61) rfl)) (notFace_of_selects (args := #[]) (mvT hZ (hw _ (List.mem_of_getElem? (i := 63) rfl)))) (hw _ (List.mem_of_getElem? (i := 63) rfl)) (hw _ (List.mem_of_getElem? (i := 62) rfl)) (by decide) (hw _ (List.mem_of_getElem? (i := 64) rfl)) (hw _ (List.mem_of_getElem? (i := 7) rfl)) rfl f420 (rmSize l Z a0 hw [] o (2 : Int32) T418.heap n0 Zs423 FZ418) (by rw [hml]; rfl) (lenOf pd_6 rfl) rfl (Nat.le_of_eq rfl) (hb hby at_194) (by decide) (by decide) (by decide) (by decide) fun v424 T424 L424 X424 hQ424 => ?_
      obtain ⟨rfl, N424q, e424⟩ := hQ424
      have N424 := Fr.app N418 N424q
      show own_At p e below s _ _ _ T424 m 197 _ [(.int (2 : Int32))]
      refine own_iload X424 hx (hb hby at_197) rfl ?_
      refine own_icmpYes X424 hx 204 (hb hby at_199) (teq (by decide : (2 : Int32) = (2 : Int32))).1 (by decide) (by decide) ?_
      refine own_aload X424 hx (hb hby at_204) rfl rfl ?_
      refine own_iload X424 hx (hb hby at_206) rfl ?_
      refine own_lload X424 hx (hb hby at_208) rfl ?_
      refine own_lload X424 hx (hb hby at_210) rfl ?_
      refine own_lload X424 hx (hb hby at_212) rfl ?_
      refine own_iload X424 hx (hb hby at_214) rfl ?_
      refine own_iload X424 hx (hb hby at_216) rfl ?_
      refine own_lload X424 hx (hb hby at_218) rfl ?_
      refine own_cStat (W := 1) (rest := [(.ref o)]) X424 hx hZ [(.int z), (.long q0), (.long q0), (.long q2), (.int (0 : Int32)), (.int (1 : Int32)), (.long q0)] hown (hw _ (List.mem_of_getElem? (i := 65) rfl)) (hw _ (List.mem_of_getElem? (i := 66) rfl)) (by decide) (hw _ (List.mem_of_getElem? (i := 67) rfl)) (hw _ (List.mem_of_getElem? (i := 2) rfl)) e424 (rmDep_01 l Z a0 hw [] z q0 q0 q2 q0 T418.heap n0 Zs423) (by rw [hml]; rfl) (lenOf pd_7 rfl) rfl (Nat.le_of_eq rfl) (hb hby at_220) (by decide) (by decide) (by decide) (by decide) fun v425 T425 L425 X425 hQ425 => ?_
      obtain ⟨rfl, N425q, e425⟩ := hQ425
      have N425 := Fr.app N424 N425q
      show own_At p e below s _ _ _ T425 m 223 _ [(.int ((own_bet z q0 q0) + (own_bet z q2 q0))), (.ref o)]
      rw [show ((own_bet z q0 q0) + (own_bet z q2 q0)) = (0 : Int32) from by rw [own_betN RK0 RK0 (own_irr _), own_betN RK2 RK0 (own_asym ht375)]; decide]
      refine own_cVirt (W := 0) (rest := []) X425 hx hZ [(.int (0 : Int32))] hown (hw _ (List.mem_of_getElem? (i := 71) rfl)) (hw _ (List.mem_of_getElem? (i := 72) rfl)) (notFace_of_selects (args := #[]) (mvT hZ (hw _ (List.mem_of_getElem? (i := 74) rfl)))) (hw _ (List.mem_of_getElem? (i := 74) rfl)) (hw _ (List.mem_of_getElem? (i := 73) rfl)) (by decide) (hw _ (List.mem_of_getElem? (i := 75) rfl)) (hw _ (List.mem_of_getElem? (i := 7) rfl)) e425 f420 (rmLev_2_0 l Z a0 hw [] o ra la sd kr kl r2 r0 b418 b411 T418.heap n0 Zs423 LD418) (by rw [hml]; rfl) (lenOf pd_8 rfl) rfl (Nat.le_of_eq rfl) (hb hby at_223) (by decide) (by decide) (by decide) (by decide) fun v426 T426 L426 X426 hQ426 => ?_
      obtain ⟨rfl, N426q, e426⟩ := hQ426
      have N426 := Fr.app N425 N426q
      show own_At p e below s _ _ _ T426 m 226 _ [(.ref b411)]
      refine own_aload X426 hx (hb hby at_226) rfl rfl ?_
      refine own_acmp X426 hx 233 true (hb hby at_228) rfl rfl (decide_eq_true rfl) (by decide) (by decide) ?_
      refine own_iload X426 hx (hb hby at_233) rfl ?_
      refine own_iconst X426 hx (2 : Int32) (hb hby at_235) rfl ?_
      refine own_icmpNo X426 hx (hb hby at_236) (flt (by decide : ¬ ((3 : Int32) < (2 : Int32)))).1 ?_
      refine own_aload X426 hx (hb hby at_239) rfl rfl ?_
      refine own_iload X426 hx (hb hby at_241) rfl ?_
      refine own_lload X426 hx (hb hby at_243) rfl ?_
      refine own_lload X426 hx (hb hby at_245) rfl ?_
      refine own_lload X426 hx (hb hby at_247) rfl ?_
      refine own_iload X426 hx (hb hby at_249) rfl ?_
      refine own_iload X426 hx (hb hby at_251) rfl ?_
      refine own_lload X426 hx (hb hby at_253) rfl ?_
      refine own_cStat (W := 1) (rest := [(.ref o)]) X426 hx hZ [(.int z), (.long q0), (.long q0), (.long q2), (.int (0 : Int32)), (.int (1 : Int32)), (.long q0)] hown (hw _ (List.mem_of_getElem? (i := 65) rfl)) (hw _ (List.mem_of_getElem? (i := 66) rfl)) (by decide) (hw _ (List.mem_of_getElem? (i := 67) rfl)) (hw _ (List.mem_of_getElem? (i := 2) rfl)) e426 (rmDep_01 l Z a0 hw [] z q0 q0 q2 q0 T418.heap n0 Zs423) (by rw [hml]; rfl) (lenOf pd_7 rfl) rfl (Nat.le_of_eq rfl) (hb hby at_255) (by decide) (by decide) (by decide) (by decide) fun v427 T427 L427 X427 hQ427 => ?_
      obtain ⟨rfl, N427q, e427⟩ := hQ427
      have N427 := Fr.app N426 N427q
      show own_At p e below s _ _ _ T427 m 258 _ [(.int ((own_bet z q0 q0) + (own_bet z q2 q0))), (.ref o)]
      rw [show ((own_bet z q0 q0) + (own_bet z q2 q0)) = (0 : Int32) from by rw [own_betN RK0 RK0 (own_irr _), own_betN RK2 RK0 (own_asym ht375)]; decide]
      refine own_cVirt (W := 0) (rest := []) X427 hx hZ [(.int (0 : Int32))] hown (hw _ (List.mem_of_getElem? (i := 71) rfl)) (hw _ (List.mem_of_getElem? (i := 72) rfl)) (notFace_of_selects (args := #[]) (mvT hZ (hw _ (List.mem_of_getElem? (i := 74) rfl)))) (hw _ (List.mem_of_getElem? (i := 74) rfl)) (hw _ (List.mem_of_getElem? (i := 73) rfl)) (by decide) (hw _ (List.mem_of_getElem? (i := 75) rfl)) (hw _ (List.mem_of_getElem? (i := 7) rfl)) e427 f420 (rmLev_2_0 l Z a0 hw [] o ra la sd kr kl r2 r0 b418 b411 T418.heap n0 Zs423 LD418) (by rw [hml]; rfl) (lenOf pd_8 rfl) rfl (Nat.le_of_eq rfl) (hb hby at_258) (by decide) (by decide) (by decide) (by decide) fun v428 T428 L428 X428 hQ428 => ?_
      obtain ⟨rfl, N428q, e428⟩ := hQ428
      have N428 := Fr.app N427 N428q
      show own_At p e below s _ _ _ T428 m 261 _ [(.ref b411)]
      refine own_aload X428 hx (hb hby at_261) rfl rfl ?_
      refine own_acmp X428 hx 268 true (hb hby at_263) rfl rfl (decide_eq_true rfl) (by decide) (by decide) ?_
      refine own_iload X428 hx (hb hby at_268) rfl ?_
      refine own_iconst X428 hx (3 : Int32) (hb hby at_270) rfl ?_
      refine own_icmpNo X428 hx (hb hby at_271) (flt (by decide : ¬ ((3 : Int32) < (3 : Int32)))).1 ?_
      refine own_aload X428 hx (hb hby at_274) rfl rfl ?_
      refine own_iload X428 hx (hb hby at_276) rfl ?_
      refine own_lload X428 hx (hb hby at_278) rfl ?_
      refine own_lload X428 hx (hb hby at_280) rfl ?_
      refine own_lload X428 hx (hb hby at_282) rfl ?_
      refine own_iload X428 hx (hb hby at_284) rfl ?_
      refine own_iload X428 hx (hb hby at_286) rfl ?_
      refine own_lload X428 hx (hb hby at_288) rfl ?_
      refine own_cStat (W := 1) (rest := [(.ref o)]) X428 hx hZ [(.int z), (.long q0), (.long q0), (.long q2), (.int (0 : Int32)), (.int (1 : Int32)), (.long q2)] hown (hw _ (List.mem_of_getElem? (i := 65) rfl)) (hw _ (List.mem_of_getElem? (i := 66) rfl)) (by decide) (hw _ (List.mem_of_getElem? (i := 67) rfl)) (hw _ (List.mem_of_getElem? (i := 2) rfl)) e428 (rmDep_01 l Z a0 hw [] z q0 q0 q2 q2 T418.heap n0 Zs423) (by rw [hml]; rfl) (lenOf pd_7 rfl) rfl (Nat.le_of_eq rfl) (hb hby at_290) (by decide) (by decide) (by decide) (by decide) fun v429 T429 L429 X429 hQ429 => ?_
      obtain ⟨rfl, N429q, e429⟩ := hQ429
      have N429 := Fr.app N428 N429q
      show own_At p e below s _ _ _ T429 m 293 _ [(.int ((own_bet z q0 q2) + (own_bet z q2 q2))), (.ref o)]
      rw [show ((own_bet z q0 q2) + (own_bet z q2 q2)) = (1 : Int32) from by rw [own_betY RK0 RK2 ht375, own_betN RK2 RK2 (own_irr _)]; decide]
      refine own_cVirt (W := 0) (rest := []) X429 hx hZ [(.int (1 : Int32))] hown (hw _ (List.mem_of_getElem? (i := 71) rfl)) (hw _ (List.mem_of_getElem? (i := 72) rfl)) (notFace_of_selects (args := #[]) (mvT hZ (hw _ (List.mem_of_getElem? (i := 74) rfl)))) (hw _ (List.mem_of_getElem? (i := 74) rfl)) (hw _ (List.mem_of_getElem? (i := 73) rfl)) (by decide) (hw _ (List.mem_of_getElem? (i := 75) rfl)) (hw _ (List.mem_of_getElem? (i := 7) rfl)) e429 f420 (rmLev_2_1 l Z a0 hw [] o ra la sd kr kl r2 r0 b418 b411 T418.heap n0 Zs423 LD418) (by rw [hml]; rfl) (lenOf pd_8 rfl) rfl (Nat.le_of_eq rfl) (hb hby at_293) (by decide) (by decide) (by decide) (by decide) fun v430 T430 L430 X430 hQ430 => ?_
      obtain ⟨rfl, N430q, e430⟩ := hQ430
      have N430 := Fr.app N429 N430q
      show own_At p e below s _ _ _ T430 m 296 _ [(.ref b418)]
      refine own_aload X430 hx (hb hby at_296) rfl rfl ?_
      refine own_acmp X430 hx 303 true (hb hby at_298) rfl rfl (decide_eq_true rfl) (by decide) (by decide) ?_
      refine own_iconst X430 hx (1 : Int32) (hb hby at_303) rfl ?_
      refine own_retN X430 hx hlk hret (by simp) (by decide) (hb hby at_304) (by decide) (by decide) ?_
      try rw [e430]
      exact ⟨rfl, N430⟩
  · rcases own_tri r1 r2 with ht431 | rfl | ht431
    · rcases own_tri r0 r2 with ht432 | rfl | ht432
      · refine own_astore (l' := #[.val (.int p1), .val (.long j1), .second, .val (.long j2), .second, .val (.long j3), .second, .val (.int z), .val (.int (3 : Int32)), .val (.long q0), .second, .val (.long q1), .second, .val (.long q2), .second, .val (.ref o), .unset, .unset, .unset, .unset, .unset, .unset]) X0 hx (hb hby at_68) rfl rfl ?_
        refine own_aload X0 hx (hb hby at_70) rfl rfl ?_
        refine own_lload X0 hx (hb hby at_72) rfl ?_
        refine own_cVirt (W := 0) (rest := []) X0 hx hZ [(.long q0)] hown (hw _ (List.mem_of_getElem? (i := 26) rfl)) (hw _ (List.mem_of_getElem? (i := 27) rfl)) (notFace_of_selects (args := #[]) (mvT hZ (hw _ (List.mem_of_getElem? (i := 29) rfl)))) (hw _ (List.mem_of_getElem? (i := 29) rfl)) (hw _ (List.mem_of_getElem? (i := 28) rfl)) (by decide) (hw _ (List.mem_of_getElem? (i := 30) rfl)) (hw _ (List.mem_of_getElem? (i := 7) rfl)) e0 Eo (rmAt_0_ins0 l Z a0 hw [] o ra la sd wB kr kl r0 q0 h0 n0 Z0 LD SB hs0 g_o g_ra g_la ) (by rw [hml]; rfl) (lenOf pd_5 rfl) rfl (Nat.le_of_eq rfl) (hb hby at_74) (by decide) (by decide) (by decide) (by decide) fun v433 T433 L433 X433 hQ433 => ?_
        obtain ⟨b433, rfl, N433q, K433, szb433, LD433⟩ := hQ433
        have N433 := Fr.app N0 N433q
        have f434 := (own_staKeep SB K433 (allS (own_exaStat Eo) (allS (own_exaStat Era) (allS (own_exaStat Ela) all0))))
        have f435 := (Exa.keep Eo K433)
        have f436 := (Exa.keep Era K433)
        have f437 := (Exa.keep Ela K433)
        have Zs438 : n0 ≤ T433.heap.size := (Nat.le_trans Z0 K433.1)
        have FZ433 := LD433.2.2.2.1
        show own_At p e below s _ _ _ T433 m 77 _ [(.ref b433)]
        refine own_astore (l' := #[.val (.int p1), .val (.long j1), .second, .val (.long j2), .second, .val (.long j3), .second, .val (.int z), .val (.int (3 : Int32)), .val (.long q0), .second, .val (.long q1), .second, .val (.long q2), .second, .val (.ref o), .val (.ref b433), .unset, .unset, .unset, .unset, .unset]) X433 hx (hb hby at_77) rfl rfl ?_
        refine own_iload X433 hx (hb hby at_79) rfl ?_
        refine own_iconst X433 hx (2 : Int32) (hb hby at_81) rfl ?_
        refine own_icmpNo X433 hx (hb hby at_82) (flt (by decide : ¬ ((3 : Int32) < (2 : Int32)))).1 ?_
        refine own_aload X433 hx (hb hby at_85) rfl rfl ?_
        refine own_lload X433 hx (hb hby at_87) rfl ?_
        refine own_cVirt (W := 0) (rest := []) X433 hx hZ [(.long q1)] hown (hw _ (List.mem_of_getElem? (i := 26) rfl)) (hw _ (List.mem_of_getElem? (i := 27) rfl)) (notFace_of_selects (args := #[]) (mvT hZ (hw _ (List.mem_of_getElem? (i := 29) rfl)))) (hw _ (List.mem_of_getElem? (i := 29) rfl)) (hw _ (List.mem_of_getElem? (i := 28) rfl)) (by decide) (hw _ (List.mem_of_getElem? (i := 30) rfl)) (hw _ (List.mem_of_getElem? (i := 7) rfl)) rfl f435 (rmAt_1_ins0 l Z a0 hw [] o ra la sd wB b433 kr kl r1 r0 q1 T433.heap n0 Zs438 LD433 f434 hs1 g_o g_ra g_la ht257) (by rw [hml]; rfl) (lenOf pd_5 rfl) rfl (Nat.le_of_eq rfl) (hb hby at_89) (by decide) (by decide) (by decide) (by decide) fun v439 T439 L439 X439 hQ439 => ?_
        obtain ⟨b439, rfl, N439q, K439, szb439, LD439⟩ := hQ439
        have N439 := Fr.app N433 N439q
        have f440 := (own_staKeep f434 K439 (allS (own_exaStat f435) (allS (own_exaStat f436) (allS (own_exaStat f437) all0))))
        have f441 := (Exa.keep f435 K439)
        have f442 := (Exa.keep f436 K439)
        have f443 := (Exa.keep f437 K439)
        have Zs444 : n0 ≤ T439.heap.size := (Nat.le_trans Zs438 K439.1)
        have FZ439 := LD439.2.2.2.1
        show own_At p e below s _ _ _ T439 m 92 _ [(.ref b439)]
        refine own_goto X439 hx 96 (hb hby at_92) (by decide) (by decide) ?_
        refine own_astore (l' := #[.val (.int p1), .val (.long j1), .second, .val (.long j2), .second, .val (.long j3), .second, .val (.int z), .val (.int (3 : Int32)), .val (.long q0), .second, .val (.long q1), .second, .val (.long q2), .second, .val (.ref o), .val (.ref b433), .val (.ref b439), .unset, .unset, .unset, .unset]) X439 hx (hb hby at_96) rfl rfl ?_
        refine own_iload X439 hx (hb hby at_98) rfl ?_
        refine own_iconst X439 hx (3 : Int32) (hb hby at_100) rfl ?_
        refine own_icmpNo X439 hx (hb hby at_101) (flt (by decide : ¬ ((3 : Int32) < (3 : Int32)))).1 ?_
        refine own_aload X439 hx (hb hby at_104) rfl rfl ?_
        refine own_lload X439 hx (hb hby at_106) rfl ?_
        refine own_cVirt (W := 0) (rest := []) X439 hx hZ [(.long q2)] hown (hw _ (List.mem_of_getElem? (i := 26) rfl)) (hw _ (List.mem_of_getElem? (i := 27) rfl)) (notFace_of_selects (args := #[]) (mvT hZ (hw _ (List.mem_of_getElem? (i := 29) rfl)))) (hw _ (List.mem_of_getElem? (i := 29) rfl)) (hw _ (List.mem_of_getElem? (i := 28) rfl)) (by decide) (hw _ (List.mem_of_getElem? (i := 30) rfl)) (hw _ (List.mem_of_getElem? (i := 7) rfl)) rfl f441 (rmAt_2_ins2 l Z a0 hw [] o ra la sd wB b439 b433 kr kl r2 r1 r0 q2 T439.heap n0 Zs444 LD439 f440 hs2 g_o g_ra g_la ht431 ht432) (by rw [hml]; rfl) (lenOf pd_5 rfl) rfl (Nat.le_of_eq rfl) (hb hby at_108) (by decide) (by decide) (by decide) (by decide) fun v445 T445 L445 X445 hQ445 => ?_
        obtain ⟨b445, rfl, N445q, K445, szb445, LD445⟩ := hQ445
        have N445 := Fr.app N439 N445q
        have f446 := (own_staKeep f440 K445 (allS (own_exaStat f441) (allS (own_exaStat f442) (allS (own_exaStat f443) all0))))
        have f447 := (Exa.keep f441 K445)
        have f448 := (Exa.keep f442 K445)
        have f449 := (Exa.keep f443 K445)
        have Zs450 : n0 ≤ T445.heap.size := (Nat.le_trans Zs444 K445.1)
        have FZ445 := LD445.2.2.2.1
        show own_At p e below s _ _ _ T445 m 111 _ [(.ref b445)]
        refine own_goto X445 hx 115 (hb hby at_111) (by decide) (by decide) ?_
        refine own_astore (l' := #[.val (.int p1), .val (.long j1), .second, .val (.long j2), .second, .val (.long j3), .second, .val (.int z), .val (.int (3 : Int32)), .val (.long q0), .second, .val (.long q1), .second, .val (.long q2), .second, .val (.ref o), .val (.ref b433), .val (.ref b439), .val (.ref b445), .unset, .unset, .unset]) X445 hx (hb hby at_115) rfl rfl ?_
        refine own_iload X445 hx (hb hby at_117) rfl ?_
        refine own_iconst X445 hx (2 : Int32) (hb hby at_119) rfl ?_
        refine own_icmpNo X445 hx (hb hby at_120) (flt (by decide : ¬ ((3 : Int32) < (2 : Int32)))).1 ?_
        refine own_lload X445 hx (hb hby at_123) rfl ?_
        refine own_lload X445 hx (hb hby at_125) rfl ?_
        refine own_lcmp X445 hx (hb hby at_127) ?_
        refine own_ifNo X445 hx (hb hby at_128) (feq (fun q => (own_rkN RK1 RK0 (own_ltne ht257)) ((lw_eq q1 q0).mp q))).1 ?_
        refine own_iconst X445 hx (1 : Int32) (hb hby at_131) rfl ?_
        refine own_goto X445 hx 136 (hb hby at_132) (by decide) (by decide) ?_
        refine own_istore (l' := #[.val (.int p1), .val (.long j1), .second, .val (.long j2), .second, .val (.long j3), .second, .val (.int z), .val (.int (3 : Int32)), .val (.long q0), .second, .val (.long q1), .second, .val (.long q2), .second, .val (.ref o), .val (.ref b433), .val (.ref b439), .val (.ref b445), .val (.int (1 : Int32)), .unset, .unset]) X445 hx (hb hby at_136) rfl ?_
        refine own_iload X445 hx (hb hby at_138) rfl ?_
        refine own_iconst X445 hx (3 : Int32) (hb hby at_140) rfl ?_
        refine own_icmpNo X445 hx (hb hby at_141) (flt (by decide : ¬ ((3 : Int32) < (3 : Int32)))).1 ?_
        refine own_lload X445 hx (hb hby at_144) rfl ?_
        refine own_lload X445 hx (hb hby at_146) rfl ?_
        refine own_lcmp X445 hx (hb hby at_148) ?_
        refine own_ifNo X445 hx (hb hby at_149) (feq (fun q => (own_rkN RK2 RK0 (own_gtne ht432)) ((lw_eq q2 q0).mp q))).1 ?_
        refine own_lload X445 hx (hb hby at_152) rfl ?_
        refine own_lload X445 hx (hb hby at_154) rfl ?_
        refine own_lcmp X445 hx (hb hby at_156) ?_
        refine own_ifNo X445 hx (hb hby at_157) (feq (fun q => (own_rkN RK2 RK1 (own_gtne ht431)) ((lw_eq q2 q1).mp q))).1 ?_
        refine own_iconst X445 hx (1 : Int32) (hb hby at_160) rfl ?_
        refine own_goto X445 hx 165 (hb hby at_161) (by decide) (by decide) ?_
        refine own_istore (l' := #[.val (.int p1), .val (.long j1), .second, .val (.long j2), .second, .val (.long j3), .second, .val (.int z), .val (.int (3 : Int32)), .val (.long q0), .second, .val (.long q1), .second, .val (.long q2), .second, .val (.ref o), .val (.ref b433), .val (.ref b439), .val (.ref b445), .val (.int (1 : Int32)), .val (.int (1 : Int32)), .unset]) X445 hx (hb hby at_165) rfl ?_
        refine own_iconst X445 hx (1 : Int32) (hb hby at_167) rfl ?_
        refine own_iload X445 hx (hb hby at_168) rfl ?_
        refine own_ifNo X445 hx (hb hby at_170) (feq (by decide : ¬ ((1 : Int32) = (0 : Int32)))).1 ?_
        refine own_iconst X445 hx (1 : Int32) (hb hby at_173) rfl ?_
        refine own_goto X445 hx 178 (hb hby at_174) (by decide) (by decide) ?_
        refine own_iadd X445 hx (hb hby at_178) ?_
        rw [show ((1 : Int32) + (1 : Int32)) = (2 : Int32) from by decide]
        refine own_iload X445 hx (hb hby at_179) rfl ?_
        refine own_ifNo X445 hx (hb hby at_181) (feq (by decide : ¬ ((1 : Int32) = (0 : Int32)))).1 ?_
        refine own_iconst X445 hx (1 : Int32) (hb hby at_184) rfl ?_
        refine own_goto X445 hx 189 (hb hby at_185) (by decide) (by decide) ?_
        refine own_iadd X445 hx (hb hby at_189) ?_
        rw [show ((2 : Int32) + (1 : Int32)) = (3 : Int32) from by decide]
        refine own_istore (l' := #[.val (.int p1), .val (.long j1), .second, .val (.long j2), .second, .val (.long j3), .second, .val (.int z), .val (.int (3 : Int32)), .val (.long q0), .second, .val (.long q1), .second, .val (.long q2), .second, .val (.ref o), .val (.ref b433), .val (.ref b439), .val (.ref b445), .val (.int (1 : Int32)), .val (.int (1 : Int32)), .val (.int (3 : Int32))]) X445 hx (hb hby at_190) rfl ?_
        refine own_aload X445 hx (hb hby at_192) rfl rfl ?_
        refine own_cVirt (W := 0) (rest := []) X445 hx hZ [] hown (hw _ (List.mem_of_getElem? (i := 60) rfl)) (hw _ (List.mem_of_getElem? (i := 61) rfl)) (notFace_of_selects (args := #[]) (mvT hZ (hw _ (List.mem_of_getElem? (i := 63) rfl)))) (hw _ (List.mem_of_getElem? (i := 63) rfl)) (hw _ (List.mem_of_getElem? (i := 62) rfl)) (by decide) (hw _ (List.mem_of_getElem? (i := 64) rfl)) (hw _ (List.mem_of_getElem? (i := 7) rfl)) rfl f447 (rmSize l Z a0 hw [] o (3 : Int32) T445.heap n0 Zs450 FZ445) (by rw [hml]; rfl) (lenOf pd_6 rfl) rfl (Nat.le_of_eq rfl) (hb hby at_194) (by decide) (by decide) (by decide) (by decide) fun v451 T451 L451 X451 hQ451 => ?_
        obtain ⟨rfl, N451q, e451⟩ := hQ451
        have N451 := Fr.app N445 N451q
        show own_At p e below s _ _ _ T451 m 197 _ [(.int (3 : Int32))]
        refine own_iload X451 hx (hb hby at_197) rfl ?_
        refine own_icmpYes X451 hx 204 (hb hby at_199) (teq (by decide : (3 : Int32) = (3 : Int32))).1 (by decide) (by decide) ?_
        refine own_aload X451 hx (hb hby at_204) rfl rfl ?_
        refine own_iload X451 hx (hb hby at_206) rfl ?_
        refine own_lload X451 hx (hb hby at_208) rfl ?_
        refine own_lload X451 hx (hb hby at_210) rfl ?_
        refine own_lload X451 hx (hb hby at_212) rfl ?_
        refine own_iload X451 hx (hb hby at_214) rfl ?_
        refine own_iload X451 hx (hb hby at_216) rfl ?_
        refine own_lload X451 hx (hb hby at_218) rfl ?_
        refine own_cStat (W := 1) (rest := [(.ref o)]) X451 hx hZ [(.int z), (.long q0), (.long q1), (.long q2), (.int (1 : Int32)), (.int (1 : Int32)), (.long q0)] hown (hw _ (List.mem_of_getElem? (i := 65) rfl)) (hw _ (List.mem_of_getElem? (i := 66) rfl)) (by decide) (hw _ (List.mem_of_getElem? (i := 67) rfl)) (hw _ (List.mem_of_getElem? (i := 2) rfl)) e451 (rmDep_11 l Z a0 hw [] z q0 q1 q2 q0 T445.heap n0 Zs450) (by rw [hml]; rfl) (lenOf pd_7 rfl) rfl (Nat.le_of_eq rfl) (hb hby at_220) (by decide) (by decide) (by decide) (by decide) fun v452 T452 L452 X452 hQ452 => ?_
        obtain ⟨rfl, N452q, e452⟩ := hQ452
        have N452 := Fr.app N451 N452q
        show own_At p e below s _ _ _ T452 m 223 _ [(.int (((own_bet z q0 q0) + (own_bet z q1 q0)) + (own_bet z q2 q0))), (.ref o)]
        rw [show (((own_bet z q0 q0) + (own_bet z q1 q0)) + (own_bet z q2 q0)) = (1 : Int32) from by rw [own_betN RK0 RK0 (own_irr _), own_betN RK1 RK0 (own_asym ht257), own_betY RK2 RK0 ht432]; decide]
        refine own_cVirt (W := 0) (rest := []) X452 hx hZ [(.int (1 : Int32))] hown (hw _ (List.mem_of_getElem? (i := 71) rfl)) (hw _ (List.mem_of_getElem? (i := 72) rfl)) (notFace_of_selects (args := #[]) (mvT hZ (hw _ (List.mem_of_getElem? (i := 74) rfl)))) (hw _ (List.mem_of_getElem? (i := 74) rfl)) (hw _ (List.mem_of_getElem? (i := 73) rfl)) (by decide) (hw _ (List.mem_of_getElem? (i := 75) rfl)) (hw _ (List.mem_of_getElem? (i := 7) rfl)) e452 f447 (rmLev_3_1 l Z a0 hw [] o ra la sd kr kl r1 r0 r2 b439 b433 b445 T445.heap n0 Zs450 LD445) (by rw [hml]; rfl) (lenOf pd_8 rfl) rfl (Nat.le_of_eq rfl) (hb hby at_223) (by decide) (by decide) (by decide) (by decide) fun v453 T453 L453 X453 hQ453 => ?_
        obtain ⟨rfl, N453q, e453⟩ := hQ453
        have N453 := Fr.app N452 N453q
        show own_At p e below s _ _ _ T453 m 226 _ [(.ref b433)]
        refine own_aload X453 hx (hb hby at_226) rfl rfl ?_
        refine own_acmp X453 hx 233 true (hb hby at_228) rfl rfl (decide_eq_true rfl) (by decide) (by decide) ?_
        refine own_iload X453 hx (hb hby at_233) rfl ?_
        refine own_iconst X453 hx (2 : Int32) (hb hby at_235) rfl ?_
        refine own_icmpNo X453 hx (hb hby at_236) (flt (by decide : ¬ ((3 : Int32) < (2 : Int32)))).1 ?_
        refine own_aload X453 hx (hb hby at_239) rfl rfl ?_
        refine own_iload X453 hx (hb hby at_241) rfl ?_
        refine own_lload X453 hx (hb hby at_243) rfl ?_
        refine own_lload X453 hx (hb hby at_245) rfl ?_
        refine own_lload X453 hx (hb hby at_247) rfl ?_
        refine own_iload X453 hx (hb hby at_249) rfl ?_
        refine own_iload X453 hx (hb hby at_251) rfl ?_
        refine own_lload X453 hx (hb hby at_253) rfl ?_
        refine own_cStat (W := 1) (rest := [(.ref o)]) X453 hx hZ [(.int z), (.long q0), (.long q1), (.long q2), (.int (1 : Int32)), (.int (1 : Int32)), (.long q1)] hown (hw _ (List.mem_of_getElem? (i := 65) rfl)) (hw _ (List.mem_of_getElem? (i := 66) rfl)) (by decide) (hw _ (List.mem_of_getElem? (i := 67) rfl)) (hw _ (List.mem_of_getElem? (i := 2) rfl)) e453 (rmDep_11 l Z a0 hw [] z q0 q1 q2 q1 T445.heap n0 Zs450) (by rw [hml]; rfl) (lenOf pd_7 rfl) rfl (Nat.le_of_eq rfl) (hb hby at_255) (by decide) (by decide) (by decide) (by decide) fun v454 T454 L454 X454 hQ454 => ?_
        obtain ⟨rfl, N454q, e454⟩ := hQ454
        have N454 := Fr.app N453 N454q
        show own_At p e below s _ _ _ T454 m 258 _ [(.int (((own_bet z q0 q1) + (own_bet z q1 q1)) + (own_bet z q2 q1))), (.ref o)]
        rw [show (((own_bet z q0 q1) + (own_bet z q1 q1)) + (own_bet z q2 q1)) = (2 : Int32) from by rw [own_betY RK0 RK1 ht257, own_betN RK1 RK1 (own_irr _), own_betY RK2 RK1 ht431]; decide]
        refine own_cVirt (W := 0) (rest := []) X454 hx hZ [(.int (2 : Int32))] hown (hw _ (List.mem_of_getElem? (i := 71) rfl)) (hw _ (List.mem_of_getElem? (i := 72) rfl)) (notFace_of_selects (args := #[]) (mvT hZ (hw _ (List.mem_of_getElem? (i := 74) rfl)))) (hw _ (List.mem_of_getElem? (i := 74) rfl)) (hw _ (List.mem_of_getElem? (i := 73) rfl)) (by decide) (hw _ (List.mem_of_getElem? (i := 75) rfl)) (hw _ (List.mem_of_getElem? (i := 7) rfl)) e454 f447 (rmLev_3_2 l Z a0 hw [] o ra la sd kr kl r1 r0 r2 b439 b433 b445 T445.heap n0 Zs450 LD445) (by rw [hml]; rfl) (lenOf pd_8 rfl) rfl (Nat.le_of_eq rfl) (hb hby at_258) (by decide) (by decide) (by decide) (by decide) fun v455 T455 L455 X455 hQ455 => ?_
        obtain ⟨rfl, N455q, e455⟩ := hQ455
        have N455 := Fr.app N454 N455q
        show own_At p e below s _ _ _ T455 m 261 _ [(.ref b439)]
        refine own_aload X455 hx (hb hby at_261) rfl rfl ?_
        refine own_acmp X455 hx 268 true (hb hby at_263) rfl rfl (decide_eq_true rfl) (by decide) (by decide) ?_
        refine own_iload X455 hx (hb hby at_268) rfl ?_
        refine own_iconst X455 hx (3 : Int32) (hb hby at_270) rfl ?_
        refine own_icmpNo X455 hx (hb hby at_271) (flt (by decide : ¬ ((3 : Int32) < (3 : Int32)))).1 ?_
        refine own_aload X455 hx (hb hby at_274) rfl rfl ?_
        refine own_iload X455 hx (hb hby at_276) rfl ?_
        refine own_lload X455 hx (hb hby at_278) rfl ?_
        refine own_lload X455 hx (hb hby at_280) rfl ?_
        refine own_lload X455 hx (hb hby at_282) rfl ?_
        refine own_iload X455 hx (hb hby at_284) rfl ?_
        refine own_iload X455 hx (hb hby at_286) rfl ?_
        refine own_lload X455 hx (hb hby at_288) rfl ?_
        refine own_cStat (W := 1) (rest := [(.ref o)]) X455 hx hZ [(.int z), (.long q0), (.long q1), (.long q2), (.int (1 : Int32)), (.int (1 : Int32)), (.long q2)] hown (hw _ (List.mem_of_getElem? (i := 65) rfl)) (hw _ (List.mem_of_getElem? (i := 66) rfl)) (by decide) (hw _ (List.mem_of_getElem? (i := 67) rfl)) (hw _ (List.mem_of_getElem? (i := 2) rfl)) e455 (rmDep_11 l Z a0 hw [] z q0 q1 q2 q2 T445.heap n0 Zs450) (by rw [hml]; rfl) (lenOf pd_7 rfl) rfl (Nat.le_of_eq rfl) (hb hby at_290) (by decide) (by decide) (by decide) (by decide) fun v456 T456 L456 X456 hQ456 => ?_
        obtain ⟨rfl, N456q, e456⟩ := hQ456
        have N456 := Fr.app N455 N456q
        show own_At p e below s _ _ _ T456 m 293 _ [(.int (((own_bet z q0 q2) + (own_bet z q1 q2)) + (own_bet z q2 q2))), (.ref o)]
        rw [show (((own_bet z q0 q2) + (own_bet z q1 q2)) + (own_bet z q2 q2)) = (0 : Int32) from by rw [own_betN RK0 RK2 (own_asym ht432), own_betN RK1 RK2 (own_asym ht431), own_betN RK2 RK2 (own_irr _)]; decide]
        refine own_cVirt (W := 0) (rest := []) X456 hx hZ [(.int (0 : Int32))] hown (hw _ (List.mem_of_getElem? (i := 71) rfl)) (hw _ (List.mem_of_getElem? (i := 72) rfl)) (notFace_of_selects (args := #[]) (mvT hZ (hw _ (List.mem_of_getElem? (i := 74) rfl)))) (hw _ (List.mem_of_getElem? (i := 74) rfl)) (hw _ (List.mem_of_getElem? (i := 73) rfl)) (by decide) (hw _ (List.mem_of_getElem? (i := 75) rfl)) (hw _ (List.mem_of_getElem? (i := 7) rfl)) e456 f447 (rmLev_3_0 l Z a0 hw [] o ra la sd kr kl r1 r0 r2 b439 b433 b445 T445.heap n0 Zs450 LD445) (by rw [hml]; rfl) (lenOf pd_8 rfl) rfl (Nat.le_of_eq rfl) (hb hby at_293) (by decide) (by decide) (by decide) (by decide) fun v457 T457 L457 X457 hQ457 => ?_
        obtain ⟨rfl, N457q, e457⟩ := hQ457
        have N457 := Fr.app N456 N457q
        show own_At p e below s _ _ _ T457 m 296 _ [(.ref b445)]
        refine own_aload X457 hx (hb hby at_296) rfl rfl ?_
        refine own_acmp X457 hx 303 true (hb hby at_298) rfl rfl (decide_eq_true rfl) (by decide) (by decide) ?_
        refine own_iconst X457 hx (1 : Int32) (hb hby at_303) rfl ?_
        refine own_retN X457 hx hlk hret (by simp) (by decide) (hb hby at_304) (by decide) (by decide) ?_
        try rw [e457]
        exact ⟨rfl, N457⟩
      · obtain rfl := own_rkI RK0 RK2
        refine own_astore (l' := #[.val (.int p1), .val (.long j1), .second, .val (.long j2), .second, .val (.long j3), .second, .val (.int z), .val (.int (3 : Int32)), .val (.long q0), .second, .val (.long q1), .second, .val (.long q0), .second, .val (.ref o), .unset, .unset, .unset, .unset, .unset, .unset]) X0 hx (hb hby at_68) rfl rfl ?_
        refine own_aload X0 hx (hb hby at_70) rfl rfl ?_
        refine own_lload X0 hx (hb hby at_72) rfl ?_
        refine own_cVirt (W := 0) (rest := []) X0 hx hZ [(.long q0)] hown (hw _ (List.mem_of_getElem? (i := 26) rfl)) (hw _ (List.mem_of_getElem? (i := 27) rfl)) (notFace_of_selects (args := #[]) (mvT hZ (hw _ (List.mem_of_getElem? (i := 29) rfl)))) (hw _ (List.mem_of_getElem? (i := 29) rfl)) (hw _ (List.mem_of_getElem? (i := 28) rfl)) (by decide) (hw _ (List.mem_of_getElem? (i := 30) rfl)) (hw _ (List.mem_of_getElem? (i := 7) rfl)) e0 Eo (rmAt_0_ins0 l Z a0 hw [] o ra la sd wB kr kl r0 q0 h0 n0 Z0 LD SB hs0 g_o g_ra g_la ) (by rw [hml]; rfl) (lenOf pd_5 rfl) rfl (Nat.le_of_eq rfl) (hb hby at_74) (by decide) (by decide) (by decide) (by decide) fun v458 T458 L458 X458 hQ458 => ?_
        obtain ⟨b458, rfl, N458q, K458, szb458, LD458⟩ := hQ458
        have N458 := Fr.app N0 N458q
        have f459 := (own_staKeep SB K458 (allS (own_exaStat Eo) (allS (own_exaStat Era) (allS (own_exaStat Ela) all0))))
        have f460 := (Exa.keep Eo K458)
        have f461 := (Exa.keep Era K458)
        have f462 := (Exa.keep Ela K458)
        have Zs463 : n0 ≤ T458.heap.size := (Nat.le_trans Z0 K458.1)
        have FZ458 := LD458.2.2.2.1
        show own_At p e below s _ _ _ T458 m 77 _ [(.ref b458)]
        refine own_astore (l' := #[.val (.int p1), .val (.long j1), .second, .val (.long j2), .second, .val (.long j3), .second, .val (.int z), .val (.int (3 : Int32)), .val (.long q0), .second, .val (.long q1), .second, .val (.long q0), .second, .val (.ref o), .val (.ref b458), .unset, .unset, .unset, .unset, .unset]) X458 hx (hb hby at_77) rfl rfl ?_
        refine own_iload X458 hx (hb hby at_79) rfl ?_
        refine own_iconst X458 hx (2 : Int32) (hb hby at_81) rfl ?_
        refine own_icmpNo X458 hx (hb hby at_82) (flt (by decide : ¬ ((3 : Int32) < (2 : Int32)))).1 ?_
        refine own_aload X458 hx (hb hby at_85) rfl rfl ?_
        refine own_lload X458 hx (hb hby at_87) rfl ?_
        refine own_cVirt (W := 0) (rest := []) X458 hx hZ [(.long q1)] hown (hw _ (List.mem_of_getElem? (i := 26) rfl)) (hw _ (List.mem_of_getElem? (i := 27) rfl)) (notFace_of_selects (args := #[]) (mvT hZ (hw _ (List.mem_of_getElem? (i := 29) rfl)))) (hw _ (List.mem_of_getElem? (i := 29) rfl)) (hw _ (List.mem_of_getElem? (i := 28) rfl)) (by decide) (hw _ (List.mem_of_getElem? (i := 30) rfl)) (hw _ (List.mem_of_getElem? (i := 7) rfl)) rfl f460 (rmAt_1_ins0 l Z a0 hw [] o ra la sd wB b458 kr kl r1 r0 q1 T458.heap n0 Zs463 LD458 f459 hs1 g_o g_ra g_la ht431) (by rw [hml]; rfl) (lenOf pd_5 rfl) rfl (Nat.le_of_eq rfl) (hb hby at_89) (by decide) (by decide) (by decide) (by decide) fun v464 T464 L464 X464 hQ464 => ?_
        obtain ⟨b464, rfl, N464q, K464, szb464, LD464⟩ := hQ464
        have N464 := Fr.app N458 N464q
        have f465 := (own_staKeep f459 K464 (allS (own_exaStat f460) (allS (own_exaStat f461) (allS (own_exaStat f462) all0))))
        have f466 := (Exa.keep f460 K464)
        have f467 := (Exa.keep f461 K464)
        have f468 := (Exa.keep f462 K464)
        have Zs469 : n0 ≤ T464.heap.size := (Nat.le_trans Zs463 K464.1)
        have FZ464 := LD464.2.2.2.1
        show own_At p e below s _ _ _ T464 m 92 _ [(.ref b464)]
        refine own_goto X464 hx 96 (hb hby at_92) (by decide) (by decide) ?_
        refine own_astore (l' := #[.val (.int p1), .val (.long j1), .second, .val (.long j2), .second, .val (.long j3), .second, .val (.int z), .val (.int (3 : Int32)), .val (.long q0), .second, .val (.long q1), .second, .val (.long q0), .second, .val (.ref o), .val (.ref b458), .val (.ref b464), .unset, .unset, .unset, .unset]) X464 hx (hb hby at_96) rfl rfl ?_
        refine own_iload X464 hx (hb hby at_98) rfl ?_
        refine own_iconst X464 hx (3 : Int32) (hb hby at_100) rfl ?_
        refine own_icmpNo X464 hx (hb hby at_101) (flt (by decide : ¬ ((3 : Int32) < (3 : Int32)))).1 ?_
        refine own_aload X464 hx (hb hby at_104) rfl rfl ?_
        refine own_lload X464 hx (hb hby at_106) rfl ?_
        refine own_cVirt (W := 0) (rest := []) X464 hx hZ [(.long q0)] hown (hw _ (List.mem_of_getElem? (i := 26) rfl)) (hw _ (List.mem_of_getElem? (i := 27) rfl)) (notFace_of_selects (args := #[]) (mvT hZ (hw _ (List.mem_of_getElem? (i := 29) rfl)))) (hw _ (List.mem_of_getElem? (i := 29) rfl)) (hw _ (List.mem_of_getElem? (i := 28) rfl)) (by decide) (hw _ (List.mem_of_getElem? (i := 30) rfl)) (hw _ (List.mem_of_getElem? (i := 7) rfl)) rfl f466 (rmAt_2_found1 l Z a0 hw [] o ra la sd wB b464 b458 kr kl r0 r1 q0 T464.heap n0 Zs469 LD464 f465 hs0 g_o g_ra g_la ht431) (by rw [hml]; rfl) (lenOf pd_5 rfl) rfl (Nat.le_of_eq rfl) (hb hby at_108) (by decide) (by decide) (by decide) (by decide) fun v470 T470 L470 X470 hQ470 => ?_
        obtain ⟨rfl, N470q, e470⟩ := hQ470
        have N470 := Fr.app N464 N470q
        show own_At p e below s _ _ _ T470 m 111 _ [(.ref b458)]
        refine own_goto X470 hx 115 (hb hby at_111) (by decide) (by decide) ?_
        refine own_astore (l' := #[.val (.int p1), .val (.long j1), .second, .val (.long j2), .second, .val (.long j3), .second, .val (.int z), .val (.int (3 : Int32)), .val (.long q0), .second, .val (.long q1), .second, .val (.long q0), .second, .val (.ref o), .val (.ref b458), .val (.ref b464), .val (.ref b458), .unset, .unset, .unset]) X470 hx (hb hby at_115) rfl rfl ?_
        refine own_iload X470 hx (hb hby at_117) rfl ?_
        refine own_iconst X470 hx (2 : Int32) (hb hby at_119) rfl ?_
        refine own_icmpNo X470 hx (hb hby at_120) (flt (by decide : ¬ ((3 : Int32) < (2 : Int32)))).1 ?_
        refine own_lload X470 hx (hb hby at_123) rfl ?_
        refine own_lload X470 hx (hb hby at_125) rfl ?_
        refine own_lcmp X470 hx (hb hby at_127) ?_
        refine own_ifNo X470 hx (hb hby at_128) (feq (fun q => (own_rkN RK1 RK0 (own_ltne ht431)) ((lw_eq q1 q0).mp q))).1 ?_
        refine own_iconst X470 hx (1 : Int32) (hb hby at_131) rfl ?_
        refine own_goto X470 hx 136 (hb hby at_132) (by decide) (by decide) ?_
        refine own_istore (l' := #[.val (.int p1), .val (.long j1), .second, .val (.long j2), .second, .val (.long j3), .second, .val (.int z), .val (.int (3 : Int32)), .val (.long q0), .second, .val (.long q1), .second, .val (.long q0), .second, .val (.ref o), .val (.ref b458), .val (.ref b464), .val (.ref b458), .val (.int (1 : Int32)), .unset, .unset]) X470 hx (hb hby at_136) rfl ?_
        refine own_iload X470 hx (hb hby at_138) rfl ?_
        refine own_iconst X470 hx (3 : Int32) (hb hby at_140) rfl ?_
        refine own_icmpNo X470 hx (hb hby at_141) (flt (by decide : ¬ ((3 : Int32) < (3 : Int32)))).1 ?_
        refine own_lload X470 hx (hb hby at_144) rfl ?_
        refine own_lload X470 hx (hb hby at_146) rfl ?_
        refine own_lcmp X470 hx (hb hby at_148) ?_
        refine own_ifYes X470 hx 164 (hb hby at_149) (teq ((lw_eq q0 q0).mpr (rfl : q0 = q0))).1 (by decide) (by decide) ?_
        refine own_iconst X470 hx (0 : Int32) (hb hby at_164) rfl ?_
        refine own_istore (l' := #[.val (.int p1), .val (.long j1), .second, .val (.long j2), .second, .val (.long j3), .second, .val (.int z), .val (.int (3 : Int32)), .val (.long q0), .second, .val (.long q1), .second, .val (.long q0), .second, .val (.ref o), .val (.ref b458), .val (.ref b464), .val (.ref b458), .val (.int (1 : Int32)), .val (.int (0 : Int32)), .unset]) X470 hx (hb hby at_165) rfl ?_
        refine own_iconst X470 hx (1 : Int32) (hb hby at_167) rfl ?_
        refine own_iload X470 hx (hb hby at_168) rfl ?_
        refine own_ifNo X470 hx (hb hby at_170) (feq (by decide : ¬ ((1 : Int32) = (0 : Int32)))).1 ?_
        refine own_iconst X470 hx (1 : Int32) (hb hby at_173) rfl ?_
        refine own_goto X470 hx 178 (hb hby at_174) (by decide) (by decide) ?_
        refine own_iadd X470 hx (hb hby at_178) ?_
        rw [show ((1 : Int32) + (1 : Int32)) = (2 : Int32) from by decide]
        refine own_iload X470 hx (hb hby at_179) rfl ?_
        refine own_ifYes X470 hx 188 (hb hby at_181) (teq (by decide : (0 : Int32) = (0 : Int32))).1 (by decide) (by decide) ?_
        refine own_iconst X470 hx (0 : Int32) (hb hby at_188) rfl ?_
        refine own_iadd X470 hx (hb hby at_189) ?_
        rw [show ((2 : Int32) + (0 : Int32)) = (2 : Int32) from by decide]
        refine own_istore (l' := #[.val (.int p1), .val (.long j1), .second, .val (.long j2), .second, .val (.long j3), .second, .val (.int z), .val (.int (3 : Int32)), .val (.long q0), .second, .val (.long q1), .second, .val (.long q0), .second, .val (.ref o), .val (.ref b458), .val (.ref b464), .val (.ref b458), .val (.int (1 : Int32)), .val (.int (0 : Int32)), .val (.int (2 : Int32))]) X470 hx (hb hby at_190) rfl ?_
        refine own_aload X470 hx (hb hby at_192) rfl rfl ?_
        refine own_cVirt (W := 0) (rest := []) X470 hx hZ [] hown (hw _ (List.mem_of_getElem? (i := 60) rfl)) (hw _ (List.mem_of_getElem? (i := 61) rfl)) (notFace_of_selects (args := #[]) (mvT hZ (hw _ (List.mem_of_getElem? (i := 63) rfl)))) (hw _ (List.mem_of_getElem? (i := 63) rfl)) (hw _ (List.mem_of_getElem? (i := 62) rfl)) (by decide) (hw _ (List.mem_of_getElem? (i := 64) rfl)) (hw _ (List.mem_of_getElem? (i := 7) rfl)) e470 f466 (rmSize l Z a0 hw [] o (2 : Int32) T464.heap n0 Zs469 FZ464) (by rw [hml]; rfl) (lenOf pd_6 rfl) rfl (Nat.le_of_eq rfl) (hb hby at_194) (by decide) (by decide) (by decide) (by decide) fun v471 T471 L471 X471 hQ471 => ?_
        obtain ⟨rfl, N471q, e471⟩ := hQ471
        have N471 := Fr.app N470 N471q
        show own_At p e below s _ _ _ T471 m 197 _ [(.int (2 : Int32))]
        refine own_iload X471 hx (hb hby at_197) rfl ?_
        refine own_icmpYes X471 hx 204 (hb hby at_199) (teq (by decide : (2 : Int32) = (2 : Int32))).1 (by decide) (by decide) ?_
        refine own_aload X471 hx (hb hby at_204) rfl rfl ?_
        refine own_iload X471 hx (hb hby at_206) rfl ?_
        refine own_lload X471 hx (hb hby at_208) rfl ?_
        refine own_lload X471 hx (hb hby at_210) rfl ?_
        refine own_lload X471 hx (hb hby at_212) rfl ?_
        refine own_iload X471 hx (hb hby at_214) rfl ?_
        refine own_iload X471 hx (hb hby at_216) rfl ?_
        refine own_lload X471 hx (hb hby at_218) rfl ?_
        refine own_cStat (W := 1) (rest := [(.ref o)]) X471 hx hZ [(.int z), (.long q0), (.long q1), (.long q0), (.int (1 : Int32)), (.int (0 : Int32)), (.long q0)] hown (hw _ (List.mem_of_getElem? (i := 65) rfl)) (hw _ (List.mem_of_getElem? (i := 66) rfl)) (by decide) (hw _ (List.mem_of_getElem? (i := 67) rfl)) (hw _ (List.mem_of_getElem? (i := 2) rfl)) e471 (rmDep_10 l Z a0 hw [] z q0 q1 q0 q0 T464.heap n0 Zs469) (by rw [hml]; rfl) (lenOf pd_7 rfl) rfl (Nat.le_of_eq rfl) (hb hby at_220) (by decide) (by decide) (by decide) (by decide) fun v472 T472 L472 X472 hQ472 => ?_
        obtain ⟨rfl, N472q, e472⟩ := hQ472
        have N472 := Fr.app N471 N472q
        show own_At p e below s _ _ _ T472 m 223 _ [(.int ((own_bet z q0 q0) + (own_bet z q1 q0))), (.ref o)]
        rw [show ((own_bet z q0 q0) + (own_bet z q1 q0)) = (0 : Int32) from by rw [own_betN RK0 RK0 (own_irr _), own_betN RK1 RK0 (own_asym ht431)]; decide]
        refine own_cVirt (W := 0) (rest := []) X472 hx hZ [(.int (0 : Int32))] hown (hw _ (List.mem_of_getElem? (i := 71) rfl)) (hw _ (List.mem_of_getElem? (i := 72) rfl)) (notFace_of_selects (args := #[]) (mvT hZ (hw _ (List.mem_of_getElem? (i := 74) rfl)))) (hw _ (List.mem_of_getElem? (i := 74) rfl)) (hw _ (List.mem_of_getElem? (i := 73) rfl)) (by decide) (hw _ (List.mem_of_getElem? (i := 75) rfl)) (hw _ (List.mem_of_getElem? (i := 7) rfl)) e472 f466 (rmLev_2_0 l Z a0 hw [] o ra la sd kr kl r1 r0 b464 b458 T464.heap n0 Zs469 LD464) (by rw [hml]; rfl) (lenOf pd_8 rfl) rfl (Nat.le_of_eq rfl) (hb hby at_223) (by decide) (by decide) (by decide) (by decide) fun v473 T473 L473 X473 hQ473 => ?_
        obtain ⟨rfl, N473q, e473⟩ := hQ473
        have N473 := Fr.app N472 N473q
        show own_At p e below s _ _ _ T473 m 226 _ [(.ref b458)]
        refine own_aload X473 hx (hb hby at_226) rfl rfl ?_
        refine own_acmp X473 hx 233 true (hb hby at_228) rfl rfl (decide_eq_true rfl) (by decide) (by decide) ?_
        refine own_iload X473 hx (hb hby at_233) rfl ?_
        refine own_iconst X473 hx (2 : Int32) (hb hby at_235) rfl ?_
        refine own_icmpNo X473 hx (hb hby at_236) (flt (by decide : ¬ ((3 : Int32) < (2 : Int32)))).1 ?_
        refine own_aload X473 hx (hb hby at_239) rfl rfl ?_
        refine own_iload X473 hx (hb hby at_241) rfl ?_
        refine own_lload X473 hx (hb hby at_243) rfl ?_
        refine own_lload X473 hx (hb hby at_245) rfl ?_
        refine own_lload X473 hx (hb hby at_247) rfl ?_
        refine own_iload X473 hx (hb hby at_249) rfl ?_
        refine own_iload X473 hx (hb hby at_251) rfl ?_
        refine own_lload X473 hx (hb hby at_253) rfl ?_
        refine own_cStat (W := 1) (rest := [(.ref o)]) X473 hx hZ [(.int z), (.long q0), (.long q1), (.long q0), (.int (1 : Int32)), (.int (0 : Int32)), (.long q1)] hown (hw _ (List.mem_of_getElem? (i := 65) rfl)) (hw _ (List.mem_of_getElem? (i := 66) rfl)) (by decide) (hw _ (List.mem_of_getElem? (i := 67) rfl)) (hw _ (List.mem_of_getElem? (i := 2) rfl)) e473 (rmDep_10 l Z a0 hw [] z q0 q1 q0 q1 T464.heap n0 Zs469) (by rw [hml]; rfl) (lenOf pd_7 rfl) rfl (Nat.le_of_eq rfl) (hb hby at_255) (by decide) (by decide) (by decide) (by decide) fun v474 T474 L474 X474 hQ474 => ?_
        obtain ⟨rfl, N474q, e474⟩ := hQ474
        have N474 := Fr.app N473 N474q
        show own_At p e below s _ _ _ T474 m 258 _ [(.int ((own_bet z q0 q1) + (own_bet z q1 q1))), (.ref o)]
        rw [show ((own_bet z q0 q1) + (own_bet z q1 q1)) = (1 : Int32) from by rw [own_betY RK0 RK1 ht431, own_betN RK1 RK1 (own_irr _)]; decide]
        refine own_cVirt (W := 0) (rest := []) X474 hx hZ [(.int (1 : Int32))] hown (hw _ (List.mem_of_getElem? (i := 71) rfl)) (hw _ (List.mem_of_getElem? (i := 72) rfl)) (notFace_of_selects (args := #[]) (mvT hZ (hw _ (List.mem_of_getElem? (i := 74) rfl)))) (hw _ (List.mem_of_getElem? (i := 74) rfl)) (hw _ (List.mem_of_getElem? (i := 73) rfl)) (by decide) (hw _ (List.mem_of_getElem? (i := 75) rfl)) (hw _ (List.mem_of_getElem? (i := 7) rfl)) e474 f466 (rmLev_2_1 l Z a0 hw [] o ra la sd kr kl r1 r0 b464 b458 T464.heap n0 Zs469 LD464) (by rw [hml]; rfl) (lenOf pd_8 rfl) rfl (Nat.le_of_eq rfl) (hb hby at_258) (by decide) (by decide) (by decide) (by decide) fun v475 T475 L475 X475 hQ475 => ?_
        obtain ⟨rfl, N475q, e475⟩ := hQ475
        have N475 := Fr.app N474 N475q
        show own_At p e below s _ _ _ T475 m 261 _ [(.ref b464)]
        refine own_aload X475 hx (hb hby at_261) rfl rfl ?_
        refine own_acmp X475 hx 268 true (hb hby at_263) rfl rfl (decide_eq_true rfl) (by decide) (by decide) ?_
        refine own_iload X475 hx (hb hby at_268) rfl ?_
        refine own_iconst X475 hx (3 : Int32) (hb hby at_270) rfl ?_
        refine own_icmpNo X475 hx (hb hby at_271) (flt (by decide : ¬ ((3 : Int32) < (3 : Int32)))).1 ?_
        refine own_aload X475 hx (hb hby at_274) rfl rfl ?_
        refine own_iload X475 hx (hb hby at_276) rfl ?_
        refine own_lload X475 hx (hb hby at_278) rfl ?_
        refine own_lload X475 hx (hb hby at_280) rfl ?_
        refine own_lload X475 hx (hb hby at_282) rfl ?_
        refine own_iload X475 hx (hb hby at_284) rfl ?_
        refine own_iload X475 hx (hb hby at_286) rfl ?_
        refine own_lload X475 hx (hb hby at_288) rfl ?_
        refine own_cStat (W := 1) (rest := [(.ref o)]) X475 hx hZ [(.int z), (.long q0), (.long q1), (.long q0), (.int (1 : Int32)), (.int (0 : Int32)), (.long q0)] hown (hw _ (List.mem_of_getElem? (i := 65) rfl)) (hw _ (List.mem_of_getElem? (i := 66) rfl)) (by decide) (hw _ (List.mem_of_getElem? (i := 67) rfl)) (hw _ (List.mem_of_getElem? (i := 2) rfl)) e475 (rmDep_10 l Z a0 hw [] z q0 q1 q0 q0 T464.heap n0 Zs469) (by rw [hml]; rfl) (lenOf pd_7 rfl) rfl (Nat.le_of_eq rfl) (hb hby at_290) (by decide) (by decide) (by decide) (by decide) fun v476 T476 L476 X476 hQ476 => ?_
        obtain ⟨rfl, N476q, e476⟩ := hQ476
        have N476 := Fr.app N475 N476q
        show own_At p e below s _ _ _ T476 m 293 _ [(.int ((own_bet z q0 q0) + (own_bet z q1 q0))), (.ref o)]
        rw [show ((own_bet z q0 q0) + (own_bet z q1 q0)) = (0 : Int32) from by rw [own_betN RK0 RK0 (own_irr _), own_betN RK1 RK0 (own_asym ht431)]; decide]
        refine own_cVirt (W := 0) (rest := []) X476 hx hZ [(.int (0 : Int32))] hown (hw _ (List.mem_of_getElem? (i := 71) rfl)) (hw _ (List.mem_of_getElem? (i := 72) rfl)) (notFace_of_selects (args := #[]) (mvT hZ (hw _ (List.mem_of_getElem? (i := 74) rfl)))) (hw _ (List.mem_of_getElem? (i := 74) rfl)) (hw _ (List.mem_of_getElem? (i := 73) rfl)) (by decide) (hw _ (List.mem_of_getElem? (i := 75) rfl)) (hw _ (List.mem_of_getElem? (i := 7) rfl)) e476 f466 (rmLev_2_0 l Z a0 hw [] o ra la sd kr kl r1 r0 b464 b458 T464.heap n0 Zs469 LD464) (by rw [hml]; rfl) (lenOf pd_8 rfl) rfl (Nat.le_of_eq rfl) (hb hby at_293) (by decide) (by decide) (by decide) (by decide) fun v477 T477 L477 X477 hQ477 => ?_
        obtain ⟨rfl, N477q, e477⟩ := hQ477
        have N477 := Fr.app N476 N477q
        show own_At p e below s _ _ _ T477 m 296 _ [(.ref b458)]
        refine own_aload X477 hx (hb hby at_296) rfl rfl ?_
        refine own_acmp X477 hx 303 true (hb hby at_298) rfl rfl (decide_eq_true rfl) (by decide) (by decide) ?_
        refine own_iconst X477 hx (1 : Int32) (hb hby at_303) rfl ?_
        refine own_retN X477 hx hlk hret (by simp) (by decide) (hb hby at_304) (by decide) (by decide) ?_
        try rw [e477]
        exact ⟨rfl, N477⟩
      · refine own_astore (l' := #[.val (.int p1), .val (.long j1), .second, .val (.long j2), .second, .val (.long j3), .second, .val (.int z), .val (.int (3 : Int32)), .val (.long q0), .second, .val (.long q1), .second, .val (.long q2), .second, .val (.ref o), .unset, .unset, .unset, .unset, .unset, .unset]) X0 hx (hb hby at_68) rfl rfl ?_
        refine own_aload X0 hx (hb hby at_70) rfl rfl ?_
        refine own_lload X0 hx (hb hby at_72) rfl ?_
        refine own_cVirt (W := 0) (rest := []) X0 hx hZ [(.long q0)] hown (hw _ (List.mem_of_getElem? (i := 26) rfl)) (hw _ (List.mem_of_getElem? (i := 27) rfl)) (notFace_of_selects (args := #[]) (mvT hZ (hw _ (List.mem_of_getElem? (i := 29) rfl)))) (hw _ (List.mem_of_getElem? (i := 29) rfl)) (hw _ (List.mem_of_getElem? (i := 28) rfl)) (by decide) (hw _ (List.mem_of_getElem? (i := 30) rfl)) (hw _ (List.mem_of_getElem? (i := 7) rfl)) e0 Eo (rmAt_0_ins0 l Z a0 hw [] o ra la sd wB kr kl r0 q0 h0 n0 Z0 LD SB hs0 g_o g_ra g_la ) (by rw [hml]; rfl) (lenOf pd_5 rfl) rfl (Nat.le_of_eq rfl) (hb hby at_74) (by decide) (by decide) (by decide) (by decide) fun v478 T478 L478 X478 hQ478 => ?_
        obtain ⟨b478, rfl, N478q, K478, szb478, LD478⟩ := hQ478
        have N478 := Fr.app N0 N478q
        have f479 := (own_staKeep SB K478 (allS (own_exaStat Eo) (allS (own_exaStat Era) (allS (own_exaStat Ela) all0))))
        have f480 := (Exa.keep Eo K478)
        have f481 := (Exa.keep Era K478)
        have f482 := (Exa.keep Ela K478)
        have Zs483 : n0 ≤ T478.heap.size := (Nat.le_trans Z0 K478.1)
        have FZ478 := LD478.2.2.2.1
        show own_At p e below s _ _ _ T478 m 77 _ [(.ref b478)]
        refine own_astore (l' := #[.val (.int p1), .val (.long j1), .second, .val (.long j2), .second, .val (.long j3), .second, .val (.int z), .val (.int (3 : Int32)), .val (.long q0), .second, .val (.long q1), .second, .val (.long q2), .second, .val (.ref o), .val (.ref b478), .unset, .unset, .unset, .unset, .unset]) X478 hx (hb hby at_77) rfl rfl ?_
        refine own_iload X478 hx (hb hby at_79) rfl ?_
        refine own_iconst X478 hx (2 : Int32) (hb hby at_81) rfl ?_
        refine own_icmpNo X478 hx (hb hby at_82) (flt (by decide : ¬ ((3 : Int32) < (2 : Int32)))).1 ?_
        refine own_aload X478 hx (hb hby at_85) rfl rfl ?_
        refine own_lload X478 hx (hb hby at_87) rfl ?_
        refine own_cVirt (W := 0) (rest := []) X478 hx hZ [(.long q1)] hown (hw _ (List.mem_of_getElem? (i := 26) rfl)) (hw _ (List.mem_of_getElem? (i := 27) rfl)) (notFace_of_selects (args := #[]) (mvT hZ (hw _ (List.mem_of_getElem? (i := 29) rfl)))) (hw _ (List.mem_of_getElem? (i := 29) rfl)) (hw _ (List.mem_of_getElem? (i := 28) rfl)) (by decide) (hw _ (List.mem_of_getElem? (i := 30) rfl)) (hw _ (List.mem_of_getElem? (i := 7) rfl)) rfl f480 (rmAt_1_ins0 l Z a0 hw [] o ra la sd wB b478 kr kl r1 r0 q1 T478.heap n0 Zs483 LD478 f479 hs1 g_o g_ra g_la ht257) (by rw [hml]; rfl) (lenOf pd_5 rfl) rfl (Nat.le_of_eq rfl) (hb hby at_89) (by decide) (by decide) (by decide) (by decide) fun v484 T484 L484 X484 hQ484 => ?_
        obtain ⟨b484, rfl, N484q, K484, szb484, LD484⟩ := hQ484
        have N484 := Fr.app N478 N484q
        have f485 := (own_staKeep f479 K484 (allS (own_exaStat f480) (allS (own_exaStat f481) (allS (own_exaStat f482) all0))))
        have f486 := (Exa.keep f480 K484)
        have f487 := (Exa.keep f481 K484)
        have f488 := (Exa.keep f482 K484)
        have Zs489 : n0 ≤ T484.heap.size := (Nat.le_trans Zs483 K484.1)
        have FZ484 := LD484.2.2.2.1
        show own_At p e below s _ _ _ T484 m 92 _ [(.ref b484)]
        refine own_goto X484 hx 96 (hb hby at_92) (by decide) (by decide) ?_
        refine own_astore (l' := #[.val (.int p1), .val (.long j1), .second, .val (.long j2), .second, .val (.long j3), .second, .val (.int z), .val (.int (3 : Int32)), .val (.long q0), .second, .val (.long q1), .second, .val (.long q2), .second, .val (.ref o), .val (.ref b478), .val (.ref b484), .unset, .unset, .unset, .unset]) X484 hx (hb hby at_96) rfl rfl ?_
        refine own_iload X484 hx (hb hby at_98) rfl ?_
        refine own_iconst X484 hx (3 : Int32) (hb hby at_100) rfl ?_
        refine own_icmpNo X484 hx (hb hby at_101) (flt (by decide : ¬ ((3 : Int32) < (3 : Int32)))).1 ?_
        refine own_aload X484 hx (hb hby at_104) rfl rfl ?_
        refine own_lload X484 hx (hb hby at_106) rfl ?_
        refine own_cVirt (W := 0) (rest := []) X484 hx hZ [(.long q2)] hown (hw _ (List.mem_of_getElem? (i := 26) rfl)) (hw _ (List.mem_of_getElem? (i := 27) rfl)) (notFace_of_selects (args := #[]) (mvT hZ (hw _ (List.mem_of_getElem? (i := 29) rfl)))) (hw _ (List.mem_of_getElem? (i := 29) rfl)) (hw _ (List.mem_of_getElem? (i := 28) rfl)) (by decide) (hw _ (List.mem_of_getElem? (i := 30) rfl)) (hw _ (List.mem_of_getElem? (i := 7) rfl)) rfl f486 (rmAt_2_ins1 l Z a0 hw [] o ra la sd wB b484 b478 kr kl r2 r1 r0 q2 T484.heap n0 Zs489 LD484 f485 hs2 g_o g_ra g_la ht431 ht432) (by rw [hml]; rfl) (lenOf pd_5 rfl) rfl (Nat.le_of_eq rfl) (hb hby at_108) (by decide) (by decide) (by decide) (by decide) fun v490 T490 L490 X490 hQ490 => ?_
        obtain ⟨b490, rfl, N490q, K490, szb490, LD490⟩ := hQ490
        have N490 := Fr.app N484 N490q
        have f491 := (own_staKeep f485 K490 (allS (own_exaStat f486) (allS (own_exaStat f487) (allS (own_exaStat f488) all0))))
        have f492 := (Exa.keep f486 K490)
        have f493 := (Exa.keep f487 K490)
        have f494 := (Exa.keep f488 K490)
        have Zs495 : n0 ≤ T490.heap.size := (Nat.le_trans Zs489 K490.1)
        have FZ490 := LD490.2.2.2.1
        show own_At p e below s _ _ _ T490 m 111 _ [(.ref b490)]
        refine own_goto X490 hx 115 (hb hby at_111) (by decide) (by decide) ?_
        refine own_astore (l' := #[.val (.int p1), .val (.long j1), .second, .val (.long j2), .second, .val (.long j3), .second, .val (.int z), .val (.int (3 : Int32)), .val (.long q0), .second, .val (.long q1), .second, .val (.long q2), .second, .val (.ref o), .val (.ref b478), .val (.ref b484), .val (.ref b490), .unset, .unset, .unset]) X490 hx (hb hby at_115) rfl rfl ?_
        refine own_iload X490 hx (hb hby at_117) rfl ?_
        refine own_iconst X490 hx (2 : Int32) (hb hby at_119) rfl ?_
        refine own_icmpNo X490 hx (hb hby at_120) (flt (by decide : ¬ ((3 : Int32) < (2 : Int32)))).1 ?_
        refine own_lload X490 hx (hb hby at_123) rfl ?_
        refine own_lload X490 hx (hb hby at_125) rfl ?_
        refine own_lcmp X490 hx (hb hby at_127) ?_
        refine own_ifNo X490 hx (hb hby at_128) (feq (fun q => (own_rkN RK1 RK0 (own_ltne ht257)) ((lw_eq q1 q0).mp q))).1 ?_
        refine own_iconst X490 hx (1 : Int32) (hb hby at_131) rfl ?_
        refine own_goto X490 hx 136 (hb hby at_132) (by decide) (by decide) ?_
        refine own_istore (l' := #[.val (.int p1), .val (.long j1), .second, .val (.long j2), .second, .val (.long j3), .second, .val (.int z), .val (.int (3 : Int32)), .val (.long q0), .second, .val (.long q1), .second, .val (.long q2), .second, .val (.ref o), .val (.ref b478), .val (.ref b484), .val (.ref b490), .val (.int (1 : Int32)), .unset, .unset]) X490 hx (hb hby at_136) rfl ?_
        refine own_iload X490 hx (hb hby at_138) rfl ?_
        refine own_iconst X490 hx (3 : Int32) (hb hby at_140) rfl ?_
        refine own_icmpNo X490 hx (hb hby at_141) (flt (by decide : ¬ ((3 : Int32) < (3 : Int32)))).1 ?_
        refine own_lload X490 hx (hb hby at_144) rfl ?_
        refine own_lload X490 hx (hb hby at_146) rfl ?_
        refine own_lcmp X490 hx (hb hby at_148) ?_
        refine own_ifNo X490 hx (hb hby at_149) (feq (fun q => (own_rkN RK2 RK0 (own_ltne ht432)) ((lw_eq q2 q0).mp q))).1 ?_
        refine own_lload X490 hx (hb hby at_152) rfl ?_
        refine own_lload X490 hx (hb hby at_154) rfl ?_
        refine own_lcmp X490 hx (hb hby at_156) ?_
        refine own_ifNo X490 hx (hb hby at_157) (feq (fun q => (own_rkN RK2 RK1 (own_gtne ht431)) ((lw_eq q2 q1).mp q))).1 ?_
        refine own_iconst X490 hx (1 : Int32) (hb hby at_160) rfl ?_
        refine own_goto X490 hx 165 (hb hby at_161) (by decide) (by decide) ?_
        refine own_istore (l' := #[.val (.int p1), .val (.long j1), .second, .val (.long j2), .second, .val (.long j3), .second, .val (.int z), .val (.int (3 : Int32)), .val (.long q0), .second, .val (.long q1), .second, .val (.long q2), .second, .val (.ref o), .val (.ref b478), .val (.ref b484), .val (.ref b490), .val (.int (1 : Int32)), .val (.int (1 : Int32)), .unset]) X490 hx (hb hby at_165) rfl ?_
        refine own_iconst X490 hx (1 : Int32) (hb hby at_167) rfl ?_
        refine own_iload X490 hx (hb hby at_168) rfl ?_
        refine own_ifNo X490 hx (hb hby at_170) (feq (by decide : ¬ ((1 : Int32) = (0 : Int32)))).1 ?_
        refine own_iconst X490 hx (1 : Int32) (hb hby at_173) rfl ?_
        refine own_goto X490 hx 178 (hb hby at_174) (by decide) (by decide) ?_
        refine own_iadd X490 hx (hb hby at_178) ?_
        rw [show ((1 : Int32) + (1 : Int32)) = (2 : Int32) from by decide]
        refine own_iload X490 hx (hb hby at_179) rfl ?_
        refine own_ifNo X490 hx (hb hby at_181) (feq (by decide : ¬ ((1 : Int32) = (0 : Int32)))).1 ?_
        refine own_iconst X490 hx (1 : Int32) (hb hby at_184) rfl ?_
        refine own_goto X490 hx 189 (hb hby at_185) (by decide) (by decide) ?_
        refine own_iadd X490 hx (hb hby at_189) ?_
        rw [show ((2 : Int32) + (1 : Int32)) = (3 : Int32) from by decide]
        refine own_istore (l' := #[.val (.int p1), .val (.long j1), .second, .val (.long j2), .second, .val (.long j3), .second, .val (.int z), .val (.int (3 : Int32)), .val (.long q0), .second, .val (.long q1), .second, .val (.long q2), .second, .val (.ref o), .val (.ref b478), .val (.ref b484), .val (.ref b490), .val (.int (1 : Int32)), .val (.int (1 : Int32)), .val (.int (3 : Int32))]) X490 hx (hb hby at_190) rfl ?_
        refine own_aload X490 hx (hb hby at_192) rfl rfl ?_
        refine own_cVirt (W := 0) (rest := []) X490 hx hZ [] hown (hw _ (List.mem_of_getElem? (i := 60) rfl)) (hw _ (List.mem_of_getElem? (i := 61) rfl)) (notFace_of_selects (args := #[]) (mvT hZ (hw _ (List.mem_of_getElem? (i := 63) rfl)))) (hw _ (List.mem_of_getElem? (i := 63) rfl)) (hw _ (List.mem_of_getElem? (i := 62) rfl)) (by decide) (hw _ (List.mem_of_getElem? (i := 64) rfl)) (hw _ (List.mem_of_getElem? (i := 7) rfl)) rfl f492 (rmSize l Z a0 hw [] o (3 : Int32) T490.heap n0 Zs495 FZ490) (by rw [hml]; rfl) (lenOf pd_6 rfl) rfl (Nat.le_of_eq rfl) (hb hby at_194) (by decide) (by decide) (by decide) (by decide) fun v496 T496 L496 X496 hQ496 => ?_
        obtain ⟨rfl, N496q, e496⟩ := hQ496
        have N496 := Fr.app N490 N496q
        show own_At p e below s _ _ _ T496 m 197 _ [(.int (3 : Int32))]
        refine own_iload X496 hx (hb hby at_197) rfl ?_
        refine own_icmpYes X496 hx 204 (hb hby at_199) (teq (by decide : (3 : Int32) = (3 : Int32))).1 (by decide) (by decide) ?_
        refine own_aload X496 hx (hb hby at_204) rfl rfl ?_
        refine own_iload X496 hx (hb hby at_206) rfl ?_
        refine own_lload X496 hx (hb hby at_208) rfl ?_
        refine own_lload X496 hx (hb hby at_210) rfl ?_
        refine own_lload X496 hx (hb hby at_212) rfl ?_
        refine own_iload X496 hx (hb hby at_214) rfl ?_
        refine own_iload X496 hx (hb hby at_216) rfl ?_
        refine own_lload X496 hx (hb hby at_218) rfl ?_
        refine own_cStat (W := 1) (rest := [(.ref o)]) X496 hx hZ [(.int z), (.long q0), (.long q1), (.long q2), (.int (1 : Int32)), (.int (1 : Int32)), (.long q0)] hown (hw _ (List.mem_of_getElem? (i := 65) rfl)) (hw _ (List.mem_of_getElem? (i := 66) rfl)) (by decide) (hw _ (List.mem_of_getElem? (i := 67) rfl)) (hw _ (List.mem_of_getElem? (i := 2) rfl)) e496 (rmDep_11 l Z a0 hw [] z q0 q1 q2 q0 T490.heap n0 Zs495) (by rw [hml]; rfl) (lenOf pd_7 rfl) rfl (Nat.le_of_eq rfl) (hb hby at_220) (by decide) (by decide) (by decide) (by decide) fun v497 T497 L497 X497 hQ497 => ?_
        obtain ⟨rfl, N497q, e497⟩ := hQ497
        have N497 := Fr.app N496 N497q
        show own_At p e below s _ _ _ T497 m 223 _ [(.int (((own_bet z q0 q0) + (own_bet z q1 q0)) + (own_bet z q2 q0))), (.ref o)]
        rw [show (((own_bet z q0 q0) + (own_bet z q1 q0)) + (own_bet z q2 q0)) = (0 : Int32) from by rw [own_betN RK0 RK0 (own_irr _), own_betN RK1 RK0 (own_asym ht257), own_betN RK2 RK0 (own_asym ht432)]; decide]
        refine own_cVirt (W := 0) (rest := []) X497 hx hZ [(.int (0 : Int32))] hown (hw _ (List.mem_of_getElem? (i := 71) rfl)) (hw _ (List.mem_of_getElem? (i := 72) rfl)) (notFace_of_selects (args := #[]) (mvT hZ (hw _ (List.mem_of_getElem? (i := 74) rfl)))) (hw _ (List.mem_of_getElem? (i := 74) rfl)) (hw _ (List.mem_of_getElem? (i := 73) rfl)) (by decide) (hw _ (List.mem_of_getElem? (i := 75) rfl)) (hw _ (List.mem_of_getElem? (i := 7) rfl)) e497 f492 (rmLev_3_0 l Z a0 hw [] o ra la sd kr kl r1 r2 r0 b484 b490 b478 T490.heap n0 Zs495 LD490) (by rw [hml]; rfl) (lenOf pd_8 rfl) rfl (Nat.le_of_eq rfl) (hb hby at_223) (by decide) (by decide) (by decide) (by decide) fun v498 T498 L498 X498 hQ498 => ?_
        obtain ⟨rfl, N498q, e498⟩ := hQ498
        have N498 := Fr.app N497 N498q
        show own_At p e below s _ _ _ T498 m 226 _ [(.ref b478)]
        refine own_aload X498 hx (hb hby at_226) rfl rfl ?_
        refine own_acmp X498 hx 233 true (hb hby at_228) rfl rfl (decide_eq_true rfl) (by decide) (by decide) ?_
        refine own_iload X498 hx (hb hby at_233) rfl ?_
        refine own_iconst X498 hx (2 : Int32) (hb hby at_235) rfl ?_
        refine own_icmpNo X498 hx (hb hby at_236) (flt (by decide : ¬ ((3 : Int32) < (2 : Int32)))).1 ?_
        refine own_aload X498 hx (hb hby at_239) rfl rfl ?_
        refine own_iload X498 hx (hb hby at_241) rfl ?_
        refine own_lload X498 hx (hb hby at_243) rfl ?_
        refine own_lload X498 hx (hb hby at_245) rfl ?_
        refine own_lload X498 hx (hb hby at_247) rfl ?_
        refine own_iload X498 hx (hb hby at_249) rfl ?_
        refine own_iload X498 hx (hb hby at_251) rfl ?_
        refine own_lload X498 hx (hb hby at_253) rfl ?_
        refine own_cStat (W := 1) (rest := [(.ref o)]) X498 hx hZ [(.int z), (.long q0), (.long q1), (.long q2), (.int (1 : Int32)), (.int (1 : Int32)), (.long q1)] hown (hw _ (List.mem_of_getElem? (i := 65) rfl)) (hw _ (List.mem_of_getElem? (i := 66) rfl)) (by decide) (hw _ (List.mem_of_getElem? (i := 67) rfl)) (hw _ (List.mem_of_getElem? (i := 2) rfl)) e498 (rmDep_11 l Z a0 hw [] z q0 q1 q2 q1 T490.heap n0 Zs495) (by rw [hml]; rfl) (lenOf pd_7 rfl) rfl (Nat.le_of_eq rfl) (hb hby at_255) (by decide) (by decide) (by decide) (by decide) fun v499 T499 L499 X499 hQ499 => ?_
        obtain ⟨rfl, N499q, e499⟩ := hQ499
        have N499 := Fr.app N498 N499q
        show own_At p e below s _ _ _ T499 m 258 _ [(.int (((own_bet z q0 q1) + (own_bet z q1 q1)) + (own_bet z q2 q1))), (.ref o)]
        rw [show (((own_bet z q0 q1) + (own_bet z q1 q1)) + (own_bet z q2 q1)) = (2 : Int32) from by rw [own_betY RK0 RK1 ht257, own_betN RK1 RK1 (own_irr _), own_betY RK2 RK1 ht431]; decide]
        refine own_cVirt (W := 0) (rest := []) X499 hx hZ [(.int (2 : Int32))] hown (hw _ (List.mem_of_getElem? (i := 71) rfl)) (hw _ (List.mem_of_getElem? (i := 72) rfl)) (notFace_of_selects (args := #[]) (mvT hZ (hw _ (List.mem_of_getElem? (i := 74) rfl)))) (hw _ (List.mem_of_getElem? (i := 74) rfl)) (hw _ (List.mem_of_getElem? (i := 73) rfl)) (by decide) (hw _ (List.mem_of_getElem? (i := 75) rfl)) (hw _ (List.mem_of_getElem? (i := 7) rfl)) e499 f492 (rmLev_3_2 l Z a0 hw [] o ra la sd kr kl r1 r2 r0 b484 b490 b478 T490.heap n0 Zs495 LD490) (by rw [hml]; rfl) (lenOf pd_8 rfl) rfl (Nat.le_of_eq rfl) (hb hby at_258) (by decide) (by decide) (by decide) (by decide) fun v500 T500 L500 X500 hQ500 => ?_
        obtain ⟨rfl, N500q, e500⟩ := hQ500
        have N500 := Fr.app N499 N500q
        show own_At p e below s _ _ _ T500 m 261 _ [(.ref b484)]
        refine own_aload X500 hx (hb hby at_261) rfl rfl ?_
        refine own_acmp X500 hx 268 true (hb hby at_263) rfl rfl (decide_eq_true rfl) (by decide) (by decide) ?_
        refine own_iload X500 hx (hb hby at_268) rfl ?_
        refine own_iconst X500 hx (3 : Int32) (hb hby at_270) rfl ?_
        refine own_icmpNo X500 hx (hb hby at_271) (flt (by decide : ¬ ((3 : Int32) < (3 : Int32)))).1 ?_
        refine own_aload X500 hx (hb hby at_274) rfl rfl ?_
        refine own_iload X500 hx (hb hby at_276) rfl ?_
        refine own_lload X500 hx (hb hby at_278) rfl ?_
        refine own_lload X500 hx (hb hby at_280) rfl ?_
        refine own_lload X500 hx (hb hby at_282) rfl ?_
        refine own_iload X500 hx (hb hby at_284) rfl ?_
        refine own_iload X500 hx (hb hby at_286) rfl ?_
        refine own_lload X500 hx (hb hby at_288) rfl ?_
        refine own_cStat (W := 1) (rest := [(.ref o)]) X500 hx hZ [(.int z), (.long q0), (.long q1), (.long q2), (.int (1 : Int32)), (.int (1 : Int32)), (.long q2)] hown (hw _ (List.mem_of_getElem? (i := 65) rfl)) (hw _ (List.mem_of_getElem? (i := 66) rfl)) (by decide) (hw _ (List.mem_of_getElem? (i := 67) rfl)) (hw _ (List.mem_of_getElem? (i := 2) rfl)) e500 (rmDep_11 l Z a0 hw [] z q0 q1 q2 q2 T490.heap n0 Zs495) (by rw [hml]; rfl) (lenOf pd_7 rfl) rfl (Nat.le_of_eq rfl) (hb hby at_290) (by decide) (by decide) (by decide) (by decide) fun v501 T501 L501 X501 hQ501 => ?_
        obtain ⟨rfl, N501q, e501⟩ := hQ501
        have N501 := Fr.app N500 N501q
        show own_At p e below s _ _ _ T501 m 293 _ [(.int (((own_bet z q0 q2) + (own_bet z q1 q2)) + (own_bet z q2 q2))), (.ref o)]
        rw [show (((own_bet z q0 q2) + (own_bet z q1 q2)) + (own_bet z q2 q2)) = (1 : Int32) from by rw [own_betY RK0 RK2 ht432, own_betN RK1 RK2 (own_asym ht431), own_betN RK2 RK2 (own_irr _)]; decide]
        refine own_cVirt (W := 0) (rest := []) X501 hx hZ [(.int (1 : Int32))] hown (hw _ (List.mem_of_getElem? (i := 71) rfl)) (hw _ (List.mem_of_getElem? (i := 72) rfl)) (notFace_of_selects (args := #[]) (mvT hZ (hw _ (List.mem_of_getElem? (i := 74) rfl)))) (hw _ (List.mem_of_getElem? (i := 74) rfl)) (hw _ (List.mem_of_getElem? (i := 73) rfl)) (by decide) (hw _ (List.mem_of_getElem? (i := 75) rfl)) (hw _ (List.mem_of_getElem? (i := 7) rfl)) e501 f492 (rmLev_3_1 l Z a0 hw [] o ra la sd kr kl r1 r2 r0 b484 b490 b478 T490.heap n0 Zs495 LD490) (by rw [hml]; rfl) (lenOf pd_8 rfl) rfl (Nat.le_of_eq rfl) (hb hby at_293) (by decide) (by decide) (by decide) (by decide) fun v502 T502 L502 X502 hQ502 => ?_
        obtain ⟨rfl, N502q, e502⟩ := hQ502
        have N502 := Fr.app N501 N502q
        show own_At p e below s _ _ _ T502 m 296 _ [(.ref b490)]
        refine own_aload X502 hx (hb hby at_296) rfl rfl ?_
        refine own_acmp X502 hx 303 true (hb hby at_298) rfl rfl (decide_eq_true rfl) (by decide) (by decide) ?_
        refine own_iconst X502 hx (1 : Int32) (hb hby at_303) rfl ?_
        refine own_retN X502 hx hlk hret (by simp) (by decide) (hb hby at_304) (by decide) (by decide) ?_
        try rw [e502]
        exact ⟨rfl, N502⟩
    · obtain rfl := own_rkI RK1 RK2
      refine own_astore (l' := #[.val (.int p1), .val (.long j1), .second, .val (.long j2), .second, .val (.long j3), .second, .val (.int z), .val (.int (3 : Int32)), .val (.long q0), .second, .val (.long q1), .second, .val (.long q1), .second, .val (.ref o), .unset, .unset, .unset, .unset, .unset, .unset]) X0 hx (hb hby at_68) rfl rfl ?_
      refine own_aload X0 hx (hb hby at_70) rfl rfl ?_
      refine own_lload X0 hx (hb hby at_72) rfl ?_
      refine own_cVirt (W := 0) (rest := []) X0 hx hZ [(.long q0)] hown (hw _ (List.mem_of_getElem? (i := 26) rfl)) (hw _ (List.mem_of_getElem? (i := 27) rfl)) (notFace_of_selects (args := #[]) (mvT hZ (hw _ (List.mem_of_getElem? (i := 29) rfl)))) (hw _ (List.mem_of_getElem? (i := 29) rfl)) (hw _ (List.mem_of_getElem? (i := 28) rfl)) (by decide) (hw _ (List.mem_of_getElem? (i := 30) rfl)) (hw _ (List.mem_of_getElem? (i := 7) rfl)) e0 Eo (rmAt_0_ins0 l Z a0 hw [] o ra la sd wB kr kl r0 q0 h0 n0 Z0 LD SB hs0 g_o g_ra g_la ) (by rw [hml]; rfl) (lenOf pd_5 rfl) rfl (Nat.le_of_eq rfl) (hb hby at_74) (by decide) (by decide) (by decide) (by decide) fun v503 T503 L503 X503 hQ503 => ?_
      obtain ⟨b503, rfl, N503q, K503, szb503, LD503⟩ := hQ503
      have N503 := Fr.app N0 N503q
      have f504 := (own_staKeep SB K503 (allS (own_exaStat Eo) (allS (own_exaStat Era) (allS (own_exaStat Ela) all0))))
      have f505 := (Exa.keep Eo K503)
      have f506 := (Exa.keep Era K503)
      have f507 := (Exa.keep Ela K503)
      have Zs508 : n0 ≤ T503.heap.size := (Nat.le_trans Z0 K503.1)
      have FZ503 := LD503.2.2.2.1
      show own_At p e below s _ _ _ T503 m 77 _ [(.ref b503)]
      refine own_astore (l' := #[.val (.int p1), .val (.long j1), .second, .val (.long j2), .second, .val (.long j3), .second, .val (.int z), .val (.int (3 : Int32)), .val (.long q0), .second, .val (.long q1), .second, .val (.long q1), .second, .val (.ref o), .val (.ref b503), .unset, .unset, .unset, .unset, .unset]) X503 hx (hb hby at_77) rfl rfl ?_
      refine own_iload X503 hx (hb hby at_79) rfl ?_
      refine own_iconst X503 hx (2 : Int32) (hb hby at_81) rfl ?_
      refine own_icmpNo X503 hx (hb hby at_82) (flt (by decide : ¬ ((3 : Int32) < (2 : Int32)))).1 ?_
      refine own_aload X503 hx (hb hby at_85) rfl rfl ?_
      refine own_lload X503 hx (hb hby at_87) rfl ?_
      refine own_cVirt (W := 0) (rest := []) X503 hx hZ [(.long q1)] hown (hw _ (List.mem_of_getElem? (i := 26) rfl)) (hw _ (List.mem_of_getElem? (i := 27) rfl)) (notFace_of_selects (args := #[]) (mvT hZ (hw _ (List.mem_of_getElem? (i := 29) rfl)))) (hw _ (List.mem_of_getElem? (i := 29) rfl)) (hw _ (List.mem_of_getElem? (i := 28) rfl)) (by decide) (hw _ (List.mem_of_getElem? (i := 30) rfl)) (hw _ (List.mem_of_getElem? (i := 7) rfl)) rfl f505 (rmAt_1_ins0 l Z a0 hw [] o ra la sd wB b503 kr kl r1 r0 q1 T503.heap n0 Zs508 LD503 f504 hs1 g_o g_ra g_la ht257) (by rw [hml]; rfl) (lenOf pd_5 rfl) rfl (Nat.le_of_eq rfl) (hb hby at_89) (by decide) (by decide) (by decide) (by decide) fun v509 T509 L509 X509 hQ509 => ?_
      obtain ⟨b509, rfl, N509q, K509, szb509, LD509⟩ := hQ509
      have N509 := Fr.app N503 N509q
      have f510 := (own_staKeep f504 K509 (allS (own_exaStat f505) (allS (own_exaStat f506) (allS (own_exaStat f507) all0))))
      have f511 := (Exa.keep f505 K509)
      have f512 := (Exa.keep f506 K509)
      have f513 := (Exa.keep f507 K509)
      have Zs514 : n0 ≤ T509.heap.size := (Nat.le_trans Zs508 K509.1)
      have FZ509 := LD509.2.2.2.1
      show own_At p e below s _ _ _ T509 m 92 _ [(.ref b509)]
      refine own_goto X509 hx 96 (hb hby at_92) (by decide) (by decide) ?_
      refine own_astore (l' := #[.val (.int p1), .val (.long j1), .second, .val (.long j2), .second, .val (.long j3), .second, .val (.int z), .val (.int (3 : Int32)), .val (.long q0), .second, .val (.long q1), .second, .val (.long q1), .second, .val (.ref o), .val (.ref b503), .val (.ref b509), .unset, .unset, .unset, .unset]) X509 hx (hb hby at_96) rfl rfl ?_
      refine own_iload X509 hx (hb hby at_98) rfl ?_
      refine own_iconst X509 hx (3 : Int32) (hb hby at_100) rfl ?_
      refine own_icmpNo X509 hx (hb hby at_101) (flt (by decide : ¬ ((3 : Int32) < (3 : Int32)))).1 ?_
      refine own_aload X509 hx (hb hby at_104) rfl rfl ?_
      refine own_lload X509 hx (hb hby at_106) rfl ?_
      refine own_cVirt (W := 0) (rest := []) X509 hx hZ [(.long q1)] hown (hw _ (List.mem_of_getElem? (i := 26) rfl)) (hw _ (List.mem_of_getElem? (i := 27) rfl)) (notFace_of_selects (args := #[]) (mvT hZ (hw _ (List.mem_of_getElem? (i := 29) rfl)))) (hw _ (List.mem_of_getElem? (i := 29) rfl)) (hw _ (List.mem_of_getElem? (i := 28) rfl)) (by decide) (hw _ (List.mem_of_getElem? (i := 30) rfl)) (hw _ (List.mem_of_getElem? (i := 7) rfl)) rfl f511 (rmAt_2_found0 l Z a0 hw [] o ra la sd wB b509 b503 kr kl r1 r0 q1 T509.heap n0 Zs514 LD509 f510 hs1 g_o g_ra g_la ) (by rw [hml]; rfl) (lenOf pd_5 rfl) rfl (Nat.le_of_eq rfl) (hb hby at_108) (by decide) (by decide) (by decide) (by decide) fun v515 T515 L515 X515 hQ515 => ?_
      obtain ⟨rfl, N515q, e515⟩ := hQ515
      have N515 := Fr.app N509 N515q
      show own_At p e below s _ _ _ T515 m 111 _ [(.ref b509)]
      refine own_goto X515 hx 115 (hb hby at_111) (by decide) (by decide) ?_
      refine own_astore (l' := #[.val (.int p1), .val (.long j1), .second, .val (.long j2), .second, .val (.long j3), .second, .val (.int z), .val (.int (3 : Int32)), .val (.long q0), .second, .val (.long q1), .second, .val (.long q1), .second, .val (.ref o), .val (.ref b503), .val (.ref b509), .val (.ref b509), .unset, .unset, .unset]) X515 hx (hb hby at_115) rfl rfl ?_
      refine own_iload X515 hx (hb hby at_117) rfl ?_
      refine own_iconst X515 hx (2 : Int32) (hb hby at_119) rfl ?_
      refine own_icmpNo X515 hx (hb hby at_120) (flt (by decide : ¬ ((3 : Int32) < (2 : Int32)))).1 ?_
      refine own_lload X515 hx (hb hby at_123) rfl ?_
      refine own_lload X515 hx (hb hby at_125) rfl ?_
      refine own_lcmp X515 hx (hb hby at_127) ?_
      refine own_ifNo X515 hx (hb hby at_128) (feq (fun q => (own_rkN RK1 RK0 (own_ltne ht257)) ((lw_eq q1 q0).mp q))).1 ?_
      refine own_iconst X515 hx (1 : Int32) (hb hby at_131) rfl ?_
      refine own_goto X515 hx 136 (hb hby at_132) (by decide) (by decide) ?_
      refine own_istore (l' := #[.val (.int p1), .val (.long j1), .second, .val (.long j2), .second, .val (.long j3), .second, .val (.int z), .val (.int (3 : Int32)), .val (.long q0), .second, .val (.long q1), .second, .val (.long q1), .second, .val (.ref o), .val (.ref b503), .val (.ref b509), .val (.ref b509), .val (.int (1 : Int32)), .unset, .unset]) X515 hx (hb hby at_136) rfl ?_
      refine own_iload X515 hx (hb hby at_138) rfl ?_
      refine own_iconst X515 hx (3 : Int32) (hb hby at_140) rfl ?_
      refine own_icmpNo X515 hx (hb hby at_141) (flt (by decide : ¬ ((3 : Int32) < (3 : Int32)))).1 ?_
      refine own_lload X515 hx (hb hby at_144) rfl ?_
      refine own_lload X515 hx (hb hby at_146) rfl ?_
      refine own_lcmp X515 hx (hb hby at_148) ?_
      refine own_ifNo X515 hx (hb hby at_149) (feq (fun q => (own_rkN RK1 RK0 (own_ltne ht257)) ((lw_eq q1 q0).mp q))).1 ?_
      refine own_lload X515 hx (hb hby at_152) rfl ?_
      refine own_lload X515 hx (hb hby at_154) rfl ?_
      refine own_lcmp X515 hx (hb hby at_156) ?_
      refine own_ifYes X515 hx 164 (hb hby at_157) (teq ((lw_eq q1 q1).mpr (rfl : q1 = q1))).1 (by decide) (by decide) ?_
      refine own_iconst X515 hx (0 : Int32) (hb hby at_164) rfl ?_
      refine own_istore (l' := #[.val (.int p1), .val (.long j1), .second, .val (.long j2), .second, .val (.long j3), .second, .val (.int z), .val (.int (3 : Int32)), .val (.long q0), .second, .val (.long q1), .second, .val (.long q1), .second, .val (.ref o), .val (.ref b503), .val (.ref b509), .val (.ref b509), .val (.int (1 : Int32)), .val (.int (0 : Int32)), .unset]) X515 hx (hb hby at_165) rfl ?_
      refine own_iconst X515 hx (1 : Int32) (hb hby at_167) rfl ?_
      refine own_iload X515 hx (hb hby at_168) rfl ?_
      refine own_ifNo X515 hx (hb hby at_170) (feq (by decide : ¬ ((1 : Int32) = (0 : Int32)))).1 ?_
      refine own_iconst X515 hx (1 : Int32) (hb hby at_173) rfl ?_
      refine own_goto X515 hx 178 (hb hby at_174) (by decide) (by decide) ?_
      refine own_iadd X515 hx (hb hby at_178) ?_
      rw [show ((1 : Int32) + (1 : Int32)) = (2 : Int32) from by decide]
      refine own_iload X515 hx (hb hby at_179) rfl ?_
      refine own_ifYes X515 hx 188 (hb hby at_181) (teq (by decide : (0 : Int32) = (0 : Int32))).1 (by decide) (by decide) ?_
      refine own_iconst X515 hx (0 : Int32) (hb hby at_188) rfl ?_
      refine own_iadd X515 hx (hb hby at_189) ?_
      rw [show ((2 : Int32) + (0 : Int32)) = (2 : Int32) from by decide]
      refine own_istore (l' := #[.val (.int p1), .val (.long j1), .second, .val (.long j2), .second, .val (.long j3), .second, .val (.int z), .val (.int (3 : Int32)), .val (.long q0), .second, .val (.long q1), .second, .val (.long q1), .second, .val (.ref o), .val (.ref b503), .val (.ref b509), .val (.ref b509), .val (.int (1 : Int32)), .val (.int (0 : Int32)), .val (.int (2 : Int32))]) X515 hx (hb hby at_190) rfl ?_
      refine own_aload X515 hx (hb hby at_192) rfl rfl ?_
      refine own_cVirt (W := 0) (rest := []) X515 hx hZ [] hown (hw _ (List.mem_of_getElem? (i := 60) rfl)) (hw _ (List.mem_of_getElem? (i := 61) rfl)) (notFace_of_selects (args := #[]) (mvT hZ (hw _ (List.mem_of_getElem? (i := 63) rfl)))) (hw _ (List.mem_of_getElem? (i := 63) rfl)) (hw _ (List.mem_of_getElem? (i := 62) rfl)) (by decide) (hw _ (List.mem_of_getElem? (i := 64) rfl)) (hw _ (List.mem_of_getElem? (i := 7) rfl)) e515 f511 (rmSize l Z a0 hw [] o (2 : Int32) T509.heap n0 Zs514 FZ509) (by rw [hml]; rfl) (lenOf pd_6 rfl) rfl (Nat.le_of_eq rfl) (hb hby at_194) (by decide) (by decide) (by decide) (by decide) fun v516 T516 L516 X516 hQ516 => ?_
      obtain ⟨rfl, N516q, e516⟩ := hQ516
      have N516 := Fr.app N515 N516q
      show own_At p e below s _ _ _ T516 m 197 _ [(.int (2 : Int32))]
      refine own_iload X516 hx (hb hby at_197) rfl ?_
      refine own_icmpYes X516 hx 204 (hb hby at_199) (teq (by decide : (2 : Int32) = (2 : Int32))).1 (by decide) (by decide) ?_
      refine own_aload X516 hx (hb hby at_204) rfl rfl ?_
      refine own_iload X516 hx (hb hby at_206) rfl ?_
      refine own_lload X516 hx (hb hby at_208) rfl ?_
      refine own_lload X516 hx (hb hby at_210) rfl ?_
      refine own_lload X516 hx (hb hby at_212) rfl ?_
      refine own_iload X516 hx (hb hby at_214) rfl ?_
      refine own_iload X516 hx (hb hby at_216) rfl ?_
      refine own_lload X516 hx (hb hby at_218) rfl ?_
      refine own_cStat (W := 1) (rest := [(.ref o)]) X516 hx hZ [(.int z), (.long q0), (.long q1), (.long q1), (.int (1 : Int32)), (.int (0 : Int32)), (.long q0)] hown (hw _ (List.mem_of_getElem? (i := 65) rfl)) (hw _ (List.mem_of_getElem? (i := 66) rfl)) (by decide) (hw _ (List.mem_of_getElem? (i := 67) rfl)) (hw _ (List.mem_of_getElem? (i := 2) rfl)) e516 (rmDep_10 l Z a0 hw [] z q0 q1 q1 q0 T509.heap n0 Zs514) (by rw [hml]; rfl) (lenOf pd_7 rfl) rfl (Nat.le_of_eq rfl) (hb hby at_220) (by decide) (by decide) (by decide) (by decide) fun v517 T517 L517 X517 hQ517 => ?_
      obtain ⟨rfl, N517q, e517⟩ := hQ517
      have N517 := Fr.app N516 N517q
      show own_At p e below s _ _ _ T517 m 223 _ [(.int ((own_bet z q0 q0) + (own_bet z q1 q0))), (.ref o)]
      rw [show ((own_bet z q0 q0) + (own_bet z q1 q0)) = (0 : Int32) from by rw [own_betN RK0 RK0 (own_irr _), own_betN RK1 RK0 (own_asym ht257)]; decide]
      refine own_cVirt (W := 0) (rest := []) X517 hx hZ [(.int (0 : Int32))] hown (hw _ (List.mem_of_getElem? (i := 71) rfl)) (hw _ (List.mem_of_getElem? (i := 72) rfl)) (notFace_of_selects (args := #[]) (mvT hZ (hw _ (List.mem_of_getElem? (i := 74) rfl)))) (hw _ (List.mem_of_getElem? (i := 74) rfl)) (hw _ (List.mem_of_getElem? (i := 73) rfl)) (by decide) (hw _ (List.mem_of_getElem? (i := 75) rfl)) (hw _ (List.mem_of_getElem? (i := 7) rfl)) e517 f511 (rmLev_2_0 l Z a0 hw [] o ra la sd kr kl r1 r0 b509 b503 T509.heap n0 Zs514 LD509) (by rw [hml]; rfl) (lenOf pd_8 rfl) rfl (Nat.le_of_eq rfl) (hb hby at_223) (by decide) (by decide) (by decide) (by decide) fun v518 T518 L518 X518 hQ518 => ?_
      obtain ⟨rfl, N518q, e518⟩ := hQ518
      have N518 := Fr.app N517 N518q
      show own_At p e below s _ _ _ T518 m 226 _ [(.ref b503)]
      refine own_aload X518 hx (hb hby at_226) rfl rfl ?_
      refine own_acmp X518 hx 233 true (hb hby at_228) rfl rfl (decide_eq_true rfl) (by decide) (by decide) ?_
      refine own_iload X518 hx (hb hby at_233) rfl ?_
      refine own_iconst X518 hx (2 : Int32) (hb hby at_235) rfl ?_
      refine own_icmpNo X518 hx (hb hby at_236) (flt (by decide : ¬ ((3 : Int32) < (2 : Int32)))).1 ?_
      refine own_aload X518 hx (hb hby at_239) rfl rfl ?_
      refine own_iload X518 hx (hb hby at_241) rfl ?_
      refine own_lload X518 hx (hb hby at_243) rfl ?_
      refine own_lload X518 hx (hb hby at_245) rfl ?_
      refine own_lload X518 hx (hb hby at_247) rfl ?_
      refine own_iload X518 hx (hb hby at_249) rfl ?_
      refine own_iload X518 hx (hb hby at_251) rfl ?_
      refine own_lload X518 hx (hb hby at_253) rfl ?_
      refine own_cStat (W := 1) (rest := [(.ref o)]) X518 hx hZ [(.int z), (.long q0), (.long q1), (.long q1), (.int (1 : Int32)), (.int (0 : Int32)), (.long q1)] hown (hw _ (List.mem_of_getElem? (i := 65) rfl)) (hw _ (List.mem_of_getElem? (i := 66) rfl)) (by decide) (hw _ (List.mem_of_getElem? (i := 67) rfl)) (hw _ (List.mem_of_getElem? (i := 2) rfl)) e518 (rmDep_10 l Z a0 hw [] z q0 q1 q1 q1 T509.heap n0 Zs514) (by rw [hml]; rfl) (lenOf pd_7 rfl) rfl (Nat.le_of_eq rfl) (hb hby at_255) (by decide) (by decide) (by decide) (by decide) fun v519 T519 L519 X519 hQ519 => ?_
      obtain ⟨rfl, N519q, e519⟩ := hQ519
      have N519 := Fr.app N518 N519q
      show own_At p e below s _ _ _ T519 m 258 _ [(.int ((own_bet z q0 q1) + (own_bet z q1 q1))), (.ref o)]
      rw [show ((own_bet z q0 q1) + (own_bet z q1 q1)) = (1 : Int32) from by rw [own_betY RK0 RK1 ht257, own_betN RK1 RK1 (own_irr _)]; decide]
      refine own_cVirt (W := 0) (rest := []) X519 hx hZ [(.int (1 : Int32))] hown (hw _ (List.mem_of_getElem? (i := 71) rfl)) (hw _ (List.mem_of_getElem? (i := 72) rfl)) (notFace_of_selects (args := #[]) (mvT hZ (hw _ (List.mem_of_getElem? (i := 74) rfl)))) (hw _ (List.mem_of_getElem? (i := 74) rfl)) (hw _ (List.mem_of_getElem? (i := 73) rfl)) (by decide) (hw _ (List.mem_of_getElem? (i := 75) rfl)) (hw _ (List.mem_of_getElem? (i := 7) rfl)) e519 f511 (rmLev_2_1 l Z a0 hw [] o ra la sd kr kl r1 r0 b509 b503 T509.heap n0 Zs514 LD509) (by rw [hml]; rfl) (lenOf pd_8 rfl) rfl (Nat.le_of_eq rfl) (hb hby at_258) (by decide) (by decide) (by decide) (by decide) fun v520 T520 L520 X520 hQ520 => ?_
      obtain ⟨rfl, N520q, e520⟩ := hQ520
      have N520 := Fr.app N519 N520q
      show own_At p e below s _ _ _ T520 m 261 _ [(.ref b509)]
      refine own_aload X520 hx (hb hby at_261) rfl rfl ?_
      refine own_acmp X520 hx 268 true (hb hby at_263) rfl rfl (decide_eq_true rfl) (by decide) (by decide) ?_
      refine own_iload X520 hx (hb hby at_268) rfl ?_
      refine own_iconst X520 hx (3 : Int32) (hb hby at_270) rfl ?_
      refine own_icmpNo X520 hx (hb hby at_271) (flt (by decide : ¬ ((3 : Int32) < (3 : Int32)))).1 ?_
      refine own_aload X520 hx (hb hby at_274) rfl rfl ?_
      refine own_iload X520 hx (hb hby at_276) rfl ?_
      refine own_lload X520 hx (hb hby at_278) rfl ?_
      refine own_lload X520 hx (hb hby at_280) rfl ?_
      refine own_lload X520 hx (hb hby at_282) rfl ?_
      refine own_iload X520 hx (hb hby at_284) rfl ?_
      refine own_iload X520 hx (hb hby at_286) rfl ?_
      refine own_lload X520 hx (hb hby at_288) rfl ?_
      refine own_cStat (W := 1) (rest := [(.ref o)]) X520 hx hZ [(.int z), (.long q0), (.long q1), (.long q1), (.int (1 : Int32)), (.int (0 : Int32)), (.long q1)] hown (hw _ (List.mem_of_getElem? (i := 65) rfl)) (hw _ (List.mem_of_getElem? (i := 66) rfl)) (by decide) (hw _ (List.mem_of_getElem? (i := 67) rfl)) (hw _ (List.mem_of_getElem? (i := 2) rfl)) e520 (rmDep_10 l Z a0 hw [] z q0 q1 q1 q1 T509.heap n0 Zs514) (by rw [hml]; rfl) (lenOf pd_7 rfl) rfl (Nat.le_of_eq rfl) (hb hby at_290) (by decide) (by decide) (by decide) (by decide) fun v521 T521 L521 X521 hQ521 => ?_
      obtain ⟨rfl, N521q, e521⟩ := hQ521
      have N521 := Fr.app N520 N521q
      show own_At p e below s _ _ _ T521 m 293 _ [(.int ((own_bet z q0 q1) + (own_bet z q1 q1))), (.ref o)]
      rw [show ((own_bet z q0 q1) + (own_bet z q1 q1)) = (1 : Int32) from by rw [own_betY RK0 RK1 ht257, own_betN RK1 RK1 (own_irr _)]; decide]
      refine own_cVirt (W := 0) (rest := []) X521 hx hZ [(.int (1 : Int32))] hown (hw _ (List.mem_of_getElem? (i := 71) rfl)) (hw _ (List.mem_of_getElem? (i := 72) rfl)) (notFace_of_selects (args := #[]) (mvT hZ (hw _ (List.mem_of_getElem? (i := 74) rfl)))) (hw _ (List.mem_of_getElem? (i := 74) rfl)) (hw _ (List.mem_of_getElem? (i := 73) rfl)) (by decide) (hw _ (List.mem_of_getElem? (i := 75) rfl)) (hw _ (List.mem_of_getElem? (i := 7) rfl)) e521 f511 (rmLev_2_1 l Z a0 hw [] o ra la sd kr kl r1 r0 b509 b503 T509.heap n0 Zs514 LD509) (by rw [hml]; rfl) (lenOf pd_8 rfl) rfl (Nat.le_of_eq rfl) (hb hby at_293) (by decide) (by decide) (by decide) (by decide) fun v522 T522 L522 X522 hQ522 => ?_
      obtain ⟨rfl, N522q, e522⟩ := hQ522
      have N522 := Fr.app N521 N522q
      show own_At p e below s _ _ _ T522 m 296 _ [(.ref b509)]
      refine own_aload X522 hx (hb hby at_296) rfl rfl ?_
      refine own_acmp X522 hx 303 true (hb hby at_298) rfl rfl (decide_eq_true rfl) (by decide) (by decide) ?_
      refine own_iconst X522 hx (1 : Int32) (hb hby at_303) rfl ?_
      refine own_retN X522 hx hlk hret (by simp) (by decide) (hb hby at_304) (by decide) (by decide) ?_
      try rw [e522]
      exact ⟨rfl, N522⟩
    · refine own_astore (l' := #[.val (.int p1), .val (.long j1), .second, .val (.long j2), .second, .val (.long j3), .second, .val (.int z), .val (.int (3 : Int32)), .val (.long q0), .second, .val (.long q1), .second, .val (.long q2), .second, .val (.ref o), .unset, .unset, .unset, .unset, .unset, .unset]) X0 hx (hb hby at_68) rfl rfl ?_
      refine own_aload X0 hx (hb hby at_70) rfl rfl ?_
      refine own_lload X0 hx (hb hby at_72) rfl ?_
      refine own_cVirt (W := 0) (rest := []) X0 hx hZ [(.long q0)] hown (hw _ (List.mem_of_getElem? (i := 26) rfl)) (hw _ (List.mem_of_getElem? (i := 27) rfl)) (notFace_of_selects (args := #[]) (mvT hZ (hw _ (List.mem_of_getElem? (i := 29) rfl)))) (hw _ (List.mem_of_getElem? (i := 29) rfl)) (hw _ (List.mem_of_getElem? (i := 28) rfl)) (by decide) (hw _ (List.mem_of_getElem? (i := 30) rfl)) (hw _ (List.mem_of_getElem? (i := 7) rfl)) e0 Eo (rmAt_0_ins0 l Z a0 hw [] o ra la sd wB kr kl r0 q0 h0 n0 Z0 LD SB hs0 g_o g_ra g_la ) (by rw [hml]; rfl) (lenOf pd_5 rfl) rfl (Nat.le_of_eq rfl) (hb hby at_74) (by decide) (by decide) (by decide) (by decide) fun v523 T523 L523 X523 hQ523 => ?_
      obtain ⟨b523, rfl, N523q, K523, szb523, LD523⟩ := hQ523
      have N523 := Fr.app N0 N523q
      have f524 := (own_staKeep SB K523 (allS (own_exaStat Eo) (allS (own_exaStat Era) (allS (own_exaStat Ela) all0))))
      have f525 := (Exa.keep Eo K523)
      have f526 := (Exa.keep Era K523)
      have f527 := (Exa.keep Ela K523)
      have Zs528 : n0 ≤ T523.heap.size := (Nat.le_trans Z0 K523.1)
      have FZ523 := LD523.2.2.2.1
      show own_At p e below s _ _ _ T523 m 77 _ [(.ref b523)]
      refine own_astore (l' := #[.val (.int p1), .val (.long j1), .second, .val (.long j2), .second, .val (.long j3), .second, .val (.int z), .val (.int (3 : Int32)), .val (.long q0), .second, .val (.long q1), .second, .val (.long q2), .second, .val (.ref o), .val (.ref b523), .unset, .unset, .unset, .unset, .unset]) X523 hx (hb hby at_77) rfl rfl ?_
      refine own_iload X523 hx (hb hby at_79) rfl ?_
      refine own_iconst X523 hx (2 : Int32) (hb hby at_81) rfl ?_
      refine own_icmpNo X523 hx (hb hby at_82) (flt (by decide : ¬ ((3 : Int32) < (2 : Int32)))).1 ?_
      refine own_aload X523 hx (hb hby at_85) rfl rfl ?_
      refine own_lload X523 hx (hb hby at_87) rfl ?_
      refine own_cVirt (W := 0) (rest := []) X523 hx hZ [(.long q1)] hown (hw _ (List.mem_of_getElem? (i := 26) rfl)) (hw _ (List.mem_of_getElem? (i := 27) rfl)) (notFace_of_selects (args := #[]) (mvT hZ (hw _ (List.mem_of_getElem? (i := 29) rfl)))) (hw _ (List.mem_of_getElem? (i := 29) rfl)) (hw _ (List.mem_of_getElem? (i := 28) rfl)) (by decide) (hw _ (List.mem_of_getElem? (i := 30) rfl)) (hw _ (List.mem_of_getElem? (i := 7) rfl)) rfl f525 (rmAt_1_ins0 l Z a0 hw [] o ra la sd wB b523 kr kl r1 r0 q1 T523.heap n0 Zs528 LD523 f524 hs1 g_o g_ra g_la ht257) (by rw [hml]; rfl) (lenOf pd_5 rfl) rfl (Nat.le_of_eq rfl) (hb hby at_89) (by decide) (by decide) (by decide) (by decide) fun v529 T529 L529 X529 hQ529 => ?_
      obtain ⟨b529, rfl, N529q, K529, szb529, LD529⟩ := hQ529
      have N529 := Fr.app N523 N529q
      have f530 := (own_staKeep f524 K529 (allS (own_exaStat f525) (allS (own_exaStat f526) (allS (own_exaStat f527) all0))))
      have f531 := (Exa.keep f525 K529)
      have f532 := (Exa.keep f526 K529)
      have f533 := (Exa.keep f527 K529)
      have Zs534 : n0 ≤ T529.heap.size := (Nat.le_trans Zs528 K529.1)
      have FZ529 := LD529.2.2.2.1
      show own_At p e below s _ _ _ T529 m 92 _ [(.ref b529)]
      refine own_goto X529 hx 96 (hb hby at_92) (by decide) (by decide) ?_
      refine own_astore (l' := #[.val (.int p1), .val (.long j1), .second, .val (.long j2), .second, .val (.long j3), .second, .val (.int z), .val (.int (3 : Int32)), .val (.long q0), .second, .val (.long q1), .second, .val (.long q2), .second, .val (.ref o), .val (.ref b523), .val (.ref b529), .unset, .unset, .unset, .unset]) X529 hx (hb hby at_96) rfl rfl ?_
      refine own_iload X529 hx (hb hby at_98) rfl ?_
      refine own_iconst X529 hx (3 : Int32) (hb hby at_100) rfl ?_
      refine own_icmpNo X529 hx (hb hby at_101) (flt (by decide : ¬ ((3 : Int32) < (3 : Int32)))).1 ?_
      refine own_aload X529 hx (hb hby at_104) rfl rfl ?_
      refine own_lload X529 hx (hb hby at_106) rfl ?_
      refine own_cVirt (W := 0) (rest := []) X529 hx hZ [(.long q2)] hown (hw _ (List.mem_of_getElem? (i := 26) rfl)) (hw _ (List.mem_of_getElem? (i := 27) rfl)) (notFace_of_selects (args := #[]) (mvT hZ (hw _ (List.mem_of_getElem? (i := 29) rfl)))) (hw _ (List.mem_of_getElem? (i := 29) rfl)) (hw _ (List.mem_of_getElem? (i := 28) rfl)) (by decide) (hw _ (List.mem_of_getElem? (i := 30) rfl)) (hw _ (List.mem_of_getElem? (i := 7) rfl)) rfl f531 (rmAt_2_ins0 l Z a0 hw [] o ra la sd wB b529 b523 kr kl r2 r1 r0 q2 T529.heap n0 Zs534 LD529 f530 hs2 g_o g_ra g_la ht431) (by rw [hml]; rfl) (lenOf pd_5 rfl) rfl (Nat.le_of_eq rfl) (hb hby at_108) (by decide) (by decide) (by decide) (by decide) fun v535 T535 L535 X535 hQ535 => ?_
      obtain ⟨b535, rfl, N535q, K535, szb535, LD535⟩ := hQ535
      have N535 := Fr.app N529 N535q
      have f536 := (own_staKeep f530 K535 (allS (own_exaStat f531) (allS (own_exaStat f532) (allS (own_exaStat f533) all0))))
      have f537 := (Exa.keep f531 K535)
      have f538 := (Exa.keep f532 K535)
      have f539 := (Exa.keep f533 K535)
      have Zs540 : n0 ≤ T535.heap.size := (Nat.le_trans Zs534 K535.1)
      have FZ535 := LD535.2.2.2.1
      show own_At p e below s _ _ _ T535 m 111 _ [(.ref b535)]
      refine own_goto X535 hx 115 (hb hby at_111) (by decide) (by decide) ?_
      refine own_astore (l' := #[.val (.int p1), .val (.long j1), .second, .val (.long j2), .second, .val (.long j3), .second, .val (.int z), .val (.int (3 : Int32)), .val (.long q0), .second, .val (.long q1), .second, .val (.long q2), .second, .val (.ref o), .val (.ref b523), .val (.ref b529), .val (.ref b535), .unset, .unset, .unset]) X535 hx (hb hby at_115) rfl rfl ?_
      refine own_iload X535 hx (hb hby at_117) rfl ?_
      refine own_iconst X535 hx (2 : Int32) (hb hby at_119) rfl ?_
      refine own_icmpNo X535 hx (hb hby at_120) (flt (by decide : ¬ ((3 : Int32) < (2 : Int32)))).1 ?_
      refine own_lload X535 hx (hb hby at_123) rfl ?_
      refine own_lload X535 hx (hb hby at_125) rfl ?_
      refine own_lcmp X535 hx (hb hby at_127) ?_
      refine own_ifNo X535 hx (hb hby at_128) (feq (fun q => (own_rkN RK1 RK0 (own_ltne ht257)) ((lw_eq q1 q0).mp q))).1 ?_
      refine own_iconst X535 hx (1 : Int32) (hb hby at_131) rfl ?_
      refine own_goto X535 hx 136 (hb hby at_132) (by decide) (by decide) ?_
      refine own_istore (l' := #[.val (.int p1), .val (.long j1), .second, .val (.long j2), .second, .val (.long j3), .second, .val (.int z), .val (.int (3 : Int32)), .val (.long q0), .second, .val (.long q1), .second, .val (.long q2), .second, .val (.ref o), .val (.ref b523), .val (.ref b529), .val (.ref b535), .val (.int (1 : Int32)), .unset, .unset]) X535 hx (hb hby at_136) rfl ?_
      refine own_iload X535 hx (hb hby at_138) rfl ?_
      refine own_iconst X535 hx (3 : Int32) (hb hby at_140) rfl ?_
      refine own_icmpNo X535 hx (hb hby at_141) (flt (by decide : ¬ ((3 : Int32) < (3 : Int32)))).1 ?_
      refine own_lload X535 hx (hb hby at_144) rfl ?_
      refine own_lload X535 hx (hb hby at_146) rfl ?_
      refine own_lcmp X535 hx (hb hby at_148) ?_
      refine own_ifNo X535 hx (hb hby at_149) (feq (fun q => (own_rkN RK2 RK0 (own_ltne (own_trans ht431 ht257))) ((lw_eq q2 q0).mp q))).1 ?_
      refine own_lload X535 hx (hb hby at_152) rfl ?_
      refine own_lload X535 hx (hb hby at_154) rfl ?_
      refine own_lcmp X535 hx (hb hby at_156) ?_
      refine own_ifNo X535 hx (hb hby at_157) (feq (fun q => (own_rkN RK2 RK1 (own_ltne ht431)) ((lw_eq q2 q1).mp q))).1 ?_
      refine own_iconst X535 hx (1 : Int32) (hb hby at_160) rfl ?_
      refine own_goto X535 hx 165 (hb hby at_161) (by decide) (by decide) ?_
      refine own_istore (l' := #[.val (.int p1), .val (.long j1), .second, .val (.long j2), .second, .val (.long j3), .second, .val (.int z), .val (.int (3 : Int32)), .val (.long q0), .second, .val (.long q1), .second, .val (.long q2), .second, .val (.ref o), .val (.ref b523), .val (.ref b529), .val (.ref b535), .val (.int (1 : Int32)), .val (.int (1 : Int32)), .unset]) X535 hx (hb hby at_165) rfl ?_
      refine own_iconst X535 hx (1 : Int32) (hb hby at_167) rfl ?_
      refine own_iload X535 hx (hb hby at_168) rfl ?_
      refine own_ifNo X535 hx (hb hby at_170) (feq (by decide : ¬ ((1 : Int32) = (0 : Int32)))).1 ?_
      refine own_iconst X535 hx (1 : Int32) (hb hby at_173) rfl ?_
      refine own_goto X535 hx 178 (hb hby at_174) (by decide) (by decide) ?_
      refine own_iadd X535 hx (hb hby at_178) ?_
      rw [show ((1 : Int32) + (1 : Int32)) = (2 : Int32) from by decide]
      refine own_iload X535 hx (hb hby at_179) rfl ?_
      refine own_ifNo X535 hx (hb hby at_181) (feq (by decide : ¬ ((1 : Int32) = (0 : Int32)))).1 ?_
      refine own_iconst X535 hx (1 : Int32) (hb hby at_184) rfl ?_
      refine own_goto X535 hx 189 (hb hby at_185) (by decide) (by decide) ?_
      refine own_iadd X535 hx (hb hby at_189) ?_
      rw [show ((2 : Int32) + (1 : Int32)) = (3 : Int32) from by decide]
      refine own_istore (l' := #[.val (.int p1), .val (.long j1), .second, .val (.long j2), .second, .val (.long j3), .second, .val (.int z), .val (.int (3 : Int32)), .val (.long q0), .second, .val (.long q1), .second, .val (.long q2), .second, .val (.ref o), .val (.ref b523), .val (.ref b529), .val (.ref b535), .val (.int (1 : Int32)), .val (.int (1 : Int32)), .val (.int (3 : Int32))]) X535 hx (hb hby at_190) rfl ?_
      refine own_aload X535 hx (hb hby at_192) rfl rfl ?_
      refine own_cVirt (W := 0) (rest := []) X535 hx hZ [] hown (hw _ (List.mem_of_getElem? (i := 60) rfl)) (hw _ (List.mem_of_getElem? (i := 61) rfl)) (notFace_of_selects (args := #[]) (mvT hZ (hw _ (List.mem_of_getElem? (i := 63) rfl)))) (hw _ (List.mem_of_getElem? (i := 63) rfl)) (hw _ (List.mem_of_getElem? (i := 62) rfl)) (by decide) (hw _ (List.mem_of_getElem? (i := 64) rfl)) (hw _ (List.mem_of_getElem? (i := 7) rfl)) rfl f537 (rmSize l Z a0 hw [] o (3 : Int32) T535.heap n0 Zs540 FZ535) (by rw [hml]; rfl) (lenOf pd_6 rfl) rfl (Nat.le_of_eq rfl) (hb hby at_194) (by decide) (by decide) (by decide) (by decide) fun v541 T541 L541 X541 hQ541 => ?_
      obtain ⟨rfl, N541q, e541⟩ := hQ541
      have N541 := Fr.app N535 N541q
      show own_At p e below s _ _ _ T541 m 197 _ [(.int (3 : Int32))]
      refine own_iload X541 hx (hb hby at_197) rfl ?_
      refine own_icmpYes X541 hx 204 (hb hby at_199) (teq (by decide : (3 : Int32) = (3 : Int32))).1 (by decide) (by decide) ?_
      refine own_aload X541 hx (hb hby at_204) rfl rfl ?_
      refine own_iload X541 hx (hb hby at_206) rfl ?_
      refine own_lload X541 hx (hb hby at_208) rfl ?_
      refine own_lload X541 hx (hb hby at_210) rfl ?_
      refine own_lload X541 hx (hb hby at_212) rfl ?_
      refine own_iload X541 hx (hb hby at_214) rfl ?_
      refine own_iload X541 hx (hb hby at_216) rfl ?_
      refine own_lload X541 hx (hb hby at_218) rfl ?_
      refine own_cStat (W := 1) (rest := [(.ref o)]) X541 hx hZ [(.int z), (.long q0), (.long q1), (.long q2), (.int (1 : Int32)), (.int (1 : Int32)), (.long q0)] hown (hw _ (List.mem_of_getElem? (i := 65) rfl)) (hw _ (List.mem_of_getElem? (i := 66) rfl)) (by decide) (hw _ (List.mem_of_getElem? (i := 67) rfl)) (hw _ (List.mem_of_getElem? (i := 2) rfl)) e541 (rmDep_11 l Z a0 hw [] z q0 q1 q2 q0 T535.heap n0 Zs540) (by rw [hml]; rfl) (lenOf pd_7 rfl) rfl (Nat.le_of_eq rfl) (hb hby at_220) (by decide) (by decide) (by decide) (by decide) fun v542 T542 L542 X542 hQ542 => ?_
      obtain ⟨rfl, N542q, e542⟩ := hQ542
      have N542 := Fr.app N541 N542q
      show own_At p e below s _ _ _ T542 m 223 _ [(.int (((own_bet z q0 q0) + (own_bet z q1 q0)) + (own_bet z q2 q0))), (.ref o)]
      rw [show (((own_bet z q0 q0) + (own_bet z q1 q0)) + (own_bet z q2 q0)) = (0 : Int32) from by rw [own_betN RK0 RK0 (own_irr _), own_betN RK1 RK0 (own_asym ht257), own_betN RK2 RK0 (own_asym (own_trans ht431 ht257))]; decide]
      refine own_cVirt (W := 0) (rest := []) X542 hx hZ [(.int (0 : Int32))] hown (hw _ (List.mem_of_getElem? (i := 71) rfl)) (hw _ (List.mem_of_getElem? (i := 72) rfl)) (notFace_of_selects (args := #[]) (mvT hZ (hw _ (List.mem_of_getElem? (i := 74) rfl)))) (hw _ (List.mem_of_getElem? (i := 74) rfl)) (hw _ (List.mem_of_getElem? (i := 73) rfl)) (by decide) (hw _ (List.mem_of_getElem? (i := 75) rfl)) (hw _ (List.mem_of_getElem? (i := 7) rfl)) e542 f537 (rmLev_3_0 l Z a0 hw [] o ra la sd kr kl r2 r1 r0 b535 b529 b523 T535.heap n0 Zs540 LD535) (by rw [hml]; rfl) (lenOf pd_8 rfl) rfl (Nat.le_of_eq rfl) (hb hby at_223) (by decide) (by decide) (by decide) (by decide) fun v543 T543 L543 X543 hQ543 => ?_
      obtain ⟨rfl, N543q, e543⟩ := hQ543
      have N543 := Fr.app N542 N543q
      show own_At p e below s _ _ _ T543 m 226 _ [(.ref b523)]
      refine own_aload X543 hx (hb hby at_226) rfl rfl ?_
      refine own_acmp X543 hx 233 true (hb hby at_228) rfl rfl (decide_eq_true rfl) (by decide) (by decide) ?_
      refine own_iload X543 hx (hb hby at_233) rfl ?_
      refine own_iconst X543 hx (2 : Int32) (hb hby at_235) rfl ?_
      refine own_icmpNo X543 hx (hb hby at_236) (flt (by decide : ¬ ((3 : Int32) < (2 : Int32)))).1 ?_
      refine own_aload X543 hx (hb hby at_239) rfl rfl ?_
      refine own_iload X543 hx (hb hby at_241) rfl ?_
      refine own_lload X543 hx (hb hby at_243) rfl ?_
      refine own_lload X543 hx (hb hby at_245) rfl ?_
      refine own_lload X543 hx (hb hby at_247) rfl ?_
      refine own_iload X543 hx (hb hby at_249) rfl ?_
      refine own_iload X543 hx (hb hby at_251) rfl ?_
      refine own_lload X543 hx (hb hby at_253) rfl ?_
      refine own_cStat (W := 1) (rest := [(.ref o)]) X543 hx hZ [(.int z), (.long q0), (.long q1), (.long q2), (.int (1 : Int32)), (.int (1 : Int32)), (.long q1)] hown (hw _ (List.mem_of_getElem? (i := 65) rfl)) (hw _ (List.mem_of_getElem? (i := 66) rfl)) (by decide) (hw _ (List.mem_of_getElem? (i := 67) rfl)) (hw _ (List.mem_of_getElem? (i := 2) rfl)) e543 (rmDep_11 l Z a0 hw [] z q0 q1 q2 q1 T535.heap n0 Zs540) (by rw [hml]; rfl) (lenOf pd_7 rfl) rfl (Nat.le_of_eq rfl) (hb hby at_255) (by decide) (by decide) (by decide) (by decide) fun v544 T544 L544 X544 hQ544 => ?_
      obtain ⟨rfl, N544q, e544⟩ := hQ544
      have N544 := Fr.app N543 N544q
      show own_At p e below s _ _ _ T544 m 258 _ [(.int (((own_bet z q0 q1) + (own_bet z q1 q1)) + (own_bet z q2 q1))), (.ref o)]
      rw [show (((own_bet z q0 q1) + (own_bet z q1 q1)) + (own_bet z q2 q1)) = (1 : Int32) from by rw [own_betY RK0 RK1 ht257, own_betN RK1 RK1 (own_irr _), own_betN RK2 RK1 (own_asym ht431)]; decide]
      refine own_cVirt (W := 0) (rest := []) X544 hx hZ [(.int (1 : Int32))] hown (hw _ (List.mem_of_getElem? (i := 71) rfl)) (hw _ (List.mem_of_getElem? (i := 72) rfl)) (notFace_of_selects (args := #[]) (mvT hZ (hw _ (List.mem_of_getElem? (i := 74) rfl)))) (hw _ (List.mem_of_getElem? (i := 74) rfl)) (hw _ (List.mem_of_getElem? (i := 73) rfl)) (by decide) (hw _ (List.mem_of_getElem? (i := 75) rfl)) (hw _ (List.mem_of_getElem? (i := 7) rfl)) e544 f537 (rmLev_3_1 l Z a0 hw [] o ra la sd kr kl r2 r1 r0 b535 b529 b523 T535.heap n0 Zs540 LD535) (by rw [hml]; rfl) (lenOf pd_8 rfl) rfl (Nat.le_of_eq rfl) (hb hby at_258) (by decide) (by decide) (by decide) (by decide) fun v545 T545 L545 X545 hQ545 => ?_
      obtain ⟨rfl, N545q, e545⟩ := hQ545
      have N545 := Fr.app N544 N545q
      show own_At p e below s _ _ _ T545 m 261 _ [(.ref b529)]
      refine own_aload X545 hx (hb hby at_261) rfl rfl ?_
      refine own_acmp X545 hx 268 true (hb hby at_263) rfl rfl (decide_eq_true rfl) (by decide) (by decide) ?_
      refine own_iload X545 hx (hb hby at_268) rfl ?_
      refine own_iconst X545 hx (3 : Int32) (hb hby at_270) rfl ?_
      refine own_icmpNo X545 hx (hb hby at_271) (flt (by decide : ¬ ((3 : Int32) < (3 : Int32)))).1 ?_
      refine own_aload X545 hx (hb hby at_274) rfl rfl ?_
      refine own_iload X545 hx (hb hby at_276) rfl ?_
      refine own_lload X545 hx (hb hby at_278) rfl ?_
      refine own_lload X545 hx (hb hby at_280) rfl ?_
      refine own_lload X545 hx (hb hby at_282) rfl ?_
      refine own_iload X545 hx (hb hby at_284) rfl ?_
      refine own_iload X545 hx (hb hby at_286) rfl ?_
      refine own_lload X545 hx (hb hby at_288) rfl ?_
      refine own_cStat (W := 1) (rest := [(.ref o)]) X545 hx hZ [(.int z), (.long q0), (.long q1), (.long q2), (.int (1 : Int32)), (.int (1 : Int32)), (.long q2)] hown (hw _ (List.mem_of_getElem? (i := 65) rfl)) (hw _ (List.mem_of_getElem? (i := 66) rfl)) (by decide) (hw _ (List.mem_of_getElem? (i := 67) rfl)) (hw _ (List.mem_of_getElem? (i := 2) rfl)) e545 (rmDep_11 l Z a0 hw [] z q0 q1 q2 q2 T535.heap n0 Zs540) (by rw [hml]; rfl) (lenOf pd_7 rfl) rfl (Nat.le_of_eq rfl) (hb hby at_290) (by decide) (by decide) (by decide) (by decide) fun v546 T546 L546 X546 hQ546 => ?_
      obtain ⟨rfl, N546q, e546⟩ := hQ546
      have N546 := Fr.app N545 N546q
      show own_At p e below s _ _ _ T546 m 293 _ [(.int (((own_bet z q0 q2) + (own_bet z q1 q2)) + (own_bet z q2 q2))), (.ref o)]
      rw [show (((own_bet z q0 q2) + (own_bet z q1 q2)) + (own_bet z q2 q2)) = (2 : Int32) from by rw [own_betY RK0 RK2 (own_trans ht431 ht257), own_betY RK1 RK2 ht431, own_betN RK2 RK2 (own_irr _)]; decide]
      refine own_cVirt (W := 0) (rest := []) X546 hx hZ [(.int (2 : Int32))] hown (hw _ (List.mem_of_getElem? (i := 71) rfl)) (hw _ (List.mem_of_getElem? (i := 72) rfl)) (notFace_of_selects (args := #[]) (mvT hZ (hw _ (List.mem_of_getElem? (i := 74) rfl)))) (hw _ (List.mem_of_getElem? (i := 74) rfl)) (hw _ (List.mem_of_getElem? (i := 73) rfl)) (by decide) (hw _ (List.mem_of_getElem? (i := 75) rfl)) (hw _ (List.mem_of_getElem? (i := 7) rfl)) e546 f537 (rmLev_3_2 l Z a0 hw [] o ra la sd kr kl r2 r1 r0 b535 b529 b523 T535.heap n0 Zs540 LD535) (by rw [hml]; rfl) (lenOf pd_8 rfl) rfl (Nat.le_of_eq rfl) (hb hby at_293) (by decide) (by decide) (by decide) (by decide) fun v547 T547 L547 X547 hQ547 => ?_
      obtain ⟨rfl, N547q, e547⟩ := hQ547
      have N547 := Fr.app N546 N547q
      show own_At p e below s _ _ _ T547 m 296 _ [(.ref b535)]
      refine own_aload X547 hx (hb hby at_296) rfl rfl ?_
      refine own_acmp X547 hx 303 true (hb hby at_298) rfl rfl (decide_eq_true rfl) (by decide) (by decide) ?_
      refine own_iconst X547 hx (1 : Int32) (hb hby at_303) rfl ?_
      refine own_retN X547 hx hlk hret (by simp) (by decide) (hb hby at_304) (by decide) (by decide) ?_
      try rw [e547]
      exact ⟨rfl, N547⟩
theorem own_m3 (p1 : Int32) : (((p1.toUInt32 >>> ((1 : Int32) &&& 31).toUInt32).toInt32) % (3 : Int32)) = (0 : Int32) ∨ (((p1.toUInt32 >>> ((1 : Int32) &&& 31).toUInt32).toInt32) % (3 : Int32)) = (1 : Int32) ∨ (((p1.toUInt32 >>> ((1 : Int32) &&& 31).toUInt32).toInt32) % (3 : Int32)) = (2 : Int32) := by
  have h1 := c_iushr p1 1 1 (by decide) (by decide)
  have h0 := rng32 p1
  have h2 := (c_irem ((p1.toUInt32 >>> ((1 : Int32) &&& 31).toUInt32).toInt32) 3 3 (by decide)).1
  simp only [← Int32.toInt_inj]
  have e0 : (0 : Int32).toInt = 0 := by decide
  have e1 : (1 : Int32).toInt = 1 := by decide
  have e2 : (2 : Int32).toInt = 2 := by decide
  rw [e0, e1, e2]
  omega
theorem pd_9 : parseMethodDescriptor "(ZJ)J" = some ⟨[.boolean, .long], some .long⟩ := by decide +kernel
theorem pd_10 : parseMethodDescriptor "(Lcom/example/kurslot/kurslot/engine/Side;)V" = some ⟨[(.object "com/example/kurslot/kurslot/engine/Side")], none⟩ := by decide +kernel
set_option maxRecDepth 65536 in
set_option maxHeartbeats 40000000 in
theorem rm0 (l : Launch) (Z : State) (a0 : Array Value) (hw : ∀ d ∈ tables_1, d.before a0 Z = true) (ws : List Jvm.Cond) (a_Side_SELL a_Side_BUY : Addr) (p1 : Int32) (j1 : Int64) (j2 : Int64) (j3 : Int64) (h0 : Heap) (n0 : Nat) (Z0 : n0 ≤ h0.size) (S_Side_SELL : Sta Z h0 "com/example/kurslot/kurslot/engine/Side" "SELL" "Lcom/example/kurslot/kurslot/engine/Side;" (.ref a_Side_SELL)) (E_Side_SELL : Exa Z h0 a_Side_SELL "com/example/kurslot/kurslot/engine/Side") (S_Side_BUY : Sta Z h0 "com/example/kurslot/kurslot/engine/Side" "BUY" "Lcom/example/kurslot/kurslot/engine/Side;" (.ref a_Side_BUY)) (E_Side_BUY : Exa Z h0 a_Side_BUY "com/example/kurslot/kurslot/engine/Side") (F_Side_SELL_ordinal : Fld Z h0 a_Side_SELL "java/lang/Enum" "ordinal" "I" (.int (1 : Int32))) (F_Side_BUY_ordinal : Fld Z h0 a_Side_BUY "java/lang/Enum" "ordinal" "I" (.int (0 : Int32))) :
    own_Met l x code maxLocals ret ws room_1 Z #[(.int p1), (.long j1), (.long j2), (.long j3)] h0 (fun v h L => v = some (.int 1) ∧ Fr n0 L) := by
  refine own_body (plainFor_of_name pn_0) ?_
  intro p e s m below meth c s₁ X0 hx hby hml hown hnm hret hlk hZ e0
  replace hown : s.vm.findClass "com/example/kurslot/kurslot/engine/PriceLadderLevelPinLaw" = some m.cls := hown
  replace hml : c.maxLocals = 22 := hml
  replace hret : meth.sig.returnType = (some .boolean) := hret
  have N0 := Fr.nil n0
  have ef : entryFrame m #[(.int p1), (.long j1), (.long j2), (.long j3)] maxLocals = mkF m 0 #[.val (.int p1), .val (.long j1), .second, .val (.long j2), .second, .val (.long j3), .second, .unset, .unset, .unset, .unset, .unset, .unset, .unset, .unset, .unset, .unset, .unset, .unset, .unset, .unset, .unset] [] := by first | (simp [entryFrame, mkF, argsToLocals, Value.category, maxLocals]; done) | rfl
  refine own_step (S' := (s₁.setTop (mkF m 0 #[.val (.int p1), .val (.long j1), .second, .val (.long j2), .second, .val (.long j3), .second, .unset, .unset, .unset, .unset, .unset, .unset, .unset, .unset, .unset, .unset, .unset, .unset, .unset, .unset, .unset] []))) (fun _ k => castTop ef k) ?_
  have hsb : ¬ a_Side_SELL = a_Side_BUY := Fld.ne F_Side_SELL_ordinal F_Side_BUY_ordinal (by decide)
  refine own_iloadN X0 hx (hb hby at_0) rfl ?_
  refine own_iconst X0 hx (1 : Int32) (hb hby at_1) rfl ?_
  refine own_iand X0 hx (hb hby at_2) ?_
  by_cases hc548 : (p1 &&& (1 : Int32)) = (0 : Int32)
  · refine own_ifYes X0 hx 10 (hb hby at_3) (teq hc548).1 (by decide) (by decide) ?_
    refine own_iconst X0 hx (0 : Int32) (hb hby at_10) rfl ?_
    refine own_istore (l' := #[.val (.int p1), .val (.long j1), .second, .val (.long j2), .second, .val (.long j3), .second, .val (.int (0 : Int32)), .unset, .unset, .unset, .unset, .unset, .unset, .unset, .unset, .unset, .unset, .unset, .unset, .unset, .unset]) X0 hx (hb hby at_11) rfl ?_
    refine own_iloadN X0 hx (hb hby at_13) rfl ?_
    refine own_iconst X0 hx (1 : Int32) (hb hby at_14) rfl ?_
    refine own_iushr X0 hx (hb hby at_15) ?_
    refine own_iconst X0 hx (3 : Int32) (hb hby at_16) rfl ?_
    refine own_irem X0 hx (hb hby at_17) (by decide) ?_
    rcases own_m3 p1 with hr549 | hr549 | hr549
    · rw [hr549]
      refine own_iconst X0 hx (1 : Int32) (hb hby at_18) rfl ?_
      refine own_iadd X0 hx (hb hby at_19) ?_
      rw [show ((0 : Int32) + (1 : Int32)) = (1 : Int32) from by decide]
      refine own_istore (l' := #[.val (.int p1), .val (.long j1), .second, .val (.long j2), .second, .val (.long j3), .second, .val (.int (0 : Int32)), .val (.int (1 : Int32)), .unset, .unset, .unset, .unset, .unset, .unset, .unset, .unset, .unset, .unset, .unset, .unset, .unset]) X0 hx (hb hby at_20) rfl ?_
      refine own_iload X0 hx (hb hby at_22) rfl ?_
      refine own_lloadN X0 hx (hb hby at_24) rfl ?_
      refine own_cStat (W := 0) (rest := []) X0 hx hZ [(.int (0 : Int32)), (.long j1)] hown (hw _ (List.mem_of_getElem? (i := 0) rfl)) (hw _ (List.mem_of_getElem? (i := 1) rfl)) (by decide) (hw _ (List.mem_of_getElem? (i := 3) rfl)) (hw _ (List.mem_of_getElem? (i := 2) rfl)) e0 (rmFix_0 l Z a0 hw [] j1 h0 n0 Z0) (by rw [hml]; rfl) (lenOf pd_9 rfl) rfl (Nat.le_of_eq rfl) (hb hby at_25) (by decide) (by decide) (by decide) (by decide) fun v550 T550 L550 X550 hQ550 => ?_
      obtain ⟨q550, rfl, N550q, e550, hm550⟩ := hQ550
      have N550 := Fr.app N0 N550q
      show own_At p e below s _ _ _ T550 m 28 _ [(.long q550)]
      refine own_lstore (l' := #[.val (.int p1), .val (.long j1), .second, .val (.long j2), .second, .val (.long j3), .second, .val (.int (0 : Int32)), .val (.int (1 : Int32)), .val (.long q550), .second, .unset, .unset, .unset, .unset, .unset, .unset, .unset, .unset, .unset, .unset, .unset]) X550 hx (hb hby at_28) rfl ?_
      refine own_iload X550 hx (hb hby at_30) rfl ?_
      refine own_lloadN X550 hx (hb hby at_32) rfl ?_
      refine own_cStat (W := 0) (rest := []) X550 hx hZ [(.int (0 : Int32)), (.long j2)] hown (hw _ (List.mem_of_getElem? (i := 0) rfl)) (hw _ (List.mem_of_getElem? (i := 1) rfl)) (by decide) (hw _ (List.mem_of_getElem? (i := 3) rfl)) (hw _ (List.mem_of_getElem? (i := 2) rfl)) e550 (rmFix_0 l Z a0 hw [] j2 h0 n0 Z0) (by rw [hml]; rfl) (lenOf pd_9 rfl) rfl (Nat.le_of_eq rfl) (hb hby at_33) (by decide) (by decide) (by decide) (by decide) fun v551 T551 L551 X551 hQ551 => ?_
      obtain ⟨q551, rfl, N551q, e551, hm551⟩ := hQ551
      have N551 := Fr.app N550 N551q
      show own_At p e below s _ _ _ T551 m 36 _ [(.long q551)]
      refine own_lstore (l' := #[.val (.int p1), .val (.long j1), .second, .val (.long j2), .second, .val (.long j3), .second, .val (.int (0 : Int32)), .val (.int (1 : Int32)), .val (.long q550), .second, .val (.long q551), .second, .unset, .unset, .unset, .unset, .unset, .unset, .unset, .unset, .unset]) X551 hx (hb hby at_36) rfl ?_
      refine own_iload X551 hx (hb hby at_38) rfl ?_
      refine own_lload X551 hx (hb hby at_40) rfl ?_
      refine own_cStat (W := 0) (rest := []) X551 hx hZ [(.int (0 : Int32)), (.long j3)] hown (hw _ (List.mem_of_getElem? (i := 0) rfl)) (hw _ (List.mem_of_getElem? (i := 1) rfl)) (by decide) (hw _ (List.mem_of_getElem? (i := 3) rfl)) (hw _ (List.mem_of_getElem? (i := 2) rfl)) e551 (rmFix_0 l Z a0 hw [] j3 h0 n0 Z0) (by rw [hml]; rfl) (lenOf pd_9 rfl) rfl (Nat.le_of_eq rfl) (hb hby at_42) (by decide) (by decide) (by decide) (by decide) fun v552 T552 L552 X552 hQ552 => ?_
      obtain ⟨q552, rfl, N552q, e552, hm552⟩ := hQ552
      have N552 := Fr.app N551 N552q
      show own_At p e below s _ _ _ T552 m 45 _ [(.long q552)]
      refine own_lstore (l' := #[.val (.int p1), .val (.long j1), .second, .val (.long j2), .second, .val (.long j3), .second, .val (.int (0 : Int32)), .val (.int (1 : Int32)), .val (.long q550), .second, .val (.long q551), .second, .val (.long q552), .second, .unset, .unset, .unset, .unset, .unset, .unset, .unset]) X552 hx (hb hby at_45) rfl ?_
      refine own_newO X552 hx hZ hown (hw _ (List.mem_of_getElem? (i := 5) rfl)) (hw _ (List.mem_of_getElem? (i := 6) rfl)) (hw _ (List.mem_of_getElem? (i := 7) rfl)) e552 (hb hby at_47) (by decide) (by decide) fun T553 h553 b553 g553 X553 e553 E553 A553 D553 => ?_
      have g_b553 : n0 ≤ b553 := Nat.le_trans Z0 (Nat.le_of_eq g553.symm)
      have szo_b553 : h0.size ≤ b553 := Nat.le_trans (Nat.le_refl h0.size) (Nat.le_of_eq g553.symm)
      have F_ranks_b553 : Fld Z h553 b553 "com/example/kurslot/kurslot/engine/PriceLadder" "ranks" "[J" .null := D553 (Or.inl (hw _ (List.mem_of_getElem? (i := 19) rfl))) (ty := (.array .long)) (by decide)
      have F_levels_b553 : Fld Z h553 b553 "com/example/kurslot/kurslot/engine/PriceLadder" "levels" "[Lcom/example/kurslot/kurslot/engine/PriceLevel;" .null := D553 (Or.inl (hw _ (List.mem_of_getElem? (i := 23) rfl))) (ty := (.array (.object "com/example/kurslot/kurslot/engine/PriceLevel"))) (by decide)
      have F_side_b553 : Fld Z h553 b553 "com/example/kurslot/kurslot/engine/PriceLadder" "side" "Lcom/example/kurslot/kurslot/engine/Side;" .null := D553 (Or.inr (hw _ (List.mem_of_getElem? (i := 25) rfl))) (ty := (.object "com/example/kurslot/kurslot/engine/Side")) (by decide)
      have F_size_b553 : Fld Z h553 b553 "com/example/kurslot/kurslot/engine/PriceLadder" "size" "I" (.int (0 : Int32)) := D553 (Or.inl (hw _ (List.mem_of_getElem? (i := 38) rfl))) (ty := .int) (by decide)
      refine own_dup X553 hx (hb hby at_50) rfl ?_
      refine own_iload X553 hx (hb hby at_51) rfl ?_
      refine own_ifYes X553 hx 62 (hb hby at_53) (teq (by decide : (0 : Int32) = (0 : Int32))).1 (by decide) (by decide) ?_
      refine own_getS X553 hx hZ hown (host := "") (Or.inl (hw _ (List.mem_of_getElem? (i := 8) rfl))) Via.refl e553 (Sta.ext E553 S_Side_SELL) (hb hby at_62) fun T554 X554 e554 => ?_
      refine own_cSpec (b := b553) (W := 1) (rest := [(.ref b553)]) X554 hx hZ [(.ref a_Side_SELL)] rfl hown (hw _ (List.mem_of_getElem? (i := 11) rfl)) (hw _ (List.mem_of_getElem? (i := 12) rfl)) (by decide) (hw _ (List.mem_of_getElem? (i := 13) rfl)) (hw _ (List.mem_of_getElem? (i := 7) rfl)) e554 (rmIni l Z a0 hw [] b553 a_Side_SELL h553 n0 (Nat.le_trans Z0 E553.1) A553 F_ranks_b553 F_levels_b553 F_size_b553 F_side_b553 g_b553) (by rw [hml]; rfl) (lenOf pd_10 rfl) rfl (Nat.le_of_eq rfl) (hb hby at_65) (by decide) (by decide) (by decide) (by decide) fun v555 T555 L555 X555 hQ555 => ?_
      obtain ⟨rfl, N555q, K555, ra, la, kr, kl, le_ra, le_la, g_ra, g_la, LD555⟩ := hQ555
      have N555 := Fr.app N552 N555q
      show own_At p e below s _ _ _ T555 m 68 _ [(.ref b553)]
      exact rmT_1 hw (0 : Int32) p1 j1 j2 j3 q550 q551 q552 (-q550) (-q551) (-q552) b553 ra la a_Side_SELL a_Side_BUY kr kl _ n0 (Nat.le_trans (Nat.le_trans Z0 E553.1) K555.1) X555 hx hby hml hown hret hlk hZ rfl N555 LD555 (own_staKeep (Sta.ext E553 S_Side_BUY) K555 (allS (own_exaStat A553) all0)) (Or.inl ⟨rfl, rfl, hm550⟩) (Or.inl ⟨rfl, rfl, hm551⟩) (Or.inl ⟨rfl, rfl, hm552⟩) (Or.inr ⟨hsb, rfl⟩) (Or.inr ⟨hsb, rfl⟩) (Or.inr ⟨hsb, rfl⟩) g_b553 g_ra g_la
    · rw [hr549]
      refine own_iconst X0 hx (1 : Int32) (hb hby at_18) rfl ?_
      refine own_iadd X0 hx (hb hby at_19) ?_
      rw [show ((1 : Int32) + (1 : Int32)) = (2 : Int32) from by decide]
      refine own_istore (l' := #[.val (.int p1), .val (.long j1), .second, .val (.long j2), .second, .val (.long j3), .second, .val (.int (0 : Int32)), .val (.int (2 : Int32)), .unset, .unset, .unset, .unset, .unset, .unset, .unset, .unset, .unset, .unset, .unset, .unset, .unset]) X0 hx (hb hby at_20) rfl ?_
      refine own_iload X0 hx (hb hby at_22) rfl ?_
      refine own_lloadN X0 hx (hb hby at_24) rfl ?_
      refine own_cStat (W := 0) (rest := []) X0 hx hZ [(.int (0 : Int32)), (.long j1)] hown (hw _ (List.mem_of_getElem? (i := 0) rfl)) (hw _ (List.mem_of_getElem? (i := 1) rfl)) (by decide) (hw _ (List.mem_of_getElem? (i := 3) rfl)) (hw _ (List.mem_of_getElem? (i := 2) rfl)) e0 (rmFix_0 l Z a0 hw [] j1 h0 n0 Z0) (by rw [hml]; rfl) (lenOf pd_9 rfl) rfl (Nat.le_of_eq rfl) (hb hby at_25) (by decide) (by decide) (by decide) (by decide) fun v556 T556 L556 X556 hQ556 => ?_
      obtain ⟨q556, rfl, N556q, e556, hm556⟩ := hQ556
      have N556 := Fr.app N0 N556q
      show own_At p e below s _ _ _ T556 m 28 _ [(.long q556)]
      refine own_lstore (l' := #[.val (.int p1), .val (.long j1), .second, .val (.long j2), .second, .val (.long j3), .second, .val (.int (0 : Int32)), .val (.int (2 : Int32)), .val (.long q556), .second, .unset, .unset, .unset, .unset, .unset, .unset, .unset, .unset, .unset, .unset, .unset]) X556 hx (hb hby at_28) rfl ?_
      refine own_iload X556 hx (hb hby at_30) rfl ?_
      refine own_lloadN X556 hx (hb hby at_32) rfl ?_
      refine own_cStat (W := 0) (rest := []) X556 hx hZ [(.int (0 : Int32)), (.long j2)] hown (hw _ (List.mem_of_getElem? (i := 0) rfl)) (hw _ (List.mem_of_getElem? (i := 1) rfl)) (by decide) (hw _ (List.mem_of_getElem? (i := 3) rfl)) (hw _ (List.mem_of_getElem? (i := 2) rfl)) e556 (rmFix_0 l Z a0 hw [] j2 h0 n0 Z0) (by rw [hml]; rfl) (lenOf pd_9 rfl) rfl (Nat.le_of_eq rfl) (hb hby at_33) (by decide) (by decide) (by decide) (by decide) fun v557 T557 L557 X557 hQ557 => ?_
      obtain ⟨q557, rfl, N557q, e557, hm557⟩ := hQ557
      have N557 := Fr.app N556 N557q
      show own_At p e below s _ _ _ T557 m 36 _ [(.long q557)]
      refine own_lstore (l' := #[.val (.int p1), .val (.long j1), .second, .val (.long j2), .second, .val (.long j3), .second, .val (.int (0 : Int32)), .val (.int (2 : Int32)), .val (.long q556), .second, .val (.long q557), .second, .unset, .unset, .unset, .unset, .unset, .unset, .unset, .unset, .unset]) X557 hx (hb hby at_36) rfl ?_
      refine own_iload X557 hx (hb hby at_38) rfl ?_
      refine own_lload X557 hx (hb hby at_40) rfl ?_
      refine own_cStat (W := 0) (rest := []) X557 hx hZ [(.int (0 : Int32)), (.long j3)] hown (hw _ (List.mem_of_getElem? (i := 0) rfl)) (hw _ (List.mem_of_getElem? (i := 1) rfl)) (by decide) (hw _ (List.mem_of_getElem? (i := 3) rfl)) (hw _ (List.mem_of_getElem? (i := 2) rfl)) e557 (rmFix_0 l Z a0 hw [] j3 h0 n0 Z0) (by rw [hml]; rfl) (lenOf pd_9 rfl) rfl (Nat.le_of_eq rfl) (hb hby at_42) (by decide) (by decide) (by decide) (by decide) fun v558 T558 L558 X558 hQ558 => ?_
      obtain ⟨q558, rfl, N558q, e558, hm558⟩ := hQ558
      have N558 := Fr.app N557 N558q
      show own_At p e below s _ _ _ T558 m 45 _ [(.long q558)]
      refine own_lstore (l' := #[.val (.int p1), .val (.long j1), .second, .val (.long j2), .second, .val (.long j3), .second, .val (.int (0 : Int32)), .val (.int (2 : Int32)), .val (.long q556), .second, .val (.long q557), .second, .val (.long q558), .second, .unset, .unset, .unset, .unset, .unset, .unset, .unset]) X558 hx (hb hby at_45) rfl ?_
      refine own_newO X558 hx hZ hown (hw _ (List.mem_of_getElem? (i := 5) rfl)) (hw _ (List.mem_of_getElem? (i := 6) rfl)) (hw _ (List.mem_of_getElem? (i := 7) rfl)) e558 (hb hby at_47) (by decide) (by decide) fun T559 h559 b559 g559 X559 e559 E559 A559 D559 => ?_
      have g_b559 : n0 ≤ b559 := Nat.le_trans Z0 (Nat.le_of_eq g559.symm)
      have szo_b559 : h0.size ≤ b559 := Nat.le_trans (Nat.le_refl h0.size) (Nat.le_of_eq g559.symm)
      have F_ranks_b559 : Fld Z h559 b559 "com/example/kurslot/kurslot/engine/PriceLadder" "ranks" "[J" .null := D559 (Or.inl (hw _ (List.mem_of_getElem? (i := 19) rfl))) (ty := (.array .long)) (by decide)
      have F_levels_b559 : Fld Z h559 b559 "com/example/kurslot/kurslot/engine/PriceLadder" "levels" "[Lcom/example/kurslot/kurslot/engine/PriceLevel;" .null := D559 (Or.inl (hw _ (List.mem_of_getElem? (i := 23) rfl))) (ty := (.array (.object "com/example/kurslot/kurslot/engine/PriceLevel"))) (by decide)
      have F_side_b559 : Fld Z h559 b559 "com/example/kurslot/kurslot/engine/PriceLadder" "side" "Lcom/example/kurslot/kurslot/engine/Side;" .null := D559 (Or.inr (hw _ (List.mem_of_getElem? (i := 25) rfl))) (ty := (.object "com/example/kurslot/kurslot/engine/Side")) (by decide)
      have F_size_b559 : Fld Z h559 b559 "com/example/kurslot/kurslot/engine/PriceLadder" "size" "I" (.int (0 : Int32)) := D559 (Or.inl (hw _ (List.mem_of_getElem? (i := 38) rfl))) (ty := .int) (by decide)
      refine own_dup X559 hx (hb hby at_50) rfl ?_
      refine own_iload X559 hx (hb hby at_51) rfl ?_
      refine own_ifYes X559 hx 62 (hb hby at_53) (teq (by decide : (0 : Int32) = (0 : Int32))).1 (by decide) (by decide) ?_
      refine own_getS X559 hx hZ hown (host := "") (Or.inl (hw _ (List.mem_of_getElem? (i := 8) rfl))) Via.refl e559 (Sta.ext E559 S_Side_SELL) (hb hby at_62) fun T560 X560 e560 => ?_
      refine own_cSpec (b := b559) (W := 1) (rest := [(.ref b559)]) X560 hx hZ [(.ref a_Side_SELL)] rfl hown (hw _ (List.mem_of_getElem? (i := 11) rfl)) (hw _ (List.mem_of_getElem? (i := 12) rfl)) (by decide) (hw _ (List.mem_of_getElem? (i := 13) rfl)) (hw _ (List.mem_of_getElem? (i := 7) rfl)) e560 (rmIni l Z a0 hw [] b559 a_Side_SELL h559 n0 (Nat.le_trans Z0 E559.1) A559 F_ranks_b559 F_levels_b559 F_size_b559 F_side_b559 g_b559) (by rw [hml]; rfl) (lenOf pd_10 rfl) rfl (Nat.le_of_eq rfl) (hb hby at_65) (by decide) (by decide) (by decide) (by decide) fun v561 T561 L561 X561 hQ561 => ?_
      obtain ⟨rfl, N561q, K561, ra, la, kr, kl, le_ra, le_la, g_ra, g_la, LD561⟩ := hQ561
      have N561 := Fr.app N558 N561q
      show own_At p e below s _ _ _ T561 m 68 _ [(.ref b559)]
      exact rmT_2 hw (0 : Int32) p1 j1 j2 j3 q556 q557 q558 (-q556) (-q557) (-q558) b559 ra la a_Side_SELL a_Side_BUY kr kl _ n0 (Nat.le_trans (Nat.le_trans Z0 E559.1) K561.1) X561 hx hby hml hown hret hlk hZ rfl N561 LD561 (own_staKeep (Sta.ext E559 S_Side_BUY) K561 (allS (own_exaStat A559) all0)) (Or.inl ⟨rfl, rfl, hm556⟩) (Or.inl ⟨rfl, rfl, hm557⟩) (Or.inl ⟨rfl, rfl, hm558⟩) (Or.inr ⟨hsb, rfl⟩) (Or.inr ⟨hsb, rfl⟩) (Or.inr ⟨hsb, rfl⟩) g_b559 g_ra g_la
    · rw [hr549]
      refine own_iconst X0 hx (1 : Int32) (hb hby at_18) rfl ?_
      refine own_iadd X0 hx (hb hby at_19) ?_
      rw [show ((2 : Int32) + (1 : Int32)) = (3 : Int32) from by decide]
      refine own_istore (l' := #[.val (.int p1), .val (.long j1), .second, .val (.long j2), .second, .val (.long j3), .second, .val (.int (0 : Int32)), .val (.int (3 : Int32)), .unset, .unset, .unset, .unset, .unset, .unset, .unset, .unset, .unset, .unset, .unset, .unset, .unset]) X0 hx (hb hby at_20) rfl ?_
      refine own_iload X0 hx (hb hby at_22) rfl ?_
      refine own_lloadN X0 hx (hb hby at_24) rfl ?_
      refine own_cStat (W := 0) (rest := []) X0 hx hZ [(.int (0 : Int32)), (.long j1)] hown (hw _ (List.mem_of_getElem? (i := 0) rfl)) (hw _ (List.mem_of_getElem? (i := 1) rfl)) (by decide) (hw _ (List.mem_of_getElem? (i := 3) rfl)) (hw _ (List.mem_of_getElem? (i := 2) rfl)) e0 (rmFix_0 l Z a0 hw [] j1 h0 n0 Z0) (by rw [hml]; rfl) (lenOf pd_9 rfl) rfl (Nat.le_of_eq rfl) (hb hby at_25) (by decide) (by decide) (by decide) (by decide) fun v562 T562 L562 X562 hQ562 => ?_
      obtain ⟨q562, rfl, N562q, e562, hm562⟩ := hQ562
      have N562 := Fr.app N0 N562q
      show own_At p e below s _ _ _ T562 m 28 _ [(.long q562)]
      refine own_lstore (l' := #[.val (.int p1), .val (.long j1), .second, .val (.long j2), .second, .val (.long j3), .second, .val (.int (0 : Int32)), .val (.int (3 : Int32)), .val (.long q562), .second, .unset, .unset, .unset, .unset, .unset, .unset, .unset, .unset, .unset, .unset, .unset]) X562 hx (hb hby at_28) rfl ?_
      refine own_iload X562 hx (hb hby at_30) rfl ?_
      refine own_lloadN X562 hx (hb hby at_32) rfl ?_
      refine own_cStat (W := 0) (rest := []) X562 hx hZ [(.int (0 : Int32)), (.long j2)] hown (hw _ (List.mem_of_getElem? (i := 0) rfl)) (hw _ (List.mem_of_getElem? (i := 1) rfl)) (by decide) (hw _ (List.mem_of_getElem? (i := 3) rfl)) (hw _ (List.mem_of_getElem? (i := 2) rfl)) e562 (rmFix_0 l Z a0 hw [] j2 h0 n0 Z0) (by rw [hml]; rfl) (lenOf pd_9 rfl) rfl (Nat.le_of_eq rfl) (hb hby at_33) (by decide) (by decide) (by decide) (by decide) fun v563 T563 L563 X563 hQ563 => ?_
      obtain ⟨q563, rfl, N563q, e563, hm563⟩ := hQ563
      have N563 := Fr.app N562 N563q
      show own_At p e below s _ _ _ T563 m 36 _ [(.long q563)]
      refine own_lstore (l' := #[.val (.int p1), .val (.long j1), .second, .val (.long j2), .second, .val (.long j3), .second, .val (.int (0 : Int32)), .val (.int (3 : Int32)), .val (.long q562), .second, .val (.long q563), .second, .unset, .unset, .unset, .unset, .unset, .unset, .unset, .unset, .unset]) X563 hx (hb hby at_36) rfl ?_
      refine own_iload X563 hx (hb hby at_38) rfl ?_
      refine own_lload X563 hx (hb hby at_40) rfl ?_
      refine own_cStat (W := 0) (rest := []) X563 hx hZ [(.int (0 : Int32)), (.long j3)] hown (hw _ (List.mem_of_getElem? (i := 0) rfl)) (hw _ (List.mem_of_getElem? (i := 1) rfl)) (by decide) (hw _ (List.mem_of_getElem? (i := 3) rfl)) (hw _ (List.mem_of_getElem? (i := 2) rfl)) e563 (rmFix_0 l Z a0 hw [] j3 h0 n0 Z0) (by rw [hml]; rfl) (lenOf pd_9 rfl) rfl (Nat.le_of_eq rfl) (hb hby at_42) (by decide) (by decide) (by decide) (by decide) fun v564 T564 L564 X564 hQ564 => ?_
      obtain ⟨q564, rfl, N564q, e564, hm564⟩ := hQ564
      have N564 := Fr.app N563 N564q
      show own_At p e below s _ _ _ T564 m 45 _ [(.long q564)]
      refine own_lstore (l' := #[.val (.int p1), .val (.long j1), .second, .val (.long j2), .second, .val (.long j3), .second, .val (.int (0 : Int32)), .val (.int (3 : Int32)), .val (.long q562), .second, .val (.long q563), .second, .val (.long q564), .second, .unset, .unset, .unset, .unset, .unset, .unset, .unset]) X564 hx (hb hby at_45) rfl ?_
      refine own_newO X564 hx hZ hown (hw _ (List.mem_of_getElem? (i := 5) rfl)) (hw _ (List.mem_of_getElem? (i := 6) rfl)) (hw _ (List.mem_of_getElem? (i := 7) rfl)) e564 (hb hby at_47) (by decide) (by decide) fun T565 h565 b565 g565 X565 e565 E565 A565 D565 => ?_
      have g_b565 : n0 ≤ b565 := Nat.le_trans Z0 (Nat.le_of_eq g565.symm)
      have szo_b565 : h0.size ≤ b565 := Nat.le_trans (Nat.le_refl h0.size) (Nat.le_of_eq g565.symm)
      have F_ranks_b565 : Fld Z h565 b565 "com/example/kurslot/kurslot/engine/PriceLadder" "ranks" "[J" .null := D565 (Or.inl (hw _ (List.mem_of_getElem? (i := 19) rfl))) (ty := (.array .long)) (by decide)
      have F_levels_b565 : Fld Z h565 b565 "com/example/kurslot/kurslot/engine/PriceLadder" "levels" "[Lcom/example/kurslot/kurslot/engine/PriceLevel;" .null := D565 (Or.inl (hw _ (List.mem_of_getElem? (i := 23) rfl))) (ty := (.array (.object "com/example/kurslot/kurslot/engine/PriceLevel"))) (by decide)
      have F_side_b565 : Fld Z h565 b565 "com/example/kurslot/kurslot/engine/PriceLadder" "side" "Lcom/example/kurslot/kurslot/engine/Side;" .null := D565 (Or.inr (hw _ (List.mem_of_getElem? (i := 25) rfl))) (ty := (.object "com/example/kurslot/kurslot/engine/Side")) (by decide)
      have F_size_b565 : Fld Z h565 b565 "com/example/kurslot/kurslot/engine/PriceLadder" "size" "I" (.int (0 : Int32)) := D565 (Or.inl (hw _ (List.mem_of_getElem? (i := 38) rfl))) (ty := .int) (by decide)
      refine own_dup X565 hx (hb hby at_50) rfl ?_
      refine own_iload X565 hx (hb hby at_51) rfl ?_
      refine own_ifYes X565 hx 62 (hb hby at_53) (teq (by decide : (0 : Int32) = (0 : Int32))).1 (by decide) (by decide) ?_
      refine own_getS X565 hx hZ hown (host := "") (Or.inl (hw _ (List.mem_of_getElem? (i := 8) rfl))) Via.refl e565 (Sta.ext E565 S_Side_SELL) (hb hby at_62) fun T566 X566 e566 => ?_
      refine own_cSpec (b := b565) (W := 1) (rest := [(.ref b565)]) X566 hx hZ [(.ref a_Side_SELL)] rfl hown (hw _ (List.mem_of_getElem? (i := 11) rfl)) (hw _ (List.mem_of_getElem? (i := 12) rfl)) (by decide) (hw _ (List.mem_of_getElem? (i := 13) rfl)) (hw _ (List.mem_of_getElem? (i := 7) rfl)) e566 (rmIni l Z a0 hw [] b565 a_Side_SELL h565 n0 (Nat.le_trans Z0 E565.1) A565 F_ranks_b565 F_levels_b565 F_size_b565 F_side_b565 g_b565) (by rw [hml]; rfl) (lenOf pd_10 rfl) rfl (Nat.le_of_eq rfl) (hb hby at_65) (by decide) (by decide) (by decide) (by decide) fun v567 T567 L567 X567 hQ567 => ?_
      obtain ⟨rfl, N567q, K567, ra, la, kr, kl, le_ra, le_la, g_ra, g_la, LD567⟩ := hQ567
      have N567 := Fr.app N564 N567q
      show own_At p e below s _ _ _ T567 m 68 _ [(.ref b565)]
      exact rmT_3 hw (0 : Int32) p1 j1 j2 j3 q562 q563 q564 (-q562) (-q563) (-q564) b565 ra la a_Side_SELL a_Side_BUY kr kl _ n0 (Nat.le_trans (Nat.le_trans Z0 E565.1) K567.1) X567 hx hby hml hown hret hlk hZ rfl N567 LD567 (own_staKeep (Sta.ext E565 S_Side_BUY) K567 (allS (own_exaStat A565) all0)) (Or.inl ⟨rfl, rfl, hm562⟩) (Or.inl ⟨rfl, rfl, hm563⟩) (Or.inl ⟨rfl, rfl, hm564⟩) (Or.inr ⟨hsb, rfl⟩) (Or.inr ⟨hsb, rfl⟩) (Or.inr ⟨hsb, rfl⟩) g_b565 g_ra g_la
  · refine own_ifNo X0 hx (hb hby at_3) (feq hc548).1 ?_
    refine own_iconst X0 hx (1 : Int32) (hb hby at_6) rfl ?_
    refine own_goto X0 hx 11 (hb hby at_7) (by decide) (by decide) ?_
    refine own_istore (l' := #[.val (.int p1), .val (.long j1), .second, .val (.long j2), .second, .val (.long j3), .second, .val (.int (1 : Int32)), .unset, .unset, .unset, .unset, .unset, .unset, .unset, .unset, .unset, .unset, .unset, .unset, .unset, .unset]) X0 hx (hb hby at_11) rfl ?_
    refine own_iloadN X0 hx (hb hby at_13) rfl ?_
    refine own_iconst X0 hx (1 : Int32) (hb hby at_14) rfl ?_
    refine own_iushr X0 hx (hb hby at_15) ?_
    refine own_iconst X0 hx (3 : Int32) (hb hby at_16) rfl ?_
    refine own_irem X0 hx (hb hby at_17) (by decide) ?_
    rcases own_m3 p1 with hr568 | hr568 | hr568
    · rw [hr568]
      refine own_iconst X0 hx (1 : Int32) (hb hby at_18) rfl ?_
      refine own_iadd X0 hx (hb hby at_19) ?_
      rw [show ((0 : Int32) + (1 : Int32)) = (1 : Int32) from by decide]
      refine own_istore (l' := #[.val (.int p1), .val (.long j1), .second, .val (.long j2), .second, .val (.long j3), .second, .val (.int (1 : Int32)), .val (.int (1 : Int32)), .unset, .unset, .unset, .unset, .unset, .unset, .unset, .unset, .unset, .unset, .unset, .unset, .unset]) X0 hx (hb hby at_20) rfl ?_
      refine own_iload X0 hx (hb hby at_22) rfl ?_
      refine own_lloadN X0 hx (hb hby at_24) rfl ?_
      refine own_cStat (W := 0) (rest := []) X0 hx hZ [(.int (1 : Int32)), (.long j1)] hown (hw _ (List.mem_of_getElem? (i := 0) rfl)) (hw _ (List.mem_of_getElem? (i := 1) rfl)) (by decide) (hw _ (List.mem_of_getElem? (i := 3) rfl)) (hw _ (List.mem_of_getElem? (i := 2) rfl)) e0 (rmFix_1 l Z a0 hw [] j1 h0 n0 Z0) (by rw [hml]; rfl) (lenOf pd_9 rfl) rfl (Nat.le_of_eq rfl) (hb hby at_25) (by decide) (by decide) (by decide) (by decide) fun v569 T569 L569 X569 hQ569 => ?_
      obtain ⟨q569, rfl, N569q, e569, hm569⟩ := hQ569
      have N569 := Fr.app N0 N569q
      show own_At p e below s _ _ _ T569 m 28 _ [(.long q569)]
      refine own_lstore (l' := #[.val (.int p1), .val (.long j1), .second, .val (.long j2), .second, .val (.long j3), .second, .val (.int (1 : Int32)), .val (.int (1 : Int32)), .val (.long q569), .second, .unset, .unset, .unset, .unset, .unset, .unset, .unset, .unset, .unset, .unset, .unset]) X569 hx (hb hby at_28) rfl ?_
      refine own_iload X569 hx (hb hby at_30) rfl ?_
      refine own_lloadN X569 hx (hb hby at_32) rfl ?_
      refine own_cStat (W := 0) (rest := []) X569 hx hZ [(.int (1 : Int32)), (.long j2)] hown (hw _ (List.mem_of_getElem? (i := 0) rfl)) (hw _ (List.mem_of_getElem? (i := 1) rfl)) (by decide) (hw _ (List.mem_of_getElem? (i := 3) rfl)) (hw _ (List.mem_of_getElem? (i := 2) rfl)) e569 (rmFix_1 l Z a0 hw [] j2 h0 n0 Z0) (by rw [hml]; rfl) (lenOf pd_9 rfl) rfl (Nat.le_of_eq rfl) (hb hby at_33) (by decide) (by decide) (by decide) (by decide) fun v570 T570 L570 X570 hQ570 => ?_
      obtain ⟨q570, rfl, N570q, e570, hm570⟩ := hQ570
      have N570 := Fr.app N569 N570q
      show own_At p e below s _ _ _ T570 m 36 _ [(.long q570)]
      refine own_lstore (l' := #[.val (.int p1), .val (.long j1), .second, .val (.long j2), .second, .val (.long j3), .second, .val (.int (1 : Int32)), .val (.int (1 : Int32)), .val (.long q569), .second, .val (.long q570), .second, .unset, .unset, .unset, .unset, .unset, .unset, .unset, .unset, .unset]) X570 hx (hb hby at_36) rfl ?_
      refine own_iload X570 hx (hb hby at_38) rfl ?_
      refine own_lload X570 hx (hb hby at_40) rfl ?_
      refine own_cStat (W := 0) (rest := []) X570 hx hZ [(.int (1 : Int32)), (.long j3)] hown (hw _ (List.mem_of_getElem? (i := 0) rfl)) (hw _ (List.mem_of_getElem? (i := 1) rfl)) (by decide) (hw _ (List.mem_of_getElem? (i := 3) rfl)) (hw _ (List.mem_of_getElem? (i := 2) rfl)) e570 (rmFix_1 l Z a0 hw [] j3 h0 n0 Z0) (by rw [hml]; rfl) (lenOf pd_9 rfl) rfl (Nat.le_of_eq rfl) (hb hby at_42) (by decide) (by decide) (by decide) (by decide) fun v571 T571 L571 X571 hQ571 => ?_
      obtain ⟨q571, rfl, N571q, e571, hm571⟩ := hQ571
      have N571 := Fr.app N570 N571q
      show own_At p e below s _ _ _ T571 m 45 _ [(.long q571)]
      refine own_lstore (l' := #[.val (.int p1), .val (.long j1), .second, .val (.long j2), .second, .val (.long j3), .second, .val (.int (1 : Int32)), .val (.int (1 : Int32)), .val (.long q569), .second, .val (.long q570), .second, .val (.long q571), .second, .unset, .unset, .unset, .unset, .unset, .unset, .unset]) X571 hx (hb hby at_45) rfl ?_
      refine own_newO X571 hx hZ hown (hw _ (List.mem_of_getElem? (i := 5) rfl)) (hw _ (List.mem_of_getElem? (i := 6) rfl)) (hw _ (List.mem_of_getElem? (i := 7) rfl)) e571 (hb hby at_47) (by decide) (by decide) fun T572 h572 b572 g572 X572 e572 E572 A572 D572 => ?_
      have g_b572 : n0 ≤ b572 := Nat.le_trans Z0 (Nat.le_of_eq g572.symm)
      have szo_b572 : h0.size ≤ b572 := Nat.le_trans (Nat.le_refl h0.size) (Nat.le_of_eq g572.symm)
      have F_ranks_b572 : Fld Z h572 b572 "com/example/kurslot/kurslot/engine/PriceLadder" "ranks" "[J" .null := D572 (Or.inl (hw _ (List.mem_of_getElem? (i := 19) rfl))) (ty := (.array .long)) (by decide)
      have F_levels_b572 : Fld Z h572 b572 "com/example/kurslot/kurslot/engine/PriceLadder" "levels" "[Lcom/example/kurslot/kurslot/engine/PriceLevel;" .null := D572 (Or.inl (hw _ (List.mem_of_getElem? (i := 23) rfl))) (ty := (.array (.object "com/example/kurslot/kurslot/engine/PriceLevel"))) (by decide)
      have F_side_b572 : Fld Z h572 b572 "com/example/kurslot/kurslot/engine/PriceLadder" "side" "Lcom/example/kurslot/kurslot/engine/Side;" .null := D572 (Or.inr (hw _ (List.mem_of_getElem? (i := 25) rfl))) (ty := (.object "com/example/kurslot/kurslot/engine/Side")) (by decide)
      have F_size_b572 : Fld Z h572 b572 "com/example/kurslot/kurslot/engine/PriceLadder" "size" "I" (.int (0 : Int32)) := D572 (Or.inl (hw _ (List.mem_of_getElem? (i := 38) rfl))) (ty := .int) (by decide)
      refine own_dup X572 hx (hb hby at_50) rfl ?_
      refine own_iload X572 hx (hb hby at_51) rfl ?_
      refine own_ifNo X572 hx (hb hby at_53) (feq (by decide : ¬ ((1 : Int32) = (0 : Int32)))).1 ?_
      refine own_getS X572 hx hZ hown (host := "") (Or.inl (hw _ (List.mem_of_getElem? (i := 76) rfl))) Via.refl e572 (Sta.ext E572 S_Side_BUY) (hb hby at_56) fun T573 X573 e573 => ?_
      refine own_goto X573 hx 65 (hb hby at_59) (by decide) (by decide) ?_
      refine own_cSpec (b := b572) (W := 1) (rest := [(.ref b572)]) X573 hx hZ [(.ref a_Side_BUY)] rfl hown (hw _ (List.mem_of_getElem? (i := 11) rfl)) (hw _ (List.mem_of_getElem? (i := 12) rfl)) (by decide) (hw _ (List.mem_of_getElem? (i := 13) rfl)) (hw _ (List.mem_of_getElem? (i := 7) rfl)) e573 (rmIni l Z a0 hw [] b572 a_Side_BUY h572 n0 (Nat.le_trans Z0 E572.1) A572 F_ranks_b572 F_levels_b572 F_size_b572 F_side_b572 g_b572) (by rw [hml]; rfl) (lenOf pd_10 rfl) rfl (Nat.le_of_eq rfl) (hb hby at_65) (by decide) (by decide) (by decide) (by decide) fun v574 T574 L574 X574 hQ574 => ?_
      obtain ⟨rfl, N574q, K574, ra, la, kr, kl, le_ra, le_la, g_ra, g_la, LD574⟩ := hQ574
      have N574 := Fr.app N571 N574q
      show own_At p e below s _ _ _ T574 m 68 _ [(.ref b572)]
      exact rmT_1 hw (1 : Int32) p1 j1 j2 j3 q569 q570 q571 q569 q570 q571 b572 ra la a_Side_BUY a_Side_BUY kr kl _ n0 (Nat.le_trans (Nat.le_trans Z0 E572.1) K574.1) X574 hx hby hml hown hret hlk hZ rfl N574 LD574 (own_staKeep (Sta.ext E572 S_Side_BUY) K574 (allS (own_exaStat A572) all0)) (Or.inr ⟨by decide, rfl⟩) (Or.inr ⟨by decide, rfl⟩) (Or.inr ⟨by decide, rfl⟩) (Or.inl ⟨rfl, rfl⟩) (Or.inl ⟨rfl, rfl⟩) (Or.inl ⟨rfl, rfl⟩) g_b572 g_ra g_la
    · rw [hr568]
      refine own_iconst X0 hx (1 : Int32) (hb hby at_18) rfl ?_
      refine own_iadd X0 hx (hb hby at_19) ?_
      rw [show ((1 : Int32) + (1 : Int32)) = (2 : Int32) from by decide]
      refine own_istore (l' := #[.val (.int p1), .val (.long j1), .second, .val (.long j2), .second, .val (.long j3), .second, .val (.int (1 : Int32)), .val (.int (2 : Int32)), .unset, .unset, .unset, .unset, .unset, .unset, .unset, .unset, .unset, .unset, .unset, .unset, .unset]) X0 hx (hb hby at_20) rfl ?_
      refine own_iload X0 hx (hb hby at_22) rfl ?_
      refine own_lloadN X0 hx (hb hby at_24) rfl ?_
      refine own_cStat (W := 0) (rest := []) X0 hx hZ [(.int (1 : Int32)), (.long j1)] hown (hw _ (List.mem_of_getElem? (i := 0) rfl)) (hw _ (List.mem_of_getElem? (i := 1) rfl)) (by decide) (hw _ (List.mem_of_getElem? (i := 3) rfl)) (hw _ (List.mem_of_getElem? (i := 2) rfl)) e0 (rmFix_1 l Z a0 hw [] j1 h0 n0 Z0) (by rw [hml]; rfl) (lenOf pd_9 rfl) rfl (Nat.le_of_eq rfl) (hb hby at_25) (by decide) (by decide) (by decide) (by decide) fun v575 T575 L575 X575 hQ575 => ?_
      obtain ⟨q575, rfl, N575q, e575, hm575⟩ := hQ575
      have N575 := Fr.app N0 N575q
      show own_At p e below s _ _ _ T575 m 28 _ [(.long q575)]
      refine own_lstore (l' := #[.val (.int p1), .val (.long j1), .second, .val (.long j2), .second, .val (.long j3), .second, .val (.int (1 : Int32)), .val (.int (2 : Int32)), .val (.long q575), .second, .unset, .unset, .unset, .unset, .unset, .unset, .unset, .unset, .unset, .unset, .unset]) X575 hx (hb hby at_28) rfl ?_
      refine own_iload X575 hx (hb hby at_30) rfl ?_
      refine own_lloadN X575 hx (hb hby at_32) rfl ?_
      refine own_cStat (W := 0) (rest := []) X575 hx hZ [(.int (1 : Int32)), (.long j2)] hown (hw _ (List.mem_of_getElem? (i := 0) rfl)) (hw _ (List.mem_of_getElem? (i := 1) rfl)) (by decide) (hw _ (List.mem_of_getElem? (i := 3) rfl)) (hw _ (List.mem_of_getElem? (i := 2) rfl)) e575 (rmFix_1 l Z a0 hw [] j2 h0 n0 Z0) (by rw [hml]; rfl) (lenOf pd_9 rfl) rfl (Nat.le_of_eq rfl) (hb hby at_33) (by decide) (by decide) (by decide) (by decide) fun v576 T576 L576 X576 hQ576 => ?_
      obtain ⟨q576, rfl, N576q, e576, hm576⟩ := hQ576
      have N576 := Fr.app N575 N576q
      show own_At p e below s _ _ _ T576 m 36 _ [(.long q576)]
      refine own_lstore (l' := #[.val (.int p1), .val (.long j1), .second, .val (.long j2), .second, .val (.long j3), .second, .val (.int (1 : Int32)), .val (.int (2 : Int32)), .val (.long q575), .second, .val (.long q576), .second, .unset, .unset, .unset, .unset, .unset, .unset, .unset, .unset, .unset]) X576 hx (hb hby at_36) rfl ?_
      refine own_iload X576 hx (hb hby at_38) rfl ?_
      refine own_lload X576 hx (hb hby at_40) rfl ?_
      refine own_cStat (W := 0) (rest := []) X576 hx hZ [(.int (1 : Int32)), (.long j3)] hown (hw _ (List.mem_of_getElem? (i := 0) rfl)) (hw _ (List.mem_of_getElem? (i := 1) rfl)) (by decide) (hw _ (List.mem_of_getElem? (i := 3) rfl)) (hw _ (List.mem_of_getElem? (i := 2) rfl)) e576 (rmFix_1 l Z a0 hw [] j3 h0 n0 Z0) (by rw [hml]; rfl) (lenOf pd_9 rfl) rfl (Nat.le_of_eq rfl) (hb hby at_42) (by decide) (by decide) (by decide) (by decide) fun v577 T577 L577 X577 hQ577 => ?_
      obtain ⟨q577, rfl, N577q, e577, hm577⟩ := hQ577
      have N577 := Fr.app N576 N577q
      show own_At p e below s _ _ _ T577 m 45 _ [(.long q577)]
      refine own_lstore (l' := #[.val (.int p1), .val (.long j1), .second, .val (.long j2), .second, .val (.long j3), .second, .val (.int (1 : Int32)), .val (.int (2 : Int32)), .val (.long q575), .second, .val (.long q576), .second, .val (.long q577), .second, .unset, .unset, .unset, .unset, .unset, .unset, .unset]) X577 hx (hb hby at_45) rfl ?_
      refine own_newO X577 hx hZ hown (hw _ (List.mem_of_getElem? (i := 5) rfl)) (hw _ (List.mem_of_getElem? (i := 6) rfl)) (hw _ (List.mem_of_getElem? (i := 7) rfl)) e577 (hb hby at_47) (by decide) (by decide) fun T578 h578 b578 g578 X578 e578 E578 A578 D578 => ?_
      have g_b578 : n0 ≤ b578 := Nat.le_trans Z0 (Nat.le_of_eq g578.symm)
      have szo_b578 : h0.size ≤ b578 := Nat.le_trans (Nat.le_refl h0.size) (Nat.le_of_eq g578.symm)
      have F_ranks_b578 : Fld Z h578 b578 "com/example/kurslot/kurslot/engine/PriceLadder" "ranks" "[J" .null := D578 (Or.inl (hw _ (List.mem_of_getElem? (i := 19) rfl))) (ty := (.array .long)) (by decide)
      have F_levels_b578 : Fld Z h578 b578 "com/example/kurslot/kurslot/engine/PriceLadder" "levels" "[Lcom/example/kurslot/kurslot/engine/PriceLevel;" .null := D578 (Or.inl (hw _ (List.mem_of_getElem? (i := 23) rfl))) (ty := (.array (.object "com/example/kurslot/kurslot/engine/PriceLevel"))) (by decide)
      have F_side_b578 : Fld Z h578 b578 "com/example/kurslot/kurslot/engine/PriceLadder" "side" "Lcom/example/kurslot/kurslot/engine/Side;" .null := D578 (Or.inr (hw _ (List.mem_of_getElem? (i := 25) rfl))) (ty := (.object "com/example/kurslot/kurslot/engine/Side")) (by decide)
      have F_size_b578 : Fld Z h578 b578 "com/example/kurslot/kurslot/engine/PriceLadder" "size" "I" (.int (0 : Int32)) := D578 (Or.inl (hw _ (List.mem_of_getElem? (i := 38) rfl))) (ty := .int) (by decide)
      refine own_dup X578 hx (hb hby at_50) rfl ?_
      refine own_iload X578 hx (hb hby at_51) rfl ?_
      refine own_ifNo X578 hx (hb hby at_53) (feq (by decide : ¬ ((1 : Int32) = (0 : Int32)))).1 ?_
      refine own_getS X578 hx hZ hown (host := "") (Or.inl (hw _ (List.mem_of_getElem? (i := 76) rfl))) Via.refl e578 (Sta.ext E578 S_Side_BUY) (hb hby at_56) fun T579 X579 e579 => ?_
      refine own_goto X579 hx 65 (hb hby at_59) (by decide) (by decide) ?_
      refine own_cSpec (b := b578) (W := 1) (rest := [(.ref b578)]) X579 hx hZ [(.ref a_Side_BUY)] rfl hown (hw _ (List.mem_of_getElem? (i := 11) rfl)) (hw _ (List.mem_of_getElem? (i := 12) rfl)) (by decide) (hw _ (List.mem_of_getElem? (i := 13) rfl)) (hw _ (List.mem_of_getElem? (i := 7) rfl)) e579 (rmIni l Z a0 hw [] b578 a_Side_BUY h578 n0 (Nat.le_trans Z0 E578.1) A578 F_ranks_b578 F_levels_b578 F_size_b578 F_side_b578 g_b578) (by rw [hml]; rfl) (lenOf pd_10 rfl) rfl (Nat.le_of_eq rfl) (hb hby at_65) (by decide) (by decide) (by decide) (by decide) fun v580 T580 L580 X580 hQ580 => ?_
      obtain ⟨rfl, N580q, K580, ra, la, kr, kl, le_ra, le_la, g_ra, g_la, LD580⟩ := hQ580
      have N580 := Fr.app N577 N580q
      show own_At p e below s _ _ _ T580 m 68 _ [(.ref b578)]
      exact rmT_2 hw (1 : Int32) p1 j1 j2 j3 q575 q576 q577 q575 q576 q577 b578 ra la a_Side_BUY a_Side_BUY kr kl _ n0 (Nat.le_trans (Nat.le_trans Z0 E578.1) K580.1) X580 hx hby hml hown hret hlk hZ rfl N580 LD580 (own_staKeep (Sta.ext E578 S_Side_BUY) K580 (allS (own_exaStat A578) all0)) (Or.inr ⟨by decide, rfl⟩) (Or.inr ⟨by decide, rfl⟩) (Or.inr ⟨by decide, rfl⟩) (Or.inl ⟨rfl, rfl⟩) (Or.inl ⟨rfl, rfl⟩) (Or.inl ⟨rfl, rfl⟩) g_b578 g_ra g_la
    · rw [hr568]
      refine own_iconst X0 hx (1 : Int32) (hb hby at_18) rfl ?_
      refine own_iadd X0 hx (hb hby at_19) ?_
      rw [show ((2 : Int32) + (1 : Int32)) = (3 : Int32) from by decide]
      refine own_istore (l' := #[.val (.int p1), .val (.long j1), .second, .val (.long j2), .second, .val (.long j3), .second, .val (.int (1 : Int32)), .val (.int (3 : Int32)), .unset, .unset, .unset, .unset, .unset, .unset, .unset, .unset, .unset, .unset, .unset, .unset, .unset]) X0 hx (hb hby at_20) rfl ?_
      refine own_iload X0 hx (hb hby at_22) rfl ?_
      refine own_lloadN X0 hx (hb hby at_24) rfl ?_
      refine own_cStat (W := 0) (rest := []) X0 hx hZ [(.int (1 : Int32)), (.long j1)] hown (hw _ (List.mem_of_getElem? (i := 0) rfl)) (hw _ (List.mem_of_getElem? (i := 1) rfl)) (by decide) (hw _ (List.mem_of_getElem? (i := 3) rfl)) (hw _ (List.mem_of_getElem? (i := 2) rfl)) e0 (rmFix_1 l Z a0 hw [] j1 h0 n0 Z0) (by rw [hml]; rfl) (lenOf pd_9 rfl) rfl (Nat.le_of_eq rfl) (hb hby at_25) (by decide) (by decide) (by decide) (by decide) fun v581 T581 L581 X581 hQ581 => ?_
      obtain ⟨q581, rfl, N581q, e581, hm581⟩ := hQ581
      have N581 := Fr.app N0 N581q
      show own_At p e below s _ _ _ T581 m 28 _ [(.long q581)]
      refine own_lstore (l' := #[.val (.int p1), .val (.long j1), .second, .val (.long j2), .second, .val (.long j3), .second, .val (.int (1 : Int32)), .val (.int (3 : Int32)), .val (.long q581), .second, .unset, .unset, .unset, .unset, .unset, .unset, .unset, .unset, .unset, .unset, .unset]) X581 hx (hb hby at_28) rfl ?_
      refine own_iload X581 hx (hb hby at_30) rfl ?_
      refine own_lloadN X581 hx (hb hby at_32) rfl ?_
      refine own_cStat (W := 0) (rest := []) X581 hx hZ [(.int (1 : Int32)), (.long j2)] hown (hw _ (List.mem_of_getElem? (i := 0) rfl)) (hw _ (List.mem_of_getElem? (i := 1) rfl)) (by decide) (hw _ (List.mem_of_getElem? (i := 3) rfl)) (hw _ (List.mem_of_getElem? (i := 2) rfl)) e581 (rmFix_1 l Z a0 hw [] j2 h0 n0 Z0) (by rw [hml]; rfl) (lenOf pd_9 rfl) rfl (Nat.le_of_eq rfl) (hb hby at_33) (by decide) (by decide) (by decide) (by decide) fun v582 T582 L582 X582 hQ582 => ?_
      obtain ⟨q582, rfl, N582q, e582, hm582⟩ := hQ582
      have N582 := Fr.app N581 N582q
      show own_At p e below s _ _ _ T582 m 36 _ [(.long q582)]
      refine own_lstore (l' := #[.val (.int p1), .val (.long j1), .second, .val (.long j2), .second, .val (.long j3), .second, .val (.int (1 : Int32)), .val (.int (3 : Int32)), .val (.long q581), .second, .val (.long q582), .second, .unset, .unset, .unset, .unset, .unset, .unset, .unset, .unset, .unset]) X582 hx (hb hby at_36) rfl ?_
      refine own_iload X582 hx (hb hby at_38) rfl ?_
      refine own_lload X582 hx (hb hby at_40) rfl ?_
      refine own_cStat (W := 0) (rest := []) X582 hx hZ [(.int (1 : Int32)), (.long j3)] hown (hw _ (List.mem_of_getElem? (i := 0) rfl)) (hw _ (List.mem_of_getElem? (i := 1) rfl)) (by decide) (hw _ (List.mem_of_getElem? (i := 3) rfl)) (hw _ (List.mem_of_getElem? (i := 2) rfl)) e582 (rmFix_1 l Z a0 hw [] j3 h0 n0 Z0) (by rw [hml]; rfl) (lenOf pd_9 rfl) rfl (Nat.le_of_eq rfl) (hb hby at_42) (by decide) (by decide) (by decide) (by decide) fun v583 T583 L583 X583 hQ583 => ?_
      obtain ⟨q583, rfl, N583q, e583, hm583⟩ := hQ583
      have N583 := Fr.app N582 N583q
      show own_At p e below s _ _ _ T583 m 45 _ [(.long q583)]
      refine own_lstore (l' := #[.val (.int p1), .val (.long j1), .second, .val (.long j2), .second, .val (.long j3), .second, .val (.int (1 : Int32)), .val (.int (3 : Int32)), .val (.long q581), .second, .val (.long q582), .second, .val (.long q583), .second, .unset, .unset, .unset, .unset, .unset, .unset, .unset]) X583 hx (hb hby at_45) rfl ?_
      refine own_newO X583 hx hZ hown (hw _ (List.mem_of_getElem? (i := 5) rfl)) (hw _ (List.mem_of_getElem? (i := 6) rfl)) (hw _ (List.mem_of_getElem? (i := 7) rfl)) e583 (hb hby at_47) (by decide) (by decide) fun T584 h584 b584 g584 X584 e584 E584 A584 D584 => ?_
      have g_b584 : n0 ≤ b584 := Nat.le_trans Z0 (Nat.le_of_eq g584.symm)
      have szo_b584 : h0.size ≤ b584 := Nat.le_trans (Nat.le_refl h0.size) (Nat.le_of_eq g584.symm)
      have F_ranks_b584 : Fld Z h584 b584 "com/example/kurslot/kurslot/engine/PriceLadder" "ranks" "[J" .null := D584 (Or.inl (hw _ (List.mem_of_getElem? (i := 19) rfl))) (ty := (.array .long)) (by decide)
      have F_levels_b584 : Fld Z h584 b584 "com/example/kurslot/kurslot/engine/PriceLadder" "levels" "[Lcom/example/kurslot/kurslot/engine/PriceLevel;" .null := D584 (Or.inl (hw _ (List.mem_of_getElem? (i := 23) rfl))) (ty := (.array (.object "com/example/kurslot/kurslot/engine/PriceLevel"))) (by decide)
      have F_side_b584 : Fld Z h584 b584 "com/example/kurslot/kurslot/engine/PriceLadder" "side" "Lcom/example/kurslot/kurslot/engine/Side;" .null := D584 (Or.inr (hw _ (List.mem_of_getElem? (i := 25) rfl))) (ty := (.object "com/example/kurslot/kurslot/engine/Side")) (by decide)
      have F_size_b584 : Fld Z h584 b584 "com/example/kurslot/kurslot/engine/PriceLadder" "size" "I" (.int (0 : Int32)) := D584 (Or.inl (hw _ (List.mem_of_getElem? (i := 38) rfl))) (ty := .int) (by decide)
      refine own_dup X584 hx (hb hby at_50) rfl ?_
      refine own_iload X584 hx (hb hby at_51) rfl ?_
      refine own_ifNo X584 hx (hb hby at_53) (feq (by decide : ¬ ((1 : Int32) = (0 : Int32)))).1 ?_
      refine own_getS X584 hx hZ hown (host := "") (Or.inl (hw _ (List.mem_of_getElem? (i := 76) rfl))) Via.refl e584 (Sta.ext E584 S_Side_BUY) (hb hby at_56) fun T585 X585 e585 => ?_
      refine own_goto X585 hx 65 (hb hby at_59) (by decide) (by decide) ?_
      refine own_cSpec (b := b584) (W := 1) (rest := [(.ref b584)]) X585 hx hZ [(.ref a_Side_BUY)] rfl hown (hw _ (List.mem_of_getElem? (i := 11) rfl)) (hw _ (List.mem_of_getElem? (i := 12) rfl)) (by decide) (hw _ (List.mem_of_getElem? (i := 13) rfl)) (hw _ (List.mem_of_getElem? (i := 7) rfl)) e585 (rmIni l Z a0 hw [] b584 a_Side_BUY h584 n0 (Nat.le_trans Z0 E584.1) A584 F_ranks_b584 F_levels_b584 F_size_b584 F_side_b584 g_b584) (by rw [hml]; rfl) (lenOf pd_10 rfl) rfl (Nat.le_of_eq rfl) (hb hby at_65) (by decide) (by decide) (by decide) (by decide) fun v586 T586 L586 X586 hQ586 => ?_
      obtain ⟨rfl, N586q, K586, ra, la, kr, kl, le_ra, le_la, g_ra, g_la, LD586⟩ := hQ586
      have N586 := Fr.app N583 N586q
      show own_At p e below s _ _ _ T586 m 68 _ [(.ref b584)]
      exact rmT_3 hw (1 : Int32) p1 j1 j2 j3 q581 q582 q583 q581 q582 q583 b584 ra la a_Side_BUY a_Side_BUY kr kl _ n0 (Nat.le_trans (Nat.le_trans Z0 E584.1) K586.1) X586 hx hby hml hown hret hlk hZ rfl N586 LD586 (own_staKeep (Sta.ext E584 S_Side_BUY) K586 (allS (own_exaStat A584) all0)) (Or.inr ⟨by decide, rfl⟩) (Or.inr ⟨by decide, rfl⟩) (Or.inr ⟨by decide, rfl⟩) (Or.inl ⟨rfl, rfl⟩) (Or.inl ⟨rfl, rfl⟩) (Or.inl ⟨rfl, rfl⟩) g_b584 g_ra g_la
set_option maxRecDepth 65536 in
set_option maxHeartbeats 40000000 in
theorem comes_1 {Post : Tables → Env → Array Value → State → Outcome → State → Prop} (hpost : ∀ tb e args s v u, (limb_1_1.after args s (.returned v) u = true ∧ limb_1_2.after args s (.returned v) u = true ∧ True) → FrameEnd s (.returned v) u (Jvm.fieldLocs frame_1_writes args s ++ Jvm.arrayLocs frame_1_arrays args s ++ Jvm.staticLocs frame_1_statics s) 24 192 → Post tb e args s (.returned v) u) :
    ArmFor flags0 classFile x code maxLocals ret World_1 tables_1 room_1 Calls_1 rest_1 Pre_1 Post := by
  intro l hfl _ _ p e ha hc hk s m args below hf hA hF happ hP
  obtain ⟨hcalls, hrest, hpre⟩ := hP
  obtain ⟨-, -, -, hnamed, -, -, -, hat⟩ := (Spec.applies_iff hf).mp happ
  obtain ⟨hg, hn⟩ := and_e (Cond.before_iff.mp (show (Jvm.Cond.and given_1 narrow_1).before args s = true from hpre))
  obtain ⟨g0a, g0b⟩ := and_e hg
  obtain ⟨g1a, g1b⟩ := and_e g0b
  obtain ⟨g2a, g2b⟩ := and_e g1b
  obtain ⟨g3a, g3b⟩ := and_e g2b
  obtain ⟨w0, w1, w2, w3, rfl⟩ : ∃ w0 w1 w2 w3 : Value, args = #[w0, w1, w2, w3] := by
    have hs : args.size = 4 := by simpa [Cond.value, given_1] using g0a
    obtain ⟨L⟩ := args
    match L, hs with
    | [w0, w1, w2, w3], _ => exact ⟨w0, w1, w2, w3, rfl⟩
  have hw := fun d (hd : d ∈ tables_1) => atoms_spec (ws := Jvm.Cond.code x code maxLocals ret :: tables_1) hat d (List.mem_cons_of_mem _ hd)
  have hfit : Fit s := fun {y c} hc i hi => by
    obtain ⟨ha, rfl⟩ := Array.getElem?_eq_some_iff.mp hc
    have q := List.all_eq_true.mp ((Array.all_eq_true_iff_forall_mem.mp hF) _ (Array.getElem_mem ha)) i (List.mem_range.mpr hi)
    simpa [Array.getElem?_eq_getElem hi] using q
  obtain ⟨i0, ei0⟩ := is_v g1a
  obtain rfl : w0 = (.int i0) := Option.some.inj ei0
  obtain ⟨i1, ei1⟩ := isL_v g2a
  obtain rfl : w1 = (.long i1) := Option.some.inj ei1
  obtain ⟨i2, ei2⟩ := isL_v g3a
  obtain rfl : w2 = (.long i2) := Option.some.inj ei2
  obtain ⟨i3, ei3⟩ := isL_v g3b
  obtain rfl : w3 = (.long i3) := Option.some.inj ei3
  obtain ⟨n0a, n0b⟩ := and_e hn
  obtain ⟨n1a, n1b⟩ := and_e n0b
  obtain ⟨n2a, n2b⟩ := and_e n1b
  obtain ⟨a_Side_SELL, ev_Side_SELL⟩ := exa_v n0a
  have E_Side_SELL := Exa.start ev_Side_SELL n0a
  have S_Side_SELL := Sta.start ev_Side_SELL (Or.inr ⟨(hw _ (List.mem_of_getElem? (i := 9) rfl)), (hw _ (List.mem_of_getElem? (i := 10) rfl))⟩)
  obtain ⟨a_Side_BUY, ev_Side_BUY⟩ := exa_v n1a
  have E_Side_BUY := Exa.start ev_Side_BUY n1a
  have S_Side_BUY := Sta.start ev_Side_BUY (Or.inr ⟨(hw _ (List.mem_of_getElem? (i := 9) rfl)), (hw _ (List.mem_of_getElem? (i := 36) rfl))⟩)
  have F_Side_SELL_ordinal := own_fld ev_Side_SELL (own_eqI n2a)
  have F_Side_BUY_ordinal := own_fld ev_Side_BUY (own_eqI n2b)
  obtain ⟨n, o, h1, h2, h3, _, L, rfl, ⟨rfl, N⟩, hq⟩ := (rm0 l s _ hw tables_1 a_Side_SELL a_Side_BUY i0 i1 i2 i3 s.heap s.heap.size (Nat.le_refl _) S_Side_SELL E_Side_SELL S_Side_BUY E_Side_BUY F_Side_SELL_ordinal F_Side_BUY_ordinal) p e ha hc hk s m _ below hf ((Spec.applies_iff_loose hf).mp happ).1 ⟨rfl, State.Warmed39.refl s, rfl⟩ trivial
  refine ⟨n, _, h1, h2, h3, hpost _ _ _ _ _ _ ⟨Cond.after_iff.mpr rfl, Cond.after_iff.mpr (eq_i res_at (Term.int_eval (1)) rfl), trivial⟩ ⟨hq.1, hq.2.1, (hq.2.2.sift fun y hy => Or.inr (N y hy)).mono (by decide) (by decide)⟩⟩
theorem main_1_1 : Claimed_1_1 := comes_1 fun _ _ _ _ _ _ h hF => ⟨h.1, hF⟩
theorem main_1_2 : Claimed_1_2 := comes_1 fun _ _ _ _ _ _ h hF => ⟨h.2.1, hF⟩
end Jvm.Pilot.@@N@@
namespace Jvm.Pilot.@@N@@
open Jvm Jvm.ClassFile Sem Op Lib Jvm.Free Jvm.Stand Jvm.Pilot.@@N@@.Jvm.D
/-! MADE BY PROGRAM (witnessworld.py) out of the Statement's table words and the real class files: 19 classes; the members and pool entries that the words name. The judged class is class 1, her method 1. -/
namespace start1
open Jvm.ClassFile
def u (s : String) : CpInfo := .utf8 (stringToUtf16 s)
/-- a pool by its gaps: so many unusable entries, then the entry; so many at the end -/
def gap : Nat → List CpInfo → List CpInfo
  | 0, r => r
  | n + 1, r => .unusable :: gap n r
def poolList (es : List (Nat × CpInfo)) (last : Nat) : List CpInfo := es.foldr (fun e r => gap e.1 (e.2 :: r)) (gap last [])
def pool (es : List (Nat × CpInfo)) (last : Nat) : Array CpInfo := ⟨poolList es last⟩
def fileOf (pool : Array CpInfo) (this : Nat) (attrs : Array Attribute := #[]) (ms : Array MethodInfo := #[]) (fl : Nat := 33) (sup : Nat := 0) (ifs : Array Nat := #[]) (fds : Array FieldInfo := #[]) : ClassFile where
  minorVersion := 0
  majorVersion := 65
  constantPool := pool
  accessFlags := fl
  thisClass := this
  superClass := sup
  interfaces := ifs
  fields := fds
  methods := ms
  attributes := attrs
def plain (name : String) (sup : Option ClassId) : Class where
  name := name
  kind := .ordinary
  loader := none
  accessFlags := 33
  super := sup
  interfaces := #[]
  cf := none
  fields := #[]
  methods := #[]
  instanceTypes := #[]
  staticTypes := #[]
  resolved := #[]
  callSites := []
  init := .initialized
  statics := none
  mirror := none

def pool0 : Array CpInfo := pool [(5, u "<init>"), (0, u "()V"), (1, .class_ 10), (1, u "java/lang/Object")] 113

def k0c0 : Code := { maxStack := 0, maxLocals := 1, code := object_method_1_code, exceptionTable := #[], attributes := #[] }
def k0m0 : Method := { name := "<init>", desc := "()V", sig := { parameters := [], returnType := none }, accessFlags := 1, code := some k0c0 }
/-- java/lang/Object -/
def k0 : Class := { plain "java/lang/Object" none with
  accessFlags := 33
  interfaces := #[]
  cf := some (fileOf pool0 8 #[] #[{ accessFlags := 1, nameIndex := 5, descriptorIndex := 6, attributes := #[] }] 33 0 #[] #[])
  fields := #[]
  methods := #[k0m0]
  instanceTypes := #[]
  staticTypes := #[]
  resolved := Array.replicate 124 none
  statics := none }

def pool1 : Array CpInfo := pool [(2, .class_ 4), (1, u "java/lang/Object"), (0, u "<init>"), (0, u "()V"), (0, .methodref 8 9), (0, .class_ 10), (0, .nameAndType 11 12), (0, u "com/example/kurslot/kurslot/engine/PriceLadderLevelPinLaw"), (0, u "fix"), (0, u "(ZJ)J"), (0, .class_ 14), (0, u "com/example/kurslot/kurslot/engine/PriceLadder"), (0, .fieldref 16 17), (0, .class_ 18), (0, .nameAndType 19 20), (0, u "com/example/kurslot/kurslot/engine/Side"), (0, u "BUY"), (0, u "Lcom/example/kurslot/kurslot/engine/Side;"), (0, .fieldref 16 22), (0, .nameAndType 23 20), (0, u "SELL"), (0, .methodref 13 25), (0, .nameAndType 5 26), (0, u "(Lcom/example/kurslot/kurslot/engine/Side;)V"), (0, .methodref 13 28), (0, .nameAndType 29 30), (0, u "levelAt"), (0, u "(J)Lcom/example/kurslot/kurslot/engine/PriceLevel;"), (0, .methodref 13 32), (0, .nameAndType 33 34), (0, u "size"), (0, u "()I"), (0, .methodref 8 36), (0, .nameAndType 37 38), (0, u "depthOf"), (0, u "(ZJJJZZJ)I"), (0, .methodref 13 40), (0, .nameAndType 41 42), (0, u "level"), (0, u "(I)Lcom/example/kurslot/kurslot/engine/PriceLevel;"), (2, .long 9223372036854775808), (1, .long 9223372036854775809), (1, .methodref 8 50), (0, .nameAndType 51 52), (0, u "better"), (0, u "(ZJJ)I"), (2, u "law"), (0, u "(IJJJ)Z")] 5

def k1m0 : Method := { name := "<init>", desc := "()V", sig := { parameters := [], returnType := none }, accessFlags := 1, code := none }
def k1c1 : Code := { maxStack := 12, maxLocals := 22, code := code, exceptionTable := #[], attributes := #[] }
def k1m1 : Method := { name := "law", desc := "(IJJJ)Z", sig := { parameters := [.int, .long, .long, .long], returnType := some .boolean }, accessFlags := 9, code := some k1c1 }
def k1c2 : Code := { maxStack := 4, maxLocals := 3, code := method_3_code, exceptionTable := #[], attributes := #[] }
def k1m2 : Method := { name := "fix", desc := "(ZJ)J", sig := { parameters := [.boolean, .long], returnType := some .long }, accessFlags := 10, code := some k1c2 }
def k1c3 : Code := { maxStack := 4, maxLocals := 6, code := method_4_code, exceptionTable := #[], attributes := #[] }
def k1m3 : Method := { name := "better", desc := "(ZJJ)I", sig := { parameters := [.boolean, .long, .long], returnType := some .int }, accessFlags := 10, code := some k1c3 }
def k1c4 : Code := { maxStack := 6, maxLocals := 12, code := method_5_code, exceptionTable := #[], attributes := #[] }
def k1m4 : Method := { name := "depthOf", desc := "(ZJJJZZJ)I", sig := { parameters := [.boolean, .long, .long, .long, .boolean, .boolean, .long], returnType := some .int }, accessFlags := 10, code := some k1c4 }
/-- com/example/kurslot/kurslot/engine/PriceLadderLevelPinLaw -/
def k1 : Class := { plain "com/example/kurslot/kurslot/engine/PriceLadderLevelPinLaw" (some 0) with
  accessFlags := 49
  interfaces := #[]
  cf := some (fileOf pool1 8 #[] #[{ accessFlags := 1, nameIndex := 5, descriptorIndex := 6, attributes := #[] }, { accessFlags := 9, nameIndex := 55, descriptorIndex := 56, attributes := #[] }, { accessFlags := 10, nameIndex := 11, descriptorIndex := 12, attributes := #[] }, { accessFlags := 10, nameIndex := 51, descriptorIndex := 52, attributes := #[] }, { accessFlags := 10, nameIndex := 37, descriptorIndex := 38, attributes := #[] }] 49 2 #[] #[])
  fields := #[]
  methods := #[k1m0, k1m1, k1m2, k1m3, k1m4]
  instanceTypes := #[]
  staticTypes := #[]
  resolved := Array.replicate 62 none
  statics := none }

def pool2 : Array CpInfo := pool [(1, .methodref 2 3), (0, .class_ 4), (0, .nameAndType 5 6), (0, u "java/lang/Object"), (0, u "<init>"), (0, u "()V"), (0, .fieldref 8 9), (0, .class_ 10), (0, .nameAndType 11 12), (0, u "com/example/kurslot/kurslot/engine/PriceLadder"), (0, u "ranks"), (0, u "[J"), (0, .class_ 14), (0, u "com/example/kurslot/kurslot/engine/PriceLevel"), (0, .fieldref 8 16), (0, .nameAndType 17 18), (0, u "levels"), (0, u "[Lcom/example/kurslot/kurslot/engine/PriceLevel;"), (0, .fieldref 8 20), (0, .nameAndType 21 22), (0, u "side"), (0, u "Lcom/example/kurslot/kurslot/engine/Side;"), (0, .fieldref 8 24), (0, .nameAndType 25 26), (0, u "size"), (0, u "I"), (0, .fieldref 28 29), (0, .class_ 30), (0, .nameAndType 31 22), (0, u "com/example/kurslot/kurslot/engine/Side"), (0, u "BUY"), (0, .methodref 8 33), (0, .nameAndType 34 35), (0, u "rank"), (0, u "(J)J"), (0, .methodref 37 38), (0, .class_ 39), (0, .nameAndType 40 41), (0, u "java/util/Arrays"), (0, u "binarySearch"), (0, u "([JIIJ)I"), (8, .methodref 51 52), (0, .class_ 53), (0, .nameAndType 54 55), (0, u "java/lang/System"), (0, u "arraycopy"), (0, u "(Ljava/lang/Object;ILjava/lang/Object;II)V"), (0, .methodref 13 3), (0, u "(Lcom/example/kurslot/kurslot/engine/Side;)V"), (2, u "()I"), (3, u "level"), (0, u "(I)Lcom/example/kurslot/kurslot/engine/PriceLevel;"), (4, u "levelAt"), (0, u "(J)Lcom/example/kurslot/kurslot/engine/PriceLevel;")] 4

def k2c0 : Code := { maxStack := 2, maxLocals := 2, code := prog_27_method_1_code, exceptionTable := #[], attributes := #[] }
def k2m0 : Method := { name := "<init>", desc := "(Lcom/example/kurslot/kurslot/engine/Side;)V", sig := { parameters := [(.object "com/example/kurslot/kurslot/engine/Side")], returnType := none }, accessFlags := 0, code := some k2c0 }
def k2c1 : Code := { maxStack := 1, maxLocals := 1, code := prog_27_method_2_code, exceptionTable := #[], attributes := #[] }
def k2m1 : Method := { name := "size", desc := "()I", sig := { parameters := [], returnType := some .int }, accessFlags := 0, code := some k2c1 }
def k2c2 : Code := { maxStack := 3, maxLocals := 2, code := prog_27_method_4_code, exceptionTable := #[], attributes := #[] }
def k2m2 : Method := { name := "level", desc := "(I)Lcom/example/kurslot/kurslot/engine/PriceLevel;", sig := { parameters := [.int], returnType := some (.object "com/example/kurslot/kurslot/engine/PriceLevel") }, accessFlags := 0, code := some k2c2 }
def k2c3 : Code := { maxStack := 6, maxLocals := 7, code := prog_27_method_7_code, exceptionTable := #[], attributes := #[] }
def k2m3 : Method := { name := "levelAt", desc := "(J)Lcom/example/kurslot/kurslot/engine/PriceLevel;", sig := { parameters := [.long], returnType := some (.object "com/example/kurslot/kurslot/engine/PriceLevel") }, accessFlags := 0, code := some k2c3 }
def k2c4 : Code := { maxStack := 2, maxLocals := 3, code := prog_27_method_9_code, exceptionTable := #[], attributes := #[] }
def k2m4 : Method := { name := "rank", desc := "(J)J", sig := { parameters := [.long], returnType := some .long }, accessFlags := 2, code := some k2c4 }
/-- com/example/kurslot/kurslot/engine/PriceLadder -/
def k2 : Class := { plain "com/example/kurslot/kurslot/engine/PriceLadder" (some 0) with
  accessFlags := 48
  interfaces := #[]
  cf := some (fileOf pool2 8 #[] #[{ accessFlags := 0, nameIndex := 5, descriptorIndex := 57, attributes := #[] }, { accessFlags := 0, nameIndex := 25, descriptorIndex := 60, attributes := #[] }, { accessFlags := 0, nameIndex := 64, descriptorIndex := 65, attributes := #[] }, { accessFlags := 0, nameIndex := 70, descriptorIndex := 71, attributes := #[] }, { accessFlags := 2, nameIndex := 34, descriptorIndex := 35, attributes := #[] }] 48 2 #[] #[{ accessFlags := 18, nameIndex := 21, descriptorIndex := 22, attributes := #[] }, { accessFlags := 2, nameIndex := 11, descriptorIndex := 12, attributes := #[] }, { accessFlags := 2, nameIndex := 17, descriptorIndex := 18, attributes := #[] }, { accessFlags := 2, nameIndex := 25, descriptorIndex := 26, attributes := #[] }])
  fields := #[{ name := "side", type := (.object "com/example/kurslot/kurslot/engine/Side"), accessFlags := 18, slot := 0, constantValue := 0 }, { name := "ranks", type := (.array .long), accessFlags := 2, slot := 1, constantValue := 0 }, { name := "levels", type := (.array (.object "com/example/kurslot/kurslot/engine/PriceLevel")), accessFlags := 2, slot := 2, constantValue := 0 }, { name := "size", type := .int, accessFlags := 2, slot := 3, constantValue := 0 }]
  methods := #[k2m0, k2m1, k2m2, k2m3, k2m4]
  instanceTypes := #[(.object "com/example/kurslot/kurslot/engine/Side"), (.array .long), (.array (.object "com/example/kurslot/kurslot/engine/PriceLevel")), .int]
  staticTypes := #[]
  resolved := Array.replicate 76 none
  statics := none }

def pool3 : Array CpInfo := pool [(1, .class_ 2), (0, u "java/lang/constant/Constable"), (0, .class_ 4), (0, u "java/lang/Object")] 6

/-- java/lang/constant/Constable -/
def k3 : Class := { plain "java/lang/constant/Constable" (some 0) with
  accessFlags := 1537
  interfaces := #[]
  cf := some (fileOf pool3 1 #[] #[] 1537 3 #[] #[])
  fields := #[]
  methods := #[]
  instanceTypes := #[]
  staticTypes := #[]
  resolved := Array.replicate 11 none
  statics := none }

def pool4 : Array CpInfo := pool [(1, .class_ 2), (0, u "java/lang/Comparable"), (0, .class_ 4), (0, u "java/lang/Object")] 7

/-- java/lang/Comparable -/
def k4 : Class := { plain "java/lang/Comparable" (some 0) with
  accessFlags := 1537
  interfaces := #[]
  cf := some (fileOf pool4 1 #[] #[] 1537 3 #[] #[])
  fields := #[]
  methods := #[]
  instanceTypes := #[]
  staticTypes := #[]
  resolved := Array.replicate 12 none
  statics := none }

def pool5 : Array CpInfo := pool [(1, .class_ 2), (0, u "java/io/Serializable"), (0, .class_ 4), (0, u "java/lang/Object")] 2

/-- java/io/Serializable -/
def k5 : Class := { plain "java/io/Serializable" (some 0) with
  accessFlags := 1537
  interfaces := #[]
  cf := some (fileOf pool5 1 #[] #[] 1537 3 #[] #[])
  fields := #[]
  methods := #[]
  instanceTypes := #[]
  staticTypes := #[]
  resolved := Array.replicate 7 none
  statics := none }

def pool6 : Array CpInfo := pool [(2, .class_ 4), (1, u "java/lang/Enum"), (0, u "name"), (0, u "Ljava/lang/String;"), (2, u "ordinal"), (0, u "I"), (1, .class_ 14), (1, u "java/lang/Object"), (4, u "hash"), (86, .class_ 108), (1, u "java/lang/Enum$EnumDesc"), (2, .class_ 112), (0, u "java/lang/constant/Constable"), (0, .class_ 114), (0, u "java/lang/Comparable"), (0, .class_ 116), (0, u "java/io/Serializable")] 87

/-- java/lang/Enum -/
def k6 : Class := { plain "java/lang/Enum" (some 0) with
  accessFlags := 1057
  interfaces := #[3, 4, 5]
  cf := some (fileOf pool6 2 #[.nestMembers #[106]] #[] 1057 12 #[111, 113, 115] #[{ accessFlags := 18, nameIndex := 5, descriptorIndex := 6, attributes := #[] }, { accessFlags := 18, nameIndex := 9, descriptorIndex := 10, attributes := #[] }, { accessFlags := 2, nameIndex := 19, descriptorIndex := 10, attributes := #[] }])
  fields := #[{ name := "name", type := (.object "java/lang/String"), accessFlags := 18, slot := 0, constantValue := 0 }, { name := "ordinal", type := .int, accessFlags := 18, slot := 1, constantValue := 0 }, { name := "hash", type := .int, accessFlags := 2, slot := 2, constantValue := 0 }]
  methods := #[]
  instanceTypes := #[(.object "java/lang/String"), .int, .int]
  staticTypes := #[]
  resolved := Array.replicate 204 none
  statics := none }

def pool7 : Array CpInfo := pool [(1, .class_ 2), (0, u "com/example/kurslot/kurslot/engine/Side"), (2, u "BUY"), (0, u "Lcom/example/kurslot/kurslot/engine/Side;"), (2, u "SELL"), (2, u "$VALUES"), (0, u "[Lcom/example/kurslot/kurslot/engine/Side;"), (6, .class_ 22), (1, u "java/lang/Enum"), (8, u "code"), (0, u "Ljava/lang/String;")] 29

/-- com/example/kurslot/kurslot/engine/Side -/
def k7 : Class := { plain "com/example/kurslot/kurslot/engine/Side" (some 6) with
  accessFlags := 16433
  interfaces := #[]
  cf := some (fileOf pool7 1 #[] #[] 16433 20 #[] #[{ accessFlags := 16409, nameIndex := 5, descriptorIndex := 6, attributes := #[] }, { accessFlags := 16409, nameIndex := 9, descriptorIndex := 6, attributes := #[] }, { accessFlags := 18, nameIndex := 31, descriptorIndex := 32, attributes := #[] }, { accessFlags := 4122, nameIndex := 12, descriptorIndex := 13, attributes := #[] }])
  fields := #[{ name := "BUY", type := (.object "com/example/kurslot/kurslot/engine/Side"), accessFlags := 16409, slot := 0, constantValue := 0 }, { name := "SELL", type := (.object "com/example/kurslot/kurslot/engine/Side"), accessFlags := 16409, slot := 1, constantValue := 0 }, { name := "code", type := (.object "java/lang/String"), accessFlags := 18, slot := 3, constantValue := 0 }, { name := "$VALUES", type := (.array (.object "com/example/kurslot/kurslot/engine/Side")), accessFlags := 4122, slot := 2, constantValue := 0 }]
  methods := #[]
  instanceTypes := #[(.object "java/lang/String"), .int, .int, (.object "java/lang/String")]
  staticTypes := #[(.object "com/example/kurslot/kurslot/engine/Side"), (.object "com/example/kurslot/kurslot/engine/Side"), (.array (.object "com/example/kurslot/kurslot/engine/Side"))]
  resolved := Array.replicate 62 none
  statics := some 0 }

def pool8 : Array CpInfo := pool [(1, .methodref 2 3), (0, .class_ 4), (0, .nameAndType 5 6), (0, u "java/lang/Object"), (0, u "<init>"), (0, u "()V"), (1, .class_ 10), (1, u "com/example/kurslot/kurslot/engine/PriceLevel"), (0, u "first"), (0, u "Lcom/example/kurslot/kurslot/engine/RestingOrder;"), (29, u "last")] 16

def k8c0 : Code := { maxStack := 1, maxLocals := 1, code := prog_29_method_1_code, exceptionTable := #[], attributes := #[] }
def k8m0 : Method := { name := "<init>", desc := "()V", sig := { parameters := [], returnType := none }, accessFlags := 0, code := some k8c0 }
/-- com/example/kurslot/kurslot/engine/PriceLevel -/
def k8 : Class := { plain "com/example/kurslot/kurslot/engine/PriceLevel" (some 0) with
  accessFlags := 48
  interfaces := #[]
  cf := some (fileOf pool8 8 #[] #[{ accessFlags := 0, nameIndex := 5, descriptorIndex := 6, attributes := #[] }] 48 2 #[] #[{ accessFlags := 2, nameIndex := 11, descriptorIndex := 12, attributes := #[] }, { accessFlags := 2, nameIndex := 42, descriptorIndex := 12, attributes := #[] }])
  fields := #[{ name := "first", type := (.object "com/example/kurslot/kurslot/engine/RestingOrder"), accessFlags := 2, slot := 0, constantValue := 0 }, { name := "last", type := (.object "com/example/kurslot/kurslot/engine/RestingOrder"), accessFlags := 2, slot := 1, constantValue := 0 }]
  methods := #[k8m0]
  instanceTypes := #[(.object "com/example/kurslot/kurslot/engine/RestingOrder"), (.object "com/example/kurslot/kurslot/engine/RestingOrder")]
  staticTypes := #[]
  resolved := Array.replicate 59 none
  statics := none }

def pool9 : Array CpInfo := pool [(2, .class_ 4), (1, u "java/lang/Object"), (0, u "<init>"), (0, u "()V"), (6, .methodref 14 15), (0, .class_ 16), (0, .nameAndType 17 18), (0, u "java/util/Arrays"), (0, u "rangeCheck"), (0, u "(III)V"), (55, .class_ 76), (1, u "java/util/Arrays$NaturalOrder"), (36, .class_ 115), (1, u "java/util/Arrays$LegacyMergeSort"), (1, u "Z"), (87, .methodref 14 206), (0, .nameAndType 207 208), (0, u "binarySearch0"), (0, u "([JIIJ)I"), (166, .class_ 376), (0, u "java/util/Arrays$ArrayList"), (68, u "$assertionsDisabled"), (269, u "MIN_ARRAY_SORT_GRAN"), (0, u "I"), (2, u "INSERTIONSORT_THRESHOLD"), (74, u "binarySearch"), (180, .class_ 976), (0, u "java/util/Arrays$ArrayItr")] 52

def k9m0 : Method := { name := "<init>", desc := "()V", sig := { parameters := [], returnType := none }, accessFlags := 2, code := none }
def k9c1 : Code := { maxStack := 4, maxLocals := 3, code := jdk_65_method_30_code, exceptionTable := #[], attributes := #[] }
def k9m1 : Method := { name := "rangeCheck", desc := "(III)V", sig := { parameters := [.int, .int, .int], returnType := none }, accessFlags := 8, code := some k9c1 }
def k9c2 : Code := { maxStack := 5, maxLocals := 5, code := jdk_65_method_55_code, exceptionTable := #[], attributes := #[] }
def k9m2 : Method := { name := "binarySearch", desc := "([JIIJ)I", sig := { parameters := [(.array .long), .int, .int, .long], returnType := some .int }, accessFlags := 9, code := some k9c2 }
def k9c3 : Code := { maxStack := 4, maxLocals := 10, code := jdk_65_method_56_code, exceptionTable := #[], attributes := #[] }
def k9m3 : Method := { name := "binarySearch0", desc := "([JIIJ)I", sig := { parameters := [(.array .long), .int, .int, .long], returnType := some .int }, accessFlags := 10, code := some k9c3 }
/-- java/util/Arrays -/
def k9 : Class := { plain "java/util/Arrays" (some 0) with
  accessFlags := 49
  interfaces := #[]
  cf := some (fileOf pool9 14 #[.nestMembers #[975, 375, 113, 74]] #[{ accessFlags := 2, nameIndex := 5, descriptorIndex := 6, attributes := #[] }, { accessFlags := 8, nameIndex := 17, descriptorIndex := 18, attributes := #[] }, { accessFlags := 9, nameIndex := 794, descriptorIndex := 208, attributes := #[] }, { accessFlags := 10, nameIndex := 207, descriptorIndex := 208, attributes := #[] }] 49 2 #[] #[{ accessFlags := 26, nameIndex := 715, descriptorIndex := 716, attributes := #[] }, { accessFlags := 26, nameIndex := 719, descriptorIndex := 716, attributes := #[] }, { accessFlags := 4120, nameIndex := 445, descriptorIndex := 117, attributes := #[] }])
  fields := #[{ name := "MIN_ARRAY_SORT_GRAN", type := .int, accessFlags := 26, slot := 0, constantValue := 0 }, { name := "INSERTIONSORT_THRESHOLD", type := .int, accessFlags := 26, slot := 1, constantValue := 0 }, { name := "$assertionsDisabled", type := .boolean, accessFlags := 4120, slot := 2, constantValue := 0 }]
  methods := #[k9m0, k9m1, k9m2, k9m3]
  instanceTypes := #[]
  staticTypes := #[.int, .int, .boolean]
  resolved := Array.replicate 1029 none
  statics := none }

def pool10 : Array CpInfo := pool [(2, .class_ 4), (1, u "java/lang/Object"), (0, u "<init>"), (0, u "()V"), (1, .class_ 10), (1, u "java/lang/System"), (0, u "allowSecurityManager"), (0, u "I"), (16, u "cons"), (0, u "Ljava/io/Console;"), (77, .class_ 110), (1, u "java/lang/System$CallersHolder"), (43, u "initialErrStream"), (0, u "Ljava/io/PrintStream;"), (19, u "security"), (0, u "Ljava/lang/SecurityManager;"), (31, .class_ 209), (0, u "java/lang/System$1"), (7, u "props"), (0, u "Ljava/util/Properties;"), (2, u "lineSeparator"), (0, u "Ljava/lang/String;"), (96, .class_ 321), (1, u "java/lang/System$LoggerFinder"), (5, .class_ 328), (0, u "java/lang/System$Logger"), (67, u "err"), (2, u "out"), (91, u "notSupportedJnuEncoding"), (15, u "in"), (17, u "initialIn"), (0, u "Ljava/io/InputStream;"), (35, u "bootLayer"), (0, u "Ljava/lang/ModuleLayer;"), (99, .class_ 664), (0, u "java/lang/System$2"), (9, u "NEVER"), (2, u "MAYBE"), (49, u "arraycopy"), (0, u "(Ljava/lang/Object;ILjava/lang/Object;II)V"), (72, .class_ 802), (0, u "java/lang/System$Logger$Level")] 31

def k10m0 : Method := { name := "<init>", desc := "()V", sig := { parameters := [], returnType := none }, accessFlags := 2, code := none }
def k10m1 : Method := { name := "arraycopy", desc := "(Ljava/lang/Object;ILjava/lang/Object;II)V", sig := { parameters := [(.object "java/lang/Object"), .int, (.object "java/lang/Object"), .int, .int], returnType := none }, accessFlags := 265, code := none }
/-- java/lang/System -/
def k10 : Class := { plain "java/lang/System" (some 0) with
  accessFlags := 49
  interfaces := #[]
  cf := some (fileOf pool10 8 #[.nestMembers #[319, 327, 801, 108, 663, 208]] #[{ accessFlags := 2, nameIndex := 5, descriptorIndex := 6, attributes := #[] }, { accessFlags := 265, nameIndex := 727, descriptorIndex := 728, attributes := #[] }] 49 2 #[] #[{ accessFlags := 25, nameIndex := 507, descriptorIndex := 526, attributes := #[] }, { accessFlags := 25, nameIndex := 399, descriptorIndex := 155, attributes := #[] }, { accessFlags := 25, nameIndex := 396, descriptorIndex := 155, attributes := #[] }, { accessFlags := 10, nameIndex := 525, descriptorIndex := 526, attributes := #[] }, { accessFlags := 26, nameIndex := 674, descriptorIndex := 12, attributes := #[] }, { accessFlags := 26, nameIndex := 677, descriptorIndex := 12, attributes := #[] }, { accessFlags := 10, nameIndex := 11, descriptorIndex := 12, attributes := #[] }, { accessFlags := 74, nameIndex := 175, descriptorIndex := 176, attributes := #[] }, { accessFlags := 10, nameIndex := 491, descriptorIndex := 222, attributes := #[] }, { accessFlags := 74, nameIndex := 29, descriptorIndex := 30, attributes := #[] }, { accessFlags := 74, nameIndex := 154, descriptorIndex := 155, attributes := #[] }, { accessFlags := 10, nameIndex := 217, descriptorIndex := 218, attributes := #[] }, { accessFlags := 10, nameIndex := 221, descriptorIndex := 222, attributes := #[] }, { accessFlags := 8, nameIndex := 562, descriptorIndex := 563, attributes := #[] }])
  fields := #[{ name := "in", type := (.object "java/io/InputStream"), accessFlags := 25, slot := 0, constantValue := 0 }, { name := "out", type := (.object "java/io/PrintStream"), accessFlags := 25, slot := 1, constantValue := 0 }, { name := "err", type := (.object "java/io/PrintStream"), accessFlags := 25, slot := 2, constantValue := 0 }, { name := "initialIn", type := (.object "java/io/InputStream"), accessFlags := 10, slot := 3, constantValue := 0 }, { name := "NEVER", type := .int, accessFlags := 26, slot := 4, constantValue := 0 }, { name := "MAYBE", type := .int, accessFlags := 26, slot := 5, constantValue := 0 }, { name := "allowSecurityManager", type := .int, accessFlags := 10, slot := 6, constantValue := 0 }, { name := "security", type := (.object "java/lang/SecurityManager"), accessFlags := 74, slot := 7, constantValue := 0 }, { name := "notSupportedJnuEncoding", type := (.object "java/lang/String"), accessFlags := 10, slot := 8, constantValue := 0 }, { name := "cons", type := (.object "java/io/Console"), accessFlags := 74, slot := 9, constantValue := 0 }, { name := "initialErrStream", type := (.object "java/io/PrintStream"), accessFlags := 74, slot := 10, constantValue := 0 }, { name := "props", type := (.object "java/util/Properties"), accessFlags := 10, slot := 11, constantValue := 0 }, { name := "lineSeparator", type := (.object "java/lang/String"), accessFlags := 10, slot := 12, constantValue := 0 }, { name := "bootLayer", type := (.object "java/lang/ModuleLayer"), accessFlags := 8, slot := 13, constantValue := 0 }]
  methods := #[k10m0, k10m1]
  instanceTypes := #[]
  staticTypes := #[(.object "java/io/InputStream"), (.object "java/io/PrintStream"), (.object "java/io/PrintStream"), (.object "java/io/InputStream"), .int, .int, .int, (.object "java/lang/SecurityManager"), (.object "java/lang/String"), (.object "java/io/Console"), (.object "java/io/PrintStream"), (.object "java/util/Properties"), (.object "java/lang/String"), (.object "java/lang/ModuleLayer")]
  resolved := Array.replicate 834 none
  statics := none }

def pool11 : Array CpInfo := pool [(1, u "java/lang/Cloneable"), (0, .class_ 1), (0, u "java/lang/Object"), (0, .class_ 3)] 3

/-- java/lang/Cloneable -/
def k11 : Class := { plain "java/lang/Cloneable" (some 0) with
  accessFlags := 1537
  interfaces := #[]
  cf := some (fileOf pool11 2 #[] #[] 1537 4 #[] #[])
  fields := #[]
  methods := #[]
  instanceTypes := #[]
  staticTypes := #[]
  resolved := Array.replicate 8 none
  statics := none }

/-- the primitive byte -/
def k12 : Class := { plain "byte" none with kind := .primitive 'B', accessFlags := 0x411 }
/-- [B -/
def k13 : Class := { plain "[B" (some 0) with kind := .array 12 .byte, interfaces := #[11, 5], accessFlags := 1041 }

/-- the primitive int -/
def k14 : Class := { plain "int" none with kind := .primitive 'I', accessFlags := 0x411 }
/-- [I -/
def k15 : Class := { plain "[I" (some 0) with kind := .array 14 .int, interfaces := #[11, 5], accessFlags := 1041 }

/-- the primitive long -/
def k16 : Class := { plain "long" none with kind := .primitive 'J', accessFlags := 0x411 }
/-- [J -/
def k17 : Class := { plain "[J" (some 0) with kind := .array 16 .long, interfaces := #[11, 5], accessFlags := 1041 }

/-- [Lcom/example/kurslot/kurslot/engine/PriceLevel; -/
def k18 : Class := { plain "[Lcom/example/kurslot/kurslot/engine/PriceLevel;" (some 0) with kind := .array 8 (.object "com/example/kurslot/kurslot/engine/PriceLevel"), interfaces := #[11, 5], accessFlags := 1041 }

def heap : Heap := #[{ cls := 7, slots := #[.ref 2, .ref 1, .null], vm := .statics 7 },
  { cls := 7, slots := #[.null, .int (1), .int 0, .null], vm := .none },
  { cls := 7, slots := #[.null, .int (0), .int 0, .null], vm := .none }]
def classes : Array Class := #[k0, k1, k2, k3, k4, k5, k6, k7, k8, k9, k10, k11, k12, k13, k14, k15, k16, k17, k18]
def interned : List (Array UInt16 × Addr) := []
def slotsUsed : Nat := 11
def theMethod : MethodId := ⟨1, 1⟩
def args0 : Array Value := #[.int 5, .long 3, .long 4, .long 9]
def aboutOver (below : List Frame) : State where
  vm := { classes := classes, interned := interned.toArray }
  heap := heap
  slotsUsed := slotsUsed
  threads := #[{ frames := .invoking theMethod args0 :: below }]
def below0 : List Frame := [.native { method := ⟨0, 0⟩, args := #[] }]
def about1 : State := aboutOver below0
def p0 : Program := .bare "" "" ""
def e0 : Env := launch0.env 0 0 0
theorem w_frames : about1.frames = Frame.invoking theMethod args0 :: below0 := rfl
set_option maxRecDepth 65536 in
theorem w_args : argsFit about1.vm theMethod args0 = true := by decide +kernel
set_option maxRecDepth 65536 in
theorem w_heap : heapFits about1 = true := by decide +kernel
set_option maxRecDepth 65536 in
theorem w_runnable : about1.curStatus? = some .runnable := by decide +kernel
set_option maxRecDepth 65536 in
theorem w_alone : about1.alone = true := by decide +kernel
set_option maxRecDepth 65536 in
theorem w_named : about1.methodNamed? x = some theMethod := by decide +kernel
set_option maxRecDepth 65536 in
theorem w_hears : about1.hears theMethod below0 = true := by decide +kernel
set_option maxRecDepth 65536 in
theorem w_ripe : about1.ripe theMethod args0 below0 = true := by decide +kernel
theorem w_running : about1.status = .running := rfl
set_option maxRecDepth 65536 in
theorem w_room : about1.hasRoom e0.platform room_1 = true :=
  launch0.hasRoom_least _ room_1 (by decide +kernel) (by decide +kernel) (by decide +kernel) (by decide +kernel) (by decide +kernel) (by decide +kernel)
theorem allAtoms_all (ts : List Jvm.Cond) (a : Array Jvm.Value) (st : Jvm.State) : (allAtoms ts).before a st = ts.all (fun c => c.before a st) := by
  induction ts with
  | nil => rfl
  | cons c t ih =>
    show (Jvm.Cond.and c (allAtoms t)).before a st = _
    rw [Jvm.Cond.before_and, ih, List.all_cons]
def words1 : List Jvm.Cond := Jvm.Cond.code x code maxLocals ret :: tables_1
/-- a 'code' word, met by the world's own term for the bytes: nothing is compared byte by byte -/
theorem code_word {y : MethodName} {bytes : ByteArray} {mx : Nat} {rt : Option FieldType} {a : Array Value} {s : State} {m : MethodId} {meth : Method} {c : Code} (h1 : s.methodNamed? y = some m) (h2 : s.vm.method? m = some meth) (h3 : meth.code = some c) (h4 : c.code = bytes)
    (h5 : (c.maxLocals == mx && c.exceptionTable.isEmpty && decide (c.maxStack ≤ mostOperands) && decide (meth.sig.returnType = rt) && !meth.locks && decide (parseMethodDescriptor y.desc = some meth.sig)) = true) : (Jvm.Cond.code y bytes mx rt).before a s = true := by
  simp only [Bool.and_eq_true, beq_iff_eq, Bool.not_eq_true', decide_eq_true_eq] at h5
  obtain ⟨⟨⟨⟨⟨g1, g2⟩, g3⟩, g4⟩, g5⟩, g6⟩ := h5
  simp [Cond.before, Cond.holds, Cond.value, h1, h2, h3, h4, g1, g2, g3, g4, g5, g6]
def isCode : Jvm.Cond → Bool
  | .code _ _ _ _ => true
  | _ => false
theorem all_split {L : List Jvm.Cond} {P : Jvm.Cond → Bool} (h1 : L.all (fun c => isCode c || P c) = true) (h2 : ∀ c ∈ L.filter isCode, P c = true) : L.all P = true := by
  refine List.all_eq_true.mpr fun c hc => ?_
  have h := List.all_eq_true.mp h1 c hc
  rcases Bool.eq_false_or_eq_true (isCode c) with hi | hi
  · exact h2 c (List.mem_filter.mpr ⟨hc, hi⟩)
  · simpa [hi] using h
set_option maxRecDepth 65536 in
theorem w_c0 : (Jvm.Cond.code x code maxLocals ret).before args0 about1 = true := code_word (m := ⟨1, 1⟩) (meth := k1m1) (c := k1c1) (by decide +kernel) rfl rfl rfl (by decide +kernel)
set_option maxRecDepth 65536 in
theorem w_c1 : (Jvm.Cond.code ({ cls := "com/example/kurslot/kurslot/engine/PriceLadderLevelPinLaw", name := "fix", desc := "(ZJ)J" } : Jvm.MethodName) method_3_code (3 : Nat) (Option.some Jvm.ClassFile.FieldType.long)).before args0 about1 = true := code_word (m := ⟨1, 2⟩) (meth := k1m2) (c := k1c2) (by decide +kernel) rfl rfl rfl (by decide +kernel)
set_option maxRecDepth 65536 in
theorem w_c2 : (Jvm.Cond.code ({ cls := "com/example/kurslot/kurslot/engine/PriceLadder", name := "<init>", desc := "(Lcom/example/kurslot/kurslot/engine/Side;)V" } : Jvm.MethodName) prog_27_method_1_code (2 : Nat) (Option.none : Option Jvm.ClassFile.FieldType)).before args0 about1 = true := code_word (m := ⟨2, 0⟩) (meth := k2m0) (c := k2c0) (by decide +kernel) rfl rfl rfl (by decide +kernel)
set_option maxRecDepth 65536 in
theorem w_c3 : (Jvm.Cond.code ({ cls := "java/lang/Object", name := "<init>", desc := "()V" } : Jvm.MethodName) object_method_1_code (1 : Nat) (Option.none : Option Jvm.ClassFile.FieldType)).before args0 about1 = true := code_word (m := ⟨0, 0⟩) (meth := k0m0) (c := k0c0) (by decide +kernel) rfl rfl rfl (by decide +kernel)
set_option maxRecDepth 65536 in
theorem w_c4 : (Jvm.Cond.code ({ cls := "com/example/kurslot/kurslot/engine/PriceLadder", name := "levelAt", desc := "(J)Lcom/example/kurslot/kurslot/engine/PriceLevel;" } : Jvm.MethodName) prog_27_method_7_code (7 : Nat) (Option.some (Jvm.ClassFile.FieldType.object "com/example/kurslot/kurslot/engine/PriceLevel"))).before args0 about1 = true := code_word (m := ⟨2, 3⟩) (meth := k2m3) (c := k2c3) (by decide +kernel) rfl rfl rfl (by decide +kernel)
set_option maxRecDepth 65536 in
theorem w_c5 : (Jvm.Cond.code ({ cls := "com/example/kurslot/kurslot/engine/PriceLadder", name := "rank", desc := "(J)J" } : Jvm.MethodName) prog_27_method_9_code (3 : Nat) (Option.some Jvm.ClassFile.FieldType.long)).before args0 about1 = true := code_word (m := ⟨2, 4⟩) (meth := k2m4) (c := k2c4) (by decide +kernel) rfl rfl rfl (by decide +kernel)
set_option maxRecDepth 65536 in
theorem w_c6 : (Jvm.Cond.code ({ cls := "java/util/Arrays", name := "binarySearch", desc := "([JIIJ)I" } : Jvm.MethodName) jdk_65_method_55_code (5 : Nat) (Option.some Jvm.ClassFile.FieldType.int)).before args0 about1 = true := code_word (m := ⟨9, 2⟩) (meth := k9m2) (c := k9c2) (by decide +kernel) rfl rfl rfl (by decide +kernel)
set_option maxRecDepth 65536 in
theorem w_c7 : (Jvm.Cond.code ({ cls := "java/util/Arrays", name := "rangeCheck", desc := "(III)V" } : Jvm.MethodName) jdk_65_method_30_code (3 : Nat) (Option.none : Option Jvm.ClassFile.FieldType)).before args0 about1 = true := code_word (m := ⟨9, 1⟩) (meth := k9m1) (c := k9c1) (by decide +kernel) rfl rfl rfl (by decide +kernel)
set_option maxRecDepth 65536 in
theorem w_c8 : (Jvm.Cond.code ({ cls := "java/util/Arrays", name := "binarySearch0", desc := "([JIIJ)I" } : Jvm.MethodName) jdk_65_method_56_code (10 : Nat) (Option.some Jvm.ClassFile.FieldType.int)).before args0 about1 = true := code_word (m := ⟨9, 3⟩) (meth := k9m3) (c := k9c3) (by decide +kernel) rfl rfl rfl (by decide +kernel)
set_option maxRecDepth 65536 in
theorem w_c9 : (Jvm.Cond.code ({ cls := "com/example/kurslot/kurslot/engine/PriceLevel", name := "<init>", desc := "()V" } : Jvm.MethodName) prog_29_method_1_code (1 : Nat) (Option.none : Option Jvm.ClassFile.FieldType)).before args0 about1 = true := code_word (m := ⟨8, 0⟩) (meth := k8m0) (c := k8c0) (by decide +kernel) rfl rfl rfl (by decide +kernel)
set_option maxRecDepth 65536 in
theorem w_c10 : (Jvm.Cond.code ({ cls := "com/example/kurslot/kurslot/engine/PriceLadder", name := "size", desc := "()I" } : Jvm.MethodName) prog_27_method_2_code (1 : Nat) (Option.some Jvm.ClassFile.FieldType.int)).before args0 about1 = true := code_word (m := ⟨2, 1⟩) (meth := k2m1) (c := k2c1) (by decide +kernel) rfl rfl rfl (by decide +kernel)
set_option maxRecDepth 65536 in
theorem w_c11 : (Jvm.Cond.code ({ cls := "com/example/kurslot/kurslot/engine/PriceLadderLevelPinLaw", name := "depthOf", desc := "(ZJJJZZJ)I" } : Jvm.MethodName) method_5_code (12 : Nat) (Option.some Jvm.ClassFile.FieldType.int)).before args0 about1 = true := code_word (m := ⟨1, 4⟩) (meth := k1m4) (c := k1c4) (by decide +kernel) rfl rfl rfl (by decide +kernel)
set_option maxRecDepth 65536 in
theorem w_c12 : (Jvm.Cond.code ({ cls := "com/example/kurslot/kurslot/engine/PriceLadderLevelPinLaw", name := "better", desc := "(ZJJ)I" } : Jvm.MethodName) method_4_code (6 : Nat) (Option.some Jvm.ClassFile.FieldType.int)).before args0 about1 = true := code_word (m := ⟨1, 3⟩) (meth := k1m3) (c := k1c3) (by decide +kernel) rfl rfl rfl (by decide +kernel)
set_option maxRecDepth 65536 in
theorem w_c13 : (Jvm.Cond.code ({ cls := "com/example/kurslot/kurslot/engine/PriceLadder", name := "level", desc := "(I)Lcom/example/kurslot/kurslot/engine/PriceLevel;" } : Jvm.MethodName) prog_27_method_4_code (2 : Nat) (Option.some (Jvm.ClassFile.FieldType.object "com/example/kurslot/kurslot/engine/PriceLevel"))).before args0 about1 = true := code_word (m := ⟨2, 2⟩) (meth := k2m2) (c := k2c2) (by decide +kernel) rfl rfl rfl (by decide +kernel)
def codes1 : List Jvm.Cond := [Jvm.Cond.code x code maxLocals ret, Jvm.Cond.code ({ cls := "com/example/kurslot/kurslot/engine/PriceLadderLevelPinLaw", name := "fix", desc := "(ZJ)J" } : Jvm.MethodName) method_3_code (3 : Nat) (Option.some Jvm.ClassFile.FieldType.long), Jvm.Cond.code ({ cls := "com/example/kurslot/kurslot/engine/PriceLadder", name := "<init>", desc := "(Lcom/example/kurslot/kurslot/engine/Side;)V" } : Jvm.MethodName) prog_27_method_1_code (2 : Nat) (Option.none : Option Jvm.ClassFile.FieldType), Jvm.Cond.code ({ cls := "java/lang/Object", name := "<init>", desc := "()V" } : Jvm.MethodName) object_method_1_code (1 : Nat) (Option.none : Option Jvm.ClassFile.FieldType), Jvm.Cond.code ({ cls := "com/example/kurslot/kurslot/engine/PriceLadder", name := "levelAt", desc := "(J)Lcom/example/kurslot/kurslot/engine/PriceLevel;" } : Jvm.MethodName) prog_27_method_7_code (7 : Nat) (Option.some (Jvm.ClassFile.FieldType.object "com/example/kurslot/kurslot/engine/PriceLevel")), Jvm.Cond.code ({ cls := "com/example/kurslot/kurslot/engine/PriceLadder", name := "rank", desc := "(J)J" } : Jvm.MethodName) prog_27_method_9_code (3 : Nat) (Option.some Jvm.ClassFile.FieldType.long), Jvm.Cond.code ({ cls := "java/util/Arrays", name := "binarySearch", desc := "([JIIJ)I" } : Jvm.MethodName) jdk_65_method_55_code (5 : Nat) (Option.some Jvm.ClassFile.FieldType.int), Jvm.Cond.code ({ cls := "java/util/Arrays", name := "rangeCheck", desc := "(III)V" } : Jvm.MethodName) jdk_65_method_30_code (3 : Nat) (Option.none : Option Jvm.ClassFile.FieldType), Jvm.Cond.code ({ cls := "java/util/Arrays", name := "binarySearch0", desc := "([JIIJ)I" } : Jvm.MethodName) jdk_65_method_56_code (10 : Nat) (Option.some Jvm.ClassFile.FieldType.int), Jvm.Cond.code ({ cls := "com/example/kurslot/kurslot/engine/PriceLevel", name := "<init>", desc := "()V" } : Jvm.MethodName) prog_29_method_1_code (1 : Nat) (Option.none : Option Jvm.ClassFile.FieldType), Jvm.Cond.code ({ cls := "com/example/kurslot/kurslot/engine/PriceLadder", name := "size", desc := "()I" } : Jvm.MethodName) prog_27_method_2_code (1 : Nat) (Option.some Jvm.ClassFile.FieldType.int), Jvm.Cond.code ({ cls := "com/example/kurslot/kurslot/engine/PriceLadderLevelPinLaw", name := "depthOf", desc := "(ZJJJZZJ)I" } : Jvm.MethodName) method_5_code (12 : Nat) (Option.some Jvm.ClassFile.FieldType.int), Jvm.Cond.code ({ cls := "com/example/kurslot/kurslot/engine/PriceLadderLevelPinLaw", name := "better", desc := "(ZJJ)I" } : Jvm.MethodName) method_4_code (6 : Nat) (Option.some Jvm.ClassFile.FieldType.int), Jvm.Cond.code ({ cls := "com/example/kurslot/kurslot/engine/PriceLadder", name := "level", desc := "(I)Lcom/example/kurslot/kurslot/engine/PriceLevel;" } : Jvm.MethodName) prog_27_method_4_code (2 : Nat) (Option.some (Jvm.ClassFile.FieldType.object "com/example/kurslot/kurslot/engine/PriceLevel"))]
set_option maxRecDepth 65536 in
theorem codes_eq : words1.filter isCode = codes1 := rfl
theorem w_codes : ∀ c ∈ words1.filter isCode, c.before args0 about1 = true := by
  rw [codes_eq]
  intro c hc
  simp only [codes1, List.mem_cons, List.not_mem_nil, or_false] at hc
  rcases hc with rfl | rfl | rfl | rfl | rfl | rfl | rfl | rfl | rfl | rfl | rfl | rfl | rfl | rfl
  · exact w_c0
  · exact w_c1
  · exact w_c2
  · exact w_c3
  · exact w_c4
  · exact w_c5
  · exact w_c6
  · exact w_c7
  · exact w_c8
  · exact w_c9
  · exact w_c10
  · exact w_c11
  · exact w_c12
  · exact w_c13
set_option maxRecDepth 65536 in
theorem w_t1 : (words1.take 24).all (fun c => isCode c || c.before args0 about1) = true := by decide +kernel
set_option maxRecDepth 65536 in
theorem w_t2 : ((words1.drop 24).take 24).all (fun c => isCode c || c.before args0 about1) = true := by decide +kernel
set_option maxRecDepth 65536 in
theorem w_t3 : (((words1.drop 24).drop 24).take 24).all (fun c => isCode c || c.before args0 about1) = true := by decide +kernel
set_option maxRecDepth 65536 in
theorem w_t4 : (((words1.drop 24).drop 24).drop 24).all (fun c => isCode c || c.before args0 about1) = true := by decide +kernel
theorem w_tables : (allAtoms (Jvm.Cond.code x code maxLocals ret :: tables_1)).before args0 about1 = true := by
  rw [allAtoms_all]
  show words1.all (fun c => c.before args0 about1) = true
  refine all_split ?_ w_codes
  rw [← List.take_append_drop 24 words1, List.all_append, w_t1, ← List.take_append_drop 24 (words1.drop 24), List.all_append, w_t2, ← List.take_append_drop 24 ((words1.drop 24).drop 24), List.all_append, w_t3, w_t4]
  rfl
set_option maxRecDepth 65536 in
theorem w_case : (Jvm.Cond.and given_1 narrow_1).before args0 about1 = true := by decide +kernel
theorem w_applies : (headSpec (Jvm.Cond.code x code maxLocals ret :: tables_1) room_1).applies x e0.platform about1 = true :=
  (Spec.applies_iff w_frames).mpr ⟨w_running, w_runnable, w_alone, w_named, w_hears, w_ripe, w_room, w_tables⟩
theorem atStart : AtStart classFile x code maxLocals ret World_1 tables_1 room_1 Calls_1 rest_1 Pre_1 launch0 p0 e0 about1 theMethod args0 below0 :=
  ⟨lists_1, trivial, launch0.admits_env _ _ _, launch0.least_env, fairChoices_fair.cas, fairChoices_fair.clock, w_frames, w_args, w_heap, w_applies, trivial, trivial, w_case⟩
end start1
theorem witness_1 : WitnessClaimed_1 := ⟨start1.p0, start1.e0, start1.about1, start1.theMethod, start1.args0, start1.below0, start1.atStart⟩
end Jvm.Pilot.@@N@@
