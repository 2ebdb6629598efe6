import JvmDerived
import JvmDerived.Pilot.@@N@@Statement
import JvmDerived.Pilot.@@N@@Code
set_option linter.unusedVariables false
set_option linter.unusedSimpArgs false
namespace Jvm.Pilot.@@N@@
open Jvm Jvm.ClassFile Sem Op Lib Jvm.Free Jvm.Stand Jvm.LawKit Jvm.RoadKit Bundle Jvm.Pilot.@@N@@.Jvm.D
section Own
variable {p : Program} {l : Launch} {e : Env} {R : Room} {s : State} {m : MethodId} {args : Array Value} {below : List Frame} {meth : Method} {c : Code} {T T' : State} {locs : List Loc} {cells slots : Nat} {Z : State} {a0 : Array Value} {h : Heap} {K N : Nat} {Q : Option Value → Heap → List Loc → Prop}
/-- from the state T with the frame g on top the invocation comes to its end, and Q holds of what it leaves -/
def own_Fin (p : Program) (e : Env) (s : State) (below : List Frame) (K N : Nat) (Q : Option Value → Heap → List Loc → Prop) (T : State) (g : JFrame) : Prop :=
  ∃ s₂ o, Steps p.tables e below (T.setTop g) s₂ ∧ s₂.status = .running ∧ Ended s₂ below o ∧ ∃ v L, o = .returned v ∧ Q v s₂.heap L ∧ FrameEnd s o s₂ L K N
/-- a contract of this family: called with as' at the heap h the method returns, and Q holds -/
abbrev own_Met (l : Launch) (Z : State) (y : MethodName) (bytes : ByteArray) (maxL : Nat) (ret : Option FieldType) (ws : List Jvm.Cond) (rm : Room) (as' : Array Value) (h : Heap) (Q : Option Value → Heap → List Loc → Prop) : Prop :=
  MetFree l y (head1 (Jvm.Cond.code y bytes maxL ret :: ws) rm) (fun a U => a = as' ∧ Z.Warmed39 U.vm ∧ U.heap = h) (fun _ _ _ _ _ => True) (fun _ U o U' => ∃ v L, o = .returned v ∧ Q v U'.heap L ∧ FrameEnd U o U' L rm.cells rm.slots)
/-- a method that writes nothing and makes nothing: it returns w -/
def own_Q0 (h : Heap) (w : Value) (v : Option Value) (h' : Heap) (L : List Loc) : Prop := v = some w ∧ L = [] ∧ h' = h
abbrev own_Pure (l : Launch) (Z : State) (y : MethodName) (bytes : ByteArray) (maxL : Nat) (ret : Option FieldType) (fr lo : Nat) (as' : Array Value) (h : Heap) (w : Value) : Prop :=
  own_Met l Z y bytes maxL ret [] ({ frames := fr, cells := 0, slots := 0, locals := lo } : Room) as' h (own_Q0 h w)
theorem own_step {g g' : JFrame} (st : ∀ t, Steps p.tables e below (T'.setTop g') t → Steps p.tables e below (T.setTop g) t) (H : own_Fin p e s below K N Q T' g') : own_Fin p e s below K N Q T g := by
  obtain ⟨s2, o, h1, r⟩ := H
  exact ⟨s2, o, st _ h1, r⟩
theorem own_body {y : MethodName} {bytes : ByteArray} {maxL : Nat} {ret : Option FieldType} {ws : List Jvm.Cond} {rm : Room} {as' : Array Value} (hpn : plainName y.cls = true)
    (F : ∀ (p : Program) (e : Env) (s : State) (m : MethodId) (below : List Frame) (meth : Method) (c : Code) (s₁ : State), p.tables.exec = Jvm.exec → c.code = bytes → c.maxLocals = maxL → Z.Warmed39 s.vm → s.vm.findClass y.cls = some m.cls → meth.name = y.name → meth.sig.returnType = ret → meth.locks = false →
      Stand p l e rm s m as' below meth c s₁ [] 0 0 → s₁.heap = h → own_Fin p e s below rm.cells rm.slots Q s₁ (entryFrame m as' maxL)) : own_Met l Z y bytes maxL ret ws rm as' h Q := by
  refine MetFree.of_bodySF (plainFor_of_name hpn) hisR ?_
  intro p e s m args below meth c s₁ Bd hml0 hP hK
  obtain ⟨rfl, hZ, hh⟩ := hP
  exact F p e s m below meth c s₁ Bd.exec Bd.bytes hml0 hZ (findClass_of_methodNamed Bd.named) (name_of_methodNamed Bd.named Bd.method).1 Bd.returns Bd.notSynchronized (Stand.of_body Bd) (by rw [← hh, Bd.state]; rfl)
theorem own_end (X : Stand p l e R s m args below meth c T locs cells slots) {v : Option Value} (hv : meth.sig.returnType = none → v = none) (hlk : meth.locks = false) {g : JFrame}
    (st : ∀ fs, (∀ (f : JFrame) (acts : List Action), f.method = m → f.locked = none → f.entered = [] → (doReturn e (T.setTop f) acts v).1 = T.setFrames fs) → Steps p.tables e below (T.setTop g) (T.setFrames fs))
    (hQ : Q v T.heap locs) (hk : cells ≤ K) (hn : slots ≤ N) : own_Fin p e s below K N Q T g := by
  obtain ⟨fs, hr, hrun, hended, hW, hsame⟩ := X.leave (v := v) hv hlk
  exact ⟨_, _, st fs hr, hrun, hended, _, _, rfl, hQ, ⟨_, rfl⟩, hW, hsame.mono hk hn⟩
theorem own_retZ (X : Stand p l e R s m args below meth c T locs cells slots) (hx : p.tables.exec = Jvm.exec) (hret : meth.sig.returnType = some .boolean) (hlk : meth.locks = false) {pc : Nat} {Ls : Array Slot} {z : Int32} {rest : List Value} (hd : decode c.code pc = .ok (.ireturn, 1)) (hz : z = 0 ∨ z = 1)
    (hQ : Q (some (.int z)) T.heap locs) (hk : cells ≤ K) (hn : slots ≤ N) : own_Fin p e s below K N Q T (mkF m pc Ls (.int z :: rest)) := by
  refine own_end X (v := some (.int z)) (fun q => by rw [hret] at q; cases q) hlk (fun fs hr => ?_) hQ hk hn
  have hnar : nar .boolean z = z := by rcases hz with rfl | rfl <;> rfl
  exact retN X hx (t := .boolean) hret (Or.inl rfl) hd (by rw [hnar]; exact hr)
theorem own_retA (X : Stand p l e R s m args below meth c T locs cells slots) (hx : p.tables.exec = Jvm.exec) {t : FieldType} (hret : meth.sig.returnType = some t) (ht : t.isReference = true) (hlk : meth.locks = false) {pc : Nat} {Ls : Array Slot} {w : Value} {rest : List Value} (hd : decode c.code pc = .ok (.areturn, 1)) (hw : w.isRef = true)
    (hQ : Q (some w) T.heap locs) (hk : cells ≤ K) (hn : slots ≤ N) : own_Fin p e s below K N Q T (mkF m pc Ls (w :: rest)) := by
  refine own_end X (v := some w) (fun q => by rw [hret] at q; cases q) hlk (fun fs hr => ?_) hQ hk hn
  refine retOut X hx (i := .areturn) hret ?_ (Or.inr (Or.inr (Or.inr (Or.inr ⟨rfl, ht, hw⟩)))) hd hr
  rcases ref_cases hw with rfl | ⟨a, rfl⟩ <;> cases t <;> first | rfl | (cases ht; done)
theorem own_getS (X : Stand p l e R s m args below meth c T locs cells slots) (hx : p.tables.exec = Jvm.exec) (hZ : Z.Warmed39 s.vm) {own O n d : String} {index : Nat} (hown : s.vm.findClass own = some m.cls) (w : (Jvm.Cond.fieldLink own index O n d).before a0 Z = true) (eT : T.heap = h) {v : Value} (F : Sta Z h O n d v)
    {pc : Nat} {Ls : Array Slot} {st : List Value} (hd : decode c.code pc = .ok (.getstatic index, 3)) (H : ∀ T', Stand p l e R s m args below meth c T' locs cells slots → T'.heap = h → own_Fin p e s below K N Q T' (mkF m (pc + 3) Ls (v :: st))) : own_Fin p e s below K N Q T (mkF m pc Ls st) := by
  obtain ⟨T', X', e', st'⟩ := getS (host := "") X hx hZ hown w Via.refl eT F (g := mkF m pc Ls st) rfl hd
  exact own_step st' (H T' X' e')
theorem own_getF (X : Stand p l e R s m args below meth c T locs cells slots) (hx : p.tables.exec = Jvm.exec) (hZ : Z.Warmed39 s.vm) {own O n d : String} {index : Nat} (hown : s.vm.findClass own = some m.cls) (w : (Jvm.Cond.fieldLink own index O n d).before a0 Z = true) (eT : T.heap = h) {a : Addr} {v : Value} (F : Fld Z h a O n d v)
    {pc : Nat} {Ls : Array Slot} {st : List Value} (hd : decode c.code pc = .ok (.getfield index, 3)) (H : ∀ T', Stand p l e R s m args below meth c T' locs cells slots → T'.heap = h → own_Fin p e s below K N Q T' (mkF m (pc + 3) Ls (v :: st))) : own_Fin p e s below K N Q T (mkF m pc Ls (.ref a :: st)) := by
  obtain ⟨T', X', e', st'⟩ := getF (host := "") X hx hZ hown (Or.inl w) Via.refl eT F (g := mkF m pc Ls (.ref a :: st)) rfl rfl hd
  exact own_step st' (H T' X' e')
/-- a static method by its contract -/
theorem own_callS (X : Stand p l e R s m args below meth c T locs cells slots) (hx : p.tables.exec = Jvm.exec) (hZ : Z.Warmed39 s.vm) {own : String} {index : Nat} {y : MethodName} {bytes : ByteArray} {maxL : Nat} {ret : Option FieldType} {rm : Room} {Q' : Option Value → Heap → List Loc → Prop} {argsL rest : List Value}
    (hown : s.vm.findClass own = some m.cls) (w1 : (Jvm.Cond.methodLink own index y).before a0 Z = true) (w2 : (Jvm.Cond.static y).before a0 Z = true) (w3 : (Jvm.Cond.initialized y.cls).before a0 Z = true) (w4 : (Jvm.Cond.code y bytes maxL ret).before a0 Z = true)
    (hy : y.cls ≠ "java/lang/invoke/MethodHandle" ∧ y.cls ≠ "java/lang/invoke/VarHandle") (M : own_Met l Z y bytes maxL ret [] rm argsL.toArray h Q') (eT : T.heap = h) (W : Nat) (hW : (rest.map fun v => v.category).sum ≤ W) (hf : rm.frames + 1 ≤ R.frames) (hl : W + (maxL + 11) + rm.locals ≤ R.locals) (hc : cells + rm.cells ≤ R.cells) (hs : slots + rm.slots ≤ R.slots)
    {pc : Nat} {Ls : Array Slot} {st : List Value} (hml : c.maxLocals = Ls.size) {ps : List FieldType} {r : Option FieldType} (hsig : parseMethodDescriptor y.desc = some ⟨ps, r⟩) (hlen : argsL.length = ps.length) (hst : st = argsL.reverse ++ rest) (hd : decode c.code pc = .ok (.invokestatic index, 3))
    (H : ∀ T' L v, Stand p l e R s m args below meth c T' (locs ++ L) (cells + rm.cells) (slots + rm.slots) → Q' v T'.heap L → own_Fin p e s below K N Q T' (mkF m (pc + 3) Ls (v.toList ++ rest))) : own_Fin p e s below K N Q T (mkF m pc Ls st) := by
  obtain ⟨v, _, ⟨T', L', k', n'⟩, -, X', ⟨Lc, hQ, l', y', z'⟩, st'⟩ := Jvm.LawKit.callS X hx (y := y) hown (mvT hZ w1) (mvT hZ w2) (mvT hZ w3) (mvT hZ w4) hy (backOf (W := W) M hZ w4 w3 hf hl) (g := mkF m pc Ls st) rfl (by rw [hml]) (argsL := argsL) (rest := rest) (lenOf hsig hlen) hst (by show 2 * 0 + _ ≤ _; omega) hd (fun _ _ => ⟨rfl, eT, hc, hs⟩)
  dsimp only [Pt.U, Pt.locs, Pt.cells, Pt.slots] at X' l' y' z' st' hQ
  subst l' y' z'
  exact own_step st' (H T' Lc v X' hQ)
/-- an instance method by its contract, the receiver exactly of the class C -/
theorem own_callV (X : Stand p l e R s m args below meth c T locs cells slots) (hx : p.tables.exec = Jvm.exec) (hZ : Z.Warmed39 s.vm) {own C : String} {index : Nat} {y : MethodName} {bytes : ByteArray} {maxL : Nat} {ret : Option FieldType} {rm : Room} {Q' : Option Value → Heap → List Loc → Prop} {b : Addr} {argsL rest : List Value}
    (hown : s.vm.findClass own = some m.cls) (w1 : (Jvm.Cond.methodLink own index y).before a0 Z = true) (w2 : (Jvm.Cond.declares y).before a0 Z = true) (w3 : (Jvm.Cond.selects C y y).before a0 Z = true) (w4 : (Jvm.Cond.instanceMethod y).before a0 Z = true) (w5 : (Jvm.Cond.code y bytes maxL ret).before a0 Z = true) (w6 : (Jvm.Cond.initialized y.cls).before a0 Z = true)
    (hy : y.cls ≠ "java/lang/invoke/MethodHandle" ∧ y.cls ≠ "java/lang/invoke/VarHandle") (E : Exa Z h b C) (M : own_Met l Z y bytes maxL ret [] rm (.ref b :: argsL).toArray h Q') (eT : T.heap = h) (W : Nat) (hW : (rest.map fun v => v.category).sum ≤ W) (hf : rm.frames + 1 ≤ R.frames) (hl : W + (maxL + 11) + rm.locals ≤ R.locals) (hc : cells + rm.cells ≤ R.cells) (hs : slots + rm.slots ≤ R.slots)
    {pc : Nat} {Ls : Array Slot} {st : List Value} (hml : c.maxLocals = Ls.size) {ps : List FieldType} {r : Option FieldType} (hsig : parseMethodDescriptor y.desc = some ⟨ps, r⟩) (hlen : argsL.length = ps.length) (hst : st = argsL.reverse ++ .ref b :: rest) (hd : decode c.code pc = .ok (.invokevirtual index, 3))
    (H : ∀ T' L v, Stand p l e R s m args below meth c T' (locs ++ L) (cells + rm.cells) (slots + rm.slots) → Q' v T'.heap L → own_Fin p e s below K N Q T' (mkF m (pc + 3) Ls (v.toList ++ rest))) : own_Fin p e s below K N Q T (mkF m pc Ls st) := by
  obtain ⟨cq, kq, q1, q2, q3⟩ := isOf hZ eT E
  obtain ⟨v, _, ⟨T', L', k', n'⟩, -, X', ⟨Lc, hQ, l', y', z'⟩, st'⟩ := X.virtualBack hx (y := y) (z := y) hown (mvT hZ w1) (mvT hZ w2) (notFace_of_selects (args := #[]) (mvT hZ w3)) (mvT hZ w3) (mvT hZ w4) hy (backOf (W := W) M hZ w5 w6 hf hl) q1 q3 (g := mkF m pc Ls st) rfl (by rw [hml]) (Steps.refl _) (argsL := argsL) (rest := rest) (lenOf hsig hlen) hst (by show 2 * 0 + _ ≤ _; omega) hd (fun _ _ => ⟨rfl, eT, hc, hs⟩)
  dsimp only [Pt.U, Pt.locs, Pt.cells, Pt.slots] at X' l' y' z' st' hQ
  subst l' y' z'
  exact own_step (fun _ k => st'.trans k) (H T' Lc v X' hQ)
theorem own_callS0 (X : Stand p l e R s m args below meth c T locs cells slots) (hx : p.tables.exec = Jvm.exec) (hZ : Z.Warmed39 s.vm) {own : String} {index : Nat} {y : MethodName} {bytes : ByteArray} {maxL : Nat} {ret : Option FieldType} {fr lo : Nat} {w : Value} {argsL rest : List Value}
    (hown : s.vm.findClass own = some m.cls) (w1 : (Jvm.Cond.methodLink own index y).before a0 Z = true) (w2 : (Jvm.Cond.static y).before a0 Z = true) (w3 : (Jvm.Cond.initialized y.cls).before a0 Z = true) (w4 : (Jvm.Cond.code y bytes maxL ret).before a0 Z = true)
    (hy : y.cls ≠ "java/lang/invoke/MethodHandle" ∧ y.cls ≠ "java/lang/invoke/VarHandle") (M : own_Pure l Z y bytes maxL ret fr lo argsL.toArray h w) (eT : T.heap = h) (W : Nat) (hW : (rest.map fun v => v.category).sum ≤ W) (hf : fr + 1 ≤ R.frames) (hl : W + (maxL + 11) + lo ≤ R.locals) (hc : cells ≤ R.cells) (hs : slots ≤ R.slots)
    {pc : Nat} {Ls : Array Slot} {st : List Value} (hml : c.maxLocals = Ls.size) {ps : List FieldType} {r : Option FieldType} (hsig : parseMethodDescriptor y.desc = some ⟨ps, r⟩) (hlen : argsL.length = ps.length) (hst : st = argsL.reverse ++ rest) (hd : decode c.code pc = .ok (.invokestatic index, 3))
    (H : ∀ T', Stand p l e R s m args below meth c T' locs cells slots → T'.heap = h → own_Fin p e s below K N Q T' (mkF m (pc + 3) Ls (w :: rest))) : own_Fin p e s below K N Q T (mkF m pc Ls st) := by
  refine own_callS X hx hZ hown w1 w2 w3 w4 hy M eT W hW hf hl hc hs hml hsig hlen hst hd ?_
  rintro T' L v X' ⟨rfl, rfl, q⟩
  rw [List.append_nil] at X'
  exact H T' X' q
theorem own_callV0 (X : Stand p l e R s m args below meth c T locs cells slots) (hx : p.tables.exec = Jvm.exec) (hZ : Z.Warmed39 s.vm) {own C : String} {index : Nat} {y : MethodName} {bytes : ByteArray} {maxL : Nat} {ret : Option FieldType} {fr lo : Nat} {w : Value} {b : Addr} {argsL rest : List Value}
    (hown : s.vm.findClass own = some m.cls) (w1 : (Jvm.Cond.methodLink own index y).before a0 Z = true) (w2 : (Jvm.Cond.declares y).before a0 Z = true) (w3 : (Jvm.Cond.selects C y y).before a0 Z = true) (w4 : (Jvm.Cond.instanceMethod y).before a0 Z = true) (w5 : (Jvm.Cond.code y bytes maxL ret).before a0 Z = true) (w6 : (Jvm.Cond.initialized y.cls).before a0 Z = true)
    (hy : y.cls ≠ "java/lang/invoke/MethodHandle" ∧ y.cls ≠ "java/lang/invoke/VarHandle") (E : Exa Z h b C) (M : own_Pure l Z y bytes maxL ret fr lo (.ref b :: argsL).toArray h w) (eT : T.heap = h) (W : Nat) (hW : (rest.map fun v => v.category).sum ≤ W) (hf : fr + 1 ≤ R.frames) (hl : W + (maxL + 11) + lo ≤ R.locals) (hc : cells ≤ R.cells) (hs : slots ≤ R.slots)
    {pc : Nat} {Ls : Array Slot} {st : List Value} (hml : c.maxLocals = Ls.size) {ps : List FieldType} {r : Option FieldType} (hsig : parseMethodDescriptor y.desc = some ⟨ps, r⟩) (hlen : argsL.length = ps.length) (hst : st = argsL.reverse ++ .ref b :: rest) (hd : decode c.code pc = .ok (.invokevirtual index, 3))
    (H : ∀ T', Stand p l e R s m args below meth c T' locs cells slots → T'.heap = h → own_Fin p e s below K N Q T' (mkF m (pc + 3) Ls (w :: rest))) : own_Fin p e s below K N Q T (mkF m pc Ls st) := by
  refine own_callV X hx hZ hown w1 w2 w3 w4 w5 w6 hy E M eT W hW hf hl hc hs hml hsig hlen hst hd ?_
  rintro T' L v X' ⟨rfl, rfl, q⟩
  rw [List.append_nil] at X'
  exact H T' X' q
end Own
section OwnFacts
variable {Z : State} {h : Heap} {a b : Addr} {C n d : String} {v w : Value} {args : Array Value} {s : State} {t : Term}
theorem own_fld_uni (F : Fld Z h a C n d v) (G : Fld Z h a C n d w) : v = w := by
  obtain ⟨cell, cf, k, i, f, h1, h2, h3, h4, h5, h6, h7⟩ := F
  obtain ⟨cell', cf', k', i', f', g1, g2, g3, g4, g5, g6, g7⟩ := G
  cases h1.symm.trans g1
  cases h2.symm.trans g2
  exact Option.some.inj (h7.symm.trans g7)
theorem own_ne {j k : Int32} (F : Fld Z h a C n d (.int j)) (G : Fld Z h b C n d (.int k)) (hn : j ≠ k) : a ≠ b := fun e => by
  subst e; exact hn (Value.int.inj (own_fld_uni F G))
theorem own_eqi {k : Int32} (q : (Jvm.Cond.eq t (Term.int k)).value args s none s [] = some true) : t.eval args s none [] s = some (.int k) := by
  simp only [Jvm.Cond.value, Term.eval] at q
  cases ht : t.eval args s none [] s with
  | none => simp [ht] at q
  | some x => cases x <;> simp [ht] at q ⊢; exact q
theorem own_fldw {k : Int32} (ev : t.eval args s none [] s = some (.ref a)) (q : (Jvm.Cond.eq (Term.field t C n d) (Term.int k)).value args s none s [] = some true) : Fld s s.heap a C n d (.int k) :=
  Fld.start ((fld_at ev).symm.trans (own_eqi q))
end OwnFacts
section OwnArrays
/-- what a law leaves: it returns 1; it has written into new cells alone -/
def own_Q1 (n0 : Nat) (v : Option Value) (_ : Heap) (L : List Loc) : Prop := v = some (.int 1) ∧ Fr n0 L
variable {p : Program} {l : Launch} {e : Env} {R : Room} {s : State} {m : MethodId} {args : Array Value} {below : List Frame} {meth : Method} {c : Code} {T T' : State} {locs : List Loc} {cells slots : Nat} {Z : State} {a0 : Array Value} {h h0 : Heap} {K N n0 : Nat} {Q : Option Value → Heap → List Loc → Prop}
theorem own_ext_wr {h' : Heap} {a : Addr} {sl : Nat} {v : Value} (E : Ext h0 h) (W : Wr h h' a sl v) (ha : h0.size ≤ a) : Ext h0 h' := by
  refine ⟨by rw [W.size]; exact E.1, fun b cb hb => ?_⟩
  obtain ⟨c', e1, -, -, -, e5, -⟩ := wr_at W (E.2 _ _ hb)
  rw [e1, e5 (fun q => by have := (Array.getElem?_eq_some_iff.mp hb).1; subst q; exact absurd this (Nat.not_lt.mpr ha))]
theorem own_ext_trans {h1 h2 : Heap} (E : Ext h0 h1) (F : Ext h1 h2) : Ext h0 h2 := ⟨Nat.le_trans E.1 F.1, fun a c q => F.2 _ _ (E.2 _ _ q)⟩
theorem own_ext_refl (h0 : Heap) : Ext h0 h0 := ⟨Nat.le_refl _, fun _ _ q => q⟩
theorem own_fr_snoc {a : Addr} {k : Nat} (F : Fr n0 locs) (ha : n0 ≤ a) : Fr n0 (locs ++ [⟨a, k⟩]) := fun y hy => by
  rcases List.mem_append.mp hy with q | q
  · exact F y q
  · rw [List.mem_singleton.mp q]; exact ha
/-- anewarray of a known length -/
theorem own_newR (X : Stand p l e R s m args below meth c T locs cells slots) (hx : p.tables.exec = Jvm.exec) (hZ : Z.Warmed39 s.vm) {own C : String} {index : Nat} (hown : s.vm.findClass own = some m.cls) (w1 : (Jvm.Cond.classLink own index C).before a0 Z = true) (w2 : (Jvm.Cond.arrayOver (.object C)).before a0 Z = true)
    (eT : T.heap = h) {pc : Nat} {Ls : Array Slot} {n : Int32} {st : List Value} (cap : Nat) (hn : ¬ n < 0) (hcap : n.toNatClampNeg = cap) (hb8 : cap * 8 ≤ 536870912) (hc : cells + 1 ≤ R.cells) (hl : slots + cap ≤ R.slots) (hd : decode c.code pc = .ok (.anewarray index, 3))
    (H : ∀ T' h' cl, Stand p l e R s m args below meth c T' locs (cells + 1) (slots + cap) → T'.heap = h' → Ext h h' → Arr Z h' h.size cl (.object C) → Ovr Z cl.cls C → cl.slots = Array.replicate cap .null → own_Fin p e s below K N Q T' (mkF m (pc + 3) Ls (.ref h.size :: st))) : own_Fin p e s below K N Q T (mkF m pc Ls (.int n :: st)) := by
  obtain ⟨T', h', cA, X', e', E', A', O', st'⟩ := newR X hx hZ hown w1 w2 eT (g := mkF m pc Ls (.int n :: st)) rfl hd rfl hn (cap := cap) (Nat.le_of_eq hcap) hb8 hc hl
  exact own_step st' (H T' h' _ X' e' E' A' O' (by rw [← hcap]; rfl))
/-- newarray of a known length -/
theorem own_newP (X : Stand p l e R s m args below meth c T locs cells slots) (hx : p.tables.exec = Jvm.exec) (hZ : Z.Warmed39 s.vm) {aty : ArrayType} (w : (Jvm.Cond.arrayClass (newarray.typeOf aty)).before a0 Z = true)
    (eT : T.heap = h) {pc : Nat} {Ls : Array Slot} {n : Int32} {st : List Value} (cap : Nat) (hn : ¬ n < 0) (hcap : n.toNatClampNeg = cap) (hb8 : cap * 8 ≤ 536870912) (hc : cells + 1 ≤ R.cells) (hl : slots + cap ≤ R.slots) (hd : decode c.code pc = .ok (.newarray aty, 2))
    (H : ∀ T' h' cl, Stand p l e R s m args below meth c T' locs (cells + 1) (slots + cap) → T'.heap = h' → Ext h h' → Arr Z h' h.size cl (newarray.typeOf aty) → cl.slots = Array.replicate cap (defaultValue (newarray.typeOf aty)) → own_Fin p e s below K N Q T' (mkF m (pc + 2) Ls (.ref h.size :: st))) : own_Fin p e s below K N Q T (mkF m pc Ls (.int n :: st)) := by
  obtain ⟨T', h', cA, X', e', E', A', st'⟩ := newP X hx hZ w eT (g := mkF m pc Ls (.int n :: st)) rfl hd rfl hn (cap := cap) (Nat.le_of_eq hcap) hb8 hc hl
  exact own_step st' (H T' h' _ X' e' E' A' (by rw [← hcap]; rfl))
/-- a reference stored into an array that is new since h0 -/
theorem own_stR (X : Stand p l e R s m args below meth c T locs cells slots) (hx : p.tables.exec = Jvm.exec) (hZ : Z.Warmed39 s.vm) (eT : T.heap = h) {a y : Addr} {cl : Cell} {C : String} (A : Arr Z h a cl (.object C)) (O : Ovr Z cl.cls C) (I : Exa Z h y C) (E : Ext h0 h) (ha : h0.size ≤ a) (F : Fr n0 locs) (hn0 : n0 ≤ a)
    {j : Int32} (i : Nat) (hi : j.toNatClampNeg = i) (hj : ¬ j < 0) (his : i < cl.slots.size) {pc : Nat} {Ls : Array Slot} {st : List Value} (hd : decode c.code pc = .ok (.aastore, 1))
    (H : ∀ T' h' cl' locs', Stand p l e R s m args below meth c T' locs' cells slots → T'.heap = h' → Ext h0 h' → Arr Z h' a cl' (.object C) → Ovr Z cl'.cls C → Fr n0 locs' → cl'.slots = cl.slots.setIfInBounds i (.ref y) → (∀ (b : Addr) (cb : Cell) (tb : FieldType), b ≠ a → Arr Z h b cb tb → Arr Z h' b cb tb) → own_Fin p e s below K N Q T' (mkF m (pc + 1) Ls st)) : own_Fin p e s below K N Q T (mkF m pc Ls (.ref y :: .int j :: .ref a :: st)) := by
  obtain ⟨T', h', X', e', W', st'⟩ := stR X hx hZ eT A (j := j) (v := .ref y) (fun q => q.elim hj (by rw [hi]; omega)) rfl (Sto.of A O (Ins.self I)) (g := mkF m pc Ls (.ref y :: .int j :: .ref a :: st)) rfl rfl hd
  rw [hi] at X' W'
  exact own_step st' (H T' h' _ _ X' e' (own_ext_wr E W' ha) (A.same W') O (own_fr_snoc F hn0) rfl (fun b cb tb hne B => B.other W' hne))
/-- an int stored into an array that is new since h0 -/
theorem own_stI (X : Stand p l e R s m args below meth c T locs cells slots) (hx : p.tables.exec = Jvm.exec) (hZ : Z.Warmed39 s.vm) (eT : T.heap = h) {a : Addr} {cl : Cell} (A : Arr Z h a cl .int) (E : Ext h0 h) (ha : h0.size ≤ a) (F : Fr n0 locs) (hn0 : n0 ≤ a)
    {j x : Int32} (i : Nat) (hi : j.toNatClampNeg = i) (hj : ¬ j < 0) (his : i < cl.slots.size) {pc : Nat} {Ls : Array Slot} {st : List Value} (hd : decode c.code pc = .ok (.iastore, 1))
    (H : ∀ T' h' cl' locs', Stand p l e R s m args below meth c T' locs' cells slots → T'.heap = h' → Ext h0 h' → Arr Z h' a cl' .int → Fr n0 locs' → cl'.slots = cl.slots.setIfInBounds i (.int x) → (∀ (b : Addr) (cb : Cell) (tb : FieldType), b ≠ a → Arr Z h b cb tb → Arr Z h' b cb tb) → own_Fin p e s below K N Q T' (mkF m (pc + 1) Ls st)) : own_Fin p e s below K N Q T (mkF m pc Ls (.int x :: .int j :: .ref a :: st)) := by
  obtain ⟨T', h', X', e', W', st'⟩ := stI X hx hZ eT A (j := j) (x := x) (fun q => q.elim hj (by rw [hi]; omega)) (g := mkF m pc Ls (.int x :: .int j :: .ref a :: st)) rfl rfl hd
  rw [hi] at X' W'
  exact own_step st' (H T' h' _ _ X' e' (own_ext_wr E W' ha) (A.same W') (own_fr_snoc F hn0) rfl (fun b cb tb hne B => B.other W' hne))
/-- a method that writes nothing, called where the walk has already made and written -/
theorem own_ald {a : Addr} {cl : Cell} {ty : FieldType} (X : Stand p l e R s m args below meth c T locs cells slots) (hx : p.tables.exec = Jvm.exec) (hZ : Z.Warmed39 s.vm) (eT : T.heap = h) (A : Arr Z h a cl ty) (hty : ty.isReference = true) {j : Int32} {v : Value} (i : Nat) (hi : j.toNatClampNeg = i) (hj : ¬ j < 0) (hv : cl.slots[i]? = some v)
    {pc : Nat} {Ls : Array Slot} {st : List Value} (hd : decode c.code pc = .ok (.aaload, 1)) (H : own_Fin p e s below K N Q T (mkF m (pc + 1) Ls (v :: st))) : own_Fin p e s below K N Q T (mkF m pc Ls (.int j :: .ref a :: st)) := by
  have his := (Array.getElem?_eq_some_iff.mp hv).1
  exact own_step (fun _ k => Stand.aaload X hx (by rw [eT]; exact A.1) (State.isArrayOf_alike hZ.alike A.2.1) hty A.2.2 (fun q => q.elim hj (by rw [hi]; omega)) (by rw [hi]; exact hv) (g := mkF m pc Ls (.int j :: .ref a :: st)) rfl rfl hd _ k) H
theorem own_ild {a : Addr} {cl : Cell} (X : Stand p l e R s m args below meth c T locs cells slots) (hx : p.tables.exec = Jvm.exec) (hZ : Z.Warmed39 s.vm) (eT : T.heap = h) (A : Arr Z h a cl .int) {j : Int32} {v : Value} (i : Nat) (hi : j.toNatClampNeg = i) (hj : ¬ j < 0) (hv : cl.slots[i]? = some v)
    {pc : Nat} {Ls : Array Slot} {st : List Value} (hd : decode c.code pc = .ok (.iaload, 1)) (H : own_Fin p e s below K N Q T (mkF m (pc + 1) Ls (v :: st))) : own_Fin p e s below K N Q T (mkF m pc Ls (.int j :: .ref a :: st)) := by
  have his := (Array.getElem?_eq_some_iff.mp hv).1
  exact own_step (fun _ k => Stand.iaload X hx (by rw [eT]; exact A.1) (State.isArrayOf_alike hZ.alike A.2.1) A.2.2 (fun q => q.elim hj (by rw [hi]; omega)) (by rw [hi]; exact hv) (g := mkF m pc Ls (.int j :: .ref a :: st)) rfl rfl hd _ k) H
theorem own_fldref {args : Array Value} {s : State} {t u : Term} {C n d : String} {a b : Addr} (ev : t.eval args s none [] s = some (.ref a)) (eu : u.eval args s none [] s = some (.ref b)) (q : (Jvm.Cond.eq (Term.field t C n d) u).value args s none s [] = some true) : Fld s s.heap a C n d (.ref b) := by
  refine Fld.start ((fld_at ev).symm.trans ?_)
  simp only [Jvm.Cond.value] at q
  cases ht : (Term.field t C n d).eval args s none [] s with
  | none => simp [ht] at q
  | some x => cases x <;> simp [ht, eu] at q ⊢; exact q
end OwnArrays
theorem pn_com_example_kleave_kleave_msms_Term : plainName "com/example/kleave/kleave/msms/Term" = true := by first | (simp [plainName, overriddenIn]; done) | decide +kernel
theorem pn_com_example_kleave_kleave_msms_TermIsSwitchablePinLaw : plainName "com/example/kleave/kleave/msms/TermIsSwitchablePinLaw" = true := by first | (simp [plainName, overriddenIn]; done) | decide +kernel
theorem pd___Z : parseMethodDescriptor "()Z" = some ⟨[], (some .boolean)⟩ := by decide +kernel
theorem ef_1 (m : MethodId) (x0 : Addr) : entryFrame m #[(.ref x0)] 1 = mkF m 0 #[.val (.ref x0)] [] := by first | (simp [entryFrame, mkF, argsToLocals, Value.category]; done) | rfl
theorem d1_0 : decode prog_63_method_8_code 0 = .ok (.aload_n 0, 1) := by decide +kernel
theorem d1_1 : decode prog_63_method_8_code 1 = .ok (.getfield 69, 3) := by decide +kernel
theorem d1_4 : decode prog_63_method_8_code 4 = .ok (.getstatic 114, 3) := by decide +kernel
theorem d1_7 : decode prog_63_method_8_code 7 = .ok (.if_acmp .eq 13, 3) := by decide +kernel
theorem d1_10 : decode prog_63_method_8_code 10 = .ok (.aload_n 0, 1) := by decide +kernel
theorem d1_11 : decode prog_63_method_8_code 11 = .ok (.getfield 69, 3) := by decide +kernel
theorem d1_14 : decode prog_63_method_8_code 14 = .ok (.getstatic 117, 3) := by decide +kernel
theorem d1_17 : decode prog_63_method_8_code 17 = .ok (.if_acmp .ne 7, 3) := by decide +kernel
theorem d1_20 : decode prog_63_method_8_code 20 = .ok (.iconst 1, 1) := by decide +kernel
theorem d1_21 : decode prog_63_method_8_code 21 = .ok (.goto 4, 3) := by decide +kernel
theorem d1_24 : decode prog_63_method_8_code 24 = .ok (.iconst 0, 1) := by decide +kernel
theorem d1_25 : decode prog_63_method_8_code 25 = .ok (.ireturn, 1) := by decide +kernel
set_option maxRecDepth 65536 in
set_option maxHeartbeats 40000000 in
theorem rm1 (l : Launch) (Z : State) (a0 : Array Value) (hw : ∀ d ∈ tables_1, d.before a0 Z = true) (h0 : Heap) (a u u1 u2 : Addr) (Fu : Fld Z h0 a "com/example/kleave/kleave/msms/Term" "use" "Lcom/example/kleave/kleave/msms/Term$Use;" (.ref u)) (S1 : Sta Z h0 "com/example/kleave/kleave/msms/Term$Use" "ON" "Lcom/example/kleave/kleave/msms/Term$Use;" (.ref u1)) (S2 : Sta Z h0 "com/example/kleave/kleave/msms/Term$Use" "BY_MODEL" "Lcom/example/kleave/kleave/msms/Term$Use;" (.ref u2)) :
    own_Pure l Z (⟨"com/example/kleave/kleave/msms/Term", "isSwitchable", "()Z"⟩ : MethodName) prog_63_method_8_code 1 (some .boolean) 0 0 #[(.ref a)] h0 (.int (if u = u1 ∨ u = u2 then 1 else 0)) := by
  refine own_body pn_com_example_kleave_kleave_msms_Term ?_
  intro p e s m below meth c s₁ hx hby hml hZ hown hnm hrt hlk X0 e0
  rw [ef_1]
  show own_Fin _ _ _ _ _ _ _ s₁ (mkF m 0 #[.val (.ref a)] [])
  refine own_step (fun _ k => XS.aloadN X0.here hx rfl (hb hby d1_0) rfl rfl k) ?_
  show own_Fin _ _ _ _ _ _ _ s₁ (mkF m 1 #[.val (.ref a)] [(.ref a)])
  refine own_getF X0 hx hZ hown (hw _ (List.mem_of_getElem? (i := 36) rfl)) e0 Fu (hb hby d1_1) ?_
  intro T1 X1 e1
  show own_Fin _ _ _ _ _ _ _ T1 (mkF m 4 #[.val (.ref a)] [(.ref u)])
  refine own_getS X1 hx hZ hown (hw _ (List.mem_of_getElem? (i := 40) rfl)) e1 S1 (hb hby d1_4) ?_
  intro T2 X2 e2
  show own_Fin _ _ _ _ _ _ _ T2 (mkF m 7 #[.val (.ref a)] [(.ref u1), (.ref u)])
  by_cases h7 : u = u1
  · skip
    refine own_step (fun _ k => XT.acmpYes X2.here hx rfl (pc0 := 7) (pc' := 20) rfl (hb hby d1_7) rfl rfl rfl (XT.aa_eq_t (congrArg Value.ref h7)) (by decide) (by decide) k) ?_
    show own_Fin _ _ _ _ _ _ _ T2 (mkF m 20 #[.val (.ref a)] [])
    refine own_step (fun _ k => XT.iconstV X2.here hx rfl (1 : Int32) (hb hby d1_20) (by decide) k) ?_
    show own_Fin _ _ _ _ _ _ _ T2 (mkF m 21 #[.val (.ref a)] [(.int (1 : Int32))])
    refine own_step (fun _ k => XS.goto X2.here hx rfl (pc0 := 21) (pc' := 25) rfl (hb hby d1_21) (by decide) (by decide) k) ?_
    show own_Fin _ _ _ _ _ _ _ T2 (mkF m 25 #[.val (.ref a)] [(.int (1 : Int32))])
    exact own_retZ X2 hx hrt hlk (hb hby d1_25) (Or.inr rfl) ⟨by simp [h7], rfl, e2⟩ (Nat.le_refl _) (Nat.le_refl _)
  · skip
    refine own_step (fun _ k => XT.acmpNo X2.here hx rfl (hb hby d1_7) rfl rfl rfl (XT.aa_eq_f (fun q => h7 (Value.ref.inj q))) k) ?_
    show own_Fin _ _ _ _ _ _ _ T2 (mkF m 10 #[.val (.ref a)] [])
    refine own_step (fun _ k => XS.aloadN X2.here hx rfl (hb hby d1_10) rfl rfl k) ?_
    show own_Fin _ _ _ _ _ _ _ T2 (mkF m 11 #[.val (.ref a)] [(.ref a)])
    refine own_getF X2 hx hZ hown (hw _ (List.mem_of_getElem? (i := 36) rfl)) e2 Fu (hb hby d1_11) ?_
    intro T3 X3 e3
    show own_Fin _ _ _ _ _ _ _ T3 (mkF m 14 #[.val (.ref a)] [(.ref u)])
    refine own_getS X3 hx hZ hown (hw _ (List.mem_of_getElem? (i := 42) rfl)) e3 S2 (hb hby d1_14) ?_
    intro T4 X4 e4
    show own_Fin _ _ _ _ _ _ _ T4 (mkF m 17 #[.val (.ref a)] [(.ref u2), (.ref u)])
    by_cases h17 : u = u2
    · skip
      refine own_step (fun _ k => XT.acmpNo X4.here hx rfl (hb hby d1_17) rfl rfl rfl (XT.aa_ne_f (congrArg Value.ref h17)) k) ?_
      show own_Fin _ _ _ _ _ _ _ T4 (mkF m 20 #[.val (.ref a)] [])
      refine own_step (fun _ k => XT.iconstV X4.here hx rfl (1 : Int32) (hb hby d1_20) (by decide) k) ?_
      show own_Fin _ _ _ _ _ _ _ T4 (mkF m 21 #[.val (.ref a)] [(.int (1 : Int32))])
      refine own_step (fun _ k => XS.goto X4.here hx rfl (pc0 := 21) (pc' := 25) rfl (hb hby d1_21) (by decide) (by decide) k) ?_
      show own_Fin _ _ _ _ _ _ _ T4 (mkF m 25 #[.val (.ref a)] [(.int (1 : Int32))])
      exact own_retZ X4 hx hrt hlk (hb hby d1_25) (Or.inr rfl) ⟨by simp [h7, h17], rfl, e4⟩ (Nat.le_refl _) (Nat.le_refl _)
    · skip
      refine own_step (fun _ k => XT.acmpYes X4.here hx rfl (pc0 := 17) (pc' := 24) rfl (hb hby d1_17) rfl rfl rfl (XT.aa_ne_t (fun q => h17 (Value.ref.inj q))) (by decide) (by decide) k) ?_
      show own_Fin _ _ _ _ _ _ _ T4 (mkF m 24 #[.val (.ref a)] [])
      refine own_step (fun _ k => XT.iconstV X4.here hx rfl (0 : Int32) (hb hby d1_24) (by decide) k) ?_
      show own_Fin _ _ _ _ _ _ _ T4 (mkF m 25 #[.val (.ref a)] [(.int (0 : Int32))])
      exact own_retZ X4 hx hrt hlk (hb hby d1_25) (Or.inl rfl) ⟨by simp [h7, h17], rfl, e4⟩ (Nat.le_refl _) (Nat.le_refl _)
theorem own_rem13 (x : Int32) : ((x &&& (2147483647 : Int32)) % (13 : Int32)) = (0 : Int32) ∨ ((x &&& (2147483647 : Int32)) % (13 : Int32)) = (1 : Int32) ∨ ((x &&& (2147483647 : Int32)) % (13 : Int32)) = (2 : Int32) ∨ ((x &&& (2147483647 : Int32)) % (13 : Int32)) = (3 : Int32) ∨ ((x &&& (2147483647 : Int32)) % (13 : Int32)) = (4 : Int32) ∨ ((x &&& (2147483647 : Int32)) % (13 : Int32)) = (5 : Int32) ∨ ((x &&& (2147483647 : Int32)) % (13 : Int32)) = (6 : Int32) ∨ ((x &&& (2147483647 : Int32)) % (13 : Int32)) = (7 : Int32) ∨ ((x &&& (2147483647 : Int32)) % (13 : Int32)) = (8 : Int32) ∨ ((x &&& (2147483647 : Int32)) % (13 : Int32)) = (9 : Int32) ∨ ((x &&& (2147483647 : Int32)) % (13 : Int32)) = (10 : Int32) ∨ ((x &&& (2147483647 : Int32)) % (13 : Int32)) = (11 : Int32) ∨ ((x &&& (2147483647 : Int32)) % (13 : Int32)) = (12 : Int32) := by
  have h1 := c_and x 2147483647 (by decide)
  have h2 := (c_irem (x &&& 2147483647) 13 13 (by decide)).1 h1.1
  simp only [← Int32.toInt_inj, h2, Int32.reduceToInt]
  omega
def own_en : String := "java/lang/Enum"
theorem ef_0 (m : MethodId) (x0 : Int32) : entryFrame m #[(.int x0)] maxLocals = mkF m 0 #[.val (.int x0), .unset, .unset, .unset, .unset, .unset, .unset] [] := by first | (simp [entryFrame, mkF, argsToLocals, Value.category, maxLocals]; done) | rfl
set_option maxRecDepth 65536 in
set_option maxHeartbeats 40000000 in
theorem rm0 (l : Launch) (Z : State) (a0 : Array Value) (hw : ∀ d ∈ tables_1, d.before a0 Z = true) (ws : List Jvm.Cond) (h0 : Heap) (p1 : Int32) (s0 s1 s2 s3 s4 s5 s6 s7 s8 s9 s10 s11 s12 : Addr) (u0 u1 u2 u3 : Addr) (S0 : Sta Z h0 "com/example/kleave/kleave/msms/Term" "INTENSITY" "Lcom/example/kleave/kleave/msms/Term;" (.ref s0)) (E0 : Exa Z h0 s0 "com/example/kleave/kleave/msms/Term") (F0 : Fld Z h0 s0 "java/lang/Enum" "ordinal" "I" (.int 0)) (G0 : Fld Z h0 s0 "com/example/kleave/kleave/msms/Term" "use" "Lcom/example/kleave/kleave/msms/Term$Use;" (.ref u0)) (S1 : Sta Z h0 "com/example/kleave/kleave/msms/Term" "MASS_ERROR" "Lcom/example/kleave/kleave/msms/Term;" (.ref s1)) (E1 : Exa Z h0 s1 "com/example/kleave/kleave/msms/Term") (F1 : Fld Z h0 s1 "java/lang/Enum" "ordinal" "I" (.int 1)) (G1 : Fld Z h0 s1 "com/example/kleave/kleave/msms/Term" "use" "Lcom/example/kleave/kleave/msms/Term$Use;" (.ref u0)) (S2 : Sta Z h0 "com/example/kleave/kleave/msms/Term" "EXPLANATION" "Lcom/example/kleave/kleave/msms/Term;" (.ref s2)) (E2 : Exa Z h0 s2 "com/example/kleave/kleave/msms/Term") (F2 : Fld Z h0 s2 "java/lang/Enum" "ordinal" "I" (.int 2)) (G2 : Fld Z h0 s2 "com/example/kleave/kleave/msms/Term" "use" "Lcom/example/kleave/kleave/msms/Term$Use;" (.ref u2)) (S3 : Sta Z h0 "com/example/kleave/kleave/msms/Term" "LOSS_MASS" "Lcom/example/kleave/kleave/msms/Term;" (.ref s3)) (E3 : Exa Z h0 s3 "com/example/kleave/kleave/msms/Term") (F3 : Fld Z h0 s3 "java/lang/Enum" "ordinal" "I" (.int 3)) (G3 : Fld Z h0 s3 "com/example/kleave/kleave/msms/Term" "use" "Lcom/example/kleave/kleave/msms/Term$Use;" (.ref u0)) (S4 : Sta Z h0 "com/example/kleave/kleave/msms/Term" "COMMON_LOSS" "Lcom/example/kleave/kleave/msms/Term;" (.ref s4)) (E4 : Exa Z h0 s4 "com/example/kleave/kleave/msms/Term") (F4 : Fld Z h0 s4 "java/lang/Enum" "ordinal" "I" (.int 4)) (G4 : Fld Z h0 s4 "com/example/kleave/kleave/msms/Term" "use" "Lcom/example/kleave/kleave/msms/Term$Use;" (.ref u1)) (S5 : Sta Z h0 "com/example/kleave/kleave/msms/Term" "RADICAL_LOSS" "Lcom/example/kleave/kleave/msms/Term;" (.ref s5)) (E5 : Exa Z h0 s5 "com/example/kleave/kleave/msms/Term") (F5 : Fld Z h0 s5 "java/lang/Enum" "ordinal" "I" (.int 5)) (G5 : Fld Z h0 s5 "com/example/kleave/kleave/msms/Term" "use" "Lcom/example/kleave/kleave/msms/Term$Use;" (.ref u1)) (S6 : Sta Z h0 "com/example/kleave/kleave/msms/Term" "ENERGY" "Lcom/example/kleave/kleave/msms/Term;" (.ref s6)) (E6 : Exa Z h0 s6 "com/example/kleave/kleave/msms/Term") (F6 : Fld Z h0 s6 "java/lang/Enum" "ordinal" "I" (.int 6)) (G6 : Fld Z h0 s6 "com/example/kleave/kleave/msms/Term" "use" "Lcom/example/kleave/kleave/msms/Term$Use;" (.ref u1)) (S7 : Sta Z h0 "com/example/kleave/kleave/msms/Term" "HETERO_RATIO" "Lcom/example/kleave/kleave/msms/Term;" (.ref s7)) (E7 : Exa Z h0 s7 "com/example/kleave/kleave/msms/Term") (F7 : Fld Z h0 s7 "java/lang/Enum" "ordinal" "I" (.int 7)) (G7 : Fld Z h0 s7 "com/example/kleave/kleave/msms/Term" "use" "Lcom/example/kleave/kleave/msms/Term$Use;" (.ref u1)) (S8 : Sta Z h0 "com/example/kleave/kleave/msms/Term" "ELEMENTS" "Lcom/example/kleave/kleave/msms/Term;" (.ref s8)) (E8 : Exa Z h0 s8 "com/example/kleave/kleave/msms/Term") (F8 : Fld Z h0 s8 "java/lang/Enum" "ordinal" "I" (.int 8)) (G8 : Fld Z h0 s8 "com/example/kleave/kleave/msms/Term" "use" "Lcom/example/kleave/kleave/msms/Term$Use;" (.ref u2)) (S9 : Sta Z h0 "com/example/kleave/kleave/msms/Term" "HC_BOUND" "Lcom/example/kleave/kleave/msms/Term;" (.ref s9)) (E9 : Exa Z h0 s9 "com/example/kleave/kleave/msms/Term") (F9 : Fld Z h0 s9 "java/lang/Enum" "ordinal" "I" (.int 9)) (G9 : Fld Z h0 s9 "com/example/kleave/kleave/msms/Term" "use" "Lcom/example/kleave/kleave/msms/Term$Use;" (.ref u2)) (S10 : Sta Z h0 "com/example/kleave/kleave/msms/Term" "ISOTOPES" "Lcom/example/kleave/kleave/msms/Term;" (.ref s10)) (E10 : Exa Z h0 s10 "com/example/kleave/kleave/msms/Term") (F10 : Fld Z h0 s10 "java/lang/Enum" "ordinal" "I" (.int 10)) (G10 : Fld Z h0 s10 "com/example/kleave/kleave/msms/Term" "use" "Lcom/example/kleave/kleave/msms/Term$Use;" (.ref u2)) (S11 : Sta Z h0 "com/example/kleave/kleave/msms/Term" "HC_RATIO" "Lcom/example/kleave/kleave/msms/Term;" (.ref s11)) (E11 : Exa Z h0 s11 "com/example/kleave/kleave/msms/Term") (F11 : Fld Z h0 s11 "java/lang/Enum" "ordinal" "I" (.int 11)) (G11 : Fld Z h0 s11 "com/example/kleave/kleave/msms/Term" "use" "Lcom/example/kleave/kleave/msms/Term$Use;" (.ref u2)) (S12 : Sta Z h0 "com/example/kleave/kleave/msms/Term" "BOUNDS" "Lcom/example/kleave/kleave/msms/Term;" (.ref s12)) (E12 : Exa Z h0 s12 "com/example/kleave/kleave/msms/Term") (F12 : Fld Z h0 s12 "java/lang/Enum" "ordinal" "I" (.int 12)) (G12 : Fld Z h0 s12 "com/example/kleave/kleave/msms/Term" "use" "Lcom/example/kleave/kleave/msms/Term$Use;" (.ref u3)) (SU1 : Sta Z h0 "com/example/kleave/kleave/msms/Term$Use" "ON" "Lcom/example/kleave/kleave/msms/Term$Use;" (.ref u1)) (SU2 : Sta Z h0 "com/example/kleave/kleave/msms/Term$Use" "BY_MODEL" "Lcom/example/kleave/kleave/msms/Term$Use;" (.ref u2)) (FU0 : Fld Z h0 u0 "java/lang/Enum" "ordinal" "I" (.int 0)) (FU1 : Fld Z h0 u1 "java/lang/Enum" "ordinal" "I" (.int 1)) (FU2 : Fld Z h0 u2 "java/lang/Enum" "ordinal" "I" (.int 2)) (FU3 : Fld Z h0 u3 "java/lang/Enum" "ordinal" "I" (.int 3)) :
    own_Met l Z x code maxLocals ret ws room_1 #[(.int p1)] h0 (own_Q1 h0.size) := by
  refine own_body (y := x) pn_com_example_kleave_kleave_msms_TermIsSwitchablePinLaw ?_
  intro p e s m below meth c s₁ hx hby hml hZ hown hnm hrt hlk X0 e0
  replace hown : s.vm.findClass "com/example/kleave/kleave/msms/TermIsSwitchablePinLaw" = some m.cls := hown
  replace hml : c.maxLocals = 7 := hml
  have N0 := Fr.nil h0.size
  rw [ef_0]
  show own_Fin _ _ _ _ _ _ _ s₁ (mkF m 0 #[.val (.int p1), .unset, .unset, .unset, .unset, .unset, .unset] [])
  refine own_step (fun _ k => XT.bipushV X0.here hx rfl (13 : Int32) (hb hby at_0) (by decide) k) ?_
  show own_Fin _ _ _ _ _ _ _ s₁ (mkF m 2 #[.val (.int p1), .unset, .unset, .unset, .unset, .unset, .unset] [(.int (13 : Int32))])
  refine own_newR X0 hx hZ hown (hw _ (List.mem_of_getElem? (i := 0) rfl)) (hw _ (List.mem_of_getElem? (i := 1) rfl)) e0 13 (by decide) (by decide) (by decide) (by decide) (by decide) (hb hby at_2) ?_
  intro T21 hp21 cl21 X21 e21 E21 A21 O21 z21
  replace z21 : cl21.slots = #[.null, .null, .null, .null, .null, .null, .null, .null, .null, .null, .null, .null, .null] := z21
  show own_Fin _ _ _ _ _ _ _ T21 (mkF m 5 #[.val (.int p1), .unset, .unset, .unset, .unset, .unset, .unset] [(.ref h0.size)])
  refine own_step (fun _ k => XS.dup X21.here hx rfl (hb hby at_5) rfl rfl k) ?_
  show own_Fin _ _ _ _ _ _ _ T21 (mkF m 6 #[.val (.int p1), .unset, .unset, .unset, .unset, .unset, .unset] [(.ref h0.size), (.ref h0.size)])
  refine own_step (fun _ k => XT.iconstV X21.here hx rfl (0 : Int32) (hb hby at_6) (by decide) k) ?_
  show own_Fin _ _ _ _ _ _ _ T21 (mkF m 7 #[.val (.int p1), .unset, .unset, .unset, .unset, .unset, .unset] [(.int (0 : Int32)), (.ref h0.size), (.ref h0.size)])
  refine own_getS X21 hx hZ hown (hw _ (List.mem_of_getElem? (i := 2) rfl)) e21 (S0.ext E21) (hb hby at_7) ?_
  intro T22 X22 e22
  show own_Fin _ _ _ _ _ _ _ T22 (mkF m 10 #[.val (.int p1), .unset, .unset, .unset, .unset, .unset, .unset] [(.ref s0), (.int (0 : Int32)), (.ref h0.size), (.ref h0.size)])
  refine own_stR X22 hx hZ e22 A21 O21 (E0.ext E21) E21 (Nat.le_refl _) N0 (Nat.le_refl _) 0 (by decide) (by decide) (by rw [z21]; show (0 : Nat) < 13; decide) (hb hby at_10) ?_
  intro T23 hp23 cl23 L23 X23 e23 E23 A23 O23 N23 z23 B23
  rw [z21] at z23
  replace z23 : cl23.slots = #[(.ref s0), .null, .null, .null, .null, .null, .null, .null, .null, .null, .null, .null, .null] := z23
  show own_Fin _ _ _ _ _ _ _ T23 (mkF m 11 #[.val (.int p1), .unset, .unset, .unset, .unset, .unset, .unset] [(.ref h0.size)])
  refine own_step (fun _ k => XS.dup X23.here hx rfl (hb hby at_11) rfl rfl k) ?_
  show own_Fin _ _ _ _ _ _ _ T23 (mkF m 12 #[.val (.int p1), .unset, .unset, .unset, .unset, .unset, .unset] [(.ref h0.size), (.ref h0.size)])
  refine own_step (fun _ k => XT.iconstV X23.here hx rfl (1 : Int32) (hb hby at_12) (by decide) k) ?_
  show own_Fin _ _ _ _ _ _ _ T23 (mkF m 13 #[.val (.int p1), .unset, .unset, .unset, .unset, .unset, .unset] [(.int (1 : Int32)), (.ref h0.size), (.ref h0.size)])
  refine own_getS X23 hx hZ hown (hw _ (List.mem_of_getElem? (i := 6) rfl)) e23 (S1.ext E23) (hb hby at_13) ?_
  intro T24 X24 e24
  show own_Fin _ _ _ _ _ _ _ T24 (mkF m 16 #[.val (.int p1), .unset, .unset, .unset, .unset, .unset, .unset] [(.ref s1), (.int (1 : Int32)), (.ref h0.size), (.ref h0.size)])
  refine own_stR X24 hx hZ e24 A23 O23 (E1.ext E23) E23 (Nat.le_refl _) N23 (Nat.le_refl _) 1 (by decide) (by decide) (by rw [z23]; show (1 : Nat) < 13; decide) (hb hby at_16) ?_
  intro T25 hp25 cl25 L25 X25 e25 E25 A25 O25 N25 z25 B25
  rw [z23] at z25
  replace z25 : cl25.slots = #[(.ref s0), (.ref s1), .null, .null, .null, .null, .null, .null, .null, .null, .null, .null, .null] := z25
  show own_Fin _ _ _ _ _ _ _ T25 (mkF m 17 #[.val (.int p1), .unset, .unset, .unset, .unset, .unset, .unset] [(.ref h0.size)])
  refine own_step (fun _ k => XS.dup X25.here hx rfl (hb hby at_17) rfl rfl k) ?_
  show own_Fin _ _ _ _ _ _ _ T25 (mkF m 18 #[.val (.int p1), .unset, .unset, .unset, .unset, .unset, .unset] [(.ref h0.size), (.ref h0.size)])
  refine own_step (fun _ k => XT.iconstV X25.here hx rfl (2 : Int32) (hb hby at_18) (by decide) k) ?_
  show own_Fin _ _ _ _ _ _ _ T25 (mkF m 19 #[.val (.int p1), .unset, .unset, .unset, .unset, .unset, .unset] [(.int (2 : Int32)), (.ref h0.size), (.ref h0.size)])
  refine own_getS X25 hx hZ hown (hw _ (List.mem_of_getElem? (i := 8) rfl)) e25 (S2.ext E25) (hb hby at_19) ?_
  intro T26 X26 e26
  show own_Fin _ _ _ _ _ _ _ T26 (mkF m 22 #[.val (.int p1), .unset, .unset, .unset, .unset, .unset, .unset] [(.ref s2), (.int (2 : Int32)), (.ref h0.size), (.ref h0.size)])
  refine own_stR X26 hx hZ e26 A25 O25 (E2.ext E25) E25 (Nat.le_refl _) N25 (Nat.le_refl _) 2 (by decide) (by decide) (by rw [z25]; show (2 : Nat) < 13; decide) (hb hby at_22) ?_
  intro T27 hp27 cl27 L27 X27 e27 E27 A27 O27 N27 z27 B27
  rw [z25] at z27
  replace z27 : cl27.slots = #[(.ref s0), (.ref s1), (.ref s2), .null, .null, .null, .null, .null, .null, .null, .null, .null, .null] := z27
  show own_Fin _ _ _ _ _ _ _ T27 (mkF m 23 #[.val (.int p1), .unset, .unset, .unset, .unset, .unset, .unset] [(.ref h0.size)])
  refine own_step (fun _ k => XS.dup X27.here hx rfl (hb hby at_23) rfl rfl k) ?_
  show own_Fin _ _ _ _ _ _ _ T27 (mkF m 24 #[.val (.int p1), .unset, .unset, .unset, .unset, .unset, .unset] [(.ref h0.size), (.ref h0.size)])
  refine own_step (fun _ k => XT.iconstV X27.here hx rfl (3 : Int32) (hb hby at_24) (by decide) k) ?_
  show own_Fin _ _ _ _ _ _ _ T27 (mkF m 25 #[.val (.int p1), .unset, .unset, .unset, .unset, .unset, .unset] [(.int (3 : Int32)), (.ref h0.size), (.ref h0.size)])
  refine own_getS X27 hx hZ hown (hw _ (List.mem_of_getElem? (i := 10) rfl)) e27 (S3.ext E27) (hb hby at_25) ?_
  intro T28 X28 e28
  show own_Fin _ _ _ _ _ _ _ T28 (mkF m 28 #[.val (.int p1), .unset, .unset, .unset, .unset, .unset, .unset] [(.ref s3), (.int (3 : Int32)), (.ref h0.size), (.ref h0.size)])
  refine own_stR X28 hx hZ e28 A27 O27 (E3.ext E27) E27 (Nat.le_refl _) N27 (Nat.le_refl _) 3 (by decide) (by decide) (by rw [z27]; show (3 : Nat) < 13; decide) (hb hby at_28) ?_
  intro T29 hp29 cl29 L29 X29 e29 E29 A29 O29 N29 z29 B29
  rw [z27] at z29
  replace z29 : cl29.slots = #[(.ref s0), (.ref s1), (.ref s2), (.ref s3), .null, .null, .null, .null, .null, .null, .null, .null, .null] := z29
  show own_Fin _ _ _ _ _ _ _ T29 (mkF m 29 #[.val (.int p1), .unset, .unset, .unset, .unset, .unset, .unset] [(.ref h0.size)])
  refine own_step (fun _ k => XS.dup X29.here hx rfl (hb hby at_29) rfl rfl k) ?_
  show own_Fin _ _ _ _ _ _ _ T29 (mkF m 30 #[.val (.int p1), .unset, .unset, .unset, .unset, .unset, .unset] [(.ref h0.size), (.ref h0.size)])
  refine own_step (fun _ k => XT.iconstV X29.here hx rfl (4 : Int32) (hb hby at_30) (by decide) k) ?_
  show own_Fin _ _ _ _ _ _ _ T29 (mkF m 31 #[.val (.int p1), .unset, .unset, .unset, .unset, .unset, .unset] [(.int (4 : Int32)), (.ref h0.size), (.ref h0.size)])
  refine own_getS X29 hx hZ hown (hw _ (List.mem_of_getElem? (i := 12) rfl)) e29 (S4.ext E29) (hb hby at_31) ?_
  intro T30 X30 e30
  show own_Fin _ _ _ _ _ _ _ T30 (mkF m 34 #[.val (.int p1), .unset, .unset, .unset, .unset, .unset, .unset] [(.ref s4), (.int (4 : Int32)), (.ref h0.size), (.ref h0.size)])
  refine own_stR X30 hx hZ e30 A29 O29 (E4.ext E29) E29 (Nat.le_refl _) N29 (Nat.le_refl _) 4 (by decide) (by decide) (by rw [z29]; show (4 : Nat) < 13; decide) (hb hby at_34) ?_
  intro T31 hp31 cl31 L31 X31 e31 E31 A31 O31 N31 z31 B31
  rw [z29] at z31
  replace z31 : cl31.slots = #[(.ref s0), (.ref s1), (.ref s2), (.ref s3), (.ref s4), .null, .null, .null, .null, .null, .null, .null, .null] := z31
  show own_Fin _ _ _ _ _ _ _ T31 (mkF m 35 #[.val (.int p1), .unset, .unset, .unset, .unset, .unset, .unset] [(.ref h0.size)])
  refine own_step (fun _ k => XS.dup X31.here hx rfl (hb hby at_35) rfl rfl k) ?_
  show own_Fin _ _ _ _ _ _ _ T31 (mkF m 36 #[.val (.int p1), .unset, .unset, .unset, .unset, .unset, .unset] [(.ref h0.size), (.ref h0.size)])
  refine own_step (fun _ k => XT.iconstV X31.here hx rfl (5 : Int32) (hb hby at_36) (by decide) k) ?_
  show own_Fin _ _ _ _ _ _ _ T31 (mkF m 37 #[.val (.int p1), .unset, .unset, .unset, .unset, .unset, .unset] [(.int (5 : Int32)), (.ref h0.size), (.ref h0.size)])
  refine own_getS X31 hx hZ hown (hw _ (List.mem_of_getElem? (i := 14) rfl)) e31 (S5.ext E31) (hb hby at_37) ?_
  intro T32 X32 e32
  show own_Fin _ _ _ _ _ _ _ T32 (mkF m 40 #[.val (.int p1), .unset, .unset, .unset, .unset, .unset, .unset] [(.ref s5), (.int (5 : Int32)), (.ref h0.size), (.ref h0.size)])
  refine own_stR X32 hx hZ e32 A31 O31 (E5.ext E31) E31 (Nat.le_refl _) N31 (Nat.le_refl _) 5 (by decide) (by decide) (by rw [z31]; show (5 : Nat) < 13; decide) (hb hby at_40) ?_
  intro T33 hp33 cl33 L33 X33 e33 E33 A33 O33 N33 z33 B33
  rw [z31] at z33
  replace z33 : cl33.slots = #[(.ref s0), (.ref s1), (.ref s2), (.ref s3), (.ref s4), (.ref s5), .null, .null, .null, .null, .null, .null, .null] := z33
  show own_Fin _ _ _ _ _ _ _ T33 (mkF m 41 #[.val (.int p1), .unset, .unset, .unset, .unset, .unset, .unset] [(.ref h0.size)])
  refine own_step (fun _ k => XS.dup X33.here hx rfl (hb hby at_41) rfl rfl k) ?_
  show own_Fin _ _ _ _ _ _ _ T33 (mkF m 42 #[.val (.int p1), .unset, .unset, .unset, .unset, .unset, .unset] [(.ref h0.size), (.ref h0.size)])
  refine own_step (fun _ k => XT.bipushV X33.here hx rfl (6 : Int32) (hb hby at_42) (by decide) k) ?_
  show own_Fin _ _ _ _ _ _ _ T33 (mkF m 44 #[.val (.int p1), .unset, .unset, .unset, .unset, .unset, .unset] [(.int (6 : Int32)), (.ref h0.size), (.ref h0.size)])
  refine own_getS X33 hx hZ hown (hw _ (List.mem_of_getElem? (i := 16) rfl)) e33 (S6.ext E33) (hb hby at_44) ?_
  intro T34 X34 e34
  show own_Fin _ _ _ _ _ _ _ T34 (mkF m 47 #[.val (.int p1), .unset, .unset, .unset, .unset, .unset, .unset] [(.ref s6), (.int (6 : Int32)), (.ref h0.size), (.ref h0.size)])
  refine own_stR X34 hx hZ e34 A33 O33 (E6.ext E33) E33 (Nat.le_refl _) N33 (Nat.le_refl _) 6 (by decide) (by decide) (by rw [z33]; show (6 : Nat) < 13; decide) (hb hby at_47) ?_
  intro T35 hp35 cl35 L35 X35 e35 E35 A35 O35 N35 z35 B35
  rw [z33] at z35
  replace z35 : cl35.slots = #[(.ref s0), (.ref s1), (.ref s2), (.ref s3), (.ref s4), (.ref s5), (.ref s6), .null, .null, .null, .null, .null, .null] := z35
  show own_Fin _ _ _ _ _ _ _ T35 (mkF m 48 #[.val (.int p1), .unset, .unset, .unset, .unset, .unset, .unset] [(.ref h0.size)])
  refine own_step (fun _ k => XS.dup X35.here hx rfl (hb hby at_48) rfl rfl k) ?_
  show own_Fin _ _ _ _ _ _ _ T35 (mkF m 49 #[.val (.int p1), .unset, .unset, .unset, .unset, .unset, .unset] [(.ref h0.size), (.ref h0.size)])
  refine own_step (fun _ k => XT.bipushV X35.here hx rfl (7 : Int32) (hb hby at_49) (by decide) k) ?_
  show own_Fin _ _ _ _ _ _ _ T35 (mkF m 51 #[.val (.int p1), .unset, .unset, .unset, .unset, .unset, .unset] [(.int (7 : Int32)), (.ref h0.size), (.ref h0.size)])
  refine own_getS X35 hx hZ hown (hw _ (List.mem_of_getElem? (i := 18) rfl)) e35 (S7.ext E35) (hb hby at_51) ?_
  intro T36 X36 e36
  show own_Fin _ _ _ _ _ _ _ T36 (mkF m 54 #[.val (.int p1), .unset, .unset, .unset, .unset, .unset, .unset] [(.ref s7), (.int (7 : Int32)), (.ref h0.size), (.ref h0.size)])
  refine own_stR X36 hx hZ e36 A35 O35 (E7.ext E35) E35 (Nat.le_refl _) N35 (Nat.le_refl _) 7 (by decide) (by decide) (by rw [z35]; show (7 : Nat) < 13; decide) (hb hby at_54) ?_
  intro T37 hp37 cl37 L37 X37 e37 E37 A37 O37 N37 z37 B37
  rw [z35] at z37
  replace z37 : cl37.slots = #[(.ref s0), (.ref s1), (.ref s2), (.ref s3), (.ref s4), (.ref s5), (.ref s6), (.ref s7), .null, .null, .null, .null, .null] := z37
  show own_Fin _ _ _ _ _ _ _ T37 (mkF m 55 #[.val (.int p1), .unset, .unset, .unset, .unset, .unset, .unset] [(.ref h0.size)])
  refine own_step (fun _ k => XS.dup X37.here hx rfl (hb hby at_55) rfl rfl k) ?_
  show own_Fin _ _ _ _ _ _ _ T37 (mkF m 56 #[.val (.int p1), .unset, .unset, .unset, .unset, .unset, .unset] [(.ref h0.size), (.ref h0.size)])
  refine own_step (fun _ k => XT.bipushV X37.here hx rfl (8 : Int32) (hb hby at_56) (by decide) k) ?_
  show own_Fin _ _ _ _ _ _ _ T37 (mkF m 58 #[.val (.int p1), .unset, .unset, .unset, .unset, .unset, .unset] [(.int (8 : Int32)), (.ref h0.size), (.ref h0.size)])
  refine own_getS X37 hx hZ hown (hw _ (List.mem_of_getElem? (i := 20) rfl)) e37 (S8.ext E37) (hb hby at_58) ?_
  intro T38 X38 e38
  show own_Fin _ _ _ _ _ _ _ T38 (mkF m 61 #[.val (.int p1), .unset, .unset, .unset, .unset, .unset, .unset] [(.ref s8), (.int (8 : Int32)), (.ref h0.size), (.ref h0.size)])
  refine own_stR X38 hx hZ e38 A37 O37 (E8.ext E37) E37 (Nat.le_refl _) N37 (Nat.le_refl _) 8 (by decide) (by decide) (by rw [z37]; show (8 : Nat) < 13; decide) (hb hby at_61) ?_
  intro T39 hp39 cl39 L39 X39 e39 E39 A39 O39 N39 z39 B39
  rw [z37] at z39
  replace z39 : cl39.slots = #[(.ref s0), (.ref s1), (.ref s2), (.ref s3), (.ref s4), (.ref s5), (.ref s6), (.ref s7), (.ref s8), .null, .null, .null, .null] := z39
  show own_Fin _ _ _ _ _ _ _ T39 (mkF m 62 #[.val (.int p1), .unset, .unset, .unset, .unset, .unset, .unset] [(.ref h0.size)])
  refine own_step (fun _ k => XS.dup X39.here hx rfl (hb hby at_62) rfl rfl k) ?_
  show own_Fin _ _ _ _ _ _ _ T39 (mkF m 63 #[.val (.int p1), .unset, .unset, .unset, .unset, .unset, .unset] [(.ref h0.size), (.ref h0.size)])
  refine own_step (fun _ k => XT.bipushV X39.here hx rfl (9 : Int32) (hb hby at_63) (by decide) k) ?_
  show own_Fin _ _ _ _ _ _ _ T39 (mkF m 65 #[.val (.int p1), .unset, .unset, .unset, .unset, .unset, .unset] [(.int (9 : Int32)), (.ref h0.size), (.ref h0.size)])
  refine own_getS X39 hx hZ hown (hw _ (List.mem_of_getElem? (i := 22) rfl)) e39 (S9.ext E39) (hb hby at_65) ?_
  intro T40 X40 e40
  show own_Fin _ _ _ _ _ _ _ T40 (mkF m 68 #[.val (.int p1), .unset, .unset, .unset, .unset, .unset, .unset] [(.ref s9), (.int (9 : Int32)), (.ref h0.size), (.ref h0.size)])
  refine own_stR X40 hx hZ e40 A39 O39 (E9.ext E39) E39 (Nat.le_refl _) N39 (Nat.le_refl _) 9 (by decide) (by decide) (by rw [z39]; show (9 : Nat) < 13; decide) (hb hby at_68) ?_
  intro T41 hp41 cl41 L41 X41 e41 E41 A41 O41 N41 z41 B41
  rw [z39] at z41
  replace z41 : cl41.slots = #[(.ref s0), (.ref s1), (.ref s2), (.ref s3), (.ref s4), (.ref s5), (.ref s6), (.ref s7), (.ref s8), (.ref s9), .null, .null, .null] := z41
  show own_Fin _ _ _ _ _ _ _ T41 (mkF m 69 #[.val (.int p1), .unset, .unset, .unset, .unset, .unset, .unset] [(.ref h0.size)])
  refine own_step (fun _ k => XS.dup X41.here hx rfl (hb hby at_69) rfl rfl k) ?_
  show own_Fin _ _ _ _ _ _ _ T41 (mkF m 70 #[.val (.int p1), .unset, .unset, .unset, .unset, .unset, .unset] [(.ref h0.size), (.ref h0.size)])
  refine own_step (fun _ k => XT.bipushV X41.here hx rfl (10 : Int32) (hb hby at_70) (by decide) k) ?_
  show own_Fin _ _ _ _ _ _ _ T41 (mkF m 72 #[.val (.int p1), .unset, .unset, .unset, .unset, .unset, .unset] [(.int (10 : Int32)), (.ref h0.size), (.ref h0.size)])
  refine own_getS X41 hx hZ hown (hw _ (List.mem_of_getElem? (i := 24) rfl)) e41 (S10.ext E41) (hb hby at_72) ?_
  intro T42 X42 e42
  show own_Fin _ _ _ _ _ _ _ T42 (mkF m 75 #[.val (.int p1), .unset, .unset, .unset, .unset, .unset, .unset] [(.ref s10), (.int (10 : Int32)), (.ref h0.size), (.ref h0.size)])
  refine own_stR X42 hx hZ e42 A41 O41 (E10.ext E41) E41 (Nat.le_refl _) N41 (Nat.le_refl _) 10 (by decide) (by decide) (by rw [z41]; show (10 : Nat) < 13; decide) (hb hby at_75) ?_
  intro T43 hp43 cl43 L43 X43 e43 E43 A43 O43 N43 z43 B43
  rw [z41] at z43
  replace z43 : cl43.slots = #[(.ref s0), (.ref s1), (.ref s2), (.ref s3), (.ref s4), (.ref s5), (.ref s6), (.ref s7), (.ref s8), (.ref s9), (.ref s10), .null, .null] := z43
  show own_Fin _ _ _ _ _ _ _ T43 (mkF m 76 #[.val (.int p1), .unset, .unset, .unset, .unset, .unset, .unset] [(.ref h0.size)])
  refine own_step (fun _ k => XS.dup X43.here hx rfl (hb hby at_76) rfl rfl k) ?_
  show own_Fin _ _ _ _ _ _ _ T43 (mkF m 77 #[.val (.int p1), .unset, .unset, .unset, .unset, .unset, .unset] [(.ref h0.size), (.ref h0.size)])
  refine own_step (fun _ k => XT.bipushV X43.here hx rfl (11 : Int32) (hb hby at_77) (by decide) k) ?_
  show own_Fin _ _ _ _ _ _ _ T43 (mkF m 79 #[.val (.int p1), .unset, .unset, .unset, .unset, .unset, .unset] [(.int (11 : Int32)), (.ref h0.size), (.ref h0.size)])
  refine own_getS X43 hx hZ hown (hw _ (List.mem_of_getElem? (i := 26) rfl)) e43 (S11.ext E43) (hb hby at_79) ?_
  intro T44 X44 e44
  show own_Fin _ _ _ _ _ _ _ T44 (mkF m 82 #[.val (.int p1), .unset, .unset, .unset, .unset, .unset, .unset] [(.ref s11), (.int (11 : Int32)), (.ref h0.size), (.ref h0.size)])
  refine own_stR X44 hx hZ e44 A43 O43 (E11.ext E43) E43 (Nat.le_refl _) N43 (Nat.le_refl _) 11 (by decide) (by decide) (by rw [z43]; show (11 : Nat) < 13; decide) (hb hby at_82) ?_
  intro T45 hp45 cl45 L45 X45 e45 E45 A45 O45 N45 z45 B45
  rw [z43] at z45
  replace z45 : cl45.slots = #[(.ref s0), (.ref s1), (.ref s2), (.ref s3), (.ref s4), (.ref s5), (.ref s6), (.ref s7), (.ref s8), (.ref s9), (.ref s10), (.ref s11), .null] := z45
  show own_Fin _ _ _ _ _ _ _ T45 (mkF m 83 #[.val (.int p1), .unset, .unset, .unset, .unset, .unset, .unset] [(.ref h0.size)])
  refine own_step (fun _ k => XS.dup X45.here hx rfl (hb hby at_83) rfl rfl k) ?_
  show own_Fin _ _ _ _ _ _ _ T45 (mkF m 84 #[.val (.int p1), .unset, .unset, .unset, .unset, .unset, .unset] [(.ref h0.size), (.ref h0.size)])
  refine own_step (fun _ k => XT.bipushV X45.here hx rfl (12 : Int32) (hb hby at_84) (by decide) k) ?_
  show own_Fin _ _ _ _ _ _ _ T45 (mkF m 86 #[.val (.int p1), .unset, .unset, .unset, .unset, .unset, .unset] [(.int (12 : Int32)), (.ref h0.size), (.ref h0.size)])
  refine own_getS X45 hx hZ hown (hw _ (List.mem_of_getElem? (i := 28) rfl)) e45 (S12.ext E45) (hb hby at_86) ?_
  intro T46 X46 e46
  show own_Fin _ _ _ _ _ _ _ T46 (mkF m 89 #[.val (.int p1), .unset, .unset, .unset, .unset, .unset, .unset] [(.ref s12), (.int (12 : Int32)), (.ref h0.size), (.ref h0.size)])
  refine own_stR X46 hx hZ e46 A45 O45 (E12.ext E45) E45 (Nat.le_refl _) N45 (Nat.le_refl _) 12 (by decide) (by decide) (by rw [z45]; show (12 : Nat) < 13; decide) (hb hby at_89) ?_
  intro T47 hp47 cl47 L47 X47 e47 E47 A47 O47 N47 z47 B47
  rw [z45] at z47
  replace z47 : cl47.slots = #[(.ref s0), (.ref s1), (.ref s2), (.ref s3), (.ref s4), (.ref s5), (.ref s6), (.ref s7), (.ref s8), (.ref s9), (.ref s10), (.ref s11), (.ref s12)] := z47
  show own_Fin _ _ _ _ _ _ _ T47 (mkF m 90 #[.val (.int p1), .unset, .unset, .unset, .unset, .unset, .unset] [(.ref h0.size)])
  refine own_step (fun _ k => XS.astoreN X47.here hx rfl (hb hby at_90) rfl rfl (l' := #[.val (.int p1), .val (.ref h0.size), .unset, .unset, .unset, .unset, .unset]) rfl k) ?_
  show own_Fin _ _ _ _ _ _ _ T47 (mkF m 91 #[.val (.int p1), .val (.ref h0.size), .unset, .unset, .unset, .unset, .unset] [])
  refine own_step (fun _ k => XS.iloadN X47.here hx rfl (hb hby at_91) rfl k) ?_
  show own_Fin _ _ _ _ _ _ _ T47 (mkF m 92 #[.val (.int p1), .val (.ref h0.size), .unset, .unset, .unset, .unset, .unset] [(.int p1)])
  refine own_step (fun _ k => Stand.ldcI X47 hx (v := (2147483647 : Int32)) hown (mvT hZ (hw _ (List.mem_of_getElem? (i := 30) rfl))) rfl (hb hby at_92) k) ?_
  show own_Fin _ _ _ _ _ _ _ T47 (mkF m 94 #[.val (.int p1), .val (.ref h0.size), .unset, .unset, .unset, .unset, .unset] [(.int (2147483647 : Int32)), (.int p1)])
  refine own_step (fun _ k => XS.iand X47.here hx rfl (hb hby at_94) rfl k) ?_
  show own_Fin _ _ _ _ _ _ _ T47 (mkF m 95 #[.val (.int p1), .val (.ref h0.size), .unset, .unset, .unset, .unset, .unset] [(.int (p1 &&& (2147483647 : Int32)))])
  refine own_step (fun _ k => XT.bipushV X47.here hx rfl (13 : Int32) (hb hby at_95) (by decide) k) ?_
  show own_Fin _ _ _ _ _ _ _ T47 (mkF m 97 #[.val (.int p1), .val (.ref h0.size), .unset, .unset, .unset, .unset, .unset] [(.int (13 : Int32)), (.int (p1 &&& (2147483647 : Int32)))])
  refine own_step (fun _ k => iremM X47 hx rfl (hb hby at_97) rfl (by decide) k) ?_
  show own_Fin _ _ _ _ _ _ _ T47 (mkF m 98 #[.val (.int p1), .val (.ref h0.size), .unset, .unset, .unset, .unset, .unset] [(.int ((p1 &&& (2147483647 : Int32)) % (13 : Int32)))])
  rcases own_rem13 p1 with q | q | q | q | q | q | q | q | q | q | q | q | q
  · rw [q]
    show own_Fin _ _ _ _ _ _ _ T47 (mkF m 98 #[.val (.int p1), .val (.ref h0.size), .unset, .unset, .unset, .unset, .unset] [(.int (0 : Int32))])
    refine own_step (fun _ k => XS.istoreN X47.here hx rfl (hb hby at_98) rfl (l' := #[.val (.int p1), .val (.ref h0.size), .val (.int (0 : Int32)), .unset, .unset, .unset, .unset]) rfl k) ?_
    show own_Fin _ _ _ _ _ _ _ T47 (mkF m 99 #[.val (.int p1), .val (.ref h0.size), .val (.int (0 : Int32)), .unset, .unset, .unset, .unset] [])
    refine own_step (fun _ k => XS.aloadN X47.here hx rfl (hb hby at_99) rfl rfl k) ?_
    show own_Fin _ _ _ _ _ _ _ T47 (mkF m 100 #[.val (.int p1), .val (.ref h0.size), .val (.int (0 : Int32)), .unset, .unset, .unset, .unset] [(.ref h0.size)])
    refine own_step (fun _ k => XS.iloadN X47.here hx rfl (hb hby at_100) rfl k) ?_
    show own_Fin _ _ _ _ _ _ _ T47 (mkF m 101 #[.val (.int p1), .val (.ref h0.size), .val (.int (0 : Int32)), .unset, .unset, .unset, .unset] [(.int (0 : Int32)), (.ref h0.size)])
    refine own_ald X47 hx hZ e47 A47 rfl (v := (.ref s0)) 0 (by decide) (by decide) (by rw [z47]; rfl) (hb hby at_101) ?_
    show own_Fin _ _ _ _ _ _ _ T47 (mkF m 102 #[.val (.int p1), .val (.ref h0.size), .val (.int (0 : Int32)), .unset, .unset, .unset, .unset] [(.ref s0)])
    refine own_step (fun _ k => XS.astoreN X47.here hx rfl (hb hby at_102) rfl rfl (l' := #[.val (.int p1), .val (.ref h0.size), .val (.int (0 : Int32)), .val (.ref s0), .unset, .unset, .unset]) rfl k) ?_
    show own_Fin _ _ _ _ _ _ _ T47 (mkF m 103 #[.val (.int p1), .val (.ref h0.size), .val (.int (0 : Int32)), .val (.ref s0), .unset, .unset, .unset] [])
    refine own_step (fun _ k => XS.aloadN X47.here hx rfl (hb hby at_103) rfl rfl k) ?_
    show own_Fin _ _ _ _ _ _ _ T47 (mkF m 104 #[.val (.int p1), .val (.ref h0.size), .val (.int (0 : Int32)), .val (.ref s0), .unset, .unset, .unset] [(.ref s0)])
    refine own_getS X47 hx hZ hown (hw _ (List.mem_of_getElem? (i := 2) rfl)) e47 (S0.ext E47) (hb hby at_104) ?_
    intro T48 X48 e48
    show own_Fin _ _ _ _ _ _ _ T48 (mkF m 107 #[.val (.int p1), .val (.ref h0.size), .val (.int (0 : Int32)), .val (.ref s0), .unset, .unset, .unset] [(.ref s0), (.ref s0)])
    refine own_step (fun _ k => XT.acmpYes X48.here hx rfl (pc0 := 107) (pc' := 124) rfl (hb hby at_107) rfl rfl rfl (XT.aa_eq_t (congrArg Value.ref rfl)) (by decide) (by decide) k) ?_
    show own_Fin _ _ _ _ _ _ _ T48 (mkF m 124 #[.val (.int p1), .val (.ref h0.size), .val (.int (0 : Int32)), .val (.ref s0), .unset, .unset, .unset] [])
    refine own_step (fun _ k => XT.iconstV X48.here hx rfl (1 : Int32) (hb hby at_124) (by decide) k) ?_
    show own_Fin _ _ _ _ _ _ _ T48 (mkF m 125 #[.val (.int p1), .val (.ref h0.size), .val (.int (0 : Int32)), .val (.ref s0), .unset, .unset, .unset] [(.int (1 : Int32))])
    refine own_step (fun _ k => XS.goto X48.here hx rfl (pc0 := 125) (pc' := 129) rfl (hb hby at_125) (by decide) (by decide) k) ?_
    show own_Fin _ _ _ _ _ _ _ T48 (mkF m 129 #[.val (.int p1), .val (.ref h0.size), .val (.int (0 : Int32)), .val (.ref s0), .unset, .unset, .unset] [(.int (1 : Int32))])
    refine own_step (fun _ k => XS.istore X48.here hx rfl (hb hby at_129) rfl (l' := #[.val (.int p1), .val (.ref h0.size), .val (.int (0 : Int32)), .val (.ref s0), .val (.int (1 : Int32)), .unset, .unset]) rfl k) ?_
    show own_Fin _ _ _ _ _ _ _ T48 (mkF m 131 #[.val (.int p1), .val (.ref h0.size), .val (.int (0 : Int32)), .val (.ref s0), .val (.int (1 : Int32)), .unset, .unset] [])
    refine own_step (fun _ k => XS.aloadN X48.here hx rfl (hb hby at_131) rfl rfl k) ?_
    show own_Fin _ _ _ _ _ _ _ T48 (mkF m 132 #[.val (.int p1), .val (.ref h0.size), .val (.int (0 : Int32)), .val (.ref s0), .val (.int (1 : Int32)), .unset, .unset] [(.ref s0)])
    refine own_getS X48 hx hZ hown (hw _ (List.mem_of_getElem? (i := 28) rfl)) e48 (S12.ext E47) (hb hby at_132) ?_
    intro T49 X49 e49
    show own_Fin _ _ _ _ _ _ _ T49 (mkF m 135 #[.val (.int p1), .val (.ref h0.size), .val (.int (0 : Int32)), .val (.ref s0), .val (.int (1 : Int32)), .unset, .unset] [(.ref s12), (.ref s0)])
    refine own_step (fun _ k => XT.acmpYes X49.here hx rfl (pc0 := 135) (pc' := 142) rfl (hb hby at_135) rfl rfl rfl (XT.aa_ne_t (fun q => (own_ne F0 F12 (by decide)) (Value.ref.inj q))) (by decide) (by decide) k) ?_
    show own_Fin _ _ _ _ _ _ _ T49 (mkF m 142 #[.val (.int p1), .val (.ref h0.size), .val (.int (0 : Int32)), .val (.ref s0), .val (.int (1 : Int32)), .unset, .unset] [])
    refine own_step (fun _ k => XT.iconstV X49.here hx rfl (0 : Int32) (hb hby at_142) (by decide) k) ?_
    show own_Fin _ _ _ _ _ _ _ T49 (mkF m 143 #[.val (.int p1), .val (.ref h0.size), .val (.int (0 : Int32)), .val (.ref s0), .val (.int (1 : Int32)), .unset, .unset] [(.int (0 : Int32))])
    refine own_step (fun _ k => XS.istore X49.here hx rfl (hb hby at_143) rfl (l' := #[.val (.int p1), .val (.ref h0.size), .val (.int (0 : Int32)), .val (.ref s0), .val (.int (1 : Int32)), .val (.int (0 : Int32)), .unset]) rfl k) ?_
    show own_Fin _ _ _ _ _ _ _ T49 (mkF m 145 #[.val (.int p1), .val (.ref h0.size), .val (.int (0 : Int32)), .val (.ref s0), .val (.int (1 : Int32)), .val (.int (0 : Int32)), .unset] [])
    refine own_step (fun _ k => XS.iload X49.here hx rfl (hb hby at_145) rfl k) ?_
    show own_Fin _ _ _ _ _ _ _ T49 (mkF m 147 #[.val (.int p1), .val (.ref h0.size), .val (.int (0 : Int32)), .val (.ref s0), .val (.int (1 : Int32)), .val (.int (0 : Int32)), .unset] [(.int (1 : Int32))])
    refine own_step (fun _ k => XS.ifYes X49.here hx rfl (pc0 := 147) (pc' := 159) rfl (hb hby at_147) rfl (XT.i0_ne_t (by decide)) (by decide) (by decide) k) ?_
    show own_Fin _ _ _ _ _ _ _ T49 (mkF m 159 #[.val (.int p1), .val (.ref h0.size), .val (.int (0 : Int32)), .val (.ref s0), .val (.int (1 : Int32)), .val (.int (0 : Int32)), .unset] [])
    refine own_step (fun _ k => XT.iconstV X49.here hx rfl (0 : Int32) (hb hby at_159) (by decide) k) ?_
    show own_Fin _ _ _ _ _ _ _ T49 (mkF m 160 #[.val (.int p1), .val (.ref h0.size), .val (.int (0 : Int32)), .val (.ref s0), .val (.int (1 : Int32)), .val (.int (0 : Int32)), .unset] [(.int (0 : Int32))])
    refine own_step (fun _ k => XS.istore X49.here hx rfl (hb hby at_160) rfl (l' := #[.val (.int p1), .val (.ref h0.size), .val (.int (0 : Int32)), .val (.ref s0), .val (.int (1 : Int32)), .val (.int (0 : Int32)), .val (.int (0 : Int32))]) rfl k) ?_
    show own_Fin _ _ _ _ _ _ _ T49 (mkF m 162 #[.val (.int p1), .val (.ref h0.size), .val (.int (0 : Int32)), .val (.ref s0), .val (.int (1 : Int32)), .val (.int (0 : Int32)), .val (.int (0 : Int32))] [])
    refine own_step (fun _ k => XS.aloadN X49.here hx rfl (hb hby at_162) rfl rfl k) ?_
    show own_Fin _ _ _ _ _ _ _ T49 (mkF m 163 #[.val (.int p1), .val (.ref h0.size), .val (.int (0 : Int32)), .val (.ref s0), .val (.int (1 : Int32)), .val (.int (0 : Int32)), .val (.int (0 : Int32))] [(.ref s0)])
    have M := rm1 l Z a0 hw hp47 s0 u0 u1 u2 (G0.ext E47) (SU1.ext E47) (SU2.ext E47)
    rw [if_neg (by simp [own_ne FU0 FU1 (by decide), own_ne FU0 FU2 (by decide)])] at M
    refine own_callV0 X49 hx hZ (argsL := []) (rest := []) hown (hw _ (List.mem_of_getElem? (i := 31) rfl)) (hw _ (List.mem_of_getElem? (i := 32) rfl)) (hw _ (List.mem_of_getElem? (i := 34) rfl)) (hw _ (List.mem_of_getElem? (i := 33) rfl)) (hw _ (List.mem_of_getElem? (i := 35) rfl)) (hw _ (List.mem_of_getElem? (i := 3) rfl)) (by decide) (E0.ext E47) M e49 0 (Nat.le_of_eq rfl) (by decide) (by decide) (by decide) (by decide) (by rw [hml]; rfl) pd___Z rfl rfl (hb hby at_163) ?_
    intro T50 X50 e50
    show own_Fin _ _ _ _ _ _ _ T50 (mkF m 166 #[.val (.int p1), .val (.ref h0.size), .val (.int (0 : Int32)), .val (.ref s0), .val (.int (1 : Int32)), .val (.int (0 : Int32)), .val (.int (0 : Int32))] [(.int (0 : Int32))])
    refine own_step (fun _ k => XS.iload X50.here hx rfl (hb hby at_166) rfl k) ?_
    show own_Fin _ _ _ _ _ _ _ T50 (mkF m 168 #[.val (.int p1), .val (.ref h0.size), .val (.int (0 : Int32)), .val (.ref s0), .val (.int (1 : Int32)), .val (.int (0 : Int32)), .val (.int (0 : Int32))] [(.int (0 : Int32)), (.int (0 : Int32))])
    refine own_step (fun _ k => XS.icmpNo X50.here hx rfl (hb hby at_168) rfl (XT.ii_ne_f (by decide)) k) ?_
    show own_Fin _ _ _ _ _ _ _ T50 (mkF m 171 #[.val (.int p1), .val (.ref h0.size), .val (.int (0 : Int32)), .val (.ref s0), .val (.int (1 : Int32)), .val (.int (0 : Int32)), .val (.int (0 : Int32))] [])
    refine own_step (fun _ k => XT.iconstV X50.here hx rfl (1 : Int32) (hb hby at_171) (by decide) k) ?_
    show own_Fin _ _ _ _ _ _ _ T50 (mkF m 172 #[.val (.int p1), .val (.ref h0.size), .val (.int (0 : Int32)), .val (.ref s0), .val (.int (1 : Int32)), .val (.int (0 : Int32)), .val (.int (0 : Int32))] [(.int (1 : Int32))])
    refine own_step (fun _ k => XS.goto X50.here hx rfl (pc0 := 172) (pc' := 176) rfl (hb hby at_172) (by decide) (by decide) k) ?_
    show own_Fin _ _ _ _ _ _ _ T50 (mkF m 176 #[.val (.int p1), .val (.ref h0.size), .val (.int (0 : Int32)), .val (.ref s0), .val (.int (1 : Int32)), .val (.int (0 : Int32)), .val (.int (0 : Int32))] [(.int (1 : Int32))])
    exact own_retZ X50 hx hrt hlk (hb hby at_176) (Or.inr rfl) ⟨rfl, N47⟩ (by decide) (by decide)
  · rw [q]
    show own_Fin _ _ _ _ _ _ _ T47 (mkF m 98 #[.val (.int p1), .val (.ref h0.size), .unset, .unset, .unset, .unset, .unset] [(.int (1 : Int32))])
    refine own_step (fun _ k => XS.istoreN X47.here hx rfl (hb hby at_98) rfl (l' := #[.val (.int p1), .val (.ref h0.size), .val (.int (1 : Int32)), .unset, .unset, .unset, .unset]) rfl k) ?_
    show own_Fin _ _ _ _ _ _ _ T47 (mkF m 99 #[.val (.int p1), .val (.ref h0.size), .val (.int (1 : Int32)), .unset, .unset, .unset, .unset] [])
    refine own_step (fun _ k => XS.aloadN X47.here hx rfl (hb hby at_99) rfl rfl k) ?_
    show own_Fin _ _ _ _ _ _ _ T47 (mkF m 100 #[.val (.int p1), .val (.ref h0.size), .val (.int (1 : Int32)), .unset, .unset, .unset, .unset] [(.ref h0.size)])
    refine own_step (fun _ k => XS.iloadN X47.here hx rfl (hb hby at_100) rfl k) ?_
    show own_Fin _ _ _ _ _ _ _ T47 (mkF m 101 #[.val (.int p1), .val (.ref h0.size), .val (.int (1 : Int32)), .unset, .unset, .unset, .unset] [(.int (1 : Int32)), (.ref h0.size)])
    refine own_ald X47 hx hZ e47 A47 rfl (v := (.ref s1)) 1 (by decide) (by decide) (by rw [z47]; rfl) (hb hby at_101) ?_
    show own_Fin _ _ _ _ _ _ _ T47 (mkF m 102 #[.val (.int p1), .val (.ref h0.size), .val (.int (1 : Int32)), .unset, .unset, .unset, .unset] [(.ref s1)])
    refine own_step (fun _ k => XS.astoreN X47.here hx rfl (hb hby at_102) rfl rfl (l' := #[.val (.int p1), .val (.ref h0.size), .val (.int (1 : Int32)), .val (.ref s1), .unset, .unset, .unset]) rfl k) ?_
    show own_Fin _ _ _ _ _ _ _ T47 (mkF m 103 #[.val (.int p1), .val (.ref h0.size), .val (.int (1 : Int32)), .val (.ref s1), .unset, .unset, .unset] [])
    refine own_step (fun _ k => XS.aloadN X47.here hx rfl (hb hby at_103) rfl rfl k) ?_
    show own_Fin _ _ _ _ _ _ _ T47 (mkF m 104 #[.val (.int p1), .val (.ref h0.size), .val (.int (1 : Int32)), .val (.ref s1), .unset, .unset, .unset] [(.ref s1)])
    refine own_getS X47 hx hZ hown (hw _ (List.mem_of_getElem? (i := 2) rfl)) e47 (S0.ext E47) (hb hby at_104) ?_
    intro T51 X51 e51
    show own_Fin _ _ _ _ _ _ _ T51 (mkF m 107 #[.val (.int p1), .val (.ref h0.size), .val (.int (1 : Int32)), .val (.ref s1), .unset, .unset, .unset] [(.ref s0), (.ref s1)])
    refine own_step (fun _ k => XT.acmpNo X51.here hx rfl (hb hby at_107) rfl rfl rfl (XT.aa_eq_f (fun q => (own_ne F1 F0 (by decide)) (Value.ref.inj q))) k) ?_
    show own_Fin _ _ _ _ _ _ _ T51 (mkF m 110 #[.val (.int p1), .val (.ref h0.size), .val (.int (1 : Int32)), .val (.ref s1), .unset, .unset, .unset] [])
    refine own_step (fun _ k => XS.aloadN X51.here hx rfl (hb hby at_110) rfl rfl k) ?_
    show own_Fin _ _ _ _ _ _ _ T51 (mkF m 111 #[.val (.int p1), .val (.ref h0.size), .val (.int (1 : Int32)), .val (.ref s1), .unset, .unset, .unset] [(.ref s1)])
    refine own_getS X51 hx hZ hown (hw _ (List.mem_of_getElem? (i := 6) rfl)) e51 (S1.ext E47) (hb hby at_111) ?_
    intro T52 X52 e52
    show own_Fin _ _ _ _ _ _ _ T52 (mkF m 114 #[.val (.int p1), .val (.ref h0.size), .val (.int (1 : Int32)), .val (.ref s1), .unset, .unset, .unset] [(.ref s1), (.ref s1)])
    refine own_step (fun _ k => XT.acmpYes X52.here hx rfl (pc0 := 114) (pc' := 124) rfl (hb hby at_114) rfl rfl rfl (XT.aa_eq_t (congrArg Value.ref rfl)) (by decide) (by decide) k) ?_
    show own_Fin _ _ _ _ _ _ _ T52 (mkF m 124 #[.val (.int p1), .val (.ref h0.size), .val (.int (1 : Int32)), .val (.ref s1), .unset, .unset, .unset] [])
    refine own_step (fun _ k => XT.iconstV X52.here hx rfl (1 : Int32) (hb hby at_124) (by decide) k) ?_
    show own_Fin _ _ _ _ _ _ _ T52 (mkF m 125 #[.val (.int p1), .val (.ref h0.size), .val (.int (1 : Int32)), .val (.ref s1), .unset, .unset, .unset] [(.int (1 : Int32))])
    refine own_step (fun _ k => XS.goto X52.here hx rfl (pc0 := 125) (pc' := 129) rfl (hb hby at_125) (by decide) (by decide) k) ?_
    show own_Fin _ _ _ _ _ _ _ T52 (mkF m 129 #[.val (.int p1), .val (.ref h0.size), .val (.int (1 : Int32)), .val (.ref s1), .unset, .unset, .unset] [(.int (1 : Int32))])
    refine own_step (fun _ k => XS.istore X52.here hx rfl (hb hby at_129) rfl (l' := #[.val (.int p1), .val (.ref h0.size), .val (.int (1 : Int32)), .val (.ref s1), .val (.int (1 : Int32)), .unset, .unset]) rfl k) ?_
    show own_Fin _ _ _ _ _ _ _ T52 (mkF m 131 #[.val (.int p1), .val (.ref h0.size), .val (.int (1 : Int32)), .val (.ref s1), .val (.int (1 : Int32)), .unset, .unset] [])
    refine own_step (fun _ k => XS.aloadN X52.here hx rfl (hb hby at_131) rfl rfl k) ?_
    show own_Fin _ _ _ _ _ _ _ T52 (mkF m 132 #[.val (.int p1), .val (.ref h0.size), .val (.int (1 : Int32)), .val (.ref s1), .val (.int (1 : Int32)), .unset, .unset] [(.ref s1)])
    refine own_getS X52 hx hZ hown (hw _ (List.mem_of_getElem? (i := 28) rfl)) e52 (S12.ext E47) (hb hby at_132) ?_
    intro T53 X53 e53
    show own_Fin _ _ _ _ _ _ _ T53 (mkF m 135 #[.val (.int p1), .val (.ref h0.size), .val (.int (1 : Int32)), .val (.ref s1), .val (.int (1 : Int32)), .unset, .unset] [(.ref s12), (.ref s1)])
    refine own_step (fun _ k => XT.acmpYes X53.here hx rfl (pc0 := 135) (pc' := 142) rfl (hb hby at_135) rfl rfl rfl (XT.aa_ne_t (fun q => (own_ne F1 F12 (by decide)) (Value.ref.inj q))) (by decide) (by decide) k) ?_
    show own_Fin _ _ _ _ _ _ _ T53 (mkF m 142 #[.val (.int p1), .val (.ref h0.size), .val (.int (1 : Int32)), .val (.ref s1), .val (.int (1 : Int32)), .unset, .unset] [])
    refine own_step (fun _ k => XT.iconstV X53.here hx rfl (0 : Int32) (hb hby at_142) (by decide) k) ?_
    show own_Fin _ _ _ _ _ _ _ T53 (mkF m 143 #[.val (.int p1), .val (.ref h0.size), .val (.int (1 : Int32)), .val (.ref s1), .val (.int (1 : Int32)), .unset, .unset] [(.int (0 : Int32))])
    refine own_step (fun _ k => XS.istore X53.here hx rfl (hb hby at_143) rfl (l' := #[.val (.int p1), .val (.ref h0.size), .val (.int (1 : Int32)), .val (.ref s1), .val (.int (1 : Int32)), .val (.int (0 : Int32)), .unset]) rfl k) ?_
    show own_Fin _ _ _ _ _ _ _ T53 (mkF m 145 #[.val (.int p1), .val (.ref h0.size), .val (.int (1 : Int32)), .val (.ref s1), .val (.int (1 : Int32)), .val (.int (0 : Int32)), .unset] [])
    refine own_step (fun _ k => XS.iload X53.here hx rfl (hb hby at_145) rfl k) ?_
    show own_Fin _ _ _ _ _ _ _ T53 (mkF m 147 #[.val (.int p1), .val (.ref h0.size), .val (.int (1 : Int32)), .val (.ref s1), .val (.int (1 : Int32)), .val (.int (0 : Int32)), .unset] [(.int (1 : Int32))])
    refine own_step (fun _ k => XS.ifYes X53.here hx rfl (pc0 := 147) (pc' := 159) rfl (hb hby at_147) rfl (XT.i0_ne_t (by decide)) (by decide) (by decide) k) ?_
    show own_Fin _ _ _ _ _ _ _ T53 (mkF m 159 #[.val (.int p1), .val (.ref h0.size), .val (.int (1 : Int32)), .val (.ref s1), .val (.int (1 : Int32)), .val (.int (0 : Int32)), .unset] [])
    refine own_step (fun _ k => XT.iconstV X53.here hx rfl (0 : Int32) (hb hby at_159) (by decide) k) ?_
    show own_Fin _ _ _ _ _ _ _ T53 (mkF m 160 #[.val (.int p1), .val (.ref h0.size), .val (.int (1 : Int32)), .val (.ref s1), .val (.int (1 : Int32)), .val (.int (0 : Int32)), .unset] [(.int (0 : Int32))])
    refine own_step (fun _ k => XS.istore X53.here hx rfl (hb hby at_160) rfl (l' := #[.val (.int p1), .val (.ref h0.size), .val (.int (1 : Int32)), .val (.ref s1), .val (.int (1 : Int32)), .val (.int (0 : Int32)), .val (.int (0 : Int32))]) rfl k) ?_
    show own_Fin _ _ _ _ _ _ _ T53 (mkF m 162 #[.val (.int p1), .val (.ref h0.size), .val (.int (1 : Int32)), .val (.ref s1), .val (.int (1 : Int32)), .val (.int (0 : Int32)), .val (.int (0 : Int32))] [])
    refine own_step (fun _ k => XS.aloadN X53.here hx rfl (hb hby at_162) rfl rfl k) ?_
    show own_Fin _ _ _ _ _ _ _ T53 (mkF m 163 #[.val (.int p1), .val (.ref h0.size), .val (.int (1 : Int32)), .val (.ref s1), .val (.int (1 : Int32)), .val (.int (0 : Int32)), .val (.int (0 : Int32))] [(.ref s1)])
    have M := rm1 l Z a0 hw hp47 s1 u0 u1 u2 (G1.ext E47) (SU1.ext E47) (SU2.ext E47)
    rw [if_neg (by simp [own_ne FU0 FU1 (by decide), own_ne FU0 FU2 (by decide)])] at M
    refine own_callV0 X53 hx hZ (argsL := []) (rest := []) hown (hw _ (List.mem_of_getElem? (i := 31) rfl)) (hw _ (List.mem_of_getElem? (i := 32) rfl)) (hw _ (List.mem_of_getElem? (i := 34) rfl)) (hw _ (List.mem_of_getElem? (i := 33) rfl)) (hw _ (List.mem_of_getElem? (i := 35) rfl)) (hw _ (List.mem_of_getElem? (i := 3) rfl)) (by decide) (E1.ext E47) M e53 0 (Nat.le_of_eq rfl) (by decide) (by decide) (by decide) (by decide) (by rw [hml]; rfl) pd___Z rfl rfl (hb hby at_163) ?_
    intro T54 X54 e54
    show own_Fin _ _ _ _ _ _ _ T54 (mkF m 166 #[.val (.int p1), .val (.ref h0.size), .val (.int (1 : Int32)), .val (.ref s1), .val (.int (1 : Int32)), .val (.int (0 : Int32)), .val (.int (0 : Int32))] [(.int (0 : Int32))])
    refine own_step (fun _ k => XS.iload X54.here hx rfl (hb hby at_166) rfl k) ?_
    show own_Fin _ _ _ _ _ _ _ T54 (mkF m 168 #[.val (.int p1), .val (.ref h0.size), .val (.int (1 : Int32)), .val (.ref s1), .val (.int (1 : Int32)), .val (.int (0 : Int32)), .val (.int (0 : Int32))] [(.int (0 : Int32)), (.int (0 : Int32))])
    refine own_step (fun _ k => XS.icmpNo X54.here hx rfl (hb hby at_168) rfl (XT.ii_ne_f (by decide)) k) ?_
    show own_Fin _ _ _ _ _ _ _ T54 (mkF m 171 #[.val (.int p1), .val (.ref h0.size), .val (.int (1 : Int32)), .val (.ref s1), .val (.int (1 : Int32)), .val (.int (0 : Int32)), .val (.int (0 : Int32))] [])
    refine own_step (fun _ k => XT.iconstV X54.here hx rfl (1 : Int32) (hb hby at_171) (by decide) k) ?_
    show own_Fin _ _ _ _ _ _ _ T54 (mkF m 172 #[.val (.int p1), .val (.ref h0.size), .val (.int (1 : Int32)), .val (.ref s1), .val (.int (1 : Int32)), .val (.int (0 : Int32)), .val (.int (0 : Int32))] [(.int (1 : Int32))])
    refine own_step (fun _ k => XS.goto X54.here hx rfl (pc0 := 172) (pc' := 176) rfl (hb hby at_172) (by decide) (by decide) k) ?_
    show own_Fin _ _ _ _ _ _ _ T54 (mkF m 176 #[.val (.int p1), .val (.ref h0.size), .val (.int (1 : Int32)), .val (.ref s1), .val (.int (1 : Int32)), .val (.int (0 : Int32)), .val (.int (0 : Int32))] [(.int (1 : Int32))])
    exact own_retZ X54 hx hrt hlk (hb hby at_176) (Or.inr rfl) ⟨rfl, N47⟩ (by decide) (by decide)
  · rw [q]
    show own_Fin _ _ _ _ _ _ _ T47 (mkF m 98 #[.val (.int p1), .val (.ref h0.size), .unset, .unset, .unset, .unset, .unset] [(.int (2 : Int32))])
    refine own_step (fun _ k => XS.istoreN X47.here hx rfl (hb hby at_98) rfl (l' := #[.val (.int p1), .val (.ref h0.size), .val (.int (2 : Int32)), .unset, .unset, .unset, .unset]) rfl k) ?_
    show own_Fin _ _ _ _ _ _ _ T47 (mkF m 99 #[.val (.int p1), .val (.ref h0.size), .val (.int (2 : Int32)), .unset, .unset, .unset, .unset] [])
    refine own_step (fun _ k => XS.aloadN X47.here hx rfl (hb hby at_99) rfl rfl k) ?_
    show own_Fin _ _ _ _ _ _ _ T47 (mkF m 100 #[.val (.int p1), .val (.ref h0.size), .val (.int (2 : Int32)), .unset, .unset, .unset, .unset] [(.ref h0.size)])
    refine own_step (fun _ k => XS.iloadN X47.here hx rfl (hb hby at_100) rfl k) ?_
    show own_Fin _ _ _ _ _ _ _ T47 (mkF m 101 #[.val (.int p1), .val (.ref h0.size), .val (.int (2 : Int32)), .unset, .unset, .unset, .unset] [(.int (2 : Int32)), (.ref h0.size)])
    refine own_ald X47 hx hZ e47 A47 rfl (v := (.ref s2)) 2 (by decide) (by decide) (by rw [z47]; rfl) (hb hby at_101) ?_
    show own_Fin _ _ _ _ _ _ _ T47 (mkF m 102 #[.val (.int p1), .val (.ref h0.size), .val (.int (2 : Int32)), .unset, .unset, .unset, .unset] [(.ref s2)])
    refine own_step (fun _ k => XS.astoreN X47.here hx rfl (hb hby at_102) rfl rfl (l' := #[.val (.int p1), .val (.ref h0.size), .val (.int (2 : Int32)), .val (.ref s2), .unset, .unset, .unset]) rfl k) ?_
    show own_Fin _ _ _ _ _ _ _ T47 (mkF m 103 #[.val (.int p1), .val (.ref h0.size), .val (.int (2 : Int32)), .val (.ref s2), .unset, .unset, .unset] [])
    refine own_step (fun _ k => XS.aloadN X47.here hx rfl (hb hby at_103) rfl rfl k) ?_
    show own_Fin _ _ _ _ _ _ _ T47 (mkF m 104 #[.val (.int p1), .val (.ref h0.size), .val (.int (2 : Int32)), .val (.ref s2), .unset, .unset, .unset] [(.ref s2)])
    refine own_getS X47 hx hZ hown (hw _ (List.mem_of_getElem? (i := 2) rfl)) e47 (S0.ext E47) (hb hby at_104) ?_
    intro T55 X55 e55
    show own_Fin _ _ _ _ _ _ _ T55 (mkF m 107 #[.val (.int p1), .val (.ref h0.size), .val (.int (2 : Int32)), .val (.ref s2), .unset, .unset, .unset] [(.ref s0), (.ref s2)])
    refine own_step (fun _ k => XT.acmpNo X55.here hx rfl (hb hby at_107) rfl rfl rfl (XT.aa_eq_f (fun q => (own_ne F2 F0 (by decide)) (Value.ref.inj q))) k) ?_
    show own_Fin _ _ _ _ _ _ _ T55 (mkF m 110 #[.val (.int p1), .val (.ref h0.size), .val (.int (2 : Int32)), .val (.ref s2), .unset, .unset, .unset] [])
    refine own_step (fun _ k => XS.aloadN X55.here hx rfl (hb hby at_110) rfl rfl k) ?_
    show own_Fin _ _ _ _ _ _ _ T55 (mkF m 111 #[.val (.int p1), .val (.ref h0.size), .val (.int (2 : Int32)), .val (.ref s2), .unset, .unset, .unset] [(.ref s2)])
    refine own_getS X55 hx hZ hown (hw _ (List.mem_of_getElem? (i := 6) rfl)) e55 (S1.ext E47) (hb hby at_111) ?_
    intro T56 X56 e56
    show own_Fin _ _ _ _ _ _ _ T56 (mkF m 114 #[.val (.int p1), .val (.ref h0.size), .val (.int (2 : Int32)), .val (.ref s2), .unset, .unset, .unset] [(.ref s1), (.ref s2)])
    refine own_step (fun _ k => XT.acmpNo X56.here hx rfl (hb hby at_114) rfl rfl rfl (XT.aa_eq_f (fun q => (own_ne F2 F1 (by decide)) (Value.ref.inj q))) k) ?_
    show own_Fin _ _ _ _ _ _ _ T56 (mkF m 117 #[.val (.int p1), .val (.ref h0.size), .val (.int (2 : Int32)), .val (.ref s2), .unset, .unset, .unset] [])
    refine own_step (fun _ k => XS.aloadN X56.here hx rfl (hb hby at_117) rfl rfl k) ?_
    show own_Fin _ _ _ _ _ _ _ T56 (mkF m 118 #[.val (.int p1), .val (.ref h0.size), .val (.int (2 : Int32)), .val (.ref s2), .unset, .unset, .unset] [(.ref s2)])
    refine own_getS X56 hx hZ hown (hw _ (List.mem_of_getElem? (i := 10) rfl)) e56 (S3.ext E47) (hb hby at_118) ?_
    intro T57 X57 e57
    show own_Fin _ _ _ _ _ _ _ T57 (mkF m 121 #[.val (.int p1), .val (.ref h0.size), .val (.int (2 : Int32)), .val (.ref s2), .unset, .unset, .unset] [(.ref s3), (.ref s2)])
    refine own_step (fun _ k => XT.acmpYes X57.here hx rfl (pc0 := 121) (pc' := 128) rfl (hb hby at_121) rfl rfl rfl (XT.aa_ne_t (fun q => (own_ne F2 F3 (by decide)) (Value.ref.inj q))) (by decide) (by decide) k) ?_
    show own_Fin _ _ _ _ _ _ _ T57 (mkF m 128 #[.val (.int p1), .val (.ref h0.size), .val (.int (2 : Int32)), .val (.ref s2), .unset, .unset, .unset] [])
    refine own_step (fun _ k => XT.iconstV X57.here hx rfl (0 : Int32) (hb hby at_128) (by decide) k) ?_
    show own_Fin _ _ _ _ _ _ _ T57 (mkF m 129 #[.val (.int p1), .val (.ref h0.size), .val (.int (2 : Int32)), .val (.ref s2), .unset, .unset, .unset] [(.int (0 : Int32))])
    refine own_step (fun _ k => XS.istore X57.here hx rfl (hb hby at_129) rfl (l' := #[.val (.int p1), .val (.ref h0.size), .val (.int (2 : Int32)), .val (.ref s2), .val (.int (0 : Int32)), .unset, .unset]) rfl k) ?_
    show own_Fin _ _ _ _ _ _ _ T57 (mkF m 131 #[.val (.int p1), .val (.ref h0.size), .val (.int (2 : Int32)), .val (.ref s2), .val (.int (0 : Int32)), .unset, .unset] [])
    refine own_step (fun _ k => XS.aloadN X57.here hx rfl (hb hby at_131) rfl rfl k) ?_
    show own_Fin _ _ _ _ _ _ _ T57 (mkF m 132 #[.val (.int p1), .val (.ref h0.size), .val (.int (2 : Int32)), .val (.ref s2), .val (.int (0 : Int32)), .unset, .unset] [(.ref s2)])
    refine own_getS X57 hx hZ hown (hw _ (List.mem_of_getElem? (i := 28) rfl)) e57 (S12.ext E47) (hb hby at_132) ?_
    intro T58 X58 e58
    show own_Fin _ _ _ _ _ _ _ T58 (mkF m 135 #[.val (.int p1), .val (.ref h0.size), .val (.int (2 : Int32)), .val (.ref s2), .val (.int (0 : Int32)), .unset, .unset] [(.ref s12), (.ref s2)])
    refine own_step (fun _ k => XT.acmpYes X58.here hx rfl (pc0 := 135) (pc' := 142) rfl (hb hby at_135) rfl rfl rfl (XT.aa_ne_t (fun q => (own_ne F2 F12 (by decide)) (Value.ref.inj q))) (by decide) (by decide) k) ?_
    show own_Fin _ _ _ _ _ _ _ T58 (mkF m 142 #[.val (.int p1), .val (.ref h0.size), .val (.int (2 : Int32)), .val (.ref s2), .val (.int (0 : Int32)), .unset, .unset] [])
    refine own_step (fun _ k => XT.iconstV X58.here hx rfl (0 : Int32) (hb hby at_142) (by decide) k) ?_
    show own_Fin _ _ _ _ _ _ _ T58 (mkF m 143 #[.val (.int p1), .val (.ref h0.size), .val (.int (2 : Int32)), .val (.ref s2), .val (.int (0 : Int32)), .unset, .unset] [(.int (0 : Int32))])
    refine own_step (fun _ k => XS.istore X58.here hx rfl (hb hby at_143) rfl (l' := #[.val (.int p1), .val (.ref h0.size), .val (.int (2 : Int32)), .val (.ref s2), .val (.int (0 : Int32)), .val (.int (0 : Int32)), .unset]) rfl k) ?_
    show own_Fin _ _ _ _ _ _ _ T58 (mkF m 145 #[.val (.int p1), .val (.ref h0.size), .val (.int (2 : Int32)), .val (.ref s2), .val (.int (0 : Int32)), .val (.int (0 : Int32)), .unset] [])
    refine own_step (fun _ k => XS.iload X58.here hx rfl (hb hby at_145) rfl k) ?_
    show own_Fin _ _ _ _ _ _ _ T58 (mkF m 147 #[.val (.int p1), .val (.ref h0.size), .val (.int (2 : Int32)), .val (.ref s2), .val (.int (0 : Int32)), .val (.int (0 : Int32)), .unset] [(.int (0 : Int32))])
    refine own_step (fun _ k => XS.ifNo X58.here hx rfl (hb hby at_147) rfl (XT.i0_ne_f (by decide)) k) ?_
    show own_Fin _ _ _ _ _ _ _ T58 (mkF m 150 #[.val (.int p1), .val (.ref h0.size), .val (.int (2 : Int32)), .val (.ref s2), .val (.int (0 : Int32)), .val (.int (0 : Int32)), .unset] [])
    refine own_step (fun _ k => XS.iload X58.here hx rfl (hb hby at_150) rfl k) ?_
    show own_Fin _ _ _ _ _ _ _ T58 (mkF m 152 #[.val (.int p1), .val (.ref h0.size), .val (.int (2 : Int32)), .val (.ref s2), .val (.int (0 : Int32)), .val (.int (0 : Int32)), .unset] [(.int (0 : Int32))])
    refine own_step (fun _ k => XS.ifNo X58.here hx rfl (hb hby at_152) rfl (XT.i0_ne_f (by decide)) k) ?_
    show own_Fin _ _ _ _ _ _ _ T58 (mkF m 155 #[.val (.int p1), .val (.ref h0.size), .val (.int (2 : Int32)), .val (.ref s2), .val (.int (0 : Int32)), .val (.int (0 : Int32)), .unset] [])
    refine own_step (fun _ k => XT.iconstV X58.here hx rfl (1 : Int32) (hb hby at_155) (by decide) k) ?_
    show own_Fin _ _ _ _ _ _ _ T58 (mkF m 156 #[.val (.int p1), .val (.ref h0.size), .val (.int (2 : Int32)), .val (.ref s2), .val (.int (0 : Int32)), .val (.int (0 : Int32)), .unset] [(.int (1 : Int32))])
    refine own_step (fun _ k => XS.goto X58.here hx rfl (pc0 := 156) (pc' := 160) rfl (hb hby at_156) (by decide) (by decide) k) ?_
    show own_Fin _ _ _ _ _ _ _ T58 (mkF m 160 #[.val (.int p1), .val (.ref h0.size), .val (.int (2 : Int32)), .val (.ref s2), .val (.int (0 : Int32)), .val (.int (0 : Int32)), .unset] [(.int (1 : Int32))])
    refine own_step (fun _ k => XS.istore X58.here hx rfl (hb hby at_160) rfl (l' := #[.val (.int p1), .val (.ref h0.size), .val (.int (2 : Int32)), .val (.ref s2), .val (.int (0 : Int32)), .val (.int (0 : Int32)), .val (.int (1 : Int32))]) rfl k) ?_
    show own_Fin _ _ _ _ _ _ _ T58 (mkF m 162 #[.val (.int p1), .val (.ref h0.size), .val (.int (2 : Int32)), .val (.ref s2), .val (.int (0 : Int32)), .val (.int (0 : Int32)), .val (.int (1 : Int32))] [])
    refine own_step (fun _ k => XS.aloadN X58.here hx rfl (hb hby at_162) rfl rfl k) ?_
    show own_Fin _ _ _ _ _ _ _ T58 (mkF m 163 #[.val (.int p1), .val (.ref h0.size), .val (.int (2 : Int32)), .val (.ref s2), .val (.int (0 : Int32)), .val (.int (0 : Int32)), .val (.int (1 : Int32))] [(.ref s2)])
    have M := rm1 l Z a0 hw hp47 s2 u2 u1 u2 (G2.ext E47) (SU1.ext E47) (SU2.ext E47)
    rw [if_pos (by simp)] at M
    refine own_callV0 X58 hx hZ (argsL := []) (rest := []) hown (hw _ (List.mem_of_getElem? (i := 31) rfl)) (hw _ (List.mem_of_getElem? (i := 32) rfl)) (hw _ (List.mem_of_getElem? (i := 34) rfl)) (hw _ (List.mem_of_getElem? (i := 33) rfl)) (hw _ (List.mem_of_getElem? (i := 35) rfl)) (hw _ (List.mem_of_getElem? (i := 3) rfl)) (by decide) (E2.ext E47) M e58 0 (Nat.le_of_eq rfl) (by decide) (by decide) (by decide) (by decide) (by rw [hml]; rfl) pd___Z rfl rfl (hb hby at_163) ?_
    intro T59 X59 e59
    show own_Fin _ _ _ _ _ _ _ T59 (mkF m 166 #[.val (.int p1), .val (.ref h0.size), .val (.int (2 : Int32)), .val (.ref s2), .val (.int (0 : Int32)), .val (.int (0 : Int32)), .val (.int (1 : Int32))] [(.int (1 : Int32))])
    refine own_step (fun _ k => XS.iload X59.here hx rfl (hb hby at_166) rfl k) ?_
    show own_Fin _ _ _ _ _ _ _ T59 (mkF m 168 #[.val (.int p1), .val (.ref h0.size), .val (.int (2 : Int32)), .val (.ref s2), .val (.int (0 : Int32)), .val (.int (0 : Int32)), .val (.int (1 : Int32))] [(.int (1 : Int32)), (.int (1 : Int32))])
    refine own_step (fun _ k => XS.icmpNo X59.here hx rfl (hb hby at_168) rfl (XT.ii_ne_f (by decide)) k) ?_
    show own_Fin _ _ _ _ _ _ _ T59 (mkF m 171 #[.val (.int p1), .val (.ref h0.size), .val (.int (2 : Int32)), .val (.ref s2), .val (.int (0 : Int32)), .val (.int (0 : Int32)), .val (.int (1 : Int32))] [])
    refine own_step (fun _ k => XT.iconstV X59.here hx rfl (1 : Int32) (hb hby at_171) (by decide) k) ?_
    show own_Fin _ _ _ _ _ _ _ T59 (mkF m 172 #[.val (.int p1), .val (.ref h0.size), .val (.int (2 : Int32)), .val (.ref s2), .val (.int (0 : Int32)), .val (.int (0 : Int32)), .val (.int (1 : Int32))] [(.int (1 : Int32))])
    refine own_step (fun _ k => XS.goto X59.here hx rfl (pc0 := 172) (pc' := 176) rfl (hb hby at_172) (by decide) (by decide) k) ?_
    show own_Fin _ _ _ _ _ _ _ T59 (mkF m 176 #[.val (.int p1), .val (.ref h0.size), .val (.int (2 : Int32)), .val (.ref s2), .val (.int (0 : Int32)), .val (.int (0 : Int32)), .val (.int (1 : Int32))] [(.int (1 : Int32))])
    exact own_retZ X59 hx hrt hlk (hb hby at_176) (Or.inr rfl) ⟨rfl, N47⟩ (by decide) (by decide)
  · rw [q]
    show own_Fin _ _ _ _ _ _ _ T47 (mkF m 98 #[.val (.int p1), .val (.ref h0.size), .unset, .unset, .unset, .unset, .unset] [(.int (3 : Int32))])
    refine own_step (fun _ k => XS.istoreN X47.here hx rfl (hb hby at_98) rfl (l' := #[.val (.int p1), .val (.ref h0.size), .val (.int (3 : Int32)), .unset, .unset, .unset, .unset]) rfl k) ?_
    show own_Fin _ _ _ _ _ _ _ T47 (mkF m 99 #[.val (.int p1), .val (.ref h0.size), .val (.int (3 : Int32)), .unset, .unset, .unset, .unset] [])
    refine own_step (fun _ k => XS.aloadN X47.here hx rfl (hb hby at_99) rfl rfl k) ?_
    show own_Fin _ _ _ _ _ _ _ T47 (mkF m 100 #[.val (.int p1), .val (.ref h0.size), .val (.int (3 : Int32)), .unset, .unset, .unset, .unset] [(.ref h0.size)])
    refine own_step (fun _ k => XS.iloadN X47.here hx rfl (hb hby at_100) rfl k) ?_
    show own_Fin _ _ _ _ _ _ _ T47 (mkF m 101 #[.val (.int p1), .val (.ref h0.size), .val (.int (3 : Int32)), .unset, .unset, .unset, .unset] [(.int (3 : Int32)), (.ref h0.size)])
    refine own_ald X47 hx hZ e47 A47 rfl (v := (.ref s3)) 3 (by decide) (by decide) (by rw [z47]; rfl) (hb hby at_101) ?_
    show own_Fin _ _ _ _ _ _ _ T47 (mkF m 102 #[.val (.int p1), .val (.ref h0.size), .val (.int (3 : Int32)), .unset, .unset, .unset, .unset] [(.ref s3)])
    refine own_step (fun _ k => XS.astoreN X47.here hx rfl (hb hby at_102) rfl rfl (l' := #[.val (.int p1), .val (.ref h0.size), .val (.int (3 : Int32)), .val (.ref s3), .unset, .unset, .unset]) rfl k) ?_
    show own_Fin _ _ _ _ _ _ _ T47 (mkF m 103 #[.val (.int p1), .val (.ref h0.size), .val (.int (3 : Int32)), .val (.ref s3), .unset, .unset, .unset] [])
    refine own_step (fun _ k => XS.aloadN X47.here hx rfl (hb hby at_103) rfl rfl k) ?_
    show own_Fin _ _ _ _ _ _ _ T47 (mkF m 104 #[.val (.int p1), .val (.ref h0.size), .val (.int (3 : Int32)), .val (.ref s3), .unset, .unset, .unset] [(.ref s3)])
    refine own_getS X47 hx hZ hown (hw _ (List.mem_of_getElem? (i := 2) rfl)) e47 (S0.ext E47) (hb hby at_104) ?_
    intro T60 X60 e60
    show own_Fin _ _ _ _ _ _ _ T60 (mkF m 107 #[.val (.int p1), .val (.ref h0.size), .val (.int (3 : Int32)), .val (.ref s3), .unset, .unset, .unset] [(.ref s0), (.ref s3)])
    refine own_step (fun _ k => XT.acmpNo X60.here hx rfl (hb hby at_107) rfl rfl rfl (XT.aa_eq_f (fun q => (own_ne F3 F0 (by decide)) (Value.ref.inj q))) k) ?_
    show own_Fin _ _ _ _ _ _ _ T60 (mkF m 110 #[.val (.int p1), .val (.ref h0.size), .val (.int (3 : Int32)), .val (.ref s3), .unset, .unset, .unset] [])
    refine own_step (fun _ k => XS.aloadN X60.here hx rfl (hb hby at_110) rfl rfl k) ?_
    show own_Fin _ _ _ _ _ _ _ T60 (mkF m 111 #[.val (.int p1), .val (.ref h0.size), .val (.int (3 : Int32)), .val (.ref s3), .unset, .unset, .unset] [(.ref s3)])
    refine own_getS X60 hx hZ hown (hw _ (List.mem_of_getElem? (i := 6) rfl)) e60 (S1.ext E47) (hb hby at_111) ?_
    intro T61 X61 e61
    show own_Fin _ _ _ _ _ _ _ T61 (mkF m 114 #[.val (.int p1), .val (.ref h0.size), .val (.int (3 : Int32)), .val (.ref s3), .unset, .unset, .unset] [(.ref s1), (.ref s3)])
    refine own_step (fun _ k => XT.acmpNo X61.here hx rfl (hb hby at_114) rfl rfl rfl (XT.aa_eq_f (fun q => (own_ne F3 F1 (by decide)) (Value.ref.inj q))) k) ?_
    show own_Fin _ _ _ _ _ _ _ T61 (mkF m 117 #[.val (.int p1), .val (.ref h0.size), .val (.int (3 : Int32)), .val (.ref s3), .unset, .unset, .unset] [])
    refine own_step (fun _ k => XS.aloadN X61.here hx rfl (hb hby at_117) rfl rfl k) ?_
    show own_Fin _ _ _ _ _ _ _ T61 (mkF m 118 #[.val (.int p1), .val (.ref h0.size), .val (.int (3 : Int32)), .val (.ref s3), .unset, .unset, .unset] [(.ref s3)])
    refine own_getS X61 hx hZ hown (hw _ (List.mem_of_getElem? (i := 10) rfl)) e61 (S3.ext E47) (hb hby at_118) ?_
    intro T62 X62 e62
    show own_Fin _ _ _ _ _ _ _ T62 (mkF m 121 #[.val (.int p1), .val (.ref h0.size), .val (.int (3 : Int32)), .val (.ref s3), .unset, .unset, .unset] [(.ref s3), (.ref s3)])
    refine own_step (fun _ k => XT.acmpNo X62.here hx rfl (hb hby at_121) rfl rfl rfl (XT.aa_ne_f (congrArg Value.ref rfl)) k) ?_
    show own_Fin _ _ _ _ _ _ _ T62 (mkF m 124 #[.val (.int p1), .val (.ref h0.size), .val (.int (3 : Int32)), .val (.ref s3), .unset, .unset, .unset] [])
    refine own_step (fun _ k => XT.iconstV X62.here hx rfl (1 : Int32) (hb hby at_124) (by decide) k) ?_
    show own_Fin _ _ _ _ _ _ _ T62 (mkF m 125 #[.val (.int p1), .val (.ref h0.size), .val (.int (3 : Int32)), .val (.ref s3), .unset, .unset, .unset] [(.int (1 : Int32))])
    refine own_step (fun _ k => XS.goto X62.here hx rfl (pc0 := 125) (pc' := 129) rfl (hb hby at_125) (by decide) (by decide) k) ?_
    show own_Fin _ _ _ _ _ _ _ T62 (mkF m 129 #[.val (.int p1), .val (.ref h0.size), .val (.int (3 : Int32)), .val (.ref s3), .unset, .unset, .unset] [(.int (1 : Int32))])
    refine own_step (fun _ k => XS.istore X62.here hx rfl (hb hby at_129) rfl (l' := #[.val (.int p1), .val (.ref h0.size), .val (.int (3 : Int32)), .val (.ref s3), .val (.int (1 : Int32)), .unset, .unset]) rfl k) ?_
    show own_Fin _ _ _ _ _ _ _ T62 (mkF m 131 #[.val (.int p1), .val (.ref h0.size), .val (.int (3 : Int32)), .val (.ref s3), .val (.int (1 : Int32)), .unset, .unset] [])
    refine own_step (fun _ k => XS.aloadN X62.here hx rfl (hb hby at_131) rfl rfl k) ?_
    show own_Fin _ _ _ _ _ _ _ T62 (mkF m 132 #[.val (.int p1), .val (.ref h0.size), .val (.int (3 : Int32)), .val (.ref s3), .val (.int (1 : Int32)), .unset, .unset] [(.ref s3)])
    refine own_getS X62 hx hZ hown (hw _ (List.mem_of_getElem? (i := 28) rfl)) e62 (S12.ext E47) (hb hby at_132) ?_
    intro T63 X63 e63
    show own_Fin _ _ _ _ _ _ _ T63 (mkF m 135 #[.val (.int p1), .val (.ref h0.size), .val (.int (3 : Int32)), .val (.ref s3), .val (.int (1 : Int32)), .unset, .unset] [(.ref s12), (.ref s3)])
    refine own_step (fun _ k => XT.acmpYes X63.here hx rfl (pc0 := 135) (pc' := 142) rfl (hb hby at_135) rfl rfl rfl (XT.aa_ne_t (fun q => (own_ne F3 F12 (by decide)) (Value.ref.inj q))) (by decide) (by decide) k) ?_
    show own_Fin _ _ _ _ _ _ _ T63 (mkF m 142 #[.val (.int p1), .val (.ref h0.size), .val (.int (3 : Int32)), .val (.ref s3), .val (.int (1 : Int32)), .unset, .unset] [])
    refine own_step (fun _ k => XT.iconstV X63.here hx rfl (0 : Int32) (hb hby at_142) (by decide) k) ?_
    show own_Fin _ _ _ _ _ _ _ T63 (mkF m 143 #[.val (.int p1), .val (.ref h0.size), .val (.int (3 : Int32)), .val (.ref s3), .val (.int (1 : Int32)), .unset, .unset] [(.int (0 : Int32))])
    refine own_step (fun _ k => XS.istore X63.here hx rfl (hb hby at_143) rfl (l' := #[.val (.int p1), .val (.ref h0.size), .val (.int (3 : Int32)), .val (.ref s3), .val (.int (1 : Int32)), .val (.int (0 : Int32)), .unset]) rfl k) ?_
    show own_Fin _ _ _ _ _ _ _ T63 (mkF m 145 #[.val (.int p1), .val (.ref h0.size), .val (.int (3 : Int32)), .val (.ref s3), .val (.int (1 : Int32)), .val (.int (0 : Int32)), .unset] [])
    refine own_step (fun _ k => XS.iload X63.here hx rfl (hb hby at_145) rfl k) ?_
    show own_Fin _ _ _ _ _ _ _ T63 (mkF m 147 #[.val (.int p1), .val (.ref h0.size), .val (.int (3 : Int32)), .val (.ref s3), .val (.int (1 : Int32)), .val (.int (0 : Int32)), .unset] [(.int (1 : Int32))])
    refine own_step (fun _ k => XS.ifYes X63.here hx rfl (pc0 := 147) (pc' := 159) rfl (hb hby at_147) rfl (XT.i0_ne_t (by decide)) (by decide) (by decide) k) ?_
    show own_Fin _ _ _ _ _ _ _ T63 (mkF m 159 #[.val (.int p1), .val (.ref h0.size), .val (.int (3 : Int32)), .val (.ref s3), .val (.int (1 : Int32)), .val (.int (0 : Int32)), .unset] [])
    refine own_step (fun _ k => XT.iconstV X63.here hx rfl (0 : Int32) (hb hby at_159) (by decide) k) ?_
    show own_Fin _ _ _ _ _ _ _ T63 (mkF m 160 #[.val (.int p1), .val (.ref h0.size), .val (.int (3 : Int32)), .val (.ref s3), .val (.int (1 : Int32)), .val (.int (0 : Int32)), .unset] [(.int (0 : Int32))])
    refine own_step (fun _ k => XS.istore X63.here hx rfl (hb hby at_160) rfl (l' := #[.val (.int p1), .val (.ref h0.size), .val (.int (3 : Int32)), .val (.ref s3), .val (.int (1 : Int32)), .val (.int (0 : Int32)), .val (.int (0 : Int32))]) rfl k) ?_
    show own_Fin _ _ _ _ _ _ _ T63 (mkF m 162 #[.val (.int p1), .val (.ref h0.size), .val (.int (3 : Int32)), .val (.ref s3), .val (.int (1 : Int32)), .val (.int (0 : Int32)), .val (.int (0 : Int32))] [])
    refine own_step (fun _ k => XS.aloadN X63.here hx rfl (hb hby at_162) rfl rfl k) ?_
    show own_Fin _ _ _ _ _ _ _ T63 (mkF m 163 #[.val (.int p1), .val (.ref h0.size), .val (.int (3 : Int32)), .val (.ref s3), .val (.int (1 : Int32)), .val (.int (0 : Int32)), .val (.int (0 : Int32))] [(.ref s3)])
    have M := rm1 l Z a0 hw hp47 s3 u0 u1 u2 (G3.ext E47) (SU1.ext E47) (SU2.ext E47)
    rw [if_neg (by simp [own_ne FU0 FU1 (by decide), own_ne FU0 FU2 (by decide)])] at M
    refine own_callV0 X63 hx hZ (argsL := []) (rest := []) hown (hw _ (List.mem_of_getElem? (i := 31) rfl)) (hw _ (List.mem_of_getElem? (i := 32) rfl)) (hw _ (List.mem_of_getElem? (i := 34) rfl)) (hw _ (List.mem_of_getElem? (i := 33) rfl)) (hw _ (List.mem_of_getElem? (i := 35) rfl)) (hw _ (List.mem_of_getElem? (i := 3) rfl)) (by decide) (E3.ext E47) M e63 0 (Nat.le_of_eq rfl) (by decide) (by decide) (by decide) (by decide) (by rw [hml]; rfl) pd___Z rfl rfl (hb hby at_163) ?_
    intro T64 X64 e64
    show own_Fin _ _ _ _ _ _ _ T64 (mkF m 166 #[.val (.int p1), .val (.ref h0.size), .val (.int (3 : Int32)), .val (.ref s3), .val (.int (1 : Int32)), .val (.int (0 : Int32)), .val (.int (0 : Int32))] [(.int (0 : Int32))])
    refine own_step (fun _ k => XS.iload X64.here hx rfl (hb hby at_166) rfl k) ?_
    show own_Fin _ _ _ _ _ _ _ T64 (mkF m 168 #[.val (.int p1), .val (.ref h0.size), .val (.int (3 : Int32)), .val (.ref s3), .val (.int (1 : Int32)), .val (.int (0 : Int32)), .val (.int (0 : Int32))] [(.int (0 : Int32)), (.int (0 : Int32))])
    refine own_step (fun _ k => XS.icmpNo X64.here hx rfl (hb hby at_168) rfl (XT.ii_ne_f (by decide)) k) ?_
    show own_Fin _ _ _ _ _ _ _ T64 (mkF m 171 #[.val (.int p1), .val (.ref h0.size), .val (.int (3 : Int32)), .val (.ref s3), .val (.int (1 : Int32)), .val (.int (0 : Int32)), .val (.int (0 : Int32))] [])
    refine own_step (fun _ k => XT.iconstV X64.here hx rfl (1 : Int32) (hb hby at_171) (by decide) k) ?_
    show own_Fin _ _ _ _ _ _ _ T64 (mkF m 172 #[.val (.int p1), .val (.ref h0.size), .val (.int (3 : Int32)), .val (.ref s3), .val (.int (1 : Int32)), .val (.int (0 : Int32)), .val (.int (0 : Int32))] [(.int (1 : Int32))])
    refine own_step (fun _ k => XS.goto X64.here hx rfl (pc0 := 172) (pc' := 176) rfl (hb hby at_172) (by decide) (by decide) k) ?_
    show own_Fin _ _ _ _ _ _ _ T64 (mkF m 176 #[.val (.int p1), .val (.ref h0.size), .val (.int (3 : Int32)), .val (.ref s3), .val (.int (1 : Int32)), .val (.int (0 : Int32)), .val (.int (0 : Int32))] [(.int (1 : Int32))])
    exact own_retZ X64 hx hrt hlk (hb hby at_176) (Or.inr rfl) ⟨rfl, N47⟩ (by decide) (by decide)
  · rw [q]
    show own_Fin _ _ _ _ _ _ _ T47 (mkF m 98 #[.val (.int p1), .val (.ref h0.size), .unset, .unset, .unset, .unset, .unset] [(.int (4 : Int32))])
    refine own_step (fun _ k => XS.istoreN X47.here hx rfl (hb hby at_98) rfl (l' := #[.val (.int p1), .val (.ref h0.size), .val (.int (4 : Int32)), .unset, .unset, .unset, .unset]) rfl k) ?_
    show own_Fin _ _ _ _ _ _ _ T47 (mkF m 99 #[.val (.int p1), .val (.ref h0.size), .val (.int (4 : Int32)), .unset, .unset, .unset, .unset] [])
    refine own_step (fun _ k => XS.aloadN X47.here hx rfl (hb hby at_99) rfl rfl k) ?_
    show own_Fin _ _ _ _ _ _ _ T47 (mkF m 100 #[.val (.int p1), .val (.ref h0.size), .val (.int (4 : Int32)), .unset, .unset, .unset, .unset] [(.ref h0.size)])
    refine own_step (fun _ k => XS.iloadN X47.here hx rfl (hb hby at_100) rfl k) ?_
    show own_Fin _ _ _ _ _ _ _ T47 (mkF m 101 #[.val (.int p1), .val (.ref h0.size), .val (.int (4 : Int32)), .unset, .unset, .unset, .unset] [(.int (4 : Int32)), (.ref h0.size)])
    refine own_ald X47 hx hZ e47 A47 rfl (v := (.ref s4)) 4 (by decide) (by decide) (by rw [z47]; rfl) (hb hby at_101) ?_
    show own_Fin _ _ _ _ _ _ _ T47 (mkF m 102 #[.val (.int p1), .val (.ref h0.size), .val (.int (4 : Int32)), .unset, .unset, .unset, .unset] [(.ref s4)])
    refine own_step (fun _ k => XS.astoreN X47.here hx rfl (hb hby at_102) rfl rfl (l' := #[.val (.int p1), .val (.ref h0.size), .val (.int (4 : Int32)), .val (.ref s4), .unset, .unset, .unset]) rfl k) ?_
    show own_Fin _ _ _ _ _ _ _ T47 (mkF m 103 #[.val (.int p1), .val (.ref h0.size), .val (.int (4 : Int32)), .val (.ref s4), .unset, .unset, .unset] [])
    refine own_step (fun _ k => XS.aloadN X47.here hx rfl (hb hby at_103) rfl rfl k) ?_
    show own_Fin _ _ _ _ _ _ _ T47 (mkF m 104 #[.val (.int p1), .val (.ref h0.size), .val (.int (4 : Int32)), .val (.ref s4), .unset, .unset, .unset] [(.ref s4)])
    refine own_getS X47 hx hZ hown (hw _ (List.mem_of_getElem? (i := 2) rfl)) e47 (S0.ext E47) (hb hby at_104) ?_
    intro T65 X65 e65
    show own_Fin _ _ _ _ _ _ _ T65 (mkF m 107 #[.val (.int p1), .val (.ref h0.size), .val (.int (4 : Int32)), .val (.ref s4), .unset, .unset, .unset] [(.ref s0), (.ref s4)])
    refine own_step (fun _ k => XT.acmpNo X65.here hx rfl (hb hby at_107) rfl rfl rfl (XT.aa_eq_f (fun q => (own_ne F4 F0 (by decide)) (Value.ref.inj q))) k) ?_
    show own_Fin _ _ _ _ _ _ _ T65 (mkF m 110 #[.val (.int p1), .val (.ref h0.size), .val (.int (4 : Int32)), .val (.ref s4), .unset, .unset, .unset] [])
    refine own_step (fun _ k => XS.aloadN X65.here hx rfl (hb hby at_110) rfl rfl k) ?_
    show own_Fin _ _ _ _ _ _ _ T65 (mkF m 111 #[.val (.int p1), .val (.ref h0.size), .val (.int (4 : Int32)), .val (.ref s4), .unset, .unset, .unset] [(.ref s4)])
    refine own_getS X65 hx hZ hown (hw _ (List.mem_of_getElem? (i := 6) rfl)) e65 (S1.ext E47) (hb hby at_111) ?_
    intro T66 X66 e66
    show own_Fin _ _ _ _ _ _ _ T66 (mkF m 114 #[.val (.int p1), .val (.ref h0.size), .val (.int (4 : Int32)), .val (.ref s4), .unset, .unset, .unset] [(.ref s1), (.ref s4)])
    refine own_step (fun _ k => XT.acmpNo X66.here hx rfl (hb hby at_114) rfl rfl rfl (XT.aa_eq_f (fun q => (own_ne F4 F1 (by decide)) (Value.ref.inj q))) k) ?_
    show own_Fin _ _ _ _ _ _ _ T66 (mkF m 117 #[.val (.int p1), .val (.ref h0.size), .val (.int (4 : Int32)), .val (.ref s4), .unset, .unset, .unset] [])
    refine own_step (fun _ k => XS.aloadN X66.here hx rfl (hb hby at_117) rfl rfl k) ?_
    show own_Fin _ _ _ _ _ _ _ T66 (mkF m 118 #[.val (.int p1), .val (.ref h0.size), .val (.int (4 : Int32)), .val (.ref s4), .unset, .unset, .unset] [(.ref s4)])
    refine own_getS X66 hx hZ hown (hw _ (List.mem_of_getElem? (i := 10) rfl)) e66 (S3.ext E47) (hb hby at_118) ?_
    intro T67 X67 e67
    show own_Fin _ _ _ _ _ _ _ T67 (mkF m 121 #[.val (.int p1), .val (.ref h0.size), .val (.int (4 : Int32)), .val (.ref s4), .unset, .unset, .unset] [(.ref s3), (.ref s4)])
    refine own_step (fun _ k => XT.acmpYes X67.here hx rfl (pc0 := 121) (pc' := 128) rfl (hb hby at_121) rfl rfl rfl (XT.aa_ne_t (fun q => (own_ne F4 F3 (by decide)) (Value.ref.inj q))) (by decide) (by decide) k) ?_
    show own_Fin _ _ _ _ _ _ _ T67 (mkF m 128 #[.val (.int p1), .val (.ref h0.size), .val (.int (4 : Int32)), .val (.ref s4), .unset, .unset, .unset] [])
    refine own_step (fun _ k => XT.iconstV X67.here hx rfl (0 : Int32) (hb hby at_128) (by decide) k) ?_
    show own_Fin _ _ _ _ _ _ _ T67 (mkF m 129 #[.val (.int p1), .val (.ref h0.size), .val (.int (4 : Int32)), .val (.ref s4), .unset, .unset, .unset] [(.int (0 : Int32))])
    refine own_step (fun _ k => XS.istore X67.here hx rfl (hb hby at_129) rfl (l' := #[.val (.int p1), .val (.ref h0.size), .val (.int (4 : Int32)), .val (.ref s4), .val (.int (0 : Int32)), .unset, .unset]) rfl k) ?_
    show own_Fin _ _ _ _ _ _ _ T67 (mkF m 131 #[.val (.int p1), .val (.ref h0.size), .val (.int (4 : Int32)), .val (.ref s4), .val (.int (0 : Int32)), .unset, .unset] [])
    refine own_step (fun _ k => XS.aloadN X67.here hx rfl (hb hby at_131) rfl rfl k) ?_
    show own_Fin _ _ _ _ _ _ _ T67 (mkF m 132 #[.val (.int p1), .val (.ref h0.size), .val (.int (4 : Int32)), .val (.ref s4), .val (.int (0 : Int32)), .unset, .unset] [(.ref s4)])
    refine own_getS X67 hx hZ hown (hw _ (List.mem_of_getElem? (i := 28) rfl)) e67 (S12.ext E47) (hb hby at_132) ?_
    intro T68 X68 e68
    show own_Fin _ _ _ _ _ _ _ T68 (mkF m 135 #[.val (.int p1), .val (.ref h0.size), .val (.int (4 : Int32)), .val (.ref s4), .val (.int (0 : Int32)), .unset, .unset] [(.ref s12), (.ref s4)])
    refine own_step (fun _ k => XT.acmpYes X68.here hx rfl (pc0 := 135) (pc' := 142) rfl (hb hby at_135) rfl rfl rfl (XT.aa_ne_t (fun q => (own_ne F4 F12 (by decide)) (Value.ref.inj q))) (by decide) (by decide) k) ?_
    show own_Fin _ _ _ _ _ _ _ T68 (mkF m 142 #[.val (.int p1), .val (.ref h0.size), .val (.int (4 : Int32)), .val (.ref s4), .val (.int (0 : Int32)), .unset, .unset] [])
    refine own_step (fun _ k => XT.iconstV X68.here hx rfl (0 : Int32) (hb hby at_142) (by decide) k) ?_
    show own_Fin _ _ _ _ _ _ _ T68 (mkF m 143 #[.val (.int p1), .val (.ref h0.size), .val (.int (4 : Int32)), .val (.ref s4), .val (.int (0 : Int32)), .unset, .unset] [(.int (0 : Int32))])
    refine own_step (fun _ k => XS.istore X68.here hx rfl (hb hby at_143) rfl (l' := #[.val (.int p1), .val (.ref h0.size), .val (.int (4 : Int32)), .val (.ref s4), .val (.int (0 : Int32)), .val (.int (0 : Int32)), .unset]) rfl k) ?_
    show own_Fin _ _ _ _ _ _ _ T68 (mkF m 145 #[.val (.int p1), .val (.ref h0.size), .val (.int (4 : Int32)), .val (.ref s4), .val (.int (0 : Int32)), .val (.int (0 : Int32)), .unset] [])
    refine own_step (fun _ k => XS.iload X68.here hx rfl (hb hby at_145) rfl k) ?_
    show own_Fin _ _ _ _ _ _ _ T68 (mkF m 147 #[.val (.int p1), .val (.ref h0.size), .val (.int (4 : Int32)), .val (.ref s4), .val (.int (0 : Int32)), .val (.int (0 : Int32)), .unset] [(.int (0 : Int32))])
    refine own_step (fun _ k => XS.ifNo X68.here hx rfl (hb hby at_147) rfl (XT.i0_ne_f (by decide)) k) ?_
    show own_Fin _ _ _ _ _ _ _ T68 (mkF m 150 #[.val (.int p1), .val (.ref h0.size), .val (.int (4 : Int32)), .val (.ref s4), .val (.int (0 : Int32)), .val (.int (0 : Int32)), .unset] [])
    refine own_step (fun _ k => XS.iload X68.here hx rfl (hb hby at_150) rfl k) ?_
    show own_Fin _ _ _ _ _ _ _ T68 (mkF m 152 #[.val (.int p1), .val (.ref h0.size), .val (.int (4 : Int32)), .val (.ref s4), .val (.int (0 : Int32)), .val (.int (0 : Int32)), .unset] [(.int (0 : Int32))])
    refine own_step (fun _ k => XS.ifNo X68.here hx rfl (hb hby at_152) rfl (XT.i0_ne_f (by decide)) k) ?_
    show own_Fin _ _ _ _ _ _ _ T68 (mkF m 155 #[.val (.int p1), .val (.ref h0.size), .val (.int (4 : Int32)), .val (.ref s4), .val (.int (0 : Int32)), .val (.int (0 : Int32)), .unset] [])
    refine own_step (fun _ k => XT.iconstV X68.here hx rfl (1 : Int32) (hb hby at_155) (by decide) k) ?_
    show own_Fin _ _ _ _ _ _ _ T68 (mkF m 156 #[.val (.int p1), .val (.ref h0.size), .val (.int (4 : Int32)), .val (.ref s4), .val (.int (0 : Int32)), .val (.int (0 : Int32)), .unset] [(.int (1 : Int32))])
    refine own_step (fun _ k => XS.goto X68.here hx rfl (pc0 := 156) (pc' := 160) rfl (hb hby at_156) (by decide) (by decide) k) ?_
    show own_Fin _ _ _ _ _ _ _ T68 (mkF m 160 #[.val (.int p1), .val (.ref h0.size), .val (.int (4 : Int32)), .val (.ref s4), .val (.int (0 : Int32)), .val (.int (0 : Int32)), .unset] [(.int (1 : Int32))])
    refine own_step (fun _ k => XS.istore X68.here hx rfl (hb hby at_160) rfl (l' := #[.val (.int p1), .val (.ref h0.size), .val (.int (4 : Int32)), .val (.ref s4), .val (.int (0 : Int32)), .val (.int (0 : Int32)), .val (.int (1 : Int32))]) rfl k) ?_
    show own_Fin _ _ _ _ _ _ _ T68 (mkF m 162 #[.val (.int p1), .val (.ref h0.size), .val (.int (4 : Int32)), .val (.ref s4), .val (.int (0 : Int32)), .val (.int (0 : Int32)), .val (.int (1 : Int32))] [])
    refine own_step (fun _ k => XS.aloadN X68.here hx rfl (hb hby at_162) rfl rfl k) ?_
    show own_Fin _ _ _ _ _ _ _ T68 (mkF m 163 #[.val (.int p1), .val (.ref h0.size), .val (.int (4 : Int32)), .val (.ref s4), .val (.int (0 : Int32)), .val (.int (0 : Int32)), .val (.int (1 : Int32))] [(.ref s4)])
    have M := rm1 l Z a0 hw hp47 s4 u1 u1 u2 (G4.ext E47) (SU1.ext E47) (SU2.ext E47)
    rw [if_pos (by simp)] at M
    refine own_callV0 X68 hx hZ (argsL := []) (rest := []) hown (hw _ (List.mem_of_getElem? (i := 31) rfl)) (hw _ (List.mem_of_getElem? (i := 32) rfl)) (hw _ (List.mem_of_getElem? (i := 34) rfl)) (hw _ (List.mem_of_getElem? (i := 33) rfl)) (hw _ (List.mem_of_getElem? (i := 35) rfl)) (hw _ (List.mem_of_getElem? (i := 3) rfl)) (by decide) (E4.ext E47) M e68 0 (Nat.le_of_eq rfl) (by decide) (by decide) (by decide) (by decide) (by rw [hml]; rfl) pd___Z rfl rfl (hb hby at_163) ?_
    intro T69 X69 e69
    show own_Fin _ _ _ _ _ _ _ T69 (mkF m 166 #[.val (.int p1), .val (.ref h0.size), .val (.int (4 : Int32)), .val (.ref s4), .val (.int (0 : Int32)), .val (.int (0 : Int32)), .val (.int (1 : Int32))] [(.int (1 : Int32))])
    refine own_step (fun _ k => XS.iload X69.here hx rfl (hb hby at_166) rfl k) ?_
    show own_Fin _ _ _ _ _ _ _ T69 (mkF m 168 #[.val (.int p1), .val (.ref h0.size), .val (.int (4 : Int32)), .val (.ref s4), .val (.int (0 : Int32)), .val (.int (0 : Int32)), .val (.int (1 : Int32))] [(.int (1 : Int32)), (.int (1 : Int32))])
    refine own_step (fun _ k => XS.icmpNo X69.here hx rfl (hb hby at_168) rfl (XT.ii_ne_f (by decide)) k) ?_
    show own_Fin _ _ _ _ _ _ _ T69 (mkF m 171 #[.val (.int p1), .val (.ref h0.size), .val (.int (4 : Int32)), .val (.ref s4), .val (.int (0 : Int32)), .val (.int (0 : Int32)), .val (.int (1 : Int32))] [])
    refine own_step (fun _ k => XT.iconstV X69.here hx rfl (1 : Int32) (hb hby at_171) (by decide) k) ?_
    show own_Fin _ _ _ _ _ _ _ T69 (mkF m 172 #[.val (.int p1), .val (.ref h0.size), .val (.int (4 : Int32)), .val (.ref s4), .val (.int (0 : Int32)), .val (.int (0 : Int32)), .val (.int (1 : Int32))] [(.int (1 : Int32))])
    refine own_step (fun _ k => XS.goto X69.here hx rfl (pc0 := 172) (pc' := 176) rfl (hb hby at_172) (by decide) (by decide) k) ?_
    show own_Fin _ _ _ _ _ _ _ T69 (mkF m 176 #[.val (.int p1), .val (.ref h0.size), .val (.int (4 : Int32)), .val (.ref s4), .val (.int (0 : Int32)), .val (.int (0 : Int32)), .val (.int (1 : Int32))] [(.int (1 : Int32))])
    exact own_retZ X69 hx hrt hlk (hb hby at_176) (Or.inr rfl) ⟨rfl, N47⟩ (by decide) (by decide)
  · rw [q]
    show own_Fin _ _ _ _ _ _ _ T47 (mkF m 98 #[.val (.int p1), .val (.ref h0.size), .unset, .unset, .unset, .unset, .unset] [(.int (5 : Int32))])
    refine own_step (fun _ k => XS.istoreN X47.here hx rfl (hb hby at_98) rfl (l' := #[.val (.int p1), .val (.ref h0.size), .val (.int (5 : Int32)), .unset, .unset, .unset, .unset]) rfl k) ?_
    show own_Fin _ _ _ _ _ _ _ T47 (mkF m 99 #[.val (.int p1), .val (.ref h0.size), .val (.int (5 : Int32)), .unset, .unset, .unset, .unset] [])
    refine own_step (fun _ k => XS.aloadN X47.here hx rfl (hb hby at_99) rfl rfl k) ?_
    show own_Fin _ _ _ _ _ _ _ T47 (mkF m 100 #[.val (.int p1), .val (.ref h0.size), .val (.int (5 : Int32)), .unset, .unset, .unset, .unset] [(.ref h0.size)])
    refine own_step (fun _ k => XS.iloadN X47.here hx rfl (hb hby at_100) rfl k) ?_
    show own_Fin _ _ _ _ _ _ _ T47 (mkF m 101 #[.val (.int p1), .val (.ref h0.size), .val (.int (5 : Int32)), .unset, .unset, .unset, .unset] [(.int (5 : Int32)), (.ref h0.size)])
    refine own_ald X47 hx hZ e47 A47 rfl (v := (.ref s5)) 5 (by decide) (by decide) (by rw [z47]; rfl) (hb hby at_101) ?_
    show own_Fin _ _ _ _ _ _ _ T47 (mkF m 102 #[.val (.int p1), .val (.ref h0.size), .val (.int (5 : Int32)), .unset, .unset, .unset, .unset] [(.ref s5)])
    refine own_step (fun _ k => XS.astoreN X47.here hx rfl (hb hby at_102) rfl rfl (l' := #[.val (.int p1), .val (.ref h0.size), .val (.int (5 : Int32)), .val (.ref s5), .unset, .unset, .unset]) rfl k) ?_
    show own_Fin _ _ _ _ _ _ _ T47 (mkF m 103 #[.val (.int p1), .val (.ref h0.size), .val (.int (5 : Int32)), .val (.ref s5), .unset, .unset, .unset] [])
    refine own_step (fun _ k => XS.aloadN X47.here hx rfl (hb hby at_103) rfl rfl k) ?_
    show own_Fin _ _ _ _ _ _ _ T47 (mkF m 104 #[.val (.int p1), .val (.ref h0.size), .val (.int (5 : Int32)), .val (.ref s5), .unset, .unset, .unset] [(.ref s5)])
    refine own_getS X47 hx hZ hown (hw _ (List.mem_of_getElem? (i := 2) rfl)) e47 (S0.ext E47) (hb hby at_104) ?_
    intro T70 X70 e70
    show own_Fin _ _ _ _ _ _ _ T70 (mkF m 107 #[.val (.int p1), .val (.ref h0.size), .val (.int (5 : Int32)), .val (.ref s5), .unset, .unset, .unset] [(.ref s0), (.ref s5)])
    refine own_step (fun _ k => XT.acmpNo X70.here hx rfl (hb hby at_107) rfl rfl rfl (XT.aa_eq_f (fun q => (own_ne F5 F0 (by decide)) (Value.ref.inj q))) k) ?_
    show own_Fin _ _ _ _ _ _ _ T70 (mkF m 110 #[.val (.int p1), .val (.ref h0.size), .val (.int (5 : Int32)), .val (.ref s5), .unset, .unset, .unset] [])
    refine own_step (fun _ k => XS.aloadN X70.here hx rfl (hb hby at_110) rfl rfl k) ?_
    show own_Fin _ _ _ _ _ _ _ T70 (mkF m 111 #[.val (.int p1), .val (.ref h0.size), .val (.int (5 : Int32)), .val (.ref s5), .unset, .unset, .unset] [(.ref s5)])
    refine own_getS X70 hx hZ hown (hw _ (List.mem_of_getElem? (i := 6) rfl)) e70 (S1.ext E47) (hb hby at_111) ?_
    intro T71 X71 e71
    show own_Fin _ _ _ _ _ _ _ T71 (mkF m 114 #[.val (.int p1), .val (.ref h0.size), .val (.int (5 : Int32)), .val (.ref s5), .unset, .unset, .unset] [(.ref s1), (.ref s5)])
    refine own_step (fun _ k => XT.acmpNo X71.here hx rfl (hb hby at_114) rfl rfl rfl (XT.aa_eq_f (fun q => (own_ne F5 F1 (by decide)) (Value.ref.inj q))) k) ?_
    show own_Fin _ _ _ _ _ _ _ T71 (mkF m 117 #[.val (.int p1), .val (.ref h0.size), .val (.int (5 : Int32)), .val (.ref s5), .unset, .unset, .unset] [])
    refine own_step (fun _ k => XS.aloadN X71.here hx rfl (hb hby at_117) rfl rfl k) ?_
    show own_Fin _ _ _ _ _ _ _ T71 (mkF m 118 #[.val (.int p1), .val (.ref h0.size), .val (.int (5 : Int32)), .val (.ref s5), .unset, .unset, .unset] [(.ref s5)])
    refine own_getS X71 hx hZ hown (hw _ (List.mem_of_getElem? (i := 10) rfl)) e71 (S3.ext E47) (hb hby at_118) ?_
    intro T72 X72 e72
    show own_Fin _ _ _ _ _ _ _ T72 (mkF m 121 #[.val (.int p1), .val (.ref h0.size), .val (.int (5 : Int32)), .val (.ref s5), .unset, .unset, .unset] [(.ref s3), (.ref s5)])
    refine own_step (fun _ k => XT.acmpYes X72.here hx rfl (pc0 := 121) (pc' := 128) rfl (hb hby at_121) rfl rfl rfl (XT.aa_ne_t (fun q => (own_ne F5 F3 (by decide)) (Value.ref.inj q))) (by decide) (by decide) k) ?_
    show own_Fin _ _ _ _ _ _ _ T72 (mkF m 128 #[.val (.int p1), .val (.ref h0.size), .val (.int (5 : Int32)), .val (.ref s5), .unset, .unset, .unset] [])
    refine own_step (fun _ k => XT.iconstV X72.here hx rfl (0 : Int32) (hb hby at_128) (by decide) k) ?_
    show own_Fin _ _ _ _ _ _ _ T72 (mkF m 129 #[.val (.int p1), .val (.ref h0.size), .val (.int (5 : Int32)), .val (.ref s5), .unset, .unset, .unset] [(.int (0 : Int32))])
    refine own_step (fun _ k => XS.istore X72.here hx rfl (hb hby at_129) rfl (l' := #[.val (.int p1), .val (.ref h0.size), .val (.int (5 : Int32)), .val (.ref s5), .val (.int (0 : Int32)), .unset, .unset]) rfl k) ?_
    show own_Fin _ _ _ _ _ _ _ T72 (mkF m 131 #[.val (.int p1), .val (.ref h0.size), .val (.int (5 : Int32)), .val (.ref s5), .val (.int (0 : Int32)), .unset, .unset] [])
    refine own_step (fun _ k => XS.aloadN X72.here hx rfl (hb hby at_131) rfl rfl k) ?_
    show own_Fin _ _ _ _ _ _ _ T72 (mkF m 132 #[.val (.int p1), .val (.ref h0.size), .val (.int (5 : Int32)), .val (.ref s5), .val (.int (0 : Int32)), .unset, .unset] [(.ref s5)])
    refine own_getS X72 hx hZ hown (hw _ (List.mem_of_getElem? (i := 28) rfl)) e72 (S12.ext E47) (hb hby at_132) ?_
    intro T73 X73 e73
    show own_Fin _ _ _ _ _ _ _ T73 (mkF m 135 #[.val (.int p1), .val (.ref h0.size), .val (.int (5 : Int32)), .val (.ref s5), .val (.int (0 : Int32)), .unset, .unset] [(.ref s12), (.ref s5)])
    refine own_step (fun _ k => XT.acmpYes X73.here hx rfl (pc0 := 135) (pc' := 142) rfl (hb hby at_135) rfl rfl rfl (XT.aa_ne_t (fun q => (own_ne F5 F12 (by decide)) (Value.ref.inj q))) (by decide) (by decide) k) ?_
    show own_Fin _ _ _ _ _ _ _ T73 (mkF m 142 #[.val (.int p1), .val (.ref h0.size), .val (.int (5 : Int32)), .val (.ref s5), .val (.int (0 : Int32)), .unset, .unset] [])
    refine own_step (fun _ k => XT.iconstV X73.here hx rfl (0 : Int32) (hb hby at_142) (by decide) k) ?_
    show own_Fin _ _ _ _ _ _ _ T73 (mkF m 143 #[.val (.int p1), .val (.ref h0.size), .val (.int (5 : Int32)), .val (.ref s5), .val (.int (0 : Int32)), .unset, .unset] [(.int (0 : Int32))])
    refine own_step (fun _ k => XS.istore X73.here hx rfl (hb hby at_143) rfl (l' := #[.val (.int p1), .val (.ref h0.size), .val (.int (5 : Int32)), .val (.ref s5), .val (.int (0 : Int32)), .val (.int (0 : Int32)), .unset]) rfl k) ?_
    show own_Fin _ _ _ _ _ _ _ T73 (mkF m 145 #[.val (.int p1), .val (.ref h0.size), .val (.int (5 : Int32)), .val (.ref s5), .val (.int (0 : Int32)), .val (.int (0 : Int32)), .unset] [])
    refine own_step (fun _ k => XS.iload X73.here hx rfl (hb hby at_145) rfl k) ?_
    show own_Fin _ _ _ _ _ _ _ T73 (mkF m 147 #[.val (.int p1), .val (.ref h0.size), .val (.int (5 : Int32)), .val (.ref s5), .val (.int (0 : Int32)), .val (.int (0 : Int32)), .unset] [(.int (0 : Int32))])
    refine own_step (fun _ k => XS.ifNo X73.here hx rfl (hb hby at_147) rfl (XT.i0_ne_f (by decide)) k) ?_
    show own_Fin _ _ _ _ _ _ _ T73 (mkF m 150 #[.val (.int p1), .val (.ref h0.size), .val (.int (5 : Int32)), .val (.ref s5), .val (.int (0 : Int32)), .val (.int (0 : Int32)), .unset] [])
    refine own_step (fun _ k => XS.iload X73.here hx rfl (hb hby at_150) rfl k) ?_
    show own_Fin _ _ _ _ _ _ _ T73 (mkF m 152 #[.val (.int p1), .val (.ref h0.size), .val (.int (5 : Int32)), .val (.ref s5), .val (.int (0 : Int32)), .val (.int (0 : Int32)), .unset] [(.int (0 : Int32))])
    refine own_step (fun _ k => XS.ifNo X73.here hx rfl (hb hby at_152) rfl (XT.i0_ne_f (by decide)) k) ?_
    show own_Fin _ _ _ _ _ _ _ T73 (mkF m 155 #[.val (.int p1), .val (.ref h0.size), .val (.int (5 : Int32)), .val (.ref s5), .val (.int (0 : Int32)), .val (.int (0 : Int32)), .unset] [])
    refine own_step (fun _ k => XT.iconstV X73.here hx rfl (1 : Int32) (hb hby at_155) (by decide) k) ?_
    show own_Fin _ _ _ _ _ _ _ T73 (mkF m 156 #[.val (.int p1), .val (.ref h0.size), .val (.int (5 : Int32)), .val (.ref s5), .val (.int (0 : Int32)), .val (.int (0 : Int32)), .unset] [(.int (1 : Int32))])
    refine own_step (fun _ k => XS.goto X73.here hx rfl (pc0 := 156) (pc' := 160) rfl (hb hby at_156) (by decide) (by decide) k) ?_
    show own_Fin _ _ _ _ _ _ _ T73 (mkF m 160 #[.val (.int p1), .val (.ref h0.size), .val (.int (5 : Int32)), .val (.ref s5), .val (.int (0 : Int32)), .val (.int (0 : Int32)), .unset] [(.int (1 : Int32))])
    refine own_step (fun _ k => XS.istore X73.here hx rfl (hb hby at_160) rfl (l' := #[.val (.int p1), .val (.ref h0.size), .val (.int (5 : Int32)), .val (.ref s5), .val (.int (0 : Int32)), .val (.int (0 : Int32)), .val (.int (1 : Int32))]) rfl k) ?_
    show own_Fin _ _ _ _ _ _ _ T73 (mkF m 162 #[.val (.int p1), .val (.ref h0.size), .val (.int (5 : Int32)), .val (.ref s5), .val (.int (0 : Int32)), .val (.int (0 : Int32)), .val (.int (1 : Int32))] [])
    refine own_step (fun _ k => XS.aloadN X73.here hx rfl (hb hby at_162) rfl rfl k) ?_
    show own_Fin _ _ _ _ _ _ _ T73 (mkF m 163 #[.val (.int p1), .val (.ref h0.size), .val (.int (5 : Int32)), .val (.ref s5), .val (.int (0 : Int32)), .val (.int (0 : Int32)), .val (.int (1 : Int32))] [(.ref s5)])
    have M := rm1 l Z a0 hw hp47 s5 u1 u1 u2 (G5.ext E47) (SU1.ext E47) (SU2.ext E47)
    rw [if_pos (by simp)] at M
    refine own_callV0 X73 hx hZ (argsL := []) (rest := []) hown (hw _ (List.mem_of_getElem? (i := 31) rfl)) (hw _ (List.mem_of_getElem? (i := 32) rfl)) (hw _ (List.mem_of_getElem? (i := 34) rfl)) (hw _ (List.mem_of_getElem? (i := 33) rfl)) (hw _ (List.mem_of_getElem? (i := 35) rfl)) (hw _ (List.mem_of_getElem? (i := 3) rfl)) (by decide) (E5.ext E47) M e73 0 (Nat.le_of_eq rfl) (by decide) (by decide) (by decide) (by decide) (by rw [hml]; rfl) pd___Z rfl rfl (hb hby at_163) ?_
    intro T74 X74 e74
    show own_Fin _ _ _ _ _ _ _ T74 (mkF m 166 #[.val (.int p1), .val (.ref h0.size), .val (.int (5 : Int32)), .val (.ref s5), .val (.int (0 : Int32)), .val (.int (0 : Int32)), .val (.int (1 : Int32))] [(.int (1 : Int32))])
    refine own_step (fun _ k => XS.iload X74.here hx rfl (hb hby at_166) rfl k) ?_
    show own_Fin _ _ _ _ _ _ _ T74 (mkF m 168 #[.val (.int p1), .val (.ref h0.size), .val (.int (5 : Int32)), .val (.ref s5), .val (.int (0 : Int32)), .val (.int (0 : Int32)), .val (.int (1 : Int32))] [(.int (1 : Int32)), (.int (1 : Int32))])
    refine own_step (fun _ k => XS.icmpNo X74.here hx rfl (hb hby at_168) rfl (XT.ii_ne_f (by decide)) k) ?_
    show own_Fin _ _ _ _ _ _ _ T74 (mkF m 171 #[.val (.int p1), .val (.ref h0.size), .val (.int (5 : Int32)), .val (.ref s5), .val (.int (0 : Int32)), .val (.int (0 : Int32)), .val (.int (1 : Int32))] [])
    refine own_step (fun _ k => XT.iconstV X74.here hx rfl (1 : Int32) (hb hby at_171) (by decide) k) ?_
    show own_Fin _ _ _ _ _ _ _ T74 (mkF m 172 #[.val (.int p1), .val (.ref h0.size), .val (.int (5 : Int32)), .val (.ref s5), .val (.int (0 : Int32)), .val (.int (0 : Int32)), .val (.int (1 : Int32))] [(.int (1 : Int32))])
    refine own_step (fun _ k => XS.goto X74.here hx rfl (pc0 := 172) (pc' := 176) rfl (hb hby at_172) (by decide) (by decide) k) ?_
    show own_Fin _ _ _ _ _ _ _ T74 (mkF m 176 #[.val (.int p1), .val (.ref h0.size), .val (.int (5 : Int32)), .val (.ref s5), .val (.int (0 : Int32)), .val (.int (0 : Int32)), .val (.int (1 : Int32))] [(.int (1 : Int32))])
    exact own_retZ X74 hx hrt hlk (hb hby at_176) (Or.inr rfl) ⟨rfl, N47⟩ (by decide) (by decide)
  · rw [q]
    show own_Fin _ _ _ _ _ _ _ T47 (mkF m 98 #[.val (.int p1), .val (.ref h0.size), .unset, .unset, .unset, .unset, .unset] [(.int (6 : Int32))])
    refine own_step (fun _ k => XS.istoreN X47.here hx rfl (hb hby at_98) rfl (l' := #[.val (.int p1), .val (.ref h0.size), .val (.int (6 : Int32)), .unset, .unset, .unset, .unset]) rfl k) ?_
    show own_Fin _ _ _ _ _ _ _ T47 (mkF m 99 #[.val (.int p1), .val (.ref h0.size), .val (.int (6 : Int32)), .unset, .unset, .unset, .unset] [])
    refine own_step (fun _ k => XS.aloadN X47.here hx rfl (hb hby at_99) rfl rfl k) ?_
    show own_Fin _ _ _ _ _ _ _ T47 (mkF m 100 #[.val (.int p1), .val (.ref h0.size), .val (.int (6 : Int32)), .unset, .unset, .unset, .unset] [(.ref h0.size)])
    refine own_step (fun _ k => XS.iloadN X47.here hx rfl (hb hby at_100) rfl k) ?_
    show own_Fin _ _ _ _ _ _ _ T47 (mkF m 101 #[.val (.int p1), .val (.ref h0.size), .val (.int (6 : Int32)), .unset, .unset, .unset, .unset] [(.int (6 : Int32)), (.ref h0.size)])
    refine own_ald X47 hx hZ e47 A47 rfl (v := (.ref s6)) 6 (by decide) (by decide) (by rw [z47]; rfl) (hb hby at_101) ?_
    show own_Fin _ _ _ _ _ _ _ T47 (mkF m 102 #[.val (.int p1), .val (.ref h0.size), .val (.int (6 : Int32)), .unset, .unset, .unset, .unset] [(.ref s6)])
    refine own_step (fun _ k => XS.astoreN X47.here hx rfl (hb hby at_102) rfl rfl (l' := #[.val (.int p1), .val (.ref h0.size), .val (.int (6 : Int32)), .val (.ref s6), .unset, .unset, .unset]) rfl k) ?_
    show own_Fin _ _ _ _ _ _ _ T47 (mkF m 103 #[.val (.int p1), .val (.ref h0.size), .val (.int (6 : Int32)), .val (.ref s6), .unset, .unset, .unset] [])
    refine own_step (fun _ k => XS.aloadN X47.here hx rfl (hb hby at_103) rfl rfl k) ?_
    show own_Fin _ _ _ _ _ _ _ T47 (mkF m 104 #[.val (.int p1), .val (.ref h0.size), .val (.int (6 : Int32)), .val (.ref s6), .unset, .unset, .unset] [(.ref s6)])
    refine own_getS X47 hx hZ hown (hw _ (List.mem_of_getElem? (i := 2) rfl)) e47 (S0.ext E47) (hb hby at_104) ?_
    intro T75 X75 e75
    show own_Fin _ _ _ _ _ _ _ T75 (mkF m 107 #[.val (.int p1), .val (.ref h0.size), .val (.int (6 : Int32)), .val (.ref s6), .unset, .unset, .unset] [(.ref s0), (.ref s6)])
    refine own_step (fun _ k => XT.acmpNo X75.here hx rfl (hb hby at_107) rfl rfl rfl (XT.aa_eq_f (fun q => (own_ne F6 F0 (by decide)) (Value.ref.inj q))) k) ?_
    show own_Fin _ _ _ _ _ _ _ T75 (mkF m 110 #[.val (.int p1), .val (.ref h0.size), .val (.int (6 : Int32)), .val (.ref s6), .unset, .unset, .unset] [])
    refine own_step (fun _ k => XS.aloadN X75.here hx rfl (hb hby at_110) rfl rfl k) ?_
    show own_Fin _ _ _ _ _ _ _ T75 (mkF m 111 #[.val (.int p1), .val (.ref h0.size), .val (.int (6 : Int32)), .val (.ref s6), .unset, .unset, .unset] [(.ref s6)])
    refine own_getS X75 hx hZ hown (hw _ (List.mem_of_getElem? (i := 6) rfl)) e75 (S1.ext E47) (hb hby at_111) ?_
    intro T76 X76 e76
    show own_Fin _ _ _ _ _ _ _ T76 (mkF m 114 #[.val (.int p1), .val (.ref h0.size), .val (.int (6 : Int32)), .val (.ref s6), .unset, .unset, .unset] [(.ref s1), (.ref s6)])
    refine own_step (fun _ k => XT.acmpNo X76.here hx rfl (hb hby at_114) rfl rfl rfl (XT.aa_eq_f (fun q => (own_ne F6 F1 (by decide)) (Value.ref.inj q))) k) ?_
    show own_Fin _ _ _ _ _ _ _ T76 (mkF m 117 #[.val (.int p1), .val (.ref h0.size), .val (.int (6 : Int32)), .val (.ref s6), .unset, .unset, .unset] [])
    refine own_step (fun _ k => XS.aloadN X76.here hx rfl (hb hby at_117) rfl rfl k) ?_
    show own_Fin _ _ _ _ _ _ _ T76 (mkF m 118 #[.val (.int p1), .val (.ref h0.size), .val (.int (6 : Int32)), .val (.ref s6), .unset, .unset, .unset] [(.ref s6)])
    refine own_getS X76 hx hZ hown (hw _ (List.mem_of_getElem? (i := 10) rfl)) e76 (S3.ext E47) (hb hby at_118) ?_
    intro T77 X77 e77
    show own_Fin _ _ _ _ _ _ _ T77 (mkF m 121 #[.val (.int p1), .val (.ref h0.size), .val (.int (6 : Int32)), .val (.ref s6), .unset, .unset, .unset] [(.ref s3), (.ref s6)])
    refine own_step (fun _ k => XT.acmpYes X77.here hx rfl (pc0 := 121) (pc' := 128) rfl (hb hby at_121) rfl rfl rfl (XT.aa_ne_t (fun q => (own_ne F6 F3 (by decide)) (Value.ref.inj q))) (by decide) (by decide) k) ?_
    show own_Fin _ _ _ _ _ _ _ T77 (mkF m 128 #[.val (.int p1), .val (.ref h0.size), .val (.int (6 : Int32)), .val (.ref s6), .unset, .unset, .unset] [])
    refine own_step (fun _ k => XT.iconstV X77.here hx rfl (0 : Int32) (hb hby at_128) (by decide) k) ?_
    show own_Fin _ _ _ _ _ _ _ T77 (mkF m 129 #[.val (.int p1), .val (.ref h0.size), .val (.int (6 : Int32)), .val (.ref s6), .unset, .unset, .unset] [(.int (0 : Int32))])
    refine own_step (fun _ k => XS.istore X77.here hx rfl (hb hby at_129) rfl (l' := #[.val (.int p1), .val (.ref h0.size), .val (.int (6 : Int32)), .val (.ref s6), .val (.int (0 : Int32)), .unset, .unset]) rfl k) ?_
    show own_Fin _ _ _ _ _ _ _ T77 (mkF m 131 #[.val (.int p1), .val (.ref h0.size), .val (.int (6 : Int32)), .val (.ref s6), .val (.int (0 : Int32)), .unset, .unset] [])
    refine own_step (fun _ k => XS.aloadN X77.here hx rfl (hb hby at_131) rfl rfl k) ?_
    show own_Fin _ _ _ _ _ _ _ T77 (mkF m 132 #[.val (.int p1), .val (.ref h0.size), .val (.int (6 : Int32)), .val (.ref s6), .val (.int (0 : Int32)), .unset, .unset] [(.ref s6)])
    refine own_getS X77 hx hZ hown (hw _ (List.mem_of_getElem? (i := 28) rfl)) e77 (S12.ext E47) (hb hby at_132) ?_
    intro T78 X78 e78
    show own_Fin _ _ _ _ _ _ _ T78 (mkF m 135 #[.val (.int p1), .val (.ref h0.size), .val (.int (6 : Int32)), .val (.ref s6), .val (.int (0 : Int32)), .unset, .unset] [(.ref s12), (.ref s6)])
    refine own_step (fun _ k => XT.acmpYes X78.here hx rfl (pc0 := 135) (pc' := 142) rfl (hb hby at_135) rfl rfl rfl (XT.aa_ne_t (fun q => (own_ne F6 F12 (by decide)) (Value.ref.inj q))) (by decide) (by decide) k) ?_
    show own_Fin _ _ _ _ _ _ _ T78 (mkF m 142 #[.val (.int p1), .val (.ref h0.size), .val (.int (6 : Int32)), .val (.ref s6), .val (.int (0 : Int32)), .unset, .unset] [])
    refine own_step (fun _ k => XT.iconstV X78.here hx rfl (0 : Int32) (hb hby at_142) (by decide) k) ?_
    show own_Fin _ _ _ _ _ _ _ T78 (mkF m 143 #[.val (.int p1), .val (.ref h0.size), .val (.int (6 : Int32)), .val (.ref s6), .val (.int (0 : Int32)), .unset, .unset] [(.int (0 : Int32))])
    refine own_step (fun _ k => XS.istore X78.here hx rfl (hb hby at_143) rfl (l' := #[.val (.int p1), .val (.ref h0.size), .val (.int (6 : Int32)), .val (.ref s6), .val (.int (0 : Int32)), .val (.int (0 : Int32)), .unset]) rfl k) ?_
    show own_Fin _ _ _ _ _ _ _ T78 (mkF m 145 #[.val (.int p1), .val (.ref h0.size), .val (.int (6 : Int32)), .val (.ref s6), .val (.int (0 : Int32)), .val (.int (0 : Int32)), .unset] [])
    refine own_step (fun _ k => XS.iload X78.here hx rfl (hb hby at_145) rfl k) ?_
    show own_Fin _ _ _ _ _ _ _ T78 (mkF m 147 #[.val (.int p1), .val (.ref h0.size), .val (.int (6 : Int32)), .val (.ref s6), .val (.int (0 : Int32)), .val (.int (0 : Int32)), .unset] [(.int (0 : Int32))])
    refine own_step (fun _ k => XS.ifNo X78.here hx rfl (hb hby at_147) rfl (XT.i0_ne_f (by decide)) k) ?_
    show own_Fin _ _ _ _ _ _ _ T78 (mkF m 150 #[.val (.int p1), .val (.ref h0.size), .val (.int (6 : Int32)), .val (.ref s6), .val (.int (0 : Int32)), .val (.int (0 : Int32)), .unset] [])
    refine own_step (fun _ k => XS.iload X78.here hx rfl (hb hby at_150) rfl k) ?_
    show own_Fin _ _ _ _ _ _ _ T78 (mkF m 152 #[.val (.int p1), .val (.ref h0.size), .val (.int (6 : Int32)), .val (.ref s6), .val (.int (0 : Int32)), .val (.int (0 : Int32)), .unset] [(.int (0 : Int32))])
    refine own_step (fun _ k => XS.ifNo X78.here hx rfl (hb hby at_152) rfl (XT.i0_ne_f (by decide)) k) ?_
    show own_Fin _ _ _ _ _ _ _ T78 (mkF m 155 #[.val (.int p1), .val (.ref h0.size), .val (.int (6 : Int32)), .val (.ref s6), .val (.int (0 : Int32)), .val (.int (0 : Int32)), .unset] [])
    refine own_step (fun _ k => XT.iconstV X78.here hx rfl (1 : Int32) (hb hby at_155) (by decide) k) ?_
    show own_Fin _ _ _ _ _ _ _ T78 (mkF m 156 #[.val (.int p1), .val (.ref h0.size), .val (.int (6 : Int32)), .val (.ref s6), .val (.int (0 : Int32)), .val (.int (0 : Int32)), .unset] [(.int (1 : Int32))])
    refine own_step (fun _ k => XS.goto X78.here hx rfl (pc0 := 156) (pc' := 160) rfl (hb hby at_156) (by decide) (by decide) k) ?_
    show own_Fin _ _ _ _ _ _ _ T78 (mkF m 160 #[.val (.int p1), .val (.ref h0.size), .val (.int (6 : Int32)), .val (.ref s6), .val (.int (0 : Int32)), .val (.int (0 : Int32)), .unset] [(.int (1 : Int32))])
    refine own_step (fun _ k => XS.istore X78.here hx rfl (hb hby at_160) rfl (l' := #[.val (.int p1), .val (.ref h0.size), .val (.int (6 : Int32)), .val (.ref s6), .val (.int (0 : Int32)), .val (.int (0 : Int32)), .val (.int (1 : Int32))]) rfl k) ?_
    show own_Fin _ _ _ _ _ _ _ T78 (mkF m 162 #[.val (.int p1), .val (.ref h0.size), .val (.int (6 : Int32)), .val (.ref s6), .val (.int (0 : Int32)), .val (.int (0 : Int32)), .val (.int (1 : Int32))] [])
    refine own_step (fun _ k => XS.aloadN X78.here hx rfl (hb hby at_162) rfl rfl k) ?_
    show own_Fin _ _ _ _ _ _ _ T78 (mkF m 163 #[.val (.int p1), .val (.ref h0.size), .val (.int (6 : Int32)), .val (.ref s6), .val (.int (0 : Int32)), .val (.int (0 : Int32)), .val (.int (1 : Int32))] [(.ref s6)])
    have M := rm1 l Z a0 hw hp47 s6 u1 u1 u2 (G6.ext E47) (SU1.ext E47) (SU2.ext E47)
    rw [if_pos (by simp)] at M
    refine own_callV0 X78 hx hZ (argsL := []) (rest := []) hown (hw _ (List.mem_of_getElem? (i := 31) rfl)) (hw _ (List.mem_of_getElem? (i := 32) rfl)) (hw _ (List.mem_of_getElem? (i := 34) rfl)) (hw _ (List.mem_of_getElem? (i := 33) rfl)) (hw _ (List.mem_of_getElem? (i := 35) rfl)) (hw _ (List.mem_of_getElem? (i := 3) rfl)) (by decide) (E6.ext E47) M e78 0 (Nat.le_of_eq rfl) (by decide) (by decide) (by decide) (by decide) (by rw [hml]; rfl) pd___Z rfl rfl (hb hby at_163) ?_
    intro T79 X79 e79
    show own_Fin _ _ _ _ _ _ _ T79 (mkF m 166 #[.val (.int p1), .val (.ref h0.size), .val (.int (6 : Int32)), .val (.ref s6), .val (.int (0 : Int32)), .val (.int (0 : Int32)), .val (.int (1 : Int32))] [(.int (1 : Int32))])
    refine own_step (fun _ k => XS.iload X79.here hx rfl (hb hby at_166) rfl k) ?_
    show own_Fin _ _ _ _ _ _ _ T79 (mkF m 168 #[.val (.int p1), .val (.ref h0.size), .val (.int (6 : Int32)), .val (.ref s6), .val (.int (0 : Int32)), .val (.int (0 : Int32)), .val (.int (1 : Int32))] [(.int (1 : Int32)), (.int (1 : Int32))])
    refine own_step (fun _ k => XS.icmpNo X79.here hx rfl (hb hby at_168) rfl (XT.ii_ne_f (by decide)) k) ?_
    show own_Fin _ _ _ _ _ _ _ T79 (mkF m 171 #[.val (.int p1), .val (.ref h0.size), .val (.int (6 : Int32)), .val (.ref s6), .val (.int (0 : Int32)), .val (.int (0 : Int32)), .val (.int (1 : Int32))] [])
    refine own_step (fun _ k => XT.iconstV X79.here hx rfl (1 : Int32) (hb hby at_171) (by decide) k) ?_
    show own_Fin _ _ _ _ _ _ _ T79 (mkF m 172 #[.val (.int p1), .val (.ref h0.size), .val (.int (6 : Int32)), .val (.ref s6), .val (.int (0 : Int32)), .val (.int (0 : Int32)), .val (.int (1 : Int32))] [(.int (1 : Int32))])
    refine own_step (fun _ k => XS.goto X79.here hx rfl (pc0 := 172) (pc' := 176) rfl (hb hby at_172) (by decide) (by decide) k) ?_
    show own_Fin _ _ _ _ _ _ _ T79 (mkF m 176 #[.val (.int p1), .val (.ref h0.size), .val (.int (6 : Int32)), .val (.ref s6), .val (.int (0 : Int32)), .val (.int (0 : Int32)), .val (.int (1 : Int32))] [(.int (1 : Int32))])
    exact own_retZ X79 hx hrt hlk (hb hby at_176) (Or.inr rfl) ⟨rfl, N47⟩ (by decide) (by decide)
  · rw [q]
    show own_Fin _ _ _ _ _ _ _ T47 (mkF m 98 #[.val (.int p1), .val (.ref h0.size), .unset, .unset, .unset, .unset, .unset] [(.int (7 : Int32))])
    refine own_step (fun _ k => XS.istoreN X47.here hx rfl (hb hby at_98) rfl (l' := #[.val (.int p1), .val (.ref h0.size), .val (.int (7 : Int32)), .unset, .unset, .unset, .unset]) rfl k) ?_
    show own_Fin _ _ _ _ _ _ _ T47 (mkF m 99 #[.val (.int p1), .val (.ref h0.size), .val (.int (7 : Int32)), .unset, .unset, .unset, .unset] [])
    refine own_step (fun _ k => XS.aloadN X47.here hx rfl (hb hby at_99) rfl rfl k) ?_
    show own_Fin _ _ _ _ _ _ _ T47 (mkF m 100 #[.val (.int p1), .val (.ref h0.size), .val (.int (7 : Int32)), .unset, .unset, .unset, .unset] [(.ref h0.size)])
    refine own_step (fun _ k => XS.iloadN X47.here hx rfl (hb hby at_100) rfl k) ?_
    show own_Fin _ _ _ _ _ _ _ T47 (mkF m 101 #[.val (.int p1), .val (.ref h0.size), .val (.int (7 : Int32)), .unset, .unset, .unset, .unset] [(.int (7 : Int32)), (.ref h0.size)])
    refine own_ald X47 hx hZ e47 A47 rfl (v := (.ref s7)) 7 (by decide) (by decide) (by rw [z47]; rfl) (hb hby at_101) ?_
    show own_Fin _ _ _ _ _ _ _ T47 (mkF m 102 #[.val (.int p1), .val (.ref h0.size), .val (.int (7 : Int32)), .unset, .unset, .unset, .unset] [(.ref s7)])
    refine own_step (fun _ k => XS.astoreN X47.here hx rfl (hb hby at_102) rfl rfl (l' := #[.val (.int p1), .val (.ref h0.size), .val (.int (7 : Int32)), .val (.ref s7), .unset, .unset, .unset]) rfl k) ?_
    show own_Fin _ _ _ _ _ _ _ T47 (mkF m 103 #[.val (.int p1), .val (.ref h0.size), .val (.int (7 : Int32)), .val (.ref s7), .unset, .unset, .unset] [])
    refine own_step (fun _ k => XS.aloadN X47.here hx rfl (hb hby at_103) rfl rfl k) ?_
    show own_Fin _ _ _ _ _ _ _ T47 (mkF m 104 #[.val (.int p1), .val (.ref h0.size), .val (.int (7 : Int32)), .val (.ref s7), .unset, .unset, .unset] [(.ref s7)])
    refine own_getS X47 hx hZ hown (hw _ (List.mem_of_getElem? (i := 2) rfl)) e47 (S0.ext E47) (hb hby at_104) ?_
    intro T80 X80 e80
    show own_Fin _ _ _ _ _ _ _ T80 (mkF m 107 #[.val (.int p1), .val (.ref h0.size), .val (.int (7 : Int32)), .val (.ref s7), .unset, .unset, .unset] [(.ref s0), (.ref s7)])
    refine own_step (fun _ k => XT.acmpNo X80.here hx rfl (hb hby at_107) rfl rfl rfl (XT.aa_eq_f (fun q => (own_ne F7 F0 (by decide)) (Value.ref.inj q))) k) ?_
    show own_Fin _ _ _ _ _ _ _ T80 (mkF m 110 #[.val (.int p1), .val (.ref h0.size), .val (.int (7 : Int32)), .val (.ref s7), .unset, .unset, .unset] [])
    refine own_step (fun _ k => XS.aloadN X80.here hx rfl (hb hby at_110) rfl rfl k) ?_
    show own_Fin _ _ _ _ _ _ _ T80 (mkF m 111 #[.val (.int p1), .val (.ref h0.size), .val (.int (7 : Int32)), .val (.ref s7), .unset, .unset, .unset] [(.ref s7)])
    refine own_getS X80 hx hZ hown (hw _ (List.mem_of_getElem? (i := 6) rfl)) e80 (S1.ext E47) (hb hby at_111) ?_
    intro T81 X81 e81
    show own_Fin _ _ _ _ _ _ _ T81 (mkF m 114 #[.val (.int p1), .val (.ref h0.size), .val (.int (7 : Int32)), .val (.ref s7), .unset, .unset, .unset] [(.ref s1), (.ref s7)])
    refine own_step (fun _ k => XT.acmpNo X81.here hx rfl (hb hby at_114) rfl rfl rfl (XT.aa_eq_f (fun q => (own_ne F7 F1 (by decide)) (Value.ref.inj q))) k) ?_
    show own_Fin _ _ _ _ _ _ _ T81 (mkF m 117 #[.val (.int p1), .val (.ref h0.size), .val (.int (7 : Int32)), .val (.ref s7), .unset, .unset, .unset] [])
    refine own_step (fun _ k => XS.aloadN X81.here hx rfl (hb hby at_117) rfl rfl k) ?_
    show own_Fin _ _ _ _ _ _ _ T81 (mkF m 118 #[.val (.int p1), .val (.ref h0.size), .val (.int (7 : Int32)), .val (.ref s7), .unset, .unset, .unset] [(.ref s7)])
    refine own_getS X81 hx hZ hown (hw _ (List.mem_of_getElem? (i := 10) rfl)) e81 (S3.ext E47) (hb hby at_118) ?_
    intro T82 X82 e82
    show own_Fin _ _ _ _ _ _ _ T82 (mkF m 121 #[.val (.int p1), .val (.ref h0.size), .val (.int (7 : Int32)), .val (.ref s7), .unset, .unset, .unset] [(.ref s3), (.ref s7)])
    refine own_step (fun _ k => XT.acmpYes X82.here hx rfl (pc0 := 121) (pc' := 128) rfl (hb hby at_121) rfl rfl rfl (XT.aa_ne_t (fun q => (own_ne F7 F3 (by decide)) (Value.ref.inj q))) (by decide) (by decide) k) ?_
    show own_Fin _ _ _ _ _ _ _ T82 (mkF m 128 #[.val (.int p1), .val (.ref h0.size), .val (.int (7 : Int32)), .val (.ref s7), .unset, .unset, .unset] [])
    refine own_step (fun _ k => XT.iconstV X82.here hx rfl (0 : Int32) (hb hby at_128) (by decide) k) ?_
    show own_Fin _ _ _ _ _ _ _ T82 (mkF m 129 #[.val (.int p1), .val (.ref h0.size), .val (.int (7 : Int32)), .val (.ref s7), .unset, .unset, .unset] [(.int (0 : Int32))])
    refine own_step (fun _ k => XS.istore X82.here hx rfl (hb hby at_129) rfl (l' := #[.val (.int p1), .val (.ref h0.size), .val (.int (7 : Int32)), .val (.ref s7), .val (.int (0 : Int32)), .unset, .unset]) rfl k) ?_
    show own_Fin _ _ _ _ _ _ _ T82 (mkF m 131 #[.val (.int p1), .val (.ref h0.size), .val (.int (7 : Int32)), .val (.ref s7), .val (.int (0 : Int32)), .unset, .unset] [])
    refine own_step (fun _ k => XS.aloadN X82.here hx rfl (hb hby at_131) rfl rfl k) ?_
    show own_Fin _ _ _ _ _ _ _ T82 (mkF m 132 #[.val (.int p1), .val (.ref h0.size), .val (.int (7 : Int32)), .val (.ref s7), .val (.int (0 : Int32)), .unset, .unset] [(.ref s7)])
    refine own_getS X82 hx hZ hown (hw _ (List.mem_of_getElem? (i := 28) rfl)) e82 (S12.ext E47) (hb hby at_132) ?_
    intro T83 X83 e83
    show own_Fin _ _ _ _ _ _ _ T83 (mkF m 135 #[.val (.int p1), .val (.ref h0.size), .val (.int (7 : Int32)), .val (.ref s7), .val (.int (0 : Int32)), .unset, .unset] [(.ref s12), (.ref s7)])
    refine own_step (fun _ k => XT.acmpYes X83.here hx rfl (pc0 := 135) (pc' := 142) rfl (hb hby at_135) rfl rfl rfl (XT.aa_ne_t (fun q => (own_ne F7 F12 (by decide)) (Value.ref.inj q))) (by decide) (by decide) k) ?_
    show own_Fin _ _ _ _ _ _ _ T83 (mkF m 142 #[.val (.int p1), .val (.ref h0.size), .val (.int (7 : Int32)), .val (.ref s7), .val (.int (0 : Int32)), .unset, .unset] [])
    refine own_step (fun _ k => XT.iconstV X83.here hx rfl (0 : Int32) (hb hby at_142) (by decide) k) ?_
    show own_Fin _ _ _ _ _ _ _ T83 (mkF m 143 #[.val (.int p1), .val (.ref h0.size), .val (.int (7 : Int32)), .val (.ref s7), .val (.int (0 : Int32)), .unset, .unset] [(.int (0 : Int32))])
    refine own_step (fun _ k => XS.istore X83.here hx rfl (hb hby at_143) rfl (l' := #[.val (.int p1), .val (.ref h0.size), .val (.int (7 : Int32)), .val (.ref s7), .val (.int (0 : Int32)), .val (.int (0 : Int32)), .unset]) rfl k) ?_
    show own_Fin _ _ _ _ _ _ _ T83 (mkF m 145 #[.val (.int p1), .val (.ref h0.size), .val (.int (7 : Int32)), .val (.ref s7), .val (.int (0 : Int32)), .val (.int (0 : Int32)), .unset] [])
    refine own_step (fun _ k => XS.iload X83.here hx rfl (hb hby at_145) rfl k) ?_
    show own_Fin _ _ _ _ _ _ _ T83 (mkF m 147 #[.val (.int p1), .val (.ref h0.size), .val (.int (7 : Int32)), .val (.ref s7), .val (.int (0 : Int32)), .val (.int (0 : Int32)), .unset] [(.int (0 : Int32))])
    refine own_step (fun _ k => XS.ifNo X83.here hx rfl (hb hby at_147) rfl (XT.i0_ne_f (by decide)) k) ?_
    show own_Fin _ _ _ _ _ _ _ T83 (mkF m 150 #[.val (.int p1), .val (.ref h0.size), .val (.int (7 : Int32)), .val (.ref s7), .val (.int (0 : Int32)), .val (.int (0 : Int32)), .unset] [])
    refine own_step (fun _ k => XS.iload X83.here hx rfl (hb hby at_150) rfl k) ?_
    show own_Fin _ _ _ _ _ _ _ T83 (mkF m 152 #[.val (.int p1), .val (.ref h0.size), .val (.int (7 : Int32)), .val (.ref s7), .val (.int (0 : Int32)), .val (.int (0 : Int32)), .unset] [(.int (0 : Int32))])
    refine own_step (fun _ k => XS.ifNo X83.here hx rfl (hb hby at_152) rfl (XT.i0_ne_f (by decide)) k) ?_
    show own_Fin _ _ _ _ _ _ _ T83 (mkF m 155 #[.val (.int p1), .val (.ref h0.size), .val (.int (7 : Int32)), .val (.ref s7), .val (.int (0 : Int32)), .val (.int (0 : Int32)), .unset] [])
    refine own_step (fun _ k => XT.iconstV X83.here hx rfl (1 : Int32) (hb hby at_155) (by decide) k) ?_
    show own_Fin _ _ _ _ _ _ _ T83 (mkF m 156 #[.val (.int p1), .val (.ref h0.size), .val (.int (7 : Int32)), .val (.ref s7), .val (.int (0 : Int32)), .val (.int (0 : Int32)), .unset] [(.int (1 : Int32))])
    refine own_step (fun _ k => XS.goto X83.here hx rfl (pc0 := 156) (pc' := 160) rfl (hb hby at_156) (by decide) (by decide) k) ?_
    show own_Fin _ _ _ _ _ _ _ T83 (mkF m 160 #[.val (.int p1), .val (.ref h0.size), .val (.int (7 : Int32)), .val (.ref s7), .val (.int (0 : Int32)), .val (.int (0 : Int32)), .unset] [(.int (1 : Int32))])
    refine own_step (fun _ k => XS.istore X83.here hx rfl (hb hby at_160) rfl (l' := #[.val (.int p1), .val (.ref h0.size), .val (.int (7 : Int32)), .val (.ref s7), .val (.int (0 : Int32)), .val (.int (0 : Int32)), .val (.int (1 : Int32))]) rfl k) ?_
    show own_Fin _ _ _ _ _ _ _ T83 (mkF m 162 #[.val (.int p1), .val (.ref h0.size), .val (.int (7 : Int32)), .val (.ref s7), .val (.int (0 : Int32)), .val (.int (0 : Int32)), .val (.int (1 : Int32))] [])
    refine own_step (fun _ k => XS.aloadN X83.here hx rfl (hb hby at_162) rfl rfl k) ?_
    show own_Fin _ _ _ _ _ _ _ T83 (mkF m 163 #[.val (.int p1), .val (.ref h0.size), .val (.int (7 : Int32)), .val (.ref s7), .val (.int (0 : Int32)), .val (.int (0 : Int32)), .val (.int (1 : Int32))] [(.ref s7)])
    have M := rm1 l Z a0 hw hp47 s7 u1 u1 u2 (G7.ext E47) (SU1.ext E47) (SU2.ext E47)
    rw [if_pos (by simp)] at M
    refine own_callV0 X83 hx hZ (argsL := []) (rest := []) hown (hw _ (List.mem_of_getElem? (i := 31) rfl)) (hw _ (List.mem_of_getElem? (i := 32) rfl)) (hw _ (List.mem_of_getElem? (i := 34) rfl)) (hw _ (List.mem_of_getElem? (i := 33) rfl)) (hw _ (List.mem_of_getElem? (i := 35) rfl)) (hw _ (List.mem_of_getElem? (i := 3) rfl)) (by decide) (E7.ext E47) M e83 0 (Nat.le_of_eq rfl) (by decide) (by decide) (by decide) (by decide) (by rw [hml]; rfl) pd___Z rfl rfl (hb hby at_163) ?_
    intro T84 X84 e84
    show own_Fin _ _ _ _ _ _ _ T84 (mkF m 166 #[.val (.int p1), .val (.ref h0.size), .val (.int (7 : Int32)), .val (.ref s7), .val (.int (0 : Int32)), .val (.int (0 : Int32)), .val (.int (1 : Int32))] [(.int (1 : Int32))])
    refine own_step (fun _ k => XS.iload X84.here hx rfl (hb hby at_166) rfl k) ?_
    show own_Fin _ _ _ _ _ _ _ T84 (mkF m 168 #[.val (.int p1), .val (.ref h0.size), .val (.int (7 : Int32)), .val (.ref s7), .val (.int (0 : Int32)), .val (.int (0 : Int32)), .val (.int (1 : Int32))] [(.int (1 : Int32)), (.int (1 : Int32))])
    refine own_step (fun _ k => XS.icmpNo X84.here hx rfl (hb hby at_168) rfl (XT.ii_ne_f (by decide)) k) ?_
    show own_Fin _ _ _ _ _ _ _ T84 (mkF m 171 #[.val (.int p1), .val (.ref h0.size), .val (.int (7 : Int32)), .val (.ref s7), .val (.int (0 : Int32)), .val (.int (0 : Int32)), .val (.int (1 : Int32))] [])
    refine own_step (fun _ k => XT.iconstV X84.here hx rfl (1 : Int32) (hb hby at_171) (by decide) k) ?_
    show own_Fin _ _ _ _ _ _ _ T84 (mkF m 172 #[.val (.int p1), .val (.ref h0.size), .val (.int (7 : Int32)), .val (.ref s7), .val (.int (0 : Int32)), .val (.int (0 : Int32)), .val (.int (1 : Int32))] [(.int (1 : Int32))])
    refine own_step (fun _ k => XS.goto X84.here hx rfl (pc0 := 172) (pc' := 176) rfl (hb hby at_172) (by decide) (by decide) k) ?_
    show own_Fin _ _ _ _ _ _ _ T84 (mkF m 176 #[.val (.int p1), .val (.ref h0.size), .val (.int (7 : Int32)), .val (.ref s7), .val (.int (0 : Int32)), .val (.int (0 : Int32)), .val (.int (1 : Int32))] [(.int (1 : Int32))])
    exact own_retZ X84 hx hrt hlk (hb hby at_176) (Or.inr rfl) ⟨rfl, N47⟩ (by decide) (by decide)
  · rw [q]
    show own_Fin _ _ _ _ _ _ _ T47 (mkF m 98 #[.val (.int p1), .val (.ref h0.size), .unset, .unset, .unset, .unset, .unset] [(.int (8 : Int32))])
    refine own_step (fun _ k => XS.istoreN X47.here hx rfl (hb hby at_98) rfl (l' := #[.val (.int p1), .val (.ref h0.size), .val (.int (8 : Int32)), .unset, .unset, .unset, .unset]) rfl k) ?_
    show own_Fin _ _ _ _ _ _ _ T47 (mkF m 99 #[.val (.int p1), .val (.ref h0.size), .val (.int (8 : Int32)), .unset, .unset, .unset, .unset] [])
    refine own_step (fun _ k => XS.aloadN X47.here hx rfl (hb hby at_99) rfl rfl k) ?_
    show own_Fin _ _ _ _ _ _ _ T47 (mkF m 100 #[.val (.int p1), .val (.ref h0.size), .val (.int (8 : Int32)), .unset, .unset, .unset, .unset] [(.ref h0.size)])
    refine own_step (fun _ k => XS.iloadN X47.here hx rfl (hb hby at_100) rfl k) ?_
    show own_Fin _ _ _ _ _ _ _ T47 (mkF m 101 #[.val (.int p1), .val (.ref h0.size), .val (.int (8 : Int32)), .unset, .unset, .unset, .unset] [(.int (8 : Int32)), (.ref h0.size)])
    refine own_ald X47 hx hZ e47 A47 rfl (v := (.ref s8)) 8 (by decide) (by decide) (by rw [z47]; rfl) (hb hby at_101) ?_
    show own_Fin _ _ _ _ _ _ _ T47 (mkF m 102 #[.val (.int p1), .val (.ref h0.size), .val (.int (8 : Int32)), .unset, .unset, .unset, .unset] [(.ref s8)])
    refine own_step (fun _ k => XS.astoreN X47.here hx rfl (hb hby at_102) rfl rfl (l' := #[.val (.int p1), .val (.ref h0.size), .val (.int (8 : Int32)), .val (.ref s8), .unset, .unset, .unset]) rfl k) ?_
    show own_Fin _ _ _ _ _ _ _ T47 (mkF m 103 #[.val (.int p1), .val (.ref h0.size), .val (.int (8 : Int32)), .val (.ref s8), .unset, .unset, .unset] [])
    refine own_step (fun _ k => XS.aloadN X47.here hx rfl (hb hby at_103) rfl rfl k) ?_
    show own_Fin _ _ _ _ _ _ _ T47 (mkF m 104 #[.val (.int p1), .val (.ref h0.size), .val (.int (8 : Int32)), .val (.ref s8), .unset, .unset, .unset] [(.ref s8)])
    refine own_getS X47 hx hZ hown (hw _ (List.mem_of_getElem? (i := 2) rfl)) e47 (S0.ext E47) (hb hby at_104) ?_
    intro T85 X85 e85
    show own_Fin _ _ _ _ _ _ _ T85 (mkF m 107 #[.val (.int p1), .val (.ref h0.size), .val (.int (8 : Int32)), .val (.ref s8), .unset, .unset, .unset] [(.ref s0), (.ref s8)])
    refine own_step (fun _ k => XT.acmpNo X85.here hx rfl (hb hby at_107) rfl rfl rfl (XT.aa_eq_f (fun q => (own_ne F8 F0 (by decide)) (Value.ref.inj q))) k) ?_
    show own_Fin _ _ _ _ _ _ _ T85 (mkF m 110 #[.val (.int p1), .val (.ref h0.size), .val (.int (8 : Int32)), .val (.ref s8), .unset, .unset, .unset] [])
    refine own_step (fun _ k => XS.aloadN X85.here hx rfl (hb hby at_110) rfl rfl k) ?_
    show own_Fin _ _ _ _ _ _ _ T85 (mkF m 111 #[.val (.int p1), .val (.ref h0.size), .val (.int (8 : Int32)), .val (.ref s8), .unset, .unset, .unset] [(.ref s8)])
    refine own_getS X85 hx hZ hown (hw _ (List.mem_of_getElem? (i := 6) rfl)) e85 (S1.ext E47) (hb hby at_111) ?_
    intro T86 X86 e86
    show own_Fin _ _ _ _ _ _ _ T86 (mkF m 114 #[.val (.int p1), .val (.ref h0.size), .val (.int (8 : Int32)), .val (.ref s8), .unset, .unset, .unset] [(.ref s1), (.ref s8)])
    refine own_step (fun _ k => XT.acmpNo X86.here hx rfl (hb hby at_114) rfl rfl rfl (XT.aa_eq_f (fun q => (own_ne F8 F1 (by decide)) (Value.ref.inj q))) k) ?_
    show own_Fin _ _ _ _ _ _ _ T86 (mkF m 117 #[.val (.int p1), .val (.ref h0.size), .val (.int (8 : Int32)), .val (.ref s8), .unset, .unset, .unset] [])
    refine own_step (fun _ k => XS.aloadN X86.here hx rfl (hb hby at_117) rfl rfl k) ?_
    show own_Fin _ _ _ _ _ _ _ T86 (mkF m 118 #[.val (.int p1), .val (.ref h0.size), .val (.int (8 : Int32)), .val (.ref s8), .unset, .unset, .unset] [(.ref s8)])
    refine own_getS X86 hx hZ hown (hw _ (List.mem_of_getElem? (i := 10) rfl)) e86 (S3.ext E47) (hb hby at_118) ?_
    intro T87 X87 e87
    show own_Fin _ _ _ _ _ _ _ T87 (mkF m 121 #[.val (.int p1), .val (.ref h0.size), .val (.int (8 : Int32)), .val (.ref s8), .unset, .unset, .unset] [(.ref s3), (.ref s8)])
    refine own_step (fun _ k => XT.acmpYes X87.here hx rfl (pc0 := 121) (pc' := 128) rfl (hb hby at_121) rfl rfl rfl (XT.aa_ne_t (fun q => (own_ne F8 F3 (by decide)) (Value.ref.inj q))) (by decide) (by decide) k) ?_
    show own_Fin _ _ _ _ _ _ _ T87 (mkF m 128 #[.val (.int p1), .val (.ref h0.size), .val (.int (8 : Int32)), .val (.ref s8), .unset, .unset, .unset] [])
    refine own_step (fun _ k => XT.iconstV X87.here hx rfl (0 : Int32) (hb hby at_128) (by decide) k) ?_
    show own_Fin _ _ _ _ _ _ _ T87 (mkF m 129 #[.val (.int p1), .val (.ref h0.size), .val (.int (8 : Int32)), .val (.ref s8), .unset, .unset, .unset] [(.int (0 : Int32))])
    refine own_step (fun _ k => XS.istore X87.here hx rfl (hb hby at_129) rfl (l' := #[.val (.int p1), .val (.ref h0.size), .val (.int (8 : Int32)), .val (.ref s8), .val (.int (0 : Int32)), .unset, .unset]) rfl k) ?_
    show own_Fin _ _ _ _ _ _ _ T87 (mkF m 131 #[.val (.int p1), .val (.ref h0.size), .val (.int (8 : Int32)), .val (.ref s8), .val (.int (0 : Int32)), .unset, .unset] [])
    refine own_step (fun _ k => XS.aloadN X87.here hx rfl (hb hby at_131) rfl rfl k) ?_
    show own_Fin _ _ _ _ _ _ _ T87 (mkF m 132 #[.val (.int p1), .val (.ref h0.size), .val (.int (8 : Int32)), .val (.ref s8), .val (.int (0 : Int32)), .unset, .unset] [(.ref s8)])
    refine own_getS X87 hx hZ hown (hw _ (List.mem_of_getElem? (i := 28) rfl)) e87 (S12.ext E47) (hb hby at_132) ?_
    intro T88 X88 e88
    show own_Fin _ _ _ _ _ _ _ T88 (mkF m 135 #[.val (.int p1), .val (.ref h0.size), .val (.int (8 : Int32)), .val (.ref s8), .val (.int (0 : Int32)), .unset, .unset] [(.ref s12), (.ref s8)])
    refine own_step (fun _ k => XT.acmpYes X88.here hx rfl (pc0 := 135) (pc' := 142) rfl (hb hby at_135) rfl rfl rfl (XT.aa_ne_t (fun q => (own_ne F8 F12 (by decide)) (Value.ref.inj q))) (by decide) (by decide) k) ?_
    show own_Fin _ _ _ _ _ _ _ T88 (mkF m 142 #[.val (.int p1), .val (.ref h0.size), .val (.int (8 : Int32)), .val (.ref s8), .val (.int (0 : Int32)), .unset, .unset] [])
    refine own_step (fun _ k => XT.iconstV X88.here hx rfl (0 : Int32) (hb hby at_142) (by decide) k) ?_
    show own_Fin _ _ _ _ _ _ _ T88 (mkF m 143 #[.val (.int p1), .val (.ref h0.size), .val (.int (8 : Int32)), .val (.ref s8), .val (.int (0 : Int32)), .unset, .unset] [(.int (0 : Int32))])
    refine own_step (fun _ k => XS.istore X88.here hx rfl (hb hby at_143) rfl (l' := #[.val (.int p1), .val (.ref h0.size), .val (.int (8 : Int32)), .val (.ref s8), .val (.int (0 : Int32)), .val (.int (0 : Int32)), .unset]) rfl k) ?_
    show own_Fin _ _ _ _ _ _ _ T88 (mkF m 145 #[.val (.int p1), .val (.ref h0.size), .val (.int (8 : Int32)), .val (.ref s8), .val (.int (0 : Int32)), .val (.int (0 : Int32)), .unset] [])
    refine own_step (fun _ k => XS.iload X88.here hx rfl (hb hby at_145) rfl k) ?_
    show own_Fin _ _ _ _ _ _ _ T88 (mkF m 147 #[.val (.int p1), .val (.ref h0.size), .val (.int (8 : Int32)), .val (.ref s8), .val (.int (0 : Int32)), .val (.int (0 : Int32)), .unset] [(.int (0 : Int32))])
    refine own_step (fun _ k => XS.ifNo X88.here hx rfl (hb hby at_147) rfl (XT.i0_ne_f (by decide)) k) ?_
    show own_Fin _ _ _ _ _ _ _ T88 (mkF m 150 #[.val (.int p1), .val (.ref h0.size), .val (.int (8 : Int32)), .val (.ref s8), .val (.int (0 : Int32)), .val (.int (0 : Int32)), .unset] [])
    refine own_step (fun _ k => XS.iload X88.here hx rfl (hb hby at_150) rfl k) ?_
    show own_Fin _ _ _ _ _ _ _ T88 (mkF m 152 #[.val (.int p1), .val (.ref h0.size), .val (.int (8 : Int32)), .val (.ref s8), .val (.int (0 : Int32)), .val (.int (0 : Int32)), .unset] [(.int (0 : Int32))])
    refine own_step (fun _ k => XS.ifNo X88.here hx rfl (hb hby at_152) rfl (XT.i0_ne_f (by decide)) k) ?_
    show own_Fin _ _ _ _ _ _ _ T88 (mkF m 155 #[.val (.int p1), .val (.ref h0.size), .val (.int (8 : Int32)), .val (.ref s8), .val (.int (0 : Int32)), .val (.int (0 : Int32)), .unset] [])
    refine own_step (fun _ k => XT.iconstV X88.here hx rfl (1 : Int32) (hb hby at_155) (by decide) k) ?_
    show own_Fin _ _ _ _ _ _ _ T88 (mkF m 156 #[.val (.int p1), .val (.ref h0.size), .val (.int (8 : Int32)), .val (.ref s8), .val (.int (0 : Int32)), .val (.int (0 : Int32)), .unset] [(.int (1 : Int32))])
    refine own_step (fun _ k => XS.goto X88.here hx rfl (pc0 := 156) (pc' := 160) rfl (hb hby at_156) (by decide) (by decide) k) ?_
    show own_Fin _ _ _ _ _ _ _ T88 (mkF m 160 #[.val (.int p1), .val (.ref h0.size), .val (.int (8 : Int32)), .val (.ref s8), .val (.int (0 : Int32)), .val (.int (0 : Int32)), .unset] [(.int (1 : Int32))])
    refine own_step (fun _ k => XS.istore X88.here hx rfl (hb hby at_160) rfl (l' := #[.val (.int p1), .val (.ref h0.size), .val (.int (8 : Int32)), .val (.ref s8), .val (.int (0 : Int32)), .val (.int (0 : Int32)), .val (.int (1 : Int32))]) rfl k) ?_
    show own_Fin _ _ _ _ _ _ _ T88 (mkF m 162 #[.val (.int p1), .val (.ref h0.size), .val (.int (8 : Int32)), .val (.ref s8), .val (.int (0 : Int32)), .val (.int (0 : Int32)), .val (.int (1 : Int32))] [])
    refine own_step (fun _ k => XS.aloadN X88.here hx rfl (hb hby at_162) rfl rfl k) ?_
    show own_Fin _ _ _ _ _ _ _ T88 (mkF m 163 #[.val (.int p1), .val (.ref h0.size), .val (.int (8 : Int32)), .val (.ref s8), .val (.int (0 : Int32)), .val (.int (0 : Int32)), .val (.int (1 : Int32))] [(.ref s8)])
    have M := rm1 l Z a0 hw hp47 s8 u2 u1 u2 (G8.ext E47) (SU1.ext E47) (SU2.ext E47)
    rw [if_pos (by simp)] at M
    refine own_callV0 X88 hx hZ (argsL := []) (rest := []) hown (hw _ (List.mem_of_getElem? (i := 31) rfl)) (hw _ (List.mem_of_getElem? (i := 32) rfl)) (hw _ (List.mem_of_getElem? (i := 34) rfl)) (hw _ (List.mem_of_getElem? (i := 33) rfl)) (hw _ (List.mem_of_getElem? (i := 35) rfl)) (hw _ (List.mem_of_getElem? (i := 3) rfl)) (by decide) (E8.ext E47) M e88 0 (Nat.le_of_eq rfl) (by decide) (by decide) (by decide) (by decide) (by rw [hml]; rfl) pd___Z rfl rfl (hb hby at_163) ?_
    intro T89 X89 e89
    show own_Fin _ _ _ _ _ _ _ T89 (mkF m 166 #[.val (.int p1), .val (.ref h0.size), .val (.int (8 : Int32)), .val (.ref s8), .val (.int (0 : Int32)), .val (.int (0 : Int32)), .val (.int (1 : Int32))] [(.int (1 : Int32))])
    refine own_step (fun _ k => XS.iload X89.here hx rfl (hb hby at_166) rfl k) ?_
    show own_Fin _ _ _ _ _ _ _ T89 (mkF m 168 #[.val (.int p1), .val (.ref h0.size), .val (.int (8 : Int32)), .val (.ref s8), .val (.int (0 : Int32)), .val (.int (0 : Int32)), .val (.int (1 : Int32))] [(.int (1 : Int32)), (.int (1 : Int32))])
    refine own_step (fun _ k => XS.icmpNo X89.here hx rfl (hb hby at_168) rfl (XT.ii_ne_f (by decide)) k) ?_
    show own_Fin _ _ _ _ _ _ _ T89 (mkF m 171 #[.val (.int p1), .val (.ref h0.size), .val (.int (8 : Int32)), .val (.ref s8), .val (.int (0 : Int32)), .val (.int (0 : Int32)), .val (.int (1 : Int32))] [])
    refine own_step (fun _ k => XT.iconstV X89.here hx rfl (1 : Int32) (hb hby at_171) (by decide) k) ?_
    show own_Fin _ _ _ _ _ _ _ T89 (mkF m 172 #[.val (.int p1), .val (.ref h0.size), .val (.int (8 : Int32)), .val (.ref s8), .val (.int (0 : Int32)), .val (.int (0 : Int32)), .val (.int (1 : Int32))] [(.int (1 : Int32))])
    refine own_step (fun _ k => XS.goto X89.here hx rfl (pc0 := 172) (pc' := 176) rfl (hb hby at_172) (by decide) (by decide) k) ?_
    show own_Fin _ _ _ _ _ _ _ T89 (mkF m 176 #[.val (.int p1), .val (.ref h0.size), .val (.int (8 : Int32)), .val (.ref s8), .val (.int (0 : Int32)), .val (.int (0 : Int32)), .val (.int (1 : Int32))] [(.int (1 : Int32))])
    exact own_retZ X89 hx hrt hlk (hb hby at_176) (Or.inr rfl) ⟨rfl, N47⟩ (by decide) (by decide)
  · rw [q]
    show own_Fin _ _ _ _ _ _ _ T47 (mkF m 98 #[.val (.int p1), .val (.ref h0.size), .unset, .unset, .unset, .unset, .unset] [(.int (9 : Int32))])
    refine own_step (fun _ k => XS.istoreN X47.here hx rfl (hb hby at_98) rfl (l' := #[.val (.int p1), .val (.ref h0.size), .val (.int (9 : Int32)), .unset, .unset, .unset, .unset]) rfl k) ?_
    show own_Fin _ _ _ _ _ _ _ T47 (mkF m 99 #[.val (.int p1), .val (.ref h0.size), .val (.int (9 : Int32)), .unset, .unset, .unset, .unset] [])
    refine own_step (fun _ k => XS.aloadN X47.here hx rfl (hb hby at_99) rfl rfl k) ?_
    show own_Fin _ _ _ _ _ _ _ T47 (mkF m 100 #[.val (.int p1), .val (.ref h0.size), .val (.int (9 : Int32)), .unset, .unset, .unset, .unset] [(.ref h0.size)])
    refine own_step (fun _ k => XS.iloadN X47.here hx rfl (hb hby at_100) rfl k) ?_
    show own_Fin _ _ _ _ _ _ _ T47 (mkF m 101 #[.val (.int p1), .val (.ref h0.size), .val (.int (9 : Int32)), .unset, .unset, .unset, .unset] [(.int (9 : Int32)), (.ref h0.size)])
    refine own_ald X47 hx hZ e47 A47 rfl (v := (.ref s9)) 9 (by decide) (by decide) (by rw [z47]; rfl) (hb hby at_101) ?_
    show own_Fin _ _ _ _ _ _ _ T47 (mkF m 102 #[.val (.int p1), .val (.ref h0.size), .val (.int (9 : Int32)), .unset, .unset, .unset, .unset] [(.ref s9)])
    refine own_step (fun _ k => XS.astoreN X47.here hx rfl (hb hby at_102) rfl rfl (l' := #[.val (.int p1), .val (.ref h0.size), .val (.int (9 : Int32)), .val (.ref s9), .unset, .unset, .unset]) rfl k) ?_
    show own_Fin _ _ _ _ _ _ _ T47 (mkF m 103 #[.val (.int p1), .val (.ref h0.size), .val (.int (9 : Int32)), .val (.ref s9), .unset, .unset, .unset] [])
    refine own_step (fun _ k => XS.aloadN X47.here hx rfl (hb hby at_103) rfl rfl k) ?_
    show own_Fin _ _ _ _ _ _ _ T47 (mkF m 104 #[.val (.int p1), .val (.ref h0.size), .val (.int (9 : Int32)), .val (.ref s9), .unset, .unset, .unset] [(.ref s9)])
    refine own_getS X47 hx hZ hown (hw _ (List.mem_of_getElem? (i := 2) rfl)) e47 (S0.ext E47) (hb hby at_104) ?_
    intro T90 X90 e90
    show own_Fin _ _ _ _ _ _ _ T90 (mkF m 107 #[.val (.int p1), .val (.ref h0.size), .val (.int (9 : Int32)), .val (.ref s9), .unset, .unset, .unset] [(.ref s0), (.ref s9)])
    refine own_step (fun _ k => XT.acmpNo X90.here hx rfl (hb hby at_107) rfl rfl rfl (XT.aa_eq_f (fun q => (own_ne F9 F0 (by decide)) (Value.ref.inj q))) k) ?_
    show own_Fin _ _ _ _ _ _ _ T90 (mkF m 110 #[.val (.int p1), .val (.ref h0.size), .val (.int (9 : Int32)), .val (.ref s9), .unset, .unset, .unset] [])
    refine own_step (fun _ k => XS.aloadN X90.here hx rfl (hb hby at_110) rfl rfl k) ?_
    show own_Fin _ _ _ _ _ _ _ T90 (mkF m 111 #[.val (.int p1), .val (.ref h0.size), .val (.int (9 : Int32)), .val (.ref s9), .unset, .unset, .unset] [(.ref s9)])
    refine own_getS X90 hx hZ hown (hw _ (List.mem_of_getElem? (i := 6) rfl)) e90 (S1.ext E47) (hb hby at_111) ?_
    intro T91 X91 e91
    show own_Fin _ _ _ _ _ _ _ T91 (mkF m 114 #[.val (.int p1), .val (.ref h0.size), .val (.int (9 : Int32)), .val (.ref s9), .unset, .unset, .unset] [(.ref s1), (.ref s9)])
    refine own_step (fun _ k => XT.acmpNo X91.here hx rfl (hb hby at_114) rfl rfl rfl (XT.aa_eq_f (fun q => (own_ne F9 F1 (by decide)) (Value.ref.inj q))) k) ?_
    show own_Fin _ _ _ _ _ _ _ T91 (mkF m 117 #[.val (.int p1), .val (.ref h0.size), .val (.int (9 : Int32)), .val (.ref s9), .unset, .unset, .unset] [])
    refine own_step (fun _ k => XS.aloadN X91.here hx rfl (hb hby at_117) rfl rfl k) ?_
    show own_Fin _ _ _ _ _ _ _ T91 (mkF m 118 #[.val (.int p1), .val (.ref h0.size), .val (.int (9 : Int32)), .val (.ref s9), .unset, .unset, .unset] [(.ref s9)])
    refine own_getS X91 hx hZ hown (hw _ (List.mem_of_getElem? (i := 10) rfl)) e91 (S3.ext E47) (hb hby at_118) ?_
    intro T92 X92 e92
    show own_Fin _ _ _ _ _ _ _ T92 (mkF m 121 #[.val (.int p1), .val (.ref h0.size), .val (.int (9 : Int32)), .val (.ref s9), .unset, .unset, .unset] [(.ref s3), (.ref s9)])
    refine own_step (fun _ k => XT.acmpYes X92.here hx rfl (pc0 := 121) (pc' := 128) rfl (hb hby at_121) rfl rfl rfl (XT.aa_ne_t (fun q => (own_ne F9 F3 (by decide)) (Value.ref.inj q))) (by decide) (by decide) k) ?_
    show own_Fin _ _ _ _ _ _ _ T92 (mkF m 128 #[.val (.int p1), .val (.ref h0.size), .val (.int (9 : Int32)), .val (.ref s9), .unset, .unset, .unset] [])
    refine own_step (fun _ k => XT.iconstV X92.here hx rfl (0 : Int32) (hb hby at_128) (by decide) k) ?_
    show own_Fin _ _ _ _ _ _ _ T92 (mkF m 129 #[.val (.int p1), .val (.ref h0.size), .val (.int (9 : Int32)), .val (.ref s9), .unset, .unset, .unset] [(.int (0 : Int32))])
    refine own_step (fun _ k => XS.istore X92.here hx rfl (hb hby at_129) rfl (l' := #[.val (.int p1), .val (.ref h0.size), .val (.int (9 : Int32)), .val (.ref s9), .val (.int (0 : Int32)), .unset, .unset]) rfl k) ?_
    show own_Fin _ _ _ _ _ _ _ T92 (mkF m 131 #[.val (.int p1), .val (.ref h0.size), .val (.int (9 : Int32)), .val (.ref s9), .val (.int (0 : Int32)), .unset, .unset] [])
    refine own_step (fun _ k => XS.aloadN X92.here hx rfl (hb hby at_131) rfl rfl k) ?_
    show own_Fin _ _ _ _ _ _ _ T92 (mkF m 132 #[.val (.int p1), .val (.ref h0.size), .val (.int (9 : Int32)), .val (.ref s9), .val (.int (0 : Int32)), .unset, .unset] [(.ref s9)])
    refine own_getS X92 hx hZ hown (hw _ (List.mem_of_getElem? (i := 28) rfl)) e92 (S12.ext E47) (hb hby at_132) ?_
    intro T93 X93 e93
    show own_Fin _ _ _ _ _ _ _ T93 (mkF m 135 #[.val (.int p1), .val (.ref h0.size), .val (.int (9 : Int32)), .val (.ref s9), .val (.int (0 : Int32)), .unset, .unset] [(.ref s12), (.ref s9)])
    refine own_step (fun _ k => XT.acmpYes X93.here hx rfl (pc0 := 135) (pc' := 142) rfl (hb hby at_135) rfl rfl rfl (XT.aa_ne_t (fun q => (own_ne F9 F12 (by decide)) (Value.ref.inj q))) (by decide) (by decide) k) ?_
    show own_Fin _ _ _ _ _ _ _ T93 (mkF m 142 #[.val (.int p1), .val (.ref h0.size), .val (.int (9 : Int32)), .val (.ref s9), .val (.int (0 : Int32)), .unset, .unset] [])
    refine own_step (fun _ k => XT.iconstV X93.here hx rfl (0 : Int32) (hb hby at_142) (by decide) k) ?_
    show own_Fin _ _ _ _ _ _ _ T93 (mkF m 143 #[.val (.int p1), .val (.ref h0.size), .val (.int (9 : Int32)), .val (.ref s9), .val (.int (0 : Int32)), .unset, .unset] [(.int (0 : Int32))])
    refine own_step (fun _ k => XS.istore X93.here hx rfl (hb hby at_143) rfl (l' := #[.val (.int p1), .val (.ref h0.size), .val (.int (9 : Int32)), .val (.ref s9), .val (.int (0 : Int32)), .val (.int (0 : Int32)), .unset]) rfl k) ?_
    show own_Fin _ _ _ _ _ _ _ T93 (mkF m 145 #[.val (.int p1), .val (.ref h0.size), .val (.int (9 : Int32)), .val (.ref s9), .val (.int (0 : Int32)), .val (.int (0 : Int32)), .unset] [])
    refine own_step (fun _ k => XS.iload X93.here hx rfl (hb hby at_145) rfl k) ?_
    show own_Fin _ _ _ _ _ _ _ T93 (mkF m 147 #[.val (.int p1), .val (.ref h0.size), .val (.int (9 : Int32)), .val (.ref s9), .val (.int (0 : Int32)), .val (.int (0 : Int32)), .unset] [(.int (0 : Int32))])
    refine own_step (fun _ k => XS.ifNo X93.here hx rfl (hb hby at_147) rfl (XT.i0_ne_f (by decide)) k) ?_
    show own_Fin _ _ _ _ _ _ _ T93 (mkF m 150 #[.val (.int p1), .val (.ref h0.size), .val (.int (9 : Int32)), .val (.ref s9), .val (.int (0 : Int32)), .val (.int (0 : Int32)), .unset] [])
    refine own_step (fun _ k => XS.iload X93.here hx rfl (hb hby at_150) rfl k) ?_
    show own_Fin _ _ _ _ _ _ _ T93 (mkF m 152 #[.val (.int p1), .val (.ref h0.size), .val (.int (9 : Int32)), .val (.ref s9), .val (.int (0 : Int32)), .val (.int (0 : Int32)), .unset] [(.int (0 : Int32))])
    refine own_step (fun _ k => XS.ifNo X93.here hx rfl (hb hby at_152) rfl (XT.i0_ne_f (by decide)) k) ?_
    show own_Fin _ _ _ _ _ _ _ T93 (mkF m 155 #[.val (.int p1), .val (.ref h0.size), .val (.int (9 : Int32)), .val (.ref s9), .val (.int (0 : Int32)), .val (.int (0 : Int32)), .unset] [])
    refine own_step (fun _ k => XT.iconstV X93.here hx rfl (1 : Int32) (hb hby at_155) (by decide) k) ?_
    show own_Fin _ _ _ _ _ _ _ T93 (mkF m 156 #[.val (.int p1), .val (.ref h0.size), .val (.int (9 : Int32)), .val (.ref s9), .val (.int (0 : Int32)), .val (.int (0 : Int32)), .unset] [(.int (1 : Int32))])
    refine own_step (fun _ k => XS.goto X93.here hx rfl (pc0 := 156) (pc' := 160) rfl (hb hby at_156) (by decide) (by decide) k) ?_
    show own_Fin _ _ _ _ _ _ _ T93 (mkF m 160 #[.val (.int p1), .val (.ref h0.size), .val (.int (9 : Int32)), .val (.ref s9), .val (.int (0 : Int32)), .val (.int (0 : Int32)), .unset] [(.int (1 : Int32))])
    refine own_step (fun _ k => XS.istore X93.here hx rfl (hb hby at_160) rfl (l' := #[.val (.int p1), .val (.ref h0.size), .val (.int (9 : Int32)), .val (.ref s9), .val (.int (0 : Int32)), .val (.int (0 : Int32)), .val (.int (1 : Int32))]) rfl k) ?_
    show own_Fin _ _ _ _ _ _ _ T93 (mkF m 162 #[.val (.int p1), .val (.ref h0.size), .val (.int (9 : Int32)), .val (.ref s9), .val (.int (0 : Int32)), .val (.int (0 : Int32)), .val (.int (1 : Int32))] [])
    refine own_step (fun _ k => XS.aloadN X93.here hx rfl (hb hby at_162) rfl rfl k) ?_
    show own_Fin _ _ _ _ _ _ _ T93 (mkF m 163 #[.val (.int p1), .val (.ref h0.size), .val (.int (9 : Int32)), .val (.ref s9), .val (.int (0 : Int32)), .val (.int (0 : Int32)), .val (.int (1 : Int32))] [(.ref s9)])
    have M := rm1 l Z a0 hw hp47 s9 u2 u1 u2 (G9.ext E47) (SU1.ext E47) (SU2.ext E47)
    rw [if_pos (by simp)] at M
    refine own_callV0 X93 hx hZ (argsL := []) (rest := []) hown (hw _ (List.mem_of_getElem? (i := 31) rfl)) (hw _ (List.mem_of_getElem? (i := 32) rfl)) (hw _ (List.mem_of_getElem? (i := 34) rfl)) (hw _ (List.mem_of_getElem? (i := 33) rfl)) (hw _ (List.mem_of_getElem? (i := 35) rfl)) (hw _ (List.mem_of_getElem? (i := 3) rfl)) (by decide) (E9.ext E47) M e93 0 (Nat.le_of_eq rfl) (by decide) (by decide) (by decide) (by decide) (by rw [hml]; rfl) pd___Z rfl rfl (hb hby at_163) ?_
    intro T94 X94 e94
    show own_Fin _ _ _ _ _ _ _ T94 (mkF m 166 #[.val (.int p1), .val (.ref h0.size), .val (.int (9 : Int32)), .val (.ref s9), .val (.int (0 : Int32)), .val (.int (0 : Int32)), .val (.int (1 : Int32))] [(.int (1 : Int32))])
    refine own_step (fun _ k => XS.iload X94.here hx rfl (hb hby at_166) rfl k) ?_
    show own_Fin _ _ _ _ _ _ _ T94 (mkF m 168 #[.val (.int p1), .val (.ref h0.size), .val (.int (9 : Int32)), .val (.ref s9), .val (.int (0 : Int32)), .val (.int (0 : Int32)), .val (.int (1 : Int32))] [(.int (1 : Int32)), (.int (1 : Int32))])
    refine own_step (fun _ k => XS.icmpNo X94.here hx rfl (hb hby at_168) rfl (XT.ii_ne_f (by decide)) k) ?_
    show own_Fin _ _ _ _ _ _ _ T94 (mkF m 171 #[.val (.int p1), .val (.ref h0.size), .val (.int (9 : Int32)), .val (.ref s9), .val (.int (0 : Int32)), .val (.int (0 : Int32)), .val (.int (1 : Int32))] [])
    refine own_step (fun _ k => XT.iconstV X94.here hx rfl (1 : Int32) (hb hby at_171) (by decide) k) ?_
    show own_Fin _ _ _ _ _ _ _ T94 (mkF m 172 #[.val (.int p1), .val (.ref h0.size), .val (.int (9 : Int32)), .val (.ref s9), .val (.int (0 : Int32)), .val (.int (0 : Int32)), .val (.int (1 : Int32))] [(.int (1 : Int32))])
    refine own_step (fun _ k => XS.goto X94.here hx rfl (pc0 := 172) (pc' := 176) rfl (hb hby at_172) (by decide) (by decide) k) ?_
    show own_Fin _ _ _ _ _ _ _ T94 (mkF m 176 #[.val (.int p1), .val (.ref h0.size), .val (.int (9 : Int32)), .val (.ref s9), .val (.int (0 : Int32)), .val (.int (0 : Int32)), .val (.int (1 : Int32))] [(.int (1 : Int32))])
    exact own_retZ X94 hx hrt hlk (hb hby at_176) (Or.inr rfl) ⟨rfl, N47⟩ (by decide) (by decide)
  · rw [q]
    show own_Fin _ _ _ _ _ _ _ T47 (mkF m 98 #[.val (.int p1), .val (.ref h0.size), .unset, .unset, .unset, .unset, .unset] [(.int (10 : Int32))])
    refine own_step (fun _ k => XS.istoreN X47.here hx rfl (hb hby at_98) rfl (l' := #[.val (.int p1), .val (.ref h0.size), .val (.int (10 : Int32)), .unset, .unset, .unset, .unset]) rfl k) ?_
    show own_Fin _ _ _ _ _ _ _ T47 (mkF m 99 #[.val (.int p1), .val (.ref h0.size), .val (.int (10 : Int32)), .unset, .unset, .unset, .unset] [])
    refine own_step (fun _ k => XS.aloadN X47.here hx rfl (hb hby at_99) rfl rfl k) ?_
    show own_Fin _ _ _ _ _ _ _ T47 (mkF m 100 #[.val (.int p1), .val (.ref h0.size), .val (.int (10 : Int32)), .unset, .unset, .unset, .unset] [(.ref h0.size)])
    refine own_step (fun _ k => XS.iloadN X47.here hx rfl (hb hby at_100) rfl k) ?_
    show own_Fin _ _ _ _ _ _ _ T47 (mkF m 101 #[.val (.int p1), .val (.ref h0.size), .val (.int (10 : Int32)), .unset, .unset, .unset, .unset] [(.int (10 : Int32)), (.ref h0.size)])
    refine own_ald X47 hx hZ e47 A47 rfl (v := (.ref s10)) 10 (by decide) (by decide) (by rw [z47]; rfl) (hb hby at_101) ?_
    show own_Fin _ _ _ _ _ _ _ T47 (mkF m 102 #[.val (.int p1), .val (.ref h0.size), .val (.int (10 : Int32)), .unset, .unset, .unset, .unset] [(.ref s10)])
    refine own_step (fun _ k => XS.astoreN X47.here hx rfl (hb hby at_102) rfl rfl (l' := #[.val (.int p1), .val (.ref h0.size), .val (.int (10 : Int32)), .val (.ref s10), .unset, .unset, .unset]) rfl k) ?_
    show own_Fin _ _ _ _ _ _ _ T47 (mkF m 103 #[.val (.int p1), .val (.ref h0.size), .val (.int (10 : Int32)), .val (.ref s10), .unset, .unset, .unset] [])
    refine own_step (fun _ k => XS.aloadN X47.here hx rfl (hb hby at_103) rfl rfl k) ?_
    show own_Fin _ _ _ _ _ _ _ T47 (mkF m 104 #[.val (.int p1), .val (.ref h0.size), .val (.int (10 : Int32)), .val (.ref s10), .unset, .unset, .unset] [(.ref s10)])
    refine own_getS X47 hx hZ hown (hw _ (List.mem_of_getElem? (i := 2) rfl)) e47 (S0.ext E47) (hb hby at_104) ?_
    intro T95 X95 e95
    show own_Fin _ _ _ _ _ _ _ T95 (mkF m 107 #[.val (.int p1), .val (.ref h0.size), .val (.int (10 : Int32)), .val (.ref s10), .unset, .unset, .unset] [(.ref s0), (.ref s10)])
    refine own_step (fun _ k => XT.acmpNo X95.here hx rfl (hb hby at_107) rfl rfl rfl (XT.aa_eq_f (fun q => (own_ne F10 F0 (by decide)) (Value.ref.inj q))) k) ?_
    show own_Fin _ _ _ _ _ _ _ T95 (mkF m 110 #[.val (.int p1), .val (.ref h0.size), .val (.int (10 : Int32)), .val (.ref s10), .unset, .unset, .unset] [])
    refine own_step (fun _ k => XS.aloadN X95.here hx rfl (hb hby at_110) rfl rfl k) ?_
    show own_Fin _ _ _ _ _ _ _ T95 (mkF m 111 #[.val (.int p1), .val (.ref h0.size), .val (.int (10 : Int32)), .val (.ref s10), .unset, .unset, .unset] [(.ref s10)])
    refine own_getS X95 hx hZ hown (hw _ (List.mem_of_getElem? (i := 6) rfl)) e95 (S1.ext E47) (hb hby at_111) ?_
    intro T96 X96 e96
    show own_Fin _ _ _ _ _ _ _ T96 (mkF m 114 #[.val (.int p1), .val (.ref h0.size), .val (.int (10 : Int32)), .val (.ref s10), .unset, .unset, .unset] [(.ref s1), (.ref s10)])
    refine own_step (fun _ k => XT.acmpNo X96.here hx rfl (hb hby at_114) rfl rfl rfl (XT.aa_eq_f (fun q => (own_ne F10 F1 (by decide)) (Value.ref.inj q))) k) ?_
    show own_Fin _ _ _ _ _ _ _ T96 (mkF m 117 #[.val (.int p1), .val (.ref h0.size), .val (.int (10 : Int32)), .val (.ref s10), .unset, .unset, .unset] [])
    refine own_step (fun _ k => XS.aloadN X96.here hx rfl (hb hby at_117) rfl rfl k) ?_
    show own_Fin _ _ _ _ _ _ _ T96 (mkF m 118 #[.val (.int p1), .val (.ref h0.size), .val (.int (10 : Int32)), .val (.ref s10), .unset, .unset, .unset] [(.ref s10)])
    refine own_getS X96 hx hZ hown (hw _ (List.mem_of_getElem? (i := 10) rfl)) e96 (S3.ext E47) (hb hby at_118) ?_
    intro T97 X97 e97
    show own_Fin _ _ _ _ _ _ _ T97 (mkF m 121 #[.val (.int p1), .val (.ref h0.size), .val (.int (10 : Int32)), .val (.ref s10), .unset, .unset, .unset] [(.ref s3), (.ref s10)])
    refine own_step (fun _ k => XT.acmpYes X97.here hx rfl (pc0 := 121) (pc' := 128) rfl (hb hby at_121) rfl rfl rfl (XT.aa_ne_t (fun q => (own_ne F10 F3 (by decide)) (Value.ref.inj q))) (by decide) (by decide) k) ?_
    show own_Fin _ _ _ _ _ _ _ T97 (mkF m 128 #[.val (.int p1), .val (.ref h0.size), .val (.int (10 : Int32)), .val (.ref s10), .unset, .unset, .unset] [])
    refine own_step (fun _ k => XT.iconstV X97.here hx rfl (0 : Int32) (hb hby at_128) (by decide) k) ?_
    show own_Fin _ _ _ _ _ _ _ T97 (mkF m 129 #[.val (.int p1), .val (.ref h0.size), .val (.int (10 : Int32)), .val (.ref s10), .unset, .unset, .unset] [(.int (0 : Int32))])
    refine own_step (fun _ k => XS.istore X97.here hx rfl (hb hby at_129) rfl (l' := #[.val (.int p1), .val (.ref h0.size), .val (.int (10 : Int32)), .val (.ref s10), .val (.int (0 : Int32)), .unset, .unset]) rfl k) ?_
    show own_Fin _ _ _ _ _ _ _ T97 (mkF m 131 #[.val (.int p1), .val (.ref h0.size), .val (.int (10 : Int32)), .val (.ref s10), .val (.int (0 : Int32)), .unset, .unset] [])
    refine own_step (fun _ k => XS.aloadN X97.here hx rfl (hb hby at_131) rfl rfl k) ?_
    show own_Fin _ _ _ _ _ _ _ T97 (mkF m 132 #[.val (.int p1), .val (.ref h0.size), .val (.int (10 : Int32)), .val (.ref s10), .val (.int (0 : Int32)), .unset, .unset] [(.ref s10)])
    refine own_getS X97 hx hZ hown (hw _ (List.mem_of_getElem? (i := 28) rfl)) e97 (S12.ext E47) (hb hby at_132) ?_
    intro T98 X98 e98
    show own_Fin _ _ _ _ _ _ _ T98 (mkF m 135 #[.val (.int p1), .val (.ref h0.size), .val (.int (10 : Int32)), .val (.ref s10), .val (.int (0 : Int32)), .unset, .unset] [(.ref s12), (.ref s10)])
    refine own_step (fun _ k => XT.acmpYes X98.here hx rfl (pc0 := 135) (pc' := 142) rfl (hb hby at_135) rfl rfl rfl (XT.aa_ne_t (fun q => (own_ne F10 F12 (by decide)) (Value.ref.inj q))) (by decide) (by decide) k) ?_
    show own_Fin _ _ _ _ _ _ _ T98 (mkF m 142 #[.val (.int p1), .val (.ref h0.size), .val (.int (10 : Int32)), .val (.ref s10), .val (.int (0 : Int32)), .unset, .unset] [])
    refine own_step (fun _ k => XT.iconstV X98.here hx rfl (0 : Int32) (hb hby at_142) (by decide) k) ?_
    show own_Fin _ _ _ _ _ _ _ T98 (mkF m 143 #[.val (.int p1), .val (.ref h0.size), .val (.int (10 : Int32)), .val (.ref s10), .val (.int (0 : Int32)), .unset, .unset] [(.int (0 : Int32))])
    refine own_step (fun _ k => XS.istore X98.here hx rfl (hb hby at_143) rfl (l' := #[.val (.int p1), .val (.ref h0.size), .val (.int (10 : Int32)), .val (.ref s10), .val (.int (0 : Int32)), .val (.int (0 : Int32)), .unset]) rfl k) ?_
    show own_Fin _ _ _ _ _ _ _ T98 (mkF m 145 #[.val (.int p1), .val (.ref h0.size), .val (.int (10 : Int32)), .val (.ref s10), .val (.int (0 : Int32)), .val (.int (0 : Int32)), .unset] [])
    refine own_step (fun _ k => XS.iload X98.here hx rfl (hb hby at_145) rfl k) ?_
    show own_Fin _ _ _ _ _ _ _ T98 (mkF m 147 #[.val (.int p1), .val (.ref h0.size), .val (.int (10 : Int32)), .val (.ref s10), .val (.int (0 : Int32)), .val (.int (0 : Int32)), .unset] [(.int (0 : Int32))])
    refine own_step (fun _ k => XS.ifNo X98.here hx rfl (hb hby at_147) rfl (XT.i0_ne_f (by decide)) k) ?_
    show own_Fin _ _ _ _ _ _ _ T98 (mkF m 150 #[.val (.int p1), .val (.ref h0.size), .val (.int (10 : Int32)), .val (.ref s10), .val (.int (0 : Int32)), .val (.int (0 : Int32)), .unset] [])
    refine own_step (fun _ k => XS.iload X98.here hx rfl (hb hby at_150) rfl k) ?_
    show own_Fin _ _ _ _ _ _ _ T98 (mkF m 152 #[.val (.int p1), .val (.ref h0.size), .val (.int (10 : Int32)), .val (.ref s10), .val (.int (0 : Int32)), .val (.int (0 : Int32)), .unset] [(.int (0 : Int32))])
    refine own_step (fun _ k => XS.ifNo X98.here hx rfl (hb hby at_152) rfl (XT.i0_ne_f (by decide)) k) ?_
    show own_Fin _ _ _ _ _ _ _ T98 (mkF m 155 #[.val (.int p1), .val (.ref h0.size), .val (.int (10 : Int32)), .val (.ref s10), .val (.int (0 : Int32)), .val (.int (0 : Int32)), .unset] [])
    refine own_step (fun _ k => XT.iconstV X98.here hx rfl (1 : Int32) (hb hby at_155) (by decide) k) ?_
    show own_Fin _ _ _ _ _ _ _ T98 (mkF m 156 #[.val (.int p1), .val (.ref h0.size), .val (.int (10 : Int32)), .val (.ref s10), .val (.int (0 : Int32)), .val (.int (0 : Int32)), .unset] [(.int (1 : Int32))])
    refine own_step (fun _ k => XS.goto X98.here hx rfl (pc0 := 156) (pc' := 160) rfl (hb hby at_156) (by decide) (by decide) k) ?_
    show own_Fin _ _ _ _ _ _ _ T98 (mkF m 160 #[.val (.int p1), .val (.ref h0.size), .val (.int (10 : Int32)), .val (.ref s10), .val (.int (0 : Int32)), .val (.int (0 : Int32)), .unset] [(.int (1 : Int32))])
    refine own_step (fun _ k => XS.istore X98.here hx rfl (hb hby at_160) rfl (l' := #[.val (.int p1), .val (.ref h0.size), .val (.int (10 : Int32)), .val (.ref s10), .val (.int (0 : Int32)), .val (.int (0 : Int32)), .val (.int (1 : Int32))]) rfl k) ?_
    show own_Fin _ _ _ _ _ _ _ T98 (mkF m 162 #[.val (.int p1), .val (.ref h0.size), .val (.int (10 : Int32)), .val (.ref s10), .val (.int (0 : Int32)), .val (.int (0 : Int32)), .val (.int (1 : Int32))] [])
    refine own_step (fun _ k => XS.aloadN X98.here hx rfl (hb hby at_162) rfl rfl k) ?_
    show own_Fin _ _ _ _ _ _ _ T98 (mkF m 163 #[.val (.int p1), .val (.ref h0.size), .val (.int (10 : Int32)), .val (.ref s10), .val (.int (0 : Int32)), .val (.int (0 : Int32)), .val (.int (1 : Int32))] [(.ref s10)])
    have M := rm1 l Z a0 hw hp47 s10 u2 u1 u2 (G10.ext E47) (SU1.ext E47) (SU2.ext E47)
    rw [if_pos (by simp)] at M
    refine own_callV0 X98 hx hZ (argsL := []) (rest := []) hown (hw _ (List.mem_of_getElem? (i := 31) rfl)) (hw _ (List.mem_of_getElem? (i := 32) rfl)) (hw _ (List.mem_of_getElem? (i := 34) rfl)) (hw _ (List.mem_of_getElem? (i := 33) rfl)) (hw _ (List.mem_of_getElem? (i := 35) rfl)) (hw _ (List.mem_of_getElem? (i := 3) rfl)) (by decide) (E10.ext E47) M e98 0 (Nat.le_of_eq rfl) (by decide) (by decide) (by decide) (by decide) (by rw [hml]; rfl) pd___Z rfl rfl (hb hby at_163) ?_
    intro T99 X99 e99
    show own_Fin _ _ _ _ _ _ _ T99 (mkF m 166 #[.val (.int p1), .val (.ref h0.size), .val (.int (10 : Int32)), .val (.ref s10), .val (.int (0 : Int32)), .val (.int (0 : Int32)), .val (.int (1 : Int32))] [(.int (1 : Int32))])
    refine own_step (fun _ k => XS.iload X99.here hx rfl (hb hby at_166) rfl k) ?_
    show own_Fin _ _ _ _ _ _ _ T99 (mkF m 168 #[.val (.int p1), .val (.ref h0.size), .val (.int (10 : Int32)), .val (.ref s10), .val (.int (0 : Int32)), .val (.int (0 : Int32)), .val (.int (1 : Int32))] [(.int (1 : Int32)), (.int (1 : Int32))])
    refine own_step (fun _ k => XS.icmpNo X99.here hx rfl (hb hby at_168) rfl (XT.ii_ne_f (by decide)) k) ?_
    show own_Fin _ _ _ _ _ _ _ T99 (mkF m 171 #[.val (.int p1), .val (.ref h0.size), .val (.int (10 : Int32)), .val (.ref s10), .val (.int (0 : Int32)), .val (.int (0 : Int32)), .val (.int (1 : Int32))] [])
    refine own_step (fun _ k => XT.iconstV X99.here hx rfl (1 : Int32) (hb hby at_171) (by decide) k) ?_
    show own_Fin _ _ _ _ _ _ _ T99 (mkF m 172 #[.val (.int p1), .val (.ref h0.size), .val (.int (10 : Int32)), .val (.ref s10), .val (.int (0 : Int32)), .val (.int (0 : Int32)), .val (.int (1 : Int32))] [(.int (1 : Int32))])
    refine own_step (fun _ k => XS.goto X99.here hx rfl (pc0 := 172) (pc' := 176) rfl (hb hby at_172) (by decide) (by decide) k) ?_
    show own_Fin _ _ _ _ _ _ _ T99 (mkF m 176 #[.val (.int p1), .val (.ref h0.size), .val (.int (10 : Int32)), .val (.ref s10), .val (.int (0 : Int32)), .val (.int (0 : Int32)), .val (.int (1 : Int32))] [(.int (1 : Int32))])
    exact own_retZ X99 hx hrt hlk (hb hby at_176) (Or.inr rfl) ⟨rfl, N47⟩ (by decide) (by decide)
  · rw [q]
    show own_Fin _ _ _ _ _ _ _ T47 (mkF m 98 #[.val (.int p1), .val (.ref h0.size), .unset, .unset, .unset, .unset, .unset] [(.int (11 : Int32))])
    refine own_step (fun _ k => XS.istoreN X47.here hx rfl (hb hby at_98) rfl (l' := #[.val (.int p1), .val (.ref h0.size), .val (.int (11 : Int32)), .unset, .unset, .unset, .unset]) rfl k) ?_
    show own_Fin _ _ _ _ _ _ _ T47 (mkF m 99 #[.val (.int p1), .val (.ref h0.size), .val (.int (11 : Int32)), .unset, .unset, .unset, .unset] [])
    refine own_step (fun _ k => XS.aloadN X47.here hx rfl (hb hby at_99) rfl rfl k) ?_
    show own_Fin _ _ _ _ _ _ _ T47 (mkF m 100 #[.val (.int p1), .val (.ref h0.size), .val (.int (11 : Int32)), .unset, .unset, .unset, .unset] [(.ref h0.size)])
    refine own_step (fun _ k => XS.iloadN X47.here hx rfl (hb hby at_100) rfl k) ?_
    show own_Fin _ _ _ _ _ _ _ T47 (mkF m 101 #[.val (.int p1), .val (.ref h0.size), .val (.int (11 : Int32)), .unset, .unset, .unset, .unset] [(.int (11 : Int32)), (.ref h0.size)])
    refine own_ald X47 hx hZ e47 A47 rfl (v := (.ref s11)) 11 (by decide) (by decide) (by rw [z47]; rfl) (hb hby at_101) ?_
    show own_Fin _ _ _ _ _ _ _ T47 (mkF m 102 #[.val (.int p1), .val (.ref h0.size), .val (.int (11 : Int32)), .unset, .unset, .unset, .unset] [(.ref s11)])
    refine own_step (fun _ k => XS.astoreN X47.here hx rfl (hb hby at_102) rfl rfl (l' := #[.val (.int p1), .val (.ref h0.size), .val (.int (11 : Int32)), .val (.ref s11), .unset, .unset, .unset]) rfl k) ?_
    show own_Fin _ _ _ _ _ _ _ T47 (mkF m 103 #[.val (.int p1), .val (.ref h0.size), .val (.int (11 : Int32)), .val (.ref s11), .unset, .unset, .unset] [])
    refine own_step (fun _ k => XS.aloadN X47.here hx rfl (hb hby at_103) rfl rfl k) ?_
    show own_Fin _ _ _ _ _ _ _ T47 (mkF m 104 #[.val (.int p1), .val (.ref h0.size), .val (.int (11 : Int32)), .val (.ref s11), .unset, .unset, .unset] [(.ref s11)])
    refine own_getS X47 hx hZ hown (hw _ (List.mem_of_getElem? (i := 2) rfl)) e47 (S0.ext E47) (hb hby at_104) ?_
    intro T100 X100 e100
    show own_Fin _ _ _ _ _ _ _ T100 (mkF m 107 #[.val (.int p1), .val (.ref h0.size), .val (.int (11 : Int32)), .val (.ref s11), .unset, .unset, .unset] [(.ref s0), (.ref s11)])
    refine own_step (fun _ k => XT.acmpNo X100.here hx rfl (hb hby at_107) rfl rfl rfl (XT.aa_eq_f (fun q => (own_ne F11 F0 (by decide)) (Value.ref.inj q))) k) ?_
    show own_Fin _ _ _ _ _ _ _ T100 (mkF m 110 #[.val (.int p1), .val (.ref h0.size), .val (.int (11 : Int32)), .val (.ref s11), .unset, .unset, .unset] [])
    refine own_step (fun _ k => XS.aloadN X100.here hx rfl (hb hby at_110) rfl rfl k) ?_
    show own_Fin _ _ _ _ _ _ _ T100 (mkF m 111 #[.val (.int p1), .val (.ref h0.size), .val (.int (11 : Int32)), .val (.ref s11), .unset, .unset, .unset] [(.ref s11)])
    refine own_getS X100 hx hZ hown (hw _ (List.mem_of_getElem? (i := 6) rfl)) e100 (S1.ext E47) (hb hby at_111) ?_
    intro T101 X101 e101
    show own_Fin _ _ _ _ _ _ _ T101 (mkF m 114 #[.val (.int p1), .val (.ref h0.size), .val (.int (11 : Int32)), .val (.ref s11), .unset, .unset, .unset] [(.ref s1), (.ref s11)])
    refine own_step (fun _ k => XT.acmpNo X101.here hx rfl (hb hby at_114) rfl rfl rfl (XT.aa_eq_f (fun q => (own_ne F11 F1 (by decide)) (Value.ref.inj q))) k) ?_
    show own_Fin _ _ _ _ _ _ _ T101 (mkF m 117 #[.val (.int p1), .val (.ref h0.size), .val (.int (11 : Int32)), .val (.ref s11), .unset, .unset, .unset] [])
    refine own_step (fun _ k => XS.aloadN X101.here hx rfl (hb hby at_117) rfl rfl k) ?_
    show own_Fin _ _ _ _ _ _ _ T101 (mkF m 118 #[.val (.int p1), .val (.ref h0.size), .val (.int (11 : Int32)), .val (.ref s11), .unset, .unset, .unset] [(.ref s11)])
    refine own_getS X101 hx hZ hown (hw _ (List.mem_of_getElem? (i := 10) rfl)) e101 (S3.ext E47) (hb hby at_118) ?_
    intro T102 X102 e102
    show own_Fin _ _ _ _ _ _ _ T102 (mkF m 121 #[.val (.int p1), .val (.ref h0.size), .val (.int (11 : Int32)), .val (.ref s11), .unset, .unset, .unset] [(.ref s3), (.ref s11)])
    refine own_step (fun _ k => XT.acmpYes X102.here hx rfl (pc0 := 121) (pc' := 128) rfl (hb hby at_121) rfl rfl rfl (XT.aa_ne_t (fun q => (own_ne F11 F3 (by decide)) (Value.ref.inj q))) (by decide) (by decide) k) ?_
    show own_Fin _ _ _ _ _ _ _ T102 (mkF m 128 #[.val (.int p1), .val (.ref h0.size), .val (.int (11 : Int32)), .val (.ref s11), .unset, .unset, .unset] [])
    refine own_step (fun _ k => XT.iconstV X102.here hx rfl (0 : Int32) (hb hby at_128) (by decide) k) ?_
    show own_Fin _ _ _ _ _ _ _ T102 (mkF m 129 #[.val (.int p1), .val (.ref h0.size), .val (.int (11 : Int32)), .val (.ref s11), .unset, .unset, .unset] [(.int (0 : Int32))])
    refine own_step (fun _ k => XS.istore X102.here hx rfl (hb hby at_129) rfl (l' := #[.val (.int p1), .val (.ref h0.size), .val (.int (11 : Int32)), .val (.ref s11), .val (.int (0 : Int32)), .unset, .unset]) rfl k) ?_
    show own_Fin _ _ _ _ _ _ _ T102 (mkF m 131 #[.val (.int p1), .val (.ref h0.size), .val (.int (11 : Int32)), .val (.ref s11), .val (.int (0 : Int32)), .unset, .unset] [])
    refine own_step (fun _ k => XS.aloadN X102.here hx rfl (hb hby at_131) rfl rfl k) ?_
    show own_Fin _ _ _ _ _ _ _ T102 (mkF m 132 #[.val (.int p1), .val (.ref h0.size), .val (.int (11 : Int32)), .val (.ref s11), .val (.int (0 : Int32)), .unset, .unset] [(.ref s11)])
    refine own_getS X102 hx hZ hown (hw _ (List.mem_of_getElem? (i := 28) rfl)) e102 (S12.ext E47) (hb hby at_132) ?_
    intro T103 X103 e103
    show own_Fin _ _ _ _ _ _ _ T103 (mkF m 135 #[.val (.int p1), .val (.ref h0.size), .val (.int (11 : Int32)), .val (.ref s11), .val (.int (0 : Int32)), .unset, .unset] [(.ref s12), (.ref s11)])
    refine own_step (fun _ k => XT.acmpYes X103.here hx rfl (pc0 := 135) (pc' := 142) rfl (hb hby at_135) rfl rfl rfl (XT.aa_ne_t (fun q => (own_ne F11 F12 (by decide)) (Value.ref.inj q))) (by decide) (by decide) k) ?_
    show own_Fin _ _ _ _ _ _ _ T103 (mkF m 142 #[.val (.int p1), .val (.ref h0.size), .val (.int (11 : Int32)), .val (.ref s11), .val (.int (0 : Int32)), .unset, .unset] [])
    refine own_step (fun _ k => XT.iconstV X103.here hx rfl (0 : Int32) (hb hby at_142) (by decide) k) ?_
    show own_Fin _ _ _ _ _ _ _ T103 (mkF m 143 #[.val (.int p1), .val (.ref h0.size), .val (.int (11 : Int32)), .val (.ref s11), .val (.int (0 : Int32)), .unset, .unset] [(.int (0 : Int32))])
    refine own_step (fun _ k => XS.istore X103.here hx rfl (hb hby at_143) rfl (l' := #[.val (.int p1), .val (.ref h0.size), .val (.int (11 : Int32)), .val (.ref s11), .val (.int (0 : Int32)), .val (.int (0 : Int32)), .unset]) rfl k) ?_
    show own_Fin _ _ _ _ _ _ _ T103 (mkF m 145 #[.val (.int p1), .val (.ref h0.size), .val (.int (11 : Int32)), .val (.ref s11), .val (.int (0 : Int32)), .val (.int (0 : Int32)), .unset] [])
    refine own_step (fun _ k => XS.iload X103.here hx rfl (hb hby at_145) rfl k) ?_
    show own_Fin _ _ _ _ _ _ _ T103 (mkF m 147 #[.val (.int p1), .val (.ref h0.size), .val (.int (11 : Int32)), .val (.ref s11), .val (.int (0 : Int32)), .val (.int (0 : Int32)), .unset] [(.int (0 : Int32))])
    refine own_step (fun _ k => XS.ifNo X103.here hx rfl (hb hby at_147) rfl (XT.i0_ne_f (by decide)) k) ?_
    show own_Fin _ _ _ _ _ _ _ T103 (mkF m 150 #[.val (.int p1), .val (.ref h0.size), .val (.int (11 : Int32)), .val (.ref s11), .val (.int (0 : Int32)), .val (.int (0 : Int32)), .unset] [])
    refine own_step (fun _ k => XS.iload X103.here hx rfl (hb hby at_150) rfl k) ?_
    show own_Fin _ _ _ _ _ _ _ T103 (mkF m 152 #[.val (.int p1), .val (.ref h0.size), .val (.int (11 : Int32)), .val (.ref s11), .val (.int (0 : Int32)), .val (.int (0 : Int32)), .unset] [(.int (0 : Int32))])
    refine own_step (fun _ k => XS.ifNo X103.here hx rfl (hb hby at_152) rfl (XT.i0_ne_f (by decide)) k) ?_
    show own_Fin _ _ _ _ _ _ _ T103 (mkF m 155 #[.val (.int p1), .val (.ref h0.size), .val (.int (11 : Int32)), .val (.ref s11), .val (.int (0 : Int32)), .val (.int (0 : Int32)), .unset] [])
    refine own_step (fun _ k => XT.iconstV X103.here hx rfl (1 : Int32) (hb hby at_155) (by decide) k) ?_
    show own_Fin _ _ _ _ _ _ _ T103 (mkF m 156 #[.val (.int p1), .val (.ref h0.size), .val (.int (11 : Int32)), .val (.ref s11), .val (.int (0 : Int32)), .val (.int (0 : Int32)), .unset] [(.int (1 : Int32))])
    refine own_step (fun _ k => XS.goto X103.here hx rfl (pc0 := 156) (pc' := 160) rfl (hb hby at_156) (by decide) (by decide) k) ?_
    show own_Fin _ _ _ _ _ _ _ T103 (mkF m 160 #[.val (.int p1), .val (.ref h0.size), .val (.int (11 : Int32)), .val (.ref s11), .val (.int (0 : Int32)), .val (.int (0 : Int32)), .unset] [(.int (1 : Int32))])
    refine own_step (fun _ k => XS.istore X103.here hx rfl (hb hby at_160) rfl (l' := #[.val (.int p1), .val (.ref h0.size), .val (.int (11 : Int32)), .val (.ref s11), .val (.int (0 : Int32)), .val (.int (0 : Int32)), .val (.int (1 : Int32))]) rfl k) ?_
    show own_Fin _ _ _ _ _ _ _ T103 (mkF m 162 #[.val (.int p1), .val (.ref h0.size), .val (.int (11 : Int32)), .val (.ref s11), .val (.int (0 : Int32)), .val (.int (0 : Int32)), .val (.int (1 : Int32))] [])
    refine own_step (fun _ k => XS.aloadN X103.here hx rfl (hb hby at_162) rfl rfl k) ?_
    show own_Fin _ _ _ _ _ _ _ T103 (mkF m 163 #[.val (.int p1), .val (.ref h0.size), .val (.int (11 : Int32)), .val (.ref s11), .val (.int (0 : Int32)), .val (.int (0 : Int32)), .val (.int (1 : Int32))] [(.ref s11)])
    have M := rm1 l Z a0 hw hp47 s11 u2 u1 u2 (G11.ext E47) (SU1.ext E47) (SU2.ext E47)
    rw [if_pos (by simp)] at M
    refine own_callV0 X103 hx hZ (argsL := []) (rest := []) hown (hw _ (List.mem_of_getElem? (i := 31) rfl)) (hw _ (List.mem_of_getElem? (i := 32) rfl)) (hw _ (List.mem_of_getElem? (i := 34) rfl)) (hw _ (List.mem_of_getElem? (i := 33) rfl)) (hw _ (List.mem_of_getElem? (i := 35) rfl)) (hw _ (List.mem_of_getElem? (i := 3) rfl)) (by decide) (E11.ext E47) M e103 0 (Nat.le_of_eq rfl) (by decide) (by decide) (by decide) (by decide) (by rw [hml]; rfl) pd___Z rfl rfl (hb hby at_163) ?_
    intro T104 X104 e104
    show own_Fin _ _ _ _ _ _ _ T104 (mkF m 166 #[.val (.int p1), .val (.ref h0.size), .val (.int (11 : Int32)), .val (.ref s11), .val (.int (0 : Int32)), .val (.int (0 : Int32)), .val (.int (1 : Int32))] [(.int (1 : Int32))])
    refine own_step (fun _ k => XS.iload X104.here hx rfl (hb hby at_166) rfl k) ?_
    show own_Fin _ _ _ _ _ _ _ T104 (mkF m 168 #[.val (.int p1), .val (.ref h0.size), .val (.int (11 : Int32)), .val (.ref s11), .val (.int (0 : Int32)), .val (.int (0 : Int32)), .val (.int (1 : Int32))] [(.int (1 : Int32)), (.int (1 : Int32))])
    refine own_step (fun _ k => XS.icmpNo X104.here hx rfl (hb hby at_168) rfl (XT.ii_ne_f (by decide)) k) ?_
    show own_Fin _ _ _ _ _ _ _ T104 (mkF m 171 #[.val (.int p1), .val (.ref h0.size), .val (.int (11 : Int32)), .val (.ref s11), .val (.int (0 : Int32)), .val (.int (0 : Int32)), .val (.int (1 : Int32))] [])
    refine own_step (fun _ k => XT.iconstV X104.here hx rfl (1 : Int32) (hb hby at_171) (by decide) k) ?_
    show own_Fin _ _ _ _ _ _ _ T104 (mkF m 172 #[.val (.int p1), .val (.ref h0.size), .val (.int (11 : Int32)), .val (.ref s11), .val (.int (0 : Int32)), .val (.int (0 : Int32)), .val (.int (1 : Int32))] [(.int (1 : Int32))])
    refine own_step (fun _ k => XS.goto X104.here hx rfl (pc0 := 172) (pc' := 176) rfl (hb hby at_172) (by decide) (by decide) k) ?_
    show own_Fin _ _ _ _ _ _ _ T104 (mkF m 176 #[.val (.int p1), .val (.ref h0.size), .val (.int (11 : Int32)), .val (.ref s11), .val (.int (0 : Int32)), .val (.int (0 : Int32)), .val (.int (1 : Int32))] [(.int (1 : Int32))])
    exact own_retZ X104 hx hrt hlk (hb hby at_176) (Or.inr rfl) ⟨rfl, N47⟩ (by decide) (by decide)
  · rw [q]
    show own_Fin _ _ _ _ _ _ _ T47 (mkF m 98 #[.val (.int p1), .val (.ref h0.size), .unset, .unset, .unset, .unset, .unset] [(.int (12 : Int32))])
    refine own_step (fun _ k => XS.istoreN X47.here hx rfl (hb hby at_98) rfl (l' := #[.val (.int p1), .val (.ref h0.size), .val (.int (12 : Int32)), .unset, .unset, .unset, .unset]) rfl k) ?_
    show own_Fin _ _ _ _ _ _ _ T47 (mkF m 99 #[.val (.int p1), .val (.ref h0.size), .val (.int (12 : Int32)), .unset, .unset, .unset, .unset] [])
    refine own_step (fun _ k => XS.aloadN X47.here hx rfl (hb hby at_99) rfl rfl k) ?_
    show own_Fin _ _ _ _ _ _ _ T47 (mkF m 100 #[.val (.int p1), .val (.ref h0.size), .val (.int (12 : Int32)), .unset, .unset, .unset, .unset] [(.ref h0.size)])
    refine own_step (fun _ k => XS.iloadN X47.here hx rfl (hb hby at_100) rfl k) ?_
    show own_Fin _ _ _ _ _ _ _ T47 (mkF m 101 #[.val (.int p1), .val (.ref h0.size), .val (.int (12 : Int32)), .unset, .unset, .unset, .unset] [(.int (12 : Int32)), (.ref h0.size)])
    refine own_ald X47 hx hZ e47 A47 rfl (v := (.ref s12)) 12 (by decide) (by decide) (by rw [z47]; rfl) (hb hby at_101) ?_
    show own_Fin _ _ _ _ _ _ _ T47 (mkF m 102 #[.val (.int p1), .val (.ref h0.size), .val (.int (12 : Int32)), .unset, .unset, .unset, .unset] [(.ref s12)])
    refine own_step (fun _ k => XS.astoreN X47.here hx rfl (hb hby at_102) rfl rfl (l' := #[.val (.int p1), .val (.ref h0.size), .val (.int (12 : Int32)), .val (.ref s12), .unset, .unset, .unset]) rfl k) ?_
    show own_Fin _ _ _ _ _ _ _ T47 (mkF m 103 #[.val (.int p1), .val (.ref h0.size), .val (.int (12 : Int32)), .val (.ref s12), .unset, .unset, .unset] [])
    refine own_step (fun _ k => XS.aloadN X47.here hx rfl (hb hby at_103) rfl rfl k) ?_
    show own_Fin _ _ _ _ _ _ _ T47 (mkF m 104 #[.val (.int p1), .val (.ref h0.size), .val (.int (12 : Int32)), .val (.ref s12), .unset, .unset, .unset] [(.ref s12)])
    refine own_getS X47 hx hZ hown (hw _ (List.mem_of_getElem? (i := 2) rfl)) e47 (S0.ext E47) (hb hby at_104) ?_
    intro T105 X105 e105
    show own_Fin _ _ _ _ _ _ _ T105 (mkF m 107 #[.val (.int p1), .val (.ref h0.size), .val (.int (12 : Int32)), .val (.ref s12), .unset, .unset, .unset] [(.ref s0), (.ref s12)])
    refine own_step (fun _ k => XT.acmpNo X105.here hx rfl (hb hby at_107) rfl rfl rfl (XT.aa_eq_f (fun q => (own_ne F12 F0 (by decide)) (Value.ref.inj q))) k) ?_
    show own_Fin _ _ _ _ _ _ _ T105 (mkF m 110 #[.val (.int p1), .val (.ref h0.size), .val (.int (12 : Int32)), .val (.ref s12), .unset, .unset, .unset] [])
    refine own_step (fun _ k => XS.aloadN X105.here hx rfl (hb hby at_110) rfl rfl k) ?_
    show own_Fin _ _ _ _ _ _ _ T105 (mkF m 111 #[.val (.int p1), .val (.ref h0.size), .val (.int (12 : Int32)), .val (.ref s12), .unset, .unset, .unset] [(.ref s12)])
    refine own_getS X105 hx hZ hown (hw _ (List.mem_of_getElem? (i := 6) rfl)) e105 (S1.ext E47) (hb hby at_111) ?_
    intro T106 X106 e106
    show own_Fin _ _ _ _ _ _ _ T106 (mkF m 114 #[.val (.int p1), .val (.ref h0.size), .val (.int (12 : Int32)), .val (.ref s12), .unset, .unset, .unset] [(.ref s1), (.ref s12)])
    refine own_step (fun _ k => XT.acmpNo X106.here hx rfl (hb hby at_114) rfl rfl rfl (XT.aa_eq_f (fun q => (own_ne F12 F1 (by decide)) (Value.ref.inj q))) k) ?_
    show own_Fin _ _ _ _ _ _ _ T106 (mkF m 117 #[.val (.int p1), .val (.ref h0.size), .val (.int (12 : Int32)), .val (.ref s12), .unset, .unset, .unset] [])
    refine own_step (fun _ k => XS.aloadN X106.here hx rfl (hb hby at_117) rfl rfl k) ?_
    show own_Fin _ _ _ _ _ _ _ T106 (mkF m 118 #[.val (.int p1), .val (.ref h0.size), .val (.int (12 : Int32)), .val (.ref s12), .unset, .unset, .unset] [(.ref s12)])
    refine own_getS X106 hx hZ hown (hw _ (List.mem_of_getElem? (i := 10) rfl)) e106 (S3.ext E47) (hb hby at_118) ?_
    intro T107 X107 e107
    show own_Fin _ _ _ _ _ _ _ T107 (mkF m 121 #[.val (.int p1), .val (.ref h0.size), .val (.int (12 : Int32)), .val (.ref s12), .unset, .unset, .unset] [(.ref s3), (.ref s12)])
    refine own_step (fun _ k => XT.acmpYes X107.here hx rfl (pc0 := 121) (pc' := 128) rfl (hb hby at_121) rfl rfl rfl (XT.aa_ne_t (fun q => (own_ne F12 F3 (by decide)) (Value.ref.inj q))) (by decide) (by decide) k) ?_
    show own_Fin _ _ _ _ _ _ _ T107 (mkF m 128 #[.val (.int p1), .val (.ref h0.size), .val (.int (12 : Int32)), .val (.ref s12), .unset, .unset, .unset] [])
    refine own_step (fun _ k => XT.iconstV X107.here hx rfl (0 : Int32) (hb hby at_128) (by decide) k) ?_
    show own_Fin _ _ _ _ _ _ _ T107 (mkF m 129 #[.val (.int p1), .val (.ref h0.size), .val (.int (12 : Int32)), .val (.ref s12), .unset, .unset, .unset] [(.int (0 : Int32))])
    refine own_step (fun _ k => XS.istore X107.here hx rfl (hb hby at_129) rfl (l' := #[.val (.int p1), .val (.ref h0.size), .val (.int (12 : Int32)), .val (.ref s12), .val (.int (0 : Int32)), .unset, .unset]) rfl k) ?_
    show own_Fin _ _ _ _ _ _ _ T107 (mkF m 131 #[.val (.int p1), .val (.ref h0.size), .val (.int (12 : Int32)), .val (.ref s12), .val (.int (0 : Int32)), .unset, .unset] [])
    refine own_step (fun _ k => XS.aloadN X107.here hx rfl (hb hby at_131) rfl rfl k) ?_
    show own_Fin _ _ _ _ _ _ _ T107 (mkF m 132 #[.val (.int p1), .val (.ref h0.size), .val (.int (12 : Int32)), .val (.ref s12), .val (.int (0 : Int32)), .unset, .unset] [(.ref s12)])
    refine own_getS X107 hx hZ hown (hw _ (List.mem_of_getElem? (i := 28) rfl)) e107 (S12.ext E47) (hb hby at_132) ?_
    intro T108 X108 e108
    show own_Fin _ _ _ _ _ _ _ T108 (mkF m 135 #[.val (.int p1), .val (.ref h0.size), .val (.int (12 : Int32)), .val (.ref s12), .val (.int (0 : Int32)), .unset, .unset] [(.ref s12), (.ref s12)])
    refine own_step (fun _ k => XT.acmpNo X108.here hx rfl (hb hby at_135) rfl rfl rfl (XT.aa_ne_f (congrArg Value.ref rfl)) k) ?_
    show own_Fin _ _ _ _ _ _ _ T108 (mkF m 138 #[.val (.int p1), .val (.ref h0.size), .val (.int (12 : Int32)), .val (.ref s12), .val (.int (0 : Int32)), .unset, .unset] [])
    refine own_step (fun _ k => XT.iconstV X108.here hx rfl (1 : Int32) (hb hby at_138) (by decide) k) ?_
    show own_Fin _ _ _ _ _ _ _ T108 (mkF m 139 #[.val (.int p1), .val (.ref h0.size), .val (.int (12 : Int32)), .val (.ref s12), .val (.int (0 : Int32)), .unset, .unset] [(.int (1 : Int32))])
    refine own_step (fun _ k => XS.goto X108.here hx rfl (pc0 := 139) (pc' := 143) rfl (hb hby at_139) (by decide) (by decide) k) ?_
    show own_Fin _ _ _ _ _ _ _ T108 (mkF m 143 #[.val (.int p1), .val (.ref h0.size), .val (.int (12 : Int32)), .val (.ref s12), .val (.int (0 : Int32)), .unset, .unset] [(.int (1 : Int32))])
    refine own_step (fun _ k => XS.istore X108.here hx rfl (hb hby at_143) rfl (l' := #[.val (.int p1), .val (.ref h0.size), .val (.int (12 : Int32)), .val (.ref s12), .val (.int (0 : Int32)), .val (.int (1 : Int32)), .unset]) rfl k) ?_
    show own_Fin _ _ _ _ _ _ _ T108 (mkF m 145 #[.val (.int p1), .val (.ref h0.size), .val (.int (12 : Int32)), .val (.ref s12), .val (.int (0 : Int32)), .val (.int (1 : Int32)), .unset] [])
    refine own_step (fun _ k => XS.iload X108.here hx rfl (hb hby at_145) rfl k) ?_
    show own_Fin _ _ _ _ _ _ _ T108 (mkF m 147 #[.val (.int p1), .val (.ref h0.size), .val (.int (12 : Int32)), .val (.ref s12), .val (.int (0 : Int32)), .val (.int (1 : Int32)), .unset] [(.int (0 : Int32))])
    refine own_step (fun _ k => XS.ifNo X108.here hx rfl (hb hby at_147) rfl (XT.i0_ne_f (by decide)) k) ?_
    show own_Fin _ _ _ _ _ _ _ T108 (mkF m 150 #[.val (.int p1), .val (.ref h0.size), .val (.int (12 : Int32)), .val (.ref s12), .val (.int (0 : Int32)), .val (.int (1 : Int32)), .unset] [])
    refine own_step (fun _ k => XS.iload X108.here hx rfl (hb hby at_150) rfl k) ?_
    show own_Fin _ _ _ _ _ _ _ T108 (mkF m 152 #[.val (.int p1), .val (.ref h0.size), .val (.int (12 : Int32)), .val (.ref s12), .val (.int (0 : Int32)), .val (.int (1 : Int32)), .unset] [(.int (1 : Int32))])
    refine own_step (fun _ k => XS.ifYes X108.here hx rfl (pc0 := 152) (pc' := 159) rfl (hb hby at_152) rfl (XT.i0_ne_t (by decide)) (by decide) (by decide) k) ?_
    show own_Fin _ _ _ _ _ _ _ T108 (mkF m 159 #[.val (.int p1), .val (.ref h0.size), .val (.int (12 : Int32)), .val (.ref s12), .val (.int (0 : Int32)), .val (.int (1 : Int32)), .unset] [])
    refine own_step (fun _ k => XT.iconstV X108.here hx rfl (0 : Int32) (hb hby at_159) (by decide) k) ?_
    show own_Fin _ _ _ _ _ _ _ T108 (mkF m 160 #[.val (.int p1), .val (.ref h0.size), .val (.int (12 : Int32)), .val (.ref s12), .val (.int (0 : Int32)), .val (.int (1 : Int32)), .unset] [(.int (0 : Int32))])
    refine own_step (fun _ k => XS.istore X108.here hx rfl (hb hby at_160) rfl (l' := #[.val (.int p1), .val (.ref h0.size), .val (.int (12 : Int32)), .val (.ref s12), .val (.int (0 : Int32)), .val (.int (1 : Int32)), .val (.int (0 : Int32))]) rfl k) ?_
    show own_Fin _ _ _ _ _ _ _ T108 (mkF m 162 #[.val (.int p1), .val (.ref h0.size), .val (.int (12 : Int32)), .val (.ref s12), .val (.int (0 : Int32)), .val (.int (1 : Int32)), .val (.int (0 : Int32))] [])
    refine own_step (fun _ k => XS.aloadN X108.here hx rfl (hb hby at_162) rfl rfl k) ?_
    show own_Fin _ _ _ _ _ _ _ T108 (mkF m 163 #[.val (.int p1), .val (.ref h0.size), .val (.int (12 : Int32)), .val (.ref s12), .val (.int (0 : Int32)), .val (.int (1 : Int32)), .val (.int (0 : Int32))] [(.ref s12)])
    have M := rm1 l Z a0 hw hp47 s12 u3 u1 u2 (G12.ext E47) (SU1.ext E47) (SU2.ext E47)
    rw [if_neg (by simp [own_ne FU3 FU1 (by decide), own_ne FU3 FU2 (by decide)])] at M
    refine own_callV0 X108 hx hZ (argsL := []) (rest := []) hown (hw _ (List.mem_of_getElem? (i := 31) rfl)) (hw _ (List.mem_of_getElem? (i := 32) rfl)) (hw _ (List.mem_of_getElem? (i := 34) rfl)) (hw _ (List.mem_of_getElem? (i := 33) rfl)) (hw _ (List.mem_of_getElem? (i := 35) rfl)) (hw _ (List.mem_of_getElem? (i := 3) rfl)) (by decide) (E12.ext E47) M e108 0 (Nat.le_of_eq rfl) (by decide) (by decide) (by decide) (by decide) (by rw [hml]; rfl) pd___Z rfl rfl (hb hby at_163) ?_
    intro T109 X109 e109
    show own_Fin _ _ _ _ _ _ _ T109 (mkF m 166 #[.val (.int p1), .val (.ref h0.size), .val (.int (12 : Int32)), .val (.ref s12), .val (.int (0 : Int32)), .val (.int (1 : Int32)), .val (.int (0 : Int32))] [(.int (0 : Int32))])
    refine own_step (fun _ k => XS.iload X109.here hx rfl (hb hby at_166) rfl k) ?_
    show own_Fin _ _ _ _ _ _ _ T109 (mkF m 168 #[.val (.int p1), .val (.ref h0.size), .val (.int (12 : Int32)), .val (.ref s12), .val (.int (0 : Int32)), .val (.int (1 : Int32)), .val (.int (0 : Int32))] [(.int (0 : Int32)), (.int (0 : Int32))])
    refine own_step (fun _ k => XS.icmpNo X109.here hx rfl (hb hby at_168) rfl (XT.ii_ne_f (by decide)) k) ?_
    show own_Fin _ _ _ _ _ _ _ T109 (mkF m 171 #[.val (.int p1), .val (.ref h0.size), .val (.int (12 : Int32)), .val (.ref s12), .val (.int (0 : Int32)), .val (.int (1 : Int32)), .val (.int (0 : Int32))] [])
    refine own_step (fun _ k => XT.iconstV X109.here hx rfl (1 : Int32) (hb hby at_171) (by decide) k) ?_
    show own_Fin _ _ _ _ _ _ _ T109 (mkF m 172 #[.val (.int p1), .val (.ref h0.size), .val (.int (12 : Int32)), .val (.ref s12), .val (.int (0 : Int32)), .val (.int (1 : Int32)), .val (.int (0 : Int32))] [(.int (1 : Int32))])
    refine own_step (fun _ k => XS.goto X109.here hx rfl (pc0 := 172) (pc' := 176) rfl (hb hby at_172) (by decide) (by decide) k) ?_
    show own_Fin _ _ _ _ _ _ _ T109 (mkF m 176 #[.val (.int p1), .val (.ref h0.size), .val (.int (12 : Int32)), .val (.ref s12), .val (.int (0 : Int32)), .val (.int (1 : Int32)), .val (.int (0 : Int32))] [(.int (1 : Int32))])
    exact own_retZ X109 hx hrt hlk (hb hby at_176) (Or.inr rfl) ⟨rfl, N47⟩ (by decide) (by decide)
set_option maxRecDepth 65536 in
set_option maxHeartbeats 40000000 in
theorem comes_1 {Post : Tables → Env → Array Value → State → Outcome → State → Prop} (hpost : ∀ tb e args s v u, (limb_1_1.after args s (.returned v) u = true ∧ limb_1_2.after args s (.returned v) u = true ∧ True) → FrameEnd s (.returned v) u (Jvm.fieldLocs frame_1_writes args s ++ Jvm.arrayLocs frame_1_arrays args s ++ Jvm.staticLocs frame_1_statics s) 16 128 → Post tb e args s (.returned v) u) :
    ArmFor flags0 classFile x code maxLocals ret World_1 tables_1 room_1 Calls_1 rest_1 Pre_1 Post := by
  intro l hfl _ _ p e ha hc hk s m args below hf hA hF happ hP
  obtain ⟨hcalls, hrest, hpre⟩ := hP
  obtain ⟨-, -, -, hnamed, -, -, -, hat⟩ := (Spec.applies_iff hf).mp happ
  obtain ⟨hg, hn⟩ := and_e (Cond.before_iff.mp (show (Jvm.Cond.and given_1 narrow_1).before args s = true from hpre))
  obtain ⟨hg0, hg1⟩ := and_e hg
  obtain ⟨w0, rfl⟩ : ∃ w0 : Value, args = #[w0] := by
    have hs : args.size = 1 := by simpa [Cond.value, given_1] using hg0
    obtain ⟨L⟩ := args
    match L, hs with
    | [w0], _ => exact ⟨w0, rfl⟩
  have hw := fun d (hd : d ∈ tables_1) => atoms_spec (ws := Jvm.Cond.code x code maxLocals ret :: tables_1) hat d (List.mem_cons_of_mem _ hd)
  have hfit : Fit s := fun {y c} hc i hi => by
    obtain ⟨ha, rfl⟩ := Array.getElem?_eq_some_iff.mp hc
    have q := List.all_eq_true.mp ((Array.all_eq_true_iff_forall_mem.mp hF) _ (Array.getElem_mem ha)) i (List.mem_range.mpr hi)
    simpa [Array.getElem?_eq_getElem hi] using q
  obtain ⟨i0, ei0⟩ := is_v hg1
  obtain rfl : w0 = (.int i0) := Option.some.inj ei0
  obtain ⟨c0, hn1⟩ := and_e hn
  obtain ⟨c1, hn2⟩ := and_e hn1
  obtain ⟨c2, hn3⟩ := and_e hn2
  obtain ⟨c3, hn4⟩ := and_e hn3
  obtain ⟨c4, hn5⟩ := and_e hn4
  obtain ⟨c5, hn6⟩ := and_e hn5
  obtain ⟨c6, hn7⟩ := and_e hn6
  obtain ⟨c7, hn8⟩ := and_e hn7
  obtain ⟨c8, hn9⟩ := and_e hn8
  obtain ⟨c9, hn10⟩ := and_e hn9
  obtain ⟨c10, hn11⟩ := and_e hn10
  obtain ⟨c11, hn12⟩ := and_e hn11
  obtain ⟨c12, hn13⟩ := and_e hn12
  obtain ⟨c13, hn14⟩ := and_e hn13
  obtain ⟨c14, hn15⟩ := and_e hn14
  obtain ⟨c15, hn16⟩ := and_e hn15
  obtain ⟨c16, hn17⟩ := and_e hn16
  obtain ⟨c17, hn18⟩ := and_e hn17
  obtain ⟨c18, hn19⟩ := and_e hn18
  obtain ⟨c19, hn20⟩ := and_e hn19
  obtain ⟨c20, hn21⟩ := and_e hn20
  obtain ⟨c21, hn22⟩ := and_e hn21
  obtain ⟨c22, hn23⟩ := and_e hn22
  obtain ⟨c23, hn24⟩ := and_e hn23
  obtain ⟨c24, hn25⟩ := and_e hn24
  obtain ⟨c25, hn26⟩ := and_e hn25
  obtain ⟨c26, hn27⟩ := and_e hn26
  obtain ⟨c27, hn28⟩ := and_e hn27
  obtain ⟨c28, hn29⟩ := and_e hn28
  obtain ⟨c29, hn30⟩ := and_e hn29
  obtain ⟨c30, hn31⟩ := and_e hn30
  obtain ⟨c31, hn32⟩ := and_e hn31
  obtain ⟨c32, hn33⟩ := and_e hn32
  obtain ⟨c33, hn34⟩ := and_e hn33
  obtain ⟨c34, hn35⟩ := and_e hn34
  obtain ⟨c35, hn36⟩ := and_e hn35
  obtain ⟨c36, hn37⟩ := and_e hn36
  obtain ⟨c37, hn38⟩ := and_e hn37
  obtain ⟨c38, hn39⟩ := and_e hn38
  obtain ⟨c39, hn40⟩ := and_e hn39
  obtain ⟨c40, hn41⟩ := and_e hn40
  obtain ⟨c41, hn42⟩ := and_e hn41
  obtain ⟨c42, hn43⟩ := and_e hn42
  obtain ⟨c43, hn44⟩ := and_e hn43
  obtain ⟨c44, hn45⟩ := and_e hn44
  obtain ⟨c45, hn46⟩ := and_e hn45
  have c46 := hn46
  obtain ⟨u0, vu0⟩ := exa_v c15
  have SU0 := Sta.start vu0 (Or.inr ⟨(hw _ (List.mem_of_getElem? (i := 38) rfl)), (hw _ (List.mem_of_getElem? (i := 39) rfl))⟩)
  have FU0 := own_fldw vu0 c18
  obtain ⟨u1, vu1⟩ := exa_v c17
  have SU1 := Sta.start vu1 (Or.inr ⟨(hw _ (List.mem_of_getElem? (i := 38) rfl)), (hw _ (List.mem_of_getElem? (i := 41) rfl))⟩)
  have FU1 := own_fldw vu1 c19
  obtain ⟨u2, vu2⟩ := exa_v c20
  have SU2 := Sta.start vu2 (Or.inr ⟨(hw _ (List.mem_of_getElem? (i := 38) rfl)), (hw _ (List.mem_of_getElem? (i := 43) rfl))⟩)
  have FU2 := own_fldw vu2 c21
  obtain ⟨u3, vu3⟩ := exa_v c42
  have SU3 := Sta.start vu3 (Or.inr ⟨(hw _ (List.mem_of_getElem? (i := 38) rfl)), (hw _ (List.mem_of_getElem? (i := 44) rfl))⟩)
  have FU3 := own_fldw vu3 c44
  obtain ⟨s0, v0⟩ := exa_v c0
  have S0 := Sta.start v0 (Or.inr ⟨(hw _ (List.mem_of_getElem? (i := 3) rfl)), (hw _ (List.mem_of_getElem? (i := 4) rfl))⟩)
  have E0 := Exa.start v0 c0
  have F0 := own_fldw v0 c13
  have G0 := own_fldref v0 vu0 c16
  obtain ⟨s1, v1⟩ := exa_v c1
  have S1 := Sta.start v1 (Or.inr ⟨(hw _ (List.mem_of_getElem? (i := 3) rfl)), (hw _ (List.mem_of_getElem? (i := 7) rfl))⟩)
  have E1 := Exa.start v1 c1
  have F1 := own_fldw v1 c23
  have G1 := own_fldref v1 vu0 c37
  obtain ⟨s2, v2⟩ := exa_v c2
  have S2 := Sta.start v2 (Or.inr ⟨(hw _ (List.mem_of_getElem? (i := 3) rfl)), (hw _ (List.mem_of_getElem? (i := 9) rfl))⟩)
  have E2 := Exa.start v2 c2
  have F2 := own_fldw v2 c33
  have G2 := own_fldref v2 vu2 c34
  obtain ⟨s3, v3⟩ := exa_v c3
  have S3 := Sta.start v3 (Or.inr ⟨(hw _ (List.mem_of_getElem? (i := 3) rfl)), (hw _ (List.mem_of_getElem? (i := 11) rfl))⟩)
  have E3 := Exa.start v3 c3
  have F3 := own_fldw v3 c22
  have G3 := own_fldref v3 vu0 c24
  obtain ⟨s4, v4⟩ := exa_v c4
  have S4 := Sta.start v4 (Or.inr ⟨(hw _ (List.mem_of_getElem? (i := 3) rfl)), (hw _ (List.mem_of_getElem? (i := 13) rfl))⟩)
  have E4 := Exa.start v4 c4
  have F4 := own_fldw v4 c45
  have G4 := own_fldref v4 vu1 c46
  obtain ⟨s5, v5⟩ := exa_v c5
  have S5 := Sta.start v5 (Or.inr ⟨(hw _ (List.mem_of_getElem? (i := 3) rfl)), (hw _ (List.mem_of_getElem? (i := 15) rfl))⟩)
  have E5 := Exa.start v5 c5
  have F5 := own_fldw v5 c27
  have G5 := own_fldref v5 vu1 c28
  obtain ⟨s6, v6⟩ := exa_v c6
  have S6 := Sta.start v6 (Or.inr ⟨(hw _ (List.mem_of_getElem? (i := 3) rfl)), (hw _ (List.mem_of_getElem? (i := 17) rfl))⟩)
  have E6 := Exa.start v6 c6
  have F6 := own_fldw v6 c25
  have G6 := own_fldref v6 vu1 c26
  obtain ⟨s7, v7⟩ := exa_v c7
  have S7 := Sta.start v7 (Or.inr ⟨(hw _ (List.mem_of_getElem? (i := 3) rfl)), (hw _ (List.mem_of_getElem? (i := 19) rfl))⟩)
  have E7 := Exa.start v7 c7
  have F7 := own_fldw v7 c29
  have G7 := own_fldref v7 vu1 c30
  obtain ⟨s8, v8⟩ := exa_v c8
  have S8 := Sta.start v8 (Or.inr ⟨(hw _ (List.mem_of_getElem? (i := 3) rfl)), (hw _ (List.mem_of_getElem? (i := 21) rfl))⟩)
  have E8 := Exa.start v8 c8
  have F8 := own_fldw v8 c38
  have G8 := own_fldref v8 vu2 c39
  obtain ⟨s9, v9⟩ := exa_v c9
  have S9 := Sta.start v9 (Or.inr ⟨(hw _ (List.mem_of_getElem? (i := 3) rfl)), (hw _ (List.mem_of_getElem? (i := 23) rfl))⟩)
  have E9 := Exa.start v9 c9
  have F9 := own_fldw v9 c31
  have G9 := own_fldref v9 vu2 c32
  obtain ⟨s10, v10⟩ := exa_v c10
  have S10 := Sta.start v10 (Or.inr ⟨(hw _ (List.mem_of_getElem? (i := 3) rfl)), (hw _ (List.mem_of_getElem? (i := 25) rfl))⟩)
  have E10 := Exa.start v10 c10
  have F10 := own_fldw v10 c40
  have G10 := own_fldref v10 vu2 c41
  obtain ⟨s11, v11⟩ := exa_v c11
  have S11 := Sta.start v11 (Or.inr ⟨(hw _ (List.mem_of_getElem? (i := 3) rfl)), (hw _ (List.mem_of_getElem? (i := 27) rfl))⟩)
  have E11 := Exa.start v11 c11
  have F11 := own_fldw v11 c35
  have G11 := own_fldref v11 vu2 c36
  obtain ⟨s12, v12⟩ := exa_v c12
  have S12 := Sta.start v12 (Or.inr ⟨(hw _ (List.mem_of_getElem? (i := 3) rfl)), (hw _ (List.mem_of_getElem? (i := 29) rfl))⟩)
  have E12 := Exa.start v12 c12
  have F12 := own_fldw v12 c14
  have G12 := own_fldref v12 vu3 c43
  obtain ⟨n, o, r1, r2, r3, _, L, rfl, ⟨rfl, hq0⟩, hq⟩ := rm0 l s _ hw tables_1 s.heap i0 s0 s1 s2 s3 s4 s5 s6 s7 s8 s9 s10 s11 s12 u0 u1 u2 u3 S0 E0 F0 G0 S1 E1 F1 G1 S2 E2 F2 G2 S3 E3 F3 G3 S4 E4 F4 G4 S5 E5 F5 G5 S6 E6 F6 G6 S7 E7 F7 G7 S8 E8 F8 G8 S9 E9 F9 G9 S10 E10 F10 G10 S11 E11 F11 G11 S12 E12 F12 G12 SU1 SU2 FU0 FU1 FU2 FU3 p e ha hc hk s m _ below hf ((Spec.applies_iff_loose hf).mp happ).1 ⟨rfl, State.Warmed39.refl s, rfl⟩ trivial
  refine ⟨n, _, r1, r2, r3, hpost _ _ _ _ _ _ ⟨Cond.after_iff.mpr rfl, Cond.after_iff.mpr (eq_i res_at (Term.int_eval (1)) rfl), trivial⟩ ⟨hq.1, hq.2.1, (hq.2.2.sift fun y hy => Or.inr (hq0 y hy)).mono (by decide) (by decide)⟩⟩
theorem main_1_1 : Claimed_1_1 := comes_1 fun _ _ _ _ _ _ h hF => ⟨h.1, hF⟩
theorem main_1_2 : Claimed_1_2 := comes_1 fun _ _ _ _ _ _ h hF => ⟨h.2.1, hF⟩
end Jvm.Pilot.@@N@@
namespace Jvm.Pilot.@@N@@
open Jvm Jvm.ClassFile Sem Op Lib Jvm.Free Jvm.Stand Jvm.Pilot.@@N@@.Jvm.D
/-! MADE BY PROGRAM (witnessworld.py) out of the Statement's table words and the real class files: 14 classes; the members and pool entries that the words name. The judged class is class 1, her method 1. -/
namespace start1
open Jvm.ClassFile
def u (s : String) : CpInfo := .utf8 (stringToUtf16 s)
/-- a pool by its gaps: so many unusable entries, then the entry; so many at the end -/
def gap : Nat → List CpInfo → List CpInfo
  | 0, r => r
  | n + 1, r => .unusable :: gap n r
def poolList (es : List (Nat × CpInfo)) (last : Nat) : List CpInfo := es.foldr (fun e r => gap e.1 (e.2 :: r)) (gap last [])
def pool (es : List (Nat × CpInfo)) (last : Nat) : Array CpInfo := ⟨poolList es last⟩
def fileOf (pool : Array CpInfo) (this : Nat) (attrs : Array Attribute := #[]) (ms : Array MethodInfo := #[]) (fl : Nat := 33) (sup : Nat := 0) (ifs : Array Nat := #[]) (fds : Array FieldInfo := #[]) : ClassFile where
  minorVersion := 0
  majorVersion := 65
  constantPool := pool
  accessFlags := fl
  thisClass := this
  superClass := sup
  interfaces := ifs
  fields := fds
  methods := ms
  attributes := attrs
def plain (name : String) (sup : Option ClassId) : Class where
  name := name
  kind := .ordinary
  loader := none
  accessFlags := 33
  super := sup
  interfaces := #[]
  cf := none
  fields := #[]
  methods := #[]
  instanceTypes := #[]
  staticTypes := #[]
  resolved := #[]
  callSites := []
  init := .initialized
  statics := none
  mirror := none

def pool0 : Array CpInfo := pool [(5, u "<init>"), (0, u "()V"), (1, .class_ 10), (1, u "java/lang/Object")] 113

def k0m0 : Method := { name := "<init>", desc := "()V", sig := { parameters := [], returnType := none }, accessFlags := 1, code := none }
/-- java/lang/Object -/
def k0 : Class := { plain "java/lang/Object" none with
  accessFlags := 33
  interfaces := #[]
  cf := some (fileOf pool0 8 #[] #[{ accessFlags := 1, nameIndex := 5, descriptorIndex := 6, attributes := #[] }] 33 0 #[] #[])
  fields := #[]
  methods := #[k0m0]
  instanceTypes := #[]
  staticTypes := #[]
  resolved := Array.replicate 124 none
  statics := none }

def pool1 : Array CpInfo := pool [(2, .class_ 4), (1, u "java/lang/Object"), (0, u "<init>"), (0, u "()V"), (0, .class_ 8), (0, u "com/example/kleave/kleave/msms/Term"), (0, .fieldref 7 10), (0, .nameAndType 11 12), (0, u "INTENSITY"), (0, u "Lcom/example/kleave/kleave/msms/Term;"), (0, .fieldref 7 14), (0, .nameAndType 15 12), (0, u "MASS_ERROR"), (0, .fieldref 7 17), (0, .nameAndType 18 12), (0, u "EXPLANATION"), (0, .fieldref 7 20), (0, .nameAndType 21 12), (0, u "LOSS_MASS"), (0, .fieldref 7 23), (0, .nameAndType 24 12), (0, u "COMMON_LOSS"), (0, .fieldref 7 26), (0, .nameAndType 27 12), (0, u "RADICAL_LOSS"), (0, .fieldref 7 29), (0, .nameAndType 30 12), (0, u "ENERGY"), (0, .fieldref 7 32), (0, .nameAndType 33 12), (0, u "HETERO_RATIO"), (0, .fieldref 7 35), (0, .nameAndType 36 12), (0, u "ELEMENTS"), (0, .fieldref 7 38), (0, .nameAndType 39 12), (0, u "HC_BOUND"), (0, .fieldref 7 41), (0, .nameAndType 42 12), (0, u "ISOTOPES"), (0, .fieldref 7 44), (0, .nameAndType 45 12), (0, u "HC_RATIO"), (0, .fieldref 7 47), (0, .nameAndType 48 12), (0, u "BOUNDS"), (0, .integer 2147483647), (0, .methodref 7 51), (0, .nameAndType 52 53), (0, u "isSwitchable"), (0, u "()Z"), (0, .class_ 55), (0, u "com/example/kleave/kleave/msms/TermIsSwitchablePinLaw"), (2, u "law"), (0, u "(I)Z")] 5

def k1m0 : Method := { name := "<init>", desc := "()V", sig := { parameters := [], returnType := none }, accessFlags := 2, code := none }
def k1c1 : Code := { maxStack := 4, maxLocals := 7, code := code, exceptionTable := #[], attributes := #[] }
def k1m1 : Method := { name := "law", desc := "(I)Z", sig := { parameters := [.int], returnType := some .boolean }, accessFlags := 9, code := some k1c1 }
/-- com/example/kleave/kleave/msms/TermIsSwitchablePinLaw -/
def k1 : Class := { plain "com/example/kleave/kleave/msms/TermIsSwitchablePinLaw" (some 0) with
  accessFlags := 49
  interfaces := #[]
  cf := some (fileOf pool1 54 #[] #[{ accessFlags := 2, nameIndex := 5, descriptorIndex := 6, attributes := #[] }, { accessFlags := 9, nameIndex := 58, descriptorIndex := 59, attributes := #[] }] 49 2 #[] #[])
  fields := #[]
  methods := #[k1m0, k1m1]
  instanceTypes := #[]
  staticTypes := #[]
  resolved := Array.replicate 65 none
  statics := none }

def pool2 : Array CpInfo := pool [(1, .class_ 2), (0, u "java/lang/constant/Constable"), (0, .class_ 4), (0, u "java/lang/Object")] 6

/-- java/lang/constant/Constable -/
def k2 : Class := { plain "java/lang/constant/Constable" (some 0) with
  accessFlags := 1537
  interfaces := #[]
  cf := some (fileOf pool2 1 #[] #[] 1537 3 #[] #[])
  fields := #[]
  methods := #[]
  instanceTypes := #[]
  staticTypes := #[]
  resolved := Array.replicate 11 none
  statics := none }

def pool3 : Array CpInfo := pool [(1, .class_ 2), (0, u "java/lang/Comparable"), (0, .class_ 4), (0, u "java/lang/Object")] 7

/-- java/lang/Comparable -/
def k3 : Class := { plain "java/lang/Comparable" (some 0) with
  accessFlags := 1537
  interfaces := #[]
  cf := some (fileOf pool3 1 #[] #[] 1537 3 #[] #[])
  fields := #[]
  methods := #[]
  instanceTypes := #[]
  staticTypes := #[]
  resolved := Array.replicate 12 none
  statics := none }

def pool4 : Array CpInfo := pool [(1, .class_ 2), (0, u "java/io/Serializable"), (0, .class_ 4), (0, u "java/lang/Object")] 2

/-- java/io/Serializable -/
def k4 : Class := { plain "java/io/Serializable" (some 0) with
  accessFlags := 1537
  interfaces := #[]
  cf := some (fileOf pool4 1 #[] #[] 1537 3 #[] #[])
  fields := #[]
  methods := #[]
  instanceTypes := #[]
  staticTypes := #[]
  resolved := Array.replicate 7 none
  statics := none }

def pool5 : Array CpInfo := pool [(2, .class_ 4), (1, u "java/lang/Enum"), (0, u "name"), (0, u "Ljava/lang/String;"), (2, u "ordinal"), (0, u "I"), (1, .class_ 14), (1, u "java/lang/Object"), (4, u "hash"), (86, .class_ 108), (1, u "java/lang/Enum$EnumDesc"), (2, .class_ 112), (0, u "java/lang/constant/Constable"), (0, .class_ 114), (0, u "java/lang/Comparable"), (0, .class_ 116), (0, u "java/io/Serializable")] 87

/-- java/lang/Enum -/
def k5 : Class := { plain "java/lang/Enum" (some 0) with
  accessFlags := 1057
  interfaces := #[2, 3, 4]
  cf := some (fileOf pool5 2 #[.nestMembers #[106]] #[] 1057 12 #[111, 113, 115] #[{ accessFlags := 18, nameIndex := 5, descriptorIndex := 6, attributes := #[] }, { accessFlags := 18, nameIndex := 9, descriptorIndex := 10, attributes := #[] }, { accessFlags := 2, nameIndex := 19, descriptorIndex := 10, attributes := #[] }])
  fields := #[{ name := "name", type := (.object "java/lang/String"), accessFlags := 18, slot := 0, constantValue := 0 }, { name := "ordinal", type := .int, accessFlags := 18, slot := 1, constantValue := 0 }, { name := "hash", type := .int, accessFlags := 2, slot := 2, constantValue := 0 }]
  methods := #[]
  instanceTypes := #[(.object "java/lang/String"), .int, .int]
  staticTypes := #[]
  resolved := Array.replicate 204 none
  statics := none }

def pool6 : Array CpInfo := pool [(1, .class_ 2), (0, u "com/example/kleave/kleave/msms/Term"), (2, u "INTENSITY"), (0, u "Lcom/example/kleave/kleave/msms/Term;"), (2, u "MASS_ERROR"), (2, u "EXPLANATION"), (2, u "LOSS_MASS"), (2, u "COMMON_LOSS"), (2, u "RADICAL_LOSS"), (2, u "ENERGY"), (2, u "HETERO_RATIO"), (2, u "ELEMENTS"), (2, u "HC_BOUND"), (2, u "ISOTOPES"), (2, u "HC_RATIO"), (2, u "BOUNDS"), (2, u "$VALUES"), (0, u "[Lcom/example/kleave/kleave/msms/Term;"), (6, .class_ 55), (1, u "java/lang/Enum"), (8, u "label"), (0, u "Ljava/lang/String;"), (2, u "column"), (0, .fieldref 1 70), (0, .nameAndType 71 72), (0, u "use"), (0, u "Lcom/example/kleave/kleave/msms/Term$Use;"), (37, .class_ 112), (1, u "com/example/kleave/kleave/msms/Term$Use"), (1, .fieldref 110 115), (0, .nameAndType 116 72), (0, u "ON"), (0, .fieldref 110 118), (0, .nameAndType 119 72), (0, u "BY_MODEL"), (91, u "isSwitchable"), (0, u "()Z")] 35

def k6c0 : Code := { maxStack := 2, maxLocals := 1, code := prog_63_method_8_code, exceptionTable := #[], attributes := #[] }
def k6m0 : Method := { name := "isSwitchable", desc := "()Z", sig := { parameters := [], returnType := some .boolean }, accessFlags := 1, code := some k6c0 }
/-- com/example/kleave/kleave/msms/Term -/
def k6 : Class := { plain "com/example/kleave/kleave/msms/Term" (some 5) with
  accessFlags := 16433
  interfaces := #[]
  cf := some (fileOf pool6 1 #[.nestMembers #[110]] #[{ accessFlags := 1, nameIndex := 211, descriptorIndex := 212, attributes := #[] }] 16433 53 #[] #[{ accessFlags := 16409, nameIndex := 5, descriptorIndex := 6, attributes := #[] }, { accessFlags := 16409, nameIndex := 9, descriptorIndex := 6, attributes := #[] }, { accessFlags := 16409, nameIndex := 12, descriptorIndex := 6, attributes := #[] }, { accessFlags := 16409, nameIndex := 15, descriptorIndex := 6, attributes := #[] }, { accessFlags := 16409, nameIndex := 18, descriptorIndex := 6, attributes := #[] }, { accessFlags := 16409, nameIndex := 21, descriptorIndex := 6, attributes := #[] }, { accessFlags := 16409, nameIndex := 24, descriptorIndex := 6, attributes := #[] }, { accessFlags := 16409, nameIndex := 27, descriptorIndex := 6, attributes := #[] }, { accessFlags := 16409, nameIndex := 30, descriptorIndex := 6, attributes := #[] }, { accessFlags := 16409, nameIndex := 33, descriptorIndex := 6, attributes := #[] }, { accessFlags := 16409, nameIndex := 36, descriptorIndex := 6, attributes := #[] }, { accessFlags := 16409, nameIndex := 39, descriptorIndex := 6, attributes := #[] }, { accessFlags := 16409, nameIndex := 42, descriptorIndex := 6, attributes := #[] }, { accessFlags := 18, nameIndex := 64, descriptorIndex := 65, attributes := #[] }, { accessFlags := 18, nameIndex := 68, descriptorIndex := 65, attributes := #[] }, { accessFlags := 18, nameIndex := 71, descriptorIndex := 72, attributes := #[] }, { accessFlags := 4122, nameIndex := 45, descriptorIndex := 46, attributes := #[] }])
  fields := #[{ name := "INTENSITY", type := (.object "com/example/kleave/kleave/msms/Term"), accessFlags := 16409, slot := 0, constantValue := 0 }, { name := "MASS_ERROR", type := (.object "com/example/kleave/kleave/msms/Term"), accessFlags := 16409, slot := 1, constantValue := 0 }, { name := "EXPLANATION", type := (.object "com/example/kleave/kleave/msms/Term"), accessFlags := 16409, slot := 2, constantValue := 0 }, { name := "LOSS_MASS", type := (.object "com/example/kleave/kleave/msms/Term"), accessFlags := 16409, slot := 3, constantValue := 0 }, { name := "COMMON_LOSS", type := (.object "com/example/kleave/kleave/msms/Term"), accessFlags := 16409, slot := 4, constantValue := 0 }, { name := "RADICAL_LOSS", type := (.object "com/example/kleave/kleave/msms/Term"), accessFlags := 16409, slot := 5, constantValue := 0 }, { name := "ENERGY", type := (.object "com/example/kleave/kleave/msms/Term"), accessFlags := 16409, slot := 6, constantValue := 0 }, { name := "HETERO_RATIO", type := (.object "com/example/kleave/kleave/msms/Term"), accessFlags := 16409, slot := 7, constantValue := 0 }, { name := "ELEMENTS", type := (.object "com/example/kleave/kleave/msms/Term"), accessFlags := 16409, slot := 8, constantValue := 0 }, { name := "HC_BOUND", type := (.object "com/example/kleave/kleave/msms/Term"), accessFlags := 16409, slot := 9, constantValue := 0 }, { name := "ISOTOPES", type := (.object "com/example/kleave/kleave/msms/Term"), accessFlags := 16409, slot := 10, constantValue := 0 }, { name := "HC_RATIO", type := (.object "com/example/kleave/kleave/msms/Term"), accessFlags := 16409, slot := 11, constantValue := 0 }, { name := "BOUNDS", type := (.object "com/example/kleave/kleave/msms/Term"), accessFlags := 16409, slot := 12, constantValue := 0 }, { name := "label", type := (.object "java/lang/String"), accessFlags := 18, slot := 3, constantValue := 0 }, { name := "column", type := (.object "java/lang/String"), accessFlags := 18, slot := 4, constantValue := 0 }, { name := "use", type := (.object "com/example/kleave/kleave/msms/Term$Use"), accessFlags := 18, slot := 5, constantValue := 0 }, { name := "$VALUES", type := (.array (.object "com/example/kleave/kleave/msms/Term")), accessFlags := 4122, slot := 13, constantValue := 0 }]
  methods := #[k6m0]
  instanceTypes := #[(.object "java/lang/String"), .int, .int, (.object "java/lang/String"), (.object "java/lang/String"), (.object "com/example/kleave/kleave/msms/Term$Use")]
  staticTypes := #[(.object "com/example/kleave/kleave/msms/Term"), (.object "com/example/kleave/kleave/msms/Term"), (.object "com/example/kleave/kleave/msms/Term"), (.object "com/example/kleave/kleave/msms/Term"), (.object "com/example/kleave/kleave/msms/Term"), (.object "com/example/kleave/kleave/msms/Term"), (.object "com/example/kleave/kleave/msms/Term"), (.object "com/example/kleave/kleave/msms/Term"), (.object "com/example/kleave/kleave/msms/Term"), (.object "com/example/kleave/kleave/msms/Term"), (.object "com/example/kleave/kleave/msms/Term"), (.object "com/example/kleave/kleave/msms/Term"), (.object "com/example/kleave/kleave/msms/Term"), (.array (.object "com/example/kleave/kleave/msms/Term"))]
  resolved := Array.replicate 248 none
  statics := some 0 }

def pool7 : Array CpInfo := pool [(1, .class_ 2), (0, u "com/example/kleave/kleave/msms/Term$Use"), (2, u "ALWAYS"), (0, u "Lcom/example/kleave/kleave/msms/Term$Use;"), (2, u "ON"), (2, u "BY_MODEL"), (2, u "BY_BOUNDS"), (2, u "$VALUES"), (0, u "[Lcom/example/kleave/kleave/msms/Term$Use;"), (6, .class_ 28), (1, u "java/lang/Enum"), (27, .class_ 57), (0, u "com/example/kleave/kleave/msms/Term")] 2

/-- com/example/kleave/kleave/msms/Term$Use -/
def k7 : Class := { plain "com/example/kleave/kleave/msms/Term$Use" (some 5) with
  accessFlags := 16432
  interfaces := #[]
  cf := some (fileOf pool7 1 #[.nestHost 56] #[] 16432 26 #[] #[{ accessFlags := 16409, nameIndex := 5, descriptorIndex := 6, attributes := #[] }, { accessFlags := 16409, nameIndex := 9, descriptorIndex := 6, attributes := #[] }, { accessFlags := 16409, nameIndex := 12, descriptorIndex := 6, attributes := #[] }, { accessFlags := 16409, nameIndex := 15, descriptorIndex := 6, attributes := #[] }, { accessFlags := 4122, nameIndex := 18, descriptorIndex := 19, attributes := #[] }])
  fields := #[{ name := "ALWAYS", type := (.object "com/example/kleave/kleave/msms/Term$Use"), accessFlags := 16409, slot := 0, constantValue := 0 }, { name := "ON", type := (.object "com/example/kleave/kleave/msms/Term$Use"), accessFlags := 16409, slot := 1, constantValue := 0 }, { name := "BY_MODEL", type := (.object "com/example/kleave/kleave/msms/Term$Use"), accessFlags := 16409, slot := 2, constantValue := 0 }, { name := "BY_BOUNDS", type := (.object "com/example/kleave/kleave/msms/Term$Use"), accessFlags := 16409, slot := 3, constantValue := 0 }, { name := "$VALUES", type := (.array (.object "com/example/kleave/kleave/msms/Term$Use")), accessFlags := 4122, slot := 4, constantValue := 0 }]
  methods := #[]
  instanceTypes := #[(.object "java/lang/String"), .int, .int]
  staticTypes := #[(.object "com/example/kleave/kleave/msms/Term$Use"), (.object "com/example/kleave/kleave/msms/Term$Use"), (.object "com/example/kleave/kleave/msms/Term$Use"), (.object "com/example/kleave/kleave/msms/Term$Use"), (.array (.object "com/example/kleave/kleave/msms/Term$Use"))]
  resolved := Array.replicate 60 none
  statics := some 1 }

def pool8 : Array CpInfo := pool [(1, u "java/lang/Cloneable"), (0, .class_ 1), (0, u "java/lang/Object"), (0, .class_ 3)] 3

/-- java/lang/Cloneable -/
def k8 : Class := { plain "java/lang/Cloneable" (some 0) with
  accessFlags := 1537
  interfaces := #[]
  cf := some (fileOf pool8 2 #[] #[] 1537 4 #[] #[])
  fields := #[]
  methods := #[]
  instanceTypes := #[]
  staticTypes := #[]
  resolved := Array.replicate 8 none
  statics := none }

/-- the primitive byte -/
def k9 : Class := { plain "byte" none with kind := .primitive 'B', accessFlags := 0x411 }
/-- [B -/
def k10 : Class := { plain "[B" (some 0) with kind := .array 9 .byte, interfaces := #[8, 4], accessFlags := 1041 }

/-- the primitive int -/
def k11 : Class := { plain "int" none with kind := .primitive 'I', accessFlags := 0x411 }
/-- [I -/
def k12 : Class := { plain "[I" (some 0) with kind := .array 11 .int, interfaces := #[8, 4], accessFlags := 1041 }

/-- [Lcom/example/kleave/kleave/msms/Term; -/
def k13 : Class := { plain "[Lcom/example/kleave/kleave/msms/Term;" (some 0) with kind := .array 6 (.object "com/example/kleave/kleave/msms/Term"), interfaces := #[8, 4], accessFlags := 1041 }

def heap : Heap := #[{ cls := 6, slots := #[.ref 6, .ref 7, .ref 8, .ref 9, .ref 10, .ref 11, .ref 12, .ref 13, .ref 14, .ref 15, .ref 16, .ref 17, .ref 18, .null], vm := .statics 6 },
  { cls := 7, slots := #[.ref 2, .ref 3, .ref 4, .ref 5, .null], vm := .statics 7 },
  { cls := 7, slots := #[.null, .int 0, .int 0], vm := .none },
  { cls := 7, slots := #[.null, .int 1, .int 0], vm := .none },
  { cls := 7, slots := #[.null, .int 2, .int 0], vm := .none },
  { cls := 7, slots := #[.null, .int 3, .int 0], vm := .none },
  { cls := 6, slots := #[.null, .int 0, .int 0, .null, .null, .ref 2], vm := .none },
  { cls := 6, slots := #[.null, .int 1, .int 0, .null, .null, .ref 2], vm := .none },
  { cls := 6, slots := #[.null, .int 2, .int 0, .null, .null, .ref 4], vm := .none },
  { cls := 6, slots := #[.null, .int 3, .int 0, .null, .null, .ref 2], vm := .none },
  { cls := 6, slots := #[.null, .int 4, .int 0, .null, .null, .ref 3], vm := .none },
  { cls := 6, slots := #[.null, .int 5, .int 0, .null, .null, .ref 3], vm := .none },
  { cls := 6, slots := #[.null, .int 6, .int 0, .null, .null, .ref 3], vm := .none },
  { cls := 6, slots := #[.null, .int 7, .int 0, .null, .null, .ref 3], vm := .none },
  { cls := 6, slots := #[.null, .int 8, .int 0, .null, .null, .ref 4], vm := .none },
  { cls := 6, slots := #[.null, .int 9, .int 0, .null, .null, .ref 4], vm := .none },
  { cls := 6, slots := #[.null, .int 10, .int 0, .null, .null, .ref 4], vm := .none },
  { cls := 6, slots := #[.null, .int 11, .int 0, .null, .null, .ref 4], vm := .none },
  { cls := 6, slots := #[.null, .int 12, .int 0, .null, .null, .ref 5], vm := .none }]
def classes : Array Class := #[k0, k1, k2, k3, k4, k5, k6, k7, k8, k9, k10, k11, k12, k13]
def interned : List (Array UInt16 × Addr) := []
def slotsUsed : Nat := 109
def theMethod : MethodId := ⟨1, 1⟩
def args0 : Array Value := #[.int 5]
def aboutOver (below : List Frame) : State where
  vm := { classes := classes, interned := interned.toArray }
  heap := heap
  slotsUsed := slotsUsed
  threads := #[{ frames := .invoking theMethod args0 :: below }]
def below0 : List Frame := [.native { method := ⟨0, 0⟩, args := #[] }]
def about1 : State := aboutOver below0
def p0 : Program := .bare "" "" ""
def e0 : Env := launch0.env 0 0 0
theorem w_frames : about1.frames = Frame.invoking theMethod args0 :: below0 := rfl
set_option maxRecDepth 65536 in
theorem w_args : argsFit about1.vm theMethod args0 = true := by decide +kernel
set_option maxRecDepth 65536 in
theorem w_heap : heapFits about1 = true := by decide +kernel
set_option maxRecDepth 65536 in
theorem w_runnable : about1.curStatus? = some .runnable := by decide +kernel
set_option maxRecDepth 65536 in
theorem w_alone : about1.alone = true := by decide +kernel
set_option maxRecDepth 65536 in
theorem w_named : about1.methodNamed? x = some theMethod := by decide +kernel
set_option maxRecDepth 65536 in
theorem w_hears : about1.hears theMethod below0 = true := by decide +kernel
set_option maxRecDepth 65536 in
theorem w_ripe : about1.ripe theMethod args0 below0 = true := by decide +kernel
theorem w_running : about1.status = .running := rfl
set_option maxRecDepth 65536 in
theorem w_room : about1.hasRoom e0.platform room_1 = true :=
  launch0.hasRoom_least _ room_1 (by decide +kernel) (by decide +kernel) (by decide +kernel) (by decide +kernel) (by decide +kernel) (by decide +kernel)
theorem allAtoms_all (ts : List Jvm.Cond) (a : Array Jvm.Value) (st : Jvm.State) : (allAtoms ts).before a st = ts.all (fun c => c.before a st) := by
  induction ts with
  | nil => rfl
  | cons c t ih =>
    show (Jvm.Cond.and c (allAtoms t)).before a st = _
    rw [Jvm.Cond.before_and, ih, List.all_cons]
def words1 : List Jvm.Cond := Jvm.Cond.code x code maxLocals ret :: tables_1
/-- a 'code' word, met by the world's own term for the bytes: nothing is compared byte by byte -/
theorem code_word {y : MethodName} {bytes : ByteArray} {mx : Nat} {rt : Option FieldType} {a : Array Value} {s : State} {m : MethodId} {meth : Method} {c : Code} (h1 : s.methodNamed? y = some m) (h2 : s.vm.method? m = some meth) (h3 : meth.code = some c) (h4 : c.code = bytes)
    (h5 : (c.maxLocals == mx && c.exceptionTable.isEmpty && decide (c.maxStack ≤ mostOperands) && decide (meth.sig.returnType = rt) && !meth.locks && decide (parseMethodDescriptor y.desc = some meth.sig)) = true) : (Jvm.Cond.code y bytes mx rt).before a s = true := by
  simp only [Bool.and_eq_true, beq_iff_eq, Bool.not_eq_true', decide_eq_true_eq] at h5
  obtain ⟨⟨⟨⟨⟨g1, g2⟩, g3⟩, g4⟩, g5⟩, g6⟩ := h5
  simp [Cond.before, Cond.holds, Cond.value, h1, h2, h3, h4, g1, g2, g3, g4, g5, g6]
def isCode : Jvm.Cond → Bool
  | .code _ _ _ _ => true
  | _ => false
theorem all_split {L : List Jvm.Cond} {P : Jvm.Cond → Bool} (h1 : L.all (fun c => isCode c || P c) = true) (h2 : ∀ c ∈ L.filter isCode, P c = true) : L.all P = true := by
  refine List.all_eq_true.mpr fun c hc => ?_
  have h := List.all_eq_true.mp h1 c hc
  rcases Bool.eq_false_or_eq_true (isCode c) with hi | hi
  · exact h2 c (List.mem_filter.mpr ⟨hc, hi⟩)
  · simpa [hi] using h
set_option maxRecDepth 65536 in
theorem w_c0 : (Jvm.Cond.code x code maxLocals ret).before args0 about1 = true := code_word (m := ⟨1, 1⟩) (meth := k1m1) (c := k1c1) (by decide +kernel) rfl rfl rfl (by decide +kernel)
set_option maxRecDepth 65536 in
theorem w_c1 : (Jvm.Cond.code ({ cls := "com/example/kleave/kleave/msms/Term", name := "isSwitchable", desc := "()Z" } : Jvm.MethodName) prog_63_method_8_code (1 : Nat) (Option.some Jvm.ClassFile.FieldType.boolean)).before args0 about1 = true := code_word (m := ⟨6, 0⟩) (meth := k6m0) (c := k6c0) (by decide +kernel) rfl rfl rfl (by decide +kernel)
def codes1 : List Jvm.Cond := [Jvm.Cond.code x code maxLocals ret, Jvm.Cond.code ({ cls := "com/example/kleave/kleave/msms/Term", name := "isSwitchable", desc := "()Z" } : Jvm.MethodName) prog_63_method_8_code (1 : Nat) (Option.some Jvm.ClassFile.FieldType.boolean)]
set_option maxRecDepth 65536 in
theorem codes_eq : words1.filter isCode = codes1 := rfl
theorem w_codes : ∀ c ∈ words1.filter isCode, c.before args0 about1 = true := by
  rw [codes_eq]
  intro c hc
  simp only [codes1, List.mem_cons, List.not_mem_nil, or_false] at hc
  rcases hc with rfl | rfl
  · exact w_c0
  · exact w_c1
set_option maxRecDepth 65536 in
theorem w_t1 : (words1.take 24).all (fun c => isCode c || c.before args0 about1) = true := by decide +kernel
set_option maxRecDepth 65536 in
theorem w_t2 : (words1.drop 24).all (fun c => isCode c || c.before args0 about1) = true := by decide +kernel
theorem w_tables : (allAtoms (Jvm.Cond.code x code maxLocals ret :: tables_1)).before args0 about1 = true := by
  rw [allAtoms_all]
  show words1.all (fun c => c.before args0 about1) = true
  refine all_split ?_ w_codes
  rw [← List.take_append_drop 24 words1, List.all_append, w_t1, w_t2]
  rfl
set_option maxRecDepth 65536 in
theorem w_case : (Jvm.Cond.and given_1 narrow_1).before args0 about1 = true := by decide +kernel
theorem w_applies : (headSpec (Jvm.Cond.code x code maxLocals ret :: tables_1) room_1).applies x e0.platform about1 = true :=
  (Spec.applies_iff w_frames).mpr ⟨w_running, w_runnable, w_alone, w_named, w_hears, w_ripe, w_room, w_tables⟩
theorem atStart : AtStart classFile x code maxLocals ret World_1 tables_1 room_1 Calls_1 rest_1 Pre_1 launch0 p0 e0 about1 theMethod args0 below0 :=
  ⟨lists_1, trivial, launch0.admits_env _ _ _, launch0.least_env, fairChoices_fair.cas, fairChoices_fair.clock, w_frames, w_args, w_heap, w_applies, trivial, trivial, w_case⟩
end start1
theorem witness_1 : WitnessClaimed_1 := ⟨start1.p0, start1.e0, start1.about1, start1.theMethod, start1.args0, start1.below0, start1.atStart⟩
end Jvm.Pilot.@@N@@
