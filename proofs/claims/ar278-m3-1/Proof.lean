import JvmDerived
import JvmDerived.Pilot.@@N@@Statement
import JvmDerived.Pilot.@@N@@Code
set_option linter.unusedVariables false
set_option linter.unusedSimpArgs false
namespace Jvm.Pilot.@@N@@
open Jvm Jvm.ClassFile Sem Op Lib Jvm.Free Jvm.Stand Jvm.LawKit Jvm.RoadKit Bundle Jvm.Pilot.@@N@@.Jvm.D
section Own
variable {p : Program} {l : Launch} {e : Env} {R : Room} {s : State} {m : MethodId} {args : Array Value} {below : List Frame} {meth : Method} {c : Code} {T T' : State} {locs : List Loc} {cells slots : Nat} {Z : State} {a0 : Array Value} {h : Heap} {K N : Nat} {Q : Option Value → Heap → List Loc → Prop}
/-- from the state T with the frame g on top the invocation comes to its end, and Q holds of what it leaves -/
def own_Fin (p : Program) (e : Env) (s : State) (below : List Frame) (K N : Nat) (Q : Option Value → Heap → List Loc → Prop) (T : State) (g : JFrame) : Prop :=
  ∃ s₂ o, Steps p.tables e below (T.setTop g) s₂ ∧ s₂.status = .running ∧ Ended s₂ below o ∧ ∃ v L, o = .returned v ∧ Q v s₂.heap L ∧ FrameEnd s o s₂ L K N
/-- a contract of this family: called with as' at the heap h the method returns, and Q holds -/
abbrev own_Met (l : Launch) (Z : State) (y : MethodName) (bytes : ByteArray) (maxL : Nat) (ret : Option FieldType) (ws : List Jvm.Cond) (rm : Room) (as' : Array Value) (h : Heap) (Q : Option Value → Heap → List Loc → Prop) : Prop :=
  MetFree l y (head1 (Jvm.Cond.code y bytes maxL ret :: ws) rm) (fun a U => a = as' ∧ Z.Warmed39 U.vm ∧ U.heap = h) (fun _ _ _ _ _ => True) (fun _ U o U' => ∃ v L, o = .returned v ∧ Q v U'.heap L ∧ FrameEnd U o U' L rm.cells rm.slots)
/-- a method that writes nothing and makes nothing: it returns w -/
def own_Q0 (h : Heap) (w : Value) (v : Option Value) (h' : Heap) (L : List Loc) : Prop := v = some w ∧ L = [] ∧ h' = h
abbrev own_Pure (l : Launch) (Z : State) (y : MethodName) (bytes : ByteArray) (maxL : Nat) (ret : Option FieldType) (fr lo : Nat) (as' : Array Value) (h : Heap) (w : Value) : Prop :=
  own_Met l Z y bytes maxL ret [] ({ frames := fr, cells := 0, slots := 0, locals := lo } : Room) as' h (own_Q0 h w)
theorem own_step {g g' : JFrame} (st : ∀ t, Steps p.tables e below (T'.setTop g') t → Steps p.tables e below (T.setTop g) t) (H : own_Fin p e s below K N Q T' g') : own_Fin p e s below K N Q T g := by
  obtain ⟨s2, o, h1, r⟩ := H
  exact ⟨s2, o, st _ h1, r⟩
theorem own_body {y : MethodName} {bytes : ByteArray} {maxL : Nat} {ret : Option FieldType} {ws : List Jvm.Cond} {rm : Room} {as' : Array Value} (hpn : plainName y.cls = true)
    (F : ∀ (p : Program) (e : Env) (s : State) (m : MethodId) (below : List Frame) (meth : Method) (c : Code) (s₁ : State), p.tables.exec = Jvm.exec → c.code = bytes → c.maxLocals = maxL → Z.Warmed39 s.vm → s.vm.findClass y.cls = some m.cls → meth.name = y.name → meth.sig.returnType = ret → meth.locks = false →
      Stand p l e rm s m as' below meth c s₁ [] 0 0 → s₁.heap = h → own_Fin p e s below rm.cells rm.slots Q s₁ (entryFrame m as' maxL)) : own_Met l Z y bytes maxL ret ws rm as' h Q := by
  refine MetFree.of_bodySF (plainFor_of_name hpn) hisR ?_
  intro p e s m args below meth c s₁ Bd hml0 hP hK
  obtain ⟨rfl, hZ, hh⟩ := hP
  exact F p e s m below meth c s₁ Bd.exec Bd.bytes hml0 hZ (findClass_of_methodNamed Bd.named) (name_of_methodNamed Bd.named Bd.method).1 Bd.returns Bd.notSynchronized (Stand.of_body Bd) (by rw [← hh, Bd.state]; rfl)
theorem own_end (X : Stand p l e R s m args below meth c T locs cells slots) {v : Option Value} (hv : meth.sig.returnType = none → v = none) (hlk : meth.locks = false) {g : JFrame}
    (st : ∀ fs, (∀ (f : JFrame) (acts : List Action), f.method = m → f.locked = none → f.entered = [] → (doReturn e (T.setTop f) acts v).1 = T.setFrames fs) → Steps p.tables e below (T.setTop g) (T.setFrames fs))
    (hQ : Q v T.heap locs) (hk : cells ≤ K) (hn : slots ≤ N) : own_Fin p e s below K N Q T g := by
  obtain ⟨fs, hr, hrun, hended, hW, hsame⟩ := X.leave (v := v) hv hlk
  exact ⟨_, _, st fs hr, hrun, hended, _, _, rfl, hQ, ⟨_, rfl⟩, hW, hsame.mono hk hn⟩
theorem own_retZ (X : Stand p l e R s m args below meth c T locs cells slots) (hx : p.tables.exec = Jvm.exec) (hret : meth.sig.returnType = some .boolean) (hlk : meth.locks = false) {pc : Nat} {Ls : Array Slot} {z : Int32} {rest : List Value} (hd : decode c.code pc = .ok (.ireturn, 1)) (hz : z = 0 ∨ z = 1)
    (hQ : Q (some (.int z)) T.heap locs) (hk : cells ≤ K) (hn : slots ≤ N) : own_Fin p e s below K N Q T (mkF m pc Ls (.int z :: rest)) := by
  refine own_end X (v := some (.int z)) (fun q => by rw [hret] at q; cases q) hlk (fun fs hr => ?_) hQ hk hn
  have hnar : nar .boolean z = z := by rcases hz with rfl | rfl <;> rfl
  exact retN X hx (t := .boolean) hret (Or.inl rfl) hd (by rw [hnar]; exact hr)
theorem own_retA (X : Stand p l e R s m args below meth c T locs cells slots) (hx : p.tables.exec = Jvm.exec) {t : FieldType} (hret : meth.sig.returnType = some t) (ht : t.isReference = true) (hlk : meth.locks = false) {pc : Nat} {Ls : Array Slot} {w : Value} {rest : List Value} (hd : decode c.code pc = .ok (.areturn, 1)) (hw : w.isRef = true)
    (hQ : Q (some w) T.heap locs) (hk : cells ≤ K) (hn : slots ≤ N) : own_Fin p e s below K N Q T (mkF m pc Ls (w :: rest)) := by
  refine own_end X (v := some w) (fun q => by rw [hret] at q; cases q) hlk (fun fs hr => ?_) hQ hk hn
  refine retOut X hx (i := .areturn) hret ?_ (Or.inr (Or.inr (Or.inr (Or.inr ⟨rfl, ht, hw⟩)))) hd hr
  rcases ref_cases hw with rfl | ⟨a, rfl⟩ <;> cases t <;> first | rfl | (cases ht; done)
theorem own_getS (X : Stand p l e R s m args below meth c T locs cells slots) (hx : p.tables.exec = Jvm.exec) (hZ : Z.Warmed39 s.vm) {own O n d : String} {index : Nat} (hown : s.vm.findClass own = some m.cls) (w : (Jvm.Cond.fieldLink own index O n d).before a0 Z = true) (eT : T.heap = h) {v : Value} (F : Sta Z h O n d v)
    {pc : Nat} {Ls : Array Slot} {st : List Value} (hd : decode c.code pc = .ok (.getstatic index, 3)) (H : ∀ T', Stand p l e R s m args below meth c T' locs cells slots → T'.heap = h → own_Fin p e s below K N Q T' (mkF m (pc + 3) Ls (v :: st))) : own_Fin p e s below K N Q T (mkF m pc Ls st) := by
  obtain ⟨T', X', e', st'⟩ := getS (host := "") X hx hZ hown w Via.refl eT F (g := mkF m pc Ls st) rfl hd
  exact own_step st' (H T' X' e')
theorem own_getF (X : Stand p l e R s m args below meth c T locs cells slots) (hx : p.tables.exec = Jvm.exec) (hZ : Z.Warmed39 s.vm) {own O n d : String} {index : Nat} (hown : s.vm.findClass own = some m.cls) (w : (Jvm.Cond.fieldLink own index O n d).before a0 Z = true) (eT : T.heap = h) {a : Addr} {v : Value} (F : Fld Z h a O n d v)
    {pc : Nat} {Ls : Array Slot} {st : List Value} (hd : decode c.code pc = .ok (.getfield index, 3)) (H : ∀ T', Stand p l e R s m args below meth c T' locs cells slots → T'.heap = h → own_Fin p e s below K N Q T' (mkF m (pc + 3) Ls (v :: st))) : own_Fin p e s below K N Q T (mkF m pc Ls (.ref a :: st)) := by
  obtain ⟨T', X', e', st'⟩ := getF (host := "") X hx hZ hown (Or.inl w) Via.refl eT F (g := mkF m pc Ls (.ref a :: st)) rfl rfl hd
  exact own_step st' (H T' X' e')
/-- a static method by its contract -/
theorem own_callS (X : Stand p l e R s m args below meth c T locs cells slots) (hx : p.tables.exec = Jvm.exec) (hZ : Z.Warmed39 s.vm) {own : String} {index : Nat} {y : MethodName} {bytes : ByteArray} {maxL : Nat} {ret : Option FieldType} {rm : Room} {Q' : Option Value → Heap → List Loc → Prop} {argsL rest : List Value}
    (hown : s.vm.findClass own = some m.cls) (w1 : (Jvm.Cond.methodLink own index y).before a0 Z = true) (w2 : (Jvm.Cond.static y).before a0 Z = true) (w3 : (Jvm.Cond.initialized y.cls).before a0 Z = true) (w4 : (Jvm.Cond.code y bytes maxL ret).before a0 Z = true)
    (hy : y.cls ≠ "java/lang/invoke/MethodHandle" ∧ y.cls ≠ "java/lang/invoke/VarHandle") (M : own_Met l Z y bytes maxL ret [] rm argsL.toArray h Q') (eT : T.heap = h) (W : Nat) (hW : (rest.map fun v => v.category).sum ≤ W) (hf : rm.frames + 1 ≤ R.frames) (hl : W + (maxL + 11) + rm.locals ≤ R.locals) (hc : cells + rm.cells ≤ R.cells) (hs : slots + rm.slots ≤ R.slots)
    {pc : Nat} {Ls : Array Slot} {st : List Value} (hml : c.maxLocals = Ls.size) {ps : List FieldType} {r : Option FieldType} (hsig : parseMethodDescriptor y.desc = some ⟨ps, r⟩) (hlen : argsL.length = ps.length) (hst : st = argsL.reverse ++ rest) (hd : decode c.code pc = .ok (.invokestatic index, 3))
    (H : ∀ T' L v, Stand p l e R s m args below meth c T' (locs ++ L) (cells + rm.cells) (slots + rm.slots) → Q' v T'.heap L → own_Fin p e s below K N Q T' (mkF m (pc + 3) Ls (v.toList ++ rest))) : own_Fin p e s below K N Q T (mkF m pc Ls st) := by
  obtain ⟨v, _, ⟨T', L', k', n'⟩, -, X', ⟨Lc, hQ, l', y', z'⟩, st'⟩ := Jvm.LawKit.callS X hx (y := y) hown (mvT hZ w1) (mvT hZ w2) (mvT hZ w3) (mvT hZ w4) hy (backOf (W := W) M hZ w4 w3 hf hl) (g := mkF m pc Ls st) rfl (by rw [hml]) (argsL := argsL) (rest := rest) (lenOf hsig hlen) hst (by show 2 * 0 + _ ≤ _; omega) hd (fun _ _ => ⟨rfl, eT, hc, hs⟩)
  dsimp only [Pt.U, Pt.locs, Pt.cells, Pt.slots] at X' l' y' z' st' hQ
  subst l' y' z'
  exact own_step st' (H T' Lc v X' hQ)
/-- an instance method by its contract, the receiver exactly of the class C -/
theorem own_callV (X : Stand p l e R s m args below meth c T locs cells slots) (hx : p.tables.exec = Jvm.exec) (hZ : Z.Warmed39 s.vm) {own C : String} {index : Nat} {y : MethodName} {bytes : ByteArray} {maxL : Nat} {ret : Option FieldType} {rm : Room} {Q' : Option Value → Heap → List Loc → Prop} {b : Addr} {argsL rest : List Value}
    (hown : s.vm.findClass own = some m.cls) (w1 : (Jvm.Cond.methodLink own index y).before a0 Z = true) (w2 : (Jvm.Cond.declares y).before a0 Z = true) (w3 : (Jvm.Cond.selects C y y).before a0 Z = true) (w4 : (Jvm.Cond.instanceMethod y).before a0 Z = true) (w5 : (Jvm.Cond.code y bytes maxL ret).before a0 Z = true) (w6 : (Jvm.Cond.initialized y.cls).before a0 Z = true)
    (hy : y.cls ≠ "java/lang/invoke/MethodHandle" ∧ y.cls ≠ "java/lang/invoke/VarHandle") (E : Exa Z h b C) (M : own_Met l Z y bytes maxL ret [] rm (.ref b :: argsL).toArray h Q') (eT : T.heap = h) (W : Nat) (hW : (rest.map fun v => v.category).sum ≤ W) (hf : rm.frames + 1 ≤ R.frames) (hl : W + (maxL + 11) + rm.locals ≤ R.locals) (hc : cells + rm.cells ≤ R.cells) (hs : slots + rm.slots ≤ R.slots)
    {pc : Nat} {Ls : Array Slot} {st : List Value} (hml : c.maxLocals = Ls.size) {ps : List FieldType} {r : Option FieldType} (hsig : parseMethodDescriptor y.desc = some ⟨ps, r⟩) (hlen : argsL.length = ps.length) (hst : st = argsL.reverse ++ .ref b :: rest) (hd : decode c.code pc = .ok (.invokevirtual index, 3))
    (H : ∀ T' L v, Stand p l e R s m args below meth c T' (locs ++ L) (cells + rm.cells) (slots + rm.slots) → Q' v T'.heap L → own_Fin p e s below K N Q T' (mkF m (pc + 3) Ls (v.toList ++ rest))) : own_Fin p e s below K N Q T (mkF m pc Ls st) := by
  obtain ⟨cq, kq, q1, q2, q3⟩ := isOf hZ eT E
  obtain ⟨v, _, ⟨T', L', k', n'⟩, -, X', ⟨Lc, hQ, l', y', z'⟩, st'⟩ := X.virtualBack hx (y := y) (z := y) hown (mvT hZ w1) (mvT hZ w2) (notFace_of_selects (args := #[]) (mvT hZ w3)) (mvT hZ w3) (mvT hZ w4) hy (backOf (W := W) M hZ w5 w6 hf hl) q1 q3 (g := mkF m pc Ls st) rfl (by rw [hml]) (Steps.refl _) (argsL := argsL) (rest := rest) (lenOf hsig hlen) hst (by show 2 * 0 + _ ≤ _; omega) hd (fun _ _ => ⟨rfl, eT, hc, hs⟩)
  dsimp only [Pt.U, Pt.locs, Pt.cells, Pt.slots] at X' l' y' z' st' hQ
  subst l' y' z'
  exact own_step (fun _ k => st'.trans k) (H T' Lc v X' hQ)
theorem own_callS0 (X : Stand p l e R s m args below meth c T locs cells slots) (hx : p.tables.exec = Jvm.exec) (hZ : Z.Warmed39 s.vm) {own : String} {index : Nat} {y : MethodName} {bytes : ByteArray} {maxL : Nat} {ret : Option FieldType} {fr lo : Nat} {w : Value} {argsL rest : List Value}
    (hown : s.vm.findClass own = some m.cls) (w1 : (Jvm.Cond.methodLink own index y).before a0 Z = true) (w2 : (Jvm.Cond.static y).before a0 Z = true) (w3 : (Jvm.Cond.initialized y.cls).before a0 Z = true) (w4 : (Jvm.Cond.code y bytes maxL ret).before a0 Z = true)
    (hy : y.cls ≠ "java/lang/invoke/MethodHandle" ∧ y.cls ≠ "java/lang/invoke/VarHandle") (M : own_Pure l Z y bytes maxL ret fr lo argsL.toArray h w) (eT : T.heap = h) (W : Nat) (hW : (rest.map fun v => v.category).sum ≤ W) (hf : fr + 1 ≤ R.frames) (hl : W + (maxL + 11) + lo ≤ R.locals) (hc : cells ≤ R.cells) (hs : slots ≤ R.slots)
    {pc : Nat} {Ls : Array Slot} {st : List Value} (hml : c.maxLocals = Ls.size) {ps : List FieldType} {r : Option FieldType} (hsig : parseMethodDescriptor y.desc = some ⟨ps, r⟩) (hlen : argsL.length = ps.length) (hst : st = argsL.reverse ++ rest) (hd : decode c.code pc = .ok (.invokestatic index, 3))
    (H : ∀ T', Stand p l e R s m args below meth c T' locs cells slots → T'.heap = h → own_Fin p e s below K N Q T' (mkF m (pc + 3) Ls (w :: rest))) : own_Fin p e s below K N Q T (mkF m pc Ls st) := by
  refine own_callS X hx hZ hown w1 w2 w3 w4 hy M eT W hW hf hl hc hs hml hsig hlen hst hd ?_
  rintro T' L v X' ⟨rfl, rfl, q⟩
  rw [List.append_nil] at X'
  exact H T' X' q
theorem own_callV0 (X : Stand p l e R s m args below meth c T locs cells slots) (hx : p.tables.exec = Jvm.exec) (hZ : Z.Warmed39 s.vm) {own C : String} {index : Nat} {y : MethodName} {bytes : ByteArray} {maxL : Nat} {ret : Option FieldType} {fr lo : Nat} {w : Value} {b : Addr} {argsL rest : List Value}
    (hown : s.vm.findClass own = some m.cls) (w1 : (Jvm.Cond.methodLink own index y).before a0 Z = true) (w2 : (Jvm.Cond.declares y).before a0 Z = true) (w3 : (Jvm.Cond.selects C y y).before a0 Z = true) (w4 : (Jvm.Cond.instanceMethod y).before a0 Z = true) (w5 : (Jvm.Cond.code y bytes maxL ret).before a0 Z = true) (w6 : (Jvm.Cond.initialized y.cls).before a0 Z = true)
    (hy : y.cls ≠ "java/lang/invoke/MethodHandle" ∧ y.cls ≠ "java/lang/invoke/VarHandle") (E : Exa Z h b C) (M : own_Pure l Z y bytes maxL ret fr lo (.ref b :: argsL).toArray h w) (eT : T.heap = h) (W : Nat) (hW : (rest.map fun v => v.category).sum ≤ W) (hf : fr + 1 ≤ R.frames) (hl : W + (maxL + 11) + lo ≤ R.locals) (hc : cells ≤ R.cells) (hs : slots ≤ R.slots)
    {pc : Nat} {Ls : Array Slot} {st : List Value} (hml : c.maxLocals = Ls.size) {ps : List FieldType} {r : Option FieldType} (hsig : parseMethodDescriptor y.desc = some ⟨ps, r⟩) (hlen : argsL.length = ps.length) (hst : st = argsL.reverse ++ .ref b :: rest) (hd : decode c.code pc = .ok (.invokevirtual index, 3))
    (H : ∀ T', Stand p l e R s m args below meth c T' locs cells slots → T'.heap = h → own_Fin p e s below K N Q T' (mkF m (pc + 3) Ls (w :: rest))) : own_Fin p e s below K N Q T (mkF m pc Ls st) := by
  refine own_callV X hx hZ hown w1 w2 w3 w4 w5 w6 hy E M eT W hW hf hl hc hs hml hsig hlen hst hd ?_
  rintro T' L v X' ⟨rfl, rfl, q⟩
  rw [List.append_nil] at X'
  exact H T' X' q
end Own
section OwnFacts
variable {Z : State} {h : Heap} {a b : Addr} {C n d : String} {v w : Value} {args : Array Value} {s : State} {t : Term}
theorem own_fld_uni (F : Fld Z h a C n d v) (G : Fld Z h a C n d w) : v = w := by
  obtain ⟨cell, cf, k, i, f, h1, h2, h3, h4, h5, h6, h7⟩ := F
  obtain ⟨cell', cf', k', i', f', g1, g2, g3, g4, g5, g6, g7⟩ := G
  cases h1.symm.trans g1
  cases h2.symm.trans g2
  exact Option.some.inj (h7.symm.trans g7)
theorem own_ne {j k : Int32} (F : Fld Z h a C n d (.int j)) (G : Fld Z h b C n d (.int k)) (hn : j ≠ k) : a ≠ b := fun e => by
  subst e; exact hn (Value.int.inj (own_fld_uni F G))
theorem own_eqi {k : Int32} (q : (Jvm.Cond.eq t (Term.int k)).value args s none s [] = some true) : t.eval args s none [] s = some (.int k) := by
  simp only [Jvm.Cond.value, Term.eval] at q
  cases ht : t.eval args s none [] s with
  | none => simp [ht] at q
  | some x => cases x <;> simp [ht] at q ⊢; exact q
theorem own_fldw {k : Int32} (ev : t.eval args s none [] s = some (.ref a)) (q : (Jvm.Cond.eq (Term.field t C n d) (Term.int k)).value args s none s [] = some true) : Fld s s.heap a C n d (.int k) :=
  Fld.start ((fld_at ev).symm.trans (own_eqi q))
end OwnFacts
section OwnArrays
/-- what a law leaves: it returns 1; it has written into new cells alone -/
def own_Q1 (n0 : Nat) (v : Option Value) (_ : Heap) (L : List Loc) : Prop := v = some (.int 1) ∧ Fr n0 L
variable {p : Program} {l : Launch} {e : Env} {R : Room} {s : State} {m : MethodId} {args : Array Value} {below : List Frame} {meth : Method} {c : Code} {T T' : State} {locs : List Loc} {cells slots : Nat} {Z : State} {a0 : Array Value} {h h0 : Heap} {K N n0 : Nat} {Q : Option Value → Heap → List Loc → Prop}
theorem own_ext_wr {h' : Heap} {a : Addr} {sl : Nat} {v : Value} (E : Ext h0 h) (W : Wr h h' a sl v) (ha : h0.size ≤ a) : Ext h0 h' := by
  refine ⟨by rw [W.size]; exact E.1, fun b cb hb => ?_⟩
  obtain ⟨c', e1, -, -, -, e5, -⟩ := wr_at W (E.2 _ _ hb)
  rw [e1, e5 (fun q => by have := (Array.getElem?_eq_some_iff.mp hb).1; subst q; exact absurd this (Nat.not_lt.mpr ha))]
theorem own_ext_trans {h1 h2 : Heap} (E : Ext h0 h1) (F : Ext h1 h2) : Ext h0 h2 := ⟨Nat.le_trans E.1 F.1, fun a c q => F.2 _ _ (E.2 _ _ q)⟩
theorem own_ext_refl (h0 : Heap) : Ext h0 h0 := ⟨Nat.le_refl _, fun _ _ q => q⟩
theorem own_fr_snoc {a : Addr} {k : Nat} (F : Fr n0 locs) (ha : n0 ≤ a) : Fr n0 (locs ++ [⟨a, k⟩]) := fun y hy => by
  rcases List.mem_append.mp hy with q | q
  · exact F y q
  · rw [List.mem_singleton.mp q]; exact ha
/-- anewarray of a known length -/
theorem own_newR (X : Stand p l e R s m args below meth c T locs cells slots) (hx : p.tables.exec = Jvm.exec) (hZ : Z.Warmed39 s.vm) {own C : String} {index : Nat} (hown : s.vm.findClass own = some m.cls) (w1 : (Jvm.Cond.classLink own index C).before a0 Z = true) (w2 : (Jvm.Cond.arrayOver (.object C)).before a0 Z = true)
    (eT : T.heap = h) {pc : Nat} {Ls : Array Slot} {n : Int32} {st : List Value} (cap : Nat) (hn : ¬ n < 0) (hcap : n.toNatClampNeg = cap) (hb8 : cap * 8 ≤ 536870912) (hc : cells + 1 ≤ R.cells) (hl : slots + cap ≤ R.slots) (hd : decode c.code pc = .ok (.anewarray index, 3))
    (H : ∀ T' h' cl, Stand p l e R s m args below meth c T' locs (cells + 1) (slots + cap) → T'.heap = h' → Ext h h' → Arr Z h' h.size cl (.object C) → Ovr Z cl.cls C → cl.slots = Array.replicate cap .null → own_Fin p e s below K N Q T' (mkF m (pc + 3) Ls (.ref h.size :: st))) : own_Fin p e s below K N Q T (mkF m pc Ls (.int n :: st)) := by
  obtain ⟨T', h', cA, X', e', E', A', O', st'⟩ := newR X hx hZ hown w1 w2 eT (g := mkF m pc Ls (.int n :: st)) rfl hd rfl hn (cap := cap) (Nat.le_of_eq hcap) hb8 hc hl
  exact own_step st' (H T' h' _ X' e' E' A' O' (by rw [← hcap]; rfl))
/-- newarray of a known length -/
theorem own_newP (X : Stand p l e R s m args below meth c T locs cells slots) (hx : p.tables.exec = Jvm.exec) (hZ : Z.Warmed39 s.vm) {aty : ArrayType} (w : (Jvm.Cond.arrayClass (newarray.typeOf aty)).before a0 Z = true)
    (eT : T.heap = h) {pc : Nat} {Ls : Array Slot} {n : Int32} {st : List Value} (cap : Nat) (hn : ¬ n < 0) (hcap : n.toNatClampNeg = cap) (hb8 : cap * 8 ≤ 536870912) (hc : cells + 1 ≤ R.cells) (hl : slots + cap ≤ R.slots) (hd : decode c.code pc = .ok (.newarray aty, 2))
    (H : ∀ T' h' cl, Stand p l e R s m args below meth c T' locs (cells + 1) (slots + cap) → T'.heap = h' → Ext h h' → Arr Z h' h.size cl (newarray.typeOf aty) → cl.slots = Array.replicate cap (defaultValue (newarray.typeOf aty)) → own_Fin p e s below K N Q T' (mkF m (pc + 2) Ls (.ref h.size :: st))) : own_Fin p e s below K N Q T (mkF m pc Ls (.int n :: st)) := by
  obtain ⟨T', h', cA, X', e', E', A', st'⟩ := newP X hx hZ w eT (g := mkF m pc Ls (.int n :: st)) rfl hd rfl hn (cap := cap) (Nat.le_of_eq hcap) hb8 hc hl
  exact own_step st' (H T' h' _ X' e' E' A' (by rw [← hcap]; rfl))
/-- a reference stored into an array that is new since h0 -/
theorem own_stR (X : Stand p l e R s m args below meth c T locs cells slots) (hx : p.tables.exec = Jvm.exec) (hZ : Z.Warmed39 s.vm) (eT : T.heap = h) {a y : Addr} {cl : Cell} {C : String} (A : Arr Z h a cl (.object C)) (O : Ovr Z cl.cls C) (I : Exa Z h y C) (E : Ext h0 h) (ha : h0.size ≤ a) (F : Fr n0 locs) (hn0 : n0 ≤ a)
    {j : Int32} (i : Nat) (hi : j.toNatClampNeg = i) (hj : ¬ j < 0) (his : i < cl.slots.size) {pc : Nat} {Ls : Array Slot} {st : List Value} (hd : decode c.code pc = .ok (.aastore, 1))
    (H : ∀ T' h' cl' locs', Stand p l e R s m args below meth c T' locs' cells slots → T'.heap = h' → Ext h0 h' → Arr Z h' a cl' (.object C) → Ovr Z cl'.cls C → Fr n0 locs' → cl'.slots = cl.slots.setIfInBounds i (.ref y) → (∀ (b : Addr) (cb : Cell) (tb : FieldType), b ≠ a → Arr Z h b cb tb → Arr Z h' b cb tb) → own_Fin p e s below K N Q T' (mkF m (pc + 1) Ls st)) : own_Fin p e s below K N Q T (mkF m pc Ls (.ref y :: .int j :: .ref a :: st)) := by
  obtain ⟨T', h', X', e', W', st'⟩ := stR X hx hZ eT A (j := j) (v := .ref y) (fun q => q.elim hj (by rw [hi]; omega)) rfl (Sto.of A O (Ins.self I)) (g := mkF m pc Ls (.ref y :: .int j :: .ref a :: st)) rfl rfl hd
  rw [hi] at X' W'
  exact own_step st' (H T' h' _ _ X' e' (own_ext_wr E W' ha) (A.same W') O (own_fr_snoc F hn0) rfl (fun b cb tb hne B => B.other W' hne))
/-- an int stored into an array that is new since h0 -/
theorem own_stI (X : Stand p l e R s m args below meth c T locs cells slots) (hx : p.tables.exec = Jvm.exec) (hZ : Z.Warmed39 s.vm) (eT : T.heap = h) {a : Addr} {cl : Cell} (A : Arr Z h a cl .int) (E : Ext h0 h) (ha : h0.size ≤ a) (F : Fr n0 locs) (hn0 : n0 ≤ a)
    {j x : Int32} (i : Nat) (hi : j.toNatClampNeg = i) (hj : ¬ j < 0) (his : i < cl.slots.size) {pc : Nat} {Ls : Array Slot} {st : List Value} (hd : decode c.code pc = .ok (.iastore, 1))
    (H : ∀ T' h' cl' locs', Stand p l e R s m args below meth c T' locs' cells slots → T'.heap = h' → Ext h0 h' → Arr Z h' a cl' .int → Fr n0 locs' → cl'.slots = cl.slots.setIfInBounds i (.int x) → (∀ (b : Addr) (cb : Cell) (tb : FieldType), b ≠ a → Arr Z h b cb tb → Arr Z h' b cb tb) → own_Fin p e s below K N Q T' (mkF m (pc + 1) Ls st)) : own_Fin p e s below K N Q T (mkF m pc Ls (.int x :: .int j :: .ref a :: st)) := by
  obtain ⟨T', h', X', e', W', st'⟩ := stI X hx hZ eT A (j := j) (x := x) (fun q => q.elim hj (by rw [hi]; omega)) (g := mkF m pc Ls (.int x :: .int j :: .ref a :: st)) rfl rfl hd
  rw [hi] at X' W'
  exact own_step st' (H T' h' _ _ X' e' (own_ext_wr E W' ha) (A.same W') (own_fr_snoc F hn0) rfl (fun b cb tb hne B => B.other W' hne))
/-- a method that writes nothing, called where the walk has already made and written -/
theorem own_ald {a : Addr} {cl : Cell} {ty : FieldType} (X : Stand p l e R s m args below meth c T locs cells slots) (hx : p.tables.exec = Jvm.exec) (hZ : Z.Warmed39 s.vm) (eT : T.heap = h) (A : Arr Z h a cl ty) (hty : ty.isReference = true) {j : Int32} {v : Value} (i : Nat) (hi : j.toNatClampNeg = i) (hj : ¬ j < 0) (hv : cl.slots[i]? = some v)
    {pc : Nat} {Ls : Array Slot} {st : List Value} (hd : decode c.code pc = .ok (.aaload, 1)) (H : own_Fin p e s below K N Q T (mkF m (pc + 1) Ls (v :: st))) : own_Fin p e s below K N Q T (mkF m pc Ls (.int j :: .ref a :: st)) := by
  have his := (Array.getElem?_eq_some_iff.mp hv).1
  exact own_step (fun _ k => Stand.aaload X hx (by rw [eT]; exact A.1) (State.isArrayOf_alike hZ.alike A.2.1) hty A.2.2 (fun q => q.elim hj (by rw [hi]; omega)) (by rw [hi]; exact hv) (g := mkF m pc Ls (.int j :: .ref a :: st)) rfl rfl hd _ k) H
theorem own_ild {a : Addr} {cl : Cell} (X : Stand p l e R s m args below meth c T locs cells slots) (hx : p.tables.exec = Jvm.exec) (hZ : Z.Warmed39 s.vm) (eT : T.heap = h) (A : Arr Z h a cl .int) {j : Int32} {v : Value} (i : Nat) (hi : j.toNatClampNeg = i) (hj : ¬ j < 0) (hv : cl.slots[i]? = some v)
    {pc : Nat} {Ls : Array Slot} {st : List Value} (hd : decode c.code pc = .ok (.iaload, 1)) (H : own_Fin p e s below K N Q T (mkF m (pc + 1) Ls (v :: st))) : own_Fin p e s below K N Q T (mkF m pc Ls (.int j :: .ref a :: st)) := by
  have his := (Array.getElem?_eq_some_iff.mp hv).1
  exact own_step (fun _ k => Stand.iaload X hx (by rw [eT]; exact A.1) (State.isArrayOf_alike hZ.alike A.2.1) A.2.2 (fun q => q.elim hj (by rw [hi]; omega)) (by rw [hi]; exact hv) (g := mkF m pc Ls (.int j :: .ref a :: st)) rfl rfl hd _ k) H
theorem own_fldref {args : Array Value} {s : State} {t u : Term} {C n d : String} {a b : Addr} (ev : t.eval args s none [] s = some (.ref a)) (eu : u.eval args s none [] s = some (.ref b)) (q : (Jvm.Cond.eq (Term.field t C n d) u).value args s none s [] = some true) : Fld s s.heap a C n d (.ref b) := by
  refine Fld.start ((fld_at ev).symm.trans ?_)
  simp only [Jvm.Cond.value] at q
  cases ht : (Term.field t C n d).eval args s none [] s with
  | none => simp [ht] at q
  | some x => cases x <;> simp [ht, eu] at q ⊢; exact q
end OwnArrays
section OwnRanges
/-- lo ≤ c ≤ hi, as the code asks it -/
def own_in (c lo hi : Int32) : Bool := !decide (c < lo) && !decide (hi < c)
def own_inR (c : Int32) : List Int32 → Bool
  | lo :: hi :: r => own_in c lo hi || own_inR c r
  | _ => false
theorem own_succ32 {k : Nat} : Int32.ofNat k + (1 : Int32) = Int32.ofNat (k + 1) := by rw [Int32.ofNat_add]; rfl
theorem own_succ2 {j : Nat} : Int32.ofNat (2 * j) + (2 : Int32) = Int32.ofNat (2 * (j + 1)) := by rw [Nat.mul_add, Int32.ofNat_add]; rfl
theorem own_n32 {k : Nat} (q : k < 2 ^ 31) : (Int32.ofNat k).toNatClampNeg = k := Int32.toNatClampNeg_ofNat_of_lt q
theorem own_lt32 {a b : Nat} (hb : b < 2 ^ 31) (q : a < b) : Int32.ofNat a < Int32.ofNat b := (Int32.ofNat_lt_ofNat (by omega) hb).mpr q
theorem own_nlt32 {a b : Nat} (ha : a < 2 ^ 31) (q : b ≤ a) : ¬ Int32.ofNat a < Int32.ofNat b := fun h' => by have := (Int32.ofNat_lt_ofNat ha (by omega)).mp h'; omega
theorem own_nneg {k : Nat} (q : k < 2 ^ 31) : ¬ Int32.ofNat k < 0 := own_nlt32 (b := 0) q (Nat.zero_le _)
theorem own_pair {cl : Cell} {xs : List Int32} {n j : Nat} (hxs : cl.slots.toList = xs.map Value.int) (hlen : xs.length = 2 * n) (hj : j < n) : ∃ lo hi, xs.drop (2 * j) = lo :: hi :: xs.drop (2 * (j + 1)) ∧ cl.slots[2 * j]? = some (.int lo) ∧ cl.slots[2 * j + 1]? = some (.int hi) := by
  have h1 : 2 * j < xs.length := by omega
  have h2 : 2 * j + 1 < xs.length := by omega
  refine ⟨xs[2 * j], xs[2 * j + 1], ?_, ?_, ?_⟩
  · rw [List.drop_eq_getElem_cons h1, List.drop_eq_getElem_cons h2]; rfl
  · rw [← Array.getElem?_toList, hxs, List.getElem?_map, List.getElem?_eq_getElem h1]; rfl
  · rw [← Array.getElem?_toList, hxs, List.getElem?_map, List.getElem?_eq_getElem h2]; rfl
theorem own_size {cl : Cell} {xs : List Int32} {n : Nat} (hxs : cl.slots.toList = xs.map Value.int) (hlen : xs.length = 2 * n) : cl.slots.size = 2 * n := by
  rw [← Array.length_toList, hxs, List.length_map, hlen]
/-- the array's places from k on hold the list's ints -/
def own_Match (slots : Array Value) : Nat → List Int32 → Prop
  | _, [] => True
  | k, x :: r => slots[k]? = some (.int x) ∧ own_Match slots (k + 1) r
theorem own_match_at {slots : Array Value} : ∀ (xs : List Int32) (k i : Nat) (hi : i < xs.length), own_Match slots k xs → slots[k + i]? = some (.int xs[i])
  | x :: r, k, 0, _, M => M.1
  | x :: r, k, i + 1, hi, M => by
    have := own_match_at r (k + 1) i (Nat.lt_of_succ_lt_succ hi) M.2
    rw [show k + (i + 1) = k + 1 + i by omega]; exact this
theorem own_list {slots : Array Value} {xs : List Int32} (hs : slots.size = xs.length) (M : own_Match slots 0 xs) : slots.toList = xs.map Value.int := by
  apply List.ext_getElem?
  intro i
  rw [Array.getElem?_toList]
  by_cases hi : i < xs.length
  · have := own_match_at xs 0 i hi M
    rw [Nat.zero_add] at this
    rw [this, List.getElem?_map, List.getElem?_eq_getElem hi]; rfl
  · rw [List.getElem?_map, List.getElem?_eq_none (by omega), Array.getElem?_eq_none (by omega)]; rfl
theorem own_len {args : Array Value} {s : State} {t : Term} {a : Addr} {cl : Cell} {ty : FieldType} {k : Int32} {j : Nat} (hk : k.toNatClampNeg = j) (ev : t.eval args s none [] s = some (.ref a)) (A : Arr s s.heap a cl ty) (q : (Term.length t).eval args s none [] s = some (.int k)) : cl.slots.size = j := by
  have hA : s.arrayAt? a = some cl := Arr.fin (Vm.Alike.refl _) A
  by_cases hl : cl.slots.size < 2 ^ 31
  · rw [len_f ev hA hl] at q
    have e := Value.int.inj (Option.some.inj q)
    rw [← hk, ← e]; exact (own_n32 hl).symm
  · exfalso
    simp [Term.eval, ev, hA] at q
    omega
theorem own_elem {args : Array Value} {s : State} {t : Term} {a : Addr} {cl : Cell} {ty : FieldType} {k : Int32} {j : Nat} {v : Value} (hk : k.toNatClampNeg = j) (ev : t.eval args s none [] s = some (.ref a)) (A : Arr s s.heap a cl ty) (q : (Term.elem t (Term.int k)).eval args s none [] s = some v) : cl.slots[j]? = some v := by
  have e := (elem_in q ev (Term.int_eval k) A.1).2
  rwa [hk] at e
theorem own_alenA {p : Program} {l : Launch} {e : Env} {R : Room} {s : State} {m : MethodId} {args : Array Value} {below : List Frame} {meth : Method} {c : Code} {T : State} {locs : List Loc} {cells slots : Nat} {Z : State} {h : Heap} {K N : Nat} {Q : Option Value → Heap → List Loc → Prop} {a : Addr} {cl : Cell} {ty : FieldType}
    (X : Stand p l e R s m args below meth c T locs cells slots) (hx : p.tables.exec = Jvm.exec) (hZ : Z.Warmed39 s.vm) (eT : T.heap = h) (A : Arr Z h a cl ty) {pc : Nat} {Ls : Array Slot} {st : List Value} {z : Int32} (hz : cl.slots.size.toInt32 = z) (hd : decode c.code pc = .ok (.arraylength, 1)) (H : own_Fin p e s below K N Q T (mkF m (pc + 1) Ls (.int z :: st))) : own_Fin p e s below K N Q T (mkF m pc Ls (.ref a :: st)) := by
  subst hz
  exact own_step (fun _ k => Stand.arraylength X hx (by rw [eT]; exact A.1) (State.isArrayOf_alike hZ.alike A.2.1) (g := mkF m pc Ls (.ref a :: st)) rfl rfl hd _ k) H
theorem own_ildA {p : Program} {l : Launch} {e : Env} {R : Room} {s : State} {m : MethodId} {args : Array Value} {below : List Frame} {meth : Method} {c : Code} {T : State} {locs : List Loc} {cells slots : Nat} {Z : State} {h : Heap} {K N : Nat} {Q : Option Value → Heap → List Loc → Prop} {a : Addr} {cl : Cell}
    (X : Stand p l e R s m args below meth c T locs cells slots) (hx : p.tables.exec = Jvm.exec) (hZ : Z.Warmed39 s.vm) (eT : T.heap = h) (A : Arr Z h a cl .int) {j : Int32} {v : Value} (hin : ¬ (j < 0 ∨ cl.slots.size ≤ j.toNatClampNeg)) (hv : cl.slots[j.toNatClampNeg]? = some v)
    {pc : Nat} {Ls : Array Slot} {st : List Value} (hd : decode c.code pc = .ok (.iaload, 1)) (H : own_Fin p e s below K N Q T (mkF m (pc + 1) Ls (v :: st))) : own_Fin p e s below K N Q T (mkF m pc Ls (.int j :: .ref a :: st)) :=
  own_step (fun _ k => Stand.iaload X hx (by rw [eT]; exact A.1) (State.isArrayOf_alike hZ.alike A.2.1) A.2.2 hin hv (g := mkF m pc Ls (.int j :: .ref a :: st)) rfl rfl hd _ k) H
end OwnRanges
section OwnJdk
variable {p : Program} {l : Launch} {e : Env} {R : Room} {s : State} {m : MethodId} {args : Array Value} {below : List Frame} {meth : Method} {c : Code} {T T' : State} {locs : List Loc} {cells slots : Nat} {Z : State} {a0 : Array Value} {h h0 : Heap} {K N n0 : Nat} {Q : Option Value → Heap → List Loc → Prop}
/-- a method that returns nothing, writes nothing and makes nothing -/
def own_Q0v (h : Heap) (v : Option Value) (h' : Heap) (L : List Loc) : Prop := v = none ∧ L = [] ∧ h' = h
theorem own_retV (X : Stand p l e R s m args below meth c T locs cells slots) (hx : p.tables.exec = Jvm.exec) (hret : meth.sig.returnType = none) (hlk : meth.locks = false) {pc : Nat} {Ls : Array Slot} (hd : decode c.code pc = .ok (.return_, 1))
    (hQ : Q none T.heap locs) (hk : cells ≤ K) (hn : slots ≤ N) : own_Fin p e s below K N Q T (mkF m pc Ls []) :=
  own_end X (v := none) (fun _ => rfl) hlk (fun _ hr => X.returnOut hx hret hd hr) hQ hk hn
theorem own_retI (X : Stand p l e R s m args below meth c T locs cells slots) (hx : p.tables.exec = Jvm.exec) (hret : meth.sig.returnType = some .int) (hlk : meth.locks = false) {pc : Nat} {Ls : Array Slot} {z : Int32} {rest : List Value} (hd : decode c.code pc = .ok (.ireturn, 1))
    (hQ : Q (some (.int z)) T.heap locs) (hk : cells ≤ K) (hn : slots ≤ N) : own_Fin p e s below K N Q T (mkF m pc Ls (.int z :: rest)) :=
  own_end X (v := some (.int z)) (fun q => by rw [hret] at q; cases q) hlk (fun _ hr => retOut X hx (i := .ireturn) hret rfl (Or.inl ⟨rfl, Or.inl rfl, z, rfl⟩) hd hr) hQ hk hn
theorem own_bodyF {y : MethodName} {bytes : ByteArray} {maxL : Nat} {ret : Option FieldType} {ws : List Jvm.Cond} {rm : Room} {as' : Array Value} (hpn : plainFor y = true)
    (F : ∀ (p : Program) (e : Env) (s : State) (m : MethodId) (below : List Frame) (meth : Method) (c : Code) (s₁ : State), p.tables.exec = Jvm.exec → c.code = bytes → c.maxLocals = maxL → Z.Warmed39 s.vm → s.vm.findClass y.cls = some m.cls → meth.name = y.name → meth.sig.returnType = ret → meth.locks = false →
      Stand p l e rm s m as' below meth c s₁ [] 0 0 → s₁.heap = h → own_Fin p e s below rm.cells rm.slots Q s₁ (entryFrame m as' maxL)) : own_Met l Z y bytes maxL ret ws rm as' h Q := by
  refine MetFree.of_bodySF hpn hisR ?_
  intro p e s m args below meth c s₁ Bd hml0 hP hK
  obtain ⟨rfl, hZ, hh⟩ := hP
  exact F p e s m below meth c s₁ Bd.exec Bd.bytes hml0 hZ (findClass_of_methodNamed Bd.named) (name_of_methodNamed Bd.named Bd.method).1 Bd.returns Bd.notSynchronized (Stand.of_body Bd) (by rw [← hh, Bd.state]; rfl)
theorem own_initO (X : Stand p l e R s m args below meth c T locs cells slots) (hx : p.tables.exec = Jvm.exec) (hZ : Z.Warmed39 s.vm) {own : String} {idx : Nat} (hown : s.vm.findClass own = some m.cls) (w1 : (Jvm.Cond.methodLink own idx Lib.objectInit).before a0 Z = true) (w2 : (Jvm.Cond.instanceMethod Lib.objectInit).before a0 Z = true) (w3 : (Jvm.Cond.code Lib.objectInit object_method_1_code 1 none).before a0 Z = true)
    (eT : T.heap = h) {pc : Nat} {Ls : Array Slot} (hml : c.maxLocals = Ls.size) {a : Addr} {rest : List Value} (W : Nat) (hW : (rest.map fun v => v.category).sum ≤ W) (hf : 1 ≤ R.frames) (hl : W + 12 ≤ R.locals) (hd : decode c.code pc = .ok (.invokespecial idx, 3))
    (H : ∀ T', Stand p l e R s m args below meth c T' locs cells slots → T'.heap = h → own_Fin p e s below K N Q T' (mkF m (pc + 3) Ls rest)) : own_Fin p e s below K N Q T (mkF m pc Ls (.ref a :: rest)) := by
  obtain ⟨T', X', e', st'⟩ := initO X hx hZ hown w1 w2 w3 eT (g := mkF m pc Ls (.ref a :: rest)) rfl (by rw [hml]) rfl hd hf (W := W) (by show 2 * 0 + _ ≤ _; omega) hl
  exact own_step st' (H T' X' e')
theorem own_newO (X : Stand p l e R s m args below meth c T locs cells slots) (hx : p.tables.exec = Jvm.exec) (hZ : Z.Warmed39 s.vm) {own C : String} {index n : Nat} (hown : s.vm.findClass own = some m.cls) (w1 : (Jvm.Cond.classLink own index C).before a0 Z = true) (w2 : (Jvm.Cond.instantiable C n).before a0 Z = true) (w3 : (Jvm.Cond.initialized C).before a0 Z = true) (eT : T.heap = h)
    {pc : Nat} {Ls : Array Slot} {st : List Value} (hc : cells + 1 ≤ R.cells) (hl : slots + n ≤ R.slots) (hd : decode c.code pc = .ok (.new index, 3))
    (H : ∀ T' h', Stand p l e R s m args below meth c T' locs (cells + 1) (slots + n) → T'.heap = h' → Ext h h' → Exa Z h' h.size C → (∀ {O nm d : String} {ty : FieldType}, Laid Z a0 C O nm d → parseFieldDescriptor d = some ty → Fld Z h' h.size O nm d (defaultValue ty)) → own_Fin p e s below K N Q T' (mkF m (pc + 3) Ls (.ref h.size :: st))) : own_Fin p e s below K N Q T (mkF m pc Ls st) := by
  obtain ⟨T', h', X', e', E', A', D', -, st'⟩ := newO X hx hZ hown w1 w2 w3 eT (g := mkF m pc Ls st) rfl hd hc hl
  exact own_step st' (H T' h' X' e' E' A' D')
theorem own_putF (X : Stand p l e R s m args below meth c T locs cells slots) (hx : p.tables.exec = Jvm.exec) (hZ : Z.Warmed39 s.vm) {own R0 O n d C : String} {index kk : Nat} {ty : FieldType} (hown : s.vm.findClass own = some m.cls) (w : (Jvm.Cond.fieldLink own index R0 n d).before a0 Z = true) (via : Via Z R0 O n d) (eT : T.heap = h) {a : Addr} {v old : Value} (F : Fld Z h a O n d old) (E : Exa Z h a C)
    (L : (Jvm.Cond.lays C O n d).before a0 Z = true ∨ ((Jvm.Cond.laysFinal C O n d).before a0 Z = true ∧ own = O ∧ meth.name = "<init>")) (wi : (Jvm.Cond.instantiable C kk).before a0 Z = true) (hty : parseFieldDescriptor d = some ty) (hn : narrow ty v = v) (hf : fits ty v = true) (F0 : Fr n0 locs) (ha : n0 ≤ a)
    {pc : Nat} {Ls : Array Slot} {st : List Value} (hd : decode c.code pc = .ok (.putfield index, 3))
    (H : ∀ T' h' locs', Stand p l e R s m args below meth c T' locs' cells slots → T'.heap = h' → Fr n0 locs' → Wr h h' a (Jvm.RoadKit.slotOf Z O n d) v → own_Fin p e s below K N Q T' (mkF m (pc + 3) Ls st)) : own_Fin p e s below K N Q T (mkF m pc Ls (v :: .ref a :: st)) := by
  obtain ⟨T', h', X', e', W', st'⟩ := putF (host := "") X hx hZ hown (Or.inl w) via eT F E L wi hty hn hf (g := mkF m pc Ls (v :: .ref a :: st)) rfl rfl hd
  exact own_step st' (H T' h' _ X' e' (own_fr_snoc F0 ha) W')
theorem own_getFV (X : Stand p l e R s m args below meth c T locs cells slots) (hx : p.tables.exec = Jvm.exec) (hZ : Z.Warmed39 s.vm) {own R0 O n d : String} {index : Nat} (hown : s.vm.findClass own = some m.cls) (w : (Jvm.Cond.fieldLink own index R0 n d).before a0 Z = true) (via : Via Z R0 O n d) (eT : T.heap = h) {a : Addr} {v : Value} (F : Fld Z h a O n d v)
    {pc : Nat} {Ls : Array Slot} {st : List Value} (hd : decode c.code pc = .ok (.getfield index, 3)) (H : ∀ T', Stand p l e R s m args below meth c T' locs cells slots → T'.heap = h → own_Fin p e s below K N Q T' (mkF m (pc + 3) Ls (v :: st))) : own_Fin p e s below K N Q T (mkF m pc Ls (.ref a :: st)) := by
  obtain ⟨T', X', e', st'⟩ := getF (host := "") X hx hZ hown (Or.inl w) via eT F (g := mkF m pc Ls (.ref a :: st)) rfl rfl hd
  exact own_step st' (H T' X' e')
theorem own_getSN (X : Stand p l e R s m args below meth c T locs cells slots) (hx : p.tables.exec = Jvm.exec) (hZ : Z.Warmed39 s.vm) {own O n d host : String} {index : Nat} (hown : s.vm.findClass own = some m.cls) (w : (Jvm.Cond.fieldLinkNest own index O n d host).before a0 Z = true) (eT : T.heap = h) {v : Value} (F : Sta Z h O n d v)
    {pc : Nat} {Ls : Array Slot} {st : List Value} (hd : decode c.code pc = .ok (.getstatic index, 3)) (H : ∀ T', Stand p l e R s m args below meth c T' locs cells slots → T'.heap = h → own_Fin p e s below K N Q T' (mkF m (pc + 3) Ls (v :: st))) : own_Fin p e s below K N Q T (mkF m pc Ls st) := by
  obtain ⟨T', X', e', st'⟩ := getS2 (host := host) X hx hZ hown (Or.inr w) Via.refl eT F (g := mkF m pc Ls st) rfl hd
  exact own_step st' (H T' X' e')
/-- what a call by a contract gives, taken as a step -/
theorem own_back {g : JFrame} {len : Nat} {rest : List Value} {rm : Room} {Q' : Option Value → Heap → List Loc → Prop}
    (r : ∃ (v : Option Value) (vm₁ : Vm) (B : Pt), s.WarmedH vm₁ ∧ Stand p l e R s m args below meth c B.U B.locs B.cells B.slots ∧ (∃ L, Q' v B.U.heap L ∧ B.locs = locs ++ L ∧ B.cells = cells + rm.cells ∧ B.slots = slots + rm.slots) ∧ Steps p.tables e below (T.setTop g) (B.U.setTop { g with pc := g.pc + len, stack := v.toList ++ rest }))
    (H : ∀ T' L v, Stand p l e R s m args below meth c T' (locs ++ L) (cells + rm.cells) (slots + rm.slots) → Q' v T'.heap L → own_Fin p e s below K N Q T' { g with pc := g.pc + len, stack := v.toList ++ rest }) : own_Fin p e s below K N Q T g := by
  obtain ⟨v, _, ⟨T', L', k', n'⟩, -, X', ⟨Lc, hQ, l', y', z'⟩, st'⟩ := r
  dsimp only [Pt.U, Pt.locs, Pt.cells, Pt.slots] at X' l' y' z' st' hQ
  subst l' y' z'
  exact own_step (fun _ k => st'.trans k) (H T' Lc v X' hQ)
/-- a constructor by its contract -/
theorem own_callN (X : Stand p l e R s m args below meth c T locs cells slots) (hx : p.tables.exec = Jvm.exec) (hZ : Z.Warmed39 s.vm) {own : String} {index : Nat} {y : MethodName} {bytes : ByteArray} {maxL : Nat} {rm : Room} {Q' : Option Value → Heap → List Loc → Prop} {b : Addr} {argsL rest : List Value} (hyn : y.name = "<init>")
    (hown : s.vm.findClass own = some m.cls) (w1 : (Jvm.Cond.methodLink own index y).before a0 Z = true) (w2 : (Jvm.Cond.instanceMethod y).before a0 Z = true) (w3 : (Jvm.Cond.code y bytes maxL none).before a0 Z = true) (w4 : (Jvm.Cond.initialized y.cls).before a0 Z = true)
    (hy : y.cls ≠ "java/lang/invoke/MethodHandle" ∧ y.cls ≠ "java/lang/invoke/VarHandle") (M : own_Met l Z y bytes maxL none [] rm (.ref b :: argsL).toArray h Q') (eT : T.heap = h) (W : Nat) (hW : (rest.map fun v => v.category).sum ≤ W) (hf : rm.frames + 1 ≤ R.frames) (hl : W + (maxL + 11) + rm.locals ≤ R.locals) (hc : cells + rm.cells ≤ R.cells) (hs : slots + rm.slots ≤ R.slots)
    {pc : Nat} {Ls : Array Slot} {st : List Value} (hml : c.maxLocals = Ls.size) {ps : List FieldType} {r : Option FieldType} (hsig : parseMethodDescriptor y.desc = some ⟨ps, r⟩) (hlen : argsL.length = ps.length) (hst : st = argsL.reverse ++ .ref b :: rest) (hd : decode c.code pc = .ok (.invokespecial index, 3))
    (H : ∀ T' L v, Stand p l e R s m args below meth c T' (locs ++ L) (cells + rm.cells) (slots + rm.slots) → Q' v T'.heap L → own_Fin p e s below K N Q T' (mkF m (pc + 3) Ls (v.toList ++ rest))) : own_Fin p e s below K N Q T (mkF m pc Ls st) :=
  own_back (X.specialBack hx (y := y) hyn hown (mvT hZ w1) (mvT hZ w2) (mvT hZ w3) hy (backOf (W := W) M hZ w3 w4 hf hl) (g := mkF m pc Ls st) rfl (by rw [hml]) (Steps.refl _) (argsL := argsL) (rest := rest) (lenOf hsig hlen) hst (by show 2 * 0 + _ ≤ _; omega) hd (fun _ _ => ⟨rfl, eT, hc, hs⟩)) H
theorem own_mvMN {own host : String} {index : Nat} {y : MethodName} (hZ : Z.Warmed39 s.vm) (w : (Jvm.Cond.methodLinkNest own index y host).before a0 Z = true) : (Jvm.Cond.methodLinkNest own index y host).before args s = true := (Cond.methodLinkNest_wide hZ w :)
theorem own_callNN (X : Stand p l e R s m args below meth c T locs cells slots) (hx : p.tables.exec = Jvm.exec) (hZ : Z.Warmed39 s.vm) {own host : String} {index : Nat} {y : MethodName} {bytes : ByteArray} {maxL : Nat} {rm : Room} {Q' : Option Value → Heap → List Loc → Prop} {b : Addr} {argsL rest : List Value} (hyn : y.name = "<init>")
    (hown : s.vm.findClass own = some m.cls) (w1 : (Jvm.Cond.methodLinkNest own index y host).before a0 Z = true) (w2 : (Jvm.Cond.instanceMethod y).before a0 Z = true) (w3 : (Jvm.Cond.code y bytes maxL none).before a0 Z = true) (w4 : (Jvm.Cond.initialized y.cls).before a0 Z = true)
    (hy : y.cls ≠ "java/lang/invoke/MethodHandle" ∧ y.cls ≠ "java/lang/invoke/VarHandle") (M : own_Met l Z y bytes maxL none [] rm (.ref b :: argsL).toArray h Q') (eT : T.heap = h) (W : Nat) (hW : (rest.map fun v => v.category).sum ≤ W) (hf : rm.frames + 1 ≤ R.frames) (hl : W + (maxL + 11) + rm.locals ≤ R.locals) (hc : cells + rm.cells ≤ R.cells) (hs : slots + rm.slots ≤ R.slots)
    {pc : Nat} {Ls : Array Slot} {st : List Value} (hml : c.maxLocals = Ls.size) {ps : List FieldType} {r : Option FieldType} (hsig : parseMethodDescriptor y.desc = some ⟨ps, r⟩) (hlen : argsL.length = ps.length) (hst : st = argsL.reverse ++ .ref b :: rest) (hd : decode c.code pc = .ok (.invokespecial index, 3))
    (H : ∀ T' L v, Stand p l e R s m args below meth c T' (locs ++ L) (cells + rm.cells) (slots + rm.slots) → Q' v T'.heap L → own_Fin p e s below K N Q T' (mkF m (pc + 3) Ls (v.toList ++ rest))) : own_Fin p e s below K N Q T (mkF m pc Ls st) :=
  own_back (X.specialBackNest hx (y := y) hyn hown (own_mvMN hZ w1) (mvT hZ w2) (mvT hZ w3) hy (backOf (W := W) M hZ w3 w4 hf hl) (g := mkF m pc Ls st) rfl (by rw [hml]) (Steps.refl _) (argsL := argsL) (rest := rest) (lenOf hsig hlen) hst (by show 2 * 0 + _ ≤ _; omega) hd (fun _ _ => ⟨rfl, eT, hc, hs⟩)) H
/-- a private method by its contract -/
theorem own_callP (X : Stand p l e R s m args below meth c T locs cells slots) (hx : p.tables.exec = Jvm.exec) (hZ : Z.Warmed39 s.vm) {own C : String} {index : Nat} {y : MethodName} {bytes : ByteArray} {maxL : Nat} {ret : Option FieldType} {rm : Room} {Q' : Option Value → Heap → List Loc → Prop} {b : Addr} {argsL rest : List Value}
    (hown : s.vm.findClass own = some m.cls) (w1 : (Jvm.Cond.methodLink own index y).before a0 Z = true) (w2 : (Jvm.Cond.instanceMethod y).before a0 Z = true) (w3 : (Jvm.Cond.selects y.cls y y).before a0 Z = true) (w4 : (Jvm.Cond.privateMethod y).before a0 Z = true) (w5 : (Jvm.Cond.code y bytes maxL ret).before a0 Z = true) (w6 : (Jvm.Cond.initialized y.cls).before a0 Z = true)
    (hy : y.cls ≠ "java/lang/invoke/MethodHandle" ∧ y.cls ≠ "java/lang/invoke/VarHandle") (E : Exa Z h b C) (M : own_Met l Z y bytes maxL ret [] rm (.ref b :: argsL).toArray h Q') (eT : T.heap = h) (W : Nat) (hW : (rest.map fun v => v.category).sum ≤ W) (hf : rm.frames + 1 ≤ R.frames) (hl : W + (maxL + 11) + rm.locals ≤ R.locals) (hc : cells + rm.cells ≤ R.cells) (hs : slots + rm.slots ≤ R.slots)
    {pc : Nat} {Ls : Array Slot} {st : List Value} (hml : c.maxLocals = Ls.size) {ps : List FieldType} {r : Option FieldType} (hsig : parseMethodDescriptor y.desc = some ⟨ps, r⟩) (hlen : argsL.length = ps.length) (hst : st = argsL.reverse ++ .ref b :: rest) (hd : decode c.code pc = .ok (.invokevirtual index, 3))
    (H : ∀ T' L v, Stand p l e R s m args below meth c T' (locs ++ L) (cells + rm.cells) (slots + rm.slots) → Q' v T'.heap L → own_Fin p e s below K N Q T' (mkF m (pc + 3) Ls (v.toList ++ rest))) : own_Fin p e s below K N Q T (mkF m pc Ls st) := by
  obtain ⟨cq, q1, q2⟩ := E.cell
  exact own_back (X.privateBack hx (y := y) hown (mvT hZ w1) (mvT hZ w2) (mvT hZ w3) (Cond.privateMethod_at (mvP hZ w4 (args := #[]))) (mvT hZ w5) hy (backOf (W := W) M hZ w5 w6 hf hl) (g := mkF m pc Ls st) rfl (by rw [hml]) (Steps.refl _) (a := b) (by rw [eT]; exact q1) q2 (argsL := argsL) (rest := rest) (lenOf hsig hlen) hst (by show 2 * 0 + _ ≤ _; omega) hd (fun _ _ => ⟨rfl, eT, hc, hs⟩)) H
/-- an interface's method by the contract of the body that the receiver's class selects -/
theorem own_callI (X : Stand p l e R s m args below meth c T locs cells slots) (hx : p.tables.exec = Jvm.exec) (hZ : Z.Warmed39 s.vm) {own C : String} {index count : Nat} {xi y : MethodName} {bytes : ByteArray} {maxL : Nat} {ret : Option FieldType} {rm : Room} {Q' : Option Value → Heap → List Loc → Prop} {b : Addr} {argsL rest : List Value}
    (hown : s.vm.findClass own = some m.cls) (w1 : (Jvm.Cond.methodLink own index xi).before a0 Z = true) (w2 : (Jvm.Cond.declares xi).before a0 Z = true) (w3 : (Jvm.Cond.interfaceMethod xi.cls xi.cls xi.name xi.desc).before a0 Z = true) (w4 : (Jvm.Cond.selects C xi y).before a0 Z = true) (w5 : (Jvm.Cond.instanceMethod y).before a0 Z = true) (w6 : (Jvm.Cond.publicMethod y).before a0 Z = true) (w7 : (Jvm.Cond.unhidden C xi.name xi.desc).before a0 Z = true) (w8 : (Jvm.Cond.castable C xi.cls).before a0 Z = true) (w9 : (Jvm.Cond.code y bytes maxL ret).before a0 Z = true) (w10 : (Jvm.Cond.initialized y.cls).before a0 Z = true) (hfa : ((Jvm.Cond.interfaceMethod xi.cls xi.cls xi.name xi.desc).onTables && (Jvm.Cond.interfaceMethod xi.cls xi.cls xi.name xi.desc).keepsFace) = true)
    (hy : xi.cls ≠ "java/lang/invoke/MethodHandle" ∧ xi.cls ≠ "java/lang/invoke/VarHandle") (E : Exa Z h b C) (M : own_Met l Z y bytes maxL ret [] rm (.ref b :: argsL).toArray h Q') (eT : T.heap = h) (W : Nat) (hW : (rest.map fun v => v.category).sum ≤ W) (hf : rm.frames + 1 ≤ R.frames) (hl : W + (maxL + 11) + rm.locals ≤ R.locals) (hc : cells + rm.cells ≤ R.cells) (hs : slots + rm.slots ≤ R.slots)
    {pc : Nat} {Ls : Array Slot} {st : List Value} (hml : c.maxLocals = Ls.size) {ps : List FieldType} {r : Option FieldType} (hsig : parseMethodDescriptor xi.desc = some ⟨ps, r⟩) (hlen : argsL.length = ps.length) (hst : st = argsL.reverse ++ .ref b :: rest) (hd : decode c.code pc = .ok (.invokeinterface index count, 5))
    (H : ∀ T' L v, Stand p l e R s m args below meth c T' (locs ++ L) (cells + rm.cells) (slots + rm.slots) → Q' v T'.heap L → own_Fin p e s below K N Q T' (mkF m (pc + 5) Ls (v.toList ++ rest))) : own_Fin p e s below K N Q T (mkF m pc Ls st) := by
  obtain ⟨cq, kq, q1, q2, q3⟩ := isOf hZ eT E
  exact own_back (X.interfaceBack hx (xi := xi) (y := y) hown (mvT hZ w1) (mvT hZ w2) (mvT hZ w3 hfa) (mvT hZ w4) (mvT hZ w5) (mvT hZ w6) (mvT hZ w7) (mvT hZ w8) hy (backOf (W := W) M hZ w9 w10 hf hl) q1 q2 q3 (g := mkF m pc Ls st) rfl (by rw [hml]) (Steps.refl _) (argsL := argsL) (rest := rest) (lenOf hsig hlen) hst (by show 2 * 0 + _ ≤ _; omega) hd (fun _ _ => ⟨rfl, eT, hc, hs⟩)) H
/-- the Class object of C stands -/
def own_Mir (Z : State) (C : String) (mr : Addr) : Prop := ∃ (c : ClassId) (k : Class), Z.vm.findClass C = some c ∧ Z.vm.classes[c]? = some k ∧ k.mirror = some mr
theorem own_mir_ev {C : String} {mr : Addr} (M : own_Mir Z C mr) (hZ : Z.Warmed39 s.vm) : (Term.mirror C).eval args s none [] s = some (.ref mr) := by
  obtain ⟨c1, k, f1, f2, f3⟩ := M
  obtain ⟨k', g1, g2⟩ := hZ.alike.2.2 _ _ f2
  have q1 : s.vm.findClass C = some c1 := by rw [hZ.alike.findClass]; exact f1
  have q2 : k'.mirror = some mr := by rw [g2]; exact f3
  simp [Term.eval, q1, g1, q2]
theorem own_ldcM (X : Stand p l e R s m args below meth c T locs cells slots) (hx : p.tables.exec = Jvm.exec) (hZ : Z.Warmed39 s.vm) {own C : String} {index : Nat} {mr : Addr} (hown : s.vm.findClass own = some m.cls) (w : (Jvm.Cond.classLink own index C).before a0 Z = true) (M : own_Mir Z C mr) (eT : T.heap = h)
    {pc : Nat} {Ls : Array Slot} {st : List Value} (hd : decode c.code pc = .ok (.ldc index, 2)) (H : ∀ T', Stand p l e R s m args below meth c T' locs cells slots → T'.heap = h → own_Fin p e s below K N Q T' (mkF m (pc + 2) Ls (.ref mr :: st))) : own_Fin p e s below K N Q T (mkF m pc Ls st) := by
  obtain ⟨vm', X', st'⟩ := X.ldcMirror hx hown (mv hZ w) (own_mir_ev M hZ) (g := mkF m pc Ls st) rfl hd
  exact own_step st' (H _ X' eT)
theorem own_gcls (X : Stand p l e R s m args below meth c T locs cells slots) (hx : p.tables.exec = Jvm.exec) (hZ : Z.Warmed39 s.vm) {own C : String} {index : Nat} {mr a : Addr} (hown : s.vm.findClass own = some m.cls)
    (w1 : (Jvm.Cond.methodLink own index ⟨"java/lang/Object", "getClass", "()Ljava/lang/Class;"⟩).before a0 Z = true) (w2 : (Jvm.Cond.declares ⟨"java/lang/Object", "getClass", "()Ljava/lang/Class;"⟩).before a0 Z = true) (w3 : (Jvm.Cond.noSuperclass "java/lang/Object").before a0 Z = true) (w4 : (Jvm.Cond.selects C ⟨"java/lang/Object", "getClass", "()Ljava/lang/Class;"⟩ ⟨"java/lang/Object", "getClass", "()Ljava/lang/Class;"⟩).before a0 Z = true)
    (w5 : (Jvm.Cond.instanceMethod ⟨"java/lang/Object", "getClass", "()Ljava/lang/Class;"⟩).before a0 Z = true) (w6 : (Jvm.Cond.native ⟨"java/lang/Object", "getClass", "()Ljava/lang/Class;"⟩).before a0 Z = true) (eT : T.heap = h) (E : Exa Z h a C) (M : own_Mir Z C mr)
    {pc : Nat} {Ls : Array Slot} {rest : List Value} (hml : c.maxLocals = Ls.size) (hf : 1 ≤ R.frames) (W : Nat) (hW : (rest.map fun v => v.category).sum ≤ W) (hl : W + (nativeFrameWords "java/lang/Object" "getClass" 1 + 11) ≤ R.locals) (hd : decode c.code pc = .ok (.invokevirtual index, 3))
    (H : ∀ T', Stand p l e R s m args below meth c T' locs cells slots → T'.heap = h → own_Fin p e s below K N Q T' (mkF m (pc + 3) Ls (.ref mr :: rest))) : own_Fin p e s below K N Q T (mkF m pc Ls (.ref a :: rest)) := by
  obtain ⟨cB, kB, i1, i2, i3⟩ := isOf hZ eT E
  obtain ⟨cc, kc, m1, m2, m3⟩ := M
  rw [hZ.alike.findClass] at i1
  cases i1.symm.trans m1
  obtain ⟨k', q, ek⟩ := hZ.alike.2.2 _ _ m2
  obtain ⟨vm', X', st'⟩ := X.getClassOf hx hown (mvT hZ w1) (mvT hZ w2) (nf_top (args := #[]) (mvT hZ w3)) (mvT hZ w4) (mvT hZ w5) (mvT hZ w6) (by rw [hZ.alike.findClass]; exact m1) i3 q (by rw [ek]; exact m3) (g := mkF m pc Ls (.ref a :: rest)) rfl (by rw [hml]) rfl hd hf (by show 2 * 0 + _ + _ ≤ _; omega)
  exact own_step st' (H _ X' eT)
/-- anewarray, the length within cap -/
theorem own_newRE (X : Stand p l e R s m args below meth c T locs cells slots) (hx : p.tables.exec = Jvm.exec) (hZ : Z.Warmed39 s.vm) {own C : String} {index : Nat} (hown : s.vm.findClass own = some m.cls) (w1 : (Jvm.Cond.classLink own index C).before a0 Z = true) (w2 : (Jvm.Cond.arrayOver (.object C)).before a0 Z = true)
    (eT : T.heap = h) {pc : Nat} {Ls : Array Slot} {n : Int32} {st : List Value} (cap : Nat) (hn : ¬ n < 0) (hcap : n.toNatClampNeg ≤ cap) (hb8 : cap * 8 ≤ 536870912) (hc : cells + 1 ≤ R.cells) (hl : slots + cap ≤ R.slots) {ad : String} (had : "[" ++ (FieldType.object C).toString = ad) (hd : decode c.code pc = .ok (.anewarray index, 3))
    (H : ∀ T' h' k, Stand p l e R s m args below meth c T' locs (cells + 1) (slots + cap) → T'.heap = h' → Ext h h' → Arv Z h' h.size k (.object C) n [] .null → Ovr Z k C → Exa Z h' h.size ad → own_Fin p e s below K N Q T' (mkF m (pc + 3) Ls (.ref h.size :: st))) : own_Fin p e s below K N Q T (mkF m pc Ls (.int n :: st)) := by
  obtain ⟨T', h', cA, X', e', E', A', F', O', st'⟩ := newRE X hx hZ hown w1 w2 eT (g := mkF m pc Ls (.int n :: st)) rfl hd rfl hn (cap := cap) hcap hb8 hc hl had
  exact own_step st' (H T' h' cA X' e' E' (Arv.new A' hn) O' F')
theorem own_newPE (X : Stand p l e R s m args below meth c T locs cells slots) (hx : p.tables.exec = Jvm.exec) (hZ : Z.Warmed39 s.vm) {aty : ArrayType} (w : (Jvm.Cond.arrayClass (newarray.typeOf aty)).before a0 Z = true)
    (eT : T.heap = h) {pc : Nat} {Ls : Array Slot} {n : Int32} {st : List Value} (cap : Nat) (hn : ¬ n < 0) (hcap : n.toNatClampNeg ≤ cap) (hb8 : cap * 8 ≤ 536870912) (hc : cells + 1 ≤ R.cells) (hl : slots + cap ≤ R.slots) {ad : String} (had : "[" ++ (newarray.typeOf aty).toString = ad) (hd : decode c.code pc = .ok (.newarray aty, 2))
    (H : ∀ T' h' k, Stand p l e R s m args below meth c T' locs (cells + 1) (slots + cap) → T'.heap = h' → Ext h h' → Arv Z h' h.size k (newarray.typeOf aty) n [] (defaultValue (newarray.typeOf aty)) → Exa Z h' h.size ad → own_Fin p e s below K N Q T' (mkF m (pc + 2) Ls (.ref h.size :: st))) : own_Fin p e s below K N Q T (mkF m pc Ls (.int n :: st)) := by
  obtain ⟨T', h', cA, X', e', E', A', F', st'⟩ := newPE X hx hZ w eT (g := mkF m pc Ls (.int n :: st)) rfl hd rfl hn (cap := cap) hcap hb8 hc hl had
  exact own_step st' (H T' h' cA X' e' E' (Arv.new A' hn) F')
/-- a reference stored at the first place that isn't yet told -/
theorem own_stRV (X : Stand p l e R s m args below meth c T locs cells slots) (hx : p.tables.exec = Jvm.exec) (hZ : Z.Warmed39 s.vm) (eT : T.heap = h) {a y : Addr} {k : ClassId} {z j : Int32} {vs : List Value} {C : String} (A : Arv Z h a k (.object C) z vs .null) (O : Ovr Z k C) (I : Ins Z h y C true) (F : Fr n0 locs) (hn0 : n0 ≤ a)
    (hj : ¬ j < 0) (hi : j.toNatClampNeg = vs.length) (hz : vs.length < z.toNatClampNeg) {pc : Nat} {Ls : Array Slot} {st : List Value} (hd : decode c.code pc = .ok (.aastore, 1))
    (H : ∀ T' h' locs', Stand p l e R s m args below meth c T' locs' cells slots → T'.heap = h' → Fr n0 locs' → Wr h h' a vs.length (.ref y) → Arv Z h' a k (.object C) z (vs ++ [.ref y]) .null → own_Fin p e s below K N Q T' (mkF m (pc + 1) Ls st)) : own_Fin p e s below K N Q T (mkF m pc Ls (.ref y :: .int j :: .ref a :: st)) := by
  obtain ⟨cl, A1, A2, A3, A4, A5, A6⟩ := A.pad (pad_rep vs .null 1)
  obtain ⟨T', h', X', e', W', st'⟩ := stR X hx hZ eT A1 (j := j) (v := .ref y) (fun q => q.elim hj (by rw [hi, A3]; omega)) rfl (Sto.ofV A1 A2 O I) (g := mkF m pc Ls (.ref y :: .int j :: .ref a :: st)) rfl rfl hd
  have B := Arv.set A1 A2 A3 A4 A5 A6 (v := .ref y) rfl W' vs.length hi (by simp)
  have q : (vs ++ List.replicate 1 Value.null).set vs.length (.ref y) = vs ++ [.ref y] := by simp
  rw [q] at B
  rw [hi] at X' W'
  exact own_step st' (H T' h' _ X' e' (own_fr_snoc F hn0) W' B)
theorem own_aldV {a : Addr} {k : ClassId} {z j : Int32} {vs : List Value} {C : String} {v : Value} (X : Stand p l e R s m args below meth c T locs cells slots) (hx : p.tables.exec = Jvm.exec) (hZ : Z.Warmed39 s.vm) (eT : T.heap = h) (A : Arv Z h a k (.object C) z vs .null) (hj : ¬ j < 0) (hz : j.toNatClampNeg < z.toNatClampNeg) (hv : vs.getD j.toNatClampNeg .null = v)
    {pc : Nat} {Ls : Array Slot} {st : List Value} (hd : decode c.code pc = .ok (.aaload, 1)) (H : own_Fin p e s below K N Q T (mkF m (pc + 1) Ls (v :: st))) : own_Fin p e s below K N Q T (mkF m pc Ls (.int j :: .ref a :: st)) := by
  obtain ⟨cl, A1, A2, A3, A4, A5, A6⟩ := A
  exact own_step (fun _ k => Stand.aaload X hx (by rw [eT]; exact A1.1) (State.isArrayOf_alike hZ.alike A1.2.1) rfl A1.2.2 (fun q => q.elim hj (by rw [A3]; omega)) (by rw [← hv]; exact A5 _ (by rw [A3]; exact hz)) (g := mkF m pc Ls (.int j :: .ref a :: st)) rfl rfl hd _ k) H
theorem own_alenV {a : Addr} {k : ClassId} {z : Int32} {vs : List Value} {ty : FieldType} {dv : Value} (X : Stand p l e R s m args below meth c T locs cells slots) (hx : p.tables.exec = Jvm.exec) (hZ : Z.Warmed39 s.vm) (eT : T.heap = h) (A : Arv Z h a k ty z vs dv)
    {pc : Nat} {Ls : Array Slot} {st : List Value} (hd : decode c.code pc = .ok (.arraylength, 1)) (H : own_Fin p e s below K N Q T (mkF m (pc + 1) Ls (.int z :: st))) : own_Fin p e s below K N Q T (mkF m pc Ls (.ref a :: st)) := by
  obtain ⟨cl, A1, A2, A3, A4, A5, A6⟩ := A
  refine own_step (fun _ k => Stand.arraylength X hx (by rw [eT]; exact A1.1) (State.isArrayOf_alike hZ.alike A1.2.1) (g := mkF m pc Ls (.ref a :: st)) rfl rfl hd _ k) ?_
  rw [len_of A3 A4]
  exact H
theorem own_cpA (X : Stand p l e R s m args below meth c T locs cells slots) (hx : p.tables.exec = Jvm.exec) (hZ : Z.Warmed39 s.vm) {own : String} {index : Nat} (hown : s.vm.findClass own = some m.cls)
    (w1 : (Jvm.Cond.methodLink own index Jvm.Stand.acN).before a0 Z = true) (w2 : (Jvm.Cond.native Jvm.Stand.acN).before a0 Z = true) (w3 : (Jvm.Cond.static Jvm.Stand.acN).before a0 Z = true) (w4 : (Jvm.Cond.initialized "java/lang/System").before a0 Z = true) (eT : T.heap = h)
    {a b : Addr} {k k' : ClassId} {z z' nn : Int32} {vs : List Value} {C : String} (A : Arv Z h a k (.object C) z vs .null) (B : Arv Z h b k' (.object C) z' [] .null) (hS : StoL Z h b vs) (h3 : ¬ nn < 0) (h4 : nn.toNatClampNeg ≤ z.toNatClampNeg) (h5 : nn.toNatClampNeg = vs.length) (h6 : z'.toNatClampNeg = vs.length) (N1 : Fr n0 locs) (ge : n0 ≤ b)
    {pc : Nat} {Ls : Array Slot} {rest : List Value} (hml : c.maxLocals = Ls.size) (hf : 1 ≤ R.frames) (W : Nat) (hW : (rest.map fun v => v.category).sum ≤ W) (hlo : W + (nativeFrameWords "java/lang/System" "arraycopy" 5 + 11) ≤ R.locals) (hd : decode c.code pc = .ok (.invokestatic index, 3))
    (H : ∀ T' h' locs', Stand p l e R s m args below meth c T' locs' cells slots → T'.heap = h' → Fr n0 locs' → Keep h h' [b] → Arv Z h' b k' (.object C) z' vs .null → own_Fin p e s below K N Q T' (mkF m (pc + 3) Ls rest)) : own_Fin p e s below K N Q T (mkF m pc Ls (.int nn :: .int 0 :: .ref b :: .int 0 :: .ref a :: rest)) := by
  have e1 : vs = (List.range nn.toNatClampNeg).map fun i => vs.getD ((0 : Int32).toNatClampNeg + i) .null := by
    rw [h5]
    apply List.ext_getElem
    · simp
    · intro i q1 q2
      have z0 : (0 : Int32).toNatClampNeg = 0 := rfl
      simp [z0, q1]
  obtain ⟨T', h', L', X', e', N', K', A', st'⟩ := cpA X hx hZ hown w1 w2 w3 w4 eT A (B.pad (pad_rep [] .null vs.length)) (Or.inr ⟨rfl, rfl, hS⟩) (sp := 0) (dp := 0) (nn := nn) (by decide) (by decide) h3 (by show 0 + _ ≤ _; omega) (by show 0 + _ ≤ _; omega) e1 (by show 0 + _ ≤ _; simp [h5]) N1 ge (g := mkF m pc Ls (.int nn :: .int 0 :: .ref b :: .int 0 :: .ref a :: rest)) rfl (by rw [hml]) rfl hd hf (W := W) (by show 2 * 0 + _ ≤ _; omega) hlo
  have z0 : (0 : Int32).toNatClampNeg = 0 := rfl
  have q : (([] ++ List.replicate vs.length Value.null).take (0 : Int32).toNatClampNeg ++ vs ++ ([] ++ List.replicate vs.length Value.null).drop ((0 : Int32).toNatClampNeg + nn.toNatClampNeg)) = vs := by
    rw [z0, h5]; simp
  rw [q] at A'
  exact own_step st' (H T' h' L' X' e' N' K' A')
theorem own_cloneA (X : Stand p l e R s m args below meth c T locs cells slots) (hx : p.tables.exec = Jvm.exec) (hZ : Z.Warmed39 s.vm) {own ad : String} {index : Nat} (hown : s.vm.findClass own = some m.cls)
    (w1 : (Jvm.Cond.methodLink own index ⟨ad, "clone", "()Ljava/lang/Object;"⟩).before a0 Z = true) (w2 : (Jvm.Cond.sameMethod ad "java/lang/Object" "clone" "()Ljava/lang/Object;").before a0 Z = true) (w3 : (Jvm.Cond.native ⟨"java/lang/Object", "clone", "()Ljava/lang/Object;"⟩).before a0 Z = true)
    (w4 : (Jvm.Cond.instanceMethod ⟨"java/lang/Object", "clone", "()Ljava/lang/Object;"⟩).before a0 Z = true) (w5 : (Jvm.Cond.selects ad ⟨ad, "clone", "()Ljava/lang/Object;"⟩ ⟨"java/lang/Object", "clone", "()Ljava/lang/Object;"⟩).before a0 Z = true) (w6 : (Jvm.Cond.castable ad "java/lang/Cloneable").before a0 Z = true)
    (eT : T.heap = h) {a : Addr} {k : ClassId} {ty : FieldType} {z : Int32} {dv : Value} (A : Arv Z h a k ty z [] dv) (hz : z = 0) (E : Exa Z h a ad)
    {pc : Nat} {Ls : Array Slot} {rest : List Value} (hml : c.maxLocals = Ls.size) (hf : 1 ≤ R.frames) (W : Nat) (hW : (rest.map fun v => v.category).sum ≤ W) (hl : W + 14 ≤ R.locals) (hc : cells + 1 ≤ R.cells) (hsl : slots + 0 ≤ R.slots) (hd : decode c.code pc = .ok (.invokevirtual index, 3))
    (H : ∀ T' h', Stand p l e R s m args below meth c T' locs (cells + 1) (slots + 0) → T'.heap = h' → Ext h h' → Exa Z h' h.size ad → own_Fin p e s below K N Q T' (mkF m (pc + 3) Ls (.ref h.size :: rest))) : own_Fin p e s below K N Q T (mkF m pc Ls (.ref a :: rest)) := by
  obtain ⟨cl, A1, A2, A3, A4, A5, A6⟩ := A
  have s0 : cl.slots.size = 0 := by rw [A3, hz]; rfl
  have F : FitC Z cl := fun i v hv => by have := (Array.getElem?_eq_some_iff.mp hv).1; omega
  obtain ⟨T', h', X', e', E', -, B', st'⟩ := cloneA X hx hZ hown w1 w2 w3 w4 w5 w6 eT A1 E F (g := mkF m pc Ls (.ref a :: rest)) rfl (by rw [hml]) rfl hd hf (W := W) (cap := 0) (by show 2 * 0 + _ ≤ _; omega) hl (Nat.le_of_eq s0) hc hsl
  exact own_step st' (H T' h' X' e' E' B')
theorem own_cast (X : Stand p l e R s m args below meth c T locs cells slots) (hx : p.tables.exec = Jvm.exec) (hZ : Z.Warmed39 s.vm) {own K0 : String} {index : Nat} (hown : s.vm.findClass own = some m.cls) (w : (Jvm.Cond.classLink own index K0).before a0 Z = true) (eT : T.heap = h) {a : Addr} (F : Ins Z h a K0 true)
    {pc : Nat} {Ls : Array Slot} {st : List Value} (hd : decode c.code pc = .ok (.checkcast index, 3)) (H : ∀ T', Stand p l e R s m args below meth c T' locs cells slots → T'.heap = h → own_Fin p e s below K N Q T' (mkF m (pc + 3) Ls (.ref a :: st))) : own_Fin p e s below K N Q T (mkF m pc Ls (.ref a :: st)) := by
  obtain ⟨T', X', e', st'⟩ := castY X hx hZ hown w eT F (g := mkF m pc Ls (.ref a :: st)) rfl rfl hd
  exact own_step st' (H T' X' e')
theorem own_inst (X : Stand p l e R s m args below meth c T locs cells slots) (hx : p.tables.exec = Jvm.exec) (hZ : Z.Warmed39 s.vm) {own K0 C : String} {index : Nat} (hown : s.vm.findClass own = some m.cls) (w : (Jvm.Cond.classLink own index K0).before a0 Z = true) (eT : T.heap = h) {a : Addr} (E : Exa Z h a C) (F : ∃ c t, Z.vm.findClass C = some c ∧ Z.vm.findClass K0 = some t ∧ Z.vm.assignable c t = false)
    {pc : Nat} {Ls : Array Slot} {st : List Value} (hd : decode c.code pc = .ok (.instanceof index, 3)) (H : ∀ T', Stand p l e R s m args below meth c T' locs cells slots → T'.heap = h → own_Fin p e s below K N Q T' (mkF m (pc + 3) Ls (.int 0 :: st))) : own_Fin p e s below K N Q T (mkF m pc Ls (.ref a :: st)) := by
  obtain ⟨T', X', e', st'⟩ := instNo X hx hZ hown w eT E F (g := mkF m pc Ls (.ref a :: st)) rfl rfl hd
  exact own_step st' (H T' X' e')
/-- three steps up to Object, none of them K0, a class that can be made: so no K0 -/
theorem own_notOf {C S1 S2 O K0 : String} {kk : Nat} (w1 : (Jvm.Cond.superclass C S1).before a0 Z = true) (w2 : (Jvm.Cond.superclass S1 S2).before a0 Z = true) (w3 : (Jvm.Cond.superclass S2 O).before a0 Z = true) (w4 : (Jvm.Cond.noSuperclass O).before a0 Z = true) (wk : (Jvm.Cond.instantiable K0 kk).before a0 Z = true)
    (n1 : C ≠ K0) (n2 : S1 ≠ K0) (n3 : S2 ≠ K0) (n4 : O ≠ K0) : ∃ c t, Z.vm.findClass C = some c ∧ Z.vm.findClass K0 = some t ∧ Z.vm.assignable c t = false := by
  obtain ⟨t, kt, g1, g2, g3, g4, -⟩ := Cond.instantiable_spec wk
  have gi : kt.isInterface = false := (Bool.or_eq_false_iff.mp g4).1
  obtain ⟨co, ko, o1, o2, o3, -, -⟩ := Cond.noSuperclass_spec w4
  have r0 : NS Z O K0 := ⟨co, t, o1, g1, fun fuel => by
    cases fuel with
    | zero => rfl
    | succ f => simp [Vm.isSubclassAux, ids_ne o1 g1 n4, o2, o3]⟩
  obtain ⟨c1, t1, q1, q2, q3⟩ := NS.step w1 (NS.step w2 (NS.step w3 r0 n3) n2) n1
  cases g1.symm.trans q2
  obtain ⟨p1, k1, kp, s1, s2, s3, s4, s5, -, s7⟩ := Cond.superclass_spec q1 w1
  refine ⟨c1, t, q1, g1, ?_⟩
  show Z.vm.assignableAux (255 + 1) c1 t = false
  simp [Vm.assignableAux, ids_ne q1 g1 n1, s2, g2, s5, g3, gi, Vm.isSubclass, q3]
theorem own_ext_keep {h1 h2 : Heap} {ws : List Addr} (E : Ext h h1) (K0 : Keep h1 h2 ws) (q : ∀ x ∈ ws, h.size ≤ x) : Ext h h2 :=
  ⟨Nat.le_trans E.1 K0.1, fun x cx hx => K0.2.1 x cx (E.2 x cx hx) fun z => absurd (Array.getElem?_eq_some_iff.mp hx).1 (Nat.not_lt.mpr (q x z))⟩
theorem own_sta_keep {h' : Heap} {ws : List Addr} {C n d : String} {v : Value} (F : Sta Z h C n d v) (K0 : Keep h h' ws) (q : ∀ x ∈ ws, ∀ cell : Cell, h[x]? = some cell → cell.vm.isStatics = false) : Sta Z h' C n d v := by
  obtain ⟨cf, i, k, f, st, cell, h1, h2, h3, h4, h5, h6, h7⟩ := F
  exact ⟨cf, i, k, f, st, cell, h1, h2, h3, h4, K0.2.1 st cell h5 (fun z => by rw [q st z cell h5] at h6; cases h6), h6, h7⟩
end OwnJdk
theorem own_sub_at {Z : State} {args : Array Value} {t : Term} {idx : List Nat} {j : Int32} (q : t.eval args Z none idx Z = some (.int j)) : (Term.sub t (Term.int (128 : Int32))).eval args Z none idx Z = some (.int (j - 128)) := by simp [Term.eval, q]
theorem pn_com_example_libelect_libelect_simulation_Outcome : plainName "com/example/libelect/libelect/simulation/Outcome" = true := by first | (simp [plainName, overriddenIn]; done) | decide +kernel
theorem pn_java_lang_Long : plainName "java/lang/Long" = true := by first | (simp [plainName, overriddenIn]; done) | decide +kernel
theorem pn_java_lang_Number : plainName "java/lang/Number" = true := by first | (simp [plainName, overriddenIn]; done) | decide +kernel
theorem pn_java_util_AbstractCollection : plainName "java/util/AbstractCollection" = true := by first | (simp [plainName, overriddenIn]; done) | decide +kernel
theorem pn_java_util_AbstractList : plainName "java/util/AbstractList" = true := by first | (simp [plainName, overriddenIn]; done) | decide +kernel
theorem pn_java_util_ArrayList : plainName "java/util/ArrayList" = true := by first | (simp [plainName, overriddenIn]; done) | decide +kernel
theorem pn_java_util_Arrays : plainName "java/util/Arrays" = true := by first | (simp [plainName, overriddenIn]; done) | decide +kernel
theorem pn_java_util_ImmutableCollections : plainName "java/util/ImmutableCollections" = true := by first | (simp [plainName, overriddenIn]; done) | decide +kernel
theorem pn_java_util_ImmutableCollections_AbstractImmutableCollection : plainName "java/util/ImmutableCollections$AbstractImmutableCollection" = true := by first | (simp [plainName, overriddenIn]; done) | decide +kernel
theorem pn_java_util_ImmutableCollections_AbstractImmutableList : plainName "java/util/ImmutableCollections$AbstractImmutableList" = true := by first | (simp [plainName, overriddenIn]; done) | decide +kernel
theorem pn_java_util_ImmutableCollections_List12 : plainName "java/util/ImmutableCollections$List12" = true := by first | (simp [plainName, overriddenIn]; done) | decide +kernel
theorem pn_java_util_ImmutableCollections_ListN : plainName "java/util/ImmutableCollections$ListN" = true := by first | (simp [plainName, overriddenIn]; done) | decide +kernel
theorem pn_java_util_List : plainName "java/util/List" = true := by first | (simp [plainName, overriddenIn]; done) | decide +kernel
theorem pn_java_util_Objects : plainName "java/util/Objects" = true := by first | (simp [plainName, overriddenIn]; done) | decide +kernel
theorem pn_com_example_libelect_libelect_simulation_OutcomeElectedPinLaw : plainName "com/example/libelect/libelect/simulation/OutcomeElectedPinLaw" = true := by first | (simp [plainName, overriddenIn]; done) | decide +kernel
theorem pd___V : parseMethodDescriptor "()V" = some ⟨[], none⟩ := by decide +kernel
theorem pd__IILjava_util_List_ILjava_util_List__JJ_V : parseMethodDescriptor "(IILjava/util/List;ILjava/util/List;[JJ)V" = some ⟨[.int, .int, (.object "java/util/List"), .int, (.object "java/util/List"), (.array .long), .long], none⟩ := by decide +kernel
theorem pd__Ljava_util_Collection__Ljava_util_List_ : parseMethodDescriptor "(Ljava/util/Collection;)Ljava/util/List;" = some ⟨[(.object "java/util/Collection")], (some (.object "java/util/List"))⟩ := by decide +kernel
theorem pd___Z : parseMethodDescriptor "()Z" = some ⟨[], (some .boolean)⟩ := by decide +kernel
theorem pd___Ljava_util_List_ : parseMethodDescriptor "()Ljava/util/List;" = some ⟨[], (some (.object "java/util/List"))⟩ := by decide +kernel
theorem pd___I : parseMethodDescriptor "()I" = some ⟨[], (some .int)⟩ := by decide +kernel
theorem pd__J_Ljava_lang_Long_ : parseMethodDescriptor "(J)Ljava/lang/Long;" = some ⟨[.long], (some (.object "java/lang/Long"))⟩ := by decide +kernel
theorem pd__Ljava_lang_Object__Z : parseMethodDescriptor "(Ljava/lang/Object;)Z" = some ⟨[(.object "java/lang/Object")], (some .boolean)⟩ := by decide +kernel
theorem pd__Ljava_lang_Object__Ljava_lang_Object_I_V : parseMethodDescriptor "(Ljava/lang/Object;[Ljava/lang/Object;I)V" = some ⟨[(.object "java/lang/Object"), (.array (.object "java/lang/Object")), .int], none⟩ := by decide +kernel
theorem pd____Ljava_lang_Object_ : parseMethodDescriptor "()[Ljava/lang/Object;" = some ⟨[], (some (.array (.object "java/lang/Object")))⟩ := by decide +kernel
theorem pd__I__Ljava_lang_Object_ : parseMethodDescriptor "(I)[Ljava/lang/Object;" = some ⟨[.int], (some (.array (.object "java/lang/Object")))⟩ := by decide +kernel
theorem pd__II_I : parseMethodDescriptor "(II)I" = some ⟨[.int, .int], (some .int)⟩ := by decide +kernel
theorem pd___Ljava_lang_Object_I__Ljava_lang_Object_ : parseMethodDescriptor "([Ljava/lang/Object;I)[Ljava/lang/Object;" = some ⟨[(.array (.object "java/lang/Object")), .int], (some (.array (.object "java/lang/Object")))⟩ := by decide +kernel
theorem pd___Ljava_lang_Object_ILjava_lang_Class___Ljava_lang_Object_ : parseMethodDescriptor "([Ljava/lang/Object;ILjava/lang/Class;)[Ljava/lang/Object;" = some ⟨[(.array (.object "java/lang/Object")), .int, (.object "java/lang/Class")], (some (.array (.object "java/lang/Object")))⟩ := by decide +kernel
theorem pd___Ljava_lang_Object__Ljava_util_List_ : parseMethodDescriptor "([Ljava/lang/Object;)Ljava/util/List;" = some ⟨[(.array (.object "java/lang/Object"))], (some (.object "java/util/List"))⟩ := by decide +kernel
theorem pd__Ljava_lang_Object__Ljava_lang_Object_ : parseMethodDescriptor "(Ljava/lang/Object;)Ljava/lang/Object;" = some ⟨[(.object "java/lang/Object")], (some (.object "java/lang/Object"))⟩ := by decide +kernel
theorem pd___Ljava_lang_Object_Z_V : parseMethodDescriptor "([Ljava/lang/Object;Z)V" = some ⟨[(.array (.object "java/lang/Object")), .boolean], none⟩ := by decide +kernel
theorem pd__J_V : parseMethodDescriptor "(J)V" = some ⟨[.long], none⟩ := by decide +kernel
theorem pd__Ljava_lang_Object_Ljava_lang_Object__V : parseMethodDescriptor "(Ljava/lang/Object;Ljava/lang/Object;)V" = some ⟨[(.object "java/lang/Object"), (.object "java/lang/Object")], none⟩ := by decide +kernel
theorem pd__Ljava_lang_Object__V : parseMethodDescriptor "(Ljava/lang/Object;)V" = some ⟨[(.object "java/lang/Object")], none⟩ := by decide +kernel
theorem pf_I : parseFieldDescriptor "I" = some .int := by decide +kernel
theorem pf_J : parseFieldDescriptor "J" = some .long := by decide +kernel
theorem pf_Z : parseFieldDescriptor "Z" = some .boolean := by decide +kernel
theorem pf_Ljava_util_List_ : parseFieldDescriptor "Ljava/util/List;" = some (.object "java/util/List") := by decide +kernel
theorem pf__Ljava_lang_Object_ : parseFieldDescriptor "[Ljava/lang/Object;" = some (.array (.object "java/lang/Object")) := by decide +kernel
theorem pf_Ljava_lang_Object_ : parseFieldDescriptor "Ljava/lang/Object;" = some (.object "java/lang/Object") := by decide +kernel
theorem pf__J : parseFieldDescriptor "[J" = some (.array .long) := by decide +kernel
def own_AL (Z : State) (h : Heap) (a : Addr) (n : Int32) (arr : Addr) : Prop := Exa Z h a "java/util/ArrayList" ∧ (∃ mc : Int32, Fld Z h a "java/util/AbstractList" "modCount" "I" (.int mc)) ∧ Fld Z h a "java/util/ArrayList" "size" "I" (.int n) ∧ Fld Z h a "java/util/ArrayList" "elementData" "[Ljava/lang/Object;" (.ref arr)
theorem own_AL.ext {Z : State} {h h' : Heap} {a arr : Addr} {n : Int32} (F : own_AL Z h a n arr) (E : Ext h h') : own_AL Z h' a n arr := by
  obtain ⟨f1, ⟨mc, f2⟩, f3, f4⟩ := F
  exact ⟨f1.ext E, ⟨mc, f2.ext E⟩, f3.ext E, f4.ext E⟩
theorem own_AL.keep {Z : State} {h h' : Heap} {a arr : Addr} {n : Int32} {ws : List Addr} (F : own_AL Z h a n arr) (K : Keep h h' ws) (q : a ∉ ws) : own_AL Z h' a n arr := by
  obtain ⟨f1, ⟨mc, f2⟩, f3, f4⟩ := F
  exact ⟨f1.keep K, ⟨mc, f2.keep K q⟩, f3.keep K q, f4.keep K q⟩
def own_L12 (Z : State) (h : Heap) (r x : Addr) : Prop := Exa Z h r "java/util/ImmutableCollections$List12" ∧ Fld Z h r "java/util/ImmutableCollections$List12" "e1" "Ljava/lang/Object;" (.ref x)
def own_LN (Z : State) (h : Heap) (r : Addr) (z : Int32) : Prop := Exa Z h r "java/util/ImmutableCollections$ListN" ∧ ∃ (ea : Addr) (k : ClassId) (vs : List Value), Fld Z h r "java/util/ImmutableCollections$ListN" "elements" "[Ljava/lang/Object;" (.ref ea) ∧ Arv Z h ea k (.object "java/lang/Object") z vs .null
theorem own_L12.ext {Z : State} {h h' : Heap} {r x : Addr} (F : own_L12 Z h r x) (E : Ext h h') : own_L12 Z h' r x := ⟨F.1.ext E, F.2.ext E⟩
theorem own_LN.ext {Z : State} {h h' : Heap} {r : Addr} {z : Int32} (F : own_LN Z h r z) (E : Ext h h') : own_LN Z h' r z := by
  obtain ⟨f1, ea, k, vs, f2, f3⟩ := F
  exact ⟨f1.ext E, ea, k, vs, f2.ext E, f3.ext E⟩
theorem own_L12.keep {Z : State} {h h' : Heap} {r x : Addr} {ws : List Addr} (F : own_L12 Z h r x) (K : Keep h h' ws) (q : r ∉ ws) : own_L12 Z h' r x := ⟨F.1.keep K, F.2.keep K q⟩
theorem d3_0 : decode jdk_22_method_1_code 0 = .ok (.aload_n 0, 1) := by decide +kernel
theorem d3_1 : decode jdk_22_method_1_code 1 = .ok (.invokespecial 1, 3) := by decide +kernel
theorem d3_4 : decode jdk_22_method_1_code 4 = .ok (.return_, 1) := by decide +kernel
theorem ef_r_1 (m : MethodId) (x0 : Addr) : entryFrame m #[(.ref x0)] 1 = mkF m 0 #[.val (.ref x0)] [] := by first | (simp [entryFrame, mkF, argsToLocals, Value.category]; done) | rfl
set_option maxRecDepth 65536 in
set_option maxHeartbeats 40000000 in
theorem rm3 (l : Launch) (Z : State) (a0 : Array Value) (hw : ∀ d ∈ tables_1, d.before a0 Z = true) (h0 : Heap) (n0 : Nat) (a : Addr)  :
    own_Met l Z (⟨"java/util/AbstractCollection", "<init>", "()V"⟩ : MethodName) jdk_22_method_1_code 1 none [] ({ frames := 1, cells := 0, slots := 0, locals := 12 } : Room) #[(.ref a)] h0 (fun v h L => v = none ∧ L = [] ∧ h = h0) := by
  refine own_body pn_java_util_AbstractCollection ?_
  intro p e s m below meth c s₁ hx hby hml hZ hown hnm hrt hlk X0 e0
  have N0 := Fr.nil n0
  rw [ef_r_1]
  show own_Fin _ _ _ _ _ _ _ s₁ (mkF m 0 #[.val (.ref a)] [])
  refine own_step (fun _ k => XS.aloadN X0.here hx rfl (hb hby d3_0) rfl rfl k) ?_
  show own_Fin _ _ _ _ _ _ _ s₁ (mkF m 1 #[.val (.ref a)] [(.ref a)])
  refine own_initO X0 hx hZ hown (hw _ (List.mem_of_getElem? (i := 18) rfl)) (hw _ (List.mem_of_getElem? (i := 19) rfl)) (hw _ (List.mem_of_getElem? (i := 20) rfl)) e0 (by rw [hml]; rfl) 0 (Nat.le_of_eq rfl) (by decide) (by decide) (hb hby d3_1) ?_
  intro T1 X1 e1
  show own_Fin _ _ _ _ _ _ _ T1 (mkF m 4 #[.val (.ref a)] [])
  exact own_retV X1 hx hrt hlk (hb hby d3_4) (by rw [e1]; exact ⟨rfl, rfl, rfl⟩) (by decide) (by decide)
theorem d27_0 : decode jdk_47_method_1_code 0 = .ok (.aload_n 0, 1) := by decide +kernel
theorem d27_1 : decode jdk_47_method_1_code 1 = .ok (.invokespecial 1, 3) := by decide +kernel
theorem d27_4 : decode jdk_47_method_1_code 4 = .ok (.return_, 1) := by decide +kernel
set_option maxRecDepth 65536 in
set_option maxHeartbeats 40000000 in
theorem rm27 (l : Launch) (Z : State) (a0 : Array Value) (hw : ∀ d ∈ tables_1, d.before a0 Z = true) (h0 : Heap) (n0 : Nat) (a : Addr)  :
    own_Met l Z (⟨"java/util/ImmutableCollections$AbstractImmutableCollection", "<init>", "()V"⟩ : MethodName) jdk_47_method_1_code 1 none [] ({ frames := 2, cells := 0, slots := 0, locals := 24 } : Room) #[(.ref a)] h0 (fun v h L => v = none ∧ L = [] ∧ h = h0) := by
  refine own_body pn_java_util_ImmutableCollections_AbstractImmutableCollection ?_
  intro p e s m below meth c s₁ hx hby hml hZ hown hnm hrt hlk X0 e0
  have N0 := Fr.nil n0
  rw [ef_r_1]
  show own_Fin _ _ _ _ _ _ _ s₁ (mkF m 0 #[.val (.ref a)] [])
  refine own_step (fun _ k => XS.aloadN X0.here hx rfl (hb hby d27_0) rfl rfl k) ?_
  show own_Fin _ _ _ _ _ _ _ s₁ (mkF m 1 #[.val (.ref a)] [(.ref a)])
  refine own_callN X0 hx hZ (b := a) (argsL := []) (rest := []) rfl hown (hw _ (List.mem_of_getElem? (i := 199) rfl)) (hw _ (List.mem_of_getElem? (i := 13) rfl)) (hw _ (List.mem_of_getElem? (i := 17) rfl)) (hw _ (List.mem_of_getElem? (i := 16) rfl)) (by decide) (rm3 l Z a0 hw h0 n0 a) e0 0 (Nat.le_of_eq rfl) (by decide) (by decide) (by decide) (by decide) (by rw [hml]; rfl) pd___V rfl rfl (hb hby d27_1) ?_
  rintro T1 _ _ X1 ⟨rfl, rfl, e1⟩
  rw [List.append_nil] at X1
  show own_Fin _ _ _ _ _ _ _ T1 (mkF m 4 #[.val (.ref a)] [])
  exact own_retV X1 hx hrt hlk (hb hby d27_4) (by rw [e1]; exact ⟨rfl, rfl, rfl⟩) (by decide) (by decide)
theorem d26_0 : decode jdk_46_method_1_code 0 = .ok (.aload_n 0, 1) := by decide +kernel
theorem d26_1 : decode jdk_46_method_1_code 1 = .ok (.invokespecial 1, 3) := by decide +kernel
theorem d26_4 : decode jdk_46_method_1_code 4 = .ok (.return_, 1) := by decide +kernel
set_option maxRecDepth 65536 in
set_option maxHeartbeats 40000000 in
theorem rm26 (l : Launch) (Z : State) (a0 : Array Value) (hw : ∀ d ∈ tables_1, d.before a0 Z = true) (h0 : Heap) (n0 : Nat) (a : Addr)  :
    own_Met l Z (⟨"java/util/ImmutableCollections$AbstractImmutableList", "<init>", "()V"⟩ : MethodName) jdk_46_method_1_code 1 none [] ({ frames := 3, cells := 0, slots := 0, locals := 36 } : Room) #[(.ref a)] h0 (fun v h L => v = none ∧ L = [] ∧ h = h0) := by
  refine own_body pn_java_util_ImmutableCollections_AbstractImmutableList ?_
  intro p e s m below meth c s₁ hx hby hml hZ hown hnm hrt hlk X0 e0
  have N0 := Fr.nil n0
  rw [ef_r_1]
  show own_Fin _ _ _ _ _ _ _ s₁ (mkF m 0 #[.val (.ref a)] [])
  refine own_step (fun _ k => XS.aloadN X0.here hx rfl (hb hby d26_0) rfl rfl k) ?_
  show own_Fin _ _ _ _ _ _ _ s₁ (mkF m 1 #[.val (.ref a)] [(.ref a)])
  refine own_callN X0 hx hZ (b := a) (argsL := []) (rest := []) rfl hown (hw _ (List.mem_of_getElem? (i := 193) rfl)) (hw _ (List.mem_of_getElem? (i := 194) rfl)) (hw _ (List.mem_of_getElem? (i := 198) rfl)) (hw _ (List.mem_of_getElem? (i := 197) rfl)) (by decide) (rm27 l Z a0 hw h0 n0 a) e0 0 (Nat.le_of_eq rfl) (by decide) (by decide) (by decide) (by decide) (by rw [hml]; rfl) pd___V rfl rfl (hb hby d26_1) ?_
  rintro T1 _ _ X1 ⟨rfl, rfl, e1⟩
  rw [List.append_nil] at X1
  show own_Fin _ _ _ _ _ _ _ T1 (mkF m 4 #[.val (.ref a)] [])
  exact own_retV X1 hx hrt hlk (hb hby d26_4) (by rw [e1]; exact ⟨rfl, rfl, rfl⟩) (by decide) (by decide)
theorem d29_0 : decode jdk_18_method_1_code 0 = .ok (.aload_n 0, 1) := by decide +kernel
theorem d29_1 : decode jdk_18_method_1_code 1 = .ok (.invokespecial 1, 3) := by decide +kernel
theorem d29_4 : decode jdk_18_method_1_code 4 = .ok (.return_, 1) := by decide +kernel
set_option maxRecDepth 65536 in
set_option maxHeartbeats 40000000 in
theorem rm29 (l : Launch) (Z : State) (a0 : Array Value) (hw : ∀ d ∈ tables_1, d.before a0 Z = true) (h0 : Heap) (n0 : Nat) (a : Addr)  :
    own_Met l Z (⟨"java/lang/Number", "<init>", "()V"⟩ : MethodName) jdk_18_method_1_code 1 none [] ({ frames := 1, cells := 0, slots := 0, locals := 12 } : Room) #[(.ref a)] h0 (fun v h L => v = none ∧ L = [] ∧ h = h0) := by
  refine own_body pn_java_lang_Number ?_
  intro p e s m below meth c s₁ hx hby hml hZ hown hnm hrt hlk X0 e0
  have N0 := Fr.nil n0
  rw [ef_r_1]
  show own_Fin _ _ _ _ _ _ _ s₁ (mkF m 0 #[.val (.ref a)] [])
  refine own_step (fun _ k => XS.aloadN X0.here hx rfl (hb hby d29_0) rfl rfl k) ?_
  show own_Fin _ _ _ _ _ _ _ s₁ (mkF m 1 #[.val (.ref a)] [(.ref a)])
  refine own_initO X0 hx hZ hown (hw _ (List.mem_of_getElem? (i := 215) rfl)) (hw _ (List.mem_of_getElem? (i := 19) rfl)) (hw _ (List.mem_of_getElem? (i := 20) rfl)) e0 (by rw [hml]; rfl) 0 (Nat.le_of_eq rfl) (by decide) (by decide) (hb hby d29_1) ?_
  intro T1 X1 e1
  show own_Fin _ _ _ _ _ _ _ T1 (mkF m 4 #[.val (.ref a)] [])
  exact own_retV X1 hx hrt hlk (hb hby d29_4) (by rw [e1]; exact ⟨rfl, rfl, rfl⟩) (by decide) (by decide)
theorem d28_0 : decode jdk_35_method_26_code 0 = .ok (.aload_n 0, 1) := by decide +kernel
theorem d28_1 : decode jdk_35_method_26_code 1 = .ok (.invokespecial 270, 3) := by decide +kernel
theorem d28_4 : decode jdk_35_method_26_code 4 = .ok (.aload_n 0, 1) := by decide +kernel
theorem d28_5 : decode jdk_35_method_26_code 5 = .ok (.lload_n 1, 1) := by decide +kernel
theorem d28_6 : decode jdk_35_method_26_code 6 = .ok (.putfield 273, 3) := by decide +kernel
theorem d28_9 : decode jdk_35_method_26_code 9 = .ok (.return_, 1) := by decide +kernel
theorem ef_rl_3 (m : MethodId) (x0 : Addr) (x1 : Int64) : entryFrame m #[(.ref x0), (.long x1)] 3 = mkF m 0 #[.val (.ref x0), .val (.long x1), .second] [] := by first | (simp [entryFrame, mkF, argsToLocals, Value.category]; done) | rfl
set_option maxRecDepth 65536 in
set_option maxHeartbeats 40000000 in
theorem rm28 (l : Launch) (Z : State) (a0 : Array Value) (hw : ∀ d ∈ tables_1, d.before a0 Z = true) (h0 : Heap) (n0 : Nat) (a : Addr) (x : Int64) (Fv : Fld Z h0 a "java/lang/Long" "value" "J" (.long 0)) (Ea : Exa Z h0 a "java/lang/Long") (ge : n0 ≤ a) :
    own_Met l Z (⟨"java/lang/Long", "<init>", "(J)V"⟩ : MethodName) jdk_35_method_26_code 3 none [] ({ frames := 2, cells := 0, slots := 0, locals := 24 } : Room) #[(.ref a), (.long x)] h0 (fun v h L => v = none ∧ Fr n0 L ∧ Keep h0 h [a]) := by
  refine own_body pn_java_lang_Long ?_
  intro p e s m below meth c s₁ hx hby hml hZ hown hnm hrt hlk X0 e0
  have N0 := Fr.nil n0
  rw [ef_rl_3]
  show own_Fin _ _ _ _ _ _ _ s₁ (mkF m 0 #[.val (.ref a), .val (.long x), .second] [])
  refine own_step (fun _ k => XS.aloadN X0.here hx rfl (hb hby d28_0) rfl rfl k) ?_
  show own_Fin _ _ _ _ _ _ _ s₁ (mkF m 1 #[.val (.ref a), .val (.long x), .second] [(.ref a)])
  refine own_callN X0 hx hZ (b := a) (argsL := []) (rest := []) rfl hown (hw _ (List.mem_of_getElem? (i := 209) rfl)) (hw _ (List.mem_of_getElem? (i := 210) rfl)) (hw _ (List.mem_of_getElem? (i := 214) rfl)) (hw _ (List.mem_of_getElem? (i := 213) rfl)) (by decide) (rm29 l Z a0 hw h0 n0 a) e0 0 (Nat.le_of_eq rfl) (by decide) (by decide) (by decide) (by decide) (by rw [hml]; rfl) pd___V rfl rfl (hb hby d28_1) ?_
  rintro T1 _ _ X1 ⟨rfl, rfl, e1⟩
  rw [List.append_nil] at X1
  show own_Fin _ _ _ _ _ _ _ T1 (mkF m 4 #[.val (.ref a), .val (.long x), .second] [])
  refine own_step (fun _ k => XS.aloadN X1.here hx rfl (hb hby d28_4) rfl rfl k) ?_
  show own_Fin _ _ _ _ _ _ _ T1 (mkF m 5 #[.val (.ref a), .val (.long x), .second] [(.ref a)])
  refine own_step (fun _ k => XT.lloadN X1.here hx rfl (hb hby d28_5) rfl k) ?_
  show own_Fin _ _ _ _ _ _ _ T1 (mkF m 6 #[.val (.ref a), .val (.long x), .second] [(.long x), (.ref a)])
  refine own_putF X1 hx hZ (O := "java/lang/Long") hown (hw _ (List.mem_of_getElem? (i := 216) rfl)) Via.refl e1 Fv Ea (Or.inr ⟨(hw _ (List.mem_of_getElem? (i := 217) rfl)), rfl, hnm⟩) (hw _ (List.mem_of_getElem? (i := 204) rfl)) pf_J rfl rfl N0 ge (hb hby d28_6) ?_
  intro T2 hp2 L2 X2 e2 N2 W2
  show own_Fin _ _ _ _ _ _ _ T2 (mkF m 9 #[.val (.ref a), .val (.long x), .second] [])
  exact own_retV X2 hx hrt hlk (hb hby d28_9) (by rw [e2]; exact ⟨rfl, N2, (Keep.refl _ _).wr W2 (Or.inl (List.mem_singleton.mpr rfl))⟩) (by decide) (by decide)
theorem own_cidx {x : Int64} (q1 : ¬ x < (-128 : Int64)) (q2 : ¬ (127 : Int64) < x) : ¬ x.toInt32 + (128 : Int32) < 0 ∧ (x.toInt32 + (128 : Int32)).toNatClampNeg < 256 := by
  rw [Int64.lt_iff_toInt_lt] at q1 q2
  simp only [Int64.reduceToInt] at q1 q2
  have e1 := c_l2i x
  have r1 := rng32 x.toInt32
  have e2 := c_iadd x.toInt32 128
  have r2 := rng32 (x.toInt32 + 128)
  have t : (128 : Int32).toInt = 128 := rfl
  rw [t] at e2
  have e3 : (x.toInt32 + (128 : Int32)).toInt = x.toInt + 128 := by omega
  refine ⟨?_, ?_⟩
  · rw [Int32.lt_iff_toInt_lt, e3]; show ¬ x.toInt + 128 < 0; omega
  · show (x.toInt32 + (128 : Int32)).toInt.toNat < 256; rw [e3]; omega
theorem d12_0 : decode jdk_35_method_24_code 0 = .ok (.sipush 128, 3) := by decide +kernel
theorem d12_3 : decode jdk_35_method_24_code 3 = .ok (.istore_n 2, 1) := by decide +kernel
theorem d12_4 : decode jdk_35_method_24_code 4 = .ok (.lload_n 0, 1) := by decide +kernel
theorem d12_5 : decode jdk_35_method_24_code 5 = .ok (.ldc2_w 230, 3) := by decide +kernel
theorem d12_8 : decode jdk_35_method_24_code 8 = .ok (.lcmp, 1) := by decide +kernel
theorem d12_9 : decode jdk_35_method_24_code 9 = .ok (.ifCond .lt 22, 3) := by decide +kernel
theorem d12_12 : decode jdk_35_method_24_code 12 = .ok (.lload_n 0, 1) := by decide +kernel
theorem d12_13 : decode jdk_35_method_24_code 13 = .ok (.ldc2_w 232, 3) := by decide +kernel
theorem d12_16 : decode jdk_35_method_24_code 16 = .ok (.lcmp, 1) := by decide +kernel
theorem d12_17 : decode jdk_35_method_24_code 17 = .ok (.ifCond .gt 14, 3) := by decide +kernel
theorem d12_20 : decode jdk_35_method_24_code 20 = .ok (.getstatic 234, 3) := by decide +kernel
theorem d12_23 : decode jdk_35_method_24_code 23 = .ok (.lload_n 0, 1) := by decide +kernel
theorem d12_24 : decode jdk_35_method_24_code 24 = .ok (.l2i, 1) := by decide +kernel
theorem d12_25 : decode jdk_35_method_24_code 25 = .ok (.sipush 128, 3) := by decide +kernel
theorem d12_28 : decode jdk_35_method_24_code 28 = .ok (.iadd, 1) := by decide +kernel
theorem d12_29 : decode jdk_35_method_24_code 29 = .ok (.aaload, 1) := by decide +kernel
theorem d12_30 : decode jdk_35_method_24_code 30 = .ok (.areturn, 1) := by decide +kernel
theorem d12_31 : decode jdk_35_method_24_code 31 = .ok (.new 1, 3) := by decide +kernel
theorem d12_34 : decode jdk_35_method_24_code 34 = .ok (.dup, 1) := by decide +kernel
theorem d12_35 : decode jdk_35_method_24_code 35 = .ok (.lload_n 0, 1) := by decide +kernel
theorem d12_36 : decode jdk_35_method_24_code 36 = .ok (.invokespecial 240, 3) := by decide +kernel
theorem d12_39 : decode jdk_35_method_24_code 39 = .ok (.areturn, 1) := by decide +kernel
theorem ef_l_3 (m : MethodId) (x0 : Int64) : entryFrame m #[(.long x0)] 3 = mkF m 0 #[.val (.long x0), .second, .unset] [] := by first | (simp [entryFrame, mkF, argsToLocals, Value.category]; done) | rfl
set_option maxRecDepth 65536 in
set_option maxHeartbeats 40000000 in
theorem rm12 (l : Launch) (Z : State) (a0 : Array Value) (hw : ∀ d ∈ tables_1, d.before a0 Z = true) (h0 : Heap) (n0 : Nat) (x : Int64) (ca : Addr) (cc : Cell) (Sc : Sta Z h0 "java/lang/Long$LongCache" "cache" "[Ljava/lang/Long;" (.ref ca)) (Ac : Arr Z h0 ca cc (.object "java/lang/Long")) (Zc : cc.slots.size = 256) (Hc : ∀ i, i < 256 → ∃ r, cc.slots[i]? = some (.ref r) ∧ Exa Z h0 r "java/lang/Long") (ge : n0 ≤ h0.size) :
    own_Met l Z (⟨"java/lang/Long", "valueOf", "(J)Ljava/lang/Long;"⟩ : MethodName) jdk_35_method_24_code 3 (some (.object "java/lang/Long")) [] ({ frames := 3, cells := 1, slots := 1, locals := 39 } : Room) #[(.long x)] h0 (fun v h L => ∃ r, v = some (.ref r) ∧ Fr n0 L ∧ Ext h0 h ∧ Exa Z h r "java/lang/Long") := by
  refine own_body pn_java_lang_Long ?_
  intro p e s m below meth c s₁ hx hby hml hZ hown hnm hrt hlk X0 e0
  have N0 := Fr.nil n0
  rw [ef_l_3]
  show own_Fin _ _ _ _ _ _ _ s₁ (mkF m 0 #[.val (.long x), .second, .unset] [])
  refine own_step (fun _ k => XT.sipushV X0.here hx rfl (128 : Int32) (hb hby d12_0) (by decide) k) ?_
  show own_Fin _ _ _ _ _ _ _ s₁ (mkF m 3 #[.val (.long x), .second, .unset] [(.int (128 : Int32))])
  refine own_step (fun _ k => XS.istoreN X0.here hx rfl (hb hby d12_3) rfl (l' := #[.val (.long x), .second, .val (.int (128 : Int32))]) rfl k) ?_
  show own_Fin _ _ _ _ _ _ _ s₁ (mkF m 4 #[.val (.long x), .second, .val (.int (128 : Int32))] [])
  refine own_step (fun _ k => XT.lloadN X0.here hx rfl (hb hby d12_4) rfl k) ?_
  show own_Fin _ _ _ _ _ _ _ s₁ (mkF m 5 #[.val (.long x), .second, .val (.int (128 : Int32))] [(.long x)])
  refine own_step (fun _ k => Stand.ldc2J X0 hx (v := (-128 : Int64)) hown (mvT hZ (hw _ (List.mem_of_getElem? (i := 107) rfl))) rfl (hb hby d12_5) k) ?_
  show own_Fin _ _ _ _ _ _ _ s₁ (mkF m 8 #[.val (.long x), .second, .val (.int (128 : Int32))] [(.long (-128 : Int64)), (.long x)])
  refine own_step (fun _ k => XT.lcmp X0.here hx rfl (hb hby d12_8) rfl k) ?_
  show own_Fin _ _ _ _ _ _ _ s₁ (mkF m 9 #[.val (.long x), .second, .val (.int (128 : Int32))] [(.int (XT.cmpL x (-128 : Int64)))])
  by_cases h9 : x < (-128 : Int64)
  · skip
    refine own_step (fun _ k => XS.ifYes X0.here hx rfl (pc0 := 9) (pc' := 31) rfl (hb hby d12_9) rfl (XT.ll_lt_t h9) (by decide) (by decide) k) ?_
    show own_Fin _ _ _ _ _ _ _ s₁ (mkF m 31 #[.val (.long x), .second, .val (.int (128 : Int32))] [])
    refine own_newO X0 hx hZ hown (hw _ (List.mem_of_getElem? (i := 203) rfl)) (hw _ (List.mem_of_getElem? (i := 204) rfl)) (hw _ (List.mem_of_getElem? (i := 105) rfl)) e0 (by decide) (by decide) (hb hby d12_31) ?_
    intro T1 hp1 X1 e1 E1 A1 D1
    have Fv1 := D1 (O := "java/lang/Long") (nm := "value") (d := "J") (Or.inr (hw _ (List.mem_of_getElem? (i := 217) rfl))) pf_J
    show own_Fin _ _ _ _ _ _ _ T1 (mkF m 34 #[.val (.long x), .second, .val (.int (128 : Int32))] [(.ref h0.size)])
    refine own_step (fun _ k => XS.dup X1.here hx rfl (hb hby d12_34) rfl rfl k) ?_
    show own_Fin _ _ _ _ _ _ _ T1 (mkF m 35 #[.val (.long x), .second, .val (.int (128 : Int32))] [(.ref h0.size), (.ref h0.size)])
    refine own_step (fun _ k => XT.lloadN X1.here hx rfl (hb hby d12_35) rfl k) ?_
    show own_Fin _ _ _ _ _ _ _ T1 (mkF m 36 #[.val (.long x), .second, .val (.int (128 : Int32))] [(.long x), (.ref h0.size), (.ref h0.size)])
    refine own_callN X1 hx hZ (b := h0.size) (argsL := [(.long x)]) (rest := [(.ref h0.size)]) rfl hown (hw _ (List.mem_of_getElem? (i := 205) rfl)) (hw _ (List.mem_of_getElem? (i := 206) rfl)) (hw _ (List.mem_of_getElem? (i := 208) rfl)) (hw _ (List.mem_of_getElem? (i := 105) rfl)) (by decide) (rm28 l Z a0 hw hp1 n0 h0.size x Fv1 A1 ge) e1 1 (Nat.le_of_eq rfl) (by decide) (by decide) (by decide) (by decide) (by rw [hml]; rfl) pd__J_V rfl rfl (hb hby d12_36) ?_
    rintro T2 L2 _ X2 ⟨rfl, F2, K2⟩
    have N2 := Fr.app N0 F2
    show own_Fin _ _ _ _ _ _ _ T2 (mkF m 39 #[.val (.long x), .second, .val (.int (128 : Int32))] [(.ref h0.size)])
    exact own_retA X2 hx hrt rfl hlk (hb hby d12_39) rfl ⟨_, rfl, N2, own_ext_keep E1 K2 (allS (Nat.le_refl _) all0), A1.keep K2⟩ (by decide) (by decide)
  · skip
    refine own_step (fun _ k => XS.ifNo X0.here hx rfl (hb hby d12_9) rfl (XT.ll_lt_f h9) k) ?_
    show own_Fin _ _ _ _ _ _ _ s₁ (mkF m 12 #[.val (.long x), .second, .val (.int (128 : Int32))] [])
    refine own_step (fun _ k => XT.lloadN X0.here hx rfl (hb hby d12_12) rfl k) ?_
    show own_Fin _ _ _ _ _ _ _ s₁ (mkF m 13 #[.val (.long x), .second, .val (.int (128 : Int32))] [(.long x)])
    refine own_step (fun _ k => Stand.ldc2J X0 hx (v := (127 : Int64)) hown (mvT hZ (hw _ (List.mem_of_getElem? (i := 108) rfl))) rfl (hb hby d12_13) k) ?_
    show own_Fin _ _ _ _ _ _ _ s₁ (mkF m 16 #[.val (.long x), .second, .val (.int (128 : Int32))] [(.long (127 : Int64)), (.long x)])
    refine own_step (fun _ k => XT.lcmp X0.here hx rfl (hb hby d12_16) rfl k) ?_
    show own_Fin _ _ _ _ _ _ _ s₁ (mkF m 17 #[.val (.long x), .second, .val (.int (128 : Int32))] [(.int (XT.cmpL x (127 : Int64)))])
    by_cases h17 : (127 : Int64) < x
    · skip
      refine own_step (fun _ k => XS.ifYes X0.here hx rfl (pc0 := 17) (pc' := 31) rfl (hb hby d12_17) rfl (XT.ll_gt_t h17) (by decide) (by decide) k) ?_
      show own_Fin _ _ _ _ _ _ _ s₁ (mkF m 31 #[.val (.long x), .second, .val (.int (128 : Int32))] [])
      refine own_newO X0 hx hZ hown (hw _ (List.mem_of_getElem? (i := 203) rfl)) (hw _ (List.mem_of_getElem? (i := 204) rfl)) (hw _ (List.mem_of_getElem? (i := 105) rfl)) e0 (by decide) (by decide) (hb hby d12_31) ?_
      intro T3 hp3 X3 e3 E3 A3 D3
      have Fv3 := D3 (O := "java/lang/Long") (nm := "value") (d := "J") (Or.inr (hw _ (List.mem_of_getElem? (i := 217) rfl))) pf_J
      show own_Fin _ _ _ _ _ _ _ T3 (mkF m 34 #[.val (.long x), .second, .val (.int (128 : Int32))] [(.ref h0.size)])
      refine own_step (fun _ k => XS.dup X3.here hx rfl (hb hby d12_34) rfl rfl k) ?_
      show own_Fin _ _ _ _ _ _ _ T3 (mkF m 35 #[.val (.long x), .second, .val (.int (128 : Int32))] [(.ref h0.size), (.ref h0.size)])
      refine own_step (fun _ k => XT.lloadN X3.here hx rfl (hb hby d12_35) rfl k) ?_
      show own_Fin _ _ _ _ _ _ _ T3 (mkF m 36 #[.val (.long x), .second, .val (.int (128 : Int32))] [(.long x), (.ref h0.size), (.ref h0.size)])
      refine own_callN X3 hx hZ (b := h0.size) (argsL := [(.long x)]) (rest := [(.ref h0.size)]) rfl hown (hw _ (List.mem_of_getElem? (i := 205) rfl)) (hw _ (List.mem_of_getElem? (i := 206) rfl)) (hw _ (List.mem_of_getElem? (i := 208) rfl)) (hw _ (List.mem_of_getElem? (i := 105) rfl)) (by decide) (rm28 l Z a0 hw hp3 n0 h0.size x Fv3 A3 ge) e3 1 (Nat.le_of_eq rfl) (by decide) (by decide) (by decide) (by decide) (by rw [hml]; rfl) pd__J_V rfl rfl (hb hby d12_36) ?_
      rintro T4 L4 _ X4 ⟨rfl, F4, K4⟩
      have N4 := Fr.app N0 F4
      show own_Fin _ _ _ _ _ _ _ T4 (mkF m 39 #[.val (.long x), .second, .val (.int (128 : Int32))] [(.ref h0.size)])
      exact own_retA X4 hx hrt rfl hlk (hb hby d12_39) rfl ⟨_, rfl, N4, own_ext_keep E3 K4 (allS (Nat.le_refl _) all0), A3.keep K4⟩ (by decide) (by decide)
    · skip
      refine own_step (fun _ k => XS.ifNo X0.here hx rfl (hb hby d12_17) rfl (XT.ll_gt_f h17) k) ?_
      show own_Fin _ _ _ _ _ _ _ s₁ (mkF m 20 #[.val (.long x), .second, .val (.int (128 : Int32))] [])
      refine own_getS X0 hx hZ hown (hw _ (List.mem_of_getElem? (i := 109) rfl)) e0 Sc (hb hby d12_20) ?_
      intro T5 X5 e5
      show own_Fin _ _ _ _ _ _ _ T5 (mkF m 23 #[.val (.long x), .second, .val (.int (128 : Int32))] [(.ref ca)])
      refine own_step (fun _ k => XT.lloadN X5.here hx rfl (hb hby d12_23) rfl k) ?_
      show own_Fin _ _ _ _ _ _ _ T5 (mkF m 24 #[.val (.long x), .second, .val (.int (128 : Int32))] [(.long x), (.ref ca)])
      refine own_step (fun _ k => XT.l2i X5.here hx rfl (hb hby d12_24) rfl k) ?_
      show own_Fin _ _ _ _ _ _ _ T5 (mkF m 25 #[.val (.long x), .second, .val (.int (128 : Int32))] [(.int (x).toInt32), (.ref ca)])
      refine own_step (fun _ k => XT.sipushV X5.here hx rfl (128 : Int32) (hb hby d12_25) (by decide) k) ?_
      show own_Fin _ _ _ _ _ _ _ T5 (mkF m 28 #[.val (.long x), .second, .val (.int (128 : Int32))] [(.int (128 : Int32)), (.int (x).toInt32), (.ref ca)])
      refine own_step (fun _ k => XS.iadd X5.here hx rfl (hb hby d12_28) rfl k) ?_
      show own_Fin _ _ _ _ _ _ _ T5 (mkF m 29 #[.val (.long x), .second, .val (.int (128 : Int32))] [(.int ((x).toInt32 + (128 : Int32))), (.ref ca)])
      obtain ⟨ci1, ci2⟩ := own_cidx h9 h17
      obtain ⟨rc, hrc, Erc⟩ := Hc _ ci2
      refine own_ald X5 hx hZ e5 Ac rfl (v := .ref rc) _ rfl ci1 hrc (hb hby d12_29) ?_
      show own_Fin _ _ _ _ _ _ _ T5 (mkF m 30 #[.val (.long x), .second, .val (.int (128 : Int32))] [(.ref rc)])
      exact own_retA X5 hx hrt rfl hlk (hb hby d12_30) rfl (by rw [e5]; exact ⟨rc, rfl, N0, own_ext_refl _, Erc⟩) (by decide) (by decide)
theorem d2_0 : decode jdk_39_method_1_code 0 = .ok (.aload_n 0, 1) := by decide +kernel
theorem d2_1 : decode jdk_39_method_1_code 1 = .ok (.invokespecial 1, 3) := by decide +kernel
theorem d2_4 : decode jdk_39_method_1_code 4 = .ok (.aload_n 0, 1) := by decide +kernel
theorem d2_5 : decode jdk_39_method_1_code 5 = .ok (.iconst 0, 1) := by decide +kernel
theorem d2_6 : decode jdk_39_method_1_code 6 = .ok (.putfield 7, 3) := by decide +kernel
theorem d2_9 : decode jdk_39_method_1_code 9 = .ok (.return_, 1) := by decide +kernel
set_option maxRecDepth 65536 in
set_option maxHeartbeats 40000000 in
theorem rm2 (l : Launch) (Z : State) (a0 : Array Value) (hw : ∀ d ∈ tables_1, d.before a0 Z = true) (h0 : Heap) (n0 : Nat) (a : Addr) (mo : Value) (Fm : Fld Z h0 a "java/util/AbstractList" "modCount" "I" mo) (Ea : Exa Z h0 a "java/util/ArrayList") (ge : n0 ≤ a) :
    own_Met l Z (⟨"java/util/AbstractList", "<init>", "()V"⟩ : MethodName) jdk_39_method_1_code 1 none [] ({ frames := 2, cells := 0, slots := 0, locals := 24 } : Room) #[(.ref a)] h0 (fun v h L => v = none ∧ Fr n0 L ∧ Wr h0 h a (Jvm.RoadKit.slotOf Z "java/util/AbstractList" "modCount" "I") (.int 0)) := by
  refine own_body pn_java_util_AbstractList ?_
  intro p e s m below meth c s₁ hx hby hml hZ hown hnm hrt hlk X0 e0
  have N0 := Fr.nil n0
  rw [ef_r_1]
  show own_Fin _ _ _ _ _ _ _ s₁ (mkF m 0 #[.val (.ref a)] [])
  refine own_step (fun _ k => XS.aloadN X0.here hx rfl (hb hby d2_0) rfl rfl k) ?_
  show own_Fin _ _ _ _ _ _ _ s₁ (mkF m 1 #[.val (.ref a)] [(.ref a)])
  refine own_callN X0 hx hZ (b := a) (argsL := []) (rest := []) rfl hown (hw _ (List.mem_of_getElem? (i := 12) rfl)) (hw _ (List.mem_of_getElem? (i := 13) rfl)) (hw _ (List.mem_of_getElem? (i := 17) rfl)) (hw _ (List.mem_of_getElem? (i := 16) rfl)) (by decide) (rm3 l Z a0 hw h0 n0 a) e0 0 (Nat.le_of_eq rfl) (by decide) (by decide) (by decide) (by decide) (by rw [hml]; rfl) pd___V rfl rfl (hb hby d2_1) ?_
  rintro T1 _ _ X1 ⟨rfl, rfl, e1⟩
  rw [List.append_nil] at X1
  show own_Fin _ _ _ _ _ _ _ T1 (mkF m 4 #[.val (.ref a)] [])
  refine own_step (fun _ k => XS.aloadN X1.here hx rfl (hb hby d2_4) rfl rfl k) ?_
  show own_Fin _ _ _ _ _ _ _ T1 (mkF m 5 #[.val (.ref a)] [(.ref a)])
  refine own_step (fun _ k => XT.iconstV X1.here hx rfl (0 : Int32) (hb hby d2_5) (by decide) k) ?_
  show own_Fin _ _ _ _ _ _ _ T1 (mkF m 6 #[.val (.ref a)] [(.int (0 : Int32)), (.ref a)])
  refine own_putF X1 hx hZ (O := "java/util/AbstractList") hown (hw _ (List.mem_of_getElem? (i := 21) rfl)) Via.refl e1 Fm Ea (Or.inl (hw _ (List.mem_of_getElem? (i := 22) rfl))) (hw _ (List.mem_of_getElem? (i := 1) rfl)) pf_I rfl rfl N0 ge (hb hby d2_6) ?_
  intro T2 hp2 L2 X2 e2 N2 W2
  show own_Fin _ _ _ _ _ _ _ T2 (mkF m 9 #[.val (.ref a)] [])
  exact own_retV X2 hx hrt hlk (hb hby d2_9) (by rw [e2]; exact ⟨rfl, N2, W2⟩) (by decide) (by decide)
theorem d1_0 : decode jdk_38_method_2_code 0 = .ok (.aload_n 0, 1) := by decide +kernel
theorem d1_1 : decode jdk_38_method_2_code 1 = .ok (.invokespecial 1, 3) := by decide +kernel
theorem d1_4 : decode jdk_38_method_2_code 4 = .ok (.aload_n 0, 1) := by decide +kernel
theorem d1_5 : decode jdk_38_method_2_code 5 = .ok (.getstatic 39, 3) := by decide +kernel
theorem d1_8 : decode jdk_38_method_2_code 8 = .ok (.putfield 9, 3) := by decide +kernel
theorem d1_11 : decode jdk_38_method_2_code 11 = .ok (.return_, 1) := by decide +kernel
set_option maxRecDepth 65536 in
set_option maxHeartbeats 40000000 in
theorem rm1 (l : Launch) (Z : State) (a0 : Array Value) (hw : ∀ d ∈ tables_1, d.before a0 Z = true) (h0 : Heap) (n0 : Nat) (a df : Addr) (mo eo : Value) (Fm : Fld Z h0 a "java/util/AbstractList" "modCount" "I" mo) (Fs : Fld Z h0 a "java/util/ArrayList" "size" "I" (.int 0)) (Fe : Fld Z h0 a "java/util/ArrayList" "elementData" "[Ljava/lang/Object;" eo) (Ea : Exa Z h0 a "java/util/ArrayList") (Sd : Sta Z h0 "java/util/ArrayList" "DEFAULTCAPACITY_EMPTY_ELEMENTDATA" "[Ljava/lang/Object;" (.ref df)) (ge : n0 ≤ a) :
    own_Met l Z (⟨"java/util/ArrayList", "<init>", "()V"⟩ : MethodName) jdk_38_method_2_code 1 none [] ({ frames := 3, cells := 0, slots := 0, locals := 36 } : Room) #[(.ref a)] h0 (fun v h L => v = none ∧ Fr n0 L ∧ Keep h0 h [a] ∧ own_AL Z h a 0 df) := by
  refine own_body pn_java_util_ArrayList ?_
  intro p e s m below meth c s₁ hx hby hml hZ hown hnm hrt hlk X0 e0
  have N0 := Fr.nil n0
  have ne_sm : Jvm.RoadKit.slotOf Z "java/util/ArrayList" "size" "I" ≠ Jvm.RoadKit.slotOf Z "java/util/AbstractList" "modCount" "I" := slot_ne (Or.inl (hw _ (List.mem_of_getElem? (i := 62) rfl))) (Or.inl (hw _ (List.mem_of_getElem? (i := 22) rfl))) (by decide) pf_I pf_I
  have ne_em : Jvm.RoadKit.slotOf Z "java/util/ArrayList" "elementData" "[Ljava/lang/Object;" ≠ Jvm.RoadKit.slotOf Z "java/util/AbstractList" "modCount" "I" := slot_ne (Or.inl (hw _ (List.mem_of_getElem? (i := 25) rfl))) (Or.inl (hw _ (List.mem_of_getElem? (i := 22) rfl))) (by decide) pf__Ljava_lang_Object_ pf_I
  have ne_me : Jvm.RoadKit.slotOf Z "java/util/AbstractList" "modCount" "I" ≠ Jvm.RoadKit.slotOf Z "java/util/ArrayList" "elementData" "[Ljava/lang/Object;" := slot_ne (Or.inl (hw _ (List.mem_of_getElem? (i := 22) rfl))) (Or.inl (hw _ (List.mem_of_getElem? (i := 25) rfl))) (by decide) pf_I pf__Ljava_lang_Object_
  have ne_se : Jvm.RoadKit.slotOf Z "java/util/ArrayList" "size" "I" ≠ Jvm.RoadKit.slotOf Z "java/util/ArrayList" "elementData" "[Ljava/lang/Object;" := slot_ne (Or.inl (hw _ (List.mem_of_getElem? (i := 62) rfl))) (Or.inl (hw _ (List.mem_of_getElem? (i := 25) rfl))) (by decide) pf_I pf__Ljava_lang_Object_
  rw [ef_r_1]
  show own_Fin _ _ _ _ _ _ _ s₁ (mkF m 0 #[.val (.ref a)] [])
  refine own_step (fun _ k => XS.aloadN X0.here hx rfl (hb hby d1_0) rfl rfl k) ?_
  show own_Fin _ _ _ _ _ _ _ s₁ (mkF m 1 #[.val (.ref a)] [(.ref a)])
  refine own_callN X0 hx hZ (b := a) (argsL := []) (rest := []) rfl hown (hw _ (List.mem_of_getElem? (i := 6) rfl)) (hw _ (List.mem_of_getElem? (i := 7) rfl)) (hw _ (List.mem_of_getElem? (i := 11) rfl)) (hw _ (List.mem_of_getElem? (i := 10) rfl)) (by decide) (rm2 l Z a0 hw h0 n0 a mo Fm Ea ge) e0 0 (Nat.le_of_eq rfl) (by decide) (by decide) (by decide) (by decide) (by rw [hml]; rfl) pd___V rfl rfl (hb hby d1_1) ?_
  rintro T1 L1 _ X1 ⟨rfl, F1, W1⟩
  have N1 := Fr.app N0 F1
  have Fm1 := Fm.same W1
  have Fs1 := Fs.other W1 (Or.inr ne_sm)
  have Fe1 := Fe.other W1 (Or.inr ne_em)
  have Ea1 := Ea.wr W1
  have Sd1 := Sd.wr W1
  have K1 : Keep h0 T1.heap [a] := (Keep.refl _ _).wr W1 (Or.inl (List.mem_singleton.mpr rfl))
  show own_Fin _ _ _ _ _ _ _ T1 (mkF m 4 #[.val (.ref a)] [])
  refine own_step (fun _ k => XS.aloadN X1.here hx rfl (hb hby d1_4) rfl rfl k) ?_
  show own_Fin _ _ _ _ _ _ _ T1 (mkF m 5 #[.val (.ref a)] [(.ref a)])
  refine own_getS X1 hx hZ hown (hw _ (List.mem_of_getElem? (i := 23) rfl)) rfl Sd1 (hb hby d1_5) ?_
  intro T2 X2 e2
  show own_Fin _ _ _ _ _ _ _ T2 (mkF m 8 #[.val (.ref a)] [(.ref df), (.ref a)])
  refine own_putF X2 hx hZ (O := "java/util/ArrayList") hown (hw _ (List.mem_of_getElem? (i := 24) rfl)) Via.refl e2 Fe1 Ea1 (Or.inl (hw _ (List.mem_of_getElem? (i := 25) rfl))) (hw _ (List.mem_of_getElem? (i := 1) rfl)) pf__Ljava_lang_Object_ rfl rfl N1 ge (hb hby d1_8) ?_
  intro T3 hp3 L3 X3 e3 N3 W3
  show own_Fin _ _ _ _ _ _ _ T3 (mkF m 11 #[.val (.ref a)] [])
  exact own_retV X3 hx hrt hlk (hb hby d1_11) (by rw [e3]; exact ⟨rfl, N3, K1.wr W3 (Or.inl (List.mem_singleton.mpr rfl)), Ea1.wr W3, ⟨_, Fm1.other W3 (Or.inr ne_me)⟩, Fs1.other W3 (Or.inr ne_se), Fe1.same W3⟩) (by decide) (by decide)
theorem d17_0 : decode jdk_29_method_65_code 0 = .ok (.iload_n 0, 1) := by decide +kernel
theorem d17_1 : decode jdk_29_method_65_code 1 = .ok (.iload_n 1, 1) := by decide +kernel
theorem d17_2 : decode jdk_29_method_65_code 2 = .ok (.if_icmp .lt 7, 3) := by decide +kernel
theorem d17_5 : decode jdk_29_method_65_code 5 = .ok (.iload_n 0, 1) := by decide +kernel
theorem d17_6 : decode jdk_29_method_65_code 6 = .ok (.goto 4, 3) := by decide +kernel
theorem d17_9 : decode jdk_29_method_65_code 9 = .ok (.iload_n 1, 1) := by decide +kernel
theorem d17_10 : decode jdk_29_method_65_code 10 = .ok (.ireturn, 1) := by decide +kernel
theorem ef_ii_2 (m : MethodId) (x0 : Int32) (x1 : Int32) : entryFrame m #[(.int x0), (.int x1)] 2 = mkF m 0 #[.val (.int x0), .val (.int x1)] [] := by first | (simp [entryFrame, mkF, argsToLocals, Value.category]; done) | rfl
set_option maxRecDepth 65536 in
set_option maxHeartbeats 40000000 in
theorem rm17 (l : Launch) (Z : State) (a0 : Array Value) (hw : ∀ d ∈ tables_1, d.before a0 Z = true) (h0 : Heap) (n0 : Nat) (x y : Int32) (hxy : ¬ x < y) :
    own_Met l Z (⟨"java/lang/Math", "max", "(II)I"⟩ : MethodName) jdk_29_method_65_code 2 (some .int) [] ({ frames := 0, cells := 0, slots := 0, locals := 0 } : Room) #[(.int x), (.int y)] h0 (fun v h L => v = some (.int x) ∧ L = [] ∧ h = h0) := by
  refine own_bodyF (by decide +kernel) ?_
  intro p e s m below meth c s₁ hx hby hml hZ hown hnm hrt hlk X0 e0
  have N0 := Fr.nil n0
  rw [ef_ii_2]
  show own_Fin _ _ _ _ _ _ _ s₁ (mkF m 0 #[.val (.int x), .val (.int y)] [])
  refine own_step (fun _ k => XS.iloadN X0.here hx rfl (hb hby d17_0) rfl k) ?_
  show own_Fin _ _ _ _ _ _ _ s₁ (mkF m 1 #[.val (.int x), .val (.int y)] [(.int x)])
  refine own_step (fun _ k => XS.iloadN X0.here hx rfl (hb hby d17_1) rfl k) ?_
  show own_Fin _ _ _ _ _ _ _ s₁ (mkF m 2 #[.val (.int x), .val (.int y)] [(.int y), (.int x)])
  refine own_step (fun _ k => XS.icmpNo X0.here hx rfl (hb hby d17_2) rfl (XT.ii_lt_f hxy) k) ?_
  show own_Fin _ _ _ _ _ _ _ s₁ (mkF m 5 #[.val (.int x), .val (.int y)] [])
  refine own_step (fun _ k => XS.iloadN X0.here hx rfl (hb hby d17_5) rfl k) ?_
  show own_Fin _ _ _ _ _ _ _ s₁ (mkF m 6 #[.val (.int x), .val (.int y)] [(.int x)])
  refine own_step (fun _ k => XS.goto X0.here hx rfl (pc0 := 6) (pc' := 10) rfl (hb hby d17_6) (by decide) (by decide) k) ?_
  show own_Fin _ _ _ _ _ _ _ s₁ (mkF m 10 #[.val (.int x), .val (.int y)] [(.int x)])
  exact own_retI X0 hx hrt hlk (hb hby d17_10) (by rw [e0]; exact ⟨rfl, rfl, rfl⟩) (by decide) (by decide)
theorem d21_0 : decode jdk_29_method_69_code 0 = .ok (.iload_n 0, 1) := by decide +kernel
theorem d21_1 : decode jdk_29_method_69_code 1 = .ok (.iload_n 1, 1) := by decide +kernel
theorem d21_2 : decode jdk_29_method_69_code 2 = .ok (.if_icmp .gt 7, 3) := by decide +kernel
theorem d21_5 : decode jdk_29_method_69_code 5 = .ok (.iload_n 0, 1) := by decide +kernel
theorem d21_6 : decode jdk_29_method_69_code 6 = .ok (.goto 4, 3) := by decide +kernel
theorem d21_9 : decode jdk_29_method_69_code 9 = .ok (.iload_n 1, 1) := by decide +kernel
theorem d21_10 : decode jdk_29_method_69_code 10 = .ok (.ireturn, 1) := by decide +kernel
set_option maxRecDepth 65536 in
set_option maxHeartbeats 40000000 in
theorem rm21 (l : Launch) (Z : State) (a0 : Array Value) (hw : ∀ d ∈ tables_1, d.before a0 Z = true) (h0 : Heap) (n0 : Nat) (x y : Int32) (hxy : y < x) :
    own_Met l Z (⟨"java/lang/Math", "min", "(II)I"⟩ : MethodName) jdk_29_method_69_code 2 (some .int) [] ({ frames := 0, cells := 0, slots := 0, locals := 0 } : Room) #[(.int x), (.int y)] h0 (fun v h L => v = some (.int y) ∧ L = [] ∧ h = h0) := by
  refine own_bodyF (by decide +kernel) ?_
  intro p e s m below meth c s₁ hx hby hml hZ hown hnm hrt hlk X0 e0
  have N0 := Fr.nil n0
  rw [ef_ii_2]
  show own_Fin _ _ _ _ _ _ _ s₁ (mkF m 0 #[.val (.int x), .val (.int y)] [])
  refine own_step (fun _ k => XS.iloadN X0.here hx rfl (hb hby d21_0) rfl k) ?_
  show own_Fin _ _ _ _ _ _ _ s₁ (mkF m 1 #[.val (.int x), .val (.int y)] [(.int x)])
  refine own_step (fun _ k => XS.iloadN X0.here hx rfl (hb hby d21_1) rfl k) ?_
  show own_Fin _ _ _ _ _ _ _ s₁ (mkF m 2 #[.val (.int x), .val (.int y)] [(.int y), (.int x)])
  refine own_step (fun _ k => XS.icmpYes X0.here hx rfl (pc0 := 2) (pc' := 9) rfl (hb hby d21_2) rfl (XT.ii_gt_t hxy) (by decide) (by decide) k) ?_
  show own_Fin _ _ _ _ _ _ _ s₁ (mkF m 9 #[.val (.int x), .val (.int y)] [])
  refine own_step (fun _ k => XS.iloadN X0.here hx rfl (hb hby d21_9) rfl k) ?_
  show own_Fin _ _ _ _ _ _ _ s₁ (mkF m 10 #[.val (.int x), .val (.int y)] [(.int y)])
  exact own_retI X0 hx hrt hlk (hb hby d21_10) (by rw [e0]; exact ⟨rfl, rfl, rfl⟩) (by decide) (by decide)
theorem d16_0 : decode jdk_38_method_6_code 0 = .ok (.aload_n 0, 1) := by decide +kernel
theorem d16_1 : decode jdk_38_method_6_code 1 = .ok (.getfield 9, 3) := by decide +kernel
theorem d16_4 : decode jdk_38_method_6_code 4 = .ok (.arraylength, 1) := by decide +kernel
theorem d16_5 : decode jdk_38_method_6_code 5 = .ok (.istore_n 2, 1) := by decide +kernel
theorem d16_6 : decode jdk_38_method_6_code 6 = .ok (.iload_n 2, 1) := by decide +kernel
theorem d16_7 : decode jdk_38_method_6_code 7 = .ok (.ifCond .gt 13, 3) := by decide +kernel
theorem d16_10 : decode jdk_38_method_6_code 10 = .ok (.aload_n 0, 1) := by decide +kernel
theorem d16_11 : decode jdk_38_method_6_code 11 = .ok (.getfield 9, 3) := by decide +kernel
theorem d16_14 : decode jdk_38_method_6_code 14 = .ok (.getstatic 39, 3) := by decide +kernel
theorem d16_17 : decode jdk_38_method_6_code 17 = .ok (.if_acmp .eq 28, 3) := by decide +kernel
theorem d16_20 : decode jdk_38_method_6_code 20 = .ok (.iload_n 2, 1) := by decide +kernel
theorem d16_21 : decode jdk_38_method_6_code 21 = .ok (.iload_n 1, 1) := by decide +kernel
theorem d16_22 : decode jdk_38_method_6_code 22 = .ok (.iload_n 2, 1) := by decide +kernel
theorem d16_23 : decode jdk_38_method_6_code 23 = .ok (.isub, 1) := by decide +kernel
theorem d16_24 : decode jdk_38_method_6_code 24 = .ok (.iload_n 2, 1) := by decide +kernel
theorem d16_25 : decode jdk_38_method_6_code 25 = .ok (.iconst 1, 1) := by decide +kernel
theorem d16_26 : decode jdk_38_method_6_code 26 = .ok (.ishr, 1) := by decide +kernel
theorem d16_27 : decode jdk_38_method_6_code 27 = .ok (.invokestatic 73, 3) := by decide +kernel
theorem d16_30 : decode jdk_38_method_6_code 30 = .ok (.istore_n 3, 1) := by decide +kernel
theorem d16_31 : decode jdk_38_method_6_code 31 = .ok (.aload_n 0, 1) := by decide +kernel
theorem d16_32 : decode jdk_38_method_6_code 32 = .ok (.aload_n 0, 1) := by decide +kernel
theorem d16_33 : decode jdk_38_method_6_code 33 = .ok (.getfield 9, 3) := by decide +kernel
theorem d16_36 : decode jdk_38_method_6_code 36 = .ok (.iload_n 3, 1) := by decide +kernel
theorem d16_37 : decode jdk_38_method_6_code 37 = .ok (.invokestatic 66, 3) := by decide +kernel
theorem d16_40 : decode jdk_38_method_6_code 40 = .ok (.dup_x1, 1) := by decide +kernel
theorem d16_41 : decode jdk_38_method_6_code 41 = .ok (.putfield 9, 3) := by decide +kernel
theorem d16_44 : decode jdk_38_method_6_code 44 = .ok (.areturn, 1) := by decide +kernel
theorem d16_45 : decode jdk_38_method_6_code 45 = .ok (.aload_n 0, 1) := by decide +kernel
theorem d16_46 : decode jdk_38_method_6_code 46 = .ok (.bipush 10, 2) := by decide +kernel
theorem d16_48 : decode jdk_38_method_6_code 48 = .ok (.iload_n 1, 1) := by decide +kernel
theorem d16_49 : decode jdk_38_method_6_code 49 = .ok (.invokestatic 79, 3) := by decide +kernel
theorem d16_52 : decode jdk_38_method_6_code 52 = .ok (.anewarray 7, 3) := by decide +kernel
theorem d16_55 : decode jdk_38_method_6_code 55 = .ok (.dup_x1, 1) := by decide +kernel
theorem d16_56 : decode jdk_38_method_6_code 56 = .ok (.putfield 9, 3) := by decide +kernel
theorem d16_59 : decode jdk_38_method_6_code 59 = .ok (.areturn, 1) := by decide +kernel
theorem ef_ri_4 (m : MethodId) (x0 : Addr) (x1 : Int32) : entryFrame m #[(.ref x0), (.int x1)] 4 = mkF m 0 #[.val (.ref x0), .val (.int x1), .unset, .unset] [] := by first | (simp [entryFrame, mkF, argsToLocals, Value.category]; done) | rfl
set_option maxRecDepth 65536 in
set_option maxHeartbeats 40000000 in
theorem rm16 (l : Launch) (Z : State) (a0 : Array Value) (hw : ∀ d ∈ tables_1, d.before a0 Z = true) (h0 : Heap) (n0 : Nat) (a df : Addr) (kd : ClassId) (La : own_AL Z h0 a 0 df) (Sd : Sta Z h0 "java/util/ArrayList" "DEFAULTCAPACITY_EMPTY_ELEMENTDATA" "[Ljava/lang/Object;" (.ref df)) (Ad : Arv Z h0 df kd (.object "java/lang/Object") 0 [] .null) (ge : n0 ≤ a) (gh : n0 ≤ h0.size) :
    own_Met l Z (⟨"java/util/ArrayList", "grow", "(I)[Ljava/lang/Object;"⟩ : MethodName) jdk_38_method_6_code 4 (some (.array (.object "java/lang/Object"))) [] ({ frames := 1, cells := 1, slots := 10, locals := 14 } : Room) #[(.ref a), (.int (1 : Int32))] h0 (fun v h L => ∃ k, v = some (.ref h0.size) ∧ Fr n0 L ∧ Keep h0 h [a] ∧ own_AL Z h a 0 h0.size ∧ Arv Z h h0.size k (.object "java/lang/Object") 10 [] .null ∧ Ovr Z k "java/lang/Object" ∧ Exa Z h h0.size "[Ljava/lang/Object;") := by
  refine own_body pn_java_util_ArrayList ?_
  intro p e s m below meth c s₁ hx hby hml hZ hown hnm hrt hlk X0 e0
  have N0 := Fr.nil n0
  obtain ⟨Ea, ⟨mc, Fm⟩, Fs, Fe⟩ := La
  have ne_me : Jvm.RoadKit.slotOf Z "java/util/AbstractList" "modCount" "I" ≠ Jvm.RoadKit.slotOf Z "java/util/ArrayList" "elementData" "[Ljava/lang/Object;" := slot_ne (Or.inl (hw _ (List.mem_of_getElem? (i := 22) rfl))) (Or.inl (hw _ (List.mem_of_getElem? (i := 25) rfl))) (by decide) pf_I pf__Ljava_lang_Object_
  have ne_se : Jvm.RoadKit.slotOf Z "java/util/ArrayList" "size" "I" ≠ Jvm.RoadKit.slotOf Z "java/util/ArrayList" "elementData" "[Ljava/lang/Object;" := slot_ne (Or.inl (hw _ (List.mem_of_getElem? (i := 62) rfl))) (Or.inl (hw _ (List.mem_of_getElem? (i := 25) rfl))) (by decide) pf_I pf__Ljava_lang_Object_
  rw [ef_ri_4]
  show own_Fin _ _ _ _ _ _ _ s₁ (mkF m 0 #[.val (.ref a), .val (.int (1 : Int32)), .unset, .unset] [])
  refine own_step (fun _ k => XS.aloadN X0.here hx rfl (hb hby d16_0) rfl rfl k) ?_
  show own_Fin _ _ _ _ _ _ _ s₁ (mkF m 1 #[.val (.ref a), .val (.int (1 : Int32)), .unset, .unset] [(.ref a)])
  refine own_getFV X0 hx hZ hown (hw _ (List.mem_of_getElem? (i := 24) rfl)) Via.refl e0 Fe (hb hby d16_1) ?_
  intro T1 X1 e1
  show own_Fin _ _ _ _ _ _ _ T1 (mkF m 4 #[.val (.ref a), .val (.int (1 : Int32)), .unset, .unset] [(.ref df)])
  refine own_alenV X1 hx hZ e1 Ad (hb hby d16_4) ?_
  show own_Fin _ _ _ _ _ _ _ T1 (mkF m 5 #[.val (.ref a), .val (.int (1 : Int32)), .unset, .unset] [(.int (0 : Int32))])
  refine own_step (fun _ k => XS.istoreN X1.here hx rfl (hb hby d16_5) rfl (l' := #[.val (.ref a), .val (.int (1 : Int32)), .val (.int (0 : Int32)), .unset]) rfl k) ?_
  show own_Fin _ _ _ _ _ _ _ T1 (mkF m 6 #[.val (.ref a), .val (.int (1 : Int32)), .val (.int (0 : Int32)), .unset] [])
  refine own_step (fun _ k => XS.iloadN X1.here hx rfl (hb hby d16_6) rfl k) ?_
  show own_Fin _ _ _ _ _ _ _ T1 (mkF m 7 #[.val (.ref a), .val (.int (1 : Int32)), .val (.int (0 : Int32)), .unset] [(.int (0 : Int32))])
  refine own_step (fun _ k => XS.ifNo X1.here hx rfl (hb hby d16_7) rfl (XT.i0_gt_f (by decide)) k) ?_
  show own_Fin _ _ _ _ _ _ _ T1 (mkF m 10 #[.val (.ref a), .val (.int (1 : Int32)), .val (.int (0 : Int32)), .unset] [])
  refine own_step (fun _ k => XS.aloadN X1.here hx rfl (hb hby d16_10) rfl rfl k) ?_
  show own_Fin _ _ _ _ _ _ _ T1 (mkF m 11 #[.val (.ref a), .val (.int (1 : Int32)), .val (.int (0 : Int32)), .unset] [(.ref a)])
  refine own_getFV X1 hx hZ hown (hw _ (List.mem_of_getElem? (i := 24) rfl)) Via.refl e1 Fe (hb hby d16_11) ?_
  intro T2 X2 e2
  show own_Fin _ _ _ _ _ _ _ T2 (mkF m 14 #[.val (.ref a), .val (.int (1 : Int32)), .val (.int (0 : Int32)), .unset] [(.ref df)])
  refine own_getS X2 hx hZ hown (hw _ (List.mem_of_getElem? (i := 23) rfl)) e2 Sd (hb hby d16_14) ?_
  intro T3 X3 e3
  show own_Fin _ _ _ _ _ _ _ T3 (mkF m 17 #[.val (.ref a), .val (.int (1 : Int32)), .val (.int (0 : Int32)), .unset] [(.ref df), (.ref df)])
  refine own_step (fun _ k => XT.acmpYes X3.here hx rfl (pc0 := 17) (pc' := 45) rfl (hb hby d16_17) rfl rfl rfl (XT.aa_eq_t (congrArg Value.ref rfl)) (by decide) (by decide) k) ?_
  show own_Fin _ _ _ _ _ _ _ T3 (mkF m 45 #[.val (.ref a), .val (.int (1 : Int32)), .val (.int (0 : Int32)), .unset] [])
  refine own_step (fun _ k => XS.aloadN X3.here hx rfl (hb hby d16_45) rfl rfl k) ?_
  show own_Fin _ _ _ _ _ _ _ T3 (mkF m 46 #[.val (.ref a), .val (.int (1 : Int32)), .val (.int (0 : Int32)), .unset] [(.ref a)])
  refine own_step (fun _ k => XT.bipushV X3.here hx rfl (10 : Int32) (hb hby d16_46) (by decide) k) ?_
  show own_Fin _ _ _ _ _ _ _ T3 (mkF m 48 #[.val (.ref a), .val (.int (1 : Int32)), .val (.int (0 : Int32)), .unset] [(.int (10 : Int32)), (.ref a)])
  refine own_step (fun _ k => XS.iloadN X3.here hx rfl (hb hby d16_48) rfl k) ?_
  show own_Fin _ _ _ _ _ _ _ T3 (mkF m 49 #[.val (.ref a), .val (.int (1 : Int32)), .val (.int (0 : Int32)), .unset] [(.int (1 : Int32)), (.int (10 : Int32)), (.ref a)])
  refine own_callS X3 hx hZ (argsL := [(.int (10 : Int32)), (.int (1 : Int32))]) (rest := [(.ref a)]) hown (hw _ (List.mem_of_getElem? (i := 133) rfl)) (hw _ (List.mem_of_getElem? (i := 134) rfl)) (hw _ (List.mem_of_getElem? (i := 135) rfl)) (hw _ (List.mem_of_getElem? (i := 136) rfl)) (by decide) (rm17 l Z a0 hw h0 n0 (10 : Int32) (1 : Int32) (by decide)) e3 1 (Nat.le_of_eq rfl) (by decide) (by decide) (by decide) (by decide) (by rw [hml]; rfl) pd__II_I rfl rfl (hb hby d16_49) ?_
  rintro T4 _ _ X4 ⟨rfl, rfl, e4⟩
  rw [List.append_nil] at X4
  show own_Fin _ _ _ _ _ _ _ T4 (mkF m 52 #[.val (.ref a), .val (.int (1 : Int32)), .val (.int (0 : Int32)), .unset] [(.int (10 : Int32)), (.ref a)])
  refine own_newRE X4 hx hZ hown (hw _ (List.mem_of_getElem? (i := 137) rfl)) (hw _ (List.mem_of_getElem? (i := 138) rfl)) e4 10 (by decide) (by decide) (by decide) (by decide) (by decide) (ad := "[Ljava/lang/Object;") (by decide +kernel) (hb hby d16_52) ?_
  intro T5 hp5 k5 X5 e5 E5 A5 O5 B5
  show own_Fin _ _ _ _ _ _ _ T5 (mkF m 55 #[.val (.ref a), .val (.int (1 : Int32)), .val (.int (0 : Int32)), .unset] [(.ref h0.size), (.ref a)])
  refine own_step (fun _ k => XT.dupX1 X5.here hx rfl (hb hby d16_55) rfl rfl rfl k) ?_
  show own_Fin _ _ _ _ _ _ _ T5 (mkF m 56 #[.val (.ref a), .val (.int (1 : Int32)), .val (.int (0 : Int32)), .unset] [(.ref h0.size), (.ref a), (.ref h0.size)])
  refine own_putF X5 hx hZ (O := "java/util/ArrayList") hown (hw _ (List.mem_of_getElem? (i := 24) rfl)) Via.refl e5 (Fe.ext E5) (Ea.ext E5) (Or.inl (hw _ (List.mem_of_getElem? (i := 25) rfl))) (hw _ (List.mem_of_getElem? (i := 1) rfl)) pf__Ljava_lang_Object_ rfl rfl N0 ge (hb hby d16_56) ?_
  intro T6 hp6 L6 X6 e6 N6 W6
  show own_Fin _ _ _ _ _ _ _ T6 (mkF m 59 #[.val (.ref a), .val (.int (1 : Int32)), .val (.int (0 : Int32)), .unset] [(.ref h0.size)])
  exact own_retA X6 hx hrt rfl hlk (hb hby d16_59) rfl (by rw [e6]; exact ⟨k5, rfl, N6, ((Keep.refl _ _).ext E5).wr W6 (Or.inl (List.mem_singleton.mpr rfl)), ⟨(Ea.ext E5).wr W6, ⟨_, (Fm.ext E5).other W6 (Or.inr ne_me)⟩, (Fs.ext E5).other W6 (Or.inr ne_se), (Fe.ext E5).same W6⟩, A5.other W6 (Nat.ne_of_gt Ea.lt), O5, B5.wr W6⟩) (by decide) (by decide)
theorem d15_0 : decode jdk_38_method_7_code 0 = .ok (.aload_n 0, 1) := by decide +kernel
theorem d15_1 : decode jdk_38_method_7_code 1 = .ok (.aload_n 0, 1) := by decide +kernel
theorem d15_2 : decode jdk_38_method_7_code 2 = .ok (.getfield 48, 3) := by decide +kernel
theorem d15_5 : decode jdk_38_method_7_code 5 = .ok (.iconst 1, 1) := by decide +kernel
theorem d15_6 : decode jdk_38_method_7_code 6 = .ok (.iadd, 1) := by decide +kernel
theorem d15_7 : decode jdk_38_method_7_code 7 = .ok (.invokevirtual 69, 3) := by decide +kernel
theorem d15_10 : decode jdk_38_method_7_code 10 = .ok (.areturn, 1) := by decide +kernel
set_option maxRecDepth 65536 in
set_option maxHeartbeats 40000000 in
theorem rm15 (l : Launch) (Z : State) (a0 : Array Value) (hw : ∀ d ∈ tables_1, d.before a0 Z = true) (h0 : Heap) (n0 : Nat) (a df : Addr) (kd : ClassId) (La : own_AL Z h0 a 0 df) (Sd : Sta Z h0 "java/util/ArrayList" "DEFAULTCAPACITY_EMPTY_ELEMENTDATA" "[Ljava/lang/Object;" (.ref df)) (Ad : Arv Z h0 df kd (.object "java/lang/Object") 0 [] .null) (ge : n0 ≤ a) (gh : n0 ≤ h0.size) :
    own_Met l Z (⟨"java/util/ArrayList", "grow", "()[Ljava/lang/Object;"⟩ : MethodName) jdk_38_method_7_code 1 (some (.array (.object "java/lang/Object"))) [] ({ frames := 2, cells := 1, slots := 10, locals := 29 } : Room) #[(.ref a)] h0 (fun v h L => ∃ k, v = some (.ref h0.size) ∧ Fr n0 L ∧ Keep h0 h [a] ∧ own_AL Z h a 0 h0.size ∧ Arv Z h h0.size k (.object "java/lang/Object") 10 [] .null ∧ Ovr Z k "java/lang/Object" ∧ Exa Z h h0.size "[Ljava/lang/Object;") := by
  refine own_body pn_java_util_ArrayList ?_
  intro p e s m below meth c s₁ hx hby hml hZ hown hnm hrt hlk X0 e0
  have N0 := Fr.nil n0
  have La0 := La
  obtain ⟨Ea, ⟨mc, Fm⟩, Fs, Fe⟩ := La
  rw [ef_r_1]
  show own_Fin _ _ _ _ _ _ _ s₁ (mkF m 0 #[.val (.ref a)] [])
  refine own_step (fun _ k => XS.aloadN X0.here hx rfl (hb hby d15_0) rfl rfl k) ?_
  show own_Fin _ _ _ _ _ _ _ s₁ (mkF m 1 #[.val (.ref a)] [(.ref a)])
  refine own_step (fun _ k => XS.aloadN X0.here hx rfl (hb hby d15_1) rfl rfl k) ?_
  show own_Fin _ _ _ _ _ _ _ s₁ (mkF m 2 #[.val (.ref a)] [(.ref a), (.ref a)])
  refine own_getFV X0 hx hZ hown (hw _ (List.mem_of_getElem? (i := 61) rfl)) Via.refl e0 Fs (hb hby d15_2) ?_
  intro T1 X1 e1
  show own_Fin _ _ _ _ _ _ _ T1 (mkF m 5 #[.val (.ref a)] [(.int (0 : Int32)), (.ref a)])
  refine own_step (fun _ k => XT.iconstV X1.here hx rfl (1 : Int32) (hb hby d15_5) (by decide) k) ?_
  show own_Fin _ _ _ _ _ _ _ T1 (mkF m 6 #[.val (.ref a)] [(.int (1 : Int32)), (.int (0 : Int32)), (.ref a)])
  refine own_step (fun _ k => XS.iadd X1.here hx rfl (hb hby d15_6) rfl k) ?_
  show own_Fin _ _ _ _ _ _ _ T1 (mkF m 7 #[.val (.ref a)] [(.int ((0 : Int32) + (1 : Int32))), (.ref a)])
  rw [show ((0 : Int32) + (1 : Int32)) = (1 : Int32) from by decide]
  show own_Fin _ _ _ _ _ _ _ T1 (mkF m 7 #[.val (.ref a)] [(.int (1 : Int32)), (.ref a)])
  refine own_callP X1 hx hZ (b := a) (argsL := [(.int (1 : Int32))]) (rest := []) hown (hw _ (List.mem_of_getElem? (i := 128) rfl)) (hw _ (List.mem_of_getElem? (i := 129) rfl)) (hw _ (List.mem_of_getElem? (i := 131) rfl)) (hw _ (List.mem_of_getElem? (i := 130) rfl)) (hw _ (List.mem_of_getElem? (i := 132) rfl)) (hw _ (List.mem_of_getElem? (i := 2) rfl)) (by decide) Ea (rm16 l Z a0 hw h0 n0 a df kd La0 Sd Ad ge gh) e1 0 (Nat.le_of_eq rfl) (by decide) (by decide) (by decide) (by decide) (by rw [hml]; rfl) pd__I__Ljava_lang_Object_ rfl rfl (hb hby d15_7) ?_
  rintro T2 L2 _ X2 ⟨k2, rfl, F2, K2, La2, A2, O2, B2⟩
  have N2 := Fr.app N0 F2
  show own_Fin _ _ _ _ _ _ _ T2 (mkF m 10 #[.val (.ref a)] [(.ref h0.size)])
  exact own_retA X2 hx hrt rfl hlk (hb hby d15_10) rfl ⟨k2, rfl, N2, K2, La2, A2, O2, B2⟩ (by decide) (by decide)
theorem d14_0 : decode jdk_38_method_24_code 0 = .ok (.iload_n 3, 1) := by decide +kernel
theorem d14_1 : decode jdk_38_method_24_code 1 = .ok (.aload_n 2, 1) := by decide +kernel
theorem d14_2 : decode jdk_38_method_24_code 2 = .ok (.arraylength, 1) := by decide +kernel
theorem d14_3 : decode jdk_38_method_24_code 3 = .ok (.if_icmp .ne 8, 3) := by decide +kernel
theorem d14_6 : decode jdk_38_method_24_code 6 = .ok (.aload_n 0, 1) := by decide +kernel
theorem d14_7 : decode jdk_38_method_24_code 7 = .ok (.invokevirtual 129, 3) := by decide +kernel
theorem d14_10 : decode jdk_38_method_24_code 10 = .ok (.astore_n 2, 1) := by decide +kernel
theorem d14_11 : decode jdk_38_method_24_code 11 = .ok (.aload_n 2, 1) := by decide +kernel
theorem d14_12 : decode jdk_38_method_24_code 12 = .ok (.iload_n 3, 1) := by decide +kernel
theorem d14_13 : decode jdk_38_method_24_code 13 = .ok (.aload_n 1, 1) := by decide +kernel
theorem d14_14 : decode jdk_38_method_24_code 14 = .ok (.aastore, 1) := by decide +kernel
theorem d14_15 : decode jdk_38_method_24_code 15 = .ok (.aload_n 0, 1) := by decide +kernel
theorem d14_16 : decode jdk_38_method_24_code 16 = .ok (.iload_n 3, 1) := by decide +kernel
theorem d14_17 : decode jdk_38_method_24_code 17 = .ok (.iconst 1, 1) := by decide +kernel
theorem d14_18 : decode jdk_38_method_24_code 18 = .ok (.iadd, 1) := by decide +kernel
theorem d14_19 : decode jdk_38_method_24_code 19 = .ok (.putfield 48, 3) := by decide +kernel
theorem d14_22 : decode jdk_38_method_24_code 22 = .ok (.return_, 1) := by decide +kernel
theorem ef_rrri_4 (m : MethodId) (x0 : Addr) (x1 : Addr) (x2 : Addr) (x3 : Int32) : entryFrame m #[(.ref x0), (.ref x1), (.ref x2), (.int x3)] 4 = mkF m 0 #[.val (.ref x0), .val (.ref x1), .val (.ref x2), .val (.int x3)] [] := by first | (simp [entryFrame, mkF, argsToLocals, Value.category]; done) | rfl
theorem d13_0 : decode jdk_38_method_25_code 0 = .ok (.aload_n 0, 1) := by decide +kernel
theorem d13_1 : decode jdk_38_method_25_code 1 = .ok (.dup, 1) := by decide +kernel
theorem d13_2 : decode jdk_38_method_25_code 2 = .ok (.getfield 63, 3) := by decide +kernel
theorem d13_5 : decode jdk_38_method_25_code 5 = .ok (.iconst 1, 1) := by decide +kernel
theorem d13_6 : decode jdk_38_method_25_code 6 = .ok (.iadd, 1) := by decide +kernel
theorem d13_7 : decode jdk_38_method_25_code 7 = .ok (.putfield 63, 3) := by decide +kernel
theorem d13_10 : decode jdk_38_method_25_code 10 = .ok (.aload_n 0, 1) := by decide +kernel
theorem d13_11 : decode jdk_38_method_25_code 11 = .ok (.aload_n 1, 1) := by decide +kernel
theorem d13_12 : decode jdk_38_method_25_code 12 = .ok (.aload_n 0, 1) := by decide +kernel
theorem d13_13 : decode jdk_38_method_25_code 13 = .ok (.getfield 9, 3) := by decide +kernel
theorem d13_16 : decode jdk_38_method_25_code 16 = .ok (.aload_n 0, 1) := by decide +kernel
theorem d13_17 : decode jdk_38_method_25_code 17 = .ok (.getfield 48, 3) := by decide +kernel
theorem d13_20 : decode jdk_38_method_25_code 20 = .ok (.invokevirtual 131, 3) := by decide +kernel
theorem d13_23 : decode jdk_38_method_25_code 23 = .ok (.iconst 1, 1) := by decide +kernel
theorem d13_24 : decode jdk_38_method_25_code 24 = .ok (.ireturn, 1) := by decide +kernel
theorem ef_rr_2 (m : MethodId) (x0 : Addr) (x1 : Addr) : entryFrame m #[(.ref x0), (.ref x1)] 2 = mkF m 0 #[.val (.ref x0), .val (.ref x1)] [] := by first | (simp [entryFrame, mkF, argsToLocals, Value.category]; done) | rfl
set_option maxRecDepth 65536 in
set_option maxHeartbeats 40000000 in
theorem rm14_0 (l : Launch) (Z : State) (a0 : Array Value) (hw : ∀ d ∈ tables_1, d.before a0 Z = true) (h0 : Heap) (n0 : Nat) (a df : Addr) (kd : ClassId) (x1 : Addr) (La : own_AL Z h0 a 0 df) (Sd : Sta Z h0 "java/util/ArrayList" "DEFAULTCAPACITY_EMPTY_ELEMENTDATA" "[Ljava/lang/Object;" (.ref df)) (Ad : Arv Z h0 df kd (.object "java/lang/Object") 0 [] .null) (ge : n0 ≤ a) (gh : n0 ≤ h0.size) (Ex : Exa Z h0 x1 "java/lang/Long") :
    own_Met l Z (⟨"java/util/ArrayList", "add", "(Ljava/lang/Object;[Ljava/lang/Object;I)V"⟩ : MethodName) jdk_38_method_24_code 4 none [] ({ frames := 3, cells := 1, slots := 10, locals := 41 } : Room) #[(.ref a), (.ref x1), (.ref df), (.int (0 : Int32))] h0 (fun v h L => ∃ (ar : Addr) (k : ClassId), v = none ∧ Fr n0 L ∧ h0.size ≤ ar ∧ Keep h0 h [a] ∧ own_AL Z h a 1 ar ∧ Arv Z h ar k (.object "java/lang/Object") 10 [.ref x1] .null ∧ Ovr Z k "java/lang/Object" ∧ Exa Z h ar "[Ljava/lang/Object;") := by
  refine own_body pn_java_util_ArrayList ?_
  intro p e s m below meth c s₁ hx hby hml hZ hown hnm hrt hlk X0 e0
  have N0 := Fr.nil n0
  have La0 := La
  obtain ⟨Ea, ⟨mc, Fm⟩, Fs, Fe⟩ := La
  have ne_ms : Jvm.RoadKit.slotOf Z "java/util/AbstractList" "modCount" "I" ≠ Jvm.RoadKit.slotOf Z "java/util/ArrayList" "size" "I" := slot_ne (Or.inl (hw _ (List.mem_of_getElem? (i := 22) rfl))) (Or.inl (hw _ (List.mem_of_getElem? (i := 62) rfl))) (by decide) pf_I pf_I
  have ne_es : Jvm.RoadKit.slotOf Z "java/util/ArrayList" "elementData" "[Ljava/lang/Object;" ≠ Jvm.RoadKit.slotOf Z "java/util/ArrayList" "size" "I" := slot_ne (Or.inl (hw _ (List.mem_of_getElem? (i := 25) rfl))) (Or.inl (hw _ (List.mem_of_getElem? (i := 62) rfl))) (by decide) pf__Ljava_lang_Object_ pf_I
  rw [ef_rrri_4]
  show own_Fin _ _ _ _ _ _ _ s₁ (mkF m 0 #[.val (.ref a), .val (.ref x1), .val (.ref df), .val (.int (0 : Int32))] [])
  refine own_step (fun _ k => XS.iloadN X0.here hx rfl (hb hby d14_0) rfl k) ?_
  show own_Fin _ _ _ _ _ _ _ s₁ (mkF m 1 #[.val (.ref a), .val (.ref x1), .val (.ref df), .val (.int (0 : Int32))] [(.int (0 : Int32))])
  refine own_step (fun _ k => XS.aloadN X0.here hx rfl (hb hby d14_1) rfl rfl k) ?_
  show own_Fin _ _ _ _ _ _ _ s₁ (mkF m 2 #[.val (.ref a), .val (.ref x1), .val (.ref df), .val (.int (0 : Int32))] [(.ref df), (.int (0 : Int32))])
  refine own_alenV X0 hx hZ e0 Ad (hb hby d14_2) ?_
  show own_Fin _ _ _ _ _ _ _ s₁ (mkF m 3 #[.val (.ref a), .val (.ref x1), .val (.ref df), .val (.int (0 : Int32))] [(.int (0 : Int32)), (.int (0 : Int32))])
  refine own_step (fun _ k => XS.icmpNo X0.here hx rfl (hb hby d14_3) rfl (XT.ii_ne_f (by decide)) k) ?_
  show own_Fin _ _ _ _ _ _ _ s₁ (mkF m 6 #[.val (.ref a), .val (.ref x1), .val (.ref df), .val (.int (0 : Int32))] [])
  refine own_step (fun _ k => XS.aloadN X0.here hx rfl (hb hby d14_6) rfl rfl k) ?_
  show own_Fin _ _ _ _ _ _ _ s₁ (mkF m 7 #[.val (.ref a), .val (.ref x1), .val (.ref df), .val (.int (0 : Int32))] [(.ref a)])
  refine own_callP X0 hx hZ (b := a) (argsL := []) (rest := []) hown (hw _ (List.mem_of_getElem? (i := 123) rfl)) (hw _ (List.mem_of_getElem? (i := 124) rfl)) (hw _ (List.mem_of_getElem? (i := 126) rfl)) (hw _ (List.mem_of_getElem? (i := 125) rfl)) (hw _ (List.mem_of_getElem? (i := 127) rfl)) (hw _ (List.mem_of_getElem? (i := 2) rfl)) (by decide) Ea (rm15 l Z a0 hw h0 n0 a df kd La0 Sd Ad ge gh) e0 0 (Nat.le_of_eq rfl) (by decide) (by decide) (by decide) (by decide) (by rw [hml]; rfl) pd____Ljava_lang_Object_ rfl rfl (hb hby d14_7) ?_
  rintro T1 L1 _ X1 ⟨k1, rfl, F1, K1, La1, A1, O1, B1⟩
  have N1 := Fr.app N0 F1
  show own_Fin _ _ _ _ _ _ _ T1 (mkF m 10 #[.val (.ref a), .val (.ref x1), .val (.ref df), .val (.int (0 : Int32))] [(.ref h0.size)])
  refine own_step (fun _ k => XS.astoreN X1.here hx rfl (hb hby d14_10) rfl rfl (l' := #[.val (.ref a), .val (.ref x1), .val (.ref h0.size), .val (.int (0 : Int32))]) rfl k) ?_
  show own_Fin _ _ _ _ _ _ _ T1 (mkF m 11 #[.val (.ref a), .val (.ref x1), .val (.ref h0.size), .val (.int (0 : Int32))] [])
  refine own_step (fun _ k => XS.aloadN X1.here hx rfl (hb hby d14_11) rfl rfl k) ?_
  show own_Fin _ _ _ _ _ _ _ T1 (mkF m 12 #[.val (.ref a), .val (.ref x1), .val (.ref h0.size), .val (.int (0 : Int32))] [(.ref h0.size)])
  refine own_step (fun _ k => XS.iloadN X1.here hx rfl (hb hby d14_12) rfl k) ?_
  show own_Fin _ _ _ _ _ _ _ T1 (mkF m 13 #[.val (.ref a), .val (.ref x1), .val (.ref h0.size), .val (.int (0 : Int32))] [(.int (0 : Int32)), (.ref h0.size)])
  refine own_step (fun _ k => XS.aloadN X1.here hx rfl (hb hby d14_13) rfl rfl k) ?_
  show own_Fin _ _ _ _ _ _ _ T1 (mkF m 14 #[.val (.ref a), .val (.ref x1), .val (.ref h0.size), .val (.int (0 : Int32))] [(.ref x1), (.int (0 : Int32)), (.ref h0.size)])
  refine own_stRV X1 hx hZ rfl A1 O1 (Ins.of_exa (Ex.keep K1) (hw _ (List.mem_of_getElem? (i := 139) rfl))) N1 gh (by decide) rfl (by show (0 : Nat) < (10 : Int32).toNatClampNeg; decide) (hb hby d14_14) ?_
  intro T2 hp2 L2 X2 e2 N2 W2 A2
  obtain ⟨Eb, ⟨mb, Gm⟩, Gs, Ge⟩ := La1
  have hne : a ≠ h0.size := Nat.ne_of_lt Ea.lt
  have Kk : Keep h0 hp2 [a] := K1.wr W2 (Or.inr (Nat.le_refl _))
  replace Eb := Eb.wr W2
  replace Gm := Gm.other W2 (Or.inl hne)
  replace Gs := Gs.other W2 (Or.inl hne)
  replace Ge := Ge.other W2 (Or.inl hne)
  show own_Fin _ _ _ _ _ _ _ T2 (mkF m 15 #[.val (.ref a), .val (.ref x1), .val (.ref h0.size), .val (.int (0 : Int32))] [])
  refine own_step (fun _ k => XS.aloadN X2.here hx rfl (hb hby d14_15) rfl rfl k) ?_
  show own_Fin _ _ _ _ _ _ _ T2 (mkF m 16 #[.val (.ref a), .val (.ref x1), .val (.ref h0.size), .val (.int (0 : Int32))] [(.ref a)])
  refine own_step (fun _ k => XS.iloadN X2.here hx rfl (hb hby d14_16) rfl k) ?_
  show own_Fin _ _ _ _ _ _ _ T2 (mkF m 17 #[.val (.ref a), .val (.ref x1), .val (.ref h0.size), .val (.int (0 : Int32))] [(.int (0 : Int32)), (.ref a)])
  refine own_step (fun _ k => XT.iconstV X2.here hx rfl (1 : Int32) (hb hby d14_17) (by decide) k) ?_
  show own_Fin _ _ _ _ _ _ _ T2 (mkF m 18 #[.val (.ref a), .val (.ref x1), .val (.ref h0.size), .val (.int (0 : Int32))] [(.int (1 : Int32)), (.int (0 : Int32)), (.ref a)])
  refine own_step (fun _ k => XS.iadd X2.here hx rfl (hb hby d14_18) rfl k) ?_
  show own_Fin _ _ _ _ _ _ _ T2 (mkF m 19 #[.val (.ref a), .val (.ref x1), .val (.ref h0.size), .val (.int (0 : Int32))] [(.int ((0 : Int32) + (1 : Int32))), (.ref a)])
  rw [show ((0 : Int32) + (1 : Int32)) = (1 : Int32) from by decide]
  show own_Fin _ _ _ _ _ _ _ T2 (mkF m 19 #[.val (.ref a), .val (.ref x1), .val (.ref h0.size), .val (.int (0 : Int32))] [(.int (1 : Int32)), (.ref a)])
  refine own_putF X2 hx hZ (O := "java/util/ArrayList") hown (hw _ (List.mem_of_getElem? (i := 61) rfl)) Via.refl e2 Gs Eb (Or.inl (hw _ (List.mem_of_getElem? (i := 62) rfl))) (hw _ (List.mem_of_getElem? (i := 1) rfl)) pf_I rfl rfl N2 ge (hb hby d14_19) ?_
  intro T3 hp3 L3 X3 e3 N3 W3
  show own_Fin _ _ _ _ _ _ _ T3 (mkF m 22 #[.val (.ref a), .val (.ref x1), .val (.ref h0.size), .val (.int (0 : Int32))] [])
  exact own_retV X3 hx hrt hlk (hb hby d14_22) (by rw [e3]; exact ⟨h0.size, k1, rfl, N3, Nat.le_refl _, Kk.wr W3 (Or.inl (List.mem_singleton.mpr rfl)), ⟨Eb.wr W3, ⟨_, Gm.other W3 (Or.inr ne_ms)⟩, Gs.same W3, Ge.other W3 (Or.inr ne_es)⟩, A2.other W3 hne.symm, O1, (B1.wr W2).wr W3⟩) (by decide) (by decide)
set_option maxRecDepth 65536 in
set_option maxHeartbeats 40000000 in
theorem rm13_0 (l : Launch) (Z : State) (a0 : Array Value) (hw : ∀ d ∈ tables_1, d.before a0 Z = true) (h0 : Heap) (n0 : Nat) (a df : Addr) (kd : ClassId) (x1 : Addr) (La : own_AL Z h0 a 0 df) (Sd : Sta Z h0 "java/util/ArrayList" "DEFAULTCAPACITY_EMPTY_ELEMENTDATA" "[Ljava/lang/Object;" (.ref df)) (Ad : Arv Z h0 df kd (.object "java/lang/Object") 0 [] .null) (ge : n0 ≤ a) (gh : n0 ≤ h0.size) (Ex : Exa Z h0 x1 "java/lang/Long") :
    own_Met l Z (⟨"java/util/ArrayList", "add", "(Ljava/lang/Object;)Z"⟩ : MethodName) jdk_38_method_25_code 2 (some .boolean) [] ({ frames := 4, cells := 1, slots := 10, locals := 56 } : Room) #[(.ref a), (.ref x1)] h0 (fun v h L => ∃ (ar : Addr) (k : ClassId), v = some (.int 1) ∧ Fr n0 L ∧ h0.size ≤ ar ∧ Keep h0 h [a] ∧ own_AL Z h a 1 ar ∧ Arv Z h ar k (.object "java/lang/Object") 10 [.ref x1] .null ∧ Ovr Z k "java/lang/Object" ∧ Exa Z h ar "[Ljava/lang/Object;") := by
  refine own_body pn_java_util_ArrayList ?_
  intro p e s m below meth c s₁ hx hby hml hZ hown hnm hrt hlk X0 e0
  have N0 := Fr.nil n0
  obtain ⟨Ea, ⟨mc, Fm⟩, Fs, Fe⟩ := La
  have ne_sm : Jvm.RoadKit.slotOf Z "java/util/ArrayList" "size" "I" ≠ Jvm.RoadKit.slotOf Z "java/util/AbstractList" "modCount" "I" := slot_ne (Or.inl (hw _ (List.mem_of_getElem? (i := 62) rfl))) (Or.inl (hw _ (List.mem_of_getElem? (i := 22) rfl))) (by decide) pf_I pf_I
  have ne_em : Jvm.RoadKit.slotOf Z "java/util/ArrayList" "elementData" "[Ljava/lang/Object;" ≠ Jvm.RoadKit.slotOf Z "java/util/AbstractList" "modCount" "I" := slot_ne (Or.inl (hw _ (List.mem_of_getElem? (i := 25) rfl))) (Or.inl (hw _ (List.mem_of_getElem? (i := 22) rfl))) (by decide) pf__Ljava_lang_Object_ pf_I
  rw [ef_rr_2]
  show own_Fin _ _ _ _ _ _ _ s₁ (mkF m 0 #[.val (.ref a), .val (.ref x1)] [])
  refine own_step (fun _ k => XS.aloadN X0.here hx rfl (hb hby d13_0) rfl rfl k) ?_
  show own_Fin _ _ _ _ _ _ _ s₁ (mkF m 1 #[.val (.ref a), .val (.ref x1)] [(.ref a)])
  refine own_step (fun _ k => XS.dup X0.here hx rfl (hb hby d13_1) rfl rfl k) ?_
  show own_Fin _ _ _ _ _ _ _ s₁ (mkF m 2 #[.val (.ref a), .val (.ref x1)] [(.ref a), (.ref a)])
  refine own_getFV X0 hx hZ hown (hw _ (List.mem_of_getElem? (i := 116) rfl)) (Via.of (hw _ (List.mem_of_getElem? (i := 117) rfl))) e0 Fm (hb hby d13_2) ?_
  intro T1 X1 e1
  show own_Fin _ _ _ _ _ _ _ T1 (mkF m 5 #[.val (.ref a), .val (.ref x1)] [(.int mc), (.ref a)])
  refine own_step (fun _ k => XT.iconstV X1.here hx rfl (1 : Int32) (hb hby d13_5) (by decide) k) ?_
  show own_Fin _ _ _ _ _ _ _ T1 (mkF m 6 #[.val (.ref a), .val (.ref x1)] [(.int (1 : Int32)), (.int mc), (.ref a)])
  refine own_step (fun _ k => XS.iadd X1.here hx rfl (hb hby d13_6) rfl k) ?_
  show own_Fin _ _ _ _ _ _ _ T1 (mkF m 7 #[.val (.ref a), .val (.ref x1)] [(.int (mc + (1 : Int32))), (.ref a)])
  refine own_putF X1 hx hZ (O := "java/util/AbstractList") hown (hw _ (List.mem_of_getElem? (i := 116) rfl)) (Via.of (hw _ (List.mem_of_getElem? (i := 117) rfl))) e1 Fm Ea (Or.inl (hw _ (List.mem_of_getElem? (i := 22) rfl))) (hw _ (List.mem_of_getElem? (i := 1) rfl)) pf_I rfl rfl N0 ge (hb hby d13_7) ?_
  intro T2 hp2 L2 X2 e2 N2 W2
  have hLa : own_AL Z hp2 a 0 df := ⟨Ea.wr W2, ⟨_, Fm.same W2⟩, Fs.other W2 (Or.inr ne_sm), Fe.other W2 (Or.inr ne_em)⟩
  have K1 : Keep h0 hp2 [a] := (Keep.refl _ _).wr W2 (Or.inl (by simp))
  have hda : df ≠ a := by obtain ⟨cd, Ac, -⟩ := Ad; exact (ne_arr Ea (hw _ (List.mem_of_getElem? (i := 1) rfl)) Ac).symm
  have Ad1 := Ad.other W2 hda
  have Sd1 := Sd.wr W2
  have gh1 : n0 ≤ hp2.size := by rw [W2.size]; exact gh
  have Ex1 := Ex.wr W2
  show own_Fin _ _ _ _ _ _ _ T2 (mkF m 10 #[.val (.ref a), .val (.ref x1)] [])
  refine own_step (fun _ k => XS.aloadN X2.here hx rfl (hb hby d13_10) rfl rfl k) ?_
  show own_Fin _ _ _ _ _ _ _ T2 (mkF m 11 #[.val (.ref a), .val (.ref x1)] [(.ref a)])
  refine own_step (fun _ k => XS.aloadN X2.here hx rfl (hb hby d13_11) rfl rfl k) ?_
  show own_Fin _ _ _ _ _ _ _ T2 (mkF m 12 #[.val (.ref a), .val (.ref x1)] [(.ref x1), (.ref a)])
  refine own_step (fun _ k => XS.aloadN X2.here hx rfl (hb hby d13_12) rfl rfl k) ?_
  show own_Fin _ _ _ _ _ _ _ T2 (mkF m 13 #[.val (.ref a), .val (.ref x1)] [(.ref a), (.ref x1), (.ref a)])
  refine own_getFV X2 hx hZ hown (hw _ (List.mem_of_getElem? (i := 24) rfl)) Via.refl e2 hLa.2.2.2 (hb hby d13_13) ?_
  intro T3 X3 e3
  show own_Fin _ _ _ _ _ _ _ T3 (mkF m 16 #[.val (.ref a), .val (.ref x1)] [(.ref df), (.ref x1), (.ref a)])
  refine own_step (fun _ k => XS.aloadN X3.here hx rfl (hb hby d13_16) rfl rfl k) ?_
  show own_Fin _ _ _ _ _ _ _ T3 (mkF m 17 #[.val (.ref a), .val (.ref x1)] [(.ref a), (.ref df), (.ref x1), (.ref a)])
  refine own_getFV X3 hx hZ hown (hw _ (List.mem_of_getElem? (i := 61) rfl)) Via.refl e3 hLa.2.2.1 (hb hby d13_17) ?_
  intro T4 X4 e4
  show own_Fin _ _ _ _ _ _ _ T4 (mkF m 20 #[.val (.ref a), .val (.ref x1)] [(.int (0 : Int32)), (.ref df), (.ref x1), (.ref a)])
  refine own_callP X4 hx hZ (b := a) (argsL := [(.ref x1), (.ref df), (.int (0 : Int32))]) (rest := []) hown (hw _ (List.mem_of_getElem? (i := 118) rfl)) (hw _ (List.mem_of_getElem? (i := 119) rfl)) (hw _ (List.mem_of_getElem? (i := 121) rfl)) (hw _ (List.mem_of_getElem? (i := 120) rfl)) (hw _ (List.mem_of_getElem? (i := 122) rfl)) (hw _ (List.mem_of_getElem? (i := 2) rfl)) (by decide) hLa.1 (rm14_0 l Z a0 hw hp2 n0 a df kd x1 hLa Sd1 Ad1 ge gh1 Ex1) e4 0 (Nat.le_of_eq rfl) (by decide) (by decide) (by decide) (by decide) (by rw [hml]; rfl) pd__Ljava_lang_Object__Ljava_lang_Object_I_V rfl rfl (hb hby d13_20) ?_
  rintro T5 L5 _ X5 ⟨ar5, k5, rfl, F5, G5, K5, La5, A5, O5, B5⟩
  have N5 := Fr.app N2 F5
  show own_Fin _ _ _ _ _ _ _ T5 (mkF m 23 #[.val (.ref a), .val (.ref x1)] [])
  refine own_step (fun _ k => XT.iconstV X5.here hx rfl (1 : Int32) (hb hby d13_23) (by decide) k) ?_
  show own_Fin _ _ _ _ _ _ _ T5 (mkF m 24 #[.val (.ref a), .val (.ref x1)] [(.int (1 : Int32))])
  exact own_retZ X5 hx hrt hlk (hb hby d13_24) (Or.inr rfl) ⟨ar5, k5, rfl, N5, by rw [← W2.size]; exact G5, K1.trans K5 (fun x hx => Or.inl hx), La5, A5, O5, B5⟩ (by decide) (by decide)
set_option maxRecDepth 65536 in
set_option maxHeartbeats 40000000 in
theorem rm14_1 (l : Launch) (Z : State) (a0 : Array Value) (hw : ∀ d ∈ tables_1, d.before a0 Z = true) (h0 : Heap) (n0 : Nat) (a ar : Addr) (k : ClassId) (x1 x2 : Addr) (La : own_AL Z h0 a 1 ar) (Aa : Arv Z h0 ar k (.object "java/lang/Object") 10 [.ref x1] .null) (Oa : Ovr Z k "java/lang/Object") (Ba : Exa Z h0 ar "[Ljava/lang/Object;") (ge : n0 ≤ a) (gr : n0 ≤ ar) (gne : ar ≠ a) (Ex : Exa Z h0 x2 "java/lang/Long") :
    own_Met l Z (⟨"java/util/ArrayList", "add", "(Ljava/lang/Object;[Ljava/lang/Object;I)V"⟩ : MethodName) jdk_38_method_24_code 4 none [] ({ frames := 0, cells := 0, slots := 0, locals := 0 } : Room) #[(.ref a), (.ref x2), (.ref ar), (.int (1 : Int32))] h0 (fun v h L => v = none ∧ Fr n0 L ∧ Keep h0 h [a, ar] ∧ own_AL Z h a 2 ar ∧ Arv Z h ar k (.object "java/lang/Object") 10 [.ref x1, .ref x2] .null) := by
  refine own_body pn_java_util_ArrayList ?_
  intro p e s m below meth c s₁ hx hby hml hZ hown hnm hrt hlk X0 e0
  have N0 := Fr.nil n0
  have La0 := La
  obtain ⟨Ea, ⟨mc, Fm⟩, Fs, Fe⟩ := La
  have ne_ms : Jvm.RoadKit.slotOf Z "java/util/AbstractList" "modCount" "I" ≠ Jvm.RoadKit.slotOf Z "java/util/ArrayList" "size" "I" := slot_ne (Or.inl (hw _ (List.mem_of_getElem? (i := 22) rfl))) (Or.inl (hw _ (List.mem_of_getElem? (i := 62) rfl))) (by decide) pf_I pf_I
  have ne_es : Jvm.RoadKit.slotOf Z "java/util/ArrayList" "elementData" "[Ljava/lang/Object;" ≠ Jvm.RoadKit.slotOf Z "java/util/ArrayList" "size" "I" := slot_ne (Or.inl (hw _ (List.mem_of_getElem? (i := 25) rfl))) (Or.inl (hw _ (List.mem_of_getElem? (i := 62) rfl))) (by decide) pf__Ljava_lang_Object_ pf_I
  rw [ef_rrri_4]
  show own_Fin _ _ _ _ _ _ _ s₁ (mkF m 0 #[.val (.ref a), .val (.ref x2), .val (.ref ar), .val (.int (1 : Int32))] [])
  refine own_step (fun _ k => XS.iloadN X0.here hx rfl (hb hby d14_0) rfl k) ?_
  show own_Fin _ _ _ _ _ _ _ s₁ (mkF m 1 #[.val (.ref a), .val (.ref x2), .val (.ref ar), .val (.int (1 : Int32))] [(.int (1 : Int32))])
  refine own_step (fun _ k => XS.aloadN X0.here hx rfl (hb hby d14_1) rfl rfl k) ?_
  show own_Fin _ _ _ _ _ _ _ s₁ (mkF m 2 #[.val (.ref a), .val (.ref x2), .val (.ref ar), .val (.int (1 : Int32))] [(.ref ar), (.int (1 : Int32))])
  refine own_alenV X0 hx hZ e0 Aa (hb hby d14_2) ?_
  show own_Fin _ _ _ _ _ _ _ s₁ (mkF m 3 #[.val (.ref a), .val (.ref x2), .val (.ref ar), .val (.int (1 : Int32))] [(.int (10 : Int32)), (.int (1 : Int32))])
  refine own_step (fun _ k => XS.icmpYes X0.here hx rfl (pc0 := 3) (pc' := 11) rfl (hb hby d14_3) rfl (XT.ii_ne_t (by decide)) (by decide) (by decide) k) ?_
  show own_Fin _ _ _ _ _ _ _ s₁ (mkF m 11 #[.val (.ref a), .val (.ref x2), .val (.ref ar), .val (.int (1 : Int32))] [])
  refine own_step (fun _ k => XS.aloadN X0.here hx rfl (hb hby d14_11) rfl rfl k) ?_
  show own_Fin _ _ _ _ _ _ _ s₁ (mkF m 12 #[.val (.ref a), .val (.ref x2), .val (.ref ar), .val (.int (1 : Int32))] [(.ref ar)])
  refine own_step (fun _ k => XS.iloadN X0.here hx rfl (hb hby d14_12) rfl k) ?_
  show own_Fin _ _ _ _ _ _ _ s₁ (mkF m 13 #[.val (.ref a), .val (.ref x2), .val (.ref ar), .val (.int (1 : Int32))] [(.int (1 : Int32)), (.ref ar)])
  refine own_step (fun _ k => XS.aloadN X0.here hx rfl (hb hby d14_13) rfl rfl k) ?_
  show own_Fin _ _ _ _ _ _ _ s₁ (mkF m 14 #[.val (.ref a), .val (.ref x2), .val (.ref ar), .val (.int (1 : Int32))] [(.ref x2), (.int (1 : Int32)), (.ref ar)])
  refine own_stRV X0 hx hZ e0 Aa Oa (Ins.of_exa Ex (hw _ (List.mem_of_getElem? (i := 139) rfl))) N0 gr (by decide) rfl (by show (1 : Nat) < (10 : Int32).toNatClampNeg; decide) (hb hby d14_14) ?_
  intro T1 hp1 L1 X1 e1 N1 W1 A1
  have Eb := Ea
  have Gm := Fm
  have Gs := Fs
  have Ge := Fe
  have hne : a ≠ ar := gne.symm
  have Kk : Keep h0 hp1 [a, ar] := (Keep.refl _ _).wr W1 (Or.inl (by simp))
  replace Eb := Eb.wr W1
  replace Gm := Gm.other W1 (Or.inl hne)
  replace Gs := Gs.other W1 (Or.inl hne)
  replace Ge := Ge.other W1 (Or.inl hne)
  show own_Fin _ _ _ _ _ _ _ T1 (mkF m 15 #[.val (.ref a), .val (.ref x2), .val (.ref ar), .val (.int (1 : Int32))] [])
  refine own_step (fun _ k => XS.aloadN X1.here hx rfl (hb hby d14_15) rfl rfl k) ?_
  show own_Fin _ _ _ _ _ _ _ T1 (mkF m 16 #[.val (.ref a), .val (.ref x2), .val (.ref ar), .val (.int (1 : Int32))] [(.ref a)])
  refine own_step (fun _ k => XS.iloadN X1.here hx rfl (hb hby d14_16) rfl k) ?_
  show own_Fin _ _ _ _ _ _ _ T1 (mkF m 17 #[.val (.ref a), .val (.ref x2), .val (.ref ar), .val (.int (1 : Int32))] [(.int (1 : Int32)), (.ref a)])
  refine own_step (fun _ k => XT.iconstV X1.here hx rfl (1 : Int32) (hb hby d14_17) (by decide) k) ?_
  show own_Fin _ _ _ _ _ _ _ T1 (mkF m 18 #[.val (.ref a), .val (.ref x2), .val (.ref ar), .val (.int (1 : Int32))] [(.int (1 : Int32)), (.int (1 : Int32)), (.ref a)])
  refine own_step (fun _ k => XS.iadd X1.here hx rfl (hb hby d14_18) rfl k) ?_
  show own_Fin _ _ _ _ _ _ _ T1 (mkF m 19 #[.val (.ref a), .val (.ref x2), .val (.ref ar), .val (.int (1 : Int32))] [(.int ((1 : Int32) + (1 : Int32))), (.ref a)])
  rw [show ((1 : Int32) + (1 : Int32)) = (2 : Int32) from by decide]
  show own_Fin _ _ _ _ _ _ _ T1 (mkF m 19 #[.val (.ref a), .val (.ref x2), .val (.ref ar), .val (.int (1 : Int32))] [(.int (2 : Int32)), (.ref a)])
  refine own_putF X1 hx hZ (O := "java/util/ArrayList") hown (hw _ (List.mem_of_getElem? (i := 61) rfl)) Via.refl e1 Gs Eb (Or.inl (hw _ (List.mem_of_getElem? (i := 62) rfl))) (hw _ (List.mem_of_getElem? (i := 1) rfl)) pf_I rfl rfl N1 ge (hb hby d14_19) ?_
  intro T2 hp2 L2 X2 e2 N2 W2
  show own_Fin _ _ _ _ _ _ _ T2 (mkF m 22 #[.val (.ref a), .val (.ref x2), .val (.ref ar), .val (.int (1 : Int32))] [])
  exact own_retV X2 hx hrt hlk (hb hby d14_22) (by rw [e2]; exact ⟨rfl, N2, Kk.wr W2 (Or.inl (by simp)), ⟨Eb.wr W2, ⟨_, Gm.other W2 (Or.inr ne_ms)⟩, Gs.same W2, Ge.other W2 (Or.inr ne_es)⟩, A1.other W2 hne.symm⟩) (by decide) (by decide)
set_option maxRecDepth 65536 in
set_option maxHeartbeats 40000000 in
theorem rm13_1 (l : Launch) (Z : State) (a0 : Array Value) (hw : ∀ d ∈ tables_1, d.before a0 Z = true) (h0 : Heap) (n0 : Nat) (a ar : Addr) (k : ClassId) (x1 x2 : Addr) (La : own_AL Z h0 a 1 ar) (Aa : Arv Z h0 ar k (.object "java/lang/Object") 10 [.ref x1] .null) (Oa : Ovr Z k "java/lang/Object") (Ba : Exa Z h0 ar "[Ljava/lang/Object;") (ge : n0 ≤ a) (gr : n0 ≤ ar) (gne : ar ≠ a) (Ex : Exa Z h0 x2 "java/lang/Long") :
    own_Met l Z (⟨"java/util/ArrayList", "add", "(Ljava/lang/Object;)Z"⟩ : MethodName) jdk_38_method_25_code 2 (some .boolean) [] ({ frames := 1, cells := 0, slots := 0, locals := 15 } : Room) #[(.ref a), (.ref x2)] h0 (fun v h L => v = some (.int 1) ∧ Fr n0 L ∧ Keep h0 h [a, ar] ∧ own_AL Z h a 2 ar ∧ Arv Z h ar k (.object "java/lang/Object") 10 [.ref x1, .ref x2] .null) := by
  refine own_body pn_java_util_ArrayList ?_
  intro p e s m below meth c s₁ hx hby hml hZ hown hnm hrt hlk X0 e0
  have N0 := Fr.nil n0
  obtain ⟨Ea, ⟨mc, Fm⟩, Fs, Fe⟩ := La
  have ne_sm : Jvm.RoadKit.slotOf Z "java/util/ArrayList" "size" "I" ≠ Jvm.RoadKit.slotOf Z "java/util/AbstractList" "modCount" "I" := slot_ne (Or.inl (hw _ (List.mem_of_getElem? (i := 62) rfl))) (Or.inl (hw _ (List.mem_of_getElem? (i := 22) rfl))) (by decide) pf_I pf_I
  have ne_em : Jvm.RoadKit.slotOf Z "java/util/ArrayList" "elementData" "[Ljava/lang/Object;" ≠ Jvm.RoadKit.slotOf Z "java/util/AbstractList" "modCount" "I" := slot_ne (Or.inl (hw _ (List.mem_of_getElem? (i := 25) rfl))) (Or.inl (hw _ (List.mem_of_getElem? (i := 22) rfl))) (by decide) pf__Ljava_lang_Object_ pf_I
  rw [ef_rr_2]
  show own_Fin _ _ _ _ _ _ _ s₁ (mkF m 0 #[.val (.ref a), .val (.ref x2)] [])
  refine own_step (fun _ k => XS.aloadN X0.here hx rfl (hb hby d13_0) rfl rfl k) ?_
  show own_Fin _ _ _ _ _ _ _ s₁ (mkF m 1 #[.val (.ref a), .val (.ref x2)] [(.ref a)])
  refine own_step (fun _ k => XS.dup X0.here hx rfl (hb hby d13_1) rfl rfl k) ?_
  show own_Fin _ _ _ _ _ _ _ s₁ (mkF m 2 #[.val (.ref a), .val (.ref x2)] [(.ref a), (.ref a)])
  refine own_getFV X0 hx hZ hown (hw _ (List.mem_of_getElem? (i := 116) rfl)) (Via.of (hw _ (List.mem_of_getElem? (i := 117) rfl))) e0 Fm (hb hby d13_2) ?_
  intro T1 X1 e1
  show own_Fin _ _ _ _ _ _ _ T1 (mkF m 5 #[.val (.ref a), .val (.ref x2)] [(.int mc), (.ref a)])
  refine own_step (fun _ k => XT.iconstV X1.here hx rfl (1 : Int32) (hb hby d13_5) (by decide) k) ?_
  show own_Fin _ _ _ _ _ _ _ T1 (mkF m 6 #[.val (.ref a), .val (.ref x2)] [(.int (1 : Int32)), (.int mc), (.ref a)])
  refine own_step (fun _ k => XS.iadd X1.here hx rfl (hb hby d13_6) rfl k) ?_
  show own_Fin _ _ _ _ _ _ _ T1 (mkF m 7 #[.val (.ref a), .val (.ref x2)] [(.int (mc + (1 : Int32))), (.ref a)])
  refine own_putF X1 hx hZ (O := "java/util/AbstractList") hown (hw _ (List.mem_of_getElem? (i := 116) rfl)) (Via.of (hw _ (List.mem_of_getElem? (i := 117) rfl))) e1 Fm Ea (Or.inl (hw _ (List.mem_of_getElem? (i := 22) rfl))) (hw _ (List.mem_of_getElem? (i := 1) rfl)) pf_I rfl rfl N0 ge (hb hby d13_7) ?_
  intro T2 hp2 L2 X2 e2 N2 W2
  have hLa : own_AL Z hp2 a 1 ar := ⟨Ea.wr W2, ⟨_, Fm.same W2⟩, Fs.other W2 (Or.inr ne_sm), Fe.other W2 (Or.inr ne_em)⟩
  have K1 : Keep h0 hp2 [a, ar] := (Keep.refl _ _).wr W2 (Or.inl (by simp))
  have Aa1 := Aa.other W2 gne
  have Ba1 := Ba.wr W2
  have Ex1 := Ex.wr W2
  show own_Fin _ _ _ _ _ _ _ T2 (mkF m 10 #[.val (.ref a), .val (.ref x2)] [])
  refine own_step (fun _ k => XS.aloadN X2.here hx rfl (hb hby d13_10) rfl rfl k) ?_
  show own_Fin _ _ _ _ _ _ _ T2 (mkF m 11 #[.val (.ref a), .val (.ref x2)] [(.ref a)])
  refine own_step (fun _ k => XS.aloadN X2.here hx rfl (hb hby d13_11) rfl rfl k) ?_
  show own_Fin _ _ _ _ _ _ _ T2 (mkF m 12 #[.val (.ref a), .val (.ref x2)] [(.ref x2), (.ref a)])
  refine own_step (fun _ k => XS.aloadN X2.here hx rfl (hb hby d13_12) rfl rfl k) ?_
  show own_Fin _ _ _ _ _ _ _ T2 (mkF m 13 #[.val (.ref a), .val (.ref x2)] [(.ref a), (.ref x2), (.ref a)])
  refine own_getFV X2 hx hZ hown (hw _ (List.mem_of_getElem? (i := 24) rfl)) Via.refl e2 hLa.2.2.2 (hb hby d13_13) ?_
  intro T3 X3 e3
  show own_Fin _ _ _ _ _ _ _ T3 (mkF m 16 #[.val (.ref a), .val (.ref x2)] [(.ref ar), (.ref x2), (.ref a)])
  refine own_step (fun _ k => XS.aloadN X3.here hx rfl (hb hby d13_16) rfl rfl k) ?_
  show own_Fin _ _ _ _ _ _ _ T3 (mkF m 17 #[.val (.ref a), .val (.ref x2)] [(.ref a), (.ref ar), (.ref x2), (.ref a)])
  refine own_getFV X3 hx hZ hown (hw _ (List.mem_of_getElem? (i := 61) rfl)) Via.refl e3 hLa.2.2.1 (hb hby d13_17) ?_
  intro T4 X4 e4
  show own_Fin _ _ _ _ _ _ _ T4 (mkF m 20 #[.val (.ref a), .val (.ref x2)] [(.int (1 : Int32)), (.ref ar), (.ref x2), (.ref a)])
  refine own_callP X4 hx hZ (b := a) (argsL := [(.ref x2), (.ref ar), (.int (1 : Int32))]) (rest := []) hown (hw _ (List.mem_of_getElem? (i := 118) rfl)) (hw _ (List.mem_of_getElem? (i := 119) rfl)) (hw _ (List.mem_of_getElem? (i := 121) rfl)) (hw _ (List.mem_of_getElem? (i := 120) rfl)) (hw _ (List.mem_of_getElem? (i := 122) rfl)) (hw _ (List.mem_of_getElem? (i := 2) rfl)) (by decide) hLa.1 (rm14_1 l Z a0 hw hp2 n0 a ar k x1 x2 hLa Aa1 Oa Ba1 ge gr gne Ex1) e4 0 (Nat.le_of_eq rfl) (by decide) (by decide) (by decide) (by decide) (by rw [hml]; rfl) pd__Ljava_lang_Object__Ljava_lang_Object_I_V rfl rfl (hb hby d13_20) ?_
  rintro T5 L5 _ X5 ⟨rfl, F5, K5, La5, A5⟩
  have N5 := Fr.app N2 F5
  show own_Fin _ _ _ _ _ _ _ T5 (mkF m 23 #[.val (.ref a), .val (.ref x2)] [])
  refine own_step (fun _ k => XT.iconstV X5.here hx rfl (1 : Int32) (hb hby d13_23) (by decide) k) ?_
  show own_Fin _ _ _ _ _ _ _ T5 (mkF m 24 #[.val (.ref a), .val (.ref x2)] [(.int (1 : Int32))])
  exact own_retZ X5 hx hrt hlk (hb hby d13_24) (Or.inr rfl) ⟨rfl, N5, K1.trans K5 (fun x hx => Or.inl hx), La5, A5⟩ (by decide) (by decide)
set_option maxRecDepth 65536 in
set_option maxHeartbeats 40000000 in
theorem rm14_2 (l : Launch) (Z : State) (a0 : Array Value) (hw : ∀ d ∈ tables_1, d.before a0 Z = true) (h0 : Heap) (n0 : Nat) (a ar : Addr) (k : ClassId) (x1 x2 x3 : Addr) (La : own_AL Z h0 a 2 ar) (Aa : Arv Z h0 ar k (.object "java/lang/Object") 10 [.ref x1, .ref x2] .null) (Oa : Ovr Z k "java/lang/Object") (Ba : Exa Z h0 ar "[Ljava/lang/Object;") (ge : n0 ≤ a) (gr : n0 ≤ ar) (gne : ar ≠ a) (Ex : Exa Z h0 x3 "java/lang/Long") :
    own_Met l Z (⟨"java/util/ArrayList", "add", "(Ljava/lang/Object;[Ljava/lang/Object;I)V"⟩ : MethodName) jdk_38_method_24_code 4 none [] ({ frames := 0, cells := 0, slots := 0, locals := 0 } : Room) #[(.ref a), (.ref x3), (.ref ar), (.int (2 : Int32))] h0 (fun v h L => v = none ∧ Fr n0 L ∧ Keep h0 h [a, ar] ∧ own_AL Z h a 3 ar ∧ Arv Z h ar k (.object "java/lang/Object") 10 [.ref x1, .ref x2, .ref x3] .null) := by
  refine own_body pn_java_util_ArrayList ?_
  intro p e s m below meth c s₁ hx hby hml hZ hown hnm hrt hlk X0 e0
  have N0 := Fr.nil n0
  have La0 := La
  obtain ⟨Ea, ⟨mc, Fm⟩, Fs, Fe⟩ := La
  have ne_ms : Jvm.RoadKit.slotOf Z "java/util/AbstractList" "modCount" "I" ≠ Jvm.RoadKit.slotOf Z "java/util/ArrayList" "size" "I" := slot_ne (Or.inl (hw _ (List.mem_of_getElem? (i := 22) rfl))) (Or.inl (hw _ (List.mem_of_getElem? (i := 62) rfl))) (by decide) pf_I pf_I
  have ne_es : Jvm.RoadKit.slotOf Z "java/util/ArrayList" "elementData" "[Ljava/lang/Object;" ≠ Jvm.RoadKit.slotOf Z "java/util/ArrayList" "size" "I" := slot_ne (Or.inl (hw _ (List.mem_of_getElem? (i := 25) rfl))) (Or.inl (hw _ (List.mem_of_getElem? (i := 62) rfl))) (by decide) pf__Ljava_lang_Object_ pf_I
  rw [ef_rrri_4]
  show own_Fin _ _ _ _ _ _ _ s₁ (mkF m 0 #[.val (.ref a), .val (.ref x3), .val (.ref ar), .val (.int (2 : Int32))] [])
  refine own_step (fun _ k => XS.iloadN X0.here hx rfl (hb hby d14_0) rfl k) ?_
  show own_Fin _ _ _ _ _ _ _ s₁ (mkF m 1 #[.val (.ref a), .val (.ref x3), .val (.ref ar), .val (.int (2 : Int32))] [(.int (2 : Int32))])
  refine own_step (fun _ k => XS.aloadN X0.here hx rfl (hb hby d14_1) rfl rfl k) ?_
  show own_Fin _ _ _ _ _ _ _ s₁ (mkF m 2 #[.val (.ref a), .val (.ref x3), .val (.ref ar), .val (.int (2 : Int32))] [(.ref ar), (.int (2 : Int32))])
  refine own_alenV X0 hx hZ e0 Aa (hb hby d14_2) ?_
  show own_Fin _ _ _ _ _ _ _ s₁ (mkF m 3 #[.val (.ref a), .val (.ref x3), .val (.ref ar), .val (.int (2 : Int32))] [(.int (10 : Int32)), (.int (2 : Int32))])
  refine own_step (fun _ k => XS.icmpYes X0.here hx rfl (pc0 := 3) (pc' := 11) rfl (hb hby d14_3) rfl (XT.ii_ne_t (by decide)) (by decide) (by decide) k) ?_
  show own_Fin _ _ _ _ _ _ _ s₁ (mkF m 11 #[.val (.ref a), .val (.ref x3), .val (.ref ar), .val (.int (2 : Int32))] [])
  refine own_step (fun _ k => XS.aloadN X0.here hx rfl (hb hby d14_11) rfl rfl k) ?_
  show own_Fin _ _ _ _ _ _ _ s₁ (mkF m 12 #[.val (.ref a), .val (.ref x3), .val (.ref ar), .val (.int (2 : Int32))] [(.ref ar)])
  refine own_step (fun _ k => XS.iloadN X0.here hx rfl (hb hby d14_12) rfl k) ?_
  show own_Fin _ _ _ _ _ _ _ s₁ (mkF m 13 #[.val (.ref a), .val (.ref x3), .val (.ref ar), .val (.int (2 : Int32))] [(.int (2 : Int32)), (.ref ar)])
  refine own_step (fun _ k => XS.aloadN X0.here hx rfl (hb hby d14_13) rfl rfl k) ?_
  show own_Fin _ _ _ _ _ _ _ s₁ (mkF m 14 #[.val (.ref a), .val (.ref x3), .val (.ref ar), .val (.int (2 : Int32))] [(.ref x3), (.int (2 : Int32)), (.ref ar)])
  refine own_stRV X0 hx hZ e0 Aa Oa (Ins.of_exa Ex (hw _ (List.mem_of_getElem? (i := 139) rfl))) N0 gr (by decide) rfl (by show (2 : Nat) < (10 : Int32).toNatClampNeg; decide) (hb hby d14_14) ?_
  intro T1 hp1 L1 X1 e1 N1 W1 A1
  have Eb := Ea
  have Gm := Fm
  have Gs := Fs
  have Ge := Fe
  have hne : a ≠ ar := gne.symm
  have Kk : Keep h0 hp1 [a, ar] := (Keep.refl _ _).wr W1 (Or.inl (by simp))
  replace Eb := Eb.wr W1
  replace Gm := Gm.other W1 (Or.inl hne)
  replace Gs := Gs.other W1 (Or.inl hne)
  replace Ge := Ge.other W1 (Or.inl hne)
  show own_Fin _ _ _ _ _ _ _ T1 (mkF m 15 #[.val (.ref a), .val (.ref x3), .val (.ref ar), .val (.int (2 : Int32))] [])
  refine own_step (fun _ k => XS.aloadN X1.here hx rfl (hb hby d14_15) rfl rfl k) ?_
  show own_Fin _ _ _ _ _ _ _ T1 (mkF m 16 #[.val (.ref a), .val (.ref x3), .val (.ref ar), .val (.int (2 : Int32))] [(.ref a)])
  refine own_step (fun _ k => XS.iloadN X1.here hx rfl (hb hby d14_16) rfl k) ?_
  show own_Fin _ _ _ _ _ _ _ T1 (mkF m 17 #[.val (.ref a), .val (.ref x3), .val (.ref ar), .val (.int (2 : Int32))] [(.int (2 : Int32)), (.ref a)])
  refine own_step (fun _ k => XT.iconstV X1.here hx rfl (1 : Int32) (hb hby d14_17) (by decide) k) ?_
  show own_Fin _ _ _ _ _ _ _ T1 (mkF m 18 #[.val (.ref a), .val (.ref x3), .val (.ref ar), .val (.int (2 : Int32))] [(.int (1 : Int32)), (.int (2 : Int32)), (.ref a)])
  refine own_step (fun _ k => XS.iadd X1.here hx rfl (hb hby d14_18) rfl k) ?_
  show own_Fin _ _ _ _ _ _ _ T1 (mkF m 19 #[.val (.ref a), .val (.ref x3), .val (.ref ar), .val (.int (2 : Int32))] [(.int ((2 : Int32) + (1 : Int32))), (.ref a)])
  rw [show ((2 : Int32) + (1 : Int32)) = (3 : Int32) from by decide]
  show own_Fin _ _ _ _ _ _ _ T1 (mkF m 19 #[.val (.ref a), .val (.ref x3), .val (.ref ar), .val (.int (2 : Int32))] [(.int (3 : Int32)), (.ref a)])
  refine own_putF X1 hx hZ (O := "java/util/ArrayList") hown (hw _ (List.mem_of_getElem? (i := 61) rfl)) Via.refl e1 Gs Eb (Or.inl (hw _ (List.mem_of_getElem? (i := 62) rfl))) (hw _ (List.mem_of_getElem? (i := 1) rfl)) pf_I rfl rfl N1 ge (hb hby d14_19) ?_
  intro T2 hp2 L2 X2 e2 N2 W2
  show own_Fin _ _ _ _ _ _ _ T2 (mkF m 22 #[.val (.ref a), .val (.ref x3), .val (.ref ar), .val (.int (2 : Int32))] [])
  exact own_retV X2 hx hrt hlk (hb hby d14_22) (by rw [e2]; exact ⟨rfl, N2, Kk.wr W2 (Or.inl (by simp)), ⟨Eb.wr W2, ⟨_, Gm.other W2 (Or.inr ne_ms)⟩, Gs.same W2, Ge.other W2 (Or.inr ne_es)⟩, A1.other W2 hne.symm⟩) (by decide) (by decide)
set_option maxRecDepth 65536 in
set_option maxHeartbeats 40000000 in
theorem rm13_2 (l : Launch) (Z : State) (a0 : Array Value) (hw : ∀ d ∈ tables_1, d.before a0 Z = true) (h0 : Heap) (n0 : Nat) (a ar : Addr) (k : ClassId) (x1 x2 x3 : Addr) (La : own_AL Z h0 a 2 ar) (Aa : Arv Z h0 ar k (.object "java/lang/Object") 10 [.ref x1, .ref x2] .null) (Oa : Ovr Z k "java/lang/Object") (Ba : Exa Z h0 ar "[Ljava/lang/Object;") (ge : n0 ≤ a) (gr : n0 ≤ ar) (gne : ar ≠ a) (Ex : Exa Z h0 x3 "java/lang/Long") :
    own_Met l Z (⟨"java/util/ArrayList", "add", "(Ljava/lang/Object;)Z"⟩ : MethodName) jdk_38_method_25_code 2 (some .boolean) [] ({ frames := 1, cells := 0, slots := 0, locals := 15 } : Room) #[(.ref a), (.ref x3)] h0 (fun v h L => v = some (.int 1) ∧ Fr n0 L ∧ Keep h0 h [a, ar] ∧ own_AL Z h a 3 ar ∧ Arv Z h ar k (.object "java/lang/Object") 10 [.ref x1, .ref x2, .ref x3] .null) := by
  refine own_body pn_java_util_ArrayList ?_
  intro p e s m below meth c s₁ hx hby hml hZ hown hnm hrt hlk X0 e0
  have N0 := Fr.nil n0
  obtain ⟨Ea, ⟨mc, Fm⟩, Fs, Fe⟩ := La
  have ne_sm : Jvm.RoadKit.slotOf Z "java/util/ArrayList" "size" "I" ≠ Jvm.RoadKit.slotOf Z "java/util/AbstractList" "modCount" "I" := slot_ne (Or.inl (hw _ (List.mem_of_getElem? (i := 62) rfl))) (Or.inl (hw _ (List.mem_of_getElem? (i := 22) rfl))) (by decide) pf_I pf_I
  have ne_em : Jvm.RoadKit.slotOf Z "java/util/ArrayList" "elementData" "[Ljava/lang/Object;" ≠ Jvm.RoadKit.slotOf Z "java/util/AbstractList" "modCount" "I" := slot_ne (Or.inl (hw _ (List.mem_of_getElem? (i := 25) rfl))) (Or.inl (hw _ (List.mem_of_getElem? (i := 22) rfl))) (by decide) pf__Ljava_lang_Object_ pf_I
  rw [ef_rr_2]
  show own_Fin _ _ _ _ _ _ _ s₁ (mkF m 0 #[.val (.ref a), .val (.ref x3)] [])
  refine own_step (fun _ k => XS.aloadN X0.here hx rfl (hb hby d13_0) rfl rfl k) ?_
  show own_Fin _ _ _ _ _ _ _ s₁ (mkF m 1 #[.val (.ref a), .val (.ref x3)] [(.ref a)])
  refine own_step (fun _ k => XS.dup X0.here hx rfl (hb hby d13_1) rfl rfl k) ?_
  show own_Fin _ _ _ _ _ _ _ s₁ (mkF m 2 #[.val (.ref a), .val (.ref x3)] [(.ref a), (.ref a)])
  refine own_getFV X0 hx hZ hown (hw _ (List.mem_of_getElem? (i := 116) rfl)) (Via.of (hw _ (List.mem_of_getElem? (i := 117) rfl))) e0 Fm (hb hby d13_2) ?_
  intro T1 X1 e1
  show own_Fin _ _ _ _ _ _ _ T1 (mkF m 5 #[.val (.ref a), .val (.ref x3)] [(.int mc), (.ref a)])
  refine own_step (fun _ k => XT.iconstV X1.here hx rfl (1 : Int32) (hb hby d13_5) (by decide) k) ?_
  show own_Fin _ _ _ _ _ _ _ T1 (mkF m 6 #[.val (.ref a), .val (.ref x3)] [(.int (1 : Int32)), (.int mc), (.ref a)])
  refine own_step (fun _ k => XS.iadd X1.here hx rfl (hb hby d13_6) rfl k) ?_
  show own_Fin _ _ _ _ _ _ _ T1 (mkF m 7 #[.val (.ref a), .val (.ref x3)] [(.int (mc + (1 : Int32))), (.ref a)])
  refine own_putF X1 hx hZ (O := "java/util/AbstractList") hown (hw _ (List.mem_of_getElem? (i := 116) rfl)) (Via.of (hw _ (List.mem_of_getElem? (i := 117) rfl))) e1 Fm Ea (Or.inl (hw _ (List.mem_of_getElem? (i := 22) rfl))) (hw _ (List.mem_of_getElem? (i := 1) rfl)) pf_I rfl rfl N0 ge (hb hby d13_7) ?_
  intro T2 hp2 L2 X2 e2 N2 W2
  have hLa : own_AL Z hp2 a 2 ar := ⟨Ea.wr W2, ⟨_, Fm.same W2⟩, Fs.other W2 (Or.inr ne_sm), Fe.other W2 (Or.inr ne_em)⟩
  have K1 : Keep h0 hp2 [a, ar] := (Keep.refl _ _).wr W2 (Or.inl (by simp))
  have Aa1 := Aa.other W2 gne
  have Ba1 := Ba.wr W2
  have Ex1 := Ex.wr W2
  show own_Fin _ _ _ _ _ _ _ T2 (mkF m 10 #[.val (.ref a), .val (.ref x3)] [])
  refine own_step (fun _ k => XS.aloadN X2.here hx rfl (hb hby d13_10) rfl rfl k) ?_
  show own_Fin _ _ _ _ _ _ _ T2 (mkF m 11 #[.val (.ref a), .val (.ref x3)] [(.ref a)])
  refine own_step (fun _ k => XS.aloadN X2.here hx rfl (hb hby d13_11) rfl rfl k) ?_
  show own_Fin _ _ _ _ _ _ _ T2 (mkF m 12 #[.val (.ref a), .val (.ref x3)] [(.ref x3), (.ref a)])
  refine own_step (fun _ k => XS.aloadN X2.here hx rfl (hb hby d13_12) rfl rfl k) ?_
  show own_Fin _ _ _ _ _ _ _ T2 (mkF m 13 #[.val (.ref a), .val (.ref x3)] [(.ref a), (.ref x3), (.ref a)])
  refine own_getFV X2 hx hZ hown (hw _ (List.mem_of_getElem? (i := 24) rfl)) Via.refl e2 hLa.2.2.2 (hb hby d13_13) ?_
  intro T3 X3 e3
  show own_Fin _ _ _ _ _ _ _ T3 (mkF m 16 #[.val (.ref a), .val (.ref x3)] [(.ref ar), (.ref x3), (.ref a)])
  refine own_step (fun _ k => XS.aloadN X3.here hx rfl (hb hby d13_16) rfl rfl k) ?_
  show own_Fin _ _ _ _ _ _ _ T3 (mkF m 17 #[.val (.ref a), .val (.ref x3)] [(.ref a), (.ref ar), (.ref x3), (.ref a)])
  refine own_getFV X3 hx hZ hown (hw _ (List.mem_of_getElem? (i := 61) rfl)) Via.refl e3 hLa.2.2.1 (hb hby d13_17) ?_
  intro T4 X4 e4
  show own_Fin _ _ _ _ _ _ _ T4 (mkF m 20 #[.val (.ref a), .val (.ref x3)] [(.int (2 : Int32)), (.ref ar), (.ref x3), (.ref a)])
  refine own_callP X4 hx hZ (b := a) (argsL := [(.ref x3), (.ref ar), (.int (2 : Int32))]) (rest := []) hown (hw _ (List.mem_of_getElem? (i := 118) rfl)) (hw _ (List.mem_of_getElem? (i := 119) rfl)) (hw _ (List.mem_of_getElem? (i := 121) rfl)) (hw _ (List.mem_of_getElem? (i := 120) rfl)) (hw _ (List.mem_of_getElem? (i := 122) rfl)) (hw _ (List.mem_of_getElem? (i := 2) rfl)) (by decide) hLa.1 (rm14_2 l Z a0 hw hp2 n0 a ar k x1 x2 x3 hLa Aa1 Oa Ba1 ge gr gne Ex1) e4 0 (Nat.le_of_eq rfl) (by decide) (by decide) (by decide) (by decide) (by rw [hml]; rfl) pd__Ljava_lang_Object__Ljava_lang_Object_I_V rfl rfl (hb hby d13_20) ?_
  rintro T5 L5 _ X5 ⟨rfl, F5, K5, La5, A5⟩
  have N5 := Fr.app N2 F5
  show own_Fin _ _ _ _ _ _ _ T5 (mkF m 23 #[.val (.ref a), .val (.ref x3)] [])
  refine own_step (fun _ k => XT.iconstV X5.here hx rfl (1 : Int32) (hb hby d13_23) (by decide) k) ?_
  show own_Fin _ _ _ _ _ _ _ T5 (mkF m 24 #[.val (.ref a), .val (.ref x3)] [(.int (1 : Int32))])
  exact own_retZ X5 hx hrt hlk (hb hby d13_24) (Or.inr rfl) ⟨rfl, N5, K1.trans K5 (fun x hx => Or.inl hx), La5, A5⟩ (by decide) (by decide)
theorem d8_0 : decode jdk_38_method_9_code 0 = .ok (.aload_n 0, 1) := by decide +kernel
theorem d8_1 : decode jdk_38_method_9_code 1 = .ok (.getfield 48, 3) := by decide +kernel
theorem d8_4 : decode jdk_38_method_9_code 4 = .ok (.ifCond .ne 7, 3) := by decide +kernel
theorem d8_7 : decode jdk_38_method_9_code 7 = .ok (.iconst 1, 1) := by decide +kernel
theorem d8_8 : decode jdk_38_method_9_code 8 = .ok (.goto 4, 3) := by decide +kernel
theorem d8_11 : decode jdk_38_method_9_code 11 = .ok (.iconst 0, 1) := by decide +kernel
theorem d8_12 : decode jdk_38_method_9_code 12 = .ok (.ireturn, 1) := by decide +kernel
set_option maxRecDepth 65536 in
set_option maxHeartbeats 40000000 in
theorem rm8_0 (l : Launch) (Z : State) (a0 : Array Value) (hw : ∀ d ∈ tables_1, d.before a0 Z = true) (h0 : Heap) (n0 : Nat) (a : Addr) (Fs : Fld Z h0 a "java/util/ArrayList" "size" "I" (.int 0)) :
    own_Met l Z (⟨"java/util/ArrayList", "isEmpty", "()Z"⟩ : MethodName) jdk_38_method_9_code 1 (some .boolean) [] ({ frames := 0, cells := 0, slots := 0, locals := 0 } : Room) #[(.ref a)] h0 (fun v h L => v = some (.int 1) ∧ L = [] ∧ h = h0) := by
  refine own_body pn_java_util_ArrayList ?_
  intro p e s m below meth c s₁ hx hby hml hZ hown hnm hrt hlk X0 e0
  have N0 := Fr.nil n0
  rw [ef_r_1]
  show own_Fin _ _ _ _ _ _ _ s₁ (mkF m 0 #[.val (.ref a)] [])
  refine own_step (fun _ k => XS.aloadN X0.here hx rfl (hb hby d8_0) rfl rfl k) ?_
  show own_Fin _ _ _ _ _ _ _ s₁ (mkF m 1 #[.val (.ref a)] [(.ref a)])
  refine own_getFV X0 hx hZ hown (hw _ (List.mem_of_getElem? (i := 61) rfl)) Via.refl e0 Fs (hb hby d8_1) ?_
  intro T1 X1 e1
  show own_Fin _ _ _ _ _ _ _ T1 (mkF m 4 #[.val (.ref a)] [(.int (0 : Int32))])
  refine own_step (fun _ k => XS.ifNo X1.here hx rfl (hb hby d8_4) rfl (XT.i0_ne_f (by decide)) k) ?_
  show own_Fin _ _ _ _ _ _ _ T1 (mkF m 7 #[.val (.ref a)] [])
  refine own_step (fun _ k => XT.iconstV X1.here hx rfl (1 : Int32) (hb hby d8_7) (by decide) k) ?_
  show own_Fin _ _ _ _ _ _ _ T1 (mkF m 8 #[.val (.ref a)] [(.int (1 : Int32))])
  refine own_step (fun _ k => XS.goto X1.here hx rfl (pc0 := 8) (pc' := 12) rfl (hb hby d8_8) (by decide) (by decide) k) ?_
  show own_Fin _ _ _ _ _ _ _ T1 (mkF m 12 #[.val (.ref a)] [(.int (1 : Int32))])
  exact own_retZ X1 hx hrt hlk (hb hby d8_12) (Or.inr rfl) (by rw [e1]; exact ⟨rfl, rfl, rfl⟩) (by decide) (by decide)
set_option maxRecDepth 65536 in
set_option maxHeartbeats 40000000 in
theorem rm8_1 (l : Launch) (Z : State) (a0 : Array Value) (hw : ∀ d ∈ tables_1, d.before a0 Z = true) (h0 : Heap) (n0 : Nat) (a : Addr) (Fs : Fld Z h0 a "java/util/ArrayList" "size" "I" (.int 1)) :
    own_Met l Z (⟨"java/util/ArrayList", "isEmpty", "()Z"⟩ : MethodName) jdk_38_method_9_code 1 (some .boolean) [] ({ frames := 0, cells := 0, slots := 0, locals := 0 } : Room) #[(.ref a)] h0 (fun v h L => v = some (.int 0) ∧ L = [] ∧ h = h0) := by
  refine own_body pn_java_util_ArrayList ?_
  intro p e s m below meth c s₁ hx hby hml hZ hown hnm hrt hlk X0 e0
  have N0 := Fr.nil n0
  rw [ef_r_1]
  show own_Fin _ _ _ _ _ _ _ s₁ (mkF m 0 #[.val (.ref a)] [])
  refine own_step (fun _ k => XS.aloadN X0.here hx rfl (hb hby d8_0) rfl rfl k) ?_
  show own_Fin _ _ _ _ _ _ _ s₁ (mkF m 1 #[.val (.ref a)] [(.ref a)])
  refine own_getFV X0 hx hZ hown (hw _ (List.mem_of_getElem? (i := 61) rfl)) Via.refl e0 Fs (hb hby d8_1) ?_
  intro T1 X1 e1
  show own_Fin _ _ _ _ _ _ _ T1 (mkF m 4 #[.val (.ref a)] [(.int (1 : Int32))])
  refine own_step (fun _ k => XS.ifYes X1.here hx rfl (pc0 := 4) (pc' := 11) rfl (hb hby d8_4) rfl (XT.i0_ne_t (by decide)) (by decide) (by decide) k) ?_
  show own_Fin _ _ _ _ _ _ _ T1 (mkF m 11 #[.val (.ref a)] [])
  refine own_step (fun _ k => XT.iconstV X1.here hx rfl (0 : Int32) (hb hby d8_11) (by decide) k) ?_
  show own_Fin _ _ _ _ _ _ _ T1 (mkF m 12 #[.val (.ref a)] [(.int (0 : Int32))])
  exact own_retZ X1 hx hrt hlk (hb hby d8_12) (Or.inl rfl) (by rw [e1]; exact ⟨rfl, rfl, rfl⟩) (by decide) (by decide)
set_option maxRecDepth 65536 in
set_option maxHeartbeats 40000000 in
theorem rm8_2 (l : Launch) (Z : State) (a0 : Array Value) (hw : ∀ d ∈ tables_1, d.before a0 Z = true) (h0 : Heap) (n0 : Nat) (a : Addr) (Fs : Fld Z h0 a "java/util/ArrayList" "size" "I" (.int 2)) :
    own_Met l Z (⟨"java/util/ArrayList", "isEmpty", "()Z"⟩ : MethodName) jdk_38_method_9_code 1 (some .boolean) [] ({ frames := 0, cells := 0, slots := 0, locals := 0 } : Room) #[(.ref a)] h0 (fun v h L => v = some (.int 0) ∧ L = [] ∧ h = h0) := by
  refine own_body pn_java_util_ArrayList ?_
  intro p e s m below meth c s₁ hx hby hml hZ hown hnm hrt hlk X0 e0
  have N0 := Fr.nil n0
  rw [ef_r_1]
  show own_Fin _ _ _ _ _ _ _ s₁ (mkF m 0 #[.val (.ref a)] [])
  refine own_step (fun _ k => XS.aloadN X0.here hx rfl (hb hby d8_0) rfl rfl k) ?_
  show own_Fin _ _ _ _ _ _ _ s₁ (mkF m 1 #[.val (.ref a)] [(.ref a)])
  refine own_getFV X0 hx hZ hown (hw _ (List.mem_of_getElem? (i := 61) rfl)) Via.refl e0 Fs (hb hby d8_1) ?_
  intro T1 X1 e1
  show own_Fin _ _ _ _ _ _ _ T1 (mkF m 4 #[.val (.ref a)] [(.int (2 : Int32))])
  refine own_step (fun _ k => XS.ifYes X1.here hx rfl (pc0 := 4) (pc' := 11) rfl (hb hby d8_4) rfl (XT.i0_ne_t (by decide)) (by decide) (by decide) k) ?_
  show own_Fin _ _ _ _ _ _ _ T1 (mkF m 11 #[.val (.ref a)] [])
  refine own_step (fun _ k => XT.iconstV X1.here hx rfl (0 : Int32) (hb hby d8_11) (by decide) k) ?_
  show own_Fin _ _ _ _ _ _ _ T1 (mkF m 12 #[.val (.ref a)] [(.int (0 : Int32))])
  exact own_retZ X1 hx hrt hlk (hb hby d8_12) (Or.inl rfl) (by rw [e1]; exact ⟨rfl, rfl, rfl⟩) (by decide) (by decide)
set_option maxRecDepth 65536 in
set_option maxHeartbeats 40000000 in
theorem rm8_3 (l : Launch) (Z : State) (a0 : Array Value) (hw : ∀ d ∈ tables_1, d.before a0 Z = true) (h0 : Heap) (n0 : Nat) (a : Addr) (Fs : Fld Z h0 a "java/util/ArrayList" "size" "I" (.int 3)) :
    own_Met l Z (⟨"java/util/ArrayList", "isEmpty", "()Z"⟩ : MethodName) jdk_38_method_9_code 1 (some .boolean) [] ({ frames := 0, cells := 0, slots := 0, locals := 0 } : Room) #[(.ref a)] h0 (fun v h L => v = some (.int 0) ∧ L = [] ∧ h = h0) := by
  refine own_body pn_java_util_ArrayList ?_
  intro p e s m below meth c s₁ hx hby hml hZ hown hnm hrt hlk X0 e0
  have N0 := Fr.nil n0
  rw [ef_r_1]
  show own_Fin _ _ _ _ _ _ _ s₁ (mkF m 0 #[.val (.ref a)] [])
  refine own_step (fun _ k => XS.aloadN X0.here hx rfl (hb hby d8_0) rfl rfl k) ?_
  show own_Fin _ _ _ _ _ _ _ s₁ (mkF m 1 #[.val (.ref a)] [(.ref a)])
  refine own_getFV X0 hx hZ hown (hw _ (List.mem_of_getElem? (i := 61) rfl)) Via.refl e0 Fs (hb hby d8_1) ?_
  intro T1 X1 e1
  show own_Fin _ _ _ _ _ _ _ T1 (mkF m 4 #[.val (.ref a)] [(.int (3 : Int32))])
  refine own_step (fun _ k => XS.ifYes X1.here hx rfl (pc0 := 4) (pc' := 11) rfl (hb hby d8_4) rfl (XT.i0_ne_t (by decide)) (by decide) (by decide) k) ?_
  show own_Fin _ _ _ _ _ _ _ T1 (mkF m 11 #[.val (.ref a)] [])
  refine own_step (fun _ k => XT.iconstV X1.here hx rfl (0 : Int32) (hb hby d8_11) (by decide) k) ?_
  show own_Fin _ _ _ _ _ _ _ T1 (mkF m 12 #[.val (.ref a)] [(.int (0 : Int32))])
  exact own_retZ X1 hx hrt hlk (hb hby d8_12) (Or.inl rfl) (by rw [e1]; exact ⟨rfl, rfl, rfl⟩) (by decide) (by decide)
theorem d9_0 : decode jdk_40_method_36_code 0 = .ok (.getstatic 90, 3) := by decide +kernel
theorem d9_3 : decode jdk_40_method_36_code 3 = .ok (.areturn, 1) := by decide +kernel
theorem ef__0 (m : MethodId)  : entryFrame m #[] 0 = mkF m 0 #[] [] := by first | (simp [entryFrame, mkF, argsToLocals, Value.category]; done) | rfl
set_option maxRecDepth 65536 in
set_option maxHeartbeats 40000000 in
theorem rm9 (l : Launch) (Z : State) (a0 : Array Value) (hw : ∀ d ∈ tables_1, d.before a0 Z = true) (h0 : Heap) (n0 : Nat) (el : Addr) (Sl : Sta Z h0 "java/util/ImmutableCollections" "EMPTY_LIST" "Ljava/util/ImmutableCollections$ListN;" (.ref el)) :
    own_Met l Z (⟨"java/util/List", "of", "()Ljava/util/List;"⟩ : MethodName) jdk_40_method_36_code 0 (some (.object "java/util/List")) [] ({ frames := 0, cells := 0, slots := 0, locals := 0 } : Room) #[] h0 (fun v h L => v = some (.ref el) ∧ L = [] ∧ h = h0) := by
  refine own_body pn_java_util_List ?_
  intro p e s m below meth c s₁ hx hby hml hZ hown hnm hrt hlk X0 e0
  have N0 := Fr.nil n0
  rw [ef__0]
  show own_Fin _ _ _ _ _ _ _ s₁ (mkF m 0 #[] [])
  refine own_getS X0 hx hZ hown (hw _ (List.mem_of_getElem? (i := 66) rfl)) e0 Sl (hb hby d9_0) ?_
  intro T1 X1 e1
  show own_Fin _ _ _ _ _ _ _ T1 (mkF m 3 #[] [(.ref el)])
  exact own_retA X1 hx hrt rfl hlk (hb hby d9_3) rfl (by rw [e1]; exact ⟨rfl, rfl, rfl⟩) (by decide) (by decide)
theorem d24_0 : decode jdk_31_method_10_code 0 = .ok (.aload_n 0, 1) := by decide +kernel
theorem d24_1 : decode jdk_31_method_10_code 1 = .ok (.ifnonnull 11, 3) := by decide +kernel
theorem d24_4 : decode jdk_31_method_10_code 4 = .ok (.new 84, 3) := by decide +kernel
theorem d24_7 : decode jdk_31_method_10_code 7 = .ok (.dup, 1) := by decide +kernel
theorem d24_8 : decode jdk_31_method_10_code 8 = .ok (.invokespecial 86, 3) := by decide +kernel
theorem d24_11 : decode jdk_31_method_10_code 11 = .ok (.athrow, 1) := by decide +kernel
theorem d24_12 : decode jdk_31_method_10_code 12 = .ok (.aload_n 0, 1) := by decide +kernel
theorem d24_13 : decode jdk_31_method_10_code 13 = .ok (.areturn, 1) := by decide +kernel
set_option maxRecDepth 65536 in
set_option maxHeartbeats 40000000 in
theorem rm24 (l : Launch) (Z : State) (a0 : Array Value) (hw : ∀ d ∈ tables_1, d.before a0 Z = true) (h0 : Heap) (n0 : Nat) (a : Addr)  :
    own_Met l Z (⟨"java/util/Objects", "requireNonNull", "(Ljava/lang/Object;)Ljava/lang/Object;"⟩ : MethodName) jdk_31_method_10_code 1 (some (.object "java/lang/Object")) [] ({ frames := 0, cells := 0, slots := 0, locals := 0 } : Room) #[(.ref a)] h0 (fun v h L => v = some (.ref a) ∧ L = [] ∧ h = h0) := by
  refine own_body pn_java_util_Objects ?_
  intro p e s m below meth c s₁ hx hby hml hZ hown hnm hrt hlk X0 e0
  have N0 := Fr.nil n0
  rw [ef_r_1]
  show own_Fin _ _ _ _ _ _ _ s₁ (mkF m 0 #[.val (.ref a)] [])
  refine own_step (fun _ k => XS.aloadN X0.here hx rfl (hb hby d24_0) rfl rfl k) ?_
  show own_Fin _ _ _ _ _ _ _ s₁ (mkF m 1 #[.val (.ref a)] [(.ref a)])
  refine own_step (fun _ k => XT.ifnonnullYes X0.here hx rfl (pc0 := 1) (pc' := 12) rfl (hb hby d24_1) rfl (by decide) (by decide) k) ?_
  show own_Fin _ _ _ _ _ _ _ s₁ (mkF m 12 #[.val (.ref a)] [])
  refine own_step (fun _ k => XS.aloadN X0.here hx rfl (hb hby d24_12) rfl rfl k) ?_
  show own_Fin _ _ _ _ _ _ _ s₁ (mkF m 13 #[.val (.ref a)] [(.ref a)])
  exact own_retA X0 hx hrt rfl hlk (hb hby d24_13) rfl (by rw [e0]; exact ⟨rfl, rfl, rfl⟩) (by decide) (by decide)
theorem d20_0 : decode jdk_65_method_120_code 0 = .ok (.aload_n 2, 1) := by decide +kernel
theorem d20_1 : decode jdk_65_method_120_code 1 = .ok (.ldc 110, 2) := by decide +kernel
theorem d20_3 : decode jdk_65_method_120_code 3 = .ok (.if_acmp .ne 10, 3) := by decide +kernel
theorem d20_6 : decode jdk_65_method_120_code 6 = .ok (.iload_n 1, 1) := by decide +kernel
theorem d20_7 : decode jdk_65_method_120_code 7 = .ok (.anewarray 2, 3) := by decide +kernel
theorem d20_10 : decode jdk_65_method_120_code 10 = .ok (.goto 14, 3) := by decide +kernel
theorem d20_13 : decode jdk_65_method_120_code 13 = .ok (.aload_n 2, 1) := by decide +kernel
theorem d20_14 : decode jdk_65_method_120_code 14 = .ok (.invokevirtual 90, 3) := by decide +kernel
theorem d20_17 : decode jdk_65_method_120_code 17 = .ok (.iload_n 1, 1) := by decide +kernel
theorem d20_18 : decode jdk_65_method_120_code 18 = .ok (.invokestatic 95, 3) := by decide +kernel
theorem d20_21 : decode jdk_65_method_120_code 21 = .ok (.checkcast 110, 3) := by decide +kernel
theorem d20_24 : decode jdk_65_method_120_code 24 = .ok (.astore_n 3, 1) := by decide +kernel
theorem d20_25 : decode jdk_65_method_120_code 25 = .ok (.aload_n 0, 1) := by decide +kernel
theorem d20_26 : decode jdk_65_method_120_code 26 = .ok (.iconst 0, 1) := by decide +kernel
theorem d20_27 : decode jdk_65_method_120_code 27 = .ok (.aload_n 3, 1) := by decide +kernel
theorem d20_28 : decode jdk_65_method_120_code 28 = .ok (.iconst 0, 1) := by decide +kernel
theorem d20_29 : decode jdk_65_method_120_code 29 = .ok (.aload_n 0, 1) := by decide +kernel
theorem d20_30 : decode jdk_65_method_120_code 30 = .ok (.arraylength, 1) := by decide +kernel
theorem d20_31 : decode jdk_65_method_120_code 31 = .ok (.iload_n 1, 1) := by decide +kernel
theorem d20_32 : decode jdk_65_method_120_code 32 = .ok (.invokestatic 304, 3) := by decide +kernel
theorem d20_35 : decode jdk_65_method_120_code 35 = .ok (.invokestatic 150, 3) := by decide +kernel
theorem d20_38 : decode jdk_65_method_120_code 38 = .ok (.aload_n 3, 1) := by decide +kernel
theorem d20_39 : decode jdk_65_method_120_code 39 = .ok (.areturn, 1) := by decide +kernel
theorem ef_rir_4 (m : MethodId) (x0 : Addr) (x1 : Int32) (x2 : Addr) : entryFrame m #[(.ref x0), (.int x1), (.ref x2)] 4 = mkF m 0 #[.val (.ref x0), .val (.int x1), .val (.ref x2), .unset] [] := by first | (simp [entryFrame, mkF, argsToLocals, Value.category]; done) | rfl
theorem d19_0 : decode jdk_65_method_119_code 0 = .ok (.aload_n 0, 1) := by decide +kernel
theorem d19_1 : decode jdk_65_method_119_code 1 = .ok (.iload_n 1, 1) := by decide +kernel
theorem d19_2 : decode jdk_65_method_119_code 2 = .ok (.aload_n 0, 1) := by decide +kernel
theorem d19_3 : decode jdk_65_method_119_code 3 = .ok (.invokevirtual 86, 3) := by decide +kernel
theorem d19_6 : decode jdk_65_method_119_code 6 = .ok (.invokestatic 300, 3) := by decide +kernel
theorem d19_9 : decode jdk_65_method_119_code 9 = .ok (.areturn, 1) := by decide +kernel
theorem ef_ri_2 (m : MethodId) (x0 : Addr) (x1 : Int32) : entryFrame m #[(.ref x0), (.int x1)] 2 = mkF m 0 #[.val (.ref x0), .val (.int x1)] [] := by first | (simp [entryFrame, mkF, argsToLocals, Value.category]; done) | rfl
theorem d18_0 : decode jdk_38_method_16_code 0 = .ok (.aload_n 0, 1) := by decide +kernel
theorem d18_1 : decode jdk_38_method_16_code 1 = .ok (.getfield 9, 3) := by decide +kernel
theorem d18_4 : decode jdk_38_method_16_code 4 = .ok (.aload_n 0, 1) := by decide +kernel
theorem d18_5 : decode jdk_38_method_16_code 5 = .ok (.getfield 48, 3) := by decide +kernel
theorem d18_8 : decode jdk_38_method_16_code 8 = .ok (.invokestatic 66, 3) := by decide +kernel
theorem d18_11 : decode jdk_38_method_16_code 11 = .ok (.areturn, 1) := by decide +kernel
set_option maxRecDepth 65536 in
set_option maxHeartbeats 40000000 in
theorem rm20_1 (l : Launch) (Z : State) (a0 : Array Value) (hw : ∀ d ∈ tables_1, d.before a0 Z = true) (h0 : Heap) (n0 : Nat) (ar mr : Addr) (k : ClassId) (x1 : Addr) (Aa : Arv Z h0 ar k (.object "java/lang/Object") 10 [.ref x1] .null) (Ba : Exa Z h0 ar "[Ljava/lang/Object;") (Mr : own_Mir Z "[Ljava/lang/Object;" mr) (gh : n0 ≤ h0.size) (Ex1 : Exa Z h0 x1 "java/lang/Long") :
    own_Met l Z (⟨"java/util/Arrays", "copyOf", "([Ljava/lang/Object;ILjava/lang/Class;)[Ljava/lang/Object;"⟩ : MethodName) jdk_65_method_120_code 4 (some (.array (.object "java/lang/Object"))) [] ({ frames := 1, cells := 1, slots := 3, locals := 49 } : Room) #[(.ref ar), (.int (1 : Int32)), (.ref mr)] h0 (fun v h L => ∃ k, v = some (.ref h0.size) ∧ Fr n0 L ∧ Ext h0 h ∧ Arv Z h h0.size k (.object "java/lang/Object") 1 [.ref x1] .null) := by
  refine own_body pn_java_util_Arrays ?_
  intro p e s m below meth c s₁ hx hby hml hZ hown hnm hrt hlk X0 e0
  have N0 := Fr.nil n0
  rw [ef_rir_4]
  show own_Fin _ _ _ _ _ _ _ s₁ (mkF m 0 #[.val (.ref ar), .val (.int (1 : Int32)), .val (.ref mr), .unset] [])
  refine own_step (fun _ k => XS.aloadN X0.here hx rfl (hb hby d20_0) rfl rfl k) ?_
  show own_Fin _ _ _ _ _ _ _ s₁ (mkF m 1 #[.val (.ref ar), .val (.int (1 : Int32)), .val (.ref mr), .unset] [(.ref mr)])
  refine own_ldcM X0 hx hZ hown (hw _ (List.mem_of_getElem? (i := 162) rfl)) Mr e0 (hb hby d20_1) ?_
  intro T1 X1 e1
  show own_Fin _ _ _ _ _ _ _ T1 (mkF m 3 #[.val (.ref ar), .val (.int (1 : Int32)), .val (.ref mr), .unset] [(.ref mr), (.ref mr)])
  refine own_step (fun _ k => XT.acmpNo X1.here hx rfl (hb hby d20_3) rfl rfl rfl (XT.aa_ne_f (congrArg Value.ref rfl)) k) ?_
  show own_Fin _ _ _ _ _ _ _ T1 (mkF m 6 #[.val (.ref ar), .val (.int (1 : Int32)), .val (.ref mr), .unset] [])
  refine own_step (fun _ k => XS.iloadN X1.here hx rfl (hb hby d20_6) rfl k) ?_
  show own_Fin _ _ _ _ _ _ _ T1 (mkF m 7 #[.val (.ref ar), .val (.int (1 : Int32)), .val (.ref mr), .unset] [(.int (1 : Int32))])
  refine own_newRE X1 hx hZ hown (hw _ (List.mem_of_getElem? (i := 163) rfl)) (hw _ (List.mem_of_getElem? (i := 138) rfl)) e1 3 (by decide) (by decide) (by decide) (by decide) (by decide) (ad := "[Ljava/lang/Object;") (by decide +kernel) (hb hby d20_7) ?_
  intro T2 hp2 k2 X2 e2 E2 A2 O2 B2
  replace Aa := Aa.ext E2
  replace Ex1 := Ex1.ext E2
  show own_Fin _ _ _ _ _ _ _ T2 (mkF m 10 #[.val (.ref ar), .val (.int (1 : Int32)), .val (.ref mr), .unset] [(.ref h0.size)])
  refine own_step (fun _ k => XS.goto X2.here hx rfl (pc0 := 10) (pc' := 24) rfl (hb hby d20_10) (by decide) (by decide) k) ?_
  show own_Fin _ _ _ _ _ _ _ T2 (mkF m 24 #[.val (.ref ar), .val (.int (1 : Int32)), .val (.ref mr), .unset] [(.ref h0.size)])
  refine own_step (fun _ k => XS.astoreN X2.here hx rfl (hb hby d20_24) rfl rfl (l' := #[.val (.ref ar), .val (.int (1 : Int32)), .val (.ref mr), .val (.ref h0.size)]) rfl k) ?_
  show own_Fin _ _ _ _ _ _ _ T2 (mkF m 25 #[.val (.ref ar), .val (.int (1 : Int32)), .val (.ref mr), .val (.ref h0.size)] [])
  refine own_step (fun _ k => XS.aloadN X2.here hx rfl (hb hby d20_25) rfl rfl k) ?_
  show own_Fin _ _ _ _ _ _ _ T2 (mkF m 26 #[.val (.ref ar), .val (.int (1 : Int32)), .val (.ref mr), .val (.ref h0.size)] [(.ref ar)])
  refine own_step (fun _ k => XT.iconstV X2.here hx rfl (0 : Int32) (hb hby d20_26) (by decide) k) ?_
  show own_Fin _ _ _ _ _ _ _ T2 (mkF m 27 #[.val (.ref ar), .val (.int (1 : Int32)), .val (.ref mr), .val (.ref h0.size)] [(.int (0 : Int32)), (.ref ar)])
  refine own_step (fun _ k => XS.aloadN X2.here hx rfl (hb hby d20_27) rfl rfl k) ?_
  show own_Fin _ _ _ _ _ _ _ T2 (mkF m 28 #[.val (.ref ar), .val (.int (1 : Int32)), .val (.ref mr), .val (.ref h0.size)] [(.ref h0.size), (.int (0 : Int32)), (.ref ar)])
  refine own_step (fun _ k => XT.iconstV X2.here hx rfl (0 : Int32) (hb hby d20_28) (by decide) k) ?_
  show own_Fin _ _ _ _ _ _ _ T2 (mkF m 29 #[.val (.ref ar), .val (.int (1 : Int32)), .val (.ref mr), .val (.ref h0.size)] [(.int (0 : Int32)), (.ref h0.size), (.int (0 : Int32)), (.ref ar)])
  refine own_step (fun _ k => XS.aloadN X2.here hx rfl (hb hby d20_29) rfl rfl k) ?_
  show own_Fin _ _ _ _ _ _ _ T2 (mkF m 30 #[.val (.ref ar), .val (.int (1 : Int32)), .val (.ref mr), .val (.ref h0.size)] [(.ref ar), (.int (0 : Int32)), (.ref h0.size), (.int (0 : Int32)), (.ref ar)])
  refine own_alenV X2 hx hZ e2 Aa (hb hby d20_30) ?_
  show own_Fin _ _ _ _ _ _ _ T2 (mkF m 31 #[.val (.ref ar), .val (.int (1 : Int32)), .val (.ref mr), .val (.ref h0.size)] [(.int (10 : Int32)), (.int (0 : Int32)), (.ref h0.size), (.int (0 : Int32)), (.ref ar)])
  refine own_step (fun _ k => XS.iloadN X2.here hx rfl (hb hby d20_31) rfl k) ?_
  show own_Fin _ _ _ _ _ _ _ T2 (mkF m 32 #[.val (.ref ar), .val (.int (1 : Int32)), .val (.ref mr), .val (.ref h0.size)] [(.int (1 : Int32)), (.int (10 : Int32)), (.int (0 : Int32)), (.ref h0.size), (.int (0 : Int32)), (.ref ar)])
  refine own_callS X2 hx hZ (argsL := [(.int (10 : Int32)), (.int (1 : Int32))]) (rest := [(.int (0 : Int32)), (.ref h0.size), (.int (0 : Int32)), (.ref ar)]) hown (hw _ (List.mem_of_getElem? (i := 164) rfl)) (hw _ (List.mem_of_getElem? (i := 165) rfl)) (hw _ (List.mem_of_getElem? (i := 135) rfl)) (hw _ (List.mem_of_getElem? (i := 166) rfl)) (by decide) (rm21 l Z a0 hw hp2 n0 (10 : Int32) (1 : Int32) (by decide)) e2 4 (Nat.le_of_eq rfl) (by decide) (by decide) (by decide) (by decide) (by rw [hml]; rfl) pd__II_I rfl rfl (hb hby d20_32) ?_
  rintro T3 _ _ X3 ⟨rfl, rfl, e3⟩
  rw [List.append_nil] at X3
  show own_Fin _ _ _ _ _ _ _ T3 (mkF m 35 #[.val (.ref ar), .val (.int (1 : Int32)), .val (.ref mr), .val (.ref h0.size)] [(.int (1 : Int32)), (.int (0 : Int32)), (.ref h0.size), (.int (0 : Int32)), (.ref ar)])
  have Az := A2
  obtain ⟨cn, An, An1, -⟩ := A2
  have hS : StoL Z hp2 h0.size [.ref x1] := ⟨Sto.ofV An An1 O2 (Ins.of_exa Ex1 (hw _ (List.mem_of_getElem? (i := 139) rfl))), trivial⟩
  refine own_cpA X3 hx hZ hown (hw _ (List.mem_of_getElem? (i := 167) rfl)) (hw _ (List.mem_of_getElem? (i := 170) rfl)) (hw _ (List.mem_of_getElem? (i := 168) rfl)) (hw _ (List.mem_of_getElem? (i := 169) rfl)) e3 Aa Az hS (by decide) (by decide) rfl rfl N0 gh (by rw [hml]; rfl) (by decide) 0 (by decide) (by decide +kernel) (hb hby d20_35) ?_
  intro T4 hp4 L4 X4 e4 N4 K4 A4
  show own_Fin _ _ _ _ _ _ _ T4 (mkF m 38 #[.val (.ref ar), .val (.int (1 : Int32)), .val (.ref mr), .val (.ref h0.size)] [])
  refine own_step (fun _ k => XS.aloadN X4.here hx rfl (hb hby d20_38) rfl rfl k) ?_
  show own_Fin _ _ _ _ _ _ _ T4 (mkF m 39 #[.val (.ref ar), .val (.int (1 : Int32)), .val (.ref mr), .val (.ref h0.size)] [(.ref h0.size)])
  exact own_retA X4 hx hrt rfl hlk (hb hby d20_39) rfl (by rw [e4]; exact ⟨k2, rfl, N4, own_ext_keep E2 K4 (allS (Nat.le_refl _) all0), A4⟩) (by decide) (by decide)
set_option maxRecDepth 65536 in
set_option maxHeartbeats 40000000 in
theorem rm19_1 (l : Launch) (Z : State) (a0 : Array Value) (hw : ∀ d ∈ tables_1, d.before a0 Z = true) (h0 : Heap) (n0 : Nat) (ar mr : Addr) (k : ClassId) (x1 : Addr) (Aa : Arv Z h0 ar k (.object "java/lang/Object") 10 [.ref x1] .null) (Ba : Exa Z h0 ar "[Ljava/lang/Object;") (Mr : own_Mir Z "[Ljava/lang/Object;" mr) (gh : n0 ≤ h0.size) (Ex1 : Exa Z h0 x1 "java/lang/Long") :
    own_Met l Z (⟨"java/util/Arrays", "copyOf", "([Ljava/lang/Object;I)[Ljava/lang/Object;"⟩ : MethodName) jdk_65_method_119_code 2 (some (.array (.object "java/lang/Object"))) [] ({ frames := 2, cells := 1, slots := 3, locals := 64 } : Room) #[(.ref ar), (.int (1 : Int32))] h0 (fun v h L => ∃ k, v = some (.ref h0.size) ∧ Fr n0 L ∧ Ext h0 h ∧ Arv Z h h0.size k (.object "java/lang/Object") 1 [.ref x1] .null) := by
  refine own_body pn_java_util_Arrays ?_
  intro p e s m below meth c s₁ hx hby hml hZ hown hnm hrt hlk X0 e0
  have N0 := Fr.nil n0
  rw [ef_ri_2]
  show own_Fin _ _ _ _ _ _ _ s₁ (mkF m 0 #[.val (.ref ar), .val (.int (1 : Int32))] [])
  refine own_step (fun _ k => XS.aloadN X0.here hx rfl (hb hby d19_0) rfl rfl k) ?_
  show own_Fin _ _ _ _ _ _ _ s₁ (mkF m 1 #[.val (.ref ar), .val (.int (1 : Int32))] [(.ref ar)])
  refine own_step (fun _ k => XS.iloadN X0.here hx rfl (hb hby d19_1) rfl k) ?_
  show own_Fin _ _ _ _ _ _ _ s₁ (mkF m 2 #[.val (.ref ar), .val (.int (1 : Int32))] [(.int (1 : Int32)), (.ref ar)])
  refine own_step (fun _ k => XS.aloadN X0.here hx rfl (hb hby d19_2) rfl rfl k) ?_
  show own_Fin _ _ _ _ _ _ _ s₁ (mkF m 3 #[.val (.ref ar), .val (.int (1 : Int32))] [(.ref ar), (.int (1 : Int32)), (.ref ar)])
  refine own_gcls X0 hx hZ hown (hw _ (List.mem_of_getElem? (i := 153) rfl)) (hw _ (List.mem_of_getElem? (i := 154) rfl)) (hw _ (List.mem_of_getElem? (i := 50) rfl)) (hw _ (List.mem_of_getElem? (i := 156) rfl)) (hw _ (List.mem_of_getElem? (i := 155) rfl)) (hw _ (List.mem_of_getElem? (i := 157) rfl)) e0 Ba Mr (by rw [hml]; rfl) (by decide) 2 (Nat.le_of_eq rfl) (by decide +kernel) (hb hby d19_3) ?_
  intro T1 X1 e1
  show own_Fin _ _ _ _ _ _ _ T1 (mkF m 6 #[.val (.ref ar), .val (.int (1 : Int32))] [(.ref mr), (.int (1 : Int32)), (.ref ar)])
  refine own_callS X1 hx hZ (argsL := [(.ref ar), (.int (1 : Int32)), (.ref mr)]) (rest := []) hown (hw _ (List.mem_of_getElem? (i := 159) rfl)) (hw _ (List.mem_of_getElem? (i := 160) rfl)) (hw _ (List.mem_of_getElem? (i := 151) rfl)) (hw _ (List.mem_of_getElem? (i := 161) rfl)) (by decide) (rm20_1 l Z a0 hw h0 n0 ar mr k x1 Aa Ba Mr gh Ex1) e1 0 (Nat.le_of_eq rfl) (by decide) (by decide) (by decide) (by decide) (by rw [hml]; rfl) pd___Ljava_lang_Object_ILjava_lang_Class___Ljava_lang_Object_ rfl rfl (hb hby d19_6) ?_
  rintro T2 L2 _ X2 ⟨k2, rfl, F2, E2, A2⟩
  have N2 := Fr.app N0 F2
  show own_Fin _ _ _ _ _ _ _ T2 (mkF m 9 #[.val (.ref ar), .val (.int (1 : Int32))] [(.ref h0.size)])
  exact own_retA X2 hx hrt rfl hlk (hb hby d19_9) rfl ⟨k2, rfl, N2, E2, A2⟩ (by decide) (by decide)
set_option maxRecDepth 65536 in
set_option maxHeartbeats 40000000 in
theorem rm18_1 (l : Launch) (Z : State) (a0 : Array Value) (hw : ∀ d ∈ tables_1, d.before a0 Z = true) (h0 : Heap) (n0 : Nat) (a ar mr : Addr) (k : ClassId) (x1 : Addr) (La : own_AL Z h0 a 1 ar) (Aa : Arv Z h0 ar k (.object "java/lang/Object") 10 [.ref x1] .null) (Ba : Exa Z h0 ar "[Ljava/lang/Object;") (Mr : own_Mir Z "[Ljava/lang/Object;" mr) (gh : n0 ≤ h0.size) (Ex1 : Exa Z h0 x1 "java/lang/Long") :
    own_Met l Z (⟨"java/util/ArrayList", "toArray", "()[Ljava/lang/Object;"⟩ : MethodName) jdk_38_method_16_code 1 (some (.array (.object "java/lang/Object"))) [] ({ frames := 3, cells := 1, slots := 3, locals := 77 } : Room) #[(.ref a)] h0 (fun v h L => ∃ k, v = some (.ref h0.size) ∧ Fr n0 L ∧ Ext h0 h ∧ Arv Z h h0.size k (.object "java/lang/Object") 1 [.ref x1] .null) := by
  refine own_body pn_java_util_ArrayList ?_
  intro p e s m below meth c s₁ hx hby hml hZ hown hnm hrt hlk X0 e0
  have N0 := Fr.nil n0
  rw [ef_r_1]
  show own_Fin _ _ _ _ _ _ _ s₁ (mkF m 0 #[.val (.ref a)] [])
  refine own_step (fun _ k => XS.aloadN X0.here hx rfl (hb hby d18_0) rfl rfl k) ?_
  show own_Fin _ _ _ _ _ _ _ s₁ (mkF m 1 #[.val (.ref a)] [(.ref a)])
  refine own_getFV X0 hx hZ hown (hw _ (List.mem_of_getElem? (i := 24) rfl)) Via.refl e0 La.2.2.2 (hb hby d18_1) ?_
  intro T1 X1 e1
  show own_Fin _ _ _ _ _ _ _ T1 (mkF m 4 #[.val (.ref a)] [(.ref ar)])
  refine own_step (fun _ k => XS.aloadN X1.here hx rfl (hb hby d18_4) rfl rfl k) ?_
  show own_Fin _ _ _ _ _ _ _ T1 (mkF m 5 #[.val (.ref a)] [(.ref a), (.ref ar)])
  refine own_getFV X1 hx hZ hown (hw _ (List.mem_of_getElem? (i := 61) rfl)) Via.refl e1 La.2.2.1 (hb hby d18_5) ?_
  intro T2 X2 e2
  show own_Fin _ _ _ _ _ _ _ T2 (mkF m 8 #[.val (.ref a)] [(.int (1 : Int32)), (.ref ar)])
  refine own_callS X2 hx hZ (argsL := [(.ref ar), (.int (1 : Int32))]) (rest := []) hown (hw _ (List.mem_of_getElem? (i := 149) rfl)) (hw _ (List.mem_of_getElem? (i := 150) rfl)) (hw _ (List.mem_of_getElem? (i := 151) rfl)) (hw _ (List.mem_of_getElem? (i := 152) rfl)) (by decide) (rm19_1 l Z a0 hw h0 n0 ar mr k x1 Aa Ba Mr gh Ex1) e2 0 (Nat.le_of_eq rfl) (by decide) (by decide) (by decide) (by decide) (by rw [hml]; rfl) pd___Ljava_lang_Object_I__Ljava_lang_Object_ rfl rfl (hb hby d18_8) ?_
  rintro T3 L3 _ X3 ⟨k3, rfl, F3, E3, A3⟩
  have N3 := Fr.app N0 F3
  show own_Fin _ _ _ _ _ _ _ T3 (mkF m 11 #[.val (.ref a)] [(.ref h0.size)])
  exact own_retA X3 hx hrt rfl hlk (hb hby d18_11) rfl ⟨k3, rfl, N3, E3, A3⟩ (by decide) (by decide)
set_option maxRecDepth 65536 in
set_option maxHeartbeats 40000000 in
theorem rm20_2 (l : Launch) (Z : State) (a0 : Array Value) (hw : ∀ d ∈ tables_1, d.before a0 Z = true) (h0 : Heap) (n0 : Nat) (ar mr : Addr) (k : ClassId) (x1 x2 : Addr) (Aa : Arv Z h0 ar k (.object "java/lang/Object") 10 [.ref x1, .ref x2] .null) (Ba : Exa Z h0 ar "[Ljava/lang/Object;") (Mr : own_Mir Z "[Ljava/lang/Object;" mr) (gh : n0 ≤ h0.size) (Ex1 : Exa Z h0 x1 "java/lang/Long") (Ex2 : Exa Z h0 x2 "java/lang/Long") :
    own_Met l Z (⟨"java/util/Arrays", "copyOf", "([Ljava/lang/Object;ILjava/lang/Class;)[Ljava/lang/Object;"⟩ : MethodName) jdk_65_method_120_code 4 (some (.array (.object "java/lang/Object"))) [] ({ frames := 1, cells := 1, slots := 3, locals := 49 } : Room) #[(.ref ar), (.int (2 : Int32)), (.ref mr)] h0 (fun v h L => ∃ k, v = some (.ref h0.size) ∧ Fr n0 L ∧ Ext h0 h ∧ Arv Z h h0.size k (.object "java/lang/Object") 2 [.ref x1, .ref x2] .null) := by
  refine own_body pn_java_util_Arrays ?_
  intro p e s m below meth c s₁ hx hby hml hZ hown hnm hrt hlk X0 e0
  have N0 := Fr.nil n0
  rw [ef_rir_4]
  show own_Fin _ _ _ _ _ _ _ s₁ (mkF m 0 #[.val (.ref ar), .val (.int (2 : Int32)), .val (.ref mr), .unset] [])
  refine own_step (fun _ k => XS.aloadN X0.here hx rfl (hb hby d20_0) rfl rfl k) ?_
  show own_Fin _ _ _ _ _ _ _ s₁ (mkF m 1 #[.val (.ref ar), .val (.int (2 : Int32)), .val (.ref mr), .unset] [(.ref mr)])
  refine own_ldcM X0 hx hZ hown (hw _ (List.mem_of_getElem? (i := 162) rfl)) Mr e0 (hb hby d20_1) ?_
  intro T1 X1 e1
  show own_Fin _ _ _ _ _ _ _ T1 (mkF m 3 #[.val (.ref ar), .val (.int (2 : Int32)), .val (.ref mr), .unset] [(.ref mr), (.ref mr)])
  refine own_step (fun _ k => XT.acmpNo X1.here hx rfl (hb hby d20_3) rfl rfl rfl (XT.aa_ne_f (congrArg Value.ref rfl)) k) ?_
  show own_Fin _ _ _ _ _ _ _ T1 (mkF m 6 #[.val (.ref ar), .val (.int (2 : Int32)), .val (.ref mr), .unset] [])
  refine own_step (fun _ k => XS.iloadN X1.here hx rfl (hb hby d20_6) rfl k) ?_
  show own_Fin _ _ _ _ _ _ _ T1 (mkF m 7 #[.val (.ref ar), .val (.int (2 : Int32)), .val (.ref mr), .unset] [(.int (2 : Int32))])
  refine own_newRE X1 hx hZ hown (hw _ (List.mem_of_getElem? (i := 163) rfl)) (hw _ (List.mem_of_getElem? (i := 138) rfl)) e1 3 (by decide) (by decide) (by decide) (by decide) (by decide) (ad := "[Ljava/lang/Object;") (by decide +kernel) (hb hby d20_7) ?_
  intro T2 hp2 k2 X2 e2 E2 A2 O2 B2
  replace Aa := Aa.ext E2
  replace Ex1 := Ex1.ext E2
  replace Ex2 := Ex2.ext E2
  show own_Fin _ _ _ _ _ _ _ T2 (mkF m 10 #[.val (.ref ar), .val (.int (2 : Int32)), .val (.ref mr), .unset] [(.ref h0.size)])
  refine own_step (fun _ k => XS.goto X2.here hx rfl (pc0 := 10) (pc' := 24) rfl (hb hby d20_10) (by decide) (by decide) k) ?_
  show own_Fin _ _ _ _ _ _ _ T2 (mkF m 24 #[.val (.ref ar), .val (.int (2 : Int32)), .val (.ref mr), .unset] [(.ref h0.size)])
  refine own_step (fun _ k => XS.astoreN X2.here hx rfl (hb hby d20_24) rfl rfl (l' := #[.val (.ref ar), .val (.int (2 : Int32)), .val (.ref mr), .val (.ref h0.size)]) rfl k) ?_
  show own_Fin _ _ _ _ _ _ _ T2 (mkF m 25 #[.val (.ref ar), .val (.int (2 : Int32)), .val (.ref mr), .val (.ref h0.size)] [])
  refine own_step (fun _ k => XS.aloadN X2.here hx rfl (hb hby d20_25) rfl rfl k) ?_
  show own_Fin _ _ _ _ _ _ _ T2 (mkF m 26 #[.val (.ref ar), .val (.int (2 : Int32)), .val (.ref mr), .val (.ref h0.size)] [(.ref ar)])
  refine own_step (fun _ k => XT.iconstV X2.here hx rfl (0 : Int32) (hb hby d20_26) (by decide) k) ?_
  show own_Fin _ _ _ _ _ _ _ T2 (mkF m 27 #[.val (.ref ar), .val (.int (2 : Int32)), .val (.ref mr), .val (.ref h0.size)] [(.int (0 : Int32)), (.ref ar)])
  refine own_step (fun _ k => XS.aloadN X2.here hx rfl (hb hby d20_27) rfl rfl k) ?_
  show own_Fin _ _ _ _ _ _ _ T2 (mkF m 28 #[.val (.ref ar), .val (.int (2 : Int32)), .val (.ref mr), .val (.ref h0.size)] [(.ref h0.size), (.int (0 : Int32)), (.ref ar)])
  refine own_step (fun _ k => XT.iconstV X2.here hx rfl (0 : Int32) (hb hby d20_28) (by decide) k) ?_
  show own_Fin _ _ _ _ _ _ _ T2 (mkF m 29 #[.val (.ref ar), .val (.int (2 : Int32)), .val (.ref mr), .val (.ref h0.size)] [(.int (0 : Int32)), (.ref h0.size), (.int (0 : Int32)), (.ref ar)])
  refine own_step (fun _ k => XS.aloadN X2.here hx rfl (hb hby d20_29) rfl rfl k) ?_
  show own_Fin _ _ _ _ _ _ _ T2 (mkF m 30 #[.val (.ref ar), .val (.int (2 : Int32)), .val (.ref mr), .val (.ref h0.size)] [(.ref ar), (.int (0 : Int32)), (.ref h0.size), (.int (0 : Int32)), (.ref ar)])
  refine own_alenV X2 hx hZ e2 Aa (hb hby d20_30) ?_
  show own_Fin _ _ _ _ _ _ _ T2 (mkF m 31 #[.val (.ref ar), .val (.int (2 : Int32)), .val (.ref mr), .val (.ref h0.size)] [(.int (10 : Int32)), (.int (0 : Int32)), (.ref h0.size), (.int (0 : Int32)), (.ref ar)])
  refine own_step (fun _ k => XS.iloadN X2.here hx rfl (hb hby d20_31) rfl k) ?_
  show own_Fin _ _ _ _ _ _ _ T2 (mkF m 32 #[.val (.ref ar), .val (.int (2 : Int32)), .val (.ref mr), .val (.ref h0.size)] [(.int (2 : Int32)), (.int (10 : Int32)), (.int (0 : Int32)), (.ref h0.size), (.int (0 : Int32)), (.ref ar)])
  refine own_callS X2 hx hZ (argsL := [(.int (10 : Int32)), (.int (2 : Int32))]) (rest := [(.int (0 : Int32)), (.ref h0.size), (.int (0 : Int32)), (.ref ar)]) hown (hw _ (List.mem_of_getElem? (i := 164) rfl)) (hw _ (List.mem_of_getElem? (i := 165) rfl)) (hw _ (List.mem_of_getElem? (i := 135) rfl)) (hw _ (List.mem_of_getElem? (i := 166) rfl)) (by decide) (rm21 l Z a0 hw hp2 n0 (10 : Int32) (2 : Int32) (by decide)) e2 4 (Nat.le_of_eq rfl) (by decide) (by decide) (by decide) (by decide) (by rw [hml]; rfl) pd__II_I rfl rfl (hb hby d20_32) ?_
  rintro T3 _ _ X3 ⟨rfl, rfl, e3⟩
  rw [List.append_nil] at X3
  show own_Fin _ _ _ _ _ _ _ T3 (mkF m 35 #[.val (.ref ar), .val (.int (2 : Int32)), .val (.ref mr), .val (.ref h0.size)] [(.int (2 : Int32)), (.int (0 : Int32)), (.ref h0.size), (.int (0 : Int32)), (.ref ar)])
  have Az := A2
  obtain ⟨cn, An, An1, -⟩ := A2
  have hS : StoL Z hp2 h0.size [.ref x1, .ref x2] := ⟨Sto.ofV An An1 O2 (Ins.of_exa Ex1 (hw _ (List.mem_of_getElem? (i := 139) rfl))), ⟨Sto.ofV An An1 O2 (Ins.of_exa Ex2 (hw _ (List.mem_of_getElem? (i := 139) rfl))), trivial⟩⟩
  refine own_cpA X3 hx hZ hown (hw _ (List.mem_of_getElem? (i := 167) rfl)) (hw _ (List.mem_of_getElem? (i := 170) rfl)) (hw _ (List.mem_of_getElem? (i := 168) rfl)) (hw _ (List.mem_of_getElem? (i := 169) rfl)) e3 Aa Az hS (by decide) (by decide) rfl rfl N0 gh (by rw [hml]; rfl) (by decide) 0 (by decide) (by decide +kernel) (hb hby d20_35) ?_
  intro T4 hp4 L4 X4 e4 N4 K4 A4
  show own_Fin _ _ _ _ _ _ _ T4 (mkF m 38 #[.val (.ref ar), .val (.int (2 : Int32)), .val (.ref mr), .val (.ref h0.size)] [])
  refine own_step (fun _ k => XS.aloadN X4.here hx rfl (hb hby d20_38) rfl rfl k) ?_
  show own_Fin _ _ _ _ _ _ _ T4 (mkF m 39 #[.val (.ref ar), .val (.int (2 : Int32)), .val (.ref mr), .val (.ref h0.size)] [(.ref h0.size)])
  exact own_retA X4 hx hrt rfl hlk (hb hby d20_39) rfl (by rw [e4]; exact ⟨k2, rfl, N4, own_ext_keep E2 K4 (allS (Nat.le_refl _) all0), A4⟩) (by decide) (by decide)
set_option maxRecDepth 65536 in
set_option maxHeartbeats 40000000 in
theorem rm19_2 (l : Launch) (Z : State) (a0 : Array Value) (hw : ∀ d ∈ tables_1, d.before a0 Z = true) (h0 : Heap) (n0 : Nat) (ar mr : Addr) (k : ClassId) (x1 x2 : Addr) (Aa : Arv Z h0 ar k (.object "java/lang/Object") 10 [.ref x1, .ref x2] .null) (Ba : Exa Z h0 ar "[Ljava/lang/Object;") (Mr : own_Mir Z "[Ljava/lang/Object;" mr) (gh : n0 ≤ h0.size) (Ex1 : Exa Z h0 x1 "java/lang/Long") (Ex2 : Exa Z h0 x2 "java/lang/Long") :
    own_Met l Z (⟨"java/util/Arrays", "copyOf", "([Ljava/lang/Object;I)[Ljava/lang/Object;"⟩ : MethodName) jdk_65_method_119_code 2 (some (.array (.object "java/lang/Object"))) [] ({ frames := 2, cells := 1, slots := 3, locals := 64 } : Room) #[(.ref ar), (.int (2 : Int32))] h0 (fun v h L => ∃ k, v = some (.ref h0.size) ∧ Fr n0 L ∧ Ext h0 h ∧ Arv Z h h0.size k (.object "java/lang/Object") 2 [.ref x1, .ref x2] .null) := by
  refine own_body pn_java_util_Arrays ?_
  intro p e s m below meth c s₁ hx hby hml hZ hown hnm hrt hlk X0 e0
  have N0 := Fr.nil n0
  rw [ef_ri_2]
  show own_Fin _ _ _ _ _ _ _ s₁ (mkF m 0 #[.val (.ref ar), .val (.int (2 : Int32))] [])
  refine own_step (fun _ k => XS.aloadN X0.here hx rfl (hb hby d19_0) rfl rfl k) ?_
  show own_Fin _ _ _ _ _ _ _ s₁ (mkF m 1 #[.val (.ref ar), .val (.int (2 : Int32))] [(.ref ar)])
  refine own_step (fun _ k => XS.iloadN X0.here hx rfl (hb hby d19_1) rfl k) ?_
  show own_Fin _ _ _ _ _ _ _ s₁ (mkF m 2 #[.val (.ref ar), .val (.int (2 : Int32))] [(.int (2 : Int32)), (.ref ar)])
  refine own_step (fun _ k => XS.aloadN X0.here hx rfl (hb hby d19_2) rfl rfl k) ?_
  show own_Fin _ _ _ _ _ _ _ s₁ (mkF m 3 #[.val (.ref ar), .val (.int (2 : Int32))] [(.ref ar), (.int (2 : Int32)), (.ref ar)])
  refine own_gcls X0 hx hZ hown (hw _ (List.mem_of_getElem? (i := 153) rfl)) (hw _ (List.mem_of_getElem? (i := 154) rfl)) (hw _ (List.mem_of_getElem? (i := 50) rfl)) (hw _ (List.mem_of_getElem? (i := 156) rfl)) (hw _ (List.mem_of_getElem? (i := 155) rfl)) (hw _ (List.mem_of_getElem? (i := 157) rfl)) e0 Ba Mr (by rw [hml]; rfl) (by decide) 2 (Nat.le_of_eq rfl) (by decide +kernel) (hb hby d19_3) ?_
  intro T1 X1 e1
  show own_Fin _ _ _ _ _ _ _ T1 (mkF m 6 #[.val (.ref ar), .val (.int (2 : Int32))] [(.ref mr), (.int (2 : Int32)), (.ref ar)])
  refine own_callS X1 hx hZ (argsL := [(.ref ar), (.int (2 : Int32)), (.ref mr)]) (rest := []) hown (hw _ (List.mem_of_getElem? (i := 159) rfl)) (hw _ (List.mem_of_getElem? (i := 160) rfl)) (hw _ (List.mem_of_getElem? (i := 151) rfl)) (hw _ (List.mem_of_getElem? (i := 161) rfl)) (by decide) (rm20_2 l Z a0 hw h0 n0 ar mr k x1 x2 Aa Ba Mr gh Ex1 Ex2) e1 0 (Nat.le_of_eq rfl) (by decide) (by decide) (by decide) (by decide) (by rw [hml]; rfl) pd___Ljava_lang_Object_ILjava_lang_Class___Ljava_lang_Object_ rfl rfl (hb hby d19_6) ?_
  rintro T2 L2 _ X2 ⟨k2, rfl, F2, E2, A2⟩
  have N2 := Fr.app N0 F2
  show own_Fin _ _ _ _ _ _ _ T2 (mkF m 9 #[.val (.ref ar), .val (.int (2 : Int32))] [(.ref h0.size)])
  exact own_retA X2 hx hrt rfl hlk (hb hby d19_9) rfl ⟨k2, rfl, N2, E2, A2⟩ (by decide) (by decide)
set_option maxRecDepth 65536 in
set_option maxHeartbeats 40000000 in
theorem rm18_2 (l : Launch) (Z : State) (a0 : Array Value) (hw : ∀ d ∈ tables_1, d.before a0 Z = true) (h0 : Heap) (n0 : Nat) (a ar mr : Addr) (k : ClassId) (x1 x2 : Addr) (La : own_AL Z h0 a 2 ar) (Aa : Arv Z h0 ar k (.object "java/lang/Object") 10 [.ref x1, .ref x2] .null) (Ba : Exa Z h0 ar "[Ljava/lang/Object;") (Mr : own_Mir Z "[Ljava/lang/Object;" mr) (gh : n0 ≤ h0.size) (Ex1 : Exa Z h0 x1 "java/lang/Long") (Ex2 : Exa Z h0 x2 "java/lang/Long") :
    own_Met l Z (⟨"java/util/ArrayList", "toArray", "()[Ljava/lang/Object;"⟩ : MethodName) jdk_38_method_16_code 1 (some (.array (.object "java/lang/Object"))) [] ({ frames := 3, cells := 1, slots := 3, locals := 77 } : Room) #[(.ref a)] h0 (fun v h L => ∃ k, v = some (.ref h0.size) ∧ Fr n0 L ∧ Ext h0 h ∧ Arv Z h h0.size k (.object "java/lang/Object") 2 [.ref x1, .ref x2] .null) := by
  refine own_body pn_java_util_ArrayList ?_
  intro p e s m below meth c s₁ hx hby hml hZ hown hnm hrt hlk X0 e0
  have N0 := Fr.nil n0
  rw [ef_r_1]
  show own_Fin _ _ _ _ _ _ _ s₁ (mkF m 0 #[.val (.ref a)] [])
  refine own_step (fun _ k => XS.aloadN X0.here hx rfl (hb hby d18_0) rfl rfl k) ?_
  show own_Fin _ _ _ _ _ _ _ s₁ (mkF m 1 #[.val (.ref a)] [(.ref a)])
  refine own_getFV X0 hx hZ hown (hw _ (List.mem_of_getElem? (i := 24) rfl)) Via.refl e0 La.2.2.2 (hb hby d18_1) ?_
  intro T1 X1 e1
  show own_Fin _ _ _ _ _ _ _ T1 (mkF m 4 #[.val (.ref a)] [(.ref ar)])
  refine own_step (fun _ k => XS.aloadN X1.here hx rfl (hb hby d18_4) rfl rfl k) ?_
  show own_Fin _ _ _ _ _ _ _ T1 (mkF m 5 #[.val (.ref a)] [(.ref a), (.ref ar)])
  refine own_getFV X1 hx hZ hown (hw _ (List.mem_of_getElem? (i := 61) rfl)) Via.refl e1 La.2.2.1 (hb hby d18_5) ?_
  intro T2 X2 e2
  show own_Fin _ _ _ _ _ _ _ T2 (mkF m 8 #[.val (.ref a)] [(.int (2 : Int32)), (.ref ar)])
  refine own_callS X2 hx hZ (argsL := [(.ref ar), (.int (2 : Int32))]) (rest := []) hown (hw _ (List.mem_of_getElem? (i := 149) rfl)) (hw _ (List.mem_of_getElem? (i := 150) rfl)) (hw _ (List.mem_of_getElem? (i := 151) rfl)) (hw _ (List.mem_of_getElem? (i := 152) rfl)) (by decide) (rm19_2 l Z a0 hw h0 n0 ar mr k x1 x2 Aa Ba Mr gh Ex1 Ex2) e2 0 (Nat.le_of_eq rfl) (by decide) (by decide) (by decide) (by decide) (by rw [hml]; rfl) pd___Ljava_lang_Object_I__Ljava_lang_Object_ rfl rfl (hb hby d18_8) ?_
  rintro T3 L3 _ X3 ⟨k3, rfl, F3, E3, A3⟩
  have N3 := Fr.app N0 F3
  show own_Fin _ _ _ _ _ _ _ T3 (mkF m 11 #[.val (.ref a)] [(.ref h0.size)])
  exact own_retA X3 hx hrt rfl hlk (hb hby d18_11) rfl ⟨k3, rfl, N3, E3, A3⟩ (by decide) (by decide)
set_option maxRecDepth 65536 in
set_option maxHeartbeats 40000000 in
theorem rm20_3 (l : Launch) (Z : State) (a0 : Array Value) (hw : ∀ d ∈ tables_1, d.before a0 Z = true) (h0 : Heap) (n0 : Nat) (ar mr : Addr) (k : ClassId) (x1 x2 x3 : Addr) (Aa : Arv Z h0 ar k (.object "java/lang/Object") 10 [.ref x1, .ref x2, .ref x3] .null) (Ba : Exa Z h0 ar "[Ljava/lang/Object;") (Mr : own_Mir Z "[Ljava/lang/Object;" mr) (gh : n0 ≤ h0.size) (Ex1 : Exa Z h0 x1 "java/lang/Long") (Ex2 : Exa Z h0 x2 "java/lang/Long") (Ex3 : Exa Z h0 x3 "java/lang/Long") :
    own_Met l Z (⟨"java/util/Arrays", "copyOf", "([Ljava/lang/Object;ILjava/lang/Class;)[Ljava/lang/Object;"⟩ : MethodName) jdk_65_method_120_code 4 (some (.array (.object "java/lang/Object"))) [] ({ frames := 1, cells := 1, slots := 3, locals := 49 } : Room) #[(.ref ar), (.int (3 : Int32)), (.ref mr)] h0 (fun v h L => ∃ k, v = some (.ref h0.size) ∧ Fr n0 L ∧ Ext h0 h ∧ Arv Z h h0.size k (.object "java/lang/Object") 3 [.ref x1, .ref x2, .ref x3] .null) := by
  refine own_body pn_java_util_Arrays ?_
  intro p e s m below meth c s₁ hx hby hml hZ hown hnm hrt hlk X0 e0
  have N0 := Fr.nil n0
  rw [ef_rir_4]
  show own_Fin _ _ _ _ _ _ _ s₁ (mkF m 0 #[.val (.ref ar), .val (.int (3 : Int32)), .val (.ref mr), .unset] [])
  refine own_step (fun _ k => XS.aloadN X0.here hx rfl (hb hby d20_0) rfl rfl k) ?_
  show own_Fin _ _ _ _ _ _ _ s₁ (mkF m 1 #[.val (.ref ar), .val (.int (3 : Int32)), .val (.ref mr), .unset] [(.ref mr)])
  refine own_ldcM X0 hx hZ hown (hw _ (List.mem_of_getElem? (i := 162) rfl)) Mr e0 (hb hby d20_1) ?_
  intro T1 X1 e1
  show own_Fin _ _ _ _ _ _ _ T1 (mkF m 3 #[.val (.ref ar), .val (.int (3 : Int32)), .val (.ref mr), .unset] [(.ref mr), (.ref mr)])
  refine own_step (fun _ k => XT.acmpNo X1.here hx rfl (hb hby d20_3) rfl rfl rfl (XT.aa_ne_f (congrArg Value.ref rfl)) k) ?_
  show own_Fin _ _ _ _ _ _ _ T1 (mkF m 6 #[.val (.ref ar), .val (.int (3 : Int32)), .val (.ref mr), .unset] [])
  refine own_step (fun _ k => XS.iloadN X1.here hx rfl (hb hby d20_6) rfl k) ?_
  show own_Fin _ _ _ _ _ _ _ T1 (mkF m 7 #[.val (.ref ar), .val (.int (3 : Int32)), .val (.ref mr), .unset] [(.int (3 : Int32))])
  refine own_newRE X1 hx hZ hown (hw _ (List.mem_of_getElem? (i := 163) rfl)) (hw _ (List.mem_of_getElem? (i := 138) rfl)) e1 3 (by decide) (by decide) (by decide) (by decide) (by decide) (ad := "[Ljava/lang/Object;") (by decide +kernel) (hb hby d20_7) ?_
  intro T2 hp2 k2 X2 e2 E2 A2 O2 B2
  replace Aa := Aa.ext E2
  replace Ex1 := Ex1.ext E2
  replace Ex2 := Ex2.ext E2
  replace Ex3 := Ex3.ext E2
  show own_Fin _ _ _ _ _ _ _ T2 (mkF m 10 #[.val (.ref ar), .val (.int (3 : Int32)), .val (.ref mr), .unset] [(.ref h0.size)])
  refine own_step (fun _ k => XS.goto X2.here hx rfl (pc0 := 10) (pc' := 24) rfl (hb hby d20_10) (by decide) (by decide) k) ?_
  show own_Fin _ _ _ _ _ _ _ T2 (mkF m 24 #[.val (.ref ar), .val (.int (3 : Int32)), .val (.ref mr), .unset] [(.ref h0.size)])
  refine own_step (fun _ k => XS.astoreN X2.here hx rfl (hb hby d20_24) rfl rfl (l' := #[.val (.ref ar), .val (.int (3 : Int32)), .val (.ref mr), .val (.ref h0.size)]) rfl k) ?_
  show own_Fin _ _ _ _ _ _ _ T2 (mkF m 25 #[.val (.ref ar), .val (.int (3 : Int32)), .val (.ref mr), .val (.ref h0.size)] [])
  refine own_step (fun _ k => XS.aloadN X2.here hx rfl (hb hby d20_25) rfl rfl k) ?_
  show own_Fin _ _ _ _ _ _ _ T2 (mkF m 26 #[.val (.ref ar), .val (.int (3 : Int32)), .val (.ref mr), .val (.ref h0.size)] [(.ref ar)])
  refine own_step (fun _ k => XT.iconstV X2.here hx rfl (0 : Int32) (hb hby d20_26) (by decide) k) ?_
  show own_Fin _ _ _ _ _ _ _ T2 (mkF m 27 #[.val (.ref ar), .val (.int (3 : Int32)), .val (.ref mr), .val (.ref h0.size)] [(.int (0 : Int32)), (.ref ar)])
  refine own_step (fun _ k => XS.aloadN X2.here hx rfl (hb hby d20_27) rfl rfl k) ?_
  show own_Fin _ _ _ _ _ _ _ T2 (mkF m 28 #[.val (.ref ar), .val (.int (3 : Int32)), .val (.ref mr), .val (.ref h0.size)] [(.ref h0.size), (.int (0 : Int32)), (.ref ar)])
  refine own_step (fun _ k => XT.iconstV X2.here hx rfl (0 : Int32) (hb hby d20_28) (by decide) k) ?_
  show own_Fin _ _ _ _ _ _ _ T2 (mkF m 29 #[.val (.ref ar), .val (.int (3 : Int32)), .val (.ref mr), .val (.ref h0.size)] [(.int (0 : Int32)), (.ref h0.size), (.int (0 : Int32)), (.ref ar)])
  refine own_step (fun _ k => XS.aloadN X2.here hx rfl (hb hby d20_29) rfl rfl k) ?_
  show own_Fin _ _ _ _ _ _ _ T2 (mkF m 30 #[.val (.ref ar), .val (.int (3 : Int32)), .val (.ref mr), .val (.ref h0.size)] [(.ref ar), (.int (0 : Int32)), (.ref h0.size), (.int (0 : Int32)), (.ref ar)])
  refine own_alenV X2 hx hZ e2 Aa (hb hby d20_30) ?_
  show own_Fin _ _ _ _ _ _ _ T2 (mkF m 31 #[.val (.ref ar), .val (.int (3 : Int32)), .val (.ref mr), .val (.ref h0.size)] [(.int (10 : Int32)), (.int (0 : Int32)), (.ref h0.size), (.int (0 : Int32)), (.ref ar)])
  refine own_step (fun _ k => XS.iloadN X2.here hx rfl (hb hby d20_31) rfl k) ?_
  show own_Fin _ _ _ _ _ _ _ T2 (mkF m 32 #[.val (.ref ar), .val (.int (3 : Int32)), .val (.ref mr), .val (.ref h0.size)] [(.int (3 : Int32)), (.int (10 : Int32)), (.int (0 : Int32)), (.ref h0.size), (.int (0 : Int32)), (.ref ar)])
  refine own_callS X2 hx hZ (argsL := [(.int (10 : Int32)), (.int (3 : Int32))]) (rest := [(.int (0 : Int32)), (.ref h0.size), (.int (0 : Int32)), (.ref ar)]) hown (hw _ (List.mem_of_getElem? (i := 164) rfl)) (hw _ (List.mem_of_getElem? (i := 165) rfl)) (hw _ (List.mem_of_getElem? (i := 135) rfl)) (hw _ (List.mem_of_getElem? (i := 166) rfl)) (by decide) (rm21 l Z a0 hw hp2 n0 (10 : Int32) (3 : Int32) (by decide)) e2 4 (Nat.le_of_eq rfl) (by decide) (by decide) (by decide) (by decide) (by rw [hml]; rfl) pd__II_I rfl rfl (hb hby d20_32) ?_
  rintro T3 _ _ X3 ⟨rfl, rfl, e3⟩
  rw [List.append_nil] at X3
  show own_Fin _ _ _ _ _ _ _ T3 (mkF m 35 #[.val (.ref ar), .val (.int (3 : Int32)), .val (.ref mr), .val (.ref h0.size)] [(.int (3 : Int32)), (.int (0 : Int32)), (.ref h0.size), (.int (0 : Int32)), (.ref ar)])
  have Az := A2
  obtain ⟨cn, An, An1, -⟩ := A2
  have hS : StoL Z hp2 h0.size [.ref x1, .ref x2, .ref x3] := ⟨Sto.ofV An An1 O2 (Ins.of_exa Ex1 (hw _ (List.mem_of_getElem? (i := 139) rfl))), ⟨Sto.ofV An An1 O2 (Ins.of_exa Ex2 (hw _ (List.mem_of_getElem? (i := 139) rfl))), ⟨Sto.ofV An An1 O2 (Ins.of_exa Ex3 (hw _ (List.mem_of_getElem? (i := 139) rfl))), trivial⟩⟩⟩
  refine own_cpA X3 hx hZ hown (hw _ (List.mem_of_getElem? (i := 167) rfl)) (hw _ (List.mem_of_getElem? (i := 170) rfl)) (hw _ (List.mem_of_getElem? (i := 168) rfl)) (hw _ (List.mem_of_getElem? (i := 169) rfl)) e3 Aa Az hS (by decide) (by decide) rfl rfl N0 gh (by rw [hml]; rfl) (by decide) 0 (by decide) (by decide +kernel) (hb hby d20_35) ?_
  intro T4 hp4 L4 X4 e4 N4 K4 A4
  show own_Fin _ _ _ _ _ _ _ T4 (mkF m 38 #[.val (.ref ar), .val (.int (3 : Int32)), .val (.ref mr), .val (.ref h0.size)] [])
  refine own_step (fun _ k => XS.aloadN X4.here hx rfl (hb hby d20_38) rfl rfl k) ?_
  show own_Fin _ _ _ _ _ _ _ T4 (mkF m 39 #[.val (.ref ar), .val (.int (3 : Int32)), .val (.ref mr), .val (.ref h0.size)] [(.ref h0.size)])
  exact own_retA X4 hx hrt rfl hlk (hb hby d20_39) rfl (by rw [e4]; exact ⟨k2, rfl, N4, own_ext_keep E2 K4 (allS (Nat.le_refl _) all0), A4⟩) (by decide) (by decide)
set_option maxRecDepth 65536 in
set_option maxHeartbeats 40000000 in
theorem rm19_3 (l : Launch) (Z : State) (a0 : Array Value) (hw : ∀ d ∈ tables_1, d.before a0 Z = true) (h0 : Heap) (n0 : Nat) (ar mr : Addr) (k : ClassId) (x1 x2 x3 : Addr) (Aa : Arv Z h0 ar k (.object "java/lang/Object") 10 [.ref x1, .ref x2, .ref x3] .null) (Ba : Exa Z h0 ar "[Ljava/lang/Object;") (Mr : own_Mir Z "[Ljava/lang/Object;" mr) (gh : n0 ≤ h0.size) (Ex1 : Exa Z h0 x1 "java/lang/Long") (Ex2 : Exa Z h0 x2 "java/lang/Long") (Ex3 : Exa Z h0 x3 "java/lang/Long") :
    own_Met l Z (⟨"java/util/Arrays", "copyOf", "([Ljava/lang/Object;I)[Ljava/lang/Object;"⟩ : MethodName) jdk_65_method_119_code 2 (some (.array (.object "java/lang/Object"))) [] ({ frames := 2, cells := 1, slots := 3, locals := 64 } : Room) #[(.ref ar), (.int (3 : Int32))] h0 (fun v h L => ∃ k, v = some (.ref h0.size) ∧ Fr n0 L ∧ Ext h0 h ∧ Arv Z h h0.size k (.object "java/lang/Object") 3 [.ref x1, .ref x2, .ref x3] .null) := by
  refine own_body pn_java_util_Arrays ?_
  intro p e s m below meth c s₁ hx hby hml hZ hown hnm hrt hlk X0 e0
  have N0 := Fr.nil n0
  rw [ef_ri_2]
  show own_Fin _ _ _ _ _ _ _ s₁ (mkF m 0 #[.val (.ref ar), .val (.int (3 : Int32))] [])
  refine own_step (fun _ k => XS.aloadN X0.here hx rfl (hb hby d19_0) rfl rfl k) ?_
  show own_Fin _ _ _ _ _ _ _ s₁ (mkF m 1 #[.val (.ref ar), .val (.int (3 : Int32))] [(.ref ar)])
  refine own_step (fun _ k => XS.iloadN X0.here hx rfl (hb hby d19_1) rfl k) ?_
  show own_Fin _ _ _ _ _ _ _ s₁ (mkF m 2 #[.val (.ref ar), .val (.int (3 : Int32))] [(.int (3 : Int32)), (.ref ar)])
  refine own_step (fun _ k => XS.aloadN X0.here hx rfl (hb hby d19_2) rfl rfl k) ?_
  show own_Fin _ _ _ _ _ _ _ s₁ (mkF m 3 #[.val (.ref ar), .val (.int (3 : Int32))] [(.ref ar), (.int (3 : Int32)), (.ref ar)])
  refine own_gcls X0 hx hZ hown (hw _ (List.mem_of_getElem? (i := 153) rfl)) (hw _ (List.mem_of_getElem? (i := 154) rfl)) (hw _ (List.mem_of_getElem? (i := 50) rfl)) (hw _ (List.mem_of_getElem? (i := 156) rfl)) (hw _ (List.mem_of_getElem? (i := 155) rfl)) (hw _ (List.mem_of_getElem? (i := 157) rfl)) e0 Ba Mr (by rw [hml]; rfl) (by decide) 2 (Nat.le_of_eq rfl) (by decide +kernel) (hb hby d19_3) ?_
  intro T1 X1 e1
  show own_Fin _ _ _ _ _ _ _ T1 (mkF m 6 #[.val (.ref ar), .val (.int (3 : Int32))] [(.ref mr), (.int (3 : Int32)), (.ref ar)])
  refine own_callS X1 hx hZ (argsL := [(.ref ar), (.int (3 : Int32)), (.ref mr)]) (rest := []) hown (hw _ (List.mem_of_getElem? (i := 159) rfl)) (hw _ (List.mem_of_getElem? (i := 160) rfl)) (hw _ (List.mem_of_getElem? (i := 151) rfl)) (hw _ (List.mem_of_getElem? (i := 161) rfl)) (by decide) (rm20_3 l Z a0 hw h0 n0 ar mr k x1 x2 x3 Aa Ba Mr gh Ex1 Ex2 Ex3) e1 0 (Nat.le_of_eq rfl) (by decide) (by decide) (by decide) (by decide) (by rw [hml]; rfl) pd___Ljava_lang_Object_ILjava_lang_Class___Ljava_lang_Object_ rfl rfl (hb hby d19_6) ?_
  rintro T2 L2 _ X2 ⟨k2, rfl, F2, E2, A2⟩
  have N2 := Fr.app N0 F2
  show own_Fin _ _ _ _ _ _ _ T2 (mkF m 9 #[.val (.ref ar), .val (.int (3 : Int32))] [(.ref h0.size)])
  exact own_retA X2 hx hrt rfl hlk (hb hby d19_9) rfl ⟨k2, rfl, N2, E2, A2⟩ (by decide) (by decide)
set_option maxRecDepth 65536 in
set_option maxHeartbeats 40000000 in
theorem rm18_3 (l : Launch) (Z : State) (a0 : Array Value) (hw : ∀ d ∈ tables_1, d.before a0 Z = true) (h0 : Heap) (n0 : Nat) (a ar mr : Addr) (k : ClassId) (x1 x2 x3 : Addr) (La : own_AL Z h0 a 3 ar) (Aa : Arv Z h0 ar k (.object "java/lang/Object") 10 [.ref x1, .ref x2, .ref x3] .null) (Ba : Exa Z h0 ar "[Ljava/lang/Object;") (Mr : own_Mir Z "[Ljava/lang/Object;" mr) (gh : n0 ≤ h0.size) (Ex1 : Exa Z h0 x1 "java/lang/Long") (Ex2 : Exa Z h0 x2 "java/lang/Long") (Ex3 : Exa Z h0 x3 "java/lang/Long") :
    own_Met l Z (⟨"java/util/ArrayList", "toArray", "()[Ljava/lang/Object;"⟩ : MethodName) jdk_38_method_16_code 1 (some (.array (.object "java/lang/Object"))) [] ({ frames := 3, cells := 1, slots := 3, locals := 77 } : Room) #[(.ref a)] h0 (fun v h L => ∃ k, v = some (.ref h0.size) ∧ Fr n0 L ∧ Ext h0 h ∧ Arv Z h h0.size k (.object "java/lang/Object") 3 [.ref x1, .ref x2, .ref x3] .null) := by
  refine own_body pn_java_util_ArrayList ?_
  intro p e s m below meth c s₁ hx hby hml hZ hown hnm hrt hlk X0 e0
  have N0 := Fr.nil n0
  rw [ef_r_1]
  show own_Fin _ _ _ _ _ _ _ s₁ (mkF m 0 #[.val (.ref a)] [])
  refine own_step (fun _ k => XS.aloadN X0.here hx rfl (hb hby d18_0) rfl rfl k) ?_
  show own_Fin _ _ _ _ _ _ _ s₁ (mkF m 1 #[.val (.ref a)] [(.ref a)])
  refine own_getFV X0 hx hZ hown (hw _ (List.mem_of_getElem? (i := 24) rfl)) Via.refl e0 La.2.2.2 (hb hby d18_1) ?_
  intro T1 X1 e1
  show own_Fin _ _ _ _ _ _ _ T1 (mkF m 4 #[.val (.ref a)] [(.ref ar)])
  refine own_step (fun _ k => XS.aloadN X1.here hx rfl (hb hby d18_4) rfl rfl k) ?_
  show own_Fin _ _ _ _ _ _ _ T1 (mkF m 5 #[.val (.ref a)] [(.ref a), (.ref ar)])
  refine own_getFV X1 hx hZ hown (hw _ (List.mem_of_getElem? (i := 61) rfl)) Via.refl e1 La.2.2.1 (hb hby d18_5) ?_
  intro T2 X2 e2
  show own_Fin _ _ _ _ _ _ _ T2 (mkF m 8 #[.val (.ref a)] [(.int (3 : Int32)), (.ref ar)])
  refine own_callS X2 hx hZ (argsL := [(.ref ar), (.int (3 : Int32))]) (rest := []) hown (hw _ (List.mem_of_getElem? (i := 149) rfl)) (hw _ (List.mem_of_getElem? (i := 150) rfl)) (hw _ (List.mem_of_getElem? (i := 151) rfl)) (hw _ (List.mem_of_getElem? (i := 152) rfl)) (by decide) (rm19_3 l Z a0 hw h0 n0 ar mr k x1 x2 x3 Aa Ba Mr gh Ex1 Ex2 Ex3) e2 0 (Nat.le_of_eq rfl) (by decide) (by decide) (by decide) (by decide) (by rw [hml]; rfl) pd___Ljava_lang_Object_I__Ljava_lang_Object_ rfl rfl (hb hby d18_8) ?_
  rintro T3 L3 _ X3 ⟨k3, rfl, F3, E3, A3⟩
  have N3 := Fr.app N0 F3
  show own_Fin _ _ _ _ _ _ _ T3 (mkF m 11 #[.val (.ref a)] [(.ref h0.size)])
  exact own_retA X3 hx hrt rfl hlk (hb hby d18_11) rfl ⟨k3, rfl, N3, E3, A3⟩ (by decide) (by decide)
theorem d32_0 : decode jdk_44_method_1_code 0 = .ok (.aload_n 0, 1) := by decide +kernel
theorem d32_1 : decode jdk_44_method_1_code 1 = .ok (.invokespecial 1, 3) := by decide +kernel
theorem d32_4 : decode jdk_44_method_1_code 4 = .ok (.aload_n 0, 1) := by decide +kernel
theorem d32_5 : decode jdk_44_method_1_code 5 = .ok (.aload_n 1, 1) := by decide +kernel
theorem d32_6 : decode jdk_44_method_1_code 6 = .ok (.invokestatic 7, 3) := by decide +kernel
theorem d32_9 : decode jdk_44_method_1_code 9 = .ok (.putfield 13, 3) := by decide +kernel
theorem d32_12 : decode jdk_44_method_1_code 12 = .ok (.aload_n 0, 1) := by decide +kernel
theorem d32_13 : decode jdk_44_method_1_code 13 = .ok (.getstatic 19, 3) := by decide +kernel
theorem d32_16 : decode jdk_44_method_1_code 16 = .ok (.putfield 24, 3) := by decide +kernel
theorem d32_19 : decode jdk_44_method_1_code 19 = .ok (.return_, 1) := by decide +kernel
theorem d30_0 : decode jdk_44_method_2_code 0 = .ok (.aload_n 0, 1) := by decide +kernel
theorem d30_1 : decode jdk_44_method_2_code 1 = .ok (.invokespecial 1, 3) := by decide +kernel
theorem d30_4 : decode jdk_44_method_2_code 4 = .ok (.aload_n 0, 1) := by decide +kernel
theorem d30_5 : decode jdk_44_method_2_code 5 = .ok (.aload_n 1, 1) := by decide +kernel
theorem d30_6 : decode jdk_44_method_2_code 6 = .ok (.invokestatic 7, 3) := by decide +kernel
theorem d30_9 : decode jdk_44_method_2_code 9 = .ok (.putfield 13, 3) := by decide +kernel
theorem d30_12 : decode jdk_44_method_2_code 12 = .ok (.aload_n 0, 1) := by decide +kernel
theorem d30_13 : decode jdk_44_method_2_code 13 = .ok (.aload_n 2, 1) := by decide +kernel
theorem d30_14 : decode jdk_44_method_2_code 14 = .ok (.invokestatic 7, 3) := by decide +kernel
theorem d30_17 : decode jdk_44_method_2_code 17 = .ok (.putfield 24, 3) := by decide +kernel
theorem d30_20 : decode jdk_44_method_2_code 20 = .ok (.return_, 1) := by decide +kernel
theorem ef_rrr_3 (m : MethodId) (x0 : Addr) (x1 : Addr) (x2 : Addr) : entryFrame m #[(.ref x0), (.ref x1), (.ref x2)] 3 = mkF m 0 #[.val (.ref x0), .val (.ref x1), .val (.ref x2)] [] := by first | (simp [entryFrame, mkF, argsToLocals, Value.category]; done) | rfl
theorem d25_0 : decode jdk_45_method_1_code 0 = .ok (.aload_n 0, 1) := by decide +kernel
theorem d25_1 : decode jdk_45_method_1_code 1 = .ok (.invokespecial 1, 3) := by decide +kernel
theorem d25_4 : decode jdk_45_method_1_code 4 = .ok (.aload_n 0, 1) := by decide +kernel
theorem d25_5 : decode jdk_45_method_1_code 5 = .ok (.aload_n 1, 1) := by decide +kernel
theorem d25_6 : decode jdk_45_method_1_code 6 = .ok (.putfield 7, 3) := by decide +kernel
theorem d25_9 : decode jdk_45_method_1_code 9 = .ok (.aload_n 0, 1) := by decide +kernel
theorem d25_10 : decode jdk_45_method_1_code 10 = .ok (.iload_n 2, 1) := by decide +kernel
theorem d25_11 : decode jdk_45_method_1_code 11 = .ok (.putfield 13, 3) := by decide +kernel
theorem d25_14 : decode jdk_45_method_1_code 14 = .ok (.return_, 1) := by decide +kernel
theorem ef_rri_3 (m : MethodId) (x0 : Addr) (x1 : Addr) (x2 : Int32) : entryFrame m #[(.ref x0), (.ref x1), (.int x2)] 3 = mkF m 0 #[.val (.ref x0), .val (.ref x1), .val (.int x2)] [] := by first | (simp [entryFrame, mkF, argsToLocals, Value.category]; done) | rfl
set_option maxRecDepth 65536 in
set_option maxHeartbeats 40000000 in
theorem rm32 (l : Launch) (Z : State) (a0 : Array Value) (hw : ∀ d ∈ tables_1, d.before a0 Z = true) (h0 : Heap) (n0 : Nat) (a em x : Addr) (Sm : Sta Z h0 "java/util/ImmutableCollections" "EMPTY" "Ljava/lang/Object;" (.ref em)) (F0 : Fld Z h0 a "java/util/ImmutableCollections$List12" "e0" "Ljava/lang/Object;" .null) (F1 : Fld Z h0 a "java/util/ImmutableCollections$List12" "e1" "Ljava/lang/Object;" .null) (Ea : Exa Z h0 a "java/util/ImmutableCollections$List12") (ge : n0 ≤ a) :
    own_Met l Z (⟨"java/util/ImmutableCollections$List12", "<init>", "(Ljava/lang/Object;)V"⟩ : MethodName) jdk_44_method_1_code 2 none [] ({ frames := 4, cells := 0, slots := 0, locals := 48 } : Room) #[(.ref a), (.ref x)] h0 (fun v h L => v = none ∧ Fr n0 L ∧ Keep h0 h [a] ∧ own_L12 Z h a em) := by
  refine own_body pn_java_util_ImmutableCollections_List12 ?_
  intro p e s m below meth c s₁ hx hby hml hZ hown hnm hrt hlk X0 e0
  have N0 := Fr.nil n0
  have ne_10 : Jvm.RoadKit.slotOf Z "java/util/ImmutableCollections$List12" "e1" "Ljava/lang/Object;" ≠ Jvm.RoadKit.slotOf Z "java/util/ImmutableCollections$List12" "e0" "Ljava/lang/Object;" := slot_ne (Or.inr (hw _ (List.mem_of_getElem? (i := 233) rfl))) (Or.inr (hw _ (List.mem_of_getElem? (i := 231) rfl))) (by decide) pf_Ljava_lang_Object_ pf_Ljava_lang_Object_
  rw [ef_rr_2]
  show own_Fin _ _ _ _ _ _ _ s₁ (mkF m 0 #[.val (.ref a), .val (.ref x)] [])
  refine own_step (fun _ k => XS.aloadN X0.here hx rfl (hb hby d32_0) rfl rfl k) ?_
  show own_Fin _ _ _ _ _ _ _ s₁ (mkF m 1 #[.val (.ref a), .val (.ref x)] [(.ref a)])
  refine own_callN X0 hx hZ (b := a) (argsL := []) (rest := []) rfl hown (hw _ (List.mem_of_getElem? (i := 225) rfl)) (hw _ (List.mem_of_getElem? (i := 188) rfl)) (hw _ (List.mem_of_getElem? (i := 192) rfl)) (hw _ (List.mem_of_getElem? (i := 191) rfl)) (by decide) (rm26 l Z a0 hw h0 n0 a) e0 0 (Nat.le_of_eq rfl) (by decide) (by decide) (by decide) (by decide) (by rw [hml]; rfl) pd___V rfl rfl (hb hby d32_1) ?_
  rintro T1 _ _ X1 ⟨rfl, rfl, e1⟩
  rw [List.append_nil] at X1
  show own_Fin _ _ _ _ _ _ _ T1 (mkF m 4 #[.val (.ref a), .val (.ref x)] [])
  refine own_step (fun _ k => XS.aloadN X1.here hx rfl (hb hby d32_4) rfl rfl k) ?_
  show own_Fin _ _ _ _ _ _ _ T1 (mkF m 5 #[.val (.ref a), .val (.ref x)] [(.ref a)])
  refine own_step (fun _ k => XS.aloadN X1.here hx rfl (hb hby d32_5) rfl rfl k) ?_
  show own_Fin _ _ _ _ _ _ _ T1 (mkF m 6 #[.val (.ref a), .val (.ref x)] [(.ref x), (.ref a)])
  refine own_callS X1 hx hZ (argsL := [(.ref x)]) (rest := [(.ref a)]) hown (hw _ (List.mem_of_getElem? (i := 229) rfl)) (hw _ (List.mem_of_getElem? (i := 179) rfl)) (hw _ (List.mem_of_getElem? (i := 180) rfl)) (hw _ (List.mem_of_getElem? (i := 181) rfl)) (by decide) (rm24 l Z a0 hw h0 n0 x) e1 1 (Nat.le_of_eq rfl) (by decide) (by decide) (by decide) (by decide) (by rw [hml]; rfl) pd__Ljava_lang_Object__Ljava_lang_Object_ rfl rfl (hb hby d32_6) ?_
  rintro T2 _ _ X2 ⟨rfl, rfl, e2⟩
  rw [List.append_nil] at X2
  show own_Fin _ _ _ _ _ _ _ T2 (mkF m 9 #[.val (.ref a), .val (.ref x)] [(.ref x), (.ref a)])
  refine own_putF X2 hx hZ (O := "java/util/ImmutableCollections$List12") hown (hw _ (List.mem_of_getElem? (i := 230) rfl)) Via.refl e2 F0 Ea (Or.inr ⟨(hw _ (List.mem_of_getElem? (i := 231) rfl)), rfl, hnm⟩) (hw _ (List.mem_of_getElem? (i := 219) rfl)) pf_Ljava_lang_Object_ rfl rfl N0 ge (hb hby d32_9) ?_
  intro T3 hp3 L3 X3 e3 N3 W3
  replace F1 := F1.other W3 (Or.inr ne_10)
  replace Ea := Ea.wr W3
  have K1 : Keep h0 hp3 [a] := (Keep.refl _ _).wr W3 (Or.inl (List.mem_singleton.mpr rfl))
  replace Sm := Sm.wr W3
  show own_Fin _ _ _ _ _ _ _ T3 (mkF m 12 #[.val (.ref a), .val (.ref x)] [])
  refine own_step (fun _ k => XS.aloadN X3.here hx rfl (hb hby d32_12) rfl rfl k) ?_
  show own_Fin _ _ _ _ _ _ _ T3 (mkF m 13 #[.val (.ref a), .val (.ref x)] [(.ref a)])
  refine own_getSN X3 hx hZ hown (hw _ (List.mem_of_getElem? (i := 240) rfl)) e3 Sm (hb hby d32_13) ?_
  intro T4 X4 e4
  show own_Fin _ _ _ _ _ _ _ T4 (mkF m 16 #[.val (.ref a), .val (.ref x)] [(.ref em), (.ref a)])
  refine own_putF X4 hx hZ (O := "java/util/ImmutableCollections$List12") hown (hw _ (List.mem_of_getElem? (i := 232) rfl)) Via.refl e4 F1 Ea (Or.inr ⟨(hw _ (List.mem_of_getElem? (i := 233) rfl)), rfl, hnm⟩) (hw _ (List.mem_of_getElem? (i := 219) rfl)) pf_Ljava_lang_Object_ rfl rfl N3 ge (hb hby d32_16) ?_
  intro T5 hp5 L5 X5 e5 N5 W5
  show own_Fin _ _ _ _ _ _ _ T5 (mkF m 19 #[.val (.ref a), .val (.ref x)] [])
  exact own_retV X5 hx hrt hlk (hb hby d32_19) (by rw [e5]; exact ⟨rfl, N5, K1.wr W5 (Or.inl (List.mem_singleton.mpr rfl)), Ea.wr W5, F1.same W5⟩) (by decide) (by decide)
set_option maxRecDepth 65536 in
set_option maxHeartbeats 40000000 in
theorem rm30 (l : Launch) (Z : State) (a0 : Array Value) (hw : ∀ d ∈ tables_1, d.before a0 Z = true) (h0 : Heap) (n0 : Nat) (a x y : Addr) (F0 : Fld Z h0 a "java/util/ImmutableCollections$List12" "e0" "Ljava/lang/Object;" .null) (F1 : Fld Z h0 a "java/util/ImmutableCollections$List12" "e1" "Ljava/lang/Object;" .null) (Ea : Exa Z h0 a "java/util/ImmutableCollections$List12") (ge : n0 ≤ a) :
    own_Met l Z (⟨"java/util/ImmutableCollections$List12", "<init>", "(Ljava/lang/Object;Ljava/lang/Object;)V"⟩ : MethodName) jdk_44_method_2_code 3 none [] ({ frames := 4, cells := 0, slots := 0, locals := 48 } : Room) #[(.ref a), (.ref x), (.ref y)] h0 (fun v h L => v = none ∧ Fr n0 L ∧ Keep h0 h [a] ∧ own_L12 Z h a y) := by
  refine own_body pn_java_util_ImmutableCollections_List12 ?_
  intro p e s m below meth c s₁ hx hby hml hZ hown hnm hrt hlk X0 e0
  have N0 := Fr.nil n0
  have ne_10 : Jvm.RoadKit.slotOf Z "java/util/ImmutableCollections$List12" "e1" "Ljava/lang/Object;" ≠ Jvm.RoadKit.slotOf Z "java/util/ImmutableCollections$List12" "e0" "Ljava/lang/Object;" := slot_ne (Or.inr (hw _ (List.mem_of_getElem? (i := 233) rfl))) (Or.inr (hw _ (List.mem_of_getElem? (i := 231) rfl))) (by decide) pf_Ljava_lang_Object_ pf_Ljava_lang_Object_
  rw [ef_rrr_3]
  show own_Fin _ _ _ _ _ _ _ s₁ (mkF m 0 #[.val (.ref a), .val (.ref x), .val (.ref y)] [])
  refine own_step (fun _ k => XS.aloadN X0.here hx rfl (hb hby d30_0) rfl rfl k) ?_
  show own_Fin _ _ _ _ _ _ _ s₁ (mkF m 1 #[.val (.ref a), .val (.ref x), .val (.ref y)] [(.ref a)])
  refine own_callN X0 hx hZ (b := a) (argsL := []) (rest := []) rfl hown (hw _ (List.mem_of_getElem? (i := 225) rfl)) (hw _ (List.mem_of_getElem? (i := 188) rfl)) (hw _ (List.mem_of_getElem? (i := 192) rfl)) (hw _ (List.mem_of_getElem? (i := 191) rfl)) (by decide) (rm26 l Z a0 hw h0 n0 a) e0 0 (Nat.le_of_eq rfl) (by decide) (by decide) (by decide) (by decide) (by rw [hml]; rfl) pd___V rfl rfl (hb hby d30_1) ?_
  rintro T1 _ _ X1 ⟨rfl, rfl, e1⟩
  rw [List.append_nil] at X1
  show own_Fin _ _ _ _ _ _ _ T1 (mkF m 4 #[.val (.ref a), .val (.ref x), .val (.ref y)] [])
  refine own_step (fun _ k => XS.aloadN X1.here hx rfl (hb hby d30_4) rfl rfl k) ?_
  show own_Fin _ _ _ _ _ _ _ T1 (mkF m 5 #[.val (.ref a), .val (.ref x), .val (.ref y)] [(.ref a)])
  refine own_step (fun _ k => XS.aloadN X1.here hx rfl (hb hby d30_5) rfl rfl k) ?_
  show own_Fin _ _ _ _ _ _ _ T1 (mkF m 6 #[.val (.ref a), .val (.ref x), .val (.ref y)] [(.ref x), (.ref a)])
  refine own_callS X1 hx hZ (argsL := [(.ref x)]) (rest := [(.ref a)]) hown (hw _ (List.mem_of_getElem? (i := 229) rfl)) (hw _ (List.mem_of_getElem? (i := 179) rfl)) (hw _ (List.mem_of_getElem? (i := 180) rfl)) (hw _ (List.mem_of_getElem? (i := 181) rfl)) (by decide) (rm24 l Z a0 hw h0 n0 x) e1 1 (Nat.le_of_eq rfl) (by decide) (by decide) (by decide) (by decide) (by rw [hml]; rfl) pd__Ljava_lang_Object__Ljava_lang_Object_ rfl rfl (hb hby d30_6) ?_
  rintro T2 _ _ X2 ⟨rfl, rfl, e2⟩
  rw [List.append_nil] at X2
  show own_Fin _ _ _ _ _ _ _ T2 (mkF m 9 #[.val (.ref a), .val (.ref x), .val (.ref y)] [(.ref x), (.ref a)])
  refine own_putF X2 hx hZ (O := "java/util/ImmutableCollections$List12") hown (hw _ (List.mem_of_getElem? (i := 230) rfl)) Via.refl e2 F0 Ea (Or.inr ⟨(hw _ (List.mem_of_getElem? (i := 231) rfl)), rfl, hnm⟩) (hw _ (List.mem_of_getElem? (i := 219) rfl)) pf_Ljava_lang_Object_ rfl rfl N0 ge (hb hby d30_9) ?_
  intro T3 hp3 L3 X3 e3 N3 W3
  replace F1 := F1.other W3 (Or.inr ne_10)
  replace Ea := Ea.wr W3
  have K1 : Keep h0 hp3 [a] := (Keep.refl _ _).wr W3 (Or.inl (List.mem_singleton.mpr rfl))
  show own_Fin _ _ _ _ _ _ _ T3 (mkF m 12 #[.val (.ref a), .val (.ref x), .val (.ref y)] [])
  refine own_step (fun _ k => XS.aloadN X3.here hx rfl (hb hby d30_12) rfl rfl k) ?_
  show own_Fin _ _ _ _ _ _ _ T3 (mkF m 13 #[.val (.ref a), .val (.ref x), .val (.ref y)] [(.ref a)])
  refine own_step (fun _ k => XS.aloadN X3.here hx rfl (hb hby d30_13) rfl rfl k) ?_
  show own_Fin _ _ _ _ _ _ _ T3 (mkF m 14 #[.val (.ref a), .val (.ref x), .val (.ref y)] [(.ref y), (.ref a)])
  refine own_callS X3 hx hZ (argsL := [(.ref y)]) (rest := [(.ref a)]) hown (hw _ (List.mem_of_getElem? (i := 229) rfl)) (hw _ (List.mem_of_getElem? (i := 179) rfl)) (hw _ (List.mem_of_getElem? (i := 180) rfl)) (hw _ (List.mem_of_getElem? (i := 181) rfl)) (by decide) (rm24 l Z a0 hw hp3 n0 y) e3 1 (Nat.le_of_eq rfl) (by decide) (by decide) (by decide) (by decide) (by rw [hml]; rfl) pd__Ljava_lang_Object__Ljava_lang_Object_ rfl rfl (hb hby d30_14) ?_
  rintro T4 _ _ X4 ⟨rfl, rfl, e4⟩
  rw [List.append_nil] at X4
  show own_Fin _ _ _ _ _ _ _ T4 (mkF m 17 #[.val (.ref a), .val (.ref x), .val (.ref y)] [(.ref y), (.ref a)])
  refine own_putF X4 hx hZ (O := "java/util/ImmutableCollections$List12") hown (hw _ (List.mem_of_getElem? (i := 232) rfl)) Via.refl e4 F1 Ea (Or.inr ⟨(hw _ (List.mem_of_getElem? (i := 233) rfl)), rfl, hnm⟩) (hw _ (List.mem_of_getElem? (i := 219) rfl)) pf_Ljava_lang_Object_ rfl rfl N3 ge (hb hby d30_17) ?_
  intro T5 hp5 L5 X5 e5 N5 W5
  show own_Fin _ _ _ _ _ _ _ T5 (mkF m 20 #[.val (.ref a), .val (.ref x), .val (.ref y)] [])
  exact own_retV X5 hx hrt hlk (hb hby d30_20) (by rw [e5]; exact ⟨rfl, N5, K1.wr W5 (Or.inl (List.mem_singleton.mpr rfl)), Ea.wr W5, F1.same W5⟩) (by decide) (by decide)
set_option maxRecDepth 65536 in
set_option maxHeartbeats 40000000 in
theorem rm25 (l : Launch) (Z : State) (a0 : Array Value) (hw : ∀ d ∈ tables_1, d.before a0 Z = true) (h0 : Heap) (n0 : Nat) (a x : Addr) (Fe : Fld Z h0 a "java/util/ImmutableCollections$ListN" "elements" "[Ljava/lang/Object;" .null) (Fn : Fld Z h0 a "java/util/ImmutableCollections$ListN" "allowNulls" "Z" (.int 0)) (Ea : Exa Z h0 a "java/util/ImmutableCollections$ListN") (ge : n0 ≤ a) :
    own_Met l Z (⟨"java/util/ImmutableCollections$ListN", "<init>", "([Ljava/lang/Object;Z)V"⟩ : MethodName) jdk_45_method_1_code 3 none [] ({ frames := 4, cells := 0, slots := 0, locals := 48 } : Room) #[(.ref a), (.ref x), (.int (0 : Int32))] h0 (fun v h L => v = none ∧ Fr n0 L ∧ Keep h0 h [a] ∧ Exa Z h a "java/util/ImmutableCollections$ListN" ∧ Fld Z h a "java/util/ImmutableCollections$ListN" "elements" "[Ljava/lang/Object;" (.ref x)) := by
  refine own_body pn_java_util_ImmutableCollections_ListN ?_
  intro p e s m below meth c s₁ hx hby hml hZ hown hnm hrt hlk X0 e0
  have N0 := Fr.nil n0
  have ne_en : Jvm.RoadKit.slotOf Z "java/util/ImmutableCollections$ListN" "elements" "[Ljava/lang/Object;" ≠ Jvm.RoadKit.slotOf Z "java/util/ImmutableCollections$ListN" "allowNulls" "Z" := slot_ne (Or.inr (hw _ (List.mem_of_getElem? (i := 102) rfl))) (Or.inr (hw _ (List.mem_of_getElem? (i := 202) rfl))) (by decide) pf__Ljava_lang_Object_ pf_Z
  rw [ef_rri_3]
  show own_Fin _ _ _ _ _ _ _ s₁ (mkF m 0 #[.val (.ref a), .val (.ref x), .val (.int (0 : Int32))] [])
  refine own_step (fun _ k => XS.aloadN X0.here hx rfl (hb hby d25_0) rfl rfl k) ?_
  show own_Fin _ _ _ _ _ _ _ s₁ (mkF m 1 #[.val (.ref a), .val (.ref x), .val (.int (0 : Int32))] [(.ref a)])
  refine own_callN X0 hx hZ (b := a) (argsL := []) (rest := []) rfl hown (hw _ (List.mem_of_getElem? (i := 187) rfl)) (hw _ (List.mem_of_getElem? (i := 188) rfl)) (hw _ (List.mem_of_getElem? (i := 192) rfl)) (hw _ (List.mem_of_getElem? (i := 191) rfl)) (by decide) (rm26 l Z a0 hw h0 n0 a) e0 0 (Nat.le_of_eq rfl) (by decide) (by decide) (by decide) (by decide) (by rw [hml]; rfl) pd___V rfl rfl (hb hby d25_1) ?_
  rintro T1 _ _ X1 ⟨rfl, rfl, e1⟩
  rw [List.append_nil] at X1
  show own_Fin _ _ _ _ _ _ _ T1 (mkF m 4 #[.val (.ref a), .val (.ref x), .val (.int (0 : Int32))] [])
  refine own_step (fun _ k => XS.aloadN X1.here hx rfl (hb hby d25_4) rfl rfl k) ?_
  show own_Fin _ _ _ _ _ _ _ T1 (mkF m 5 #[.val (.ref a), .val (.ref x), .val (.int (0 : Int32))] [(.ref a)])
  refine own_step (fun _ k => XS.aloadN X1.here hx rfl (hb hby d25_5) rfl rfl k) ?_
  show own_Fin _ _ _ _ _ _ _ T1 (mkF m 6 #[.val (.ref a), .val (.ref x), .val (.int (0 : Int32))] [(.ref x), (.ref a)])
  refine own_putF X1 hx hZ (O := "java/util/ImmutableCollections$ListN") hown (hw _ (List.mem_of_getElem? (i := 101) rfl)) Via.refl e1 Fe Ea (Or.inr ⟨(hw _ (List.mem_of_getElem? (i := 102) rfl)), rfl, hnm⟩) (hw _ (List.mem_of_getElem? (i := 182) rfl)) pf__Ljava_lang_Object_ rfl rfl N0 ge (hb hby d25_6) ?_
  intro T2 hp2 L2 X2 e2 N2 W2
  replace Fn := Fn.other W2 (Or.inr ne_en.symm)
  replace Ea := Ea.wr W2
  replace Fe := Fe.same W2
  have K1 : Keep h0 hp2 [a] := (Keep.refl _ _).wr W2 (Or.inl (List.mem_singleton.mpr rfl))
  show own_Fin _ _ _ _ _ _ _ T2 (mkF m 9 #[.val (.ref a), .val (.ref x), .val (.int (0 : Int32))] [])
  refine own_step (fun _ k => XS.aloadN X2.here hx rfl (hb hby d25_9) rfl rfl k) ?_
  show own_Fin _ _ _ _ _ _ _ T2 (mkF m 10 #[.val (.ref a), .val (.ref x), .val (.int (0 : Int32))] [(.ref a)])
  refine own_step (fun _ k => XS.iloadN X2.here hx rfl (hb hby d25_10) rfl k) ?_
  show own_Fin _ _ _ _ _ _ _ T2 (mkF m 11 #[.val (.ref a), .val (.ref x), .val (.int (0 : Int32))] [(.int (0 : Int32)), (.ref a)])
  refine own_putF X2 hx hZ (O := "java/util/ImmutableCollections$ListN") hown (hw _ (List.mem_of_getElem? (i := 201) rfl)) Via.refl e2 Fn Ea (Or.inr ⟨(hw _ (List.mem_of_getElem? (i := 202) rfl)), rfl, hnm⟩) (hw _ (List.mem_of_getElem? (i := 182) rfl)) pf_Z rfl rfl N2 ge (hb hby d25_11) ?_
  intro T3 hp3 L3 X3 e3 N3 W3
  show own_Fin _ _ _ _ _ _ _ T3 (mkF m 14 #[.val (.ref a), .val (.ref x), .val (.int (0 : Int32))] [])
  exact own_retV X3 hx hrt hlk (hb hby d25_14) (by rw [e3]; exact ⟨rfl, N3, K1.wr W3 (Or.inl (List.mem_singleton.mpr rfl)), Ea.wr W3, Fe.other W3 (Or.inr ne_en)⟩) (by decide) (by decide)
theorem d23_0 : decode jdk_56_method_4_code 0 = .ok (.aload_n 0, 1) := by decide +kernel
theorem d23_1 : decode jdk_56_method_4_code 1 = .ok (.arraylength, 1) := by decide +kernel
theorem d23_2 : decode jdk_56_method_4_code 2 = .ok (.anewarray 2, 3) := by decide +kernel
theorem d23_5 : decode jdk_56_method_4_code 5 = .ok (.astore_n 1, 1) := by decide +kernel
theorem d23_6 : decode jdk_56_method_4_code 6 = .ok (.iconst 0, 1) := by decide +kernel
theorem d23_7 : decode jdk_56_method_4_code 7 = .ok (.istore_n 2, 1) := by decide +kernel
theorem d23_8 : decode jdk_56_method_4_code 8 = .ok (.iload_n 2, 1) := by decide +kernel
theorem d23_9 : decode jdk_56_method_4_code 9 = .ok (.aload_n 0, 1) := by decide +kernel
theorem d23_10 : decode jdk_56_method_4_code 10 = .ok (.arraylength, 1) := by decide +kernel
theorem d23_11 : decode jdk_56_method_4_code 11 = .ok (.if_icmp .ge 18, 3) := by decide +kernel
theorem d23_14 : decode jdk_56_method_4_code 14 = .ok (.aload_n 1, 1) := by decide +kernel
theorem d23_15 : decode jdk_56_method_4_code 15 = .ok (.iload_n 2, 1) := by decide +kernel
theorem d23_16 : decode jdk_56_method_4_code 16 = .ok (.aload_n 0, 1) := by decide +kernel
theorem d23_17 : decode jdk_56_method_4_code 17 = .ok (.iload_n 2, 1) := by decide +kernel
theorem d23_18 : decode jdk_56_method_4_code 18 = .ok (.aaload, 1) := by decide +kernel
theorem d23_19 : decode jdk_56_method_4_code 19 = .ok (.invokestatic 37, 3) := by decide +kernel
theorem d23_22 : decode jdk_56_method_4_code 22 = .ok (.aastore, 1) := by decide +kernel
theorem d23_23 : decode jdk_56_method_4_code 23 = .ok (.iinc 2 1, 3) := by decide +kernel
theorem d23_26 : decode jdk_56_method_4_code 26 = .ok (.goto (-18), 3) := by decide +kernel
theorem d23_29 : decode jdk_56_method_4_code 29 = .ok (.new 12, 3) := by decide +kernel
theorem d23_32 : decode jdk_56_method_4_code 32 = .ok (.dup, 1) := by decide +kernel
theorem d23_33 : decode jdk_56_method_4_code 33 = .ok (.aload_n 1, 1) := by decide +kernel
theorem d23_34 : decode jdk_56_method_4_code 34 = .ok (.iconst 0, 1) := by decide +kernel
theorem d23_35 : decode jdk_56_method_4_code 35 = .ok (.invokespecial 43, 3) := by decide +kernel
theorem d23_38 : decode jdk_56_method_4_code 38 = .ok (.areturn, 1) := by decide +kernel
theorem ef_r_3 (m : MethodId) (x0 : Addr) : entryFrame m #[(.ref x0)] 3 = mkF m 0 #[.val (.ref x0), .unset, .unset] [] := by first | (simp [entryFrame, mkF, argsToLocals, Value.category]; done) | rfl
set_option maxRecDepth 65536 in
set_option maxHeartbeats 40000000 in
theorem rm23 (l : Launch) (Z : State) (a0 : Array Value) (hw : ∀ d ∈ tables_1, d.before a0 Z = true) (h0 : Heap) (n0 : Nat) (ar : Addr) (k : ClassId) (x1 x2 x3 : Addr) (Aa : Arv Z h0 ar k (.object "java/lang/Object") 3 [.ref x1, .ref x2, .ref x3] .null) (gh : n0 ≤ h0.size) (Ex1 : Exa Z h0 x1 "java/lang/Long") (Ex2 : Exa Z h0 x2 "java/lang/Long") (Ex3 : Exa Z h0 x3 "java/lang/Long") :
    own_Met l Z (⟨"java/util/ImmutableCollections", "listFromArray", "([Ljava/lang/Object;)Ljava/util/List;"⟩ : MethodName) jdk_56_method_4_code 3 (some (.object "java/util/List")) [] ({ frames := 5, cells := 2, slots := 5, locals := 63 } : Room) #[(.ref ar)] h0 (fun v h L => ∃ r, v = some (.ref r) ∧ Fr n0 L ∧ Ext h0 h ∧ own_LN Z h r 3) := by
  refine own_body pn_java_util_ImmutableCollections ?_
  intro p e s m below meth c s₁ hx hby hml hZ hown hnm hrt hlk X0 e0
  have N0 := Fr.nil n0
  rw [ef_r_3]
  show own_Fin _ _ _ _ _ _ _ s₁ (mkF m 0 #[.val (.ref ar), .unset, .unset] [])
  refine own_step (fun _ k => XS.aloadN X0.here hx rfl (hb hby d23_0) rfl rfl k) ?_
  show own_Fin _ _ _ _ _ _ _ s₁ (mkF m 1 #[.val (.ref ar), .unset, .unset] [(.ref ar)])
  refine own_alenV X0 hx hZ e0 Aa (hb hby d23_1) ?_
  show own_Fin _ _ _ _ _ _ _ s₁ (mkF m 2 #[.val (.ref ar), .unset, .unset] [(.int (3 : Int32))])
  refine own_newRE X0 hx hZ hown (hw _ (List.mem_of_getElem? (i := 177) rfl)) (hw _ (List.mem_of_getElem? (i := 138) rfl)) e0 3 (by decide) (by decide) (by decide) (by decide) (by decide) (ad := "[Ljava/lang/Object;") (by decide +kernel) (hb hby d23_2) ?_
  intro T1 hp1 kn X1 e1 Eh An On Bn
  have hne : ar ≠ h0.size := Nat.ne_of_lt Aa.lt
  replace Aa := Aa.ext Eh
  replace Ex1 := Ex1.ext Eh
  replace Ex2 := Ex2.ext Eh
  replace Ex3 := Ex3.ext Eh
  show own_Fin _ _ _ _ _ _ _ T1 (mkF m 5 #[.val (.ref ar), .unset, .unset] [(.ref h0.size)])
  refine own_step (fun _ k => XS.astoreN X1.here hx rfl (hb hby d23_5) rfl rfl (l' := #[.val (.ref ar), .val (.ref h0.size), .unset]) rfl k) ?_
  show own_Fin _ _ _ _ _ _ _ T1 (mkF m 6 #[.val (.ref ar), .val (.ref h0.size), .unset] [])
  refine own_step (fun _ k => XT.iconstV X1.here hx rfl (0 : Int32) (hb hby d23_6) (by decide) k) ?_
  show own_Fin _ _ _ _ _ _ _ T1 (mkF m 7 #[.val (.ref ar), .val (.ref h0.size), .unset] [(.int (0 : Int32))])
  refine own_step (fun _ k => XS.istoreN X1.here hx rfl (hb hby d23_7) rfl (l' := #[.val (.ref ar), .val (.ref h0.size), .val (.int (0 : Int32))]) rfl k) ?_
  show own_Fin _ _ _ _ _ _ _ T1 (mkF m 8 #[.val (.ref ar), .val (.ref h0.size), .val (.int (0 : Int32))] [])
  refine own_step (fun _ k => XS.iloadN X1.here hx rfl (hb hby d23_8) rfl k) ?_
  show own_Fin _ _ _ _ _ _ _ T1 (mkF m 9 #[.val (.ref ar), .val (.ref h0.size), .val (.int (0 : Int32))] [(.int (0 : Int32))])
  refine own_step (fun _ k => XS.aloadN X1.here hx rfl (hb hby d23_9) rfl rfl k) ?_
  show own_Fin _ _ _ _ _ _ _ T1 (mkF m 10 #[.val (.ref ar), .val (.ref h0.size), .val (.int (0 : Int32))] [(.ref ar), (.int (0 : Int32))])
  refine own_alenV X1 hx hZ e1 Aa (hb hby d23_10) ?_
  show own_Fin _ _ _ _ _ _ _ T1 (mkF m 11 #[.val (.ref ar), .val (.ref h0.size), .val (.int (0 : Int32))] [(.int (3 : Int32)), (.int (0 : Int32))])
  refine own_step (fun _ k => XS.icmpNo X1.here hx rfl (hb hby d23_11) rfl (XT.ii_ge_f (by decide)) k) ?_
  show own_Fin _ _ _ _ _ _ _ T1 (mkF m 14 #[.val (.ref ar), .val (.ref h0.size), .val (.int (0 : Int32))] [])
  refine own_step (fun _ k => XS.aloadN X1.here hx rfl (hb hby d23_14) rfl rfl k) ?_
  show own_Fin _ _ _ _ _ _ _ T1 (mkF m 15 #[.val (.ref ar), .val (.ref h0.size), .val (.int (0 : Int32))] [(.ref h0.size)])
  refine own_step (fun _ k => XS.iloadN X1.here hx rfl (hb hby d23_15) rfl k) ?_
  show own_Fin _ _ _ _ _ _ _ T1 (mkF m 16 #[.val (.ref ar), .val (.ref h0.size), .val (.int (0 : Int32))] [(.int (0 : Int32)), (.ref h0.size)])
  refine own_step (fun _ k => XS.aloadN X1.here hx rfl (hb hby d23_16) rfl rfl k) ?_
  show own_Fin _ _ _ _ _ _ _ T1 (mkF m 17 #[.val (.ref ar), .val (.ref h0.size), .val (.int (0 : Int32))] [(.ref ar), (.int (0 : Int32)), (.ref h0.size)])
  refine own_step (fun _ k => XS.iloadN X1.here hx rfl (hb hby d23_17) rfl k) ?_
  show own_Fin _ _ _ _ _ _ _ T1 (mkF m 18 #[.val (.ref ar), .val (.ref h0.size), .val (.int (0 : Int32))] [(.int (0 : Int32)), (.ref ar), (.int (0 : Int32)), (.ref h0.size)])
  refine own_aldV X1 hx hZ e1 Aa (v := .ref x1) (by decide) (by decide) rfl (hb hby d23_18) ?_
  show own_Fin _ _ _ _ _ _ _ T1 (mkF m 19 #[.val (.ref ar), .val (.ref h0.size), .val (.int (0 : Int32))] [(.ref x1), (.int (0 : Int32)), (.ref h0.size)])
  refine own_callS X1 hx hZ (argsL := [(.ref x1)]) (rest := [(.int (0 : Int32)), (.ref h0.size)]) hown (hw _ (List.mem_of_getElem? (i := 178) rfl)) (hw _ (List.mem_of_getElem? (i := 179) rfl)) (hw _ (List.mem_of_getElem? (i := 180) rfl)) (hw _ (List.mem_of_getElem? (i := 181) rfl)) (by decide) (rm24 l Z a0 hw hp1 n0 x1) e1 2 (Nat.le_of_eq rfl) (by decide) (by decide) (by decide) (by decide) (by rw [hml]; rfl) pd__Ljava_lang_Object__Ljava_lang_Object_ rfl rfl (hb hby d23_19) ?_
  rintro T2 _ _ X2 ⟨rfl, rfl, e2⟩
  rw [List.append_nil] at X2
  show own_Fin _ _ _ _ _ _ _ T2 (mkF m 22 #[.val (.ref ar), .val (.ref h0.size), .val (.int (0 : Int32))] [(.ref x1), (.int (0 : Int32)), (.ref h0.size)])
  refine own_stRV X2 hx hZ e2 An On (Ins.of_exa Ex1 (hw _ (List.mem_of_getElem? (i := 139) rfl))) N0 gh (by decide) rfl (by show (0 : Nat) < (3 : Int32).toNatClampNeg; decide) (hb hby d23_22) ?_
  intro T3 hp3 L3 X3 e3 N3 W3 A3
  replace Eh := own_ext_wr Eh W3 (Nat.le_refl _)
  replace Aa := Aa.other W3 hne
  replace Ex1 := Ex1.wr W3
  replace Ex2 := Ex2.wr W3
  replace Ex3 := Ex3.wr W3
  replace An := A3
  show own_Fin _ _ _ _ _ _ _ T3 (mkF m 23 #[.val (.ref ar), .val (.ref h0.size), .val (.int (0 : Int32))] [])
  refine own_step (fun _ k => XT.iincV X3.here hx rfl (1 : Int32) (hb hby d23_23) (by decide) rfl (l' := #[.val (.ref ar), .val (.ref h0.size), .val (.int ((0 : Int32) + (1 : Int32)))]) rfl k) ?_
  show own_Fin _ _ _ _ _ _ _ T3 (mkF m 26 #[.val (.ref ar), .val (.ref h0.size), .val (.int ((0 : Int32) + (1 : Int32)))] [])
  rw [show ((0 : Int32) + (1 : Int32)) = (1 : Int32) from by decide]
  show own_Fin _ _ _ _ _ _ _ T3 (mkF m 26 #[.val (.ref ar), .val (.ref h0.size), .val (.int (1 : Int32))] [])
  refine own_step (fun _ k => XS.goto X3.here hx rfl (pc0 := 26) (pc' := 8) rfl (hb hby d23_26) (by decide) (by decide) k) ?_
  show own_Fin _ _ _ _ _ _ _ T3 (mkF m 8 #[.val (.ref ar), .val (.ref h0.size), .val (.int (1 : Int32))] [])
  refine own_step (fun _ k => XS.iloadN X3.here hx rfl (hb hby d23_8) rfl k) ?_
  show own_Fin _ _ _ _ _ _ _ T3 (mkF m 9 #[.val (.ref ar), .val (.ref h0.size), .val (.int (1 : Int32))] [(.int (1 : Int32))])
  refine own_step (fun _ k => XS.aloadN X3.here hx rfl (hb hby d23_9) rfl rfl k) ?_
  show own_Fin _ _ _ _ _ _ _ T3 (mkF m 10 #[.val (.ref ar), .val (.ref h0.size), .val (.int (1 : Int32))] [(.ref ar), (.int (1 : Int32))])
  refine own_alenV X3 hx hZ e3 Aa (hb hby d23_10) ?_
  show own_Fin _ _ _ _ _ _ _ T3 (mkF m 11 #[.val (.ref ar), .val (.ref h0.size), .val (.int (1 : Int32))] [(.int (3 : Int32)), (.int (1 : Int32))])
  refine own_step (fun _ k => XS.icmpNo X3.here hx rfl (hb hby d23_11) rfl (XT.ii_ge_f (by decide)) k) ?_
  show own_Fin _ _ _ _ _ _ _ T3 (mkF m 14 #[.val (.ref ar), .val (.ref h0.size), .val (.int (1 : Int32))] [])
  refine own_step (fun _ k => XS.aloadN X3.here hx rfl (hb hby d23_14) rfl rfl k) ?_
  show own_Fin _ _ _ _ _ _ _ T3 (mkF m 15 #[.val (.ref ar), .val (.ref h0.size), .val (.int (1 : Int32))] [(.ref h0.size)])
  refine own_step (fun _ k => XS.iloadN X3.here hx rfl (hb hby d23_15) rfl k) ?_
  show own_Fin _ _ _ _ _ _ _ T3 (mkF m 16 #[.val (.ref ar), .val (.ref h0.size), .val (.int (1 : Int32))] [(.int (1 : Int32)), (.ref h0.size)])
  refine own_step (fun _ k => XS.aloadN X3.here hx rfl (hb hby d23_16) rfl rfl k) ?_
  show own_Fin _ _ _ _ _ _ _ T3 (mkF m 17 #[.val (.ref ar), .val (.ref h0.size), .val (.int (1 : Int32))] [(.ref ar), (.int (1 : Int32)), (.ref h0.size)])
  refine own_step (fun _ k => XS.iloadN X3.here hx rfl (hb hby d23_17) rfl k) ?_
  show own_Fin _ _ _ _ _ _ _ T3 (mkF m 18 #[.val (.ref ar), .val (.ref h0.size), .val (.int (1 : Int32))] [(.int (1 : Int32)), (.ref ar), (.int (1 : Int32)), (.ref h0.size)])
  refine own_aldV X3 hx hZ e3 Aa (v := .ref x2) (by decide) (by decide) rfl (hb hby d23_18) ?_
  show own_Fin _ _ _ _ _ _ _ T3 (mkF m 19 #[.val (.ref ar), .val (.ref h0.size), .val (.int (1 : Int32))] [(.ref x2), (.int (1 : Int32)), (.ref h0.size)])
  refine own_callS X3 hx hZ (argsL := [(.ref x2)]) (rest := [(.int (1 : Int32)), (.ref h0.size)]) hown (hw _ (List.mem_of_getElem? (i := 178) rfl)) (hw _ (List.mem_of_getElem? (i := 179) rfl)) (hw _ (List.mem_of_getElem? (i := 180) rfl)) (hw _ (List.mem_of_getElem? (i := 181) rfl)) (by decide) (rm24 l Z a0 hw hp3 n0 x2) e3 2 (Nat.le_of_eq rfl) (by decide) (by decide) (by decide) (by decide) (by rw [hml]; rfl) pd__Ljava_lang_Object__Ljava_lang_Object_ rfl rfl (hb hby d23_19) ?_
  rintro T4 _ _ X4 ⟨rfl, rfl, e4⟩
  rw [List.append_nil] at X4
  show own_Fin _ _ _ _ _ _ _ T4 (mkF m 22 #[.val (.ref ar), .val (.ref h0.size), .val (.int (1 : Int32))] [(.ref x2), (.int (1 : Int32)), (.ref h0.size)])
  refine own_stRV X4 hx hZ e4 An On (Ins.of_exa Ex2 (hw _ (List.mem_of_getElem? (i := 139) rfl))) N3 gh (by decide) rfl (by show (1 : Nat) < (3 : Int32).toNatClampNeg; decide) (hb hby d23_22) ?_
  intro T5 hp5 L5 X5 e5 N5 W5 A5
  replace Eh := own_ext_wr Eh W5 (Nat.le_refl _)
  replace Aa := Aa.other W5 hne
  replace Ex1 := Ex1.wr W5
  replace Ex2 := Ex2.wr W5
  replace Ex3 := Ex3.wr W5
  replace An := A5
  show own_Fin _ _ _ _ _ _ _ T5 (mkF m 23 #[.val (.ref ar), .val (.ref h0.size), .val (.int (1 : Int32))] [])
  refine own_step (fun _ k => XT.iincV X5.here hx rfl (1 : Int32) (hb hby d23_23) (by decide) rfl (l' := #[.val (.ref ar), .val (.ref h0.size), .val (.int ((1 : Int32) + (1 : Int32)))]) rfl k) ?_
  show own_Fin _ _ _ _ _ _ _ T5 (mkF m 26 #[.val (.ref ar), .val (.ref h0.size), .val (.int ((1 : Int32) + (1 : Int32)))] [])
  rw [show ((1 : Int32) + (1 : Int32)) = (2 : Int32) from by decide]
  show own_Fin _ _ _ _ _ _ _ T5 (mkF m 26 #[.val (.ref ar), .val (.ref h0.size), .val (.int (2 : Int32))] [])
  refine own_step (fun _ k => XS.goto X5.here hx rfl (pc0 := 26) (pc' := 8) rfl (hb hby d23_26) (by decide) (by decide) k) ?_
  show own_Fin _ _ _ _ _ _ _ T5 (mkF m 8 #[.val (.ref ar), .val (.ref h0.size), .val (.int (2 : Int32))] [])
  refine own_step (fun _ k => XS.iloadN X5.here hx rfl (hb hby d23_8) rfl k) ?_
  show own_Fin _ _ _ _ _ _ _ T5 (mkF m 9 #[.val (.ref ar), .val (.ref h0.size), .val (.int (2 : Int32))] [(.int (2 : Int32))])
  refine own_step (fun _ k => XS.aloadN X5.here hx rfl (hb hby d23_9) rfl rfl k) ?_
  show own_Fin _ _ _ _ _ _ _ T5 (mkF m 10 #[.val (.ref ar), .val (.ref h0.size), .val (.int (2 : Int32))] [(.ref ar), (.int (2 : Int32))])
  refine own_alenV X5 hx hZ e5 Aa (hb hby d23_10) ?_
  show own_Fin _ _ _ _ _ _ _ T5 (mkF m 11 #[.val (.ref ar), .val (.ref h0.size), .val (.int (2 : Int32))] [(.int (3 : Int32)), (.int (2 : Int32))])
  refine own_step (fun _ k => XS.icmpNo X5.here hx rfl (hb hby d23_11) rfl (XT.ii_ge_f (by decide)) k) ?_
  show own_Fin _ _ _ _ _ _ _ T5 (mkF m 14 #[.val (.ref ar), .val (.ref h0.size), .val (.int (2 : Int32))] [])
  refine own_step (fun _ k => XS.aloadN X5.here hx rfl (hb hby d23_14) rfl rfl k) ?_
  show own_Fin _ _ _ _ _ _ _ T5 (mkF m 15 #[.val (.ref ar), .val (.ref h0.size), .val (.int (2 : Int32))] [(.ref h0.size)])
  refine own_step (fun _ k => XS.iloadN X5.here hx rfl (hb hby d23_15) rfl k) ?_
  show own_Fin _ _ _ _ _ _ _ T5 (mkF m 16 #[.val (.ref ar), .val (.ref h0.size), .val (.int (2 : Int32))] [(.int (2 : Int32)), (.ref h0.size)])
  refine own_step (fun _ k => XS.aloadN X5.here hx rfl (hb hby d23_16) rfl rfl k) ?_
  show own_Fin _ _ _ _ _ _ _ T5 (mkF m 17 #[.val (.ref ar), .val (.ref h0.size), .val (.int (2 : Int32))] [(.ref ar), (.int (2 : Int32)), (.ref h0.size)])
  refine own_step (fun _ k => XS.iloadN X5.here hx rfl (hb hby d23_17) rfl k) ?_
  show own_Fin _ _ _ _ _ _ _ T5 (mkF m 18 #[.val (.ref ar), .val (.ref h0.size), .val (.int (2 : Int32))] [(.int (2 : Int32)), (.ref ar), (.int (2 : Int32)), (.ref h0.size)])
  refine own_aldV X5 hx hZ e5 Aa (v := .ref x3) (by decide) (by decide) rfl (hb hby d23_18) ?_
  show own_Fin _ _ _ _ _ _ _ T5 (mkF m 19 #[.val (.ref ar), .val (.ref h0.size), .val (.int (2 : Int32))] [(.ref x3), (.int (2 : Int32)), (.ref h0.size)])
  refine own_callS X5 hx hZ (argsL := [(.ref x3)]) (rest := [(.int (2 : Int32)), (.ref h0.size)]) hown (hw _ (List.mem_of_getElem? (i := 178) rfl)) (hw _ (List.mem_of_getElem? (i := 179) rfl)) (hw _ (List.mem_of_getElem? (i := 180) rfl)) (hw _ (List.mem_of_getElem? (i := 181) rfl)) (by decide) (rm24 l Z a0 hw hp5 n0 x3) e5 2 (Nat.le_of_eq rfl) (by decide) (by decide) (by decide) (by decide) (by rw [hml]; rfl) pd__Ljava_lang_Object__Ljava_lang_Object_ rfl rfl (hb hby d23_19) ?_
  rintro T6 _ _ X6 ⟨rfl, rfl, e6⟩
  rw [List.append_nil] at X6
  show own_Fin _ _ _ _ _ _ _ T6 (mkF m 22 #[.val (.ref ar), .val (.ref h0.size), .val (.int (2 : Int32))] [(.ref x3), (.int (2 : Int32)), (.ref h0.size)])
  refine own_stRV X6 hx hZ e6 An On (Ins.of_exa Ex3 (hw _ (List.mem_of_getElem? (i := 139) rfl))) N5 gh (by decide) rfl (by show (2 : Nat) < (3 : Int32).toNatClampNeg; decide) (hb hby d23_22) ?_
  intro T7 hp7 L7 X7 e7 N7 W7 A7
  replace Eh := own_ext_wr Eh W7 (Nat.le_refl _)
  replace Aa := Aa.other W7 hne
  replace Ex1 := Ex1.wr W7
  replace Ex2 := Ex2.wr W7
  replace Ex3 := Ex3.wr W7
  replace An := A7
  show own_Fin _ _ _ _ _ _ _ T7 (mkF m 23 #[.val (.ref ar), .val (.ref h0.size), .val (.int (2 : Int32))] [])
  refine own_step (fun _ k => XT.iincV X7.here hx rfl (1 : Int32) (hb hby d23_23) (by decide) rfl (l' := #[.val (.ref ar), .val (.ref h0.size), .val (.int ((2 : Int32) + (1 : Int32)))]) rfl k) ?_
  show own_Fin _ _ _ _ _ _ _ T7 (mkF m 26 #[.val (.ref ar), .val (.ref h0.size), .val (.int ((2 : Int32) + (1 : Int32)))] [])
  rw [show ((2 : Int32) + (1 : Int32)) = (3 : Int32) from by decide]
  show own_Fin _ _ _ _ _ _ _ T7 (mkF m 26 #[.val (.ref ar), .val (.ref h0.size), .val (.int (3 : Int32))] [])
  refine own_step (fun _ k => XS.goto X7.here hx rfl (pc0 := 26) (pc' := 8) rfl (hb hby d23_26) (by decide) (by decide) k) ?_
  show own_Fin _ _ _ _ _ _ _ T7 (mkF m 8 #[.val (.ref ar), .val (.ref h0.size), .val (.int (3 : Int32))] [])
  refine own_step (fun _ k => XS.iloadN X7.here hx rfl (hb hby d23_8) rfl k) ?_
  show own_Fin _ _ _ _ _ _ _ T7 (mkF m 9 #[.val (.ref ar), .val (.ref h0.size), .val (.int (3 : Int32))] [(.int (3 : Int32))])
  refine own_step (fun _ k => XS.aloadN X7.here hx rfl (hb hby d23_9) rfl rfl k) ?_
  show own_Fin _ _ _ _ _ _ _ T7 (mkF m 10 #[.val (.ref ar), .val (.ref h0.size), .val (.int (3 : Int32))] [(.ref ar), (.int (3 : Int32))])
  refine own_alenV X7 hx hZ e7 Aa (hb hby d23_10) ?_
  show own_Fin _ _ _ _ _ _ _ T7 (mkF m 11 #[.val (.ref ar), .val (.ref h0.size), .val (.int (3 : Int32))] [(.int (3 : Int32)), (.int (3 : Int32))])
  refine own_step (fun _ k => XS.icmpYes X7.here hx rfl (pc0 := 11) (pc' := 29) rfl (hb hby d23_11) rfl (XT.ii_ge_t (by decide)) (by decide) (by decide) k) ?_
  show own_Fin _ _ _ _ _ _ _ T7 (mkF m 29 #[.val (.ref ar), .val (.ref h0.size), .val (.int (3 : Int32))] [])
  have An0 := An
  refine own_newO X7 hx hZ hown (hw _ (List.mem_of_getElem? (i := 51) rfl)) (hw _ (List.mem_of_getElem? (i := 182) rfl)) (hw _ (List.mem_of_getElem? (i := 99) rfl)) e7 (by decide) (by decide) (hb hby d23_29) ?_
  intro T8 hp8 X8 e8 E8 A8 D8
  have Fe8 := D8 (O := "java/util/ImmutableCollections$ListN") (nm := "elements") (d := "[Ljava/lang/Object;") (Or.inr (hw _ (List.mem_of_getElem? (i := 102) rfl))) pf__Ljava_lang_Object_
  have Fn8 := D8 (O := "java/util/ImmutableCollections$ListN") (nm := "allowNulls") (d := "Z") (Or.inr (hw _ (List.mem_of_getElem? (i := 202) rfl))) pf_Z
  replace Eh := own_ext_trans Eh E8
  replace An := An.ext E8
  have hs1 : h0.size < hp7.size := (Arv.lt An0)
  show own_Fin _ _ _ _ _ _ _ T8 (mkF m 32 #[.val (.ref ar), .val (.ref h0.size), .val (.int (3 : Int32))] [(.ref hp7.size)])
  refine own_step (fun _ k => XS.dup X8.here hx rfl (hb hby d23_32) rfl rfl k) ?_
  show own_Fin _ _ _ _ _ _ _ T8 (mkF m 33 #[.val (.ref ar), .val (.ref h0.size), .val (.int (3 : Int32))] [(.ref hp7.size), (.ref hp7.size)])
  refine own_step (fun _ k => XS.aloadN X8.here hx rfl (hb hby d23_33) rfl rfl k) ?_
  show own_Fin _ _ _ _ _ _ _ T8 (mkF m 34 #[.val (.ref ar), .val (.ref h0.size), .val (.int (3 : Int32))] [(.ref h0.size), (.ref hp7.size), (.ref hp7.size)])
  refine own_step (fun _ k => XT.iconstV X8.here hx rfl (0 : Int32) (hb hby d23_34) (by decide) k) ?_
  show own_Fin _ _ _ _ _ _ _ T8 (mkF m 35 #[.val (.ref ar), .val (.ref h0.size), .val (.int (3 : Int32))] [(.int (0 : Int32)), (.ref h0.size), (.ref hp7.size), (.ref hp7.size)])
  refine own_callNN X8 hx hZ (b := hp7.size) (argsL := [(.ref h0.size), (.int (0 : Int32))]) (rest := [(.ref hp7.size)]) rfl hown (hw _ (List.mem_of_getElem? (i := 183) rfl)) (hw _ (List.mem_of_getElem? (i := 184) rfl)) (hw _ (List.mem_of_getElem? (i := 186) rfl)) (hw _ (List.mem_of_getElem? (i := 99) rfl)) (by decide) (rm25 l Z a0 hw hp8 n0 hp7.size h0.size Fe8 Fn8 A8 (Nat.le_trans gh (Nat.le_of_lt hs1))) e8 1 (Nat.le_of_eq rfl) (by decide) (by decide) (by decide) (by decide) (by rw [hml]; rfl) pd___Ljava_lang_Object_Z_V rfl rfl (hb hby d23_35) ?_
  rintro T9 L9 _ X9 ⟨rfl, F9, K9, B9, G9⟩
  have N9 := Fr.app N7 F9
  show own_Fin _ _ _ _ _ _ _ T9 (mkF m 38 #[.val (.ref ar), .val (.ref h0.size), .val (.int (3 : Int32))] [(.ref hp7.size)])
  exact own_retA X9 hx hrt rfl hlk (hb hby d23_38) rfl ⟨_, rfl, N9, own_ext_keep Eh K9 (allS (Nat.le_of_lt hs1) all0), B9, _, _, _, G9, An.keep K9 (ninS (Nat.ne_of_lt hs1) nin0)⟩ (by decide) (by decide)
theorem d22_0 : decode jdk_40_method_47_code 0 = .ok (.aload_n 0, 1) := by decide +kernel
theorem d22_1 : decode jdk_40_method_47_code 1 = .ok (.arraylength, 1) := by decide +kernel
theorem d22_2 : decode jdk_40_method_47_code 2 = .ok (.tableswitch 57 0 2 #[26, 32, 43], 26) := by decide +kernel
theorem d22_28 : decode jdk_40_method_47_code 28 = .ok (.getstatic 90, 3) := by decide +kernel
theorem d22_31 : decode jdk_40_method_47_code 31 = .ok (.astore_n 1, 1) := by decide +kernel
theorem d22_32 : decode jdk_40_method_47_code 32 = .ok (.aload_n 1, 1) := by decide +kernel
theorem d22_33 : decode jdk_40_method_47_code 33 = .ok (.areturn, 1) := by decide +kernel
theorem d22_34 : decode jdk_40_method_47_code 34 = .ok (.new 96, 3) := by decide +kernel
theorem d22_37 : decode jdk_40_method_47_code 37 = .ok (.dup, 1) := by decide +kernel
theorem d22_38 : decode jdk_40_method_47_code 38 = .ok (.aload_n 0, 1) := by decide +kernel
theorem d22_39 : decode jdk_40_method_47_code 39 = .ok (.iconst 0, 1) := by decide +kernel
theorem d22_40 : decode jdk_40_method_47_code 40 = .ok (.aaload, 1) := by decide +kernel
theorem d22_41 : decode jdk_40_method_47_code 41 = .ok (.invokespecial 98, 3) := by decide +kernel
theorem d22_44 : decode jdk_40_method_47_code 44 = .ok (.areturn, 1) := by decide +kernel
theorem d22_45 : decode jdk_40_method_47_code 45 = .ok (.new 96, 3) := by decide +kernel
theorem d22_48 : decode jdk_40_method_47_code 48 = .ok (.dup, 1) := by decide +kernel
theorem d22_49 : decode jdk_40_method_47_code 49 = .ok (.aload_n 0, 1) := by decide +kernel
theorem d22_50 : decode jdk_40_method_47_code 50 = .ok (.iconst 0, 1) := by decide +kernel
theorem d22_51 : decode jdk_40_method_47_code 51 = .ok (.aaload, 1) := by decide +kernel
theorem d22_52 : decode jdk_40_method_47_code 52 = .ok (.aload_n 0, 1) := by decide +kernel
theorem d22_53 : decode jdk_40_method_47_code 53 = .ok (.iconst 1, 1) := by decide +kernel
theorem d22_54 : decode jdk_40_method_47_code 54 = .ok (.aaload, 1) := by decide +kernel
theorem d22_55 : decode jdk_40_method_47_code 55 = .ok (.invokespecial 100, 3) := by decide +kernel
theorem d22_58 : decode jdk_40_method_47_code 58 = .ok (.areturn, 1) := by decide +kernel
theorem d22_59 : decode jdk_40_method_47_code 59 = .ok (.aload_n 0, 1) := by decide +kernel
theorem d22_60 : decode jdk_40_method_47_code 60 = .ok (.invokestatic 109, 3) := by decide +kernel
theorem d22_63 : decode jdk_40_method_47_code 63 = .ok (.areturn, 1) := by decide +kernel
theorem ef_r_2 (m : MethodId) (x0 : Addr) : entryFrame m #[(.ref x0)] 2 = mkF m 0 #[.val (.ref x0), .unset] [] := by first | (simp [entryFrame, mkF, argsToLocals, Value.category]; done) | rfl
set_option maxRecDepth 65536 in
set_option maxHeartbeats 40000000 in
theorem rm22_1 (l : Launch) (Z : State) (a0 : Array Value) (hw : ∀ d ∈ tables_1, d.before a0 Z = true) (h0 : Heap) (n0 : Nat) (ar em : Addr) (k : ClassId) (x1 : Addr) (Aa : Arv Z h0 ar k (.object "java/lang/Object") 1 [.ref x1] .null) (Sm : Sta Z h0 "java/util/ImmutableCollections" "EMPTY" "Ljava/lang/Object;" (.ref em)) (gh : n0 ≤ h0.size) (Ex1 : Exa Z h0 x1 "java/lang/Long") :
    own_Met l Z (⟨"java/util/List", "of", "([Ljava/lang/Object;)Ljava/util/List;"⟩ : MethodName) jdk_40_method_47_code 2 (some (.object "java/util/List")) [] ({ frames := 6, cells := 2, slots := 5, locals := 77 } : Room) #[(.ref ar)] h0 (fun v h L => ∃ r, v = some (.ref r) ∧ Fr n0 L ∧ Ext h0 h ∧ own_L12 Z h r em) := by
  refine own_body pn_java_util_List ?_
  intro p e s m below meth c s₁ hx hby hml hZ hown hnm hrt hlk X0 e0
  have N0 := Fr.nil n0
  rw [ef_r_2]
  show own_Fin _ _ _ _ _ _ _ s₁ (mkF m 0 #[.val (.ref ar), .unset] [])
  refine own_step (fun _ k => XS.aloadN X0.here hx rfl (hb hby d22_0) rfl rfl k) ?_
  show own_Fin _ _ _ _ _ _ _ s₁ (mkF m 1 #[.val (.ref ar), .unset] [(.ref ar)])
  refine own_alenV X0 hx hZ e0 Aa (hb hby d22_1) ?_
  show own_Fin _ _ _ _ _ _ _ s₁ (mkF m 2 #[.val (.ref ar), .unset] [(.int (1 : Int32))])
  refine own_step (fun _ k => XS.tswIn X0.here hx rfl (pc0 := 2) (pc' := 34) rfl (hb hby d22_2) rfl (by decide) (o := 32) rfl (by decide) (by decide) k) ?_
  show own_Fin _ _ _ _ _ _ _ s₁ (mkF m 34 #[.val (.ref ar), .unset] [])
  refine own_newO X0 hx hZ hown (hw _ (List.mem_of_getElem? (i := 218) rfl)) (hw _ (List.mem_of_getElem? (i := 219) rfl)) (hw _ (List.mem_of_getElem? (i := 220) rfl)) e0 (by decide) (by decide) (hb hby d22_34) ?_
  intro T1 hp1 X1 e1 E1 A1 D1
  have F01 := D1 (O := "java/util/ImmutableCollections$List12") (nm := "e0") (d := "Ljava/lang/Object;") (Or.inr (hw _ (List.mem_of_getElem? (i := 231) rfl))) pf_Ljava_lang_Object_
  have F11 := D1 (O := "java/util/ImmutableCollections$List12") (nm := "e1") (d := "Ljava/lang/Object;") (Or.inr (hw _ (List.mem_of_getElem? (i := 233) rfl))) pf_Ljava_lang_Object_
  replace Aa := Aa.ext E1
  replace Sm := Sm.ext E1
  show own_Fin _ _ _ _ _ _ _ T1 (mkF m 37 #[.val (.ref ar), .unset] [(.ref h0.size)])
  refine own_step (fun _ k => XS.dup X1.here hx rfl (hb hby d22_37) rfl rfl k) ?_
  show own_Fin _ _ _ _ _ _ _ T1 (mkF m 38 #[.val (.ref ar), .unset] [(.ref h0.size), (.ref h0.size)])
  refine own_step (fun _ k => XS.aloadN X1.here hx rfl (hb hby d22_38) rfl rfl k) ?_
  show own_Fin _ _ _ _ _ _ _ T1 (mkF m 39 #[.val (.ref ar), .unset] [(.ref ar), (.ref h0.size), (.ref h0.size)])
  refine own_step (fun _ k => XT.iconstV X1.here hx rfl (0 : Int32) (hb hby d22_39) (by decide) k) ?_
  show own_Fin _ _ _ _ _ _ _ T1 (mkF m 40 #[.val (.ref ar), .unset] [(.int (0 : Int32)), (.ref ar), (.ref h0.size), (.ref h0.size)])
  refine own_aldV X1 hx hZ e1 Aa (v := .ref x1) (by decide) (by decide) rfl (hb hby d22_40) ?_
  show own_Fin _ _ _ _ _ _ _ T1 (mkF m 41 #[.val (.ref ar), .unset] [(.ref x1), (.ref h0.size), (.ref h0.size)])
  refine own_callN X1 hx hZ (b := h0.size) (argsL := [(.ref x1)]) (rest := [(.ref h0.size)]) rfl hown (hw _ (List.mem_of_getElem? (i := 241) rfl)) (hw _ (List.mem_of_getElem? (i := 242) rfl)) (hw _ (List.mem_of_getElem? (i := 243) rfl)) (hw _ (List.mem_of_getElem? (i := 220) rfl)) (by decide) (rm32 l Z a0 hw hp1 n0 h0.size em x1 Sm F01 F11 A1 gh) e1 1 (Nat.le_of_eq rfl) (by decide) (by decide) (by decide) (by decide) (by rw [hml]; rfl) pd__Ljava_lang_Object__V rfl rfl (hb hby d22_41) ?_
  rintro T2 L2 _ X2 ⟨rfl, F2, K2, B2⟩
  have N2 := Fr.app N0 F2
  show own_Fin _ _ _ _ _ _ _ T2 (mkF m 44 #[.val (.ref ar), .unset] [(.ref h0.size)])
  exact own_retA X2 hx hrt rfl hlk (hb hby d22_44) rfl ⟨_, rfl, N2, own_ext_keep E1 K2 (allS (Nat.le_refl _) all0), B2⟩ (by decide) (by decide)
set_option maxRecDepth 65536 in
set_option maxHeartbeats 40000000 in
theorem rm22_2 (l : Launch) (Z : State) (a0 : Array Value) (hw : ∀ d ∈ tables_1, d.before a0 Z = true) (h0 : Heap) (n0 : Nat) (ar em : Addr) (k : ClassId) (x1 x2 : Addr) (Aa : Arv Z h0 ar k (.object "java/lang/Object") 2 [.ref x1, .ref x2] .null) (Sm : Sta Z h0 "java/util/ImmutableCollections" "EMPTY" "Ljava/lang/Object;" (.ref em)) (gh : n0 ≤ h0.size) (Ex1 : Exa Z h0 x1 "java/lang/Long") (Ex2 : Exa Z h0 x2 "java/lang/Long") :
    own_Met l Z (⟨"java/util/List", "of", "([Ljava/lang/Object;)Ljava/util/List;"⟩ : MethodName) jdk_40_method_47_code 2 (some (.object "java/util/List")) [] ({ frames := 6, cells := 2, slots := 5, locals := 77 } : Room) #[(.ref ar)] h0 (fun v h L => ∃ r, v = some (.ref r) ∧ Fr n0 L ∧ Ext h0 h ∧ own_L12 Z h r x2) := by
  refine own_body pn_java_util_List ?_
  intro p e s m below meth c s₁ hx hby hml hZ hown hnm hrt hlk X0 e0
  have N0 := Fr.nil n0
  rw [ef_r_2]
  show own_Fin _ _ _ _ _ _ _ s₁ (mkF m 0 #[.val (.ref ar), .unset] [])
  refine own_step (fun _ k => XS.aloadN X0.here hx rfl (hb hby d22_0) rfl rfl k) ?_
  show own_Fin _ _ _ _ _ _ _ s₁ (mkF m 1 #[.val (.ref ar), .unset] [(.ref ar)])
  refine own_alenV X0 hx hZ e0 Aa (hb hby d22_1) ?_
  show own_Fin _ _ _ _ _ _ _ s₁ (mkF m 2 #[.val (.ref ar), .unset] [(.int (2 : Int32))])
  refine own_step (fun _ k => XS.tswIn X0.here hx rfl (pc0 := 2) (pc' := 45) rfl (hb hby d22_2) rfl (by decide) (o := 43) rfl (by decide) (by decide) k) ?_
  show own_Fin _ _ _ _ _ _ _ s₁ (mkF m 45 #[.val (.ref ar), .unset] [])
  refine own_newO X0 hx hZ hown (hw _ (List.mem_of_getElem? (i := 218) rfl)) (hw _ (List.mem_of_getElem? (i := 219) rfl)) (hw _ (List.mem_of_getElem? (i := 220) rfl)) e0 (by decide) (by decide) (hb hby d22_45) ?_
  intro T1 hp1 X1 e1 E1 A1 D1
  have F01 := D1 (O := "java/util/ImmutableCollections$List12") (nm := "e0") (d := "Ljava/lang/Object;") (Or.inr (hw _ (List.mem_of_getElem? (i := 231) rfl))) pf_Ljava_lang_Object_
  have F11 := D1 (O := "java/util/ImmutableCollections$List12") (nm := "e1") (d := "Ljava/lang/Object;") (Or.inr (hw _ (List.mem_of_getElem? (i := 233) rfl))) pf_Ljava_lang_Object_
  replace Aa := Aa.ext E1
  replace Sm := Sm.ext E1
  show own_Fin _ _ _ _ _ _ _ T1 (mkF m 48 #[.val (.ref ar), .unset] [(.ref h0.size)])
  refine own_step (fun _ k => XS.dup X1.here hx rfl (hb hby d22_48) rfl rfl k) ?_
  show own_Fin _ _ _ _ _ _ _ T1 (mkF m 49 #[.val (.ref ar), .unset] [(.ref h0.size), (.ref h0.size)])
  refine own_step (fun _ k => XS.aloadN X1.here hx rfl (hb hby d22_49) rfl rfl k) ?_
  show own_Fin _ _ _ _ _ _ _ T1 (mkF m 50 #[.val (.ref ar), .unset] [(.ref ar), (.ref h0.size), (.ref h0.size)])
  refine own_step (fun _ k => XT.iconstV X1.here hx rfl (0 : Int32) (hb hby d22_50) (by decide) k) ?_
  show own_Fin _ _ _ _ _ _ _ T1 (mkF m 51 #[.val (.ref ar), .unset] [(.int (0 : Int32)), (.ref ar), (.ref h0.size), (.ref h0.size)])
  refine own_aldV X1 hx hZ e1 Aa (v := .ref x1) (by decide) (by decide) rfl (hb hby d22_51) ?_
  show own_Fin _ _ _ _ _ _ _ T1 (mkF m 52 #[.val (.ref ar), .unset] [(.ref x1), (.ref h0.size), (.ref h0.size)])
  refine own_step (fun _ k => XS.aloadN X1.here hx rfl (hb hby d22_52) rfl rfl k) ?_
  show own_Fin _ _ _ _ _ _ _ T1 (mkF m 53 #[.val (.ref ar), .unset] [(.ref ar), (.ref x1), (.ref h0.size), (.ref h0.size)])
  refine own_step (fun _ k => XT.iconstV X1.here hx rfl (1 : Int32) (hb hby d22_53) (by decide) k) ?_
  show own_Fin _ _ _ _ _ _ _ T1 (mkF m 54 #[.val (.ref ar), .unset] [(.int (1 : Int32)), (.ref ar), (.ref x1), (.ref h0.size), (.ref h0.size)])
  refine own_aldV X1 hx hZ e1 Aa (v := .ref x2) (by decide) (by decide) rfl (hb hby d22_54) ?_
  show own_Fin _ _ _ _ _ _ _ T1 (mkF m 55 #[.val (.ref ar), .unset] [(.ref x2), (.ref x1), (.ref h0.size), (.ref h0.size)])
  refine own_callN X1 hx hZ (b := h0.size) (argsL := [(.ref x1), (.ref x2)]) (rest := [(.ref h0.size)]) rfl hown (hw _ (List.mem_of_getElem? (i := 221) rfl)) (hw _ (List.mem_of_getElem? (i := 222) rfl)) (hw _ (List.mem_of_getElem? (i := 224) rfl)) (hw _ (List.mem_of_getElem? (i := 220) rfl)) (by decide) (rm30 l Z a0 hw hp1 n0 h0.size x1 x2 F01 F11 A1 gh) e1 1 (Nat.le_of_eq rfl) (by decide) (by decide) (by decide) (by decide) (by rw [hml]; rfl) pd__Ljava_lang_Object_Ljava_lang_Object__V rfl rfl (hb hby d22_55) ?_
  rintro T2 L2 _ X2 ⟨rfl, F2, K2, B2⟩
  have N2 := Fr.app N0 F2
  show own_Fin _ _ _ _ _ _ _ T2 (mkF m 58 #[.val (.ref ar), .unset] [(.ref h0.size)])
  exact own_retA X2 hx hrt rfl hlk (hb hby d22_58) rfl ⟨_, rfl, N2, own_ext_keep E1 K2 (allS (Nat.le_refl _) all0), B2⟩ (by decide) (by decide)
set_option maxRecDepth 65536 in
set_option maxHeartbeats 40000000 in
theorem rm22_3 (l : Launch) (Z : State) (a0 : Array Value) (hw : ∀ d ∈ tables_1, d.before a0 Z = true) (h0 : Heap) (n0 : Nat) (ar em : Addr) (k : ClassId) (x1 x2 x3 : Addr) (Aa : Arv Z h0 ar k (.object "java/lang/Object") 3 [.ref x1, .ref x2, .ref x3] .null) (Sm : Sta Z h0 "java/util/ImmutableCollections" "EMPTY" "Ljava/lang/Object;" (.ref em)) (gh : n0 ≤ h0.size) (Ex1 : Exa Z h0 x1 "java/lang/Long") (Ex2 : Exa Z h0 x2 "java/lang/Long") (Ex3 : Exa Z h0 x3 "java/lang/Long") :
    own_Met l Z (⟨"java/util/List", "of", "([Ljava/lang/Object;)Ljava/util/List;"⟩ : MethodName) jdk_40_method_47_code 2 (some (.object "java/util/List")) [] ({ frames := 6, cells := 2, slots := 5, locals := 77 } : Room) #[(.ref ar)] h0 (fun v h L => ∃ r, v = some (.ref r) ∧ Fr n0 L ∧ Ext h0 h ∧ own_LN Z h r 3) := by
  refine own_body pn_java_util_List ?_
  intro p e s m below meth c s₁ hx hby hml hZ hown hnm hrt hlk X0 e0
  have N0 := Fr.nil n0
  rw [ef_r_2]
  show own_Fin _ _ _ _ _ _ _ s₁ (mkF m 0 #[.val (.ref ar), .unset] [])
  refine own_step (fun _ k => XS.aloadN X0.here hx rfl (hb hby d22_0) rfl rfl k) ?_
  show own_Fin _ _ _ _ _ _ _ s₁ (mkF m 1 #[.val (.ref ar), .unset] [(.ref ar)])
  refine own_alenV X0 hx hZ e0 Aa (hb hby d22_1) ?_
  show own_Fin _ _ _ _ _ _ _ s₁ (mkF m 2 #[.val (.ref ar), .unset] [(.int (3 : Int32))])
  refine own_step (fun _ k => XS.tswOut X0.here hx rfl (pc0 := 2) (pc' := 59) rfl (hb hby d22_2) rfl (by decide) (by decide) (by decide) k) ?_
  show own_Fin _ _ _ _ _ _ _ s₁ (mkF m 59 #[.val (.ref ar), .unset] [])
  refine own_step (fun _ k => XS.aloadN X0.here hx rfl (hb hby d22_59) rfl rfl k) ?_
  show own_Fin _ _ _ _ _ _ _ s₁ (mkF m 60 #[.val (.ref ar), .unset] [(.ref ar)])
  refine own_callS X0 hx hZ (argsL := [(.ref ar)]) (rest := []) hown (hw _ (List.mem_of_getElem? (i := 174) rfl)) (hw _ (List.mem_of_getElem? (i := 175) rfl)) (hw _ (List.mem_of_getElem? (i := 44) rfl)) (hw _ (List.mem_of_getElem? (i := 176) rfl)) (by decide) (rm23 l Z a0 hw h0 n0 ar k x1 x2 x3 Aa gh Ex1 Ex2 Ex3) e0 0 (Nat.le_of_eq rfl) (by decide) (by decide) (by decide) (by decide) (by rw [hml]; rfl) pd___Ljava_lang_Object__Ljava_util_List_ rfl rfl (hb hby d22_60) ?_
  rintro T1 L1 _ X1 ⟨r1, rfl, F1, E1, B1⟩
  have N1 := Fr.app N0 F1
  show own_Fin _ _ _ _ _ _ _ T1 (mkF m 63 #[.val (.ref ar), .unset] [(.ref r1)])
  exact own_retA X1 hx hrt rfl hlk (hb hby d22_63) rfl ⟨_, rfl, N1, E1, B1⟩ (by decide) (by decide)
theorem d7_0 : decode jdk_56_method_3_code 0 = .ok (.aload_n 0, 1) := by decide +kernel
theorem d7_1 : decode jdk_56_method_3_code 1 = .ok (.instanceof 10, 3) := by decide +kernel
theorem d7_4 : decode jdk_56_method_3_code 4 = .ok (.ifCond .ne 22, 3) := by decide +kernel
theorem d7_7 : decode jdk_56_method_3_code 7 = .ok (.aload_n 0, 1) := by decide +kernel
theorem d7_8 : decode jdk_56_method_3_code 8 = .ok (.instanceof 12, 3) := by decide +kernel
theorem d7_11 : decode jdk_56_method_3_code 11 = .ok (.ifCond .eq 20, 3) := by decide +kernel
theorem d7_14 : decode jdk_56_method_3_code 14 = .ok (.aload_n 0, 1) := by decide +kernel
theorem d7_15 : decode jdk_56_method_3_code 15 = .ok (.checkcast 12, 3) := by decide +kernel
theorem d7_18 : decode jdk_56_method_3_code 18 = .ok (.astore_n 1, 1) := by decide +kernel
theorem d7_19 : decode jdk_56_method_3_code 19 = .ok (.aload_n 1, 1) := by decide +kernel
theorem d7_20 : decode jdk_56_method_3_code 20 = .ok (.getfield 14, 3) := by decide +kernel
theorem d7_23 : decode jdk_56_method_3_code 23 = .ok (.ifCond .ne 8, 3) := by decide +kernel
theorem d7_26 : decode jdk_56_method_3_code 26 = .ok (.aload_n 0, 1) := by decide +kernel
theorem d7_27 : decode jdk_56_method_3_code 27 = .ok (.checkcast 18, 3) := by decide +kernel
theorem d7_30 : decode jdk_56_method_3_code 30 = .ok (.areturn, 1) := by decide +kernel
theorem d7_31 : decode jdk_56_method_3_code 31 = .ok (.aload_n 0, 1) := by decide +kernel
theorem d7_32 : decode jdk_56_method_3_code 32 = .ok (.invokeinterface 20 1, 5) := by decide +kernel
theorem d7_37 : decode jdk_56_method_3_code 37 = .ok (.ifCond .eq 7, 3) := by decide +kernel
theorem d7_40 : decode jdk_56_method_3_code 40 = .ok (.invokestatic 26, 3) := by decide +kernel
theorem d7_43 : decode jdk_56_method_3_code 43 = .ok (.areturn, 1) := by decide +kernel
theorem d7_44 : decode jdk_56_method_3_code 44 = .ok (.aload_n 0, 1) := by decide +kernel
theorem d7_45 : decode jdk_56_method_3_code 45 = .ok (.invokeinterface 30 1, 5) := by decide +kernel
theorem d7_50 : decode jdk_56_method_3_code 50 = .ok (.invokestatic 34, 3) := by decide +kernel
theorem d7_53 : decode jdk_56_method_3_code 53 = .ok (.areturn, 1) := by decide +kernel
theorem d6_0 : decode jdk_40_method_48_code 0 = .ok (.aload_n 0, 1) := by decide +kernel
theorem d6_1 : decode jdk_40_method_48_code 1 = .ok (.invokestatic 112, 3) := by decide +kernel
theorem d6_4 : decode jdk_40_method_48_code 4 = .ok (.areturn, 1) := by decide +kernel
set_option maxRecDepth 65536 in
set_option maxHeartbeats 40000000 in
theorem rm7_0 (l : Launch) (Z : State) (a0 : Array Value) (hw : ∀ d ∈ tables_1, d.before a0 Z = true) (h0 : Heap) (n0 : Nat) (a el df : Addr) (La : own_AL Z h0 a 0 df) (Sl : Sta Z h0 "java/util/ImmutableCollections" "EMPTY_LIST" "Ljava/util/ImmutableCollections$ListN;" (.ref el)) :
    own_Met l Z (⟨"java/util/ImmutableCollections", "listCopy", "(Ljava/util/Collection;)Ljava/util/List;"⟩ : MethodName) jdk_56_method_3_code 2 (some (.object "java/util/List")) [] ({ frames := 1, cells := 0, slots := 0, locals := 12 } : Room) #[(.ref a)] h0 (fun v h L => v = some (.ref el) ∧ L = [] ∧ h = h0) := by
  refine own_body pn_java_util_ImmutableCollections ?_
  intro p e s m below meth c s₁ hx hby hml hZ hown hnm hrt hlk X0 e0
  have N0 := Fr.nil n0
  rw [ef_r_2]
  show own_Fin _ _ _ _ _ _ _ s₁ (mkF m 0 #[.val (.ref a), .unset] [])
  refine own_step (fun _ k => XS.aloadN X0.here hx rfl (hb hby d7_0) rfl rfl k) ?_
  show own_Fin _ _ _ _ _ _ _ s₁ (mkF m 1 #[.val (.ref a), .unset] [(.ref a)])
  refine own_inst X0 hx hZ hown (hw _ (List.mem_of_getElem? (i := 46) rfl)) e0 La.1 (own_notOf (hw _ (List.mem_of_getElem? (i := 47) rfl)) (hw _ (List.mem_of_getElem? (i := 48) rfl)) (hw _ (List.mem_of_getElem? (i := 49) rfl)) (hw _ (List.mem_of_getElem? (i := 50) rfl)) (hw _ (List.mem_of_getElem? (i := 219) rfl)) (by decide) (by decide) (by decide) (by decide)) (hb hby d7_1) ?_
  intro T1 X1 e1
  show own_Fin _ _ _ _ _ _ _ T1 (mkF m 4 #[.val (.ref a), .unset] [(.int (0 : Int32))])
  refine own_step (fun _ k => XS.ifNo X1.here hx rfl (hb hby d7_4) rfl (XT.i0_ne_f (by decide)) k) ?_
  show own_Fin _ _ _ _ _ _ _ T1 (mkF m 7 #[.val (.ref a), .unset] [])
  refine own_step (fun _ k => XS.aloadN X1.here hx rfl (hb hby d7_7) rfl rfl k) ?_
  show own_Fin _ _ _ _ _ _ _ T1 (mkF m 8 #[.val (.ref a), .unset] [(.ref a)])
  refine own_inst X1 hx hZ hown (hw _ (List.mem_of_getElem? (i := 51) rfl)) e1 La.1 (own_notOf (hw _ (List.mem_of_getElem? (i := 47) rfl)) (hw _ (List.mem_of_getElem? (i := 48) rfl)) (hw _ (List.mem_of_getElem? (i := 49) rfl)) (hw _ (List.mem_of_getElem? (i := 50) rfl)) (hw _ (List.mem_of_getElem? (i := 182) rfl)) (by decide) (by decide) (by decide) (by decide)) (hb hby d7_8) ?_
  intro T2 X2 e2
  show own_Fin _ _ _ _ _ _ _ T2 (mkF m 11 #[.val (.ref a), .unset] [(.int (0 : Int32))])
  refine own_step (fun _ k => XS.ifYes X2.here hx rfl (pc0 := 11) (pc' := 31) rfl (hb hby d7_11) rfl (XT.i0_eq_t (by decide)) (by decide) (by decide) k) ?_
  show own_Fin _ _ _ _ _ _ _ T2 (mkF m 31 #[.val (.ref a), .unset] [])
  refine own_step (fun _ k => XS.aloadN X2.here hx rfl (hb hby d7_31) rfl rfl k) ?_
  show own_Fin _ _ _ _ _ _ _ T2 (mkF m 32 #[.val (.ref a), .unset] [(.ref a)])
  refine own_callI X2 hx hZ (b := a) (xi := (⟨"java/util/Collection", "isEmpty", "()Z"⟩ : MethodName)) (argsL := []) (rest := []) hown (hw _ (List.mem_of_getElem? (i := 52) rfl)) (hw _ (List.mem_of_getElem? (i := 53) rfl)) (hw _ (List.mem_of_getElem? (i := 54) rfl)) (hw _ (List.mem_of_getElem? (i := 55) rfl)) (hw _ (List.mem_of_getElem? (i := 56) rfl)) (hw _ (List.mem_of_getElem? (i := 57) rfl)) (hw _ (List.mem_of_getElem? (i := 58) rfl)) (hw _ (List.mem_of_getElem? (i := 59) rfl)) (hw _ (List.mem_of_getElem? (i := 60) rfl)) (hw _ (List.mem_of_getElem? (i := 2) rfl)) rfl (by decide) La.1 (rm8_0 l Z a0 hw h0 n0 a La.2.2.1) e2 0 (Nat.le_of_eq rfl) (by decide) (by decide) (by decide) (by decide) (by rw [hml]; rfl) pd___Z rfl rfl (hb hby d7_32) ?_
  rintro T3 _ _ X3 ⟨rfl, rfl, e3⟩
  rw [List.append_nil] at X3
  show own_Fin _ _ _ _ _ _ _ T3 (mkF m 37 #[.val (.ref a), .unset] [(.int (1 : Int32))])
  refine own_step (fun _ k => XS.ifNo X3.here hx rfl (hb hby d7_37) rfl (XT.i0_eq_f (by decide)) k) ?_
  show own_Fin _ _ _ _ _ _ _ T3 (mkF m 40 #[.val (.ref a), .unset] [])
  refine own_callS X3 hx hZ (argsL := []) (rest := []) hown (hw _ (List.mem_of_getElem? (i := 63) rfl)) (hw _ (List.mem_of_getElem? (i := 64) rfl)) (hw _ (List.mem_of_getElem? (i := 40) rfl)) (hw _ (List.mem_of_getElem? (i := 65) rfl)) (by decide) (rm9 l Z a0 hw h0 n0 el Sl) e3 0 (Nat.le_of_eq rfl) (by decide) (by decide) (by decide) (by decide) (by rw [hml]; rfl) pd___Ljava_util_List_ rfl rfl (hb hby d7_40) ?_
  rintro T4 _ _ X4 ⟨rfl, rfl, e4⟩
  rw [List.append_nil] at X4
  show own_Fin _ _ _ _ _ _ _ T4 (mkF m 43 #[.val (.ref a), .unset] [(.ref el)])
  exact own_retA X4 hx hrt rfl hlk (hb hby d7_43) rfl (by rw [e4]; exact ⟨rfl, rfl, rfl⟩) (by decide) (by decide)
set_option maxRecDepth 65536 in
set_option maxHeartbeats 40000000 in
theorem rm6_0 (l : Launch) (Z : State) (a0 : Array Value) (hw : ∀ d ∈ tables_1, d.before a0 Z = true) (h0 : Heap) (n0 : Nat) (a el df : Addr) (La : own_AL Z h0 a 0 df) (Sl : Sta Z h0 "java/util/ImmutableCollections" "EMPTY_LIST" "Ljava/util/ImmutableCollections$ListN;" (.ref el)) :
    own_Met l Z (⟨"java/util/List", "copyOf", "(Ljava/util/Collection;)Ljava/util/List;"⟩ : MethodName) jdk_40_method_48_code 1 (some (.object "java/util/List")) [] ({ frames := 2, cells := 0, slots := 0, locals := 25 } : Room) #[(.ref a)] h0 (fun v h L => v = some (.ref el) ∧ L = [] ∧ h = h0) := by
  refine own_body pn_java_util_List ?_
  intro p e s m below meth c s₁ hx hby hml hZ hown hnm hrt hlk X0 e0
  have N0 := Fr.nil n0
  rw [ef_r_1]
  show own_Fin _ _ _ _ _ _ _ s₁ (mkF m 0 #[.val (.ref a)] [])
  refine own_step (fun _ k => XS.aloadN X0.here hx rfl (hb hby d6_0) rfl rfl k) ?_
  show own_Fin _ _ _ _ _ _ _ s₁ (mkF m 1 #[.val (.ref a)] [(.ref a)])
  refine own_callS X0 hx hZ (argsL := [(.ref a)]) (rest := []) hown (hw _ (List.mem_of_getElem? (i := 42) rfl)) (hw _ (List.mem_of_getElem? (i := 43) rfl)) (hw _ (List.mem_of_getElem? (i := 44) rfl)) (hw _ (List.mem_of_getElem? (i := 45) rfl)) (by decide) (rm7_0 l Z a0 hw h0 n0 a el df La Sl) e0 0 (Nat.le_of_eq rfl) (by decide) (by decide) (by decide) (by decide) (by rw [hml]; rfl) pd__Ljava_util_Collection__Ljava_util_List_ rfl rfl (hb hby d6_1) ?_
  rintro T1 _ _ X1 ⟨rfl, rfl, e1⟩
  rw [List.append_nil] at X1
  show own_Fin _ _ _ _ _ _ _ T1 (mkF m 4 #[.val (.ref a)] [(.ref el)])
  exact own_retA X1 hx hrt rfl hlk (hb hby d6_4) rfl (by rw [e1]; exact ⟨rfl, rfl, rfl⟩) (by decide) (by decide)
set_option maxRecDepth 65536 in
set_option maxHeartbeats 40000000 in
theorem rm7_1 (l : Launch) (Z : State) (a0 : Array Value) (hw : ∀ d ∈ tables_1, d.before a0 Z = true) (h0 : Heap) (n0 : Nat) (a ar em mr : Addr) (k : ClassId) (x1 : Addr) (La : own_AL Z h0 a 1 ar) (Aa : Arv Z h0 ar k (.object "java/lang/Object") 10 [.ref x1] .null) (Ba : Exa Z h0 ar "[Ljava/lang/Object;") (Mr : own_Mir Z "[Ljava/lang/Object;" mr) (Sm : Sta Z h0 "java/util/ImmutableCollections" "EMPTY" "Ljava/lang/Object;" (.ref em)) (gh : n0 ≤ h0.size) (Ex1 : Exa Z h0 x1 "java/lang/Long") :
    own_Met l Z (⟨"java/util/ImmutableCollections", "listCopy", "(Ljava/util/Collection;)Ljava/util/List;"⟩ : MethodName) jdk_56_method_3_code 2 (some (.object "java/util/List")) [] ({ frames := 7, cells := 3, slots := 8, locals := 90 } : Room) #[(.ref a)] h0 (fun v h L => ∃ r, v = some (.ref r) ∧ Fr n0 L ∧ Ext h0 h ∧ own_L12 Z h r em) := by
  refine own_body pn_java_util_ImmutableCollections ?_
  intro p e s m below meth c s₁ hx hby hml hZ hown hnm hrt hlk X0 e0
  have N0 := Fr.nil n0
  rw [ef_r_2]
  show own_Fin _ _ _ _ _ _ _ s₁ (mkF m 0 #[.val (.ref a), .unset] [])
  refine own_step (fun _ k => XS.aloadN X0.here hx rfl (hb hby d7_0) rfl rfl k) ?_
  show own_Fin _ _ _ _ _ _ _ s₁ (mkF m 1 #[.val (.ref a), .unset] [(.ref a)])
  refine own_inst X0 hx hZ hown (hw _ (List.mem_of_getElem? (i := 46) rfl)) e0 La.1 (own_notOf (hw _ (List.mem_of_getElem? (i := 47) rfl)) (hw _ (List.mem_of_getElem? (i := 48) rfl)) (hw _ (List.mem_of_getElem? (i := 49) rfl)) (hw _ (List.mem_of_getElem? (i := 50) rfl)) (hw _ (List.mem_of_getElem? (i := 219) rfl)) (by decide) (by decide) (by decide) (by decide)) (hb hby d7_1) ?_
  intro T1 X1 e1
  show own_Fin _ _ _ _ _ _ _ T1 (mkF m 4 #[.val (.ref a), .unset] [(.int (0 : Int32))])
  refine own_step (fun _ k => XS.ifNo X1.here hx rfl (hb hby d7_4) rfl (XT.i0_ne_f (by decide)) k) ?_
  show own_Fin _ _ _ _ _ _ _ T1 (mkF m 7 #[.val (.ref a), .unset] [])
  refine own_step (fun _ k => XS.aloadN X1.here hx rfl (hb hby d7_7) rfl rfl k) ?_
  show own_Fin _ _ _ _ _ _ _ T1 (mkF m 8 #[.val (.ref a), .unset] [(.ref a)])
  refine own_inst X1 hx hZ hown (hw _ (List.mem_of_getElem? (i := 51) rfl)) e1 La.1 (own_notOf (hw _ (List.mem_of_getElem? (i := 47) rfl)) (hw _ (List.mem_of_getElem? (i := 48) rfl)) (hw _ (List.mem_of_getElem? (i := 49) rfl)) (hw _ (List.mem_of_getElem? (i := 50) rfl)) (hw _ (List.mem_of_getElem? (i := 182) rfl)) (by decide) (by decide) (by decide) (by decide)) (hb hby d7_8) ?_
  intro T2 X2 e2
  show own_Fin _ _ _ _ _ _ _ T2 (mkF m 11 #[.val (.ref a), .unset] [(.int (0 : Int32))])
  refine own_step (fun _ k => XS.ifYes X2.here hx rfl (pc0 := 11) (pc' := 31) rfl (hb hby d7_11) rfl (XT.i0_eq_t (by decide)) (by decide) (by decide) k) ?_
  show own_Fin _ _ _ _ _ _ _ T2 (mkF m 31 #[.val (.ref a), .unset] [])
  refine own_step (fun _ k => XS.aloadN X2.here hx rfl (hb hby d7_31) rfl rfl k) ?_
  show own_Fin _ _ _ _ _ _ _ T2 (mkF m 32 #[.val (.ref a), .unset] [(.ref a)])
  refine own_callI X2 hx hZ (b := a) (xi := (⟨"java/util/Collection", "isEmpty", "()Z"⟩ : MethodName)) (argsL := []) (rest := []) hown (hw _ (List.mem_of_getElem? (i := 52) rfl)) (hw _ (List.mem_of_getElem? (i := 53) rfl)) (hw _ (List.mem_of_getElem? (i := 54) rfl)) (hw _ (List.mem_of_getElem? (i := 55) rfl)) (hw _ (List.mem_of_getElem? (i := 56) rfl)) (hw _ (List.mem_of_getElem? (i := 57) rfl)) (hw _ (List.mem_of_getElem? (i := 58) rfl)) (hw _ (List.mem_of_getElem? (i := 59) rfl)) (hw _ (List.mem_of_getElem? (i := 60) rfl)) (hw _ (List.mem_of_getElem? (i := 2) rfl)) rfl (by decide) La.1 (rm8_1 l Z a0 hw h0 n0 a La.2.2.1) e2 0 (Nat.le_of_eq rfl) (by decide) (by decide) (by decide) (by decide) (by rw [hml]; rfl) pd___Z rfl rfl (hb hby d7_32) ?_
  rintro T3 _ _ X3 ⟨rfl, rfl, e3⟩
  rw [List.append_nil] at X3
  show own_Fin _ _ _ _ _ _ _ T3 (mkF m 37 #[.val (.ref a), .unset] [(.int (0 : Int32))])
  refine own_step (fun _ k => XS.ifYes X3.here hx rfl (pc0 := 37) (pc' := 44) rfl (hb hby d7_37) rfl (XT.i0_eq_t (by decide)) (by decide) (by decide) k) ?_
  show own_Fin _ _ _ _ _ _ _ T3 (mkF m 44 #[.val (.ref a), .unset] [])
  refine own_step (fun _ k => XS.aloadN X3.here hx rfl (hb hby d7_44) rfl rfl k) ?_
  show own_Fin _ _ _ _ _ _ _ T3 (mkF m 45 #[.val (.ref a), .unset] [(.ref a)])
  refine own_callI X3 hx hZ (b := a) (xi := (⟨"java/util/Collection", "toArray", "()[Ljava/lang/Object;"⟩ : MethodName)) (argsL := []) (rest := []) hown (hw _ (List.mem_of_getElem? (i := 141) rfl)) (hw _ (List.mem_of_getElem? (i := 142) rfl)) (hw _ (List.mem_of_getElem? (i := 143) rfl)) (hw _ (List.mem_of_getElem? (i := 144) rfl)) (hw _ (List.mem_of_getElem? (i := 145) rfl)) (hw _ (List.mem_of_getElem? (i := 146) rfl)) (hw _ (List.mem_of_getElem? (i := 147) rfl)) (hw _ (List.mem_of_getElem? (i := 59) rfl)) (hw _ (List.mem_of_getElem? (i := 148) rfl)) (hw _ (List.mem_of_getElem? (i := 2) rfl)) rfl (by decide) La.1 (rm18_1 l Z a0 hw h0 n0 a ar mr k x1 La Aa Ba Mr gh Ex1) e3 0 (Nat.le_of_eq rfl) (by decide) (by decide) (by decide) (by decide) (by rw [hml]; rfl) pd____Ljava_lang_Object_ rfl rfl (hb hby d7_45) ?_
  rintro T4 L4 _ X4 ⟨k4, rfl, F4, E4, A4⟩
  have N4 := Fr.app N0 F4
  replace Sm := Sm.ext E4
  replace Ex1 := Ex1.ext E4
  have gh2 : n0 ≤ T4.heap.size := Nat.le_trans gh E4.1
  show own_Fin _ _ _ _ _ _ _ T4 (mkF m 50 #[.val (.ref a), .unset] [(.ref h0.size)])
  refine own_callS X4 hx hZ (argsL := [(.ref h0.size)]) (rest := []) hown (hw _ (List.mem_of_getElem? (i := 171) rfl)) (hw _ (List.mem_of_getElem? (i := 172) rfl)) (hw _ (List.mem_of_getElem? (i := 40) rfl)) (hw _ (List.mem_of_getElem? (i := 173) rfl)) (by decide) (rm22_1 l Z a0 hw T4.heap n0 h0.size em k4 x1 A4 Sm gh2 Ex1) rfl 0 (Nat.le_of_eq rfl) (by decide) (by decide) (by decide) (by decide) (by rw [hml]; rfl) pd___Ljava_lang_Object__Ljava_util_List_ rfl rfl (hb hby d7_50) ?_
  rintro T5 L5 _ X5 ⟨r5, rfl, F5, E5, B5⟩
  have N5 := Fr.app N4 F5
  show own_Fin _ _ _ _ _ _ _ T5 (mkF m 53 #[.val (.ref a), .unset] [(.ref r5)])
  exact own_retA X5 hx hrt rfl hlk (hb hby d7_53) rfl ⟨_, rfl, N5, own_ext_trans E4 E5, B5⟩ (by decide) (by decide)
set_option maxRecDepth 65536 in
set_option maxHeartbeats 40000000 in
theorem rm6_1 (l : Launch) (Z : State) (a0 : Array Value) (hw : ∀ d ∈ tables_1, d.before a0 Z = true) (h0 : Heap) (n0 : Nat) (a ar em mr : Addr) (k : ClassId) (x1 : Addr) (La : own_AL Z h0 a 1 ar) (Aa : Arv Z h0 ar k (.object "java/lang/Object") 10 [.ref x1] .null) (Ba : Exa Z h0 ar "[Ljava/lang/Object;") (Mr : own_Mir Z "[Ljava/lang/Object;" mr) (Sm : Sta Z h0 "java/util/ImmutableCollections" "EMPTY" "Ljava/lang/Object;" (.ref em)) (gh : n0 ≤ h0.size) (Ex1 : Exa Z h0 x1 "java/lang/Long") :
    own_Met l Z (⟨"java/util/List", "copyOf", "(Ljava/util/Collection;)Ljava/util/List;"⟩ : MethodName) jdk_40_method_48_code 1 (some (.object "java/util/List")) [] ({ frames := 8, cells := 3, slots := 8, locals := 103 } : Room) #[(.ref a)] h0 (fun v h L => ∃ r, v = some (.ref r) ∧ Fr n0 L ∧ Ext h0 h ∧ own_L12 Z h r em) := by
  refine own_body pn_java_util_List ?_
  intro p e s m below meth c s₁ hx hby hml hZ hown hnm hrt hlk X0 e0
  have N0 := Fr.nil n0
  rw [ef_r_1]
  show own_Fin _ _ _ _ _ _ _ s₁ (mkF m 0 #[.val (.ref a)] [])
  refine own_step (fun _ k => XS.aloadN X0.here hx rfl (hb hby d6_0) rfl rfl k) ?_
  show own_Fin _ _ _ _ _ _ _ s₁ (mkF m 1 #[.val (.ref a)] [(.ref a)])
  refine own_callS X0 hx hZ (argsL := [(.ref a)]) (rest := []) hown (hw _ (List.mem_of_getElem? (i := 42) rfl)) (hw _ (List.mem_of_getElem? (i := 43) rfl)) (hw _ (List.mem_of_getElem? (i := 44) rfl)) (hw _ (List.mem_of_getElem? (i := 45) rfl)) (by decide) (rm7_1 l Z a0 hw h0 n0 a ar em mr k x1 La Aa Ba Mr Sm gh Ex1) e0 0 (Nat.le_of_eq rfl) (by decide) (by decide) (by decide) (by decide) (by rw [hml]; rfl) pd__Ljava_util_Collection__Ljava_util_List_ rfl rfl (hb hby d6_1) ?_
  rintro T1 L1 _ X1 ⟨r1, rfl, F1, E1, B1⟩
  have N1 := Fr.app N0 F1
  show own_Fin _ _ _ _ _ _ _ T1 (mkF m 4 #[.val (.ref a)] [(.ref r1)])
  exact own_retA X1 hx hrt rfl hlk (hb hby d6_4) rfl ⟨_, rfl, N1, E1, B1⟩ (by decide) (by decide)
set_option maxRecDepth 65536 in
set_option maxHeartbeats 40000000 in
theorem rm7_2 (l : Launch) (Z : State) (a0 : Array Value) (hw : ∀ d ∈ tables_1, d.before a0 Z = true) (h0 : Heap) (n0 : Nat) (a ar em mr : Addr) (k : ClassId) (x1 x2 : Addr) (La : own_AL Z h0 a 2 ar) (Aa : Arv Z h0 ar k (.object "java/lang/Object") 10 [.ref x1, .ref x2] .null) (Ba : Exa Z h0 ar "[Ljava/lang/Object;") (Mr : own_Mir Z "[Ljava/lang/Object;" mr) (Sm : Sta Z h0 "java/util/ImmutableCollections" "EMPTY" "Ljava/lang/Object;" (.ref em)) (gh : n0 ≤ h0.size) (Ex1 : Exa Z h0 x1 "java/lang/Long") (Ex2 : Exa Z h0 x2 "java/lang/Long") :
    own_Met l Z (⟨"java/util/ImmutableCollections", "listCopy", "(Ljava/util/Collection;)Ljava/util/List;"⟩ : MethodName) jdk_56_method_3_code 2 (some (.object "java/util/List")) [] ({ frames := 7, cells := 3, slots := 8, locals := 90 } : Room) #[(.ref a)] h0 (fun v h L => ∃ r, v = some (.ref r) ∧ Fr n0 L ∧ Ext h0 h ∧ own_L12 Z h r x2) := by
  refine own_body pn_java_util_ImmutableCollections ?_
  intro p e s m below meth c s₁ hx hby hml hZ hown hnm hrt hlk X0 e0
  have N0 := Fr.nil n0
  rw [ef_r_2]
  show own_Fin _ _ _ _ _ _ _ s₁ (mkF m 0 #[.val (.ref a), .unset] [])
  refine own_step (fun _ k => XS.aloadN X0.here hx rfl (hb hby d7_0) rfl rfl k) ?_
  show own_Fin _ _ _ _ _ _ _ s₁ (mkF m 1 #[.val (.ref a), .unset] [(.ref a)])
  refine own_inst X0 hx hZ hown (hw _ (List.mem_of_getElem? (i := 46) rfl)) e0 La.1 (own_notOf (hw _ (List.mem_of_getElem? (i := 47) rfl)) (hw _ (List.mem_of_getElem? (i := 48) rfl)) (hw _ (List.mem_of_getElem? (i := 49) rfl)) (hw _ (List.mem_of_getElem? (i := 50) rfl)) (hw _ (List.mem_of_getElem? (i := 219) rfl)) (by decide) (by decide) (by decide) (by decide)) (hb hby d7_1) ?_
  intro T1 X1 e1
  show own_Fin _ _ _ _ _ _ _ T1 (mkF m 4 #[.val (.ref a), .unset] [(.int (0 : Int32))])
  refine own_step (fun _ k => XS.ifNo X1.here hx rfl (hb hby d7_4) rfl (XT.i0_ne_f (by decide)) k) ?_
  show own_Fin _ _ _ _ _ _ _ T1 (mkF m 7 #[.val (.ref a), .unset] [])
  refine own_step (fun _ k => XS.aloadN X1.here hx rfl (hb hby d7_7) rfl rfl k) ?_
  show own_Fin _ _ _ _ _ _ _ T1 (mkF m 8 #[.val (.ref a), .unset] [(.ref a)])
  refine own_inst X1 hx hZ hown (hw _ (List.mem_of_getElem? (i := 51) rfl)) e1 La.1 (own_notOf (hw _ (List.mem_of_getElem? (i := 47) rfl)) (hw _ (List.mem_of_getElem? (i := 48) rfl)) (hw _ (List.mem_of_getElem? (i := 49) rfl)) (hw _ (List.mem_of_getElem? (i := 50) rfl)) (hw _ (List.mem_of_getElem? (i := 182) rfl)) (by decide) (by decide) (by decide) (by decide)) (hb hby d7_8) ?_
  intro T2 X2 e2
  show own_Fin _ _ _ _ _ _ _ T2 (mkF m 11 #[.val (.ref a), .unset] [(.int (0 : Int32))])
  refine own_step (fun _ k => XS.ifYes X2.here hx rfl (pc0 := 11) (pc' := 31) rfl (hb hby d7_11) rfl (XT.i0_eq_t (by decide)) (by decide) (by decide) k) ?_
  show own_Fin _ _ _ _ _ _ _ T2 (mkF m 31 #[.val (.ref a), .unset] [])
  refine own_step (fun _ k => XS.aloadN X2.here hx rfl (hb hby d7_31) rfl rfl k) ?_
  show own_Fin _ _ _ _ _ _ _ T2 (mkF m 32 #[.val (.ref a), .unset] [(.ref a)])
  refine own_callI X2 hx hZ (b := a) (xi := (⟨"java/util/Collection", "isEmpty", "()Z"⟩ : MethodName)) (argsL := []) (rest := []) hown (hw _ (List.mem_of_getElem? (i := 52) rfl)) (hw _ (List.mem_of_getElem? (i := 53) rfl)) (hw _ (List.mem_of_getElem? (i := 54) rfl)) (hw _ (List.mem_of_getElem? (i := 55) rfl)) (hw _ (List.mem_of_getElem? (i := 56) rfl)) (hw _ (List.mem_of_getElem? (i := 57) rfl)) (hw _ (List.mem_of_getElem? (i := 58) rfl)) (hw _ (List.mem_of_getElem? (i := 59) rfl)) (hw _ (List.mem_of_getElem? (i := 60) rfl)) (hw _ (List.mem_of_getElem? (i := 2) rfl)) rfl (by decide) La.1 (rm8_2 l Z a0 hw h0 n0 a La.2.2.1) e2 0 (Nat.le_of_eq rfl) (by decide) (by decide) (by decide) (by decide) (by rw [hml]; rfl) pd___Z rfl rfl (hb hby d7_32) ?_
  rintro T3 _ _ X3 ⟨rfl, rfl, e3⟩
  rw [List.append_nil] at X3
  show own_Fin _ _ _ _ _ _ _ T3 (mkF m 37 #[.val (.ref a), .unset] [(.int (0 : Int32))])
  refine own_step (fun _ k => XS.ifYes X3.here hx rfl (pc0 := 37) (pc' := 44) rfl (hb hby d7_37) rfl (XT.i0_eq_t (by decide)) (by decide) (by decide) k) ?_
  show own_Fin _ _ _ _ _ _ _ T3 (mkF m 44 #[.val (.ref a), .unset] [])
  refine own_step (fun _ k => XS.aloadN X3.here hx rfl (hb hby d7_44) rfl rfl k) ?_
  show own_Fin _ _ _ _ _ _ _ T3 (mkF m 45 #[.val (.ref a), .unset] [(.ref a)])
  refine own_callI X3 hx hZ (b := a) (xi := (⟨"java/util/Collection", "toArray", "()[Ljava/lang/Object;"⟩ : MethodName)) (argsL := []) (rest := []) hown (hw _ (List.mem_of_getElem? (i := 141) rfl)) (hw _ (List.mem_of_getElem? (i := 142) rfl)) (hw _ (List.mem_of_getElem? (i := 143) rfl)) (hw _ (List.mem_of_getElem? (i := 144) rfl)) (hw _ (List.mem_of_getElem? (i := 145) rfl)) (hw _ (List.mem_of_getElem? (i := 146) rfl)) (hw _ (List.mem_of_getElem? (i := 147) rfl)) (hw _ (List.mem_of_getElem? (i := 59) rfl)) (hw _ (List.mem_of_getElem? (i := 148) rfl)) (hw _ (List.mem_of_getElem? (i := 2) rfl)) rfl (by decide) La.1 (rm18_2 l Z a0 hw h0 n0 a ar mr k x1 x2 La Aa Ba Mr gh Ex1 Ex2) e3 0 (Nat.le_of_eq rfl) (by decide) (by decide) (by decide) (by decide) (by rw [hml]; rfl) pd____Ljava_lang_Object_ rfl rfl (hb hby d7_45) ?_
  rintro T4 L4 _ X4 ⟨k4, rfl, F4, E4, A4⟩
  have N4 := Fr.app N0 F4
  replace Sm := Sm.ext E4
  replace Ex1 := Ex1.ext E4
  replace Ex2 := Ex2.ext E4
  have gh2 : n0 ≤ T4.heap.size := Nat.le_trans gh E4.1
  show own_Fin _ _ _ _ _ _ _ T4 (mkF m 50 #[.val (.ref a), .unset] [(.ref h0.size)])
  refine own_callS X4 hx hZ (argsL := [(.ref h0.size)]) (rest := []) hown (hw _ (List.mem_of_getElem? (i := 171) rfl)) (hw _ (List.mem_of_getElem? (i := 172) rfl)) (hw _ (List.mem_of_getElem? (i := 40) rfl)) (hw _ (List.mem_of_getElem? (i := 173) rfl)) (by decide) (rm22_2 l Z a0 hw T4.heap n0 h0.size em k4 x1 x2 A4 Sm gh2 Ex1 Ex2) rfl 0 (Nat.le_of_eq rfl) (by decide) (by decide) (by decide) (by decide) (by rw [hml]; rfl) pd___Ljava_lang_Object__Ljava_util_List_ rfl rfl (hb hby d7_50) ?_
  rintro T5 L5 _ X5 ⟨r5, rfl, F5, E5, B5⟩
  have N5 := Fr.app N4 F5
  show own_Fin _ _ _ _ _ _ _ T5 (mkF m 53 #[.val (.ref a), .unset] [(.ref r5)])
  exact own_retA X5 hx hrt rfl hlk (hb hby d7_53) rfl ⟨_, rfl, N5, own_ext_trans E4 E5, B5⟩ (by decide) (by decide)
set_option maxRecDepth 65536 in
set_option maxHeartbeats 40000000 in
theorem rm6_2 (l : Launch) (Z : State) (a0 : Array Value) (hw : ∀ d ∈ tables_1, d.before a0 Z = true) (h0 : Heap) (n0 : Nat) (a ar em mr : Addr) (k : ClassId) (x1 x2 : Addr) (La : own_AL Z h0 a 2 ar) (Aa : Arv Z h0 ar k (.object "java/lang/Object") 10 [.ref x1, .ref x2] .null) (Ba : Exa Z h0 ar "[Ljava/lang/Object;") (Mr : own_Mir Z "[Ljava/lang/Object;" mr) (Sm : Sta Z h0 "java/util/ImmutableCollections" "EMPTY" "Ljava/lang/Object;" (.ref em)) (gh : n0 ≤ h0.size) (Ex1 : Exa Z h0 x1 "java/lang/Long") (Ex2 : Exa Z h0 x2 "java/lang/Long") :
    own_Met l Z (⟨"java/util/List", "copyOf", "(Ljava/util/Collection;)Ljava/util/List;"⟩ : MethodName) jdk_40_method_48_code 1 (some (.object "java/util/List")) [] ({ frames := 8, cells := 3, slots := 8, locals := 103 } : Room) #[(.ref a)] h0 (fun v h L => ∃ r, v = some (.ref r) ∧ Fr n0 L ∧ Ext h0 h ∧ own_L12 Z h r x2) := by
  refine own_body pn_java_util_List ?_
  intro p e s m below meth c s₁ hx hby hml hZ hown hnm hrt hlk X0 e0
  have N0 := Fr.nil n0
  rw [ef_r_1]
  show own_Fin _ _ _ _ _ _ _ s₁ (mkF m 0 #[.val (.ref a)] [])
  refine own_step (fun _ k => XS.aloadN X0.here hx rfl (hb hby d6_0) rfl rfl k) ?_
  show own_Fin _ _ _ _ _ _ _ s₁ (mkF m 1 #[.val (.ref a)] [(.ref a)])
  refine own_callS X0 hx hZ (argsL := [(.ref a)]) (rest := []) hown (hw _ (List.mem_of_getElem? (i := 42) rfl)) (hw _ (List.mem_of_getElem? (i := 43) rfl)) (hw _ (List.mem_of_getElem? (i := 44) rfl)) (hw _ (List.mem_of_getElem? (i := 45) rfl)) (by decide) (rm7_2 l Z a0 hw h0 n0 a ar em mr k x1 x2 La Aa Ba Mr Sm gh Ex1 Ex2) e0 0 (Nat.le_of_eq rfl) (by decide) (by decide) (by decide) (by decide) (by rw [hml]; rfl) pd__Ljava_util_Collection__Ljava_util_List_ rfl rfl (hb hby d6_1) ?_
  rintro T1 L1 _ X1 ⟨r1, rfl, F1, E1, B1⟩
  have N1 := Fr.app N0 F1
  show own_Fin _ _ _ _ _ _ _ T1 (mkF m 4 #[.val (.ref a)] [(.ref r1)])
  exact own_retA X1 hx hrt rfl hlk (hb hby d6_4) rfl ⟨_, rfl, N1, E1, B1⟩ (by decide) (by decide)
set_option maxRecDepth 65536 in
set_option maxHeartbeats 40000000 in
theorem rm7_3 (l : Launch) (Z : State) (a0 : Array Value) (hw : ∀ d ∈ tables_1, d.before a0 Z = true) (h0 : Heap) (n0 : Nat) (a ar em mr : Addr) (k : ClassId) (x1 x2 x3 : Addr) (La : own_AL Z h0 a 3 ar) (Aa : Arv Z h0 ar k (.object "java/lang/Object") 10 [.ref x1, .ref x2, .ref x3] .null) (Ba : Exa Z h0 ar "[Ljava/lang/Object;") (Mr : own_Mir Z "[Ljava/lang/Object;" mr) (Sm : Sta Z h0 "java/util/ImmutableCollections" "EMPTY" "Ljava/lang/Object;" (.ref em)) (gh : n0 ≤ h0.size) (Ex1 : Exa Z h0 x1 "java/lang/Long") (Ex2 : Exa Z h0 x2 "java/lang/Long") (Ex3 : Exa Z h0 x3 "java/lang/Long") :
    own_Met l Z (⟨"java/util/ImmutableCollections", "listCopy", "(Ljava/util/Collection;)Ljava/util/List;"⟩ : MethodName) jdk_56_method_3_code 2 (some (.object "java/util/List")) [] ({ frames := 7, cells := 3, slots := 8, locals := 90 } : Room) #[(.ref a)] h0 (fun v h L => ∃ r, v = some (.ref r) ∧ Fr n0 L ∧ Ext h0 h ∧ own_LN Z h r 3) := by
  refine own_body pn_java_util_ImmutableCollections ?_
  intro p e s m below meth c s₁ hx hby hml hZ hown hnm hrt hlk X0 e0
  have N0 := Fr.nil n0
  rw [ef_r_2]
  show own_Fin _ _ _ _ _ _ _ s₁ (mkF m 0 #[.val (.ref a), .unset] [])
  refine own_step (fun _ k => XS.aloadN X0.here hx rfl (hb hby d7_0) rfl rfl k) ?_
  show own_Fin _ _ _ _ _ _ _ s₁ (mkF m 1 #[.val (.ref a), .unset] [(.ref a)])
  refine own_inst X0 hx hZ hown (hw _ (List.mem_of_getElem? (i := 46) rfl)) e0 La.1 (own_notOf (hw _ (List.mem_of_getElem? (i := 47) rfl)) (hw _ (List.mem_of_getElem? (i := 48) rfl)) (hw _ (List.mem_of_getElem? (i := 49) rfl)) (hw _ (List.mem_of_getElem? (i := 50) rfl)) (hw _ (List.mem_of_getElem? (i := 219) rfl)) (by decide) (by decide) (by decide) (by decide)) (hb hby d7_1) ?_
  intro T1 X1 e1
  show own_Fin _ _ _ _ _ _ _ T1 (mkF m 4 #[.val (.ref a), .unset] [(.int (0 : Int32))])
  refine own_step (fun _ k => XS.ifNo X1.here hx rfl (hb hby d7_4) rfl (XT.i0_ne_f (by decide)) k) ?_
  show own_Fin _ _ _ _ _ _ _ T1 (mkF m 7 #[.val (.ref a), .unset] [])
  refine own_step (fun _ k => XS.aloadN X1.here hx rfl (hb hby d7_7) rfl rfl k) ?_
  show own_Fin _ _ _ _ _ _ _ T1 (mkF m 8 #[.val (.ref a), .unset] [(.ref a)])
  refine own_inst X1 hx hZ hown (hw _ (List.mem_of_getElem? (i := 51) rfl)) e1 La.1 (own_notOf (hw _ (List.mem_of_getElem? (i := 47) rfl)) (hw _ (List.mem_of_getElem? (i := 48) rfl)) (hw _ (List.mem_of_getElem? (i := 49) rfl)) (hw _ (List.mem_of_getElem? (i := 50) rfl)) (hw _ (List.mem_of_getElem? (i := 182) rfl)) (by decide) (by decide) (by decide) (by decide)) (hb hby d7_8) ?_
  intro T2 X2 e2
  show own_Fin _ _ _ _ _ _ _ T2 (mkF m 11 #[.val (.ref a), .unset] [(.int (0 : Int32))])
  refine own_step (fun _ k => XS.ifYes X2.here hx rfl (pc0 := 11) (pc' := 31) rfl (hb hby d7_11) rfl (XT.i0_eq_t (by decide)) (by decide) (by decide) k) ?_
  show own_Fin _ _ _ _ _ _ _ T2 (mkF m 31 #[.val (.ref a), .unset] [])
  refine own_step (fun _ k => XS.aloadN X2.here hx rfl (hb hby d7_31) rfl rfl k) ?_
  show own_Fin _ _ _ _ _ _ _ T2 (mkF m 32 #[.val (.ref a), .unset] [(.ref a)])
  refine own_callI X2 hx hZ (b := a) (xi := (⟨"java/util/Collection", "isEmpty", "()Z"⟩ : MethodName)) (argsL := []) (rest := []) hown (hw _ (List.mem_of_getElem? (i := 52) rfl)) (hw _ (List.mem_of_getElem? (i := 53) rfl)) (hw _ (List.mem_of_getElem? (i := 54) rfl)) (hw _ (List.mem_of_getElem? (i := 55) rfl)) (hw _ (List.mem_of_getElem? (i := 56) rfl)) (hw _ (List.mem_of_getElem? (i := 57) rfl)) (hw _ (List.mem_of_getElem? (i := 58) rfl)) (hw _ (List.mem_of_getElem? (i := 59) rfl)) (hw _ (List.mem_of_getElem? (i := 60) rfl)) (hw _ (List.mem_of_getElem? (i := 2) rfl)) rfl (by decide) La.1 (rm8_3 l Z a0 hw h0 n0 a La.2.2.1) e2 0 (Nat.le_of_eq rfl) (by decide) (by decide) (by decide) (by decide) (by rw [hml]; rfl) pd___Z rfl rfl (hb hby d7_32) ?_
  rintro T3 _ _ X3 ⟨rfl, rfl, e3⟩
  rw [List.append_nil] at X3
  show own_Fin _ _ _ _ _ _ _ T3 (mkF m 37 #[.val (.ref a), .unset] [(.int (0 : Int32))])
  refine own_step (fun _ k => XS.ifYes X3.here hx rfl (pc0 := 37) (pc' := 44) rfl (hb hby d7_37) rfl (XT.i0_eq_t (by decide)) (by decide) (by decide) k) ?_
  show own_Fin _ _ _ _ _ _ _ T3 (mkF m 44 #[.val (.ref a), .unset] [])
  refine own_step (fun _ k => XS.aloadN X3.here hx rfl (hb hby d7_44) rfl rfl k) ?_
  show own_Fin _ _ _ _ _ _ _ T3 (mkF m 45 #[.val (.ref a), .unset] [(.ref a)])
  refine own_callI X3 hx hZ (b := a) (xi := (⟨"java/util/Collection", "toArray", "()[Ljava/lang/Object;"⟩ : MethodName)) (argsL := []) (rest := []) hown (hw _ (List.mem_of_getElem? (i := 141) rfl)) (hw _ (List.mem_of_getElem? (i := 142) rfl)) (hw _ (List.mem_of_getElem? (i := 143) rfl)) (hw _ (List.mem_of_getElem? (i := 144) rfl)) (hw _ (List.mem_of_getElem? (i := 145) rfl)) (hw _ (List.mem_of_getElem? (i := 146) rfl)) (hw _ (List.mem_of_getElem? (i := 147) rfl)) (hw _ (List.mem_of_getElem? (i := 59) rfl)) (hw _ (List.mem_of_getElem? (i := 148) rfl)) (hw _ (List.mem_of_getElem? (i := 2) rfl)) rfl (by decide) La.1 (rm18_3 l Z a0 hw h0 n0 a ar mr k x1 x2 x3 La Aa Ba Mr gh Ex1 Ex2 Ex3) e3 0 (Nat.le_of_eq rfl) (by decide) (by decide) (by decide) (by decide) (by rw [hml]; rfl) pd____Ljava_lang_Object_ rfl rfl (hb hby d7_45) ?_
  rintro T4 L4 _ X4 ⟨k4, rfl, F4, E4, A4⟩
  have N4 := Fr.app N0 F4
  replace Sm := Sm.ext E4
  replace Ex1 := Ex1.ext E4
  replace Ex2 := Ex2.ext E4
  replace Ex3 := Ex3.ext E4
  have gh2 : n0 ≤ T4.heap.size := Nat.le_trans gh E4.1
  show own_Fin _ _ _ _ _ _ _ T4 (mkF m 50 #[.val (.ref a), .unset] [(.ref h0.size)])
  refine own_callS X4 hx hZ (argsL := [(.ref h0.size)]) (rest := []) hown (hw _ (List.mem_of_getElem? (i := 171) rfl)) (hw _ (List.mem_of_getElem? (i := 172) rfl)) (hw _ (List.mem_of_getElem? (i := 40) rfl)) (hw _ (List.mem_of_getElem? (i := 173) rfl)) (by decide) (rm22_3 l Z a0 hw T4.heap n0 h0.size em k4 x1 x2 x3 A4 Sm gh2 Ex1 Ex2 Ex3) rfl 0 (Nat.le_of_eq rfl) (by decide) (by decide) (by decide) (by decide) (by rw [hml]; rfl) pd___Ljava_lang_Object__Ljava_util_List_ rfl rfl (hb hby d7_50) ?_
  rintro T5 L5 _ X5 ⟨r5, rfl, F5, E5, B5⟩
  have N5 := Fr.app N4 F5
  show own_Fin _ _ _ _ _ _ _ T5 (mkF m 53 #[.val (.ref a), .unset] [(.ref r5)])
  exact own_retA X5 hx hrt rfl hlk (hb hby d7_53) rfl ⟨_, rfl, N5, own_ext_trans E4 E5, B5⟩ (by decide) (by decide)
set_option maxRecDepth 65536 in
set_option maxHeartbeats 40000000 in
theorem rm6_3 (l : Launch) (Z : State) (a0 : Array Value) (hw : ∀ d ∈ tables_1, d.before a0 Z = true) (h0 : Heap) (n0 : Nat) (a ar em mr : Addr) (k : ClassId) (x1 x2 x3 : Addr) (La : own_AL Z h0 a 3 ar) (Aa : Arv Z h0 ar k (.object "java/lang/Object") 10 [.ref x1, .ref x2, .ref x3] .null) (Ba : Exa Z h0 ar "[Ljava/lang/Object;") (Mr : own_Mir Z "[Ljava/lang/Object;" mr) (Sm : Sta Z h0 "java/util/ImmutableCollections" "EMPTY" "Ljava/lang/Object;" (.ref em)) (gh : n0 ≤ h0.size) (Ex1 : Exa Z h0 x1 "java/lang/Long") (Ex2 : Exa Z h0 x2 "java/lang/Long") (Ex3 : Exa Z h0 x3 "java/lang/Long") :
    own_Met l Z (⟨"java/util/List", "copyOf", "(Ljava/util/Collection;)Ljava/util/List;"⟩ : MethodName) jdk_40_method_48_code 1 (some (.object "java/util/List")) [] ({ frames := 8, cells := 3, slots := 8, locals := 103 } : Room) #[(.ref a)] h0 (fun v h L => ∃ r, v = some (.ref r) ∧ Fr n0 L ∧ Ext h0 h ∧ own_LN Z h r 3) := by
  refine own_body pn_java_util_List ?_
  intro p e s m below meth c s₁ hx hby hml hZ hown hnm hrt hlk X0 e0
  have N0 := Fr.nil n0
  rw [ef_r_1]
  show own_Fin _ _ _ _ _ _ _ s₁ (mkF m 0 #[.val (.ref a)] [])
  refine own_step (fun _ k => XS.aloadN X0.here hx rfl (hb hby d6_0) rfl rfl k) ?_
  show own_Fin _ _ _ _ _ _ _ s₁ (mkF m 1 #[.val (.ref a)] [(.ref a)])
  refine own_callS X0 hx hZ (argsL := [(.ref a)]) (rest := []) hown (hw _ (List.mem_of_getElem? (i := 42) rfl)) (hw _ (List.mem_of_getElem? (i := 43) rfl)) (hw _ (List.mem_of_getElem? (i := 44) rfl)) (hw _ (List.mem_of_getElem? (i := 45) rfl)) (by decide) (rm7_3 l Z a0 hw h0 n0 a ar em mr k x1 x2 x3 La Aa Ba Mr Sm gh Ex1 Ex2 Ex3) e0 0 (Nat.le_of_eq rfl) (by decide) (by decide) (by decide) (by decide) (by rw [hml]; rfl) pd__Ljava_util_Collection__Ljava_util_List_ rfl rfl (hb hby d6_1) ?_
  rintro T1 L1 _ X1 ⟨r1, rfl, F1, E1, B1⟩
  have N1 := Fr.app N0 F1
  show own_Fin _ _ _ _ _ _ _ T1 (mkF m 4 #[.val (.ref a)] [(.ref r1)])
  exact own_retA X1 hx hrt rfl hlk (hb hby d6_4) rfl ⟨_, rfl, N1, E1, B1⟩ (by decide) (by decide)
theorem d31_0 : decode jdk_44_method_3_code 0 = .ok (.aload_n 0, 1) := by decide +kernel
theorem d31_1 : decode jdk_44_method_3_code 1 = .ok (.getfield 24, 3) := by decide +kernel
theorem d31_4 : decode jdk_44_method_3_code 4 = .ok (.getstatic 19, 3) := by decide +kernel
theorem d31_7 : decode jdk_44_method_3_code 7 = .ok (.if_acmp .eq 7, 3) := by decide +kernel
theorem d31_10 : decode jdk_44_method_3_code 10 = .ok (.iconst 2, 1) := by decide +kernel
theorem d31_11 : decode jdk_44_method_3_code 11 = .ok (.goto 4, 3) := by decide +kernel
theorem d31_14 : decode jdk_44_method_3_code 14 = .ok (.iconst 1, 1) := by decide +kernel
theorem d31_15 : decode jdk_44_method_3_code 15 = .ok (.ireturn, 1) := by decide +kernel
theorem d11_0 : decode jdk_45_method_3_code 0 = .ok (.aload_n 0, 1) := by decide +kernel
theorem d11_1 : decode jdk_45_method_3_code 1 = .ok (.getfield 7, 3) := by decide +kernel
theorem d11_4 : decode jdk_45_method_3_code 4 = .ok (.arraylength, 1) := by decide +kernel
theorem d11_5 : decode jdk_45_method_3_code 5 = .ok (.ireturn, 1) := by decide +kernel
set_option maxRecDepth 65536 in
set_option maxHeartbeats 40000000 in
theorem rm11_0 (l : Launch) (Z : State) (a0 : Array Value) (hw : ∀ d ∈ tables_1, d.before a0 Z = true) (h0 : Heap) (n0 : Nat) (r : Addr) (Rr : own_LN Z h0 r 0) :
    own_Met l Z (⟨"java/util/ImmutableCollections$ListN", "size", "()I"⟩ : MethodName) jdk_45_method_3_code 1 (some .int) [] ({ frames := 0, cells := 0, slots := 0, locals := 0 } : Room) #[(.ref r)] h0 (fun v h L => v = some (.int 0) ∧ L = [] ∧ h = h0) := by
  refine own_body pn_java_util_ImmutableCollections_ListN ?_
  intro p e s m below meth c s₁ hx hby hml hZ hown hnm hrt hlk X0 e0
  have N0 := Fr.nil n0
  obtain ⟨Er, ea, ke, ve, Fe, Ae⟩ := Rr
  rw [ef_r_1]
  show own_Fin _ _ _ _ _ _ _ s₁ (mkF m 0 #[.val (.ref r)] [])
  refine own_step (fun _ k => XS.aloadN X0.here hx rfl (hb hby d11_0) rfl rfl k) ?_
  show own_Fin _ _ _ _ _ _ _ s₁ (mkF m 1 #[.val (.ref r)] [(.ref r)])
  refine own_getFV X0 hx hZ hown (hw _ (List.mem_of_getElem? (i := 101) rfl)) Via.refl e0 Fe (hb hby d11_1) ?_
  intro T1 X1 e1
  show own_Fin _ _ _ _ _ _ _ T1 (mkF m 4 #[.val (.ref r)] [(.ref ea)])
  refine own_alenV X1 hx hZ e1 Ae (hb hby d11_4) ?_
  show own_Fin _ _ _ _ _ _ _ T1 (mkF m 5 #[.val (.ref r)] [(.int (0 : Int32))])
  exact own_retI X1 hx hrt hlk (hb hby d11_5) (by rw [e1]; exact ⟨rfl, rfl, rfl⟩) (by decide) (by decide)
set_option maxRecDepth 65536 in
set_option maxHeartbeats 40000000 in
theorem rm11_3 (l : Launch) (Z : State) (a0 : Array Value) (hw : ∀ d ∈ tables_1, d.before a0 Z = true) (h0 : Heap) (n0 : Nat) (r : Addr) (Rr : own_LN Z h0 r 3) :
    own_Met l Z (⟨"java/util/ImmutableCollections$ListN", "size", "()I"⟩ : MethodName) jdk_45_method_3_code 1 (some .int) [] ({ frames := 0, cells := 0, slots := 0, locals := 0 } : Room) #[(.ref r)] h0 (fun v h L => v = some (.int 3) ∧ L = [] ∧ h = h0) := by
  refine own_body pn_java_util_ImmutableCollections_ListN ?_
  intro p e s m below meth c s₁ hx hby hml hZ hown hnm hrt hlk X0 e0
  have N0 := Fr.nil n0
  obtain ⟨Er, ea, ke, ve, Fe, Ae⟩ := Rr
  rw [ef_r_1]
  show own_Fin _ _ _ _ _ _ _ s₁ (mkF m 0 #[.val (.ref r)] [])
  refine own_step (fun _ k => XS.aloadN X0.here hx rfl (hb hby d11_0) rfl rfl k) ?_
  show own_Fin _ _ _ _ _ _ _ s₁ (mkF m 1 #[.val (.ref r)] [(.ref r)])
  refine own_getFV X0 hx hZ hown (hw _ (List.mem_of_getElem? (i := 101) rfl)) Via.refl e0 Fe (hb hby d11_1) ?_
  intro T1 X1 e1
  show own_Fin _ _ _ _ _ _ _ T1 (mkF m 4 #[.val (.ref r)] [(.ref ea)])
  refine own_alenV X1 hx hZ e1 Ae (hb hby d11_4) ?_
  show own_Fin _ _ _ _ _ _ _ T1 (mkF m 5 #[.val (.ref r)] [(.int (3 : Int32))])
  exact own_retI X1 hx hrt hlk (hb hby d11_5) (by rw [e1]; exact ⟨rfl, rfl, rfl⟩) (by decide) (by decide)
set_option maxRecDepth 65536 in
set_option maxHeartbeats 40000000 in
theorem rm31_1 (l : Launch) (Z : State) (a0 : Array Value) (hw : ∀ d ∈ tables_1, d.before a0 Z = true) (h0 : Heap) (n0 : Nat) (r em : Addr) (Rr : own_L12 Z h0 r em) (Sm : Sta Z h0 "java/util/ImmutableCollections" "EMPTY" "Ljava/lang/Object;" (.ref em)) :
    own_Met l Z (⟨"java/util/ImmutableCollections$List12", "size", "()I"⟩ : MethodName) jdk_44_method_3_code 1 (some .int) [] ({ frames := 0, cells := 0, slots := 0, locals := 0 } : Room) #[(.ref r)] h0 (fun v h L => v = some (.int 1) ∧ L = [] ∧ h = h0) := by
  refine own_body pn_java_util_ImmutableCollections_List12 ?_
  intro p e s m below meth c s₁ hx hby hml hZ hown hnm hrt hlk X0 e0
  have N0 := Fr.nil n0
  rw [ef_r_1]
  show own_Fin _ _ _ _ _ _ _ s₁ (mkF m 0 #[.val (.ref r)] [])
  refine own_step (fun _ k => XS.aloadN X0.here hx rfl (hb hby d31_0) rfl rfl k) ?_
  show own_Fin _ _ _ _ _ _ _ s₁ (mkF m 1 #[.val (.ref r)] [(.ref r)])
  refine own_getFV X0 hx hZ hown (hw _ (List.mem_of_getElem? (i := 232) rfl)) Via.refl e0 Rr.2 (hb hby d31_1) ?_
  intro T1 X1 e1
  show own_Fin _ _ _ _ _ _ _ T1 (mkF m 4 #[.val (.ref r)] [(.ref em)])
  refine own_getSN X1 hx hZ hown (hw _ (List.mem_of_getElem? (i := 240) rfl)) e1 Sm (hb hby d31_4) ?_
  intro T2 X2 e2
  show own_Fin _ _ _ _ _ _ _ T2 (mkF m 7 #[.val (.ref r)] [(.ref em), (.ref em)])
  refine own_step (fun _ k => XT.acmpYes X2.here hx rfl (pc0 := 7) (pc' := 14) rfl (hb hby d31_7) rfl rfl rfl (XT.aa_eq_t (congrArg Value.ref rfl)) (by decide) (by decide) k) ?_
  show own_Fin _ _ _ _ _ _ _ T2 (mkF m 14 #[.val (.ref r)] [])
  refine own_step (fun _ k => XT.iconstV X2.here hx rfl (1 : Int32) (hb hby d31_14) (by decide) k) ?_
  show own_Fin _ _ _ _ _ _ _ T2 (mkF m 15 #[.val (.ref r)] [(.int (1 : Int32))])
  exact own_retI X2 hx hrt hlk (hb hby d31_15) (by rw [e2]; exact ⟨rfl, rfl, rfl⟩) (by decide) (by decide)
set_option maxRecDepth 65536 in
set_option maxHeartbeats 40000000 in
theorem rm31_2 (l : Launch) (Z : State) (a0 : Array Value) (hw : ∀ d ∈ tables_1, d.before a0 Z = true) (h0 : Heap) (n0 : Nat) (r em y : Addr) (Rr : own_L12 Z h0 r y) (Sm : Sta Z h0 "java/util/ImmutableCollections" "EMPTY" "Ljava/lang/Object;" (.ref em)) (hye : y ≠ em) :
    own_Met l Z (⟨"java/util/ImmutableCollections$List12", "size", "()I"⟩ : MethodName) jdk_44_method_3_code 1 (some .int) [] ({ frames := 0, cells := 0, slots := 0, locals := 0 } : Room) #[(.ref r)] h0 (fun v h L => v = some (.int 2) ∧ L = [] ∧ h = h0) := by
  refine own_body pn_java_util_ImmutableCollections_List12 ?_
  intro p e s m below meth c s₁ hx hby hml hZ hown hnm hrt hlk X0 e0
  have N0 := Fr.nil n0
  rw [ef_r_1]
  show own_Fin _ _ _ _ _ _ _ s₁ (mkF m 0 #[.val (.ref r)] [])
  refine own_step (fun _ k => XS.aloadN X0.here hx rfl (hb hby d31_0) rfl rfl k) ?_
  show own_Fin _ _ _ _ _ _ _ s₁ (mkF m 1 #[.val (.ref r)] [(.ref r)])
  refine own_getFV X0 hx hZ hown (hw _ (List.mem_of_getElem? (i := 232) rfl)) Via.refl e0 Rr.2 (hb hby d31_1) ?_
  intro T1 X1 e1
  show own_Fin _ _ _ _ _ _ _ T1 (mkF m 4 #[.val (.ref r)] [(.ref y)])
  refine own_getSN X1 hx hZ hown (hw _ (List.mem_of_getElem? (i := 240) rfl)) e1 Sm (hb hby d31_4) ?_
  intro T2 X2 e2
  show own_Fin _ _ _ _ _ _ _ T2 (mkF m 7 #[.val (.ref r)] [(.ref em), (.ref y)])
  refine own_step (fun _ k => XT.acmpNo X2.here hx rfl (hb hby d31_7) rfl rfl rfl (XT.aa_eq_f (fun q => hye (Value.ref.inj q))) k) ?_
  show own_Fin _ _ _ _ _ _ _ T2 (mkF m 10 #[.val (.ref r)] [])
  refine own_step (fun _ k => XT.iconstV X2.here hx rfl (2 : Int32) (hb hby d31_10) (by decide) k) ?_
  show own_Fin _ _ _ _ _ _ _ T2 (mkF m 11 #[.val (.ref r)] [(.int (2 : Int32))])
  refine own_step (fun _ k => XS.goto X2.here hx rfl (pc0 := 11) (pc' := 15) rfl (hb hby d31_11) (by decide) (by decide) k) ?_
  show own_Fin _ _ _ _ _ _ _ T2 (mkF m 15 #[.val (.ref r)] [(.int (2 : Int32))])
  exact own_retI X2 hx hrt hlk (hb hby d31_15) (by rw [e2]; exact ⟨rfl, rfl, rfl⟩) (by decide) (by decide)
theorem d10_0 : decode prog_52_method_6_code 0 = .ok (.aload_n 0, 1) := by decide +kernel
theorem d10_1 : decode prog_52_method_6_code 1 = .ok (.getfield 22, 3) := by decide +kernel
theorem d10_4 : decode prog_52_method_6_code 4 = .ok (.invokeinterface 45 1, 5) := by decide +kernel
theorem d10_9 : decode prog_52_method_6_code 9 = .ok (.iconst 1, 1) := by decide +kernel
theorem d10_10 : decode prog_52_method_6_code 10 = .ok (.if_icmp .ne 18, 3) := by decide +kernel
theorem d10_13 : decode prog_52_method_6_code 13 = .ok (.aload_n 0, 1) := by decide +kernel
theorem d10_14 : decode prog_52_method_6_code 14 = .ok (.getfield 26, 3) := by decide +kernel
theorem d10_17 : decode prog_52_method_6_code 17 = .ok (.aload_n 0, 1) := by decide +kernel
theorem d10_18 : decode prog_52_method_6_code 18 = .ok (.getfield 13, 3) := by decide +kernel
theorem d10_21 : decode prog_52_method_6_code 21 = .ok (.if_icmp .ne 7, 3) := by decide +kernel
theorem d10_24 : decode prog_52_method_6_code 24 = .ok (.iconst 1, 1) := by decide +kernel
theorem d10_25 : decode prog_52_method_6_code 25 = .ok (.goto 4, 3) := by decide +kernel
theorem d10_28 : decode prog_52_method_6_code 28 = .ok (.iconst 0, 1) := by decide +kernel
theorem d10_29 : decode prog_52_method_6_code 29 = .ok (.ireturn, 1) := by decide +kernel
set_option maxRecDepth 65536 in
set_option maxHeartbeats 40000000 in
theorem rm10_0 (l : Launch) (Z : State) (a0 : Array Value) (hw : ∀ d ∈ tables_1, d.before a0 Z = true) (h0 : Heap) (n0 : Nat) (a r em y : Addr) (ag lv : Int32) (Fl : Fld Z h0 a "com/example/libelect/libelect/simulation/Outcome" "leaders" "Ljava/util/List;" (.ref r)) (Fa : Fld Z h0 a "com/example/libelect/libelect/simulation/Outcome" "agreed" "I" (.int ag)) (Fv : Fld Z h0 a "com/example/libelect/libelect/simulation/Outcome" "live" "I" (.int lv)) (Rr : own_LN Z h0 r 0) (Sm : Sta Z h0 "java/util/ImmutableCollections" "EMPTY" "Ljava/lang/Object;" (.ref em)) (hye : y ≠ em) :
    own_Met l Z (⟨"com/example/libelect/libelect/simulation/Outcome", "elected", "()Z"⟩ : MethodName) prog_52_method_6_code 1 (some .boolean) [] ({ frames := 1, cells := 0, slots := 0, locals := 12 } : Room) #[(.ref a)] h0 (fun v h L => v = some (.int 0) ∧ L = [] ∧ h = h0) := by
  refine own_body pn_com_example_libelect_libelect_simulation_Outcome ?_
  intro p e s m below meth c s₁ hx hby hml hZ hown hnm hrt hlk X0 e0
  have N0 := Fr.nil n0
  rw [ef_r_1]
  show own_Fin _ _ _ _ _ _ _ s₁ (mkF m 0 #[.val (.ref a)] [])
  refine own_step (fun _ k => XS.aloadN X0.here hx rfl (hb hby d10_0) rfl rfl k) ?_
  show own_Fin _ _ _ _ _ _ _ s₁ (mkF m 1 #[.val (.ref a)] [(.ref a)])
  refine own_getFV X0 hx hZ hown (hw _ (List.mem_of_getElem? (i := 67) rfl)) Via.refl e0 Fl (hb hby d10_1) ?_
  intro T1 X1 e1
  show own_Fin _ _ _ _ _ _ _ T1 (mkF m 4 #[.val (.ref a)] [(.ref r)])
  refine own_callI X1 hx hZ (b := r) (xi := (⟨"java/util/List", "size", "()I"⟩ : MethodName)) (argsL := []) (rest := []) hown (hw _ (List.mem_of_getElem? (i := 91) rfl)) (hw _ (List.mem_of_getElem? (i := 92) rfl)) (hw _ (List.mem_of_getElem? (i := 93) rfl)) (hw _ (List.mem_of_getElem? (i := 94) rfl)) (hw _ (List.mem_of_getElem? (i := 95) rfl)) (hw _ (List.mem_of_getElem? (i := 96) rfl)) (hw _ (List.mem_of_getElem? (i := 97) rfl)) (hw _ (List.mem_of_getElem? (i := 98) rfl)) (hw _ (List.mem_of_getElem? (i := 100) rfl)) (hw _ (List.mem_of_getElem? (i := 99) rfl)) rfl (by decide) Rr.1 (rm11_0 l Z a0 hw h0 n0 r Rr) e1 0 (Nat.le_of_eq rfl) (by decide) (by decide) (by decide) (by decide) (by rw [hml]; rfl) pd___I rfl rfl (hb hby d10_4) ?_
  rintro T2 _ _ X2 ⟨rfl, rfl, e2⟩
  rw [List.append_nil] at X2
  show own_Fin _ _ _ _ _ _ _ T2 (mkF m 9 #[.val (.ref a)] [(.int (0 : Int32))])
  refine own_step (fun _ k => XT.iconstV X2.here hx rfl (1 : Int32) (hb hby d10_9) (by decide) k) ?_
  show own_Fin _ _ _ _ _ _ _ T2 (mkF m 10 #[.val (.ref a)] [(.int (1 : Int32)), (.int (0 : Int32))])
  refine own_step (fun _ k => XS.icmpYes X2.here hx rfl (pc0 := 10) (pc' := 28) rfl (hb hby d10_10) rfl (XT.ii_ne_t (by decide)) (by decide) (by decide) k) ?_
  show own_Fin _ _ _ _ _ _ _ T2 (mkF m 28 #[.val (.ref a)] [])
  refine own_step (fun _ k => XT.iconstV X2.here hx rfl (0 : Int32) (hb hby d10_28) (by decide) k) ?_
  show own_Fin _ _ _ _ _ _ _ T2 (mkF m 29 #[.val (.ref a)] [(.int (0 : Int32))])
  exact own_retZ X2 hx hrt hlk (hb hby d10_29) (Or.inl rfl) (by rw [e2]; exact ⟨rfl, rfl, rfl⟩) (by decide) (by decide)
set_option maxRecDepth 65536 in
set_option maxHeartbeats 40000000 in
theorem rm10_1 (l : Launch) (Z : State) (a0 : Array Value) (hw : ∀ d ∈ tables_1, d.before a0 Z = true) (h0 : Heap) (n0 : Nat) (a r em y : Addr) (ag lv : Int32) (Fl : Fld Z h0 a "com/example/libelect/libelect/simulation/Outcome" "leaders" "Ljava/util/List;" (.ref r)) (Fa : Fld Z h0 a "com/example/libelect/libelect/simulation/Outcome" "agreed" "I" (.int ag)) (Fv : Fld Z h0 a "com/example/libelect/libelect/simulation/Outcome" "live" "I" (.int lv)) (Rr : own_L12 Z h0 r em) (Sm : Sta Z h0 "java/util/ImmutableCollections" "EMPTY" "Ljava/lang/Object;" (.ref em)) (hye : y ≠ em) :
    own_Met l Z (⟨"com/example/libelect/libelect/simulation/Outcome", "elected", "()Z"⟩ : MethodName) prog_52_method_6_code 1 (some .boolean) [] ({ frames := 1, cells := 0, slots := 0, locals := 12 } : Room) #[(.ref a)] h0 (fun v h L => v = some (.int (if ag = lv then 1 else 0)) ∧ L = [] ∧ h = h0) := by
  refine own_body pn_com_example_libelect_libelect_simulation_Outcome ?_
  intro p e s m below meth c s₁ hx hby hml hZ hown hnm hrt hlk X0 e0
  have N0 := Fr.nil n0
  rw [ef_r_1]
  show own_Fin _ _ _ _ _ _ _ s₁ (mkF m 0 #[.val (.ref a)] [])
  refine own_step (fun _ k => XS.aloadN X0.here hx rfl (hb hby d10_0) rfl rfl k) ?_
  show own_Fin _ _ _ _ _ _ _ s₁ (mkF m 1 #[.val (.ref a)] [(.ref a)])
  refine own_getFV X0 hx hZ hown (hw _ (List.mem_of_getElem? (i := 67) rfl)) Via.refl e0 Fl (hb hby d10_1) ?_
  intro T1 X1 e1
  show own_Fin _ _ _ _ _ _ _ T1 (mkF m 4 #[.val (.ref a)] [(.ref r)])
  refine own_callI X1 hx hZ (b := r) (xi := (⟨"java/util/List", "size", "()I"⟩ : MethodName)) (argsL := []) (rest := []) hown (hw _ (List.mem_of_getElem? (i := 91) rfl)) (hw _ (List.mem_of_getElem? (i := 92) rfl)) (hw _ (List.mem_of_getElem? (i := 93) rfl)) (hw _ (List.mem_of_getElem? (i := 234) rfl)) (hw _ (List.mem_of_getElem? (i := 235) rfl)) (hw _ (List.mem_of_getElem? (i := 236) rfl)) (hw _ (List.mem_of_getElem? (i := 237) rfl)) (hw _ (List.mem_of_getElem? (i := 238) rfl)) (hw _ (List.mem_of_getElem? (i := 239) rfl)) (hw _ (List.mem_of_getElem? (i := 220) rfl)) rfl (by decide) Rr.1 (rm31_1 l Z a0 hw h0 n0 r em Rr Sm) e1 0 (Nat.le_of_eq rfl) (by decide) (by decide) (by decide) (by decide) (by rw [hml]; rfl) pd___I rfl rfl (hb hby d10_4) ?_
  rintro T2 _ _ X2 ⟨rfl, rfl, e2⟩
  rw [List.append_nil] at X2
  show own_Fin _ _ _ _ _ _ _ T2 (mkF m 9 #[.val (.ref a)] [(.int (1 : Int32))])
  refine own_step (fun _ k => XT.iconstV X2.here hx rfl (1 : Int32) (hb hby d10_9) (by decide) k) ?_
  show own_Fin _ _ _ _ _ _ _ T2 (mkF m 10 #[.val (.ref a)] [(.int (1 : Int32)), (.int (1 : Int32))])
  refine own_step (fun _ k => XS.icmpNo X2.here hx rfl (hb hby d10_10) rfl (XT.ii_ne_f (by decide)) k) ?_
  show own_Fin _ _ _ _ _ _ _ T2 (mkF m 13 #[.val (.ref a)] [])
  refine own_step (fun _ k => XS.aloadN X2.here hx rfl (hb hby d10_13) rfl rfl k) ?_
  show own_Fin _ _ _ _ _ _ _ T2 (mkF m 14 #[.val (.ref a)] [(.ref a)])
  refine own_getFV X2 hx hZ hown (hw _ (List.mem_of_getElem? (i := 69) rfl)) Via.refl e2 Fa (hb hby d10_14) ?_
  intro T3 X3 e3
  show own_Fin _ _ _ _ _ _ _ T3 (mkF m 17 #[.val (.ref a)] [(.int ag)])
  refine own_step (fun _ k => XS.aloadN X3.here hx rfl (hb hby d10_17) rfl rfl k) ?_
  show own_Fin _ _ _ _ _ _ _ T3 (mkF m 18 #[.val (.ref a)] [(.ref a), (.int ag)])
  refine own_getFV X3 hx hZ hown (hw _ (List.mem_of_getElem? (i := 36) rfl)) Via.refl e3 Fv (hb hby d10_18) ?_
  intro T4 X4 e4
  show own_Fin _ _ _ _ _ _ _ T4 (mkF m 21 #[.val (.ref a)] [(.int lv), (.int ag)])
  by_cases h21 : ag = lv
  · skip
    refine own_step (fun _ k => XS.icmpNo X4.here hx rfl (hb hby d10_21) rfl (XT.ii_ne_f h21) k) ?_
    show own_Fin _ _ _ _ _ _ _ T4 (mkF m 24 #[.val (.ref a)] [])
    refine own_step (fun _ k => XT.iconstV X4.here hx rfl (1 : Int32) (hb hby d10_24) (by decide) k) ?_
    show own_Fin _ _ _ _ _ _ _ T4 (mkF m 25 #[.val (.ref a)] [(.int (1 : Int32))])
    refine own_step (fun _ k => XS.goto X4.here hx rfl (pc0 := 25) (pc' := 29) rfl (hb hby d10_25) (by decide) (by decide) k) ?_
    show own_Fin _ _ _ _ _ _ _ T4 (mkF m 29 #[.val (.ref a)] [(.int (1 : Int32))])
    exact own_retZ X4 hx hrt hlk (hb hby d10_29) (Or.inr rfl) (by rw [e4]; exact ⟨by simp [h21], rfl, rfl⟩) (by decide) (by decide)
  · skip
    refine own_step (fun _ k => XS.icmpYes X4.here hx rfl (pc0 := 21) (pc' := 28) rfl (hb hby d10_21) rfl (XT.ii_ne_t h21) (by decide) (by decide) k) ?_
    show own_Fin _ _ _ _ _ _ _ T4 (mkF m 28 #[.val (.ref a)] [])
    refine own_step (fun _ k => XT.iconstV X4.here hx rfl (0 : Int32) (hb hby d10_28) (by decide) k) ?_
    show own_Fin _ _ _ _ _ _ _ T4 (mkF m 29 #[.val (.ref a)] [(.int (0 : Int32))])
    exact own_retZ X4 hx hrt hlk (hb hby d10_29) (Or.inl rfl) (by rw [e4]; exact ⟨by simp [h21], rfl, rfl⟩) (by decide) (by decide)
set_option maxRecDepth 65536 in
set_option maxHeartbeats 40000000 in
theorem rm10_2 (l : Launch) (Z : State) (a0 : Array Value) (hw : ∀ d ∈ tables_1, d.before a0 Z = true) (h0 : Heap) (n0 : Nat) (a r em y : Addr) (ag lv : Int32) (Fl : Fld Z h0 a "com/example/libelect/libelect/simulation/Outcome" "leaders" "Ljava/util/List;" (.ref r)) (Fa : Fld Z h0 a "com/example/libelect/libelect/simulation/Outcome" "agreed" "I" (.int ag)) (Fv : Fld Z h0 a "com/example/libelect/libelect/simulation/Outcome" "live" "I" (.int lv)) (Rr : own_L12 Z h0 r y) (Sm : Sta Z h0 "java/util/ImmutableCollections" "EMPTY" "Ljava/lang/Object;" (.ref em)) (hye : y ≠ em) :
    own_Met l Z (⟨"com/example/libelect/libelect/simulation/Outcome", "elected", "()Z"⟩ : MethodName) prog_52_method_6_code 1 (some .boolean) [] ({ frames := 1, cells := 0, slots := 0, locals := 12 } : Room) #[(.ref a)] h0 (fun v h L => v = some (.int 0) ∧ L = [] ∧ h = h0) := by
  refine own_body pn_com_example_libelect_libelect_simulation_Outcome ?_
  intro p e s m below meth c s₁ hx hby hml hZ hown hnm hrt hlk X0 e0
  have N0 := Fr.nil n0
  rw [ef_r_1]
  show own_Fin _ _ _ _ _ _ _ s₁ (mkF m 0 #[.val (.ref a)] [])
  refine own_step (fun _ k => XS.aloadN X0.here hx rfl (hb hby d10_0) rfl rfl k) ?_
  show own_Fin _ _ _ _ _ _ _ s₁ (mkF m 1 #[.val (.ref a)] [(.ref a)])
  refine own_getFV X0 hx hZ hown (hw _ (List.mem_of_getElem? (i := 67) rfl)) Via.refl e0 Fl (hb hby d10_1) ?_
  intro T1 X1 e1
  show own_Fin _ _ _ _ _ _ _ T1 (mkF m 4 #[.val (.ref a)] [(.ref r)])
  refine own_callI X1 hx hZ (b := r) (xi := (⟨"java/util/List", "size", "()I"⟩ : MethodName)) (argsL := []) (rest := []) hown (hw _ (List.mem_of_getElem? (i := 91) rfl)) (hw _ (List.mem_of_getElem? (i := 92) rfl)) (hw _ (List.mem_of_getElem? (i := 93) rfl)) (hw _ (List.mem_of_getElem? (i := 234) rfl)) (hw _ (List.mem_of_getElem? (i := 235) rfl)) (hw _ (List.mem_of_getElem? (i := 236) rfl)) (hw _ (List.mem_of_getElem? (i := 237) rfl)) (hw _ (List.mem_of_getElem? (i := 238) rfl)) (hw _ (List.mem_of_getElem? (i := 239) rfl)) (hw _ (List.mem_of_getElem? (i := 220) rfl)) rfl (by decide) Rr.1 (rm31_2 l Z a0 hw h0 n0 r em y Rr Sm hye) e1 0 (Nat.le_of_eq rfl) (by decide) (by decide) (by decide) (by decide) (by rw [hml]; rfl) pd___I rfl rfl (hb hby d10_4) ?_
  rintro T2 _ _ X2 ⟨rfl, rfl, e2⟩
  rw [List.append_nil] at X2
  show own_Fin _ _ _ _ _ _ _ T2 (mkF m 9 #[.val (.ref a)] [(.int (2 : Int32))])
  refine own_step (fun _ k => XT.iconstV X2.here hx rfl (1 : Int32) (hb hby d10_9) (by decide) k) ?_
  show own_Fin _ _ _ _ _ _ _ T2 (mkF m 10 #[.val (.ref a)] [(.int (1 : Int32)), (.int (2 : Int32))])
  refine own_step (fun _ k => XS.icmpYes X2.here hx rfl (pc0 := 10) (pc' := 28) rfl (hb hby d10_10) rfl (XT.ii_ne_t (by decide)) (by decide) (by decide) k) ?_
  show own_Fin _ _ _ _ _ _ _ T2 (mkF m 28 #[.val (.ref a)] [])
  refine own_step (fun _ k => XT.iconstV X2.here hx rfl (0 : Int32) (hb hby d10_28) (by decide) k) ?_
  show own_Fin _ _ _ _ _ _ _ T2 (mkF m 29 #[.val (.ref a)] [(.int (0 : Int32))])
  exact own_retZ X2 hx hrt hlk (hb hby d10_29) (Or.inl rfl) (by rw [e2]; exact ⟨rfl, rfl, rfl⟩) (by decide) (by decide)
set_option maxRecDepth 65536 in
set_option maxHeartbeats 40000000 in
theorem rm10_3 (l : Launch) (Z : State) (a0 : Array Value) (hw : ∀ d ∈ tables_1, d.before a0 Z = true) (h0 : Heap) (n0 : Nat) (a r em y : Addr) (ag lv : Int32) (Fl : Fld Z h0 a "com/example/libelect/libelect/simulation/Outcome" "leaders" "Ljava/util/List;" (.ref r)) (Fa : Fld Z h0 a "com/example/libelect/libelect/simulation/Outcome" "agreed" "I" (.int ag)) (Fv : Fld Z h0 a "com/example/libelect/libelect/simulation/Outcome" "live" "I" (.int lv)) (Rr : own_LN Z h0 r 3) (Sm : Sta Z h0 "java/util/ImmutableCollections" "EMPTY" "Ljava/lang/Object;" (.ref em)) (hye : y ≠ em) :
    own_Met l Z (⟨"com/example/libelect/libelect/simulation/Outcome", "elected", "()Z"⟩ : MethodName) prog_52_method_6_code 1 (some .boolean) [] ({ frames := 1, cells := 0, slots := 0, locals := 12 } : Room) #[(.ref a)] h0 (fun v h L => v = some (.int 0) ∧ L = [] ∧ h = h0) := by
  refine own_body pn_com_example_libelect_libelect_simulation_Outcome ?_
  intro p e s m below meth c s₁ hx hby hml hZ hown hnm hrt hlk X0 e0
  have N0 := Fr.nil n0
  rw [ef_r_1]
  show own_Fin _ _ _ _ _ _ _ s₁ (mkF m 0 #[.val (.ref a)] [])
  refine own_step (fun _ k => XS.aloadN X0.here hx rfl (hb hby d10_0) rfl rfl k) ?_
  show own_Fin _ _ _ _ _ _ _ s₁ (mkF m 1 #[.val (.ref a)] [(.ref a)])
  refine own_getFV X0 hx hZ hown (hw _ (List.mem_of_getElem? (i := 67) rfl)) Via.refl e0 Fl (hb hby d10_1) ?_
  intro T1 X1 e1
  show own_Fin _ _ _ _ _ _ _ T1 (mkF m 4 #[.val (.ref a)] [(.ref r)])
  refine own_callI X1 hx hZ (b := r) (xi := (⟨"java/util/List", "size", "()I"⟩ : MethodName)) (argsL := []) (rest := []) hown (hw _ (List.mem_of_getElem? (i := 91) rfl)) (hw _ (List.mem_of_getElem? (i := 92) rfl)) (hw _ (List.mem_of_getElem? (i := 93) rfl)) (hw _ (List.mem_of_getElem? (i := 94) rfl)) (hw _ (List.mem_of_getElem? (i := 95) rfl)) (hw _ (List.mem_of_getElem? (i := 96) rfl)) (hw _ (List.mem_of_getElem? (i := 97) rfl)) (hw _ (List.mem_of_getElem? (i := 98) rfl)) (hw _ (List.mem_of_getElem? (i := 100) rfl)) (hw _ (List.mem_of_getElem? (i := 99) rfl)) rfl (by decide) Rr.1 (rm11_3 l Z a0 hw h0 n0 r Rr) e1 0 (Nat.le_of_eq rfl) (by decide) (by decide) (by decide) (by decide) (by rw [hml]; rfl) pd___I rfl rfl (hb hby d10_4) ?_
  rintro T2 _ _ X2 ⟨rfl, rfl, e2⟩
  rw [List.append_nil] at X2
  show own_Fin _ _ _ _ _ _ _ T2 (mkF m 9 #[.val (.ref a)] [(.int (3 : Int32))])
  refine own_step (fun _ k => XT.iconstV X2.here hx rfl (1 : Int32) (hb hby d10_9) (by decide) k) ?_
  show own_Fin _ _ _ _ _ _ _ T2 (mkF m 10 #[.val (.ref a)] [(.int (1 : Int32)), (.int (3 : Int32))])
  refine own_step (fun _ k => XS.icmpYes X2.here hx rfl (pc0 := 10) (pc' := 28) rfl (hb hby d10_10) rfl (XT.ii_ne_t (by decide)) (by decide) (by decide) k) ?_
  show own_Fin _ _ _ _ _ _ _ T2 (mkF m 28 #[.val (.ref a)] [])
  refine own_step (fun _ k => XT.iconstV X2.here hx rfl (0 : Int32) (hb hby d10_28) (by decide) k) ?_
  show own_Fin _ _ _ _ _ _ _ T2 (mkF m 29 #[.val (.ref a)] [(.int (0 : Int32))])
  exact own_retZ X2 hx hrt hlk (hb hby d10_29) (Or.inl rfl) (by rw [e2]; exact ⟨rfl, rfl, rfl⟩) (by decide) (by decide)
theorem own_AL.wr {Z : State} {h h' : Heap} {a b arr : Addr} {n : Int32} {sl : Nat} {v : Value} (F : own_AL Z h a n arr) (W : Wr h h' b sl v) (q : a ≠ b) : own_AL Z h' a n arr := by
  obtain ⟨f1, ⟨mc, f2⟩, f3, f4⟩ := F
  exact ⟨f1.wr W, ⟨mc, f2.other W (Or.inl q)⟩, f3.other W (Or.inl q), f4.other W (Or.inl q)⟩
theorem own_L12.wr {Z : State} {h h' : Heap} {r x b : Addr} {sl : Nat} {v : Value} (F : own_L12 Z h r x) (W : Wr h h' b sl v) (q : r ≠ b) : own_L12 Z h' r x := ⟨F.1.wr W, F.2.other W (Or.inl q)⟩
theorem own_LN.wr {Z : State} {h h' : Heap} {r b : Addr} {z : Int32} {sl kk : Nat} {v : Value} {a0 : Array Value} {C : String} (F : own_LN Z h r z) (W : Wr h h' b sl v) (q : r ≠ b) (E : Exa Z h b C) (wi : (Jvm.Cond.instantiable C kk).before a0 Z = true) : own_LN Z h' r z := by
  obtain ⟨f1, ea, k, vs, f2, f3⟩ := F
  have hne : ea ≠ b := by obtain ⟨c, A, -⟩ := f3; exact (ne_arr E wi A).symm
  exact ⟨f1.wr W, ea, k, vs, f2.other W (Or.inl q), f3.other W hne⟩
theorem own_arv_ne {Z : State} {h : Heap} {a b : Addr} {k : ClassId} {ty : FieldType} {z : Int32} {vs : List Value} {d : Value} {C : String} {kk : Nat} {a0 : Array Value} (E : Exa Z h b C) (wi : (Jvm.Cond.instantiable C kk).before a0 Z = true) (A : Arv Z h a k ty z vs d) : a ≠ b := by
  obtain ⟨c, A, -⟩ := A; exact (ne_arr E wi A).symm
theorem d5_0 : decode prog_52_method_1_code 0 = .ok (.aload_n 0, 1) := by decide +kernel
theorem d5_1 : decode prog_52_method_1_code 1 = .ok (.invokespecial 1, 3) := by decide +kernel
theorem d5_4 : decode prog_52_method_1_code 4 = .ok (.aload_n 0, 1) := by decide +kernel
theorem d5_5 : decode prog_52_method_1_code 5 = .ok (.iload_n 1, 1) := by decide +kernel
theorem d5_6 : decode prog_52_method_1_code 6 = .ok (.putfield 7, 3) := by decide +kernel
theorem d5_9 : decode prog_52_method_1_code 9 = .ok (.aload_n 0, 1) := by decide +kernel
theorem d5_10 : decode prog_52_method_1_code 10 = .ok (.iload_n 2, 1) := by decide +kernel
theorem d5_11 : decode prog_52_method_1_code 11 = .ok (.putfield 13, 3) := by decide +kernel
theorem d5_14 : decode prog_52_method_1_code 14 = .ok (.aload_n 0, 1) := by decide +kernel
theorem d5_15 : decode prog_52_method_1_code 15 = .ok (.aload_n 3, 1) := by decide +kernel
theorem d5_16 : decode prog_52_method_1_code 16 = .ok (.invokestatic 16, 3) := by decide +kernel
theorem d5_19 : decode prog_52_method_1_code 19 = .ok (.putfield 22, 3) := by decide +kernel
theorem d5_22 : decode prog_52_method_1_code 22 = .ok (.aload_n 0, 1) := by decide +kernel
theorem d5_23 : decode prog_52_method_1_code 23 = .ok (.iload 4, 2) := by decide +kernel
theorem d5_25 : decode prog_52_method_1_code 25 = .ok (.putfield 26, 3) := by decide +kernel
theorem d5_28 : decode prog_52_method_1_code 28 = .ok (.aload_n 0, 1) := by decide +kernel
theorem d5_29 : decode prog_52_method_1_code 29 = .ok (.aload 5, 2) := by decide +kernel
theorem d5_31 : decode prog_52_method_1_code 31 = .ok (.invokestatic 16, 3) := by decide +kernel
theorem d5_34 : decode prog_52_method_1_code 34 = .ok (.putfield 29, 3) := by decide +kernel
theorem d5_37 : decode prog_52_method_1_code 37 = .ok (.aload_n 0, 1) := by decide +kernel
theorem d5_38 : decode prog_52_method_1_code 38 = .ok (.aload 6, 2) := by decide +kernel
theorem d5_40 : decode prog_52_method_1_code 40 = .ok (.invokevirtual 32, 3) := by decide +kernel
theorem d5_43 : decode prog_52_method_1_code 43 = .ok (.checkcast 33, 3) := by decide +kernel
theorem d5_46 : decode prog_52_method_1_code 46 = .ok (.putfield 38, 3) := by decide +kernel
theorem d5_49 : decode prog_52_method_1_code 49 = .ok (.aload_n 0, 1) := by decide +kernel
theorem d5_50 : decode prog_52_method_1_code 50 = .ok (.lload 7, 2) := by decide +kernel
theorem d5_52 : decode prog_52_method_1_code 52 = .ok (.putfield 41, 3) := by decide +kernel
theorem d5_55 : decode prog_52_method_1_code 55 = .ok (.return_, 1) := by decide +kernel
theorem ef_riirirrl_9 (m : MethodId) (x0 : Addr) (x1 : Int32) (x2 : Int32) (x3 : Addr) (x4 : Int32) (x5 : Addr) (x6 : Addr) (x7 : Int64) : entryFrame m #[(.ref x0), (.int x1), (.int x2), (.ref x3), (.int x4), (.ref x5), (.ref x6), (.long x7)] 9 = mkF m 0 #[.val (.ref x0), .val (.int x1), .val (.int x2), .val (.ref x3), .val (.int x4), .val (.ref x5), .val (.ref x6), .val (.long x7), .second] [] := by first | (simp [entryFrame, mkF, argsToLocals, Value.category]; done) | rfl
set_option maxRecDepth 65536 in
set_option maxHeartbeats 40000000 in
theorem rm5_0 (l : Launch) (Z : State) (a0 : Array Value) (hw : ∀ d ∈ tables_1, d.before a0 Z = true) (h0 : Heap) (n0 : Nat) (o a1 a2 ms el em df mr : Addr) (x1i x2i x3i : Int32) (t : Int64) (km : ClassId) (P_nodes : Fld Z h0 o "com/example/libelect/libelect/simulation/Outcome" "nodes" "I" (.int 0)) (P_live : Fld Z h0 o "com/example/libelect/libelect/simulation/Outcome" "live" "I" (.int 0)) (P_leaders : Fld Z h0 o "com/example/libelect/libelect/simulation/Outcome" "leaders" "Ljava/util/List;" .null) (P_agreed : Fld Z h0 o "com/example/libelect/libelect/simulation/Outcome" "agreed" "I" (.int 0)) (P_messageKinds : Fld Z h0 o "com/example/libelect/libelect/simulation/Outcome" "messageKinds" "Ljava/util/List;" .null) (P_messages : Fld Z h0 o "com/example/libelect/libelect/simulation/Outcome" "messages" "[J" .null) (P_time : Fld Z h0 o "com/example/libelect/libelect/simulation/Outcome" "time" "J" (.long 0)) (Eo : Exa Z h0 o "com/example/libelect/libelect/simulation/Outcome") (Lb : own_AL Z h0 a2 0 df) (Am : Arv Z h0 ms km .long 0 [] (.long 0)) (Bm : Exa Z h0 ms "[J") (Sl : Sta Z h0 "java/util/ImmutableCollections" "EMPTY_LIST" "Ljava/util/ImmutableCollections$ListN;" (.ref el)) (Sm : Sta Z h0 "java/util/ImmutableCollections" "EMPTY" "Ljava/lang/Object;" (.ref em)) (Rl : own_LN Z h0 el 0) (ge : n0 ≤ o) (gh : n0 ≤ h0.size) (Mr : own_Mir Z "[Ljava/lang/Object;" mr) (La : own_AL Z h0 a1 0 df) :
    own_Met l Z (⟨"com/example/libelect/libelect/simulation/Outcome", "<init>", "(IILjava/util/List;ILjava/util/List;[JJ)V"⟩ : MethodName) prog_52_method_1_code 9 none [] ({ frames := 9, cells := 4, slots := 8, locals := 116 } : Room) #[(.ref o), (.int x1i), (.int x2i), (.ref a1), (.int x3i), (.ref a2), (.ref ms), (.long t)] h0 (fun v h L => ∃ r, v = none ∧ Fr n0 L ∧ Exa Z h o "com/example/libelect/libelect/simulation/Outcome" ∧ Fld Z h o "com/example/libelect/libelect/simulation/Outcome" "leaders" "Ljava/util/List;" (.ref r) ∧ Fld Z h o "com/example/libelect/libelect/simulation/Outcome" "agreed" "I" (.int x3i) ∧ Fld Z h o "com/example/libelect/libelect/simulation/Outcome" "live" "I" (.int x2i) ∧ own_LN Z h r 0 ∧ Sta Z h "java/util/ImmutableCollections" "EMPTY" "Ljava/lang/Object;" (.ref em)) := by
  refine own_body pn_com_example_libelect_libelect_simulation_Outcome ?_
  intro p e s m below meth c s₁ hx hby hml hZ hown hnm hrt hlk X0 e0
  have N0 := Fr.nil n0
  rw [ef_riirirrl_9]
  show own_Fin _ _ _ _ _ _ _ s₁ (mkF m 0 #[.val (.ref o), .val (.int x1i), .val (.int x2i), .val (.ref a1), .val (.int x3i), .val (.ref a2), .val (.ref ms), .val (.long t), .second] [])
  refine own_step (fun _ k => XS.aloadN X0.here hx rfl (hb hby d5_0) rfl rfl k) ?_
  show own_Fin _ _ _ _ _ _ _ s₁ (mkF m 1 #[.val (.ref o), .val (.int x1i), .val (.int x2i), .val (.ref a1), .val (.int x3i), .val (.ref a2), .val (.ref ms), .val (.long t), .second] [(.ref o)])
  refine own_initO X0 hx hZ hown (hw _ (List.mem_of_getElem? (i := 33) rfl)) (hw _ (List.mem_of_getElem? (i := 19) rfl)) (hw _ (List.mem_of_getElem? (i := 20) rfl)) e0 (by rw [hml]; rfl) 0 (Nat.le_of_eq rfl) (by decide) (by decide) (hb hby d5_1) ?_
  intro T1 X1 e1
  show own_Fin _ _ _ _ _ _ _ T1 (mkF m 4 #[.val (.ref o), .val (.int x1i), .val (.int x2i), .val (.ref a1), .val (.int x3i), .val (.ref a2), .val (.ref ms), .val (.long t), .second] [])
  refine own_step (fun _ k => XS.aloadN X1.here hx rfl (hb hby d5_4) rfl rfl k) ?_
  show own_Fin _ _ _ _ _ _ _ T1 (mkF m 5 #[.val (.ref o), .val (.int x1i), .val (.int x2i), .val (.ref a1), .val (.int x3i), .val (.ref a2), .val (.ref ms), .val (.long t), .second] [(.ref o)])
  refine own_step (fun _ k => XS.iloadN X1.here hx rfl (hb hby d5_5) rfl k) ?_
  show own_Fin _ _ _ _ _ _ _ T1 (mkF m 6 #[.val (.ref o), .val (.int x1i), .val (.int x2i), .val (.ref a1), .val (.int x3i), .val (.ref a2), .val (.ref ms), .val (.long t), .second] [(.int x1i), (.ref o)])
  refine own_putF X1 hx hZ (O := "com/example/libelect/libelect/simulation/Outcome") hown (hw _ (List.mem_of_getElem? (i := 34) rfl)) Via.refl e1 P_nodes Eo (Or.inr ⟨(hw _ (List.mem_of_getElem? (i := 35) rfl)), rfl, hnm⟩) (hw _ (List.mem_of_getElem? (i := 28) rfl)) pf_I rfl rfl N0 ge (hb hby d5_6) ?_
  intro T2 hp2 L2 X2 e2 N2 W2
  replace Lb := Lb.wr W2 (ne_exa Lb.1 Eo (by decide))
  replace Am := Am.other W2 (own_arv_ne Eo (hw _ (List.mem_of_getElem? (i := 28) rfl)) Am)
  replace Bm := Bm.wr W2
  replace Sl := Sl.wr W2
  replace Sm := Sm.wr W2
  replace Rl := Rl.wr W2 (ne_exa Rl.1 Eo (by decide)) Eo (hw _ (List.mem_of_getElem? (i := 28) rfl))
  replace La := La.wr W2 (ne_exa La.1 Eo (by decide))
  replace Eo := Eo.wr W2
  replace P_nodes := P_nodes.same W2
  replace P_live := P_live.other W2 (Or.inr (slot_ne (Or.inr (hw _ (List.mem_of_getElem? (i := 37) rfl))) (Or.inr (hw _ (List.mem_of_getElem? (i := 35) rfl))) (by decide) pf_I pf_I))
  replace P_leaders := P_leaders.other W2 (Or.inr (slot_ne (Or.inr (hw _ (List.mem_of_getElem? (i := 68) rfl))) (Or.inr (hw _ (List.mem_of_getElem? (i := 35) rfl))) (by decide) pf_Ljava_util_List_ pf_I))
  replace P_agreed := P_agreed.other W2 (Or.inr (slot_ne (Or.inr (hw _ (List.mem_of_getElem? (i := 70) rfl))) (Or.inr (hw _ (List.mem_of_getElem? (i := 35) rfl))) (by decide) pf_I pf_I))
  replace P_messageKinds := P_messageKinds.other W2 (Or.inr (slot_ne (Or.inr (hw _ (List.mem_of_getElem? (i := 72) rfl))) (Or.inr (hw _ (List.mem_of_getElem? (i := 35) rfl))) (by decide) pf_Ljava_util_List_ pf_I))
  replace P_messages := P_messages.other W2 (Or.inr (slot_ne (Or.inr (hw _ (List.mem_of_getElem? (i := 83) rfl))) (Or.inr (hw _ (List.mem_of_getElem? (i := 35) rfl))) (by decide) pf__J pf_I))
  replace P_time := P_time.other W2 (Or.inr (slot_ne (Or.inr (hw _ (List.mem_of_getElem? (i := 85) rfl))) (Or.inr (hw _ (List.mem_of_getElem? (i := 35) rfl))) (by decide) pf_J pf_I))
  show own_Fin _ _ _ _ _ _ _ T2 (mkF m 9 #[.val (.ref o), .val (.int x1i), .val (.int x2i), .val (.ref a1), .val (.int x3i), .val (.ref a2), .val (.ref ms), .val (.long t), .second] [])
  refine own_step (fun _ k => XS.aloadN X2.here hx rfl (hb hby d5_9) rfl rfl k) ?_
  show own_Fin _ _ _ _ _ _ _ T2 (mkF m 10 #[.val (.ref o), .val (.int x1i), .val (.int x2i), .val (.ref a1), .val (.int x3i), .val (.ref a2), .val (.ref ms), .val (.long t), .second] [(.ref o)])
  refine own_step (fun _ k => XS.iloadN X2.here hx rfl (hb hby d5_10) rfl k) ?_
  show own_Fin _ _ _ _ _ _ _ T2 (mkF m 11 #[.val (.ref o), .val (.int x1i), .val (.int x2i), .val (.ref a1), .val (.int x3i), .val (.ref a2), .val (.ref ms), .val (.long t), .second] [(.int x2i), (.ref o)])
  refine own_putF X2 hx hZ (O := "com/example/libelect/libelect/simulation/Outcome") hown (hw _ (List.mem_of_getElem? (i := 36) rfl)) Via.refl e2 P_live Eo (Or.inr ⟨(hw _ (List.mem_of_getElem? (i := 37) rfl)), rfl, hnm⟩) (hw _ (List.mem_of_getElem? (i := 28) rfl)) pf_I rfl rfl N2 ge (hb hby d5_11) ?_
  intro T3 hp3 L3 X3 e3 N3 W3
  replace Lb := Lb.wr W3 (ne_exa Lb.1 Eo (by decide))
  replace Am := Am.other W3 (own_arv_ne Eo (hw _ (List.mem_of_getElem? (i := 28) rfl)) Am)
  replace Bm := Bm.wr W3
  replace Sl := Sl.wr W3
  replace Sm := Sm.wr W3
  replace Rl := Rl.wr W3 (ne_exa Rl.1 Eo (by decide)) Eo (hw _ (List.mem_of_getElem? (i := 28) rfl))
  replace La := La.wr W3 (ne_exa La.1 Eo (by decide))
  replace Eo := Eo.wr W3
  replace P_nodes := P_nodes.other W3 (Or.inr (slot_ne (Or.inr (hw _ (List.mem_of_getElem? (i := 35) rfl))) (Or.inr (hw _ (List.mem_of_getElem? (i := 37) rfl))) (by decide) pf_I pf_I))
  replace P_live := P_live.same W3
  replace P_leaders := P_leaders.other W3 (Or.inr (slot_ne (Or.inr (hw _ (List.mem_of_getElem? (i := 68) rfl))) (Or.inr (hw _ (List.mem_of_getElem? (i := 37) rfl))) (by decide) pf_Ljava_util_List_ pf_I))
  replace P_agreed := P_agreed.other W3 (Or.inr (slot_ne (Or.inr (hw _ (List.mem_of_getElem? (i := 70) rfl))) (Or.inr (hw _ (List.mem_of_getElem? (i := 37) rfl))) (by decide) pf_I pf_I))
  replace P_messageKinds := P_messageKinds.other W3 (Or.inr (slot_ne (Or.inr (hw _ (List.mem_of_getElem? (i := 72) rfl))) (Or.inr (hw _ (List.mem_of_getElem? (i := 37) rfl))) (by decide) pf_Ljava_util_List_ pf_I))
  replace P_messages := P_messages.other W3 (Or.inr (slot_ne (Or.inr (hw _ (List.mem_of_getElem? (i := 83) rfl))) (Or.inr (hw _ (List.mem_of_getElem? (i := 37) rfl))) (by decide) pf__J pf_I))
  replace P_time := P_time.other W3 (Or.inr (slot_ne (Or.inr (hw _ (List.mem_of_getElem? (i := 85) rfl))) (Or.inr (hw _ (List.mem_of_getElem? (i := 37) rfl))) (by decide) pf_J pf_I))
  show own_Fin _ _ _ _ _ _ _ T3 (mkF m 14 #[.val (.ref o), .val (.int x1i), .val (.int x2i), .val (.ref a1), .val (.int x3i), .val (.ref a2), .val (.ref ms), .val (.long t), .second] [])
  refine own_step (fun _ k => XS.aloadN X3.here hx rfl (hb hby d5_14) rfl rfl k) ?_
  show own_Fin _ _ _ _ _ _ _ T3 (mkF m 15 #[.val (.ref o), .val (.int x1i), .val (.int x2i), .val (.ref a1), .val (.int x3i), .val (.ref a2), .val (.ref ms), .val (.long t), .second] [(.ref o)])
  refine own_step (fun _ k => XS.aloadN X3.here hx rfl (hb hby d5_15) rfl rfl k) ?_
  show own_Fin _ _ _ _ _ _ _ T3 (mkF m 16 #[.val (.ref o), .val (.int x1i), .val (.int x2i), .val (.ref a1), .val (.int x3i), .val (.ref a2), .val (.ref ms), .val (.long t), .second] [(.ref a1), (.ref o)])
  refine own_callS X3 hx hZ (argsL := [(.ref a1)]) (rest := [(.ref o)]) hown (hw _ (List.mem_of_getElem? (i := 38) rfl)) (hw _ (List.mem_of_getElem? (i := 39) rfl)) (hw _ (List.mem_of_getElem? (i := 40) rfl)) (hw _ (List.mem_of_getElem? (i := 41) rfl)) (by decide) (rm6_0 l Z a0 hw hp3 n0 a1 el df La Sl) e3 1 (Nat.le_of_eq rfl) (by decide) (by decide) (by decide) (by decide) (by rw [hml]; rfl) pd__Ljava_util_Collection__Ljava_util_List_ rfl rfl (hb hby d5_16) ?_
  rintro T4 _ _ X4 ⟨rfl, rfl, e4⟩
  rw [List.append_nil] at X4
  show own_Fin _ _ _ _ _ _ _ T4 (mkF m 19 #[.val (.ref o), .val (.int x1i), .val (.int x2i), .val (.ref a1), .val (.int x3i), .val (.ref a2), .val (.ref ms), .val (.long t), .second] [(.ref el), (.ref o)])
  refine own_putF X4 hx hZ (O := "com/example/libelect/libelect/simulation/Outcome") hown (hw _ (List.mem_of_getElem? (i := 67) rfl)) Via.refl e4 P_leaders Eo (Or.inr ⟨(hw _ (List.mem_of_getElem? (i := 68) rfl)), rfl, hnm⟩) (hw _ (List.mem_of_getElem? (i := 28) rfl)) pf_Ljava_util_List_ rfl rfl N3 ge (hb hby d5_19) ?_
  intro T5 hp5 L5 X5 e5 N5 W5
  replace Lb := Lb.wr W5 (ne_exa Lb.1 Eo (by decide))
  replace Am := Am.other W5 (own_arv_ne Eo (hw _ (List.mem_of_getElem? (i := 28) rfl)) Am)
  replace Bm := Bm.wr W5
  replace Sl := Sl.wr W5
  replace Sm := Sm.wr W5
  replace Rl := Rl.wr W5 (ne_exa Rl.1 Eo (by decide)) Eo (hw _ (List.mem_of_getElem? (i := 28) rfl))
  replace La := La.wr W5 (ne_exa La.1 Eo (by decide))
  replace Eo := Eo.wr W5
  replace P_nodes := P_nodes.other W5 (Or.inr (slot_ne (Or.inr (hw _ (List.mem_of_getElem? (i := 35) rfl))) (Or.inr (hw _ (List.mem_of_getElem? (i := 68) rfl))) (by decide) pf_I pf_Ljava_util_List_))
  replace P_live := P_live.other W5 (Or.inr (slot_ne (Or.inr (hw _ (List.mem_of_getElem? (i := 37) rfl))) (Or.inr (hw _ (List.mem_of_getElem? (i := 68) rfl))) (by decide) pf_I pf_Ljava_util_List_))
  replace P_leaders := P_leaders.same W5
  replace P_agreed := P_agreed.other W5 (Or.inr (slot_ne (Or.inr (hw _ (List.mem_of_getElem? (i := 70) rfl))) (Or.inr (hw _ (List.mem_of_getElem? (i := 68) rfl))) (by decide) pf_I pf_Ljava_util_List_))
  replace P_messageKinds := P_messageKinds.other W5 (Or.inr (slot_ne (Or.inr (hw _ (List.mem_of_getElem? (i := 72) rfl))) (Or.inr (hw _ (List.mem_of_getElem? (i := 68) rfl))) (by decide) pf_Ljava_util_List_ pf_Ljava_util_List_))
  replace P_messages := P_messages.other W5 (Or.inr (slot_ne (Or.inr (hw _ (List.mem_of_getElem? (i := 83) rfl))) (Or.inr (hw _ (List.mem_of_getElem? (i := 68) rfl))) (by decide) pf__J pf_Ljava_util_List_))
  replace P_time := P_time.other W5 (Or.inr (slot_ne (Or.inr (hw _ (List.mem_of_getElem? (i := 85) rfl))) (Or.inr (hw _ (List.mem_of_getElem? (i := 68) rfl))) (by decide) pf_J pf_Ljava_util_List_))
  show own_Fin _ _ _ _ _ _ _ T5 (mkF m 22 #[.val (.ref o), .val (.int x1i), .val (.int x2i), .val (.ref a1), .val (.int x3i), .val (.ref a2), .val (.ref ms), .val (.long t), .second] [])
  refine own_step (fun _ k => XS.aloadN X5.here hx rfl (hb hby d5_22) rfl rfl k) ?_
  show own_Fin _ _ _ _ _ _ _ T5 (mkF m 23 #[.val (.ref o), .val (.int x1i), .val (.int x2i), .val (.ref a1), .val (.int x3i), .val (.ref a2), .val (.ref ms), .val (.long t), .second] [(.ref o)])
  refine own_step (fun _ k => XS.iload X5.here hx rfl (hb hby d5_23) rfl k) ?_
  show own_Fin _ _ _ _ _ _ _ T5 (mkF m 25 #[.val (.ref o), .val (.int x1i), .val (.int x2i), .val (.ref a1), .val (.int x3i), .val (.ref a2), .val (.ref ms), .val (.long t), .second] [(.int x3i), (.ref o)])
  refine own_putF X5 hx hZ (O := "com/example/libelect/libelect/simulation/Outcome") hown (hw _ (List.mem_of_getElem? (i := 69) rfl)) Via.refl e5 P_agreed Eo (Or.inr ⟨(hw _ (List.mem_of_getElem? (i := 70) rfl)), rfl, hnm⟩) (hw _ (List.mem_of_getElem? (i := 28) rfl)) pf_I rfl rfl N5 ge (hb hby d5_25) ?_
  intro T6 hp6 L6 X6 e6 N6 W6
  replace Lb := Lb.wr W6 (ne_exa Lb.1 Eo (by decide))
  replace Am := Am.other W6 (own_arv_ne Eo (hw _ (List.mem_of_getElem? (i := 28) rfl)) Am)
  replace Bm := Bm.wr W6
  replace Sl := Sl.wr W6
  replace Sm := Sm.wr W6
  replace Rl := Rl.wr W6 (ne_exa Rl.1 Eo (by decide)) Eo (hw _ (List.mem_of_getElem? (i := 28) rfl))
  replace La := La.wr W6 (ne_exa La.1 Eo (by decide))
  replace Eo := Eo.wr W6
  replace P_nodes := P_nodes.other W6 (Or.inr (slot_ne (Or.inr (hw _ (List.mem_of_getElem? (i := 35) rfl))) (Or.inr (hw _ (List.mem_of_getElem? (i := 70) rfl))) (by decide) pf_I pf_I))
  replace P_live := P_live.other W6 (Or.inr (slot_ne (Or.inr (hw _ (List.mem_of_getElem? (i := 37) rfl))) (Or.inr (hw _ (List.mem_of_getElem? (i := 70) rfl))) (by decide) pf_I pf_I))
  replace P_leaders := P_leaders.other W6 (Or.inr (slot_ne (Or.inr (hw _ (List.mem_of_getElem? (i := 68) rfl))) (Or.inr (hw _ (List.mem_of_getElem? (i := 70) rfl))) (by decide) pf_Ljava_util_List_ pf_I))
  replace P_agreed := P_agreed.same W6
  replace P_messageKinds := P_messageKinds.other W6 (Or.inr (slot_ne (Or.inr (hw _ (List.mem_of_getElem? (i := 72) rfl))) (Or.inr (hw _ (List.mem_of_getElem? (i := 70) rfl))) (by decide) pf_Ljava_util_List_ pf_I))
  replace P_messages := P_messages.other W6 (Or.inr (slot_ne (Or.inr (hw _ (List.mem_of_getElem? (i := 83) rfl))) (Or.inr (hw _ (List.mem_of_getElem? (i := 70) rfl))) (by decide) pf__J pf_I))
  replace P_time := P_time.other W6 (Or.inr (slot_ne (Or.inr (hw _ (List.mem_of_getElem? (i := 85) rfl))) (Or.inr (hw _ (List.mem_of_getElem? (i := 70) rfl))) (by decide) pf_J pf_I))
  show own_Fin _ _ _ _ _ _ _ T6 (mkF m 28 #[.val (.ref o), .val (.int x1i), .val (.int x2i), .val (.ref a1), .val (.int x3i), .val (.ref a2), .val (.ref ms), .val (.long t), .second] [])
  refine own_step (fun _ k => XS.aloadN X6.here hx rfl (hb hby d5_28) rfl rfl k) ?_
  show own_Fin _ _ _ _ _ _ _ T6 (mkF m 29 #[.val (.ref o), .val (.int x1i), .val (.int x2i), .val (.ref a1), .val (.int x3i), .val (.ref a2), .val (.ref ms), .val (.long t), .second] [(.ref o)])
  refine own_step (fun _ k => XS.aload X6.here hx rfl (hb hby d5_29) rfl rfl k) ?_
  show own_Fin _ _ _ _ _ _ _ T6 (mkF m 31 #[.val (.ref o), .val (.int x1i), .val (.int x2i), .val (.ref a1), .val (.int x3i), .val (.ref a2), .val (.ref ms), .val (.long t), .second] [(.ref a2), (.ref o)])
  refine own_callS X6 hx hZ (argsL := [(.ref a2)]) (rest := [(.ref o)]) hown (hw _ (List.mem_of_getElem? (i := 38) rfl)) (hw _ (List.mem_of_getElem? (i := 39) rfl)) (hw _ (List.mem_of_getElem? (i := 40) rfl)) (hw _ (List.mem_of_getElem? (i := 41) rfl)) (by decide) (rm6_0 l Z a0 hw hp6 n0 a2 el df Lb Sl) e6 1 (Nat.le_of_eq rfl) (by decide) (by decide) (by decide) (by decide) (by rw [hml]; rfl) pd__Ljava_util_Collection__Ljava_util_List_ rfl rfl (hb hby d5_31) ?_
  rintro T7 _ _ X7 ⟨rfl, rfl, e7⟩
  rw [List.append_nil] at X7
  show own_Fin _ _ _ _ _ _ _ T7 (mkF m 34 #[.val (.ref o), .val (.int x1i), .val (.int x2i), .val (.ref a1), .val (.int x3i), .val (.ref a2), .val (.ref ms), .val (.long t), .second] [(.ref el), (.ref o)])
  refine own_putF X7 hx hZ (O := "com/example/libelect/libelect/simulation/Outcome") hown (hw _ (List.mem_of_getElem? (i := 71) rfl)) Via.refl e7 P_messageKinds Eo (Or.inr ⟨(hw _ (List.mem_of_getElem? (i := 72) rfl)), rfl, hnm⟩) (hw _ (List.mem_of_getElem? (i := 28) rfl)) pf_Ljava_util_List_ rfl rfl N6 ge (hb hby d5_34) ?_
  intro T8 hp8 L8 X8 e8 N8 W8
  replace Lb := Lb.wr W8 (ne_exa Lb.1 Eo (by decide))
  replace Am := Am.other W8 (own_arv_ne Eo (hw _ (List.mem_of_getElem? (i := 28) rfl)) Am)
  replace Bm := Bm.wr W8
  replace Sl := Sl.wr W8
  replace Sm := Sm.wr W8
  replace Rl := Rl.wr W8 (ne_exa Rl.1 Eo (by decide)) Eo (hw _ (List.mem_of_getElem? (i := 28) rfl))
  replace La := La.wr W8 (ne_exa La.1 Eo (by decide))
  replace Eo := Eo.wr W8
  replace P_nodes := P_nodes.other W8 (Or.inr (slot_ne (Or.inr (hw _ (List.mem_of_getElem? (i := 35) rfl))) (Or.inr (hw _ (List.mem_of_getElem? (i := 72) rfl))) (by decide) pf_I pf_Ljava_util_List_))
  replace P_live := P_live.other W8 (Or.inr (slot_ne (Or.inr (hw _ (List.mem_of_getElem? (i := 37) rfl))) (Or.inr (hw _ (List.mem_of_getElem? (i := 72) rfl))) (by decide) pf_I pf_Ljava_util_List_))
  replace P_leaders := P_leaders.other W8 (Or.inr (slot_ne (Or.inr (hw _ (List.mem_of_getElem? (i := 68) rfl))) (Or.inr (hw _ (List.mem_of_getElem? (i := 72) rfl))) (by decide) pf_Ljava_util_List_ pf_Ljava_util_List_))
  replace P_agreed := P_agreed.other W8 (Or.inr (slot_ne (Or.inr (hw _ (List.mem_of_getElem? (i := 70) rfl))) (Or.inr (hw _ (List.mem_of_getElem? (i := 72) rfl))) (by decide) pf_I pf_Ljava_util_List_))
  replace P_messageKinds := P_messageKinds.same W8
  replace P_messages := P_messages.other W8 (Or.inr (slot_ne (Or.inr (hw _ (List.mem_of_getElem? (i := 83) rfl))) (Or.inr (hw _ (List.mem_of_getElem? (i := 72) rfl))) (by decide) pf__J pf_Ljava_util_List_))
  replace P_time := P_time.other W8 (Or.inr (slot_ne (Or.inr (hw _ (List.mem_of_getElem? (i := 85) rfl))) (Or.inr (hw _ (List.mem_of_getElem? (i := 72) rfl))) (by decide) pf_J pf_Ljava_util_List_))
  show own_Fin _ _ _ _ _ _ _ T8 (mkF m 37 #[.val (.ref o), .val (.int x1i), .val (.int x2i), .val (.ref a1), .val (.int x3i), .val (.ref a2), .val (.ref ms), .val (.long t), .second] [])
  refine own_step (fun _ k => XS.aloadN X8.here hx rfl (hb hby d5_37) rfl rfl k) ?_
  show own_Fin _ _ _ _ _ _ _ T8 (mkF m 38 #[.val (.ref o), .val (.int x1i), .val (.int x2i), .val (.ref a1), .val (.int x3i), .val (.ref a2), .val (.ref ms), .val (.long t), .second] [(.ref o)])
  refine own_step (fun _ k => XS.aload X8.here hx rfl (hb hby d5_38) rfl rfl k) ?_
  show own_Fin _ _ _ _ _ _ _ T8 (mkF m 40 #[.val (.ref o), .val (.int x1i), .val (.int x2i), .val (.ref a1), .val (.int x3i), .val (.ref a2), .val (.ref ms), .val (.long t), .second] [(.ref ms), (.ref o)])
  refine own_cloneA X8 hx hZ hown (hw _ (List.mem_of_getElem? (i := 73) rfl)) (hw _ (List.mem_of_getElem? (i := 74) rfl)) (hw _ (List.mem_of_getElem? (i := 78) rfl)) (hw _ (List.mem_of_getElem? (i := 76) rfl)) (hw _ (List.mem_of_getElem? (i := 77) rfl)) (hw _ (List.mem_of_getElem? (i := 79) rfl)) e8 Am rfl Bm (by rw [hml]; rfl) (by decide) 1 (Nat.le_of_eq rfl) (by decide) (by decide) (by decide) (hb hby d5_40) ?_
  intro T9 hp9 X9 e9 E9 B9
  replace Eo := Eo.ext E9
  replace Lb := Lb.ext E9
  replace Am := Am.ext E9
  replace Bm := Bm.ext E9
  replace Sl := Sl.ext E9
  replace Sm := Sm.ext E9
  replace Rl := Rl.ext E9
  replace La := La.ext E9
  replace P_nodes := P_nodes.ext E9
  replace P_live := P_live.ext E9
  replace P_leaders := P_leaders.ext E9
  replace P_agreed := P_agreed.ext E9
  replace P_messageKinds := P_messageKinds.ext E9
  replace P_messages := P_messages.ext E9
  replace P_time := P_time.ext E9
  show own_Fin _ _ _ _ _ _ _ T9 (mkF m 43 #[.val (.ref o), .val (.int x1i), .val (.int x2i), .val (.ref a1), .val (.int x3i), .val (.ref a2), .val (.ref ms), .val (.long t), .second] [(.ref hp8.size), (.ref o)])
  refine own_cast X9 hx hZ hown (hw _ (List.mem_of_getElem? (i := 80) rfl)) e9 (Ins.self B9) (hb hby d5_43) ?_
  intro T10 X10 e10
  show own_Fin _ _ _ _ _ _ _ T10 (mkF m 46 #[.val (.ref o), .val (.int x1i), .val (.int x2i), .val (.ref a1), .val (.int x3i), .val (.ref a2), .val (.ref ms), .val (.long t), .second] [(.ref hp8.size), (.ref o)])
  refine own_putF X10 hx hZ (O := "com/example/libelect/libelect/simulation/Outcome") hown (hw _ (List.mem_of_getElem? (i := 82) rfl)) Via.refl e10 P_messages Eo (Or.inr ⟨(hw _ (List.mem_of_getElem? (i := 83) rfl)), rfl, hnm⟩) (hw _ (List.mem_of_getElem? (i := 28) rfl)) pf__J rfl rfl N8 ge (hb hby d5_46) ?_
  intro T11 hp11 L11 X11 e11 N11 W11
  replace Lb := Lb.wr W11 (ne_exa Lb.1 Eo (by decide))
  replace Am := Am.other W11 (own_arv_ne Eo (hw _ (List.mem_of_getElem? (i := 28) rfl)) Am)
  replace Bm := Bm.wr W11
  replace Sl := Sl.wr W11
  replace Sm := Sm.wr W11
  replace Rl := Rl.wr W11 (ne_exa Rl.1 Eo (by decide)) Eo (hw _ (List.mem_of_getElem? (i := 28) rfl))
  replace La := La.wr W11 (ne_exa La.1 Eo (by decide))
  replace Eo := Eo.wr W11
  replace P_nodes := P_nodes.other W11 (Or.inr (slot_ne (Or.inr (hw _ (List.mem_of_getElem? (i := 35) rfl))) (Or.inr (hw _ (List.mem_of_getElem? (i := 83) rfl))) (by decide) pf_I pf__J))
  replace P_live := P_live.other W11 (Or.inr (slot_ne (Or.inr (hw _ (List.mem_of_getElem? (i := 37) rfl))) (Or.inr (hw _ (List.mem_of_getElem? (i := 83) rfl))) (by decide) pf_I pf__J))
  replace P_leaders := P_leaders.other W11 (Or.inr (slot_ne (Or.inr (hw _ (List.mem_of_getElem? (i := 68) rfl))) (Or.inr (hw _ (List.mem_of_getElem? (i := 83) rfl))) (by decide) pf_Ljava_util_List_ pf__J))
  replace P_agreed := P_agreed.other W11 (Or.inr (slot_ne (Or.inr (hw _ (List.mem_of_getElem? (i := 70) rfl))) (Or.inr (hw _ (List.mem_of_getElem? (i := 83) rfl))) (by decide) pf_I pf__J))
  replace P_messageKinds := P_messageKinds.other W11 (Or.inr (slot_ne (Or.inr (hw _ (List.mem_of_getElem? (i := 72) rfl))) (Or.inr (hw _ (List.mem_of_getElem? (i := 83) rfl))) (by decide) pf_Ljava_util_List_ pf__J))
  replace P_messages := P_messages.same W11
  replace P_time := P_time.other W11 (Or.inr (slot_ne (Or.inr (hw _ (List.mem_of_getElem? (i := 85) rfl))) (Or.inr (hw _ (List.mem_of_getElem? (i := 83) rfl))) (by decide) pf_J pf__J))
  show own_Fin _ _ _ _ _ _ _ T11 (mkF m 49 #[.val (.ref o), .val (.int x1i), .val (.int x2i), .val (.ref a1), .val (.int x3i), .val (.ref a2), .val (.ref ms), .val (.long t), .second] [])
  refine own_step (fun _ k => XS.aloadN X11.here hx rfl (hb hby d5_49) rfl rfl k) ?_
  show own_Fin _ _ _ _ _ _ _ T11 (mkF m 50 #[.val (.ref o), .val (.int x1i), .val (.int x2i), .val (.ref a1), .val (.int x3i), .val (.ref a2), .val (.ref ms), .val (.long t), .second] [(.ref o)])
  refine own_step (fun _ k => XT.lload X11.here hx rfl (hb hby d5_50) rfl k) ?_
  show own_Fin _ _ _ _ _ _ _ T11 (mkF m 52 #[.val (.ref o), .val (.int x1i), .val (.int x2i), .val (.ref a1), .val (.int x3i), .val (.ref a2), .val (.ref ms), .val (.long t), .second] [(.long t), (.ref o)])
  refine own_putF X11 hx hZ (O := "com/example/libelect/libelect/simulation/Outcome") hown (hw _ (List.mem_of_getElem? (i := 84) rfl)) Via.refl e11 P_time Eo (Or.inr ⟨(hw _ (List.mem_of_getElem? (i := 85) rfl)), rfl, hnm⟩) (hw _ (List.mem_of_getElem? (i := 28) rfl)) pf_J rfl rfl N11 ge (hb hby d5_52) ?_
  intro T12 hp12 L12 X12 e12 N12 W12
  replace Lb := Lb.wr W12 (ne_exa Lb.1 Eo (by decide))
  replace Am := Am.other W12 (own_arv_ne Eo (hw _ (List.mem_of_getElem? (i := 28) rfl)) Am)
  replace Bm := Bm.wr W12
  replace Sl := Sl.wr W12
  replace Sm := Sm.wr W12
  replace Rl := Rl.wr W12 (ne_exa Rl.1 Eo (by decide)) Eo (hw _ (List.mem_of_getElem? (i := 28) rfl))
  replace La := La.wr W12 (ne_exa La.1 Eo (by decide))
  replace Eo := Eo.wr W12
  replace P_nodes := P_nodes.other W12 (Or.inr (slot_ne (Or.inr (hw _ (List.mem_of_getElem? (i := 35) rfl))) (Or.inr (hw _ (List.mem_of_getElem? (i := 85) rfl))) (by decide) pf_I pf_J))
  replace P_live := P_live.other W12 (Or.inr (slot_ne (Or.inr (hw _ (List.mem_of_getElem? (i := 37) rfl))) (Or.inr (hw _ (List.mem_of_getElem? (i := 85) rfl))) (by decide) pf_I pf_J))
  replace P_leaders := P_leaders.other W12 (Or.inr (slot_ne (Or.inr (hw _ (List.mem_of_getElem? (i := 68) rfl))) (Or.inr (hw _ (List.mem_of_getElem? (i := 85) rfl))) (by decide) pf_Ljava_util_List_ pf_J))
  replace P_agreed := P_agreed.other W12 (Or.inr (slot_ne (Or.inr (hw _ (List.mem_of_getElem? (i := 70) rfl))) (Or.inr (hw _ (List.mem_of_getElem? (i := 85) rfl))) (by decide) pf_I pf_J))
  replace P_messageKinds := P_messageKinds.other W12 (Or.inr (slot_ne (Or.inr (hw _ (List.mem_of_getElem? (i := 72) rfl))) (Or.inr (hw _ (List.mem_of_getElem? (i := 85) rfl))) (by decide) pf_Ljava_util_List_ pf_J))
  replace P_messages := P_messages.other W12 (Or.inr (slot_ne (Or.inr (hw _ (List.mem_of_getElem? (i := 83) rfl))) (Or.inr (hw _ (List.mem_of_getElem? (i := 85) rfl))) (by decide) pf__J pf_J))
  replace P_time := P_time.same W12
  show own_Fin _ _ _ _ _ _ _ T12 (mkF m 55 #[.val (.ref o), .val (.int x1i), .val (.int x2i), .val (.ref a1), .val (.int x3i), .val (.ref a2), .val (.ref ms), .val (.long t), .second] [])
  exact own_retV X12 hx hrt hlk (hb hby d5_55) (by rw [e12]; exact ⟨_, rfl, N12, Eo, P_leaders, P_agreed, P_live, Rl, Sm⟩) (by decide) (by decide)
set_option maxRecDepth 65536 in
set_option maxHeartbeats 40000000 in
theorem rm5_1 (l : Launch) (Z : State) (a0 : Array Value) (hw : ∀ d ∈ tables_1, d.before a0 Z = true) (h0 : Heap) (n0 : Nat) (o a1 a2 ms el em df mr ar : Addr) (x1i x2i x3i : Int32) (t : Int64) (km k : ClassId) (x1 : Addr) (P_nodes : Fld Z h0 o "com/example/libelect/libelect/simulation/Outcome" "nodes" "I" (.int 0)) (P_live : Fld Z h0 o "com/example/libelect/libelect/simulation/Outcome" "live" "I" (.int 0)) (P_leaders : Fld Z h0 o "com/example/libelect/libelect/simulation/Outcome" "leaders" "Ljava/util/List;" .null) (P_agreed : Fld Z h0 o "com/example/libelect/libelect/simulation/Outcome" "agreed" "I" (.int 0)) (P_messageKinds : Fld Z h0 o "com/example/libelect/libelect/simulation/Outcome" "messageKinds" "Ljava/util/List;" .null) (P_messages : Fld Z h0 o "com/example/libelect/libelect/simulation/Outcome" "messages" "[J" .null) (P_time : Fld Z h0 o "com/example/libelect/libelect/simulation/Outcome" "time" "J" (.long 0)) (Eo : Exa Z h0 o "com/example/libelect/libelect/simulation/Outcome") (Lb : own_AL Z h0 a2 0 df) (Am : Arv Z h0 ms km .long 0 [] (.long 0)) (Bm : Exa Z h0 ms "[J") (Sl : Sta Z h0 "java/util/ImmutableCollections" "EMPTY_LIST" "Ljava/util/ImmutableCollections$ListN;" (.ref el)) (Sm : Sta Z h0 "java/util/ImmutableCollections" "EMPTY" "Ljava/lang/Object;" (.ref em)) (Rl : own_LN Z h0 el 0) (ge : n0 ≤ o) (gh : n0 ≤ h0.size) (Mr : own_Mir Z "[Ljava/lang/Object;" mr) (La : own_AL Z h0 a1 1 ar) (Aa : Arv Z h0 ar k (.object "java/lang/Object") 10 [.ref x1] .null) (Ba : Exa Z h0 ar "[Ljava/lang/Object;") (Ex1 : Exa Z h0 x1 "java/lang/Long") :
    own_Met l Z (⟨"com/example/libelect/libelect/simulation/Outcome", "<init>", "(IILjava/util/List;ILjava/util/List;[JJ)V"⟩ : MethodName) prog_52_method_1_code 9 none [] ({ frames := 9, cells := 4, slots := 8, locals := 116 } : Room) #[(.ref o), (.int x1i), (.int x2i), (.ref a1), (.int x3i), (.ref a2), (.ref ms), (.long t)] h0 (fun v h L => ∃ r, v = none ∧ Fr n0 L ∧ Exa Z h o "com/example/libelect/libelect/simulation/Outcome" ∧ Fld Z h o "com/example/libelect/libelect/simulation/Outcome" "leaders" "Ljava/util/List;" (.ref r) ∧ Fld Z h o "com/example/libelect/libelect/simulation/Outcome" "agreed" "I" (.int x3i) ∧ Fld Z h o "com/example/libelect/libelect/simulation/Outcome" "live" "I" (.int x2i) ∧ own_L12 Z h r em ∧ Sta Z h "java/util/ImmutableCollections" "EMPTY" "Ljava/lang/Object;" (.ref em)) := by
  refine own_body pn_com_example_libelect_libelect_simulation_Outcome ?_
  intro p e s m below meth c s₁ hx hby hml hZ hown hnm hrt hlk X0 e0
  have N0 := Fr.nil n0
  rw [ef_riirirrl_9]
  show own_Fin _ _ _ _ _ _ _ s₁ (mkF m 0 #[.val (.ref o), .val (.int x1i), .val (.int x2i), .val (.ref a1), .val (.int x3i), .val (.ref a2), .val (.ref ms), .val (.long t), .second] [])
  refine own_step (fun _ k => XS.aloadN X0.here hx rfl (hb hby d5_0) rfl rfl k) ?_
  show own_Fin _ _ _ _ _ _ _ s₁ (mkF m 1 #[.val (.ref o), .val (.int x1i), .val (.int x2i), .val (.ref a1), .val (.int x3i), .val (.ref a2), .val (.ref ms), .val (.long t), .second] [(.ref o)])
  refine own_initO X0 hx hZ hown (hw _ (List.mem_of_getElem? (i := 33) rfl)) (hw _ (List.mem_of_getElem? (i := 19) rfl)) (hw _ (List.mem_of_getElem? (i := 20) rfl)) e0 (by rw [hml]; rfl) 0 (Nat.le_of_eq rfl) (by decide) (by decide) (hb hby d5_1) ?_
  intro T1 X1 e1
  show own_Fin _ _ _ _ _ _ _ T1 (mkF m 4 #[.val (.ref o), .val (.int x1i), .val (.int x2i), .val (.ref a1), .val (.int x3i), .val (.ref a2), .val (.ref ms), .val (.long t), .second] [])
  refine own_step (fun _ k => XS.aloadN X1.here hx rfl (hb hby d5_4) rfl rfl k) ?_
  show own_Fin _ _ _ _ _ _ _ T1 (mkF m 5 #[.val (.ref o), .val (.int x1i), .val (.int x2i), .val (.ref a1), .val (.int x3i), .val (.ref a2), .val (.ref ms), .val (.long t), .second] [(.ref o)])
  refine own_step (fun _ k => XS.iloadN X1.here hx rfl (hb hby d5_5) rfl k) ?_
  show own_Fin _ _ _ _ _ _ _ T1 (mkF m 6 #[.val (.ref o), .val (.int x1i), .val (.int x2i), .val (.ref a1), .val (.int x3i), .val (.ref a2), .val (.ref ms), .val (.long t), .second] [(.int x1i), (.ref o)])
  refine own_putF X1 hx hZ (O := "com/example/libelect/libelect/simulation/Outcome") hown (hw _ (List.mem_of_getElem? (i := 34) rfl)) Via.refl e1 P_nodes Eo (Or.inr ⟨(hw _ (List.mem_of_getElem? (i := 35) rfl)), rfl, hnm⟩) (hw _ (List.mem_of_getElem? (i := 28) rfl)) pf_I rfl rfl N0 ge (hb hby d5_6) ?_
  intro T2 hp2 L2 X2 e2 N2 W2
  replace Lb := Lb.wr W2 (ne_exa Lb.1 Eo (by decide))
  replace Am := Am.other W2 (own_arv_ne Eo (hw _ (List.mem_of_getElem? (i := 28) rfl)) Am)
  replace Bm := Bm.wr W2
  replace Sl := Sl.wr W2
  replace Sm := Sm.wr W2
  replace Rl := Rl.wr W2 (ne_exa Rl.1 Eo (by decide)) Eo (hw _ (List.mem_of_getElem? (i := 28) rfl))
  replace La := La.wr W2 (ne_exa La.1 Eo (by decide))
  replace Aa := Aa.other W2 (own_arv_ne Eo (hw _ (List.mem_of_getElem? (i := 28) rfl)) Aa)
  replace Ba := Ba.wr W2
  replace Ex1 := Ex1.wr W2
  replace Eo := Eo.wr W2
  replace P_nodes := P_nodes.same W2
  replace P_live := P_live.other W2 (Or.inr (slot_ne (Or.inr (hw _ (List.mem_of_getElem? (i := 37) rfl))) (Or.inr (hw _ (List.mem_of_getElem? (i := 35) rfl))) (by decide) pf_I pf_I))
  replace P_leaders := P_leaders.other W2 (Or.inr (slot_ne (Or.inr (hw _ (List.mem_of_getElem? (i := 68) rfl))) (Or.inr (hw _ (List.mem_of_getElem? (i := 35) rfl))) (by decide) pf_Ljava_util_List_ pf_I))
  replace P_agreed := P_agreed.other W2 (Or.inr (slot_ne (Or.inr (hw _ (List.mem_of_getElem? (i := 70) rfl))) (Or.inr (hw _ (List.mem_of_getElem? (i := 35) rfl))) (by decide) pf_I pf_I))
  replace P_messageKinds := P_messageKinds.other W2 (Or.inr (slot_ne (Or.inr (hw _ (List.mem_of_getElem? (i := 72) rfl))) (Or.inr (hw _ (List.mem_of_getElem? (i := 35) rfl))) (by decide) pf_Ljava_util_List_ pf_I))
  replace P_messages := P_messages.other W2 (Or.inr (slot_ne (Or.inr (hw _ (List.mem_of_getElem? (i := 83) rfl))) (Or.inr (hw _ (List.mem_of_getElem? (i := 35) rfl))) (by decide) pf__J pf_I))
  replace P_time := P_time.other W2 (Or.inr (slot_ne (Or.inr (hw _ (List.mem_of_getElem? (i := 85) rfl))) (Or.inr (hw _ (List.mem_of_getElem? (i := 35) rfl))) (by decide) pf_J pf_I))
  show own_Fin _ _ _ _ _ _ _ T2 (mkF m 9 #[.val (.ref o), .val (.int x1i), .val (.int x2i), .val (.ref a1), .val (.int x3i), .val (.ref a2), .val (.ref ms), .val (.long t), .second] [])
  refine own_step (fun _ k => XS.aloadN X2.here hx rfl (hb hby d5_9) rfl rfl k) ?_
  show own_Fin _ _ _ _ _ _ _ T2 (mkF m 10 #[.val (.ref o), .val (.int x1i), .val (.int x2i), .val (.ref a1), .val (.int x3i), .val (.ref a2), .val (.ref ms), .val (.long t), .second] [(.ref o)])
  refine own_step (fun _ k => XS.iloadN X2.here hx rfl (hb hby d5_10) rfl k) ?_
  show own_Fin _ _ _ _ _ _ _ T2 (mkF m 11 #[.val (.ref o), .val (.int x1i), .val (.int x2i), .val (.ref a1), .val (.int x3i), .val (.ref a2), .val (.ref ms), .val (.long t), .second] [(.int x2i), (.ref o)])
  refine own_putF X2 hx hZ (O := "com/example/libelect/libelect/simulation/Outcome") hown (hw _ (List.mem_of_getElem? (i := 36) rfl)) Via.refl e2 P_live Eo (Or.inr ⟨(hw _ (List.mem_of_getElem? (i := 37) rfl)), rfl, hnm⟩) (hw _ (List.mem_of_getElem? (i := 28) rfl)) pf_I rfl rfl N2 ge (hb hby d5_11) ?_
  intro T3 hp3 L3 X3 e3 N3 W3
  replace Lb := Lb.wr W3 (ne_exa Lb.1 Eo (by decide))
  replace Am := Am.other W3 (own_arv_ne Eo (hw _ (List.mem_of_getElem? (i := 28) rfl)) Am)
  replace Bm := Bm.wr W3
  replace Sl := Sl.wr W3
  replace Sm := Sm.wr W3
  replace Rl := Rl.wr W3 (ne_exa Rl.1 Eo (by decide)) Eo (hw _ (List.mem_of_getElem? (i := 28) rfl))
  replace La := La.wr W3 (ne_exa La.1 Eo (by decide))
  replace Aa := Aa.other W3 (own_arv_ne Eo (hw _ (List.mem_of_getElem? (i := 28) rfl)) Aa)
  replace Ba := Ba.wr W3
  replace Ex1 := Ex1.wr W3
  replace Eo := Eo.wr W3
  replace P_nodes := P_nodes.other W3 (Or.inr (slot_ne (Or.inr (hw _ (List.mem_of_getElem? (i := 35) rfl))) (Or.inr (hw _ (List.mem_of_getElem? (i := 37) rfl))) (by decide) pf_I pf_I))
  replace P_live := P_live.same W3
  replace P_leaders := P_leaders.other W3 (Or.inr (slot_ne (Or.inr (hw _ (List.mem_of_getElem? (i := 68) rfl))) (Or.inr (hw _ (List.mem_of_getElem? (i := 37) rfl))) (by decide) pf_Ljava_util_List_ pf_I))
  replace P_agreed := P_agreed.other W3 (Or.inr (slot_ne (Or.inr (hw _ (List.mem_of_getElem? (i := 70) rfl))) (Or.inr (hw _ (List.mem_of_getElem? (i := 37) rfl))) (by decide) pf_I pf_I))
  replace P_messageKinds := P_messageKinds.other W3 (Or.inr (slot_ne (Or.inr (hw _ (List.mem_of_getElem? (i := 72) rfl))) (Or.inr (hw _ (List.mem_of_getElem? (i := 37) rfl))) (by decide) pf_Ljava_util_List_ pf_I))
  replace P_messages := P_messages.other W3 (Or.inr (slot_ne (Or.inr (hw _ (List.mem_of_getElem? (i := 83) rfl))) (Or.inr (hw _ (List.mem_of_getElem? (i := 37) rfl))) (by decide) pf__J pf_I))
  replace P_time := P_time.other W3 (Or.inr (slot_ne (Or.inr (hw _ (List.mem_of_getElem? (i := 85) rfl))) (Or.inr (hw _ (List.mem_of_getElem? (i := 37) rfl))) (by decide) pf_J pf_I))
  show own_Fin _ _ _ _ _ _ _ T3 (mkF m 14 #[.val (.ref o), .val (.int x1i), .val (.int x2i), .val (.ref a1), .val (.int x3i), .val (.ref a2), .val (.ref ms), .val (.long t), .second] [])
  refine own_step (fun _ k => XS.aloadN X3.here hx rfl (hb hby d5_14) rfl rfl k) ?_
  show own_Fin _ _ _ _ _ _ _ T3 (mkF m 15 #[.val (.ref o), .val (.int x1i), .val (.int x2i), .val (.ref a1), .val (.int x3i), .val (.ref a2), .val (.ref ms), .val (.long t), .second] [(.ref o)])
  refine own_step (fun _ k => XS.aloadN X3.here hx rfl (hb hby d5_15) rfl rfl k) ?_
  show own_Fin _ _ _ _ _ _ _ T3 (mkF m 16 #[.val (.ref o), .val (.int x1i), .val (.int x2i), .val (.ref a1), .val (.int x3i), .val (.ref a2), .val (.ref ms), .val (.long t), .second] [(.ref a1), (.ref o)])
  have gh1 : n0 ≤ hp3.size := Nat.le_of_lt (Nat.lt_of_le_of_lt ge Eo.lt)
  refine own_callS X3 hx hZ (argsL := [(.ref a1)]) (rest := [(.ref o)]) hown (hw _ (List.mem_of_getElem? (i := 38) rfl)) (hw _ (List.mem_of_getElem? (i := 39) rfl)) (hw _ (List.mem_of_getElem? (i := 40) rfl)) (hw _ (List.mem_of_getElem? (i := 41) rfl)) (by decide) (rm6_1 l Z a0 hw hp3 n0 a1 ar em mr k x1 La Aa Ba Mr Sm gh1 Ex1) e3 1 (Nat.le_of_eq rfl) (by decide) (by decide) (by decide) (by decide) (by rw [hml]; rfl) pd__Ljava_util_Collection__Ljava_util_List_ rfl rfl (hb hby d5_16) ?_
  rintro T4 L4 _ X4 ⟨rr, rfl, F4, E4, Rr⟩
  have N4 := Fr.app N3 F4
  replace Eo := Eo.ext E4
  replace Lb := Lb.ext E4
  replace Am := Am.ext E4
  replace Bm := Bm.ext E4
  replace Sl := Sl.ext E4
  replace Sm := Sm.ext E4
  replace Rl := Rl.ext E4
  replace La := La.ext E4
  replace Aa := Aa.ext E4
  replace Ba := Ba.ext E4
  replace Ex1 := Ex1.ext E4
  replace P_nodes := P_nodes.ext E4
  replace P_live := P_live.ext E4
  replace P_leaders := P_leaders.ext E4
  replace P_agreed := P_agreed.ext E4
  replace P_messageKinds := P_messageKinds.ext E4
  replace P_messages := P_messages.ext E4
  replace P_time := P_time.ext E4
  show own_Fin _ _ _ _ _ _ _ T4 (mkF m 19 #[.val (.ref o), .val (.int x1i), .val (.int x2i), .val (.ref a1), .val (.int x3i), .val (.ref a2), .val (.ref ms), .val (.long t), .second] [(.ref rr), (.ref o)])
  refine own_putF X4 hx hZ (O := "com/example/libelect/libelect/simulation/Outcome") hown (hw _ (List.mem_of_getElem? (i := 67) rfl)) Via.refl rfl P_leaders Eo (Or.inr ⟨(hw _ (List.mem_of_getElem? (i := 68) rfl)), rfl, hnm⟩) (hw _ (List.mem_of_getElem? (i := 28) rfl)) pf_Ljava_util_List_ rfl rfl N4 ge (hb hby d5_19) ?_
  intro T5 hp5 L5 X5 e5 N5 W5
  replace Lb := Lb.wr W5 (ne_exa Lb.1 Eo (by decide))
  replace Am := Am.other W5 (own_arv_ne Eo (hw _ (List.mem_of_getElem? (i := 28) rfl)) Am)
  replace Bm := Bm.wr W5
  replace Sl := Sl.wr W5
  replace Sm := Sm.wr W5
  replace Rl := Rl.wr W5 (ne_exa Rl.1 Eo (by decide)) Eo (hw _ (List.mem_of_getElem? (i := 28) rfl))
  replace La := La.wr W5 (ne_exa La.1 Eo (by decide))
  replace Aa := Aa.other W5 (own_arv_ne Eo (hw _ (List.mem_of_getElem? (i := 28) rfl)) Aa)
  replace Ba := Ba.wr W5
  replace Ex1 := Ex1.wr W5
  replace Rr := Rr.wr W5 (ne_exa Rr.1 Eo (by decide))
  replace Eo := Eo.wr W5
  replace P_nodes := P_nodes.other W5 (Or.inr (slot_ne (Or.inr (hw _ (List.mem_of_getElem? (i := 35) rfl))) (Or.inr (hw _ (List.mem_of_getElem? (i := 68) rfl))) (by decide) pf_I pf_Ljava_util_List_))
  replace P_live := P_live.other W5 (Or.inr (slot_ne (Or.inr (hw _ (List.mem_of_getElem? (i := 37) rfl))) (Or.inr (hw _ (List.mem_of_getElem? (i := 68) rfl))) (by decide) pf_I pf_Ljava_util_List_))
  replace P_leaders := P_leaders.same W5
  replace P_agreed := P_agreed.other W5 (Or.inr (slot_ne (Or.inr (hw _ (List.mem_of_getElem? (i := 70) rfl))) (Or.inr (hw _ (List.mem_of_getElem? (i := 68) rfl))) (by decide) pf_I pf_Ljava_util_List_))
  replace P_messageKinds := P_messageKinds.other W5 (Or.inr (slot_ne (Or.inr (hw _ (List.mem_of_getElem? (i := 72) rfl))) (Or.inr (hw _ (List.mem_of_getElem? (i := 68) rfl))) (by decide) pf_Ljava_util_List_ pf_Ljava_util_List_))
  replace P_messages := P_messages.other W5 (Or.inr (slot_ne (Or.inr (hw _ (List.mem_of_getElem? (i := 83) rfl))) (Or.inr (hw _ (List.mem_of_getElem? (i := 68) rfl))) (by decide) pf__J pf_Ljava_util_List_))
  replace P_time := P_time.other W5 (Or.inr (slot_ne (Or.inr (hw _ (List.mem_of_getElem? (i := 85) rfl))) (Or.inr (hw _ (List.mem_of_getElem? (i := 68) rfl))) (by decide) pf_J pf_Ljava_util_List_))
  show own_Fin _ _ _ _ _ _ _ T5 (mkF m 22 #[.val (.ref o), .val (.int x1i), .val (.int x2i), .val (.ref a1), .val (.int x3i), .val (.ref a2), .val (.ref ms), .val (.long t), .second] [])
  refine own_step (fun _ k => XS.aloadN X5.here hx rfl (hb hby d5_22) rfl rfl k) ?_
  show own_Fin _ _ _ _ _ _ _ T5 (mkF m 23 #[.val (.ref o), .val (.int x1i), .val (.int x2i), .val (.ref a1), .val (.int x3i), .val (.ref a2), .val (.ref ms), .val (.long t), .second] [(.ref o)])
  refine own_step (fun _ k => XS.iload X5.here hx rfl (hb hby d5_23) rfl k) ?_
  show own_Fin _ _ _ _ _ _ _ T5 (mkF m 25 #[.val (.ref o), .val (.int x1i), .val (.int x2i), .val (.ref a1), .val (.int x3i), .val (.ref a2), .val (.ref ms), .val (.long t), .second] [(.int x3i), (.ref o)])
  refine own_putF X5 hx hZ (O := "com/example/libelect/libelect/simulation/Outcome") hown (hw _ (List.mem_of_getElem? (i := 69) rfl)) Via.refl e5 P_agreed Eo (Or.inr ⟨(hw _ (List.mem_of_getElem? (i := 70) rfl)), rfl, hnm⟩) (hw _ (List.mem_of_getElem? (i := 28) rfl)) pf_I rfl rfl N5 ge (hb hby d5_25) ?_
  intro T6 hp6 L6 X6 e6 N6 W6
  replace Lb := Lb.wr W6 (ne_exa Lb.1 Eo (by decide))
  replace Am := Am.other W6 (own_arv_ne Eo (hw _ (List.mem_of_getElem? (i := 28) rfl)) Am)
  replace Bm := Bm.wr W6
  replace Sl := Sl.wr W6
  replace Sm := Sm.wr W6
  replace Rl := Rl.wr W6 (ne_exa Rl.1 Eo (by decide)) Eo (hw _ (List.mem_of_getElem? (i := 28) rfl))
  replace La := La.wr W6 (ne_exa La.1 Eo (by decide))
  replace Aa := Aa.other W6 (own_arv_ne Eo (hw _ (List.mem_of_getElem? (i := 28) rfl)) Aa)
  replace Ba := Ba.wr W6
  replace Ex1 := Ex1.wr W6
  replace Rr := Rr.wr W6 (ne_exa Rr.1 Eo (by decide))
  replace Eo := Eo.wr W6
  replace P_nodes := P_nodes.other W6 (Or.inr (slot_ne (Or.inr (hw _ (List.mem_of_getElem? (i := 35) rfl))) (Or.inr (hw _ (List.mem_of_getElem? (i := 70) rfl))) (by decide) pf_I pf_I))
  replace P_live := P_live.other W6 (Or.inr (slot_ne (Or.inr (hw _ (List.mem_of_getElem? (i := 37) rfl))) (Or.inr (hw _ (List.mem_of_getElem? (i := 70) rfl))) (by decide) pf_I pf_I))
  replace P_leaders := P_leaders.other W6 (Or.inr (slot_ne (Or.inr (hw _ (List.mem_of_getElem? (i := 68) rfl))) (Or.inr (hw _ (List.mem_of_getElem? (i := 70) rfl))) (by decide) pf_Ljava_util_List_ pf_I))
  replace P_agreed := P_agreed.same W6
  replace P_messageKinds := P_messageKinds.other W6 (Or.inr (slot_ne (Or.inr (hw _ (List.mem_of_getElem? (i := 72) rfl))) (Or.inr (hw _ (List.mem_of_getElem? (i := 70) rfl))) (by decide) pf_Ljava_util_List_ pf_I))
  replace P_messages := P_messages.other W6 (Or.inr (slot_ne (Or.inr (hw _ (List.mem_of_getElem? (i := 83) rfl))) (Or.inr (hw _ (List.mem_of_getElem? (i := 70) rfl))) (by decide) pf__J pf_I))
  replace P_time := P_time.other W6 (Or.inr (slot_ne (Or.inr (hw _ (List.mem_of_getElem? (i := 85) rfl))) (Or.inr (hw _ (List.mem_of_getElem? (i := 70) rfl))) (by decide) pf_J pf_I))
  show own_Fin _ _ _ _ _ _ _ T6 (mkF m 28 #[.val (.ref o), .val (.int x1i), .val (.int x2i), .val (.ref a1), .val (.int x3i), .val (.ref a2), .val (.ref ms), .val (.long t), .second] [])
  refine own_step (fun _ k => XS.aloadN X6.here hx rfl (hb hby d5_28) rfl rfl k) ?_
  show own_Fin _ _ _ _ _ _ _ T6 (mkF m 29 #[.val (.ref o), .val (.int x1i), .val (.int x2i), .val (.ref a1), .val (.int x3i), .val (.ref a2), .val (.ref ms), .val (.long t), .second] [(.ref o)])
  refine own_step (fun _ k => XS.aload X6.here hx rfl (hb hby d5_29) rfl rfl k) ?_
  show own_Fin _ _ _ _ _ _ _ T6 (mkF m 31 #[.val (.ref o), .val (.int x1i), .val (.int x2i), .val (.ref a1), .val (.int x3i), .val (.ref a2), .val (.ref ms), .val (.long t), .second] [(.ref a2), (.ref o)])
  refine own_callS X6 hx hZ (argsL := [(.ref a2)]) (rest := [(.ref o)]) hown (hw _ (List.mem_of_getElem? (i := 38) rfl)) (hw _ (List.mem_of_getElem? (i := 39) rfl)) (hw _ (List.mem_of_getElem? (i := 40) rfl)) (hw _ (List.mem_of_getElem? (i := 41) rfl)) (by decide) (rm6_0 l Z a0 hw hp6 n0 a2 el df Lb Sl) e6 1 (Nat.le_of_eq rfl) (by decide) (by decide) (by decide) (by decide) (by rw [hml]; rfl) pd__Ljava_util_Collection__Ljava_util_List_ rfl rfl (hb hby d5_31) ?_
  rintro T7 _ _ X7 ⟨rfl, rfl, e7⟩
  rw [List.append_nil] at X7
  show own_Fin _ _ _ _ _ _ _ T7 (mkF m 34 #[.val (.ref o), .val (.int x1i), .val (.int x2i), .val (.ref a1), .val (.int x3i), .val (.ref a2), .val (.ref ms), .val (.long t), .second] [(.ref el), (.ref o)])
  refine own_putF X7 hx hZ (O := "com/example/libelect/libelect/simulation/Outcome") hown (hw _ (List.mem_of_getElem? (i := 71) rfl)) Via.refl e7 P_messageKinds Eo (Or.inr ⟨(hw _ (List.mem_of_getElem? (i := 72) rfl)), rfl, hnm⟩) (hw _ (List.mem_of_getElem? (i := 28) rfl)) pf_Ljava_util_List_ rfl rfl N6 ge (hb hby d5_34) ?_
  intro T8 hp8 L8 X8 e8 N8 W8
  replace Lb := Lb.wr W8 (ne_exa Lb.1 Eo (by decide))
  replace Am := Am.other W8 (own_arv_ne Eo (hw _ (List.mem_of_getElem? (i := 28) rfl)) Am)
  replace Bm := Bm.wr W8
  replace Sl := Sl.wr W8
  replace Sm := Sm.wr W8
  replace Rl := Rl.wr W8 (ne_exa Rl.1 Eo (by decide)) Eo (hw _ (List.mem_of_getElem? (i := 28) rfl))
  replace La := La.wr W8 (ne_exa La.1 Eo (by decide))
  replace Aa := Aa.other W8 (own_arv_ne Eo (hw _ (List.mem_of_getElem? (i := 28) rfl)) Aa)
  replace Ba := Ba.wr W8
  replace Ex1 := Ex1.wr W8
  replace Rr := Rr.wr W8 (ne_exa Rr.1 Eo (by decide))
  replace Eo := Eo.wr W8
  replace P_nodes := P_nodes.other W8 (Or.inr (slot_ne (Or.inr (hw _ (List.mem_of_getElem? (i := 35) rfl))) (Or.inr (hw _ (List.mem_of_getElem? (i := 72) rfl))) (by decide) pf_I pf_Ljava_util_List_))
  replace P_live := P_live.other W8 (Or.inr (slot_ne (Or.inr (hw _ (List.mem_of_getElem? (i := 37) rfl))) (Or.inr (hw _ (List.mem_of_getElem? (i := 72) rfl))) (by decide) pf_I pf_Ljava_util_List_))
  replace P_leaders := P_leaders.other W8 (Or.inr (slot_ne (Or.inr (hw _ (List.mem_of_getElem? (i := 68) rfl))) (Or.inr (hw _ (List.mem_of_getElem? (i := 72) rfl))) (by decide) pf_Ljava_util_List_ pf_Ljava_util_List_))
  replace P_agreed := P_agreed.other W8 (Or.inr (slot_ne (Or.inr (hw _ (List.mem_of_getElem? (i := 70) rfl))) (Or.inr (hw _ (List.mem_of_getElem? (i := 72) rfl))) (by decide) pf_I pf_Ljava_util_List_))
  replace P_messageKinds := P_messageKinds.same W8
  replace P_messages := P_messages.other W8 (Or.inr (slot_ne (Or.inr (hw _ (List.mem_of_getElem? (i := 83) rfl))) (Or.inr (hw _ (List.mem_of_getElem? (i := 72) rfl))) (by decide) pf__J pf_Ljava_util_List_))
  replace P_time := P_time.other W8 (Or.inr (slot_ne (Or.inr (hw _ (List.mem_of_getElem? (i := 85) rfl))) (Or.inr (hw _ (List.mem_of_getElem? (i := 72) rfl))) (by decide) pf_J pf_Ljava_util_List_))
  show own_Fin _ _ _ _ _ _ _ T8 (mkF m 37 #[.val (.ref o), .val (.int x1i), .val (.int x2i), .val (.ref a1), .val (.int x3i), .val (.ref a2), .val (.ref ms), .val (.long t), .second] [])
  refine own_step (fun _ k => XS.aloadN X8.here hx rfl (hb hby d5_37) rfl rfl k) ?_
  show own_Fin _ _ _ _ _ _ _ T8 (mkF m 38 #[.val (.ref o), .val (.int x1i), .val (.int x2i), .val (.ref a1), .val (.int x3i), .val (.ref a2), .val (.ref ms), .val (.long t), .second] [(.ref o)])
  refine own_step (fun _ k => XS.aload X8.here hx rfl (hb hby d5_38) rfl rfl k) ?_
  show own_Fin _ _ _ _ _ _ _ T8 (mkF m 40 #[.val (.ref o), .val (.int x1i), .val (.int x2i), .val (.ref a1), .val (.int x3i), .val (.ref a2), .val (.ref ms), .val (.long t), .second] [(.ref ms), (.ref o)])
  refine own_cloneA X8 hx hZ hown (hw _ (List.mem_of_getElem? (i := 73) rfl)) (hw _ (List.mem_of_getElem? (i := 74) rfl)) (hw _ (List.mem_of_getElem? (i := 78) rfl)) (hw _ (List.mem_of_getElem? (i := 76) rfl)) (hw _ (List.mem_of_getElem? (i := 77) rfl)) (hw _ (List.mem_of_getElem? (i := 79) rfl)) e8 Am rfl Bm (by rw [hml]; rfl) (by decide) 1 (Nat.le_of_eq rfl) (by decide) (by decide) (by decide) (hb hby d5_40) ?_
  intro T9 hp9 X9 e9 E9 B9
  replace Eo := Eo.ext E9
  replace Lb := Lb.ext E9
  replace Am := Am.ext E9
  replace Bm := Bm.ext E9
  replace Sl := Sl.ext E9
  replace Sm := Sm.ext E9
  replace Rl := Rl.ext E9
  replace La := La.ext E9
  replace Aa := Aa.ext E9
  replace Ba := Ba.ext E9
  replace Ex1 := Ex1.ext E9
  replace Rr := Rr.ext E9
  replace P_nodes := P_nodes.ext E9
  replace P_live := P_live.ext E9
  replace P_leaders := P_leaders.ext E9
  replace P_agreed := P_agreed.ext E9
  replace P_messageKinds := P_messageKinds.ext E9
  replace P_messages := P_messages.ext E9
  replace P_time := P_time.ext E9
  show own_Fin _ _ _ _ _ _ _ T9 (mkF m 43 #[.val (.ref o), .val (.int x1i), .val (.int x2i), .val (.ref a1), .val (.int x3i), .val (.ref a2), .val (.ref ms), .val (.long t), .second] [(.ref hp8.size), (.ref o)])
  refine own_cast X9 hx hZ hown (hw _ (List.mem_of_getElem? (i := 80) rfl)) e9 (Ins.self B9) (hb hby d5_43) ?_
  intro T10 X10 e10
  show own_Fin _ _ _ _ _ _ _ T10 (mkF m 46 #[.val (.ref o), .val (.int x1i), .val (.int x2i), .val (.ref a1), .val (.int x3i), .val (.ref a2), .val (.ref ms), .val (.long t), .second] [(.ref hp8.size), (.ref o)])
  refine own_putF X10 hx hZ (O := "com/example/libelect/libelect/simulation/Outcome") hown (hw _ (List.mem_of_getElem? (i := 82) rfl)) Via.refl e10 P_messages Eo (Or.inr ⟨(hw _ (List.mem_of_getElem? (i := 83) rfl)), rfl, hnm⟩) (hw _ (List.mem_of_getElem? (i := 28) rfl)) pf__J rfl rfl N8 ge (hb hby d5_46) ?_
  intro T11 hp11 L11 X11 e11 N11 W11
  replace Lb := Lb.wr W11 (ne_exa Lb.1 Eo (by decide))
  replace Am := Am.other W11 (own_arv_ne Eo (hw _ (List.mem_of_getElem? (i := 28) rfl)) Am)
  replace Bm := Bm.wr W11
  replace Sl := Sl.wr W11
  replace Sm := Sm.wr W11
  replace Rl := Rl.wr W11 (ne_exa Rl.1 Eo (by decide)) Eo (hw _ (List.mem_of_getElem? (i := 28) rfl))
  replace La := La.wr W11 (ne_exa La.1 Eo (by decide))
  replace Aa := Aa.other W11 (own_arv_ne Eo (hw _ (List.mem_of_getElem? (i := 28) rfl)) Aa)
  replace Ba := Ba.wr W11
  replace Ex1 := Ex1.wr W11
  replace Rr := Rr.wr W11 (ne_exa Rr.1 Eo (by decide))
  replace Eo := Eo.wr W11
  replace P_nodes := P_nodes.other W11 (Or.inr (slot_ne (Or.inr (hw _ (List.mem_of_getElem? (i := 35) rfl))) (Or.inr (hw _ (List.mem_of_getElem? (i := 83) rfl))) (by decide) pf_I pf__J))
  replace P_live := P_live.other W11 (Or.inr (slot_ne (Or.inr (hw _ (List.mem_of_getElem? (i := 37) rfl))) (Or.inr (hw _ (List.mem_of_getElem? (i := 83) rfl))) (by decide) pf_I pf__J))
  replace P_leaders := P_leaders.other W11 (Or.inr (slot_ne (Or.inr (hw _ (List.mem_of_getElem? (i := 68) rfl))) (Or.inr (hw _ (List.mem_of_getElem? (i := 83) rfl))) (by decide) pf_Ljava_util_List_ pf__J))
  replace P_agreed := P_agreed.other W11 (Or.inr (slot_ne (Or.inr (hw _ (List.mem_of_getElem? (i := 70) rfl))) (Or.inr (hw _ (List.mem_of_getElem? (i := 83) rfl))) (by decide) pf_I pf__J))
  replace P_messageKinds := P_messageKinds.other W11 (Or.inr (slot_ne (Or.inr (hw _ (List.mem_of_getElem? (i := 72) rfl))) (Or.inr (hw _ (List.mem_of_getElem? (i := 83) rfl))) (by decide) pf_Ljava_util_List_ pf__J))
  replace P_messages := P_messages.same W11
  replace P_time := P_time.other W11 (Or.inr (slot_ne (Or.inr (hw _ (List.mem_of_getElem? (i := 85) rfl))) (Or.inr (hw _ (List.mem_of_getElem? (i := 83) rfl))) (by decide) pf_J pf__J))
  show own_Fin _ _ _ _ _ _ _ T11 (mkF m 49 #[.val (.ref o), .val (.int x1i), .val (.int x2i), .val (.ref a1), .val (.int x3i), .val (.ref a2), .val (.ref ms), .val (.long t), .second] [])
  refine own_step (fun _ k => XS.aloadN X11.here hx rfl (hb hby d5_49) rfl rfl k) ?_
  show own_Fin _ _ _ _ _ _ _ T11 (mkF m 50 #[.val (.ref o), .val (.int x1i), .val (.int x2i), .val (.ref a1), .val (.int x3i), .val (.ref a2), .val (.ref ms), .val (.long t), .second] [(.ref o)])
  refine own_step (fun _ k => XT.lload X11.here hx rfl (hb hby d5_50) rfl k) ?_
  show own_Fin _ _ _ _ _ _ _ T11 (mkF m 52 #[.val (.ref o), .val (.int x1i), .val (.int x2i), .val (.ref a1), .val (.int x3i), .val (.ref a2), .val (.ref ms), .val (.long t), .second] [(.long t), (.ref o)])
  refine own_putF X11 hx hZ (O := "com/example/libelect/libelect/simulation/Outcome") hown (hw _ (List.mem_of_getElem? (i := 84) rfl)) Via.refl e11 P_time Eo (Or.inr ⟨(hw _ (List.mem_of_getElem? (i := 85) rfl)), rfl, hnm⟩) (hw _ (List.mem_of_getElem? (i := 28) rfl)) pf_J rfl rfl N11 ge (hb hby d5_52) ?_
  intro T12 hp12 L12 X12 e12 N12 W12
  replace Lb := Lb.wr W12 (ne_exa Lb.1 Eo (by decide))
  replace Am := Am.other W12 (own_arv_ne Eo (hw _ (List.mem_of_getElem? (i := 28) rfl)) Am)
  replace Bm := Bm.wr W12
  replace Sl := Sl.wr W12
  replace Sm := Sm.wr W12
  replace Rl := Rl.wr W12 (ne_exa Rl.1 Eo (by decide)) Eo (hw _ (List.mem_of_getElem? (i := 28) rfl))
  replace La := La.wr W12 (ne_exa La.1 Eo (by decide))
  replace Aa := Aa.other W12 (own_arv_ne Eo (hw _ (List.mem_of_getElem? (i := 28) rfl)) Aa)
  replace Ba := Ba.wr W12
  replace Ex1 := Ex1.wr W12
  replace Rr := Rr.wr W12 (ne_exa Rr.1 Eo (by decide))
  replace Eo := Eo.wr W12
  replace P_nodes := P_nodes.other W12 (Or.inr (slot_ne (Or.inr (hw _ (List.mem_of_getElem? (i := 35) rfl))) (Or.inr (hw _ (List.mem_of_getElem? (i := 85) rfl))) (by decide) pf_I pf_J))
  replace P_live := P_live.other W12 (Or.inr (slot_ne (Or.inr (hw _ (List.mem_of_getElem? (i := 37) rfl))) (Or.inr (hw _ (List.mem_of_getElem? (i := 85) rfl))) (by decide) pf_I pf_J))
  replace P_leaders := P_leaders.other W12 (Or.inr (slot_ne (Or.inr (hw _ (List.mem_of_getElem? (i := 68) rfl))) (Or.inr (hw _ (List.mem_of_getElem? (i := 85) rfl))) (by decide) pf_Ljava_util_List_ pf_J))
  replace P_agreed := P_agreed.other W12 (Or.inr (slot_ne (Or.inr (hw _ (List.mem_of_getElem? (i := 70) rfl))) (Or.inr (hw _ (List.mem_of_getElem? (i := 85) rfl))) (by decide) pf_I pf_J))
  replace P_messageKinds := P_messageKinds.other W12 (Or.inr (slot_ne (Or.inr (hw _ (List.mem_of_getElem? (i := 72) rfl))) (Or.inr (hw _ (List.mem_of_getElem? (i := 85) rfl))) (by decide) pf_Ljava_util_List_ pf_J))
  replace P_messages := P_messages.other W12 (Or.inr (slot_ne (Or.inr (hw _ (List.mem_of_getElem? (i := 83) rfl))) (Or.inr (hw _ (List.mem_of_getElem? (i := 85) rfl))) (by decide) pf__J pf_J))
  replace P_time := P_time.same W12
  show own_Fin _ _ _ _ _ _ _ T12 (mkF m 55 #[.val (.ref o), .val (.int x1i), .val (.int x2i), .val (.ref a1), .val (.int x3i), .val (.ref a2), .val (.ref ms), .val (.long t), .second] [])
  exact own_retV X12 hx hrt hlk (hb hby d5_55) (by rw [e12]; exact ⟨_, rfl, N12, Eo, P_leaders, P_agreed, P_live, Rr, Sm⟩) (by decide) (by decide)
set_option maxRecDepth 65536 in
set_option maxHeartbeats 40000000 in
theorem rm5_2 (l : Launch) (Z : State) (a0 : Array Value) (hw : ∀ d ∈ tables_1, d.before a0 Z = true) (h0 : Heap) (n0 : Nat) (o a1 a2 ms el em df mr ar : Addr) (x1i x2i x3i : Int32) (t : Int64) (km k : ClassId) (x1 x2 : Addr) (P_nodes : Fld Z h0 o "com/example/libelect/libelect/simulation/Outcome" "nodes" "I" (.int 0)) (P_live : Fld Z h0 o "com/example/libelect/libelect/simulation/Outcome" "live" "I" (.int 0)) (P_leaders : Fld Z h0 o "com/example/libelect/libelect/simulation/Outcome" "leaders" "Ljava/util/List;" .null) (P_agreed : Fld Z h0 o "com/example/libelect/libelect/simulation/Outcome" "agreed" "I" (.int 0)) (P_messageKinds : Fld Z h0 o "com/example/libelect/libelect/simulation/Outcome" "messageKinds" "Ljava/util/List;" .null) (P_messages : Fld Z h0 o "com/example/libelect/libelect/simulation/Outcome" "messages" "[J" .null) (P_time : Fld Z h0 o "com/example/libelect/libelect/simulation/Outcome" "time" "J" (.long 0)) (Eo : Exa Z h0 o "com/example/libelect/libelect/simulation/Outcome") (Lb : own_AL Z h0 a2 0 df) (Am : Arv Z h0 ms km .long 0 [] (.long 0)) (Bm : Exa Z h0 ms "[J") (Sl : Sta Z h0 "java/util/ImmutableCollections" "EMPTY_LIST" "Ljava/util/ImmutableCollections$ListN;" (.ref el)) (Sm : Sta Z h0 "java/util/ImmutableCollections" "EMPTY" "Ljava/lang/Object;" (.ref em)) (Rl : own_LN Z h0 el 0) (ge : n0 ≤ o) (gh : n0 ≤ h0.size) (Mr : own_Mir Z "[Ljava/lang/Object;" mr) (La : own_AL Z h0 a1 2 ar) (Aa : Arv Z h0 ar k (.object "java/lang/Object") 10 [.ref x1, .ref x2] .null) (Ba : Exa Z h0 ar "[Ljava/lang/Object;") (Ex1 : Exa Z h0 x1 "java/lang/Long") (Ex2 : Exa Z h0 x2 "java/lang/Long") :
    own_Met l Z (⟨"com/example/libelect/libelect/simulation/Outcome", "<init>", "(IILjava/util/List;ILjava/util/List;[JJ)V"⟩ : MethodName) prog_52_method_1_code 9 none [] ({ frames := 9, cells := 4, slots := 8, locals := 116 } : Room) #[(.ref o), (.int x1i), (.int x2i), (.ref a1), (.int x3i), (.ref a2), (.ref ms), (.long t)] h0 (fun v h L => ∃ r, v = none ∧ Fr n0 L ∧ Exa Z h o "com/example/libelect/libelect/simulation/Outcome" ∧ Fld Z h o "com/example/libelect/libelect/simulation/Outcome" "leaders" "Ljava/util/List;" (.ref r) ∧ Fld Z h o "com/example/libelect/libelect/simulation/Outcome" "agreed" "I" (.int x3i) ∧ Fld Z h o "com/example/libelect/libelect/simulation/Outcome" "live" "I" (.int x2i) ∧ own_L12 Z h r x2 ∧ Sta Z h "java/util/ImmutableCollections" "EMPTY" "Ljava/lang/Object;" (.ref em)) := by
  refine own_body pn_com_example_libelect_libelect_simulation_Outcome ?_
  intro p e s m below meth c s₁ hx hby hml hZ hown hnm hrt hlk X0 e0
  have N0 := Fr.nil n0
  rw [ef_riirirrl_9]
  show own_Fin _ _ _ _ _ _ _ s₁ (mkF m 0 #[.val (.ref o), .val (.int x1i), .val (.int x2i), .val (.ref a1), .val (.int x3i), .val (.ref a2), .val (.ref ms), .val (.long t), .second] [])
  refine own_step (fun _ k => XS.aloadN X0.here hx rfl (hb hby d5_0) rfl rfl k) ?_
  show own_Fin _ _ _ _ _ _ _ s₁ (mkF m 1 #[.val (.ref o), .val (.int x1i), .val (.int x2i), .val (.ref a1), .val (.int x3i), .val (.ref a2), .val (.ref ms), .val (.long t), .second] [(.ref o)])
  refine own_initO X0 hx hZ hown (hw _ (List.mem_of_getElem? (i := 33) rfl)) (hw _ (List.mem_of_getElem? (i := 19) rfl)) (hw _ (List.mem_of_getElem? (i := 20) rfl)) e0 (by rw [hml]; rfl) 0 (Nat.le_of_eq rfl) (by decide) (by decide) (hb hby d5_1) ?_
  intro T1 X1 e1
  show own_Fin _ _ _ _ _ _ _ T1 (mkF m 4 #[.val (.ref o), .val (.int x1i), .val (.int x2i), .val (.ref a1), .val (.int x3i), .val (.ref a2), .val (.ref ms), .val (.long t), .second] [])
  refine own_step (fun _ k => XS.aloadN X1.here hx rfl (hb hby d5_4) rfl rfl k) ?_
  show own_Fin _ _ _ _ _ _ _ T1 (mkF m 5 #[.val (.ref o), .val (.int x1i), .val (.int x2i), .val (.ref a1), .val (.int x3i), .val (.ref a2), .val (.ref ms), .val (.long t), .second] [(.ref o)])
  refine own_step (fun _ k => XS.iloadN X1.here hx rfl (hb hby d5_5) rfl k) ?_
  show own_Fin _ _ _ _ _ _ _ T1 (mkF m 6 #[.val (.ref o), .val (.int x1i), .val (.int x2i), .val (.ref a1), .val (.int x3i), .val (.ref a2), .val (.ref ms), .val (.long t), .second] [(.int x1i), (.ref o)])
  refine own_putF X1 hx hZ (O := "com/example/libelect/libelect/simulation/Outcome") hown (hw _ (List.mem_of_getElem? (i := 34) rfl)) Via.refl e1 P_nodes Eo (Or.inr ⟨(hw _ (List.mem_of_getElem? (i := 35) rfl)), rfl, hnm⟩) (hw _ (List.mem_of_getElem? (i := 28) rfl)) pf_I rfl rfl N0 ge (hb hby d5_6) ?_
  intro T2 hp2 L2 X2 e2 N2 W2
  replace Lb := Lb.wr W2 (ne_exa Lb.1 Eo (by decide))
  replace Am := Am.other W2 (own_arv_ne Eo (hw _ (List.mem_of_getElem? (i := 28) rfl)) Am)
  replace Bm := Bm.wr W2
  replace Sl := Sl.wr W2
  replace Sm := Sm.wr W2
  replace Rl := Rl.wr W2 (ne_exa Rl.1 Eo (by decide)) Eo (hw _ (List.mem_of_getElem? (i := 28) rfl))
  replace La := La.wr W2 (ne_exa La.1 Eo (by decide))
  replace Aa := Aa.other W2 (own_arv_ne Eo (hw _ (List.mem_of_getElem? (i := 28) rfl)) Aa)
  replace Ba := Ba.wr W2
  replace Ex1 := Ex1.wr W2
  replace Ex2 := Ex2.wr W2
  replace Eo := Eo.wr W2
  replace P_nodes := P_nodes.same W2
  replace P_live := P_live.other W2 (Or.inr (slot_ne (Or.inr (hw _ (List.mem_of_getElem? (i := 37) rfl))) (Or.inr (hw _ (List.mem_of_getElem? (i := 35) rfl))) (by decide) pf_I pf_I))
  replace P_leaders := P_leaders.other W2 (Or.inr (slot_ne (Or.inr (hw _ (List.mem_of_getElem? (i := 68) rfl))) (Or.inr (hw _ (List.mem_of_getElem? (i := 35) rfl))) (by decide) pf_Ljava_util_List_ pf_I))
  replace P_agreed := P_agreed.other W2 (Or.inr (slot_ne (Or.inr (hw _ (List.mem_of_getElem? (i := 70) rfl))) (Or.inr (hw _ (List.mem_of_getElem? (i := 35) rfl))) (by decide) pf_I pf_I))
  replace P_messageKinds := P_messageKinds.other W2 (Or.inr (slot_ne (Or.inr (hw _ (List.mem_of_getElem? (i := 72) rfl))) (Or.inr (hw _ (List.mem_of_getElem? (i := 35) rfl))) (by decide) pf_Ljava_util_List_ pf_I))
  replace P_messages := P_messages.other W2 (Or.inr (slot_ne (Or.inr (hw _ (List.mem_of_getElem? (i := 83) rfl))) (Or.inr (hw _ (List.mem_of_getElem? (i := 35) rfl))) (by decide) pf__J pf_I))
  replace P_time := P_time.other W2 (Or.inr (slot_ne (Or.inr (hw _ (List.mem_of_getElem? (i := 85) rfl))) (Or.inr (hw _ (List.mem_of_getElem? (i := 35) rfl))) (by decide) pf_J pf_I))
  show own_Fin _ _ _ _ _ _ _ T2 (mkF m 9 #[.val (.ref o), .val (.int x1i), .val (.int x2i), .val (.ref a1), .val (.int x3i), .val (.ref a2), .val (.ref ms), .val (.long t), .second] [])
  refine own_step (fun _ k => XS.aloadN X2.here hx rfl (hb hby d5_9) rfl rfl k) ?_
  show own_Fin _ _ _ _ _ _ _ T2 (mkF m 10 #[.val (.ref o), .val (.int x1i), .val (.int x2i), .val (.ref a1), .val (.int x3i), .val (.ref a2), .val (.ref ms), .val (.long t), .second] [(.ref o)])
  refine own_step (fun _ k => XS.iloadN X2.here hx rfl (hb hby d5_10) rfl k) ?_
  show own_Fin _ _ _ _ _ _ _ T2 (mkF m 11 #[.val (.ref o), .val (.int x1i), .val (.int x2i), .val (.ref a1), .val (.int x3i), .val (.ref a2), .val (.ref ms), .val (.long t), .second] [(.int x2i), (.ref o)])
  refine own_putF X2 hx hZ (O := "com/example/libelect/libelect/simulation/Outcome") hown (hw _ (List.mem_of_getElem? (i := 36) rfl)) Via.refl e2 P_live Eo (Or.inr ⟨(hw _ (List.mem_of_getElem? (i := 37) rfl)), rfl, hnm⟩) (hw _ (List.mem_of_getElem? (i := 28) rfl)) pf_I rfl rfl N2 ge (hb hby d5_11) ?_
  intro T3 hp3 L3 X3 e3 N3 W3
  replace Lb := Lb.wr W3 (ne_exa Lb.1 Eo (by decide))
  replace Am := Am.other W3 (own_arv_ne Eo (hw _ (List.mem_of_getElem? (i := 28) rfl)) Am)
  replace Bm := Bm.wr W3
  replace Sl := Sl.wr W3
  replace Sm := Sm.wr W3
  replace Rl := Rl.wr W3 (ne_exa Rl.1 Eo (by decide)) Eo (hw _ (List.mem_of_getElem? (i := 28) rfl))
  replace La := La.wr W3 (ne_exa La.1 Eo (by decide))
  replace Aa := Aa.other W3 (own_arv_ne Eo (hw _ (List.mem_of_getElem? (i := 28) rfl)) Aa)
  replace Ba := Ba.wr W3
  replace Ex1 := Ex1.wr W3
  replace Ex2 := Ex2.wr W3
  replace Eo := Eo.wr W3
  replace P_nodes := P_nodes.other W3 (Or.inr (slot_ne (Or.inr (hw _ (List.mem_of_getElem? (i := 35) rfl))) (Or.inr (hw _ (List.mem_of_getElem? (i := 37) rfl))) (by decide) pf_I pf_I))
  replace P_live := P_live.same W3
  replace P_leaders := P_leaders.other W3 (Or.inr (slot_ne (Or.inr (hw _ (List.mem_of_getElem? (i := 68) rfl))) (Or.inr (hw _ (List.mem_of_getElem? (i := 37) rfl))) (by decide) pf_Ljava_util_List_ pf_I))
  replace P_agreed := P_agreed.other W3 (Or.inr (slot_ne (Or.inr (hw _ (List.mem_of_getElem? (i := 70) rfl))) (Or.inr (hw _ (List.mem_of_getElem? (i := 37) rfl))) (by decide) pf_I pf_I))
  replace P_messageKinds := P_messageKinds.other W3 (Or.inr (slot_ne (Or.inr (hw _ (List.mem_of_getElem? (i := 72) rfl))) (Or.inr (hw _ (List.mem_of_getElem? (i := 37) rfl))) (by decide) pf_Ljava_util_List_ pf_I))
  replace P_messages := P_messages.other W3 (Or.inr (slot_ne (Or.inr (hw _ (List.mem_of_getElem? (i := 83) rfl))) (Or.inr (hw _ (List.mem_of_getElem? (i := 37) rfl))) (by decide) pf__J pf_I))
  replace P_time := P_time.other W3 (Or.inr (slot_ne (Or.inr (hw _ (List.mem_of_getElem? (i := 85) rfl))) (Or.inr (hw _ (List.mem_of_getElem? (i := 37) rfl))) (by decide) pf_J pf_I))
  show own_Fin _ _ _ _ _ _ _ T3 (mkF m 14 #[.val (.ref o), .val (.int x1i), .val (.int x2i), .val (.ref a1), .val (.int x3i), .val (.ref a2), .val (.ref ms), .val (.long t), .second] [])
  refine own_step (fun _ k => XS.aloadN X3.here hx rfl (hb hby d5_14) rfl rfl k) ?_
  show own_Fin _ _ _ _ _ _ _ T3 (mkF m 15 #[.val (.ref o), .val (.int x1i), .val (.int x2i), .val (.ref a1), .val (.int x3i), .val (.ref a2), .val (.ref ms), .val (.long t), .second] [(.ref o)])
  refine own_step (fun _ k => XS.aloadN X3.here hx rfl (hb hby d5_15) rfl rfl k) ?_
  show own_Fin _ _ _ _ _ _ _ T3 (mkF m 16 #[.val (.ref o), .val (.int x1i), .val (.int x2i), .val (.ref a1), .val (.int x3i), .val (.ref a2), .val (.ref ms), .val (.long t), .second] [(.ref a1), (.ref o)])
  have gh1 : n0 ≤ hp3.size := Nat.le_of_lt (Nat.lt_of_le_of_lt ge Eo.lt)
  refine own_callS X3 hx hZ (argsL := [(.ref a1)]) (rest := [(.ref o)]) hown (hw _ (List.mem_of_getElem? (i := 38) rfl)) (hw _ (List.mem_of_getElem? (i := 39) rfl)) (hw _ (List.mem_of_getElem? (i := 40) rfl)) (hw _ (List.mem_of_getElem? (i := 41) rfl)) (by decide) (rm6_2 l Z a0 hw hp3 n0 a1 ar em mr k x1 x2 La Aa Ba Mr Sm gh1 Ex1 Ex2) e3 1 (Nat.le_of_eq rfl) (by decide) (by decide) (by decide) (by decide) (by rw [hml]; rfl) pd__Ljava_util_Collection__Ljava_util_List_ rfl rfl (hb hby d5_16) ?_
  rintro T4 L4 _ X4 ⟨rr, rfl, F4, E4, Rr⟩
  have N4 := Fr.app N3 F4
  replace Eo := Eo.ext E4
  replace Lb := Lb.ext E4
  replace Am := Am.ext E4
  replace Bm := Bm.ext E4
  replace Sl := Sl.ext E4
  replace Sm := Sm.ext E4
  replace Rl := Rl.ext E4
  replace La := La.ext E4
  replace Aa := Aa.ext E4
  replace Ba := Ba.ext E4
  replace Ex1 := Ex1.ext E4
  replace Ex2 := Ex2.ext E4
  replace P_nodes := P_nodes.ext E4
  replace P_live := P_live.ext E4
  replace P_leaders := P_leaders.ext E4
  replace P_agreed := P_agreed.ext E4
  replace P_messageKinds := P_messageKinds.ext E4
  replace P_messages := P_messages.ext E4
  replace P_time := P_time.ext E4
  show own_Fin _ _ _ _ _ _ _ T4 (mkF m 19 #[.val (.ref o), .val (.int x1i), .val (.int x2i), .val (.ref a1), .val (.int x3i), .val (.ref a2), .val (.ref ms), .val (.long t), .second] [(.ref rr), (.ref o)])
  refine own_putF X4 hx hZ (O := "com/example/libelect/libelect/simulation/Outcome") hown (hw _ (List.mem_of_getElem? (i := 67) rfl)) Via.refl rfl P_leaders Eo (Or.inr ⟨(hw _ (List.mem_of_getElem? (i := 68) rfl)), rfl, hnm⟩) (hw _ (List.mem_of_getElem? (i := 28) rfl)) pf_Ljava_util_List_ rfl rfl N4 ge (hb hby d5_19) ?_
  intro T5 hp5 L5 X5 e5 N5 W5
  replace Lb := Lb.wr W5 (ne_exa Lb.1 Eo (by decide))
  replace Am := Am.other W5 (own_arv_ne Eo (hw _ (List.mem_of_getElem? (i := 28) rfl)) Am)
  replace Bm := Bm.wr W5
  replace Sl := Sl.wr W5
  replace Sm := Sm.wr W5
  replace Rl := Rl.wr W5 (ne_exa Rl.1 Eo (by decide)) Eo (hw _ (List.mem_of_getElem? (i := 28) rfl))
  replace La := La.wr W5 (ne_exa La.1 Eo (by decide))
  replace Aa := Aa.other W5 (own_arv_ne Eo (hw _ (List.mem_of_getElem? (i := 28) rfl)) Aa)
  replace Ba := Ba.wr W5
  replace Ex1 := Ex1.wr W5
  replace Ex2 := Ex2.wr W5
  replace Rr := Rr.wr W5 (ne_exa Rr.1 Eo (by decide))
  replace Eo := Eo.wr W5
  replace P_nodes := P_nodes.other W5 (Or.inr (slot_ne (Or.inr (hw _ (List.mem_of_getElem? (i := 35) rfl))) (Or.inr (hw _ (List.mem_of_getElem? (i := 68) rfl))) (by decide) pf_I pf_Ljava_util_List_))
  replace P_live := P_live.other W5 (Or.inr (slot_ne (Or.inr (hw _ (List.mem_of_getElem? (i := 37) rfl))) (Or.inr (hw _ (List.mem_of_getElem? (i := 68) rfl))) (by decide) pf_I pf_Ljava_util_List_))
  replace P_leaders := P_leaders.same W5
  replace P_agreed := P_agreed.other W5 (Or.inr (slot_ne (Or.inr (hw _ (List.mem_of_getElem? (i := 70) rfl))) (Or.inr (hw _ (List.mem_of_getElem? (i := 68) rfl))) (by decide) pf_I pf_Ljava_util_List_))
  replace P_messageKinds := P_messageKinds.other W5 (Or.inr (slot_ne (Or.inr (hw _ (List.mem_of_getElem? (i := 72) rfl))) (Or.inr (hw _ (List.mem_of_getElem? (i := 68) rfl))) (by decide) pf_Ljava_util_List_ pf_Ljava_util_List_))
  replace P_messages := P_messages.other W5 (Or.inr (slot_ne (Or.inr (hw _ (List.mem_of_getElem? (i := 83) rfl))) (Or.inr (hw _ (List.mem_of_getElem? (i := 68) rfl))) (by decide) pf__J pf_Ljava_util_List_))
  replace P_time := P_time.other W5 (Or.inr (slot_ne (Or.inr (hw _ (List.mem_of_getElem? (i := 85) rfl))) (Or.inr (hw _ (List.mem_of_getElem? (i := 68) rfl))) (by decide) pf_J pf_Ljava_util_List_))
  show own_Fin _ _ _ _ _ _ _ T5 (mkF m 22 #[.val (.ref o), .val (.int x1i), .val (.int x2i), .val (.ref a1), .val (.int x3i), .val (.ref a2), .val (.ref ms), .val (.long t), .second] [])
  refine own_step (fun _ k => XS.aloadN X5.here hx rfl (hb hby d5_22) rfl rfl k) ?_
  show own_Fin _ _ _ _ _ _ _ T5 (mkF m 23 #[.val (.ref o), .val (.int x1i), .val (.int x2i), .val (.ref a1), .val (.int x3i), .val (.ref a2), .val (.ref ms), .val (.long t), .second] [(.ref o)])
  refine own_step (fun _ k => XS.iload X5.here hx rfl (hb hby d5_23) rfl k) ?_
  show own_Fin _ _ _ _ _ _ _ T5 (mkF m 25 #[.val (.ref o), .val (.int x1i), .val (.int x2i), .val (.ref a1), .val (.int x3i), .val (.ref a2), .val (.ref ms), .val (.long t), .second] [(.int x3i), (.ref o)])
  refine own_putF X5 hx hZ (O := "com/example/libelect/libelect/simulation/Outcome") hown (hw _ (List.mem_of_getElem? (i := 69) rfl)) Via.refl e5 P_agreed Eo (Or.inr ⟨(hw _ (List.mem_of_getElem? (i := 70) rfl)), rfl, hnm⟩) (hw _ (List.mem_of_getElem? (i := 28) rfl)) pf_I rfl rfl N5 ge (hb hby d5_25) ?_
  intro T6 hp6 L6 X6 e6 N6 W6
  replace Lb := Lb.wr W6 (ne_exa Lb.1 Eo (by decide))
  replace Am := Am.other W6 (own_arv_ne Eo (hw _ (List.mem_of_getElem? (i := 28) rfl)) Am)
  replace Bm := Bm.wr W6
  replace Sl := Sl.wr W6
  replace Sm := Sm.wr W6
  replace Rl := Rl.wr W6 (ne_exa Rl.1 Eo (by decide)) Eo (hw _ (List.mem_of_getElem? (i := 28) rfl))
  replace La := La.wr W6 (ne_exa La.1 Eo (by decide))
  replace Aa := Aa.other W6 (own_arv_ne Eo (hw _ (List.mem_of_getElem? (i := 28) rfl)) Aa)
  replace Ba := Ba.wr W6
  replace Ex1 := Ex1.wr W6
  replace Ex2 := Ex2.wr W6
  replace Rr := Rr.wr W6 (ne_exa Rr.1 Eo (by decide))
  replace Eo := Eo.wr W6
  replace P_nodes := P_nodes.other W6 (Or.inr (slot_ne (Or.inr (hw _ (List.mem_of_getElem? (i := 35) rfl))) (Or.inr (hw _ (List.mem_of_getElem? (i := 70) rfl))) (by decide) pf_I pf_I))
  replace P_live := P_live.other W6 (Or.inr (slot_ne (Or.inr (hw _ (List.mem_of_getElem? (i := 37) rfl))) (Or.inr (hw _ (List.mem_of_getElem? (i := 70) rfl))) (by decide) pf_I pf_I))
  replace P_leaders := P_leaders.other W6 (Or.inr (slot_ne (Or.inr (hw _ (List.mem_of_getElem? (i := 68) rfl))) (Or.inr (hw _ (List.mem_of_getElem? (i := 70) rfl))) (by decide) pf_Ljava_util_List_ pf_I))
  replace P_agreed := P_agreed.same W6
  replace P_messageKinds := P_messageKinds.other W6 (Or.inr (slot_ne (Or.inr (hw _ (List.mem_of_getElem? (i := 72) rfl))) (Or.inr (hw _ (List.mem_of_getElem? (i := 70) rfl))) (by decide) pf_Ljava_util_List_ pf_I))
  replace P_messages := P_messages.other W6 (Or.inr (slot_ne (Or.inr (hw _ (List.mem_of_getElem? (i := 83) rfl))) (Or.inr (hw _ (List.mem_of_getElem? (i := 70) rfl))) (by decide) pf__J pf_I))
  replace P_time := P_time.other W6 (Or.inr (slot_ne (Or.inr (hw _ (List.mem_of_getElem? (i := 85) rfl))) (Or.inr (hw _ (List.mem_of_getElem? (i := 70) rfl))) (by decide) pf_J pf_I))
  show own_Fin _ _ _ _ _ _ _ T6 (mkF m 28 #[.val (.ref o), .val (.int x1i), .val (.int x2i), .val (.ref a1), .val (.int x3i), .val (.ref a2), .val (.ref ms), .val (.long t), .second] [])
  refine own_step (fun _ k => XS.aloadN X6.here hx rfl (hb hby d5_28) rfl rfl k) ?_
  show own_Fin _ _ _ _ _ _ _ T6 (mkF m 29 #[.val (.ref o), .val (.int x1i), .val (.int x2i), .val (.ref a1), .val (.int x3i), .val (.ref a2), .val (.ref ms), .val (.long t), .second] [(.ref o)])
  refine own_step (fun _ k => XS.aload X6.here hx rfl (hb hby d5_29) rfl rfl k) ?_
  show own_Fin _ _ _ _ _ _ _ T6 (mkF m 31 #[.val (.ref o), .val (.int x1i), .val (.int x2i), .val (.ref a1), .val (.int x3i), .val (.ref a2), .val (.ref ms), .val (.long t), .second] [(.ref a2), (.ref o)])
  refine own_callS X6 hx hZ (argsL := [(.ref a2)]) (rest := [(.ref o)]) hown (hw _ (List.mem_of_getElem? (i := 38) rfl)) (hw _ (List.mem_of_getElem? (i := 39) rfl)) (hw _ (List.mem_of_getElem? (i := 40) rfl)) (hw _ (List.mem_of_getElem? (i := 41) rfl)) (by decide) (rm6_0 l Z a0 hw hp6 n0 a2 el df Lb Sl) e6 1 (Nat.le_of_eq rfl) (by decide) (by decide) (by decide) (by decide) (by rw [hml]; rfl) pd__Ljava_util_Collection__Ljava_util_List_ rfl rfl (hb hby d5_31) ?_
  rintro T7 _ _ X7 ⟨rfl, rfl, e7⟩
  rw [List.append_nil] at X7
  show own_Fin _ _ _ _ _ _ _ T7 (mkF m 34 #[.val (.ref o), .val (.int x1i), .val (.int x2i), .val (.ref a1), .val (.int x3i), .val (.ref a2), .val (.ref ms), .val (.long t), .second] [(.ref el), (.ref o)])
  refine own_putF X7 hx hZ (O := "com/example/libelect/libelect/simulation/Outcome") hown (hw _ (List.mem_of_getElem? (i := 71) rfl)) Via.refl e7 P_messageKinds Eo (Or.inr ⟨(hw _ (List.mem_of_getElem? (i := 72) rfl)), rfl, hnm⟩) (hw _ (List.mem_of_getElem? (i := 28) rfl)) pf_Ljava_util_List_ rfl rfl N6 ge (hb hby d5_34) ?_
  intro T8 hp8 L8 X8 e8 N8 W8
  replace Lb := Lb.wr W8 (ne_exa Lb.1 Eo (by decide))
  replace Am := Am.other W8 (own_arv_ne Eo (hw _ (List.mem_of_getElem? (i := 28) rfl)) Am)
  replace Bm := Bm.wr W8
  replace Sl := Sl.wr W8
  replace Sm := Sm.wr W8
  replace Rl := Rl.wr W8 (ne_exa Rl.1 Eo (by decide)) Eo (hw _ (List.mem_of_getElem? (i := 28) rfl))
  replace La := La.wr W8 (ne_exa La.1 Eo (by decide))
  replace Aa := Aa.other W8 (own_arv_ne Eo (hw _ (List.mem_of_getElem? (i := 28) rfl)) Aa)
  replace Ba := Ba.wr W8
  replace Ex1 := Ex1.wr W8
  replace Ex2 := Ex2.wr W8
  replace Rr := Rr.wr W8 (ne_exa Rr.1 Eo (by decide))
  replace Eo := Eo.wr W8
  replace P_nodes := P_nodes.other W8 (Or.inr (slot_ne (Or.inr (hw _ (List.mem_of_getElem? (i := 35) rfl))) (Or.inr (hw _ (List.mem_of_getElem? (i := 72) rfl))) (by decide) pf_I pf_Ljava_util_List_))
  replace P_live := P_live.other W8 (Or.inr (slot_ne (Or.inr (hw _ (List.mem_of_getElem? (i := 37) rfl))) (Or.inr (hw _ (List.mem_of_getElem? (i := 72) rfl))) (by decide) pf_I pf_Ljava_util_List_))
  replace P_leaders := P_leaders.other W8 (Or.inr (slot_ne (Or.inr (hw _ (List.mem_of_getElem? (i := 68) rfl))) (Or.inr (hw _ (List.mem_of_getElem? (i := 72) rfl))) (by decide) pf_Ljava_util_List_ pf_Ljava_util_List_))
  replace P_agreed := P_agreed.other W8 (Or.inr (slot_ne (Or.inr (hw _ (List.mem_of_getElem? (i := 70) rfl))) (Or.inr (hw _ (List.mem_of_getElem? (i := 72) rfl))) (by decide) pf_I pf_Ljava_util_List_))
  replace P_messageKinds := P_messageKinds.same W8
  replace P_messages := P_messages.other W8 (Or.inr (slot_ne (Or.inr (hw _ (List.mem_of_getElem? (i := 83) rfl))) (Or.inr (hw _ (List.mem_of_getElem? (i := 72) rfl))) (by decide) pf__J pf_Ljava_util_List_))
  replace P_time := P_time.other W8 (Or.inr (slot_ne (Or.inr (hw _ (List.mem_of_getElem? (i := 85) rfl))) (Or.inr (hw _ (List.mem_of_getElem? (i := 72) rfl))) (by decide) pf_J pf_Ljava_util_List_))
  show own_Fin _ _ _ _ _ _ _ T8 (mkF m 37 #[.val (.ref o), .val (.int x1i), .val (.int x2i), .val (.ref a1), .val (.int x3i), .val (.ref a2), .val (.ref ms), .val (.long t), .second] [])
  refine own_step (fun _ k => XS.aloadN X8.here hx rfl (hb hby d5_37) rfl rfl k) ?_
  show own_Fin _ _ _ _ _ _ _ T8 (mkF m 38 #[.val (.ref o), .val (.int x1i), .val (.int x2i), .val (.ref a1), .val (.int x3i), .val (.ref a2), .val (.ref ms), .val (.long t), .second] [(.ref o)])
  refine own_step (fun _ k => XS.aload X8.here hx rfl (hb hby d5_38) rfl rfl k) ?_
  show own_Fin _ _ _ _ _ _ _ T8 (mkF m 40 #[.val (.ref o), .val (.int x1i), .val (.int x2i), .val (.ref a1), .val (.int x3i), .val (.ref a2), .val (.ref ms), .val (.long t), .second] [(.ref ms), (.ref o)])
  refine own_cloneA X8 hx hZ hown (hw _ (List.mem_of_getElem? (i := 73) rfl)) (hw _ (List.mem_of_getElem? (i := 74) rfl)) (hw _ (List.mem_of_getElem? (i := 78) rfl)) (hw _ (List.mem_of_getElem? (i := 76) rfl)) (hw _ (List.mem_of_getElem? (i := 77) rfl)) (hw _ (List.mem_of_getElem? (i := 79) rfl)) e8 Am rfl Bm (by rw [hml]; rfl) (by decide) 1 (Nat.le_of_eq rfl) (by decide) (by decide) (by decide) (hb hby d5_40) ?_
  intro T9 hp9 X9 e9 E9 B9
  replace Eo := Eo.ext E9
  replace Lb := Lb.ext E9
  replace Am := Am.ext E9
  replace Bm := Bm.ext E9
  replace Sl := Sl.ext E9
  replace Sm := Sm.ext E9
  replace Rl := Rl.ext E9
  replace La := La.ext E9
  replace Aa := Aa.ext E9
  replace Ba := Ba.ext E9
  replace Ex1 := Ex1.ext E9
  replace Ex2 := Ex2.ext E9
  replace Rr := Rr.ext E9
  replace P_nodes := P_nodes.ext E9
  replace P_live := P_live.ext E9
  replace P_leaders := P_leaders.ext E9
  replace P_agreed := P_agreed.ext E9
  replace P_messageKinds := P_messageKinds.ext E9
  replace P_messages := P_messages.ext E9
  replace P_time := P_time.ext E9
  show own_Fin _ _ _ _ _ _ _ T9 (mkF m 43 #[.val (.ref o), .val (.int x1i), .val (.int x2i), .val (.ref a1), .val (.int x3i), .val (.ref a2), .val (.ref ms), .val (.long t), .second] [(.ref hp8.size), (.ref o)])
  refine own_cast X9 hx hZ hown (hw _ (List.mem_of_getElem? (i := 80) rfl)) e9 (Ins.self B9) (hb hby d5_43) ?_
  intro T10 X10 e10
  show own_Fin _ _ _ _ _ _ _ T10 (mkF m 46 #[.val (.ref o), .val (.int x1i), .val (.int x2i), .val (.ref a1), .val (.int x3i), .val (.ref a2), .val (.ref ms), .val (.long t), .second] [(.ref hp8.size), (.ref o)])
  refine own_putF X10 hx hZ (O := "com/example/libelect/libelect/simulation/Outcome") hown (hw _ (List.mem_of_getElem? (i := 82) rfl)) Via.refl e10 P_messages Eo (Or.inr ⟨(hw _ (List.mem_of_getElem? (i := 83) rfl)), rfl, hnm⟩) (hw _ (List.mem_of_getElem? (i := 28) rfl)) pf__J rfl rfl N8 ge (hb hby d5_46) ?_
  intro T11 hp11 L11 X11 e11 N11 W11
  replace Lb := Lb.wr W11 (ne_exa Lb.1 Eo (by decide))
  replace Am := Am.other W11 (own_arv_ne Eo (hw _ (List.mem_of_getElem? (i := 28) rfl)) Am)
  replace Bm := Bm.wr W11
  replace Sl := Sl.wr W11
  replace Sm := Sm.wr W11
  replace Rl := Rl.wr W11 (ne_exa Rl.1 Eo (by decide)) Eo (hw _ (List.mem_of_getElem? (i := 28) rfl))
  replace La := La.wr W11 (ne_exa La.1 Eo (by decide))
  replace Aa := Aa.other W11 (own_arv_ne Eo (hw _ (List.mem_of_getElem? (i := 28) rfl)) Aa)
  replace Ba := Ba.wr W11
  replace Ex1 := Ex1.wr W11
  replace Ex2 := Ex2.wr W11
  replace Rr := Rr.wr W11 (ne_exa Rr.1 Eo (by decide))
  replace Eo := Eo.wr W11
  replace P_nodes := P_nodes.other W11 (Or.inr (slot_ne (Or.inr (hw _ (List.mem_of_getElem? (i := 35) rfl))) (Or.inr (hw _ (List.mem_of_getElem? (i := 83) rfl))) (by decide) pf_I pf__J))
  replace P_live := P_live.other W11 (Or.inr (slot_ne (Or.inr (hw _ (List.mem_of_getElem? (i := 37) rfl))) (Or.inr (hw _ (List.mem_of_getElem? (i := 83) rfl))) (by decide) pf_I pf__J))
  replace P_leaders := P_leaders.other W11 (Or.inr (slot_ne (Or.inr (hw _ (List.mem_of_getElem? (i := 68) rfl))) (Or.inr (hw _ (List.mem_of_getElem? (i := 83) rfl))) (by decide) pf_Ljava_util_List_ pf__J))
  replace P_agreed := P_agreed.other W11 (Or.inr (slot_ne (Or.inr (hw _ (List.mem_of_getElem? (i := 70) rfl))) (Or.inr (hw _ (List.mem_of_getElem? (i := 83) rfl))) (by decide) pf_I pf__J))
  replace P_messageKinds := P_messageKinds.other W11 (Or.inr (slot_ne (Or.inr (hw _ (List.mem_of_getElem? (i := 72) rfl))) (Or.inr (hw _ (List.mem_of_getElem? (i := 83) rfl))) (by decide) pf_Ljava_util_List_ pf__J))
  replace P_messages := P_messages.same W11
  replace P_time := P_time.other W11 (Or.inr (slot_ne (Or.inr (hw _ (List.mem_of_getElem? (i := 85) rfl))) (Or.inr (hw _ (List.mem_of_getElem? (i := 83) rfl))) (by decide) pf_J pf__J))
  show own_Fin _ _ _ _ _ _ _ T11 (mkF m 49 #[.val (.ref o), .val (.int x1i), .val (.int x2i), .val (.ref a1), .val (.int x3i), .val (.ref a2), .val (.ref ms), .val (.long t), .second] [])
  refine own_step (fun _ k => XS.aloadN X11.here hx rfl (hb hby d5_49) rfl rfl k) ?_
  show own_Fin _ _ _ _ _ _ _ T11 (mkF m 50 #[.val (.ref o), .val (.int x1i), .val (.int x2i), .val (.ref a1), .val (.int x3i), .val (.ref a2), .val (.ref ms), .val (.long t), .second] [(.ref o)])
  refine own_step (fun _ k => XT.lload X11.here hx rfl (hb hby d5_50) rfl k) ?_
  show own_Fin _ _ _ _ _ _ _ T11 (mkF m 52 #[.val (.ref o), .val (.int x1i), .val (.int x2i), .val (.ref a1), .val (.int x3i), .val (.ref a2), .val (.ref ms), .val (.long t), .second] [(.long t), (.ref o)])
  refine own_putF X11 hx hZ (O := "com/example/libelect/libelect/simulation/Outcome") hown (hw _ (List.mem_of_getElem? (i := 84) rfl)) Via.refl e11 P_time Eo (Or.inr ⟨(hw _ (List.mem_of_getElem? (i := 85) rfl)), rfl, hnm⟩) (hw _ (List.mem_of_getElem? (i := 28) rfl)) pf_J rfl rfl N11 ge (hb hby d5_52) ?_
  intro T12 hp12 L12 X12 e12 N12 W12
  replace Lb := Lb.wr W12 (ne_exa Lb.1 Eo (by decide))
  replace Am := Am.other W12 (own_arv_ne Eo (hw _ (List.mem_of_getElem? (i := 28) rfl)) Am)
  replace Bm := Bm.wr W12
  replace Sl := Sl.wr W12
  replace Sm := Sm.wr W12
  replace Rl := Rl.wr W12 (ne_exa Rl.1 Eo (by decide)) Eo (hw _ (List.mem_of_getElem? (i := 28) rfl))
  replace La := La.wr W12 (ne_exa La.1 Eo (by decide))
  replace Aa := Aa.other W12 (own_arv_ne Eo (hw _ (List.mem_of_getElem? (i := 28) rfl)) Aa)
  replace Ba := Ba.wr W12
  replace Ex1 := Ex1.wr W12
  replace Ex2 := Ex2.wr W12
  replace Rr := Rr.wr W12 (ne_exa Rr.1 Eo (by decide))
  replace Eo := Eo.wr W12
  replace P_nodes := P_nodes.other W12 (Or.inr (slot_ne (Or.inr (hw _ (List.mem_of_getElem? (i := 35) rfl))) (Or.inr (hw _ (List.mem_of_getElem? (i := 85) rfl))) (by decide) pf_I pf_J))
  replace P_live := P_live.other W12 (Or.inr (slot_ne (Or.inr (hw _ (List.mem_of_getElem? (i := 37) rfl))) (Or.inr (hw _ (List.mem_of_getElem? (i := 85) rfl))) (by decide) pf_I pf_J))
  replace P_leaders := P_leaders.other W12 (Or.inr (slot_ne (Or.inr (hw _ (List.mem_of_getElem? (i := 68) rfl))) (Or.inr (hw _ (List.mem_of_getElem? (i := 85) rfl))) (by decide) pf_Ljava_util_List_ pf_J))
  replace P_agreed := P_agreed.other W12 (Or.inr (slot_ne (Or.inr (hw _ (List.mem_of_getElem? (i := 70) rfl))) (Or.inr (hw _ (List.mem_of_getElem? (i := 85) rfl))) (by decide) pf_I pf_J))
  replace P_messageKinds := P_messageKinds.other W12 (Or.inr (slot_ne (Or.inr (hw _ (List.mem_of_getElem? (i := 72) rfl))) (Or.inr (hw _ (List.mem_of_getElem? (i := 85) rfl))) (by decide) pf_Ljava_util_List_ pf_J))
  replace P_messages := P_messages.other W12 (Or.inr (slot_ne (Or.inr (hw _ (List.mem_of_getElem? (i := 83) rfl))) (Or.inr (hw _ (List.mem_of_getElem? (i := 85) rfl))) (by decide) pf__J pf_J))
  replace P_time := P_time.same W12
  show own_Fin _ _ _ _ _ _ _ T12 (mkF m 55 #[.val (.ref o), .val (.int x1i), .val (.int x2i), .val (.ref a1), .val (.int x3i), .val (.ref a2), .val (.ref ms), .val (.long t), .second] [])
  exact own_retV X12 hx hrt hlk (hb hby d5_55) (by rw [e12]; exact ⟨_, rfl, N12, Eo, P_leaders, P_agreed, P_live, Rr, Sm⟩) (by decide) (by decide)
set_option maxRecDepth 65536 in
set_option maxHeartbeats 40000000 in
theorem rm5_3 (l : Launch) (Z : State) (a0 : Array Value) (hw : ∀ d ∈ tables_1, d.before a0 Z = true) (h0 : Heap) (n0 : Nat) (o a1 a2 ms el em df mr ar : Addr) (x1i x2i x3i : Int32) (t : Int64) (km k : ClassId) (x1 x2 x3 : Addr) (P_nodes : Fld Z h0 o "com/example/libelect/libelect/simulation/Outcome" "nodes" "I" (.int 0)) (P_live : Fld Z h0 o "com/example/libelect/libelect/simulation/Outcome" "live" "I" (.int 0)) (P_leaders : Fld Z h0 o "com/example/libelect/libelect/simulation/Outcome" "leaders" "Ljava/util/List;" .null) (P_agreed : Fld Z h0 o "com/example/libelect/libelect/simulation/Outcome" "agreed" "I" (.int 0)) (P_messageKinds : Fld Z h0 o "com/example/libelect/libelect/simulation/Outcome" "messageKinds" "Ljava/util/List;" .null) (P_messages : Fld Z h0 o "com/example/libelect/libelect/simulation/Outcome" "messages" "[J" .null) (P_time : Fld Z h0 o "com/example/libelect/libelect/simulation/Outcome" "time" "J" (.long 0)) (Eo : Exa Z h0 o "com/example/libelect/libelect/simulation/Outcome") (Lb : own_AL Z h0 a2 0 df) (Am : Arv Z h0 ms km .long 0 [] (.long 0)) (Bm : Exa Z h0 ms "[J") (Sl : Sta Z h0 "java/util/ImmutableCollections" "EMPTY_LIST" "Ljava/util/ImmutableCollections$ListN;" (.ref el)) (Sm : Sta Z h0 "java/util/ImmutableCollections" "EMPTY" "Ljava/lang/Object;" (.ref em)) (Rl : own_LN Z h0 el 0) (ge : n0 ≤ o) (gh : n0 ≤ h0.size) (Mr : own_Mir Z "[Ljava/lang/Object;" mr) (La : own_AL Z h0 a1 3 ar) (Aa : Arv Z h0 ar k (.object "java/lang/Object") 10 [.ref x1, .ref x2, .ref x3] .null) (Ba : Exa Z h0 ar "[Ljava/lang/Object;") (Ex1 : Exa Z h0 x1 "java/lang/Long") (Ex2 : Exa Z h0 x2 "java/lang/Long") (Ex3 : Exa Z h0 x3 "java/lang/Long") :
    own_Met l Z (⟨"com/example/libelect/libelect/simulation/Outcome", "<init>", "(IILjava/util/List;ILjava/util/List;[JJ)V"⟩ : MethodName) prog_52_method_1_code 9 none [] ({ frames := 9, cells := 4, slots := 8, locals := 116 } : Room) #[(.ref o), (.int x1i), (.int x2i), (.ref a1), (.int x3i), (.ref a2), (.ref ms), (.long t)] h0 (fun v h L => ∃ r, v = none ∧ Fr n0 L ∧ Exa Z h o "com/example/libelect/libelect/simulation/Outcome" ∧ Fld Z h o "com/example/libelect/libelect/simulation/Outcome" "leaders" "Ljava/util/List;" (.ref r) ∧ Fld Z h o "com/example/libelect/libelect/simulation/Outcome" "agreed" "I" (.int x3i) ∧ Fld Z h o "com/example/libelect/libelect/simulation/Outcome" "live" "I" (.int x2i) ∧ own_LN Z h r 3 ∧ Sta Z h "java/util/ImmutableCollections" "EMPTY" "Ljava/lang/Object;" (.ref em)) := by
  refine own_body pn_com_example_libelect_libelect_simulation_Outcome ?_
  intro p e s m below meth c s₁ hx hby hml hZ hown hnm hrt hlk X0 e0
  have N0 := Fr.nil n0
  rw [ef_riirirrl_9]
  show own_Fin _ _ _ _ _ _ _ s₁ (mkF m 0 #[.val (.ref o), .val (.int x1i), .val (.int x2i), .val (.ref a1), .val (.int x3i), .val (.ref a2), .val (.ref ms), .val (.long t), .second] [])
  refine own_step (fun _ k => XS.aloadN X0.here hx rfl (hb hby d5_0) rfl rfl k) ?_
  show own_Fin _ _ _ _ _ _ _ s₁ (mkF m 1 #[.val (.ref o), .val (.int x1i), .val (.int x2i), .val (.ref a1), .val (.int x3i), .val (.ref a2), .val (.ref ms), .val (.long t), .second] [(.ref o)])
  refine own_initO X0 hx hZ hown (hw _ (List.mem_of_getElem? (i := 33) rfl)) (hw _ (List.mem_of_getElem? (i := 19) rfl)) (hw _ (List.mem_of_getElem? (i := 20) rfl)) e0 (by rw [hml]; rfl) 0 (Nat.le_of_eq rfl) (by decide) (by decide) (hb hby d5_1) ?_
  intro T1 X1 e1
  show own_Fin _ _ _ _ _ _ _ T1 (mkF m 4 #[.val (.ref o), .val (.int x1i), .val (.int x2i), .val (.ref a1), .val (.int x3i), .val (.ref a2), .val (.ref ms), .val (.long t), .second] [])
  refine own_step (fun _ k => XS.aloadN X1.here hx rfl (hb hby d5_4) rfl rfl k) ?_
  show own_Fin _ _ _ _ _ _ _ T1 (mkF m 5 #[.val (.ref o), .val (.int x1i), .val (.int x2i), .val (.ref a1), .val (.int x3i), .val (.ref a2), .val (.ref ms), .val (.long t), .second] [(.ref o)])
  refine own_step (fun _ k => XS.iloadN X1.here hx rfl (hb hby d5_5) rfl k) ?_
  show own_Fin _ _ _ _ _ _ _ T1 (mkF m 6 #[.val (.ref o), .val (.int x1i), .val (.int x2i), .val (.ref a1), .val (.int x3i), .val (.ref a2), .val (.ref ms), .val (.long t), .second] [(.int x1i), (.ref o)])
  refine own_putF X1 hx hZ (O := "com/example/libelect/libelect/simulation/Outcome") hown (hw _ (List.mem_of_getElem? (i := 34) rfl)) Via.refl e1 P_nodes Eo (Or.inr ⟨(hw _ (List.mem_of_getElem? (i := 35) rfl)), rfl, hnm⟩) (hw _ (List.mem_of_getElem? (i := 28) rfl)) pf_I rfl rfl N0 ge (hb hby d5_6) ?_
  intro T2 hp2 L2 X2 e2 N2 W2
  replace Lb := Lb.wr W2 (ne_exa Lb.1 Eo (by decide))
  replace Am := Am.other W2 (own_arv_ne Eo (hw _ (List.mem_of_getElem? (i := 28) rfl)) Am)
  replace Bm := Bm.wr W2
  replace Sl := Sl.wr W2
  replace Sm := Sm.wr W2
  replace Rl := Rl.wr W2 (ne_exa Rl.1 Eo (by decide)) Eo (hw _ (List.mem_of_getElem? (i := 28) rfl))
  replace La := La.wr W2 (ne_exa La.1 Eo (by decide))
  replace Aa := Aa.other W2 (own_arv_ne Eo (hw _ (List.mem_of_getElem? (i := 28) rfl)) Aa)
  replace Ba := Ba.wr W2
  replace Ex1 := Ex1.wr W2
  replace Ex2 := Ex2.wr W2
  replace Ex3 := Ex3.wr W2
  replace Eo := Eo.wr W2
  replace P_nodes := P_nodes.same W2
  replace P_live := P_live.other W2 (Or.inr (slot_ne (Or.inr (hw _ (List.mem_of_getElem? (i := 37) rfl))) (Or.inr (hw _ (List.mem_of_getElem? (i := 35) rfl))) (by decide) pf_I pf_I))
  replace P_leaders := P_leaders.other W2 (Or.inr (slot_ne (Or.inr (hw _ (List.mem_of_getElem? (i := 68) rfl))) (Or.inr (hw _ (List.mem_of_getElem? (i := 35) rfl))) (by decide) pf_Ljava_util_List_ pf_I))
  replace P_agreed := P_agreed.other W2 (Or.inr (slot_ne (Or.inr (hw _ (List.mem_of_getElem? (i := 70) rfl))) (Or.inr (hw _ (List.mem_of_getElem? (i := 35) rfl))) (by decide) pf_I pf_I))
  replace P_messageKinds := P_messageKinds.other W2 (Or.inr (slot_ne (Or.inr (hw _ (List.mem_of_getElem? (i := 72) rfl))) (Or.inr (hw _ (List.mem_of_getElem? (i := 35) rfl))) (by decide) pf_Ljava_util_List_ pf_I))
  replace P_messages := P_messages.other W2 (Or.inr (slot_ne (Or.inr (hw _ (List.mem_of_getElem? (i := 83) rfl))) (Or.inr (hw _ (List.mem_of_getElem? (i := 35) rfl))) (by decide) pf__J pf_I))
  replace P_time := P_time.other W2 (Or.inr (slot_ne (Or.inr (hw _ (List.mem_of_getElem? (i := 85) rfl))) (Or.inr (hw _ (List.mem_of_getElem? (i := 35) rfl))) (by decide) pf_J pf_I))
  show own_Fin _ _ _ _ _ _ _ T2 (mkF m 9 #[.val (.ref o), .val (.int x1i), .val (.int x2i), .val (.ref a1), .val (.int x3i), .val (.ref a2), .val (.ref ms), .val (.long t), .second] [])
  refine own_step (fun _ k => XS.aloadN X2.here hx rfl (hb hby d5_9) rfl rfl k) ?_
  show own_Fin _ _ _ _ _ _ _ T2 (mkF m 10 #[.val (.ref o), .val (.int x1i), .val (.int x2i), .val (.ref a1), .val (.int x3i), .val (.ref a2), .val (.ref ms), .val (.long t), .second] [(.ref o)])
  refine own_step (fun _ k => XS.iloadN X2.here hx rfl (hb hby d5_10) rfl k) ?_
  show own_Fin _ _ _ _ _ _ _ T2 (mkF m 11 #[.val (.ref o), .val (.int x1i), .val (.int x2i), .val (.ref a1), .val (.int x3i), .val (.ref a2), .val (.ref ms), .val (.long t), .second] [(.int x2i), (.ref o)])
  refine own_putF X2 hx hZ (O := "com/example/libelect/libelect/simulation/Outcome") hown (hw _ (List.mem_of_getElem? (i := 36) rfl)) Via.refl e2 P_live Eo (Or.inr ⟨(hw _ (List.mem_of_getElem? (i := 37) rfl)), rfl, hnm⟩) (hw _ (List.mem_of_getElem? (i := 28) rfl)) pf_I rfl rfl N2 ge (hb hby d5_11) ?_
  intro T3 hp3 L3 X3 e3 N3 W3
  replace Lb := Lb.wr W3 (ne_exa Lb.1 Eo (by decide))
  replace Am := Am.other W3 (own_arv_ne Eo (hw _ (List.mem_of_getElem? (i := 28) rfl)) Am)
  replace Bm := Bm.wr W3
  replace Sl := Sl.wr W3
  replace Sm := Sm.wr W3
  replace Rl := Rl.wr W3 (ne_exa Rl.1 Eo (by decide)) Eo (hw _ (List.mem_of_getElem? (i := 28) rfl))
  replace La := La.wr W3 (ne_exa La.1 Eo (by decide))
  replace Aa := Aa.other W3 (own_arv_ne Eo (hw _ (List.mem_of_getElem? (i := 28) rfl)) Aa)
  replace Ba := Ba.wr W3
  replace Ex1 := Ex1.wr W3
  replace Ex2 := Ex2.wr W3
  replace Ex3 := Ex3.wr W3
  replace Eo := Eo.wr W3
  replace P_nodes := P_nodes.other W3 (Or.inr (slot_ne (Or.inr (hw _ (List.mem_of_getElem? (i := 35) rfl))) (Or.inr (hw _ (List.mem_of_getElem? (i := 37) rfl))) (by decide) pf_I pf_I))
  replace P_live := P_live.same W3
  replace P_leaders := P_leaders.other W3 (Or.inr (slot_ne (Or.inr (hw _ (List.mem_of_getElem? (i := 68) rfl))) (Or.inr (hw _ (List.mem_of_getElem? (i := 37) rfl))) (by decide) pf_Ljava_util_List_ pf_I))
  replace P_agreed := P_agreed.other W3 (Or.inr (slot_ne (Or.inr (hw _ (List.mem_of_getElem? (i := 70) rfl))) (Or.inr (hw _ (List.mem_of_getElem? (i := 37) rfl))) (by decide) pf_I pf_I))
  replace P_messageKinds := P_messageKinds.other W3 (Or.inr (slot_ne (Or.inr (hw _ (List.mem_of_getElem? (i := 72) rfl))) (Or.inr (hw _ (List.mem_of_getElem? (i := 37) rfl))) (by decide) pf_Ljava_util_List_ pf_I))
  replace P_messages := P_messages.other W3 (Or.inr (slot_ne (Or.inr (hw _ (List.mem_of_getElem? (i := 83) rfl))) (Or.inr (hw _ (List.mem_of_getElem? (i := 37) rfl))) (by decide) pf__J pf_I))
  replace P_time := P_time.other W3 (Or.inr (slot_ne (Or.inr (hw _ (List.mem_of_getElem? (i := 85) rfl))) (Or.inr (hw _ (List.mem_of_getElem? (i := 37) rfl))) (by decide) pf_J pf_I))
  show own_Fin _ _ _ _ _ _ _ T3 (mkF m 14 #[.val (.ref o), .val (.int x1i), .val (.int x2i), .val (.ref a1), .val (.int x3i), .val (.ref a2), .val (.ref ms), .val (.long t), .second] [])
  refine own_step (fun _ k => XS.aloadN X3.here hx rfl (hb hby d5_14) rfl rfl k) ?_
  show own_Fin _ _ _ _ _ _ _ T3 (mkF m 15 #[.val (.ref o), .val (.int x1i), .val (.int x2i), .val (.ref a1), .val (.int x3i), .val (.ref a2), .val (.ref ms), .val (.long t), .second] [(.ref o)])
  refine own_step (fun _ k => XS.aloadN X3.here hx rfl (hb hby d5_15) rfl rfl k) ?_
  show own_Fin _ _ _ _ _ _ _ T3 (mkF m 16 #[.val (.ref o), .val (.int x1i), .val (.int x2i), .val (.ref a1), .val (.int x3i), .val (.ref a2), .val (.ref ms), .val (.long t), .second] [(.ref a1), (.ref o)])
  have gh1 : n0 ≤ hp3.size := Nat.le_of_lt (Nat.lt_of_le_of_lt ge Eo.lt)
  refine own_callS X3 hx hZ (argsL := [(.ref a1)]) (rest := [(.ref o)]) hown (hw _ (List.mem_of_getElem? (i := 38) rfl)) (hw _ (List.mem_of_getElem? (i := 39) rfl)) (hw _ (List.mem_of_getElem? (i := 40) rfl)) (hw _ (List.mem_of_getElem? (i := 41) rfl)) (by decide) (rm6_3 l Z a0 hw hp3 n0 a1 ar em mr k x1 x2 x3 La Aa Ba Mr Sm gh1 Ex1 Ex2 Ex3) e3 1 (Nat.le_of_eq rfl) (by decide) (by decide) (by decide) (by decide) (by rw [hml]; rfl) pd__Ljava_util_Collection__Ljava_util_List_ rfl rfl (hb hby d5_16) ?_
  rintro T4 L4 _ X4 ⟨rr, rfl, F4, E4, Rr⟩
  have N4 := Fr.app N3 F4
  replace Eo := Eo.ext E4
  replace Lb := Lb.ext E4
  replace Am := Am.ext E4
  replace Bm := Bm.ext E4
  replace Sl := Sl.ext E4
  replace Sm := Sm.ext E4
  replace Rl := Rl.ext E4
  replace La := La.ext E4
  replace Aa := Aa.ext E4
  replace Ba := Ba.ext E4
  replace Ex1 := Ex1.ext E4
  replace Ex2 := Ex2.ext E4
  replace Ex3 := Ex3.ext E4
  replace P_nodes := P_nodes.ext E4
  replace P_live := P_live.ext E4
  replace P_leaders := P_leaders.ext E4
  replace P_agreed := P_agreed.ext E4
  replace P_messageKinds := P_messageKinds.ext E4
  replace P_messages := P_messages.ext E4
  replace P_time := P_time.ext E4
  show own_Fin _ _ _ _ _ _ _ T4 (mkF m 19 #[.val (.ref o), .val (.int x1i), .val (.int x2i), .val (.ref a1), .val (.int x3i), .val (.ref a2), .val (.ref ms), .val (.long t), .second] [(.ref rr), (.ref o)])
  refine own_putF X4 hx hZ (O := "com/example/libelect/libelect/simulation/Outcome") hown (hw _ (List.mem_of_getElem? (i := 67) rfl)) Via.refl rfl P_leaders Eo (Or.inr ⟨(hw _ (List.mem_of_getElem? (i := 68) rfl)), rfl, hnm⟩) (hw _ (List.mem_of_getElem? (i := 28) rfl)) pf_Ljava_util_List_ rfl rfl N4 ge (hb hby d5_19) ?_
  intro T5 hp5 L5 X5 e5 N5 W5
  replace Lb := Lb.wr W5 (ne_exa Lb.1 Eo (by decide))
  replace Am := Am.other W5 (own_arv_ne Eo (hw _ (List.mem_of_getElem? (i := 28) rfl)) Am)
  replace Bm := Bm.wr W5
  replace Sl := Sl.wr W5
  replace Sm := Sm.wr W5
  replace Rl := Rl.wr W5 (ne_exa Rl.1 Eo (by decide)) Eo (hw _ (List.mem_of_getElem? (i := 28) rfl))
  replace La := La.wr W5 (ne_exa La.1 Eo (by decide))
  replace Aa := Aa.other W5 (own_arv_ne Eo (hw _ (List.mem_of_getElem? (i := 28) rfl)) Aa)
  replace Ba := Ba.wr W5
  replace Ex1 := Ex1.wr W5
  replace Ex2 := Ex2.wr W5
  replace Ex3 := Ex3.wr W5
  replace Rr := Rr.wr W5 (ne_exa Rr.1 Eo (by decide)) Eo (hw _ (List.mem_of_getElem? (i := 28) rfl))
  replace Eo := Eo.wr W5
  replace P_nodes := P_nodes.other W5 (Or.inr (slot_ne (Or.inr (hw _ (List.mem_of_getElem? (i := 35) rfl))) (Or.inr (hw _ (List.mem_of_getElem? (i := 68) rfl))) (by decide) pf_I pf_Ljava_util_List_))
  replace P_live := P_live.other W5 (Or.inr (slot_ne (Or.inr (hw _ (List.mem_of_getElem? (i := 37) rfl))) (Or.inr (hw _ (List.mem_of_getElem? (i := 68) rfl))) (by decide) pf_I pf_Ljava_util_List_))
  replace P_leaders := P_leaders.same W5
  replace P_agreed := P_agreed.other W5 (Or.inr (slot_ne (Or.inr (hw _ (List.mem_of_getElem? (i := 70) rfl))) (Or.inr (hw _ (List.mem_of_getElem? (i := 68) rfl))) (by decide) pf_I pf_Ljava_util_List_))
  replace P_messageKinds := P_messageKinds.other W5 (Or.inr (slot_ne (Or.inr (hw _ (List.mem_of_getElem? (i := 72) rfl))) (Or.inr (hw _ (List.mem_of_getElem? (i := 68) rfl))) (by decide) pf_Ljava_util_List_ pf_Ljava_util_List_))
  replace P_messages := P_messages.other W5 (Or.inr (slot_ne (Or.inr (hw _ (List.mem_of_getElem? (i := 83) rfl))) (Or.inr (hw _ (List.mem_of_getElem? (i := 68) rfl))) (by decide) pf__J pf_Ljava_util_List_))
  replace P_time := P_time.other W5 (Or.inr (slot_ne (Or.inr (hw _ (List.mem_of_getElem? (i := 85) rfl))) (Or.inr (hw _ (List.mem_of_getElem? (i := 68) rfl))) (by decide) pf_J pf_Ljava_util_List_))
  show own_Fin _ _ _ _ _ _ _ T5 (mkF m 22 #[.val (.ref o), .val (.int x1i), .val (.int x2i), .val (.ref a1), .val (.int x3i), .val (.ref a2), .val (.ref ms), .val (.long t), .second] [])
  refine own_step (fun _ k => XS.aloadN X5.here hx rfl (hb hby d5_22) rfl rfl k) ?_
  show own_Fin _ _ _ _ _ _ _ T5 (mkF m 23 #[.val (.ref o), .val (.int x1i), .val (.int x2i), .val (.ref a1), .val (.int x3i), .val (.ref a2), .val (.ref ms), .val (.long t), .second] [(.ref o)])
  refine own_step (fun _ k => XS.iload X5.here hx rfl (hb hby d5_23) rfl k) ?_
  show own_Fin _ _ _ _ _ _ _ T5 (mkF m 25 #[.val (.ref o), .val (.int x1i), .val (.int x2i), .val (.ref a1), .val (.int x3i), .val (.ref a2), .val (.ref ms), .val (.long t), .second] [(.int x3i), (.ref o)])
  refine own_putF X5 hx hZ (O := "com/example/libelect/libelect/simulation/Outcome") hown (hw _ (List.mem_of_getElem? (i := 69) rfl)) Via.refl e5 P_agreed Eo (Or.inr ⟨(hw _ (List.mem_of_getElem? (i := 70) rfl)), rfl, hnm⟩) (hw _ (List.mem_of_getElem? (i := 28) rfl)) pf_I rfl rfl N5 ge (hb hby d5_25) ?_
  intro T6 hp6 L6 X6 e6 N6 W6
  replace Lb := Lb.wr W6 (ne_exa Lb.1 Eo (by decide))
  replace Am := Am.other W6 (own_arv_ne Eo (hw _ (List.mem_of_getElem? (i := 28) rfl)) Am)
  replace Bm := Bm.wr W6
  replace Sl := Sl.wr W6
  replace Sm := Sm.wr W6
  replace Rl := Rl.wr W6 (ne_exa Rl.1 Eo (by decide)) Eo (hw _ (List.mem_of_getElem? (i := 28) rfl))
  replace La := La.wr W6 (ne_exa La.1 Eo (by decide))
  replace Aa := Aa.other W6 (own_arv_ne Eo (hw _ (List.mem_of_getElem? (i := 28) rfl)) Aa)
  replace Ba := Ba.wr W6
  replace Ex1 := Ex1.wr W6
  replace Ex2 := Ex2.wr W6
  replace Ex3 := Ex3.wr W6
  replace Rr := Rr.wr W6 (ne_exa Rr.1 Eo (by decide)) Eo (hw _ (List.mem_of_getElem? (i := 28) rfl))
  replace Eo := Eo.wr W6
  replace P_nodes := P_nodes.other W6 (Or.inr (slot_ne (Or.inr (hw _ (List.mem_of_getElem? (i := 35) rfl))) (Or.inr (hw _ (List.mem_of_getElem? (i := 70) rfl))) (by decide) pf_I pf_I))
  replace P_live := P_live.other W6 (Or.inr (slot_ne (Or.inr (hw _ (List.mem_of_getElem? (i := 37) rfl))) (Or.inr (hw _ (List.mem_of_getElem? (i := 70) rfl))) (by decide) pf_I pf_I))
  replace P_leaders := P_leaders.other W6 (Or.inr (slot_ne (Or.inr (hw _ (List.mem_of_getElem? (i := 68) rfl))) (Or.inr (hw _ (List.mem_of_getElem? (i := 70) rfl))) (by decide) pf_Ljava_util_List_ pf_I))
  replace P_agreed := P_agreed.same W6
  replace P_messageKinds := P_messageKinds.other W6 (Or.inr (slot_ne (Or.inr (hw _ (List.mem_of_getElem? (i := 72) rfl))) (Or.inr (hw _ (List.mem_of_getElem? (i := 70) rfl))) (by decide) pf_Ljava_util_List_ pf_I))
  replace P_messages := P_messages.other W6 (Or.inr (slot_ne (Or.inr (hw _ (List.mem_of_getElem? (i := 83) rfl))) (Or.inr (hw _ (List.mem_of_getElem? (i := 70) rfl))) (by decide) pf__J pf_I))
  replace P_time := P_time.other W6 (Or.inr (slot_ne (Or.inr (hw _ (List.mem_of_getElem? (i := 85) rfl))) (Or.inr (hw _ (List.mem_of_getElem? (i := 70) rfl))) (by decide) pf_J pf_I))
  show own_Fin _ _ _ _ _ _ _ T6 (mkF m 28 #[.val (.ref o), .val (.int x1i), .val (.int x2i), .val (.ref a1), .val (.int x3i), .val (.ref a2), .val (.ref ms), .val (.long t), .second] [])
  refine own_step (fun _ k => XS.aloadN X6.here hx rfl (hb hby d5_28) rfl rfl k) ?_
  show own_Fin _ _ _ _ _ _ _ T6 (mkF m 29 #[.val (.ref o), .val (.int x1i), .val (.int x2i), .val (.ref a1), .val (.int x3i), .val (.ref a2), .val (.ref ms), .val (.long t), .second] [(.ref o)])
  refine own_step (fun _ k => XS.aload X6.here hx rfl (hb hby d5_29) rfl rfl k) ?_
  show own_Fin _ _ _ _ _ _ _ T6 (mkF m 31 #[.val (.ref o), .val (.int x1i), .val (.int x2i), .val (.ref a1), .val (.int x3i), .val (.ref a2), .val (.ref ms), .val (.long t), .second] [(.ref a2), (.ref o)])
  refine own_callS X6 hx hZ (argsL := [(.ref a2)]) (rest := [(.ref o)]) hown (hw _ (List.mem_of_getElem? (i := 38) rfl)) (hw _ (List.mem_of_getElem? (i := 39) rfl)) (hw _ (List.mem_of_getElem? (i := 40) rfl)) (hw _ (List.mem_of_getElem? (i := 41) rfl)) (by decide) (rm6_0 l Z a0 hw hp6 n0 a2 el df Lb Sl) e6 1 (Nat.le_of_eq rfl) (by decide) (by decide) (by decide) (by decide) (by rw [hml]; rfl) pd__Ljava_util_Collection__Ljava_util_List_ rfl rfl (hb hby d5_31) ?_
  rintro T7 _ _ X7 ⟨rfl, rfl, e7⟩
  rw [List.append_nil] at X7
  show own_Fin _ _ _ _ _ _ _ T7 (mkF m 34 #[.val (.ref o), .val (.int x1i), .val (.int x2i), .val (.ref a1), .val (.int x3i), .val (.ref a2), .val (.ref ms), .val (.long t), .second] [(.ref el), (.ref o)])
  refine own_putF X7 hx hZ (O := "com/example/libelect/libelect/simulation/Outcome") hown (hw _ (List.mem_of_getElem? (i := 71) rfl)) Via.refl e7 P_messageKinds Eo (Or.inr ⟨(hw _ (List.mem_of_getElem? (i := 72) rfl)), rfl, hnm⟩) (hw _ (List.mem_of_getElem? (i := 28) rfl)) pf_Ljava_util_List_ rfl rfl N6 ge (hb hby d5_34) ?_
  intro T8 hp8 L8 X8 e8 N8 W8
  replace Lb := Lb.wr W8 (ne_exa Lb.1 Eo (by decide))
  replace Am := Am.other W8 (own_arv_ne Eo (hw _ (List.mem_of_getElem? (i := 28) rfl)) Am)
  replace Bm := Bm.wr W8
  replace Sl := Sl.wr W8
  replace Sm := Sm.wr W8
  replace Rl := Rl.wr W8 (ne_exa Rl.1 Eo (by decide)) Eo (hw _ (List.mem_of_getElem? (i := 28) rfl))
  replace La := La.wr W8 (ne_exa La.1 Eo (by decide))
  replace Aa := Aa.other W8 (own_arv_ne Eo (hw _ (List.mem_of_getElem? (i := 28) rfl)) Aa)
  replace Ba := Ba.wr W8
  replace Ex1 := Ex1.wr W8
  replace Ex2 := Ex2.wr W8
  replace Ex3 := Ex3.wr W8
  replace Rr := Rr.wr W8 (ne_exa Rr.1 Eo (by decide)) Eo (hw _ (List.mem_of_getElem? (i := 28) rfl))
  replace Eo := Eo.wr W8
  replace P_nodes := P_nodes.other W8 (Or.inr (slot_ne (Or.inr (hw _ (List.mem_of_getElem? (i := 35) rfl))) (Or.inr (hw _ (List.mem_of_getElem? (i := 72) rfl))) (by decide) pf_I pf_Ljava_util_List_))
  replace P_live := P_live.other W8 (Or.inr (slot_ne (Or.inr (hw _ (List.mem_of_getElem? (i := 37) rfl))) (Or.inr (hw _ (List.mem_of_getElem? (i := 72) rfl))) (by decide) pf_I pf_Ljava_util_List_))
  replace P_leaders := P_leaders.other W8 (Or.inr (slot_ne (Or.inr (hw _ (List.mem_of_getElem? (i := 68) rfl))) (Or.inr (hw _ (List.mem_of_getElem? (i := 72) rfl))) (by decide) pf_Ljava_util_List_ pf_Ljava_util_List_))
  replace P_agreed := P_agreed.other W8 (Or.inr (slot_ne (Or.inr (hw _ (List.mem_of_getElem? (i := 70) rfl))) (Or.inr (hw _ (List.mem_of_getElem? (i := 72) rfl))) (by decide) pf_I pf_Ljava_util_List_))
  replace P_messageKinds := P_messageKinds.same W8
  replace P_messages := P_messages.other W8 (Or.inr (slot_ne (Or.inr (hw _ (List.mem_of_getElem? (i := 83) rfl))) (Or.inr (hw _ (List.mem_of_getElem? (i := 72) rfl))) (by decide) pf__J pf_Ljava_util_List_))
  replace P_time := P_time.other W8 (Or.inr (slot_ne (Or.inr (hw _ (List.mem_of_getElem? (i := 85) rfl))) (Or.inr (hw _ (List.mem_of_getElem? (i := 72) rfl))) (by decide) pf_J pf_Ljava_util_List_))
  show own_Fin _ _ _ _ _ _ _ T8 (mkF m 37 #[.val (.ref o), .val (.int x1i), .val (.int x2i), .val (.ref a1), .val (.int x3i), .val (.ref a2), .val (.ref ms), .val (.long t), .second] [])
  refine own_step (fun _ k => XS.aloadN X8.here hx rfl (hb hby d5_37) rfl rfl k) ?_
  show own_Fin _ _ _ _ _ _ _ T8 (mkF m 38 #[.val (.ref o), .val (.int x1i), .val (.int x2i), .val (.ref a1), .val (.int x3i), .val (.ref a2), .val (.ref ms), .val (.long t), .second] [(.ref o)])
  refine own_step (fun _ k => XS.aload X8.here hx rfl (hb hby d5_38) rfl rfl k) ?_
  show own_Fin _ _ _ _ _ _ _ T8 (mkF m 40 #[.val (.ref o), .val (.int x1i), .val (.int x2i), .val (.ref a1), .val (.int x3i), .val (.ref a2), .val (.ref ms), .val (.long t), .second] [(.ref ms), (.ref o)])
  refine own_cloneA X8 hx hZ hown (hw _ (List.mem_of_getElem? (i := 73) rfl)) (hw _ (List.mem_of_getElem? (i := 74) rfl)) (hw _ (List.mem_of_getElem? (i := 78) rfl)) (hw _ (List.mem_of_getElem? (i := 76) rfl)) (hw _ (List.mem_of_getElem? (i := 77) rfl)) (hw _ (List.mem_of_getElem? (i := 79) rfl)) e8 Am rfl Bm (by rw [hml]; rfl) (by decide) 1 (Nat.le_of_eq rfl) (by decide) (by decide) (by decide) (hb hby d5_40) ?_
  intro T9 hp9 X9 e9 E9 B9
  replace Eo := Eo.ext E9
  replace Lb := Lb.ext E9
  replace Am := Am.ext E9
  replace Bm := Bm.ext E9
  replace Sl := Sl.ext E9
  replace Sm := Sm.ext E9
  replace Rl := Rl.ext E9
  replace La := La.ext E9
  replace Aa := Aa.ext E9
  replace Ba := Ba.ext E9
  replace Ex1 := Ex1.ext E9
  replace Ex2 := Ex2.ext E9
  replace Ex3 := Ex3.ext E9
  replace Rr := Rr.ext E9
  replace P_nodes := P_nodes.ext E9
  replace P_live := P_live.ext E9
  replace P_leaders := P_leaders.ext E9
  replace P_agreed := P_agreed.ext E9
  replace P_messageKinds := P_messageKinds.ext E9
  replace P_messages := P_messages.ext E9
  replace P_time := P_time.ext E9
  show own_Fin _ _ _ _ _ _ _ T9 (mkF m 43 #[.val (.ref o), .val (.int x1i), .val (.int x2i), .val (.ref a1), .val (.int x3i), .val (.ref a2), .val (.ref ms), .val (.long t), .second] [(.ref hp8.size), (.ref o)])
  refine own_cast X9 hx hZ hown (hw _ (List.mem_of_getElem? (i := 80) rfl)) e9 (Ins.self B9) (hb hby d5_43) ?_
  intro T10 X10 e10
  show own_Fin _ _ _ _ _ _ _ T10 (mkF m 46 #[.val (.ref o), .val (.int x1i), .val (.int x2i), .val (.ref a1), .val (.int x3i), .val (.ref a2), .val (.ref ms), .val (.long t), .second] [(.ref hp8.size), (.ref o)])
  refine own_putF X10 hx hZ (O := "com/example/libelect/libelect/simulation/Outcome") hown (hw _ (List.mem_of_getElem? (i := 82) rfl)) Via.refl e10 P_messages Eo (Or.inr ⟨(hw _ (List.mem_of_getElem? (i := 83) rfl)), rfl, hnm⟩) (hw _ (List.mem_of_getElem? (i := 28) rfl)) pf__J rfl rfl N8 ge (hb hby d5_46) ?_
  intro T11 hp11 L11 X11 e11 N11 W11
  replace Lb := Lb.wr W11 (ne_exa Lb.1 Eo (by decide))
  replace Am := Am.other W11 (own_arv_ne Eo (hw _ (List.mem_of_getElem? (i := 28) rfl)) Am)
  replace Bm := Bm.wr W11
  replace Sl := Sl.wr W11
  replace Sm := Sm.wr W11
  replace Rl := Rl.wr W11 (ne_exa Rl.1 Eo (by decide)) Eo (hw _ (List.mem_of_getElem? (i := 28) rfl))
  replace La := La.wr W11 (ne_exa La.1 Eo (by decide))
  replace Aa := Aa.other W11 (own_arv_ne Eo (hw _ (List.mem_of_getElem? (i := 28) rfl)) Aa)
  replace Ba := Ba.wr W11
  replace Ex1 := Ex1.wr W11
  replace Ex2 := Ex2.wr W11
  replace Ex3 := Ex3.wr W11
  replace Rr := Rr.wr W11 (ne_exa Rr.1 Eo (by decide)) Eo (hw _ (List.mem_of_getElem? (i := 28) rfl))
  replace Eo := Eo.wr W11
  replace P_nodes := P_nodes.other W11 (Or.inr (slot_ne (Or.inr (hw _ (List.mem_of_getElem? (i := 35) rfl))) (Or.inr (hw _ (List.mem_of_getElem? (i := 83) rfl))) (by decide) pf_I pf__J))
  replace P_live := P_live.other W11 (Or.inr (slot_ne (Or.inr (hw _ (List.mem_of_getElem? (i := 37) rfl))) (Or.inr (hw _ (List.mem_of_getElem? (i := 83) rfl))) (by decide) pf_I pf__J))
  replace P_leaders := P_leaders.other W11 (Or.inr (slot_ne (Or.inr (hw _ (List.mem_of_getElem? (i := 68) rfl))) (Or.inr (hw _ (List.mem_of_getElem? (i := 83) rfl))) (by decide) pf_Ljava_util_List_ pf__J))
  replace P_agreed := P_agreed.other W11 (Or.inr (slot_ne (Or.inr (hw _ (List.mem_of_getElem? (i := 70) rfl))) (Or.inr (hw _ (List.mem_of_getElem? (i := 83) rfl))) (by decide) pf_I pf__J))
  replace P_messageKinds := P_messageKinds.other W11 (Or.inr (slot_ne (Or.inr (hw _ (List.mem_of_getElem? (i := 72) rfl))) (Or.inr (hw _ (List.mem_of_getElem? (i := 83) rfl))) (by decide) pf_Ljava_util_List_ pf__J))
  replace P_messages := P_messages.same W11
  replace P_time := P_time.other W11 (Or.inr (slot_ne (Or.inr (hw _ (List.mem_of_getElem? (i := 85) rfl))) (Or.inr (hw _ (List.mem_of_getElem? (i := 83) rfl))) (by decide) pf_J pf__J))
  show own_Fin _ _ _ _ _ _ _ T11 (mkF m 49 #[.val (.ref o), .val (.int x1i), .val (.int x2i), .val (.ref a1), .val (.int x3i), .val (.ref a2), .val (.ref ms), .val (.long t), .second] [])
  refine own_step (fun _ k => XS.aloadN X11.here hx rfl (hb hby d5_49) rfl rfl k) ?_
  show own_Fin _ _ _ _ _ _ _ T11 (mkF m 50 #[.val (.ref o), .val (.int x1i), .val (.int x2i), .val (.ref a1), .val (.int x3i), .val (.ref a2), .val (.ref ms), .val (.long t), .second] [(.ref o)])
  refine own_step (fun _ k => XT.lload X11.here hx rfl (hb hby d5_50) rfl k) ?_
  show own_Fin _ _ _ _ _ _ _ T11 (mkF m 52 #[.val (.ref o), .val (.int x1i), .val (.int x2i), .val (.ref a1), .val (.int x3i), .val (.ref a2), .val (.ref ms), .val (.long t), .second] [(.long t), (.ref o)])
  refine own_putF X11 hx hZ (O := "com/example/libelect/libelect/simulation/Outcome") hown (hw _ (List.mem_of_getElem? (i := 84) rfl)) Via.refl e11 P_time Eo (Or.inr ⟨(hw _ (List.mem_of_getElem? (i := 85) rfl)), rfl, hnm⟩) (hw _ (List.mem_of_getElem? (i := 28) rfl)) pf_J rfl rfl N11 ge (hb hby d5_52) ?_
  intro T12 hp12 L12 X12 e12 N12 W12
  replace Lb := Lb.wr W12 (ne_exa Lb.1 Eo (by decide))
  replace Am := Am.other W12 (own_arv_ne Eo (hw _ (List.mem_of_getElem? (i := 28) rfl)) Am)
  replace Bm := Bm.wr W12
  replace Sl := Sl.wr W12
  replace Sm := Sm.wr W12
  replace Rl := Rl.wr W12 (ne_exa Rl.1 Eo (by decide)) Eo (hw _ (List.mem_of_getElem? (i := 28) rfl))
  replace La := La.wr W12 (ne_exa La.1 Eo (by decide))
  replace Aa := Aa.other W12 (own_arv_ne Eo (hw _ (List.mem_of_getElem? (i := 28) rfl)) Aa)
  replace Ba := Ba.wr W12
  replace Ex1 := Ex1.wr W12
  replace Ex2 := Ex2.wr W12
  replace Ex3 := Ex3.wr W12
  replace Rr := Rr.wr W12 (ne_exa Rr.1 Eo (by decide)) Eo (hw _ (List.mem_of_getElem? (i := 28) rfl))
  replace Eo := Eo.wr W12
  replace P_nodes := P_nodes.other W12 (Or.inr (slot_ne (Or.inr (hw _ (List.mem_of_getElem? (i := 35) rfl))) (Or.inr (hw _ (List.mem_of_getElem? (i := 85) rfl))) (by decide) pf_I pf_J))
  replace P_live := P_live.other W12 (Or.inr (slot_ne (Or.inr (hw _ (List.mem_of_getElem? (i := 37) rfl))) (Or.inr (hw _ (List.mem_of_getElem? (i := 85) rfl))) (by decide) pf_I pf_J))
  replace P_leaders := P_leaders.other W12 (Or.inr (slot_ne (Or.inr (hw _ (List.mem_of_getElem? (i := 68) rfl))) (Or.inr (hw _ (List.mem_of_getElem? (i := 85) rfl))) (by decide) pf_Ljava_util_List_ pf_J))
  replace P_agreed := P_agreed.other W12 (Or.inr (slot_ne (Or.inr (hw _ (List.mem_of_getElem? (i := 70) rfl))) (Or.inr (hw _ (List.mem_of_getElem? (i := 85) rfl))) (by decide) pf_I pf_J))
  replace P_messageKinds := P_messageKinds.other W12 (Or.inr (slot_ne (Or.inr (hw _ (List.mem_of_getElem? (i := 72) rfl))) (Or.inr (hw _ (List.mem_of_getElem? (i := 85) rfl))) (by decide) pf_Ljava_util_List_ pf_J))
  replace P_messages := P_messages.other W12 (Or.inr (slot_ne (Or.inr (hw _ (List.mem_of_getElem? (i := 83) rfl))) (Or.inr (hw _ (List.mem_of_getElem? (i := 85) rfl))) (by decide) pf__J pf_J))
  replace P_time := P_time.same W12
  show own_Fin _ _ _ _ _ _ _ T12 (mkF m 55 #[.val (.ref o), .val (.int x1i), .val (.int x2i), .val (.ref a1), .val (.int x3i), .val (.ref a2), .val (.ref ms), .val (.long t), .second] [])
  exact own_retV X12 hx hrt hlk (hb hby d5_55) (by rw [e12]; exact ⟨_, rfl, N12, Eo, P_leaders, P_agreed, P_live, Rr, Sm⟩) (by decide) (by decide)
theorem own_and3 (x : Int32) : (x &&& (3 : Int32)) = (0 : Int32) ∨ (x &&& (3 : Int32)) = (1 : Int32) ∨ (x &&& (3 : Int32)) = (2 : Int32) ∨ (x &&& (3 : Int32)) = (3 : Int32) := by
  have h1 := c_and x 3 (by decide)
  have t : (3 : Int32).toInt = 3 := rfl
  rw [t] at h1
  simp only [← Int32.toInt_inj, Int32.reduceToInt]
  omega
theorem ef_law (m : MethodId) (x0 x1 x2 x3 : Int32) (x4 x5 : Int64) : entryFrame m #[(.int x0), (.int x1), (.int x2), (.int x3), (.long x4), (.long x5)] maxLocals = mkF m 0 #[.val (.int x0), .val (.int x1), .val (.int x2), .val (.int x3), .val (.long x4), .second, .val (.long x5), .second, .unset, .unset, .unset, .unset, .unset, .unset, .unset, .unset] [] := by first | (simp [entryFrame, mkF, argsToLocals, Value.category, maxLocals]; done) | rfl
set_option maxRecDepth 65536 in
set_option maxHeartbeats 40000000 in
theorem rm0_0 (l : Launch) (Z : State) (a0 : Array Value) (hw : ∀ d ∈ tables_1, d.before a0 Z = true) (ws : List Jvm.Cond) (h0 : Heap) (p1 p2 p3 p4 : Int32) (p5 p6 : Int64) (df el em mr ca : Addr) (kd : ClassId) (cc : Cell) (Sd : Sta Z h0 "java/util/ArrayList" "DEFAULTCAPACITY_EMPTY_ELEMENTDATA" "[Ljava/lang/Object;" (.ref df)) (Ad : Arv Z h0 df kd (.object "java/lang/Object") 0 [] .null) (Sl : Sta Z h0 "java/util/ImmutableCollections" "EMPTY_LIST" "Ljava/util/ImmutableCollections$ListN;" (.ref el)) (Sm : Sta Z h0 "java/util/ImmutableCollections" "EMPTY" "Ljava/lang/Object;" (.ref em)) (Rl : own_LN Z h0 el 0) (Eem : Exa Z h0 em "java/lang/Object") (Mr : own_Mir Z "[Ljava/lang/Object;" mr) (Sc : Sta Z h0 "java/lang/Long$LongCache" "cache" "[Ljava/lang/Long;" (.ref ca)) (Ac : Arr Z h0 ca cc (.object "java/lang/Long")) (Zc : cc.slots.size = 256) (Hc : ∀ i, i < 256 → ∃ r, cc.slots[i]? = some (.ref r) ∧ Exa Z h0 r "java/lang/Long") (hk3 : (p1 &&& (3 : Int32)) = (0 : Int32)) :
    own_Met l Z x code maxLocals ret ws room_1 #[(.int p1), (.int p2), (.int p3), (.int p4), (.long p5), (.long p6)] h0 (own_Q1 h0.size) := by
  refine own_body (y := x) pn_com_example_libelect_libelect_simulation_OutcomeElectedPinLaw ?_
  intro p e s m below meth c s₁ hx hby hml hZ hown hnm hrt hlk X0 e0
  replace hown : s.vm.findClass "com/example/libelect/libelect/simulation/OutcomeElectedPinLaw" = some m.cls := hown
  replace hml : c.maxLocals = 16 := hml
  have N0 := Fr.nil h0.size
  have tail : ∀ (sm ag : Int32), own_Fin p e s below room_1.cells room_1.slots (own_Q1 h0.size) s₁ (mkF m 28 #[.val (.int p1), .val (.int p2), .val (.int p3), .val (.int p4), .val (.long p5), .second, .val (.long p6), .second, .val (.int (0 : Int32)), .val (.int sm), .unset, .unset, .unset, .unset, .unset, .unset] [(.int ag)]) := by
    intro sm ag
    have EH := own_ext_refl h0
    show own_Fin _ _ _ _ _ _ _ s₁ (mkF m 28 #[.val (.int p1), .val (.int p2), .val (.int p3), .val (.int p4), .val (.long p5), .second, .val (.long p6), .second, .val (.int (0 : Int32)), .val (.int sm), .unset, .unset, .unset, .unset, .unset, .unset] [(.int ag)])
    refine own_step (fun _ k => XS.istore X0.here hx rfl (hb hby at_28) rfl (l' := #[.val (.int p1), .val (.int p2), .val (.int p3), .val (.int p4), .val (.long p5), .second, .val (.long p6), .second, .val (.int (0 : Int32)), .val (.int sm), .val (.int ag), .unset, .unset, .unset, .unset, .unset]) rfl k) ?_
    show own_Fin _ _ _ _ _ _ _ s₁ (mkF m 30 #[.val (.int p1), .val (.int p2), .val (.int p3), .val (.int p4), .val (.long p5), .second, .val (.long p6), .second, .val (.int (0 : Int32)), .val (.int sm), .val (.int ag), .unset, .unset, .unset, .unset, .unset] [])
    refine own_newO X0 hx hZ hown (hw _ (List.mem_of_getElem? (i := 0) rfl)) (hw _ (List.mem_of_getElem? (i := 1) rfl)) (hw _ (List.mem_of_getElem? (i := 2) rfl)) e0 (by decide) (by decide) (hb hby at_30) ?_
    intro T1 hp1 X1 e1 E1 A1 D1
    have Fm1 := D1 (O := "java/util/AbstractList") (nm := "modCount") (d := "I") (Or.inl (hw _ (List.mem_of_getElem? (i := 22) rfl))) pf_I
    have Fs1 := D1 (O := "java/util/ArrayList") (nm := "size") (d := "I") (Or.inl (hw _ (List.mem_of_getElem? (i := 62) rfl))) pf_I
    have Fe1 := D1 (O := "java/util/ArrayList") (nm := "elementData") (d := "[Ljava/lang/Object;") (Or.inl (hw _ (List.mem_of_getElem? (i := 25) rfl))) pf__Ljava_lang_Object_
    have ge1 : h0.size ≤ h0.size := EH.1
    replace EH := own_ext_trans EH E1
    show own_Fin _ _ _ _ _ _ _ T1 (mkF m 33 #[.val (.int p1), .val (.int p2), .val (.int p3), .val (.int p4), .val (.long p5), .second, .val (.long p6), .second, .val (.int (0 : Int32)), .val (.int sm), .val (.int ag), .unset, .unset, .unset, .unset, .unset] [(.ref h0.size)])
    refine own_step (fun _ k => XS.dup X1.here hx rfl (hb hby at_33) rfl rfl k) ?_
    show own_Fin _ _ _ _ _ _ _ T1 (mkF m 34 #[.val (.int p1), .val (.int p2), .val (.int p3), .val (.int p4), .val (.long p5), .second, .val (.long p6), .second, .val (.int (0 : Int32)), .val (.int sm), .val (.int ag), .unset, .unset, .unset, .unset, .unset] [(.ref h0.size), (.ref h0.size)])
    refine own_callN X1 hx hZ (b := h0.size) (argsL := []) (rest := [(.ref h0.size)]) rfl hown (hw _ (List.mem_of_getElem? (i := 3) rfl)) (hw _ (List.mem_of_getElem? (i := 4) rfl)) (hw _ (List.mem_of_getElem? (i := 5) rfl)) (hw _ (List.mem_of_getElem? (i := 2) rfl)) (by decide) (rm1 l Z a0 hw hp1 h0.size h0.size df _ _ Fm1 Fs1 Fe1 A1 (Sd.ext EH) ge1) e1 1 (Nat.le_of_eq rfl) (by decide) (by decide) (by decide) (by decide) (by rw [hml]; rfl) pd___V rfl rfl (hb hby at_34) ?_
    rintro T2 L2 _ X2 ⟨rfl, F2, K2, La2⟩
    have N2 := Fr.app N0 F2
    replace EH := own_ext_keep EH K2 (allS ge1 all0)
    have La := La2
    show own_Fin _ _ _ _ _ _ _ T2 (mkF m 37 #[.val (.int p1), .val (.int p2), .val (.int p3), .val (.int p4), .val (.long p5), .second, .val (.long p6), .second, .val (.int (0 : Int32)), .val (.int sm), .val (.int ag), .unset, .unset, .unset, .unset, .unset] [(.ref h0.size)])
    refine own_step (fun _ k => XS.astore X2.here hx rfl (hb hby at_37) rfl rfl (l' := #[.val (.int p1), .val (.int p2), .val (.int p3), .val (.int p4), .val (.long p5), .second, .val (.long p6), .second, .val (.int (0 : Int32)), .val (.int sm), .val (.int ag), .val (.ref h0.size), .unset, .unset, .unset, .unset]) rfl k) ?_
    show own_Fin _ _ _ _ _ _ _ T2 (mkF m 39 #[.val (.int p1), .val (.int p2), .val (.int p3), .val (.int p4), .val (.long p5), .second, .val (.long p6), .second, .val (.int (0 : Int32)), .val (.int sm), .val (.int ag), .val (.ref h0.size), .unset, .unset, .unset, .unset] [])
    refine own_step (fun _ k => XS.iload X2.here hx rfl (hb hby at_39) rfl k) ?_
    show own_Fin _ _ _ _ _ _ _ T2 (mkF m 41 #[.val (.int p1), .val (.int p2), .val (.int p3), .val (.int p4), .val (.long p5), .second, .val (.long p6), .second, .val (.int (0 : Int32)), .val (.int sm), .val (.int ag), .val (.ref h0.size), .unset, .unset, .unset, .unset] [(.int (0 : Int32))])
    refine own_step (fun _ k => XT.iconstV X2.here hx rfl (1 : Int32) (hb hby at_41) (by decide) k) ?_
    show own_Fin _ _ _ _ _ _ _ T2 (mkF m 42 #[.val (.int p1), .val (.int p2), .val (.int p3), .val (.int p4), .val (.long p5), .second, .val (.long p6), .second, .val (.int (0 : Int32)), .val (.int sm), .val (.int ag), .val (.ref h0.size), .unset, .unset, .unset, .unset] [(.int (1 : Int32)), (.int (0 : Int32))])
    refine own_step (fun _ k => XS.icmpYes X2.here hx rfl (pc0 := 42) (pc' := 56) rfl (hb hby at_42) rfl (XT.ii_lt_t (by decide)) (by decide) (by decide) k) ?_
    show own_Fin _ _ _ _ _ _ _ T2 (mkF m 56 #[.val (.int p1), .val (.int p2), .val (.int p3), .val (.int p4), .val (.long p5), .second, .val (.long p6), .second, .val (.int (0 : Int32)), .val (.int sm), .val (.int ag), .val (.ref h0.size), .unset, .unset, .unset, .unset] [])
    refine own_step (fun _ k => XS.iload X2.here hx rfl (hb hby at_56) rfl k) ?_
    show own_Fin _ _ _ _ _ _ _ T2 (mkF m 58 #[.val (.int p1), .val (.int p2), .val (.int p3), .val (.int p4), .val (.long p5), .second, .val (.long p6), .second, .val (.int (0 : Int32)), .val (.int sm), .val (.int ag), .val (.ref h0.size), .unset, .unset, .unset, .unset] [(.int (0 : Int32))])
    refine own_step (fun _ k => XT.iconstV X2.here hx rfl (2 : Int32) (hb hby at_58) (by decide) k) ?_
    show own_Fin _ _ _ _ _ _ _ T2 (mkF m 59 #[.val (.int p1), .val (.int p2), .val (.int p3), .val (.int p4), .val (.long p5), .second, .val (.long p6), .second, .val (.int (0 : Int32)), .val (.int sm), .val (.int ag), .val (.ref h0.size), .unset, .unset, .unset, .unset] [(.int (2 : Int32)), (.int (0 : Int32))])
    refine own_step (fun _ k => XS.icmpYes X2.here hx rfl (pc0 := 59) (pc' := 75) rfl (hb hby at_59) rfl (XT.ii_lt_t (by decide)) (by decide) (by decide) k) ?_
    show own_Fin _ _ _ _ _ _ _ T2 (mkF m 75 #[.val (.int p1), .val (.int p2), .val (.int p3), .val (.int p4), .val (.long p5), .second, .val (.long p6), .second, .val (.int (0 : Int32)), .val (.int sm), .val (.int ag), .val (.ref h0.size), .unset, .unset, .unset, .unset] [])
    refine own_step (fun _ k => XS.iload X2.here hx rfl (hb hby at_75) rfl k) ?_
    show own_Fin _ _ _ _ _ _ _ T2 (mkF m 77 #[.val (.int p1), .val (.int p2), .val (.int p3), .val (.int p4), .val (.long p5), .second, .val (.long p6), .second, .val (.int (0 : Int32)), .val (.int sm), .val (.int ag), .val (.ref h0.size), .unset, .unset, .unset, .unset] [(.int (0 : Int32))])
    refine own_step (fun _ k => XT.iconstV X2.here hx rfl (3 : Int32) (hb hby at_77) (by decide) k) ?_
    show own_Fin _ _ _ _ _ _ _ T2 (mkF m 78 #[.val (.int p1), .val (.int p2), .val (.int p3), .val (.int p4), .val (.long p5), .second, .val (.long p6), .second, .val (.int (0 : Int32)), .val (.int sm), .val (.int ag), .val (.ref h0.size), .unset, .unset, .unset, .unset] [(.int (3 : Int32)), (.int (0 : Int32))])
    refine own_step (fun _ k => XS.icmpYes X2.here hx rfl (pc0 := 78) (pc' := 96) rfl (hb hby at_78) rfl (XT.ii_lt_t (by decide)) (by decide) (by decide) k) ?_
    show own_Fin _ _ _ _ _ _ _ T2 (mkF m 96 #[.val (.int p1), .val (.int p2), .val (.int p3), .val (.int p4), .val (.long p5), .second, .val (.long p6), .second, .val (.int (0 : Int32)), .val (.int sm), .val (.int ag), .val (.ref h0.size), .unset, .unset, .unset, .unset] [])
    refine own_newO X2 hx hZ hown (hw _ (List.mem_of_getElem? (i := 0) rfl)) (hw _ (List.mem_of_getElem? (i := 1) rfl)) (hw _ (List.mem_of_getElem? (i := 2) rfl)) rfl (by decide) (by decide) (hb hby at_96) ?_
    intro T3 hp3 X3 e3 E3 A3 D3
    have Fm3 := D3 (O := "java/util/AbstractList") (nm := "modCount") (d := "I") (Or.inl (hw _ (List.mem_of_getElem? (i := 22) rfl))) pf_I
    have Fs3 := D3 (O := "java/util/ArrayList") (nm := "size") (d := "I") (Or.inl (hw _ (List.mem_of_getElem? (i := 62) rfl))) pf_I
    have Fe3 := D3 (O := "java/util/ArrayList") (nm := "elementData") (d := "[Ljava/lang/Object;") (Or.inl (hw _ (List.mem_of_getElem? (i := 25) rfl))) pf__Ljava_lang_Object_
    have ge2 : h0.size ≤ T2.heap.size := EH.1
    have ne12 : h0.size ≠ T2.heap.size := Nat.ne_of_lt La.1.lt
    replace EH := own_ext_trans EH E3
    replace La := La.ext E3
    show own_Fin _ _ _ _ _ _ _ T3 (mkF m 99 #[.val (.int p1), .val (.int p2), .val (.int p3), .val (.int p4), .val (.long p5), .second, .val (.long p6), .second, .val (.int (0 : Int32)), .val (.int sm), .val (.int ag), .val (.ref h0.size), .unset, .unset, .unset, .unset] [(.ref T2.heap.size)])
    refine own_step (fun _ k => XS.dup X3.here hx rfl (hb hby at_99) rfl rfl k) ?_
    show own_Fin _ _ _ _ _ _ _ T3 (mkF m 100 #[.val (.int p1), .val (.int p2), .val (.int p3), .val (.int p4), .val (.long p5), .second, .val (.long p6), .second, .val (.int (0 : Int32)), .val (.int sm), .val (.int ag), .val (.ref h0.size), .unset, .unset, .unset, .unset] [(.ref T2.heap.size), (.ref T2.heap.size)])
    refine own_callN X3 hx hZ (b := T2.heap.size) (argsL := []) (rest := [(.ref T2.heap.size)]) rfl hown (hw _ (List.mem_of_getElem? (i := 3) rfl)) (hw _ (List.mem_of_getElem? (i := 4) rfl)) (hw _ (List.mem_of_getElem? (i := 5) rfl)) (hw _ (List.mem_of_getElem? (i := 2) rfl)) (by decide) (rm1 l Z a0 hw hp3 h0.size T2.heap.size df _ _ Fm3 Fs3 Fe3 A3 (Sd.ext EH) ge2) e3 1 (Nat.le_of_eq rfl) (by decide) (by decide) (by decide) (by decide) (by rw [hml]; rfl) pd___V rfl rfl (hb hby at_100) ?_
    rintro T4 L4 _ X4 ⟨rfl, F4, K4, La4⟩
    have N4 := Fr.app N2 F4
    replace EH := own_ext_keep EH K4 (allS ge2 all0)
    replace La := La.keep K4 (ninS ne12 nin0)
    have Lb := La4
    show own_Fin _ _ _ _ _ _ _ T4 (mkF m 103 #[.val (.int p1), .val (.int p2), .val (.int p3), .val (.int p4), .val (.long p5), .second, .val (.long p6), .second, .val (.int (0 : Int32)), .val (.int sm), .val (.int ag), .val (.ref h0.size), .unset, .unset, .unset, .unset] [(.ref T2.heap.size)])
    refine own_step (fun _ k => XS.astore X4.here hx rfl (hb hby at_103) rfl rfl (l' := #[.val (.int p1), .val (.int p2), .val (.int p3), .val (.int p4), .val (.long p5), .second, .val (.long p6), .second, .val (.int (0 : Int32)), .val (.int sm), .val (.int ag), .val (.ref h0.size), .val (.ref T2.heap.size), .unset, .unset, .unset]) rfl k) ?_
    show own_Fin _ _ _ _ _ _ _ T4 (mkF m 105 #[.val (.int p1), .val (.int p2), .val (.int p3), .val (.int p4), .val (.long p5), .second, .val (.long p6), .second, .val (.int (0 : Int32)), .val (.int sm), .val (.int ag), .val (.ref h0.size), .val (.ref T2.heap.size), .unset, .unset, .unset] [])
    refine own_step (fun _ k => XT.iconstV X4.here hx rfl (0 : Int32) (hb hby at_105) (by decide) k) ?_
    show own_Fin _ _ _ _ _ _ _ T4 (mkF m 106 #[.val (.int p1), .val (.int p2), .val (.int p3), .val (.int p4), .val (.long p5), .second, .val (.long p6), .second, .val (.int (0 : Int32)), .val (.int sm), .val (.int ag), .val (.ref h0.size), .val (.ref T2.heap.size), .unset, .unset, .unset] [(.int (0 : Int32))])
    refine own_newPE X4 hx hZ (aty := .long) (hw _ (List.mem_of_getElem? (i := 26) rfl)) rfl 0 (by decide) (by decide) (by decide) (by decide) (by decide) (ad := "[J") (by decide +kernel) (hb hby at_106) ?_
    intro T5 hp5 km X5 e5 E5 Am Bm
    replace EH := own_ext_trans EH E5
    replace La := La.ext E5
    replace Lb := Lb.ext E5
    show own_Fin _ _ _ _ _ _ _ T5 (mkF m 108 #[.val (.int p1), .val (.int p2), .val (.int p3), .val (.int p4), .val (.long p5), .second, .val (.long p6), .second, .val (.int (0 : Int32)), .val (.int sm), .val (.int ag), .val (.ref h0.size), .val (.ref T2.heap.size), .unset, .unset, .unset] [(.ref T4.heap.size)])
    refine own_step (fun _ k => XS.astore X5.here hx rfl (hb hby at_108) rfl rfl (l' := #[.val (.int p1), .val (.int p2), .val (.int p3), .val (.int p4), .val (.long p5), .second, .val (.long p6), .second, .val (.int (0 : Int32)), .val (.int sm), .val (.int ag), .val (.ref h0.size), .val (.ref T2.heap.size), .val (.ref T4.heap.size), .unset, .unset]) rfl k) ?_
    show own_Fin _ _ _ _ _ _ _ T5 (mkF m 110 #[.val (.int p1), .val (.int p2), .val (.int p3), .val (.int p4), .val (.long p5), .second, .val (.long p6), .second, .val (.int (0 : Int32)), .val (.int sm), .val (.int ag), .val (.ref h0.size), .val (.ref T2.heap.size), .val (.ref T4.heap.size), .unset, .unset] [])
    refine own_newO X5 hx hZ hown (hw _ (List.mem_of_getElem? (i := 27) rfl)) (hw _ (List.mem_of_getElem? (i := 28) rfl)) (hw _ (List.mem_of_getElem? (i := 29) rfl)) e5 (by decide) (by decide) (hb hby at_110) ?_
    intro T6 hp6 X6 e6 E6 A6 D6
    have P_nodes6 := D6 (O := "com/example/libelect/libelect/simulation/Outcome") (nm := "nodes") (d := "I") (Or.inr (hw _ (List.mem_of_getElem? (i := 35) rfl))) pf_I
    have P_live6 := D6 (O := "com/example/libelect/libelect/simulation/Outcome") (nm := "live") (d := "I") (Or.inr (hw _ (List.mem_of_getElem? (i := 37) rfl))) pf_I
    have P_leaders6 := D6 (O := "com/example/libelect/libelect/simulation/Outcome") (nm := "leaders") (d := "Ljava/util/List;") (Or.inr (hw _ (List.mem_of_getElem? (i := 68) rfl))) pf_Ljava_util_List_
    have P_agreed6 := D6 (O := "com/example/libelect/libelect/simulation/Outcome") (nm := "agreed") (d := "I") (Or.inr (hw _ (List.mem_of_getElem? (i := 70) rfl))) pf_I
    have P_messageKinds6 := D6 (O := "com/example/libelect/libelect/simulation/Outcome") (nm := "messageKinds") (d := "Ljava/util/List;") (Or.inr (hw _ (List.mem_of_getElem? (i := 72) rfl))) pf_Ljava_util_List_
    have P_messages6 := D6 (O := "com/example/libelect/libelect/simulation/Outcome") (nm := "messages") (d := "[J") (Or.inr (hw _ (List.mem_of_getElem? (i := 83) rfl))) pf__J
    have P_time6 := D6 (O := "com/example/libelect/libelect/simulation/Outcome") (nm := "time") (d := "J") (Or.inr (hw _ (List.mem_of_getElem? (i := 85) rfl))) pf_J
    have geo : h0.size ≤ hp5.size := EH.1
    replace EH := own_ext_trans EH E6
    replace La := La.ext E6
    replace Lb := Lb.ext E6
    replace Am := Am.ext E6
    replace Bm := Bm.ext E6
    show own_Fin _ _ _ _ _ _ _ T6 (mkF m 113 #[.val (.int p1), .val (.int p2), .val (.int p3), .val (.int p4), .val (.long p5), .second, .val (.long p6), .second, .val (.int (0 : Int32)), .val (.int sm), .val (.int ag), .val (.ref h0.size), .val (.ref T2.heap.size), .val (.ref T4.heap.size), .unset, .unset] [(.ref hp5.size)])
    refine own_step (fun _ k => XS.dup X6.here hx rfl (hb hby at_113) rfl rfl k) ?_
    show own_Fin _ _ _ _ _ _ _ T6 (mkF m 114 #[.val (.int p1), .val (.int p2), .val (.int p3), .val (.int p4), .val (.long p5), .second, .val (.long p6), .second, .val (.int (0 : Int32)), .val (.int sm), .val (.int ag), .val (.ref h0.size), .val (.ref T2.heap.size), .val (.ref T4.heap.size), .unset, .unset] [(.ref hp5.size), (.ref hp5.size)])
    refine own_step (fun _ k => XS.iloadN X6.here hx rfl (hb hby at_114) rfl k) ?_
    show own_Fin _ _ _ _ _ _ _ T6 (mkF m 115 #[.val (.int p1), .val (.int p2), .val (.int p3), .val (.int p4), .val (.long p5), .second, .val (.long p6), .second, .val (.int (0 : Int32)), .val (.int sm), .val (.int ag), .val (.ref h0.size), .val (.ref T2.heap.size), .val (.ref T4.heap.size), .unset, .unset] [(.int p4), (.ref hp5.size), (.ref hp5.size)])
    refine own_step (fun _ k => XT.iconstV X6.here hx rfl (1 : Int32) (hb hby at_115) (by decide) k) ?_
    show own_Fin _ _ _ _ _ _ _ T6 (mkF m 116 #[.val (.int p1), .val (.int p2), .val (.int p3), .val (.int p4), .val (.long p5), .second, .val (.long p6), .second, .val (.int (0 : Int32)), .val (.int sm), .val (.int ag), .val (.ref h0.size), .val (.ref T2.heap.size), .val (.ref T4.heap.size), .unset, .unset] [(.int (1 : Int32)), (.int p4), (.ref hp5.size), (.ref hp5.size)])
    refine own_step (fun _ k => XT.ishr X6.here hx rfl (hb hby at_116) rfl k) ?_
    show own_Fin _ _ _ _ _ _ _ T6 (mkF m 117 #[.val (.int p1), .val (.int p2), .val (.int p3), .val (.int p4), .val (.long p5), .second, .val (.long p6), .second, .val (.int (0 : Int32)), .val (.int sm), .val (.int ag), .val (.ref h0.size), .val (.ref T2.heap.size), .val (.ref T4.heap.size), .unset, .unset] [(.int (p4 >>> ((1 : Int32) &&& 31))), (.ref hp5.size), (.ref hp5.size)])
    refine own_step (fun _ k => XS.iloadN X6.here hx rfl (hb hby at_117) rfl k) ?_
    show own_Fin _ _ _ _ _ _ _ T6 (mkF m 118 #[.val (.int p1), .val (.int p2), .val (.int p3), .val (.int p4), .val (.long p5), .second, .val (.long p6), .second, .val (.int (0 : Int32)), .val (.int sm), .val (.int ag), .val (.ref h0.size), .val (.ref T2.heap.size), .val (.ref T4.heap.size), .unset, .unset] [(.int p2), (.int (p4 >>> ((1 : Int32) &&& 31))), (.ref hp5.size), (.ref hp5.size)])
    refine own_step (fun _ k => XS.aload X6.here hx rfl (hb hby at_118) rfl rfl k) ?_
    show own_Fin _ _ _ _ _ _ _ T6 (mkF m 120 #[.val (.int p1), .val (.int p2), .val (.int p3), .val (.int p4), .val (.long p5), .second, .val (.long p6), .second, .val (.int (0 : Int32)), .val (.int sm), .val (.int ag), .val (.ref h0.size), .val (.ref T2.heap.size), .val (.ref T4.heap.size), .unset, .unset] [(.ref h0.size), (.int p2), (.int (p4 >>> ((1 : Int32) &&& 31))), (.ref hp5.size), (.ref hp5.size)])
    refine own_step (fun _ k => XS.iload X6.here hx rfl (hb hby at_120) rfl k) ?_
    show own_Fin _ _ _ _ _ _ _ T6 (mkF m 122 #[.val (.int p1), .val (.int p2), .val (.int p3), .val (.int p4), .val (.long p5), .second, .val (.long p6), .second, .val (.int (0 : Int32)), .val (.int sm), .val (.int ag), .val (.ref h0.size), .val (.ref T2.heap.size), .val (.ref T4.heap.size), .unset, .unset] [(.int ag), (.ref h0.size), (.int p2), (.int (p4 >>> ((1 : Int32) &&& 31))), (.ref hp5.size), (.ref hp5.size)])
    refine own_step (fun _ k => XS.aload X6.here hx rfl (hb hby at_122) rfl rfl k) ?_
    show own_Fin _ _ _ _ _ _ _ T6 (mkF m 124 #[.val (.int p1), .val (.int p2), .val (.int p3), .val (.int p4), .val (.long p5), .second, .val (.long p6), .second, .val (.int (0 : Int32)), .val (.int sm), .val (.int ag), .val (.ref h0.size), .val (.ref T2.heap.size), .val (.ref T4.heap.size), .unset, .unset] [(.ref T2.heap.size), (.int ag), (.ref h0.size), (.int p2), (.int (p4 >>> ((1 : Int32) &&& 31))), (.ref hp5.size), (.ref hp5.size)])
    refine own_step (fun _ k => XS.aload X6.here hx rfl (hb hby at_124) rfl rfl k) ?_
    show own_Fin _ _ _ _ _ _ _ T6 (mkF m 126 #[.val (.int p1), .val (.int p2), .val (.int p3), .val (.int p4), .val (.long p5), .second, .val (.long p6), .second, .val (.int (0 : Int32)), .val (.int sm), .val (.int ag), .val (.ref h0.size), .val (.ref T2.heap.size), .val (.ref T4.heap.size), .unset, .unset] [(.ref T4.heap.size), (.ref T2.heap.size), (.int ag), (.ref h0.size), (.int p2), (.int (p4 >>> ((1 : Int32) &&& 31))), (.ref hp5.size), (.ref hp5.size)])
    refine own_step (fun _ k => XT.lload X6.here hx rfl (hb hby at_126) rfl k) ?_
    show own_Fin _ _ _ _ _ _ _ T6 (mkF m 128 #[.val (.int p1), .val (.int p2), .val (.int p3), .val (.int p4), .val (.long p5), .second, .val (.long p6), .second, .val (.int (0 : Int32)), .val (.int sm), .val (.int ag), .val (.ref h0.size), .val (.ref T2.heap.size), .val (.ref T4.heap.size), .unset, .unset] [(.long p6), (.ref T4.heap.size), (.ref T2.heap.size), (.int ag), (.ref h0.size), (.int p2), (.int (p4 >>> ((1 : Int32) &&& 31))), (.ref hp5.size), (.ref hp5.size)])
    refine own_callN X6 hx hZ (b := hp5.size) (argsL := [(.int (p4 >>> ((1 : Int32) &&& 31))), (.int p2), (.ref h0.size), (.int ag), (.ref T2.heap.size), (.ref T4.heap.size), (.long p6)]) (rest := [(.ref hp5.size)]) rfl hown (hw _ (List.mem_of_getElem? (i := 30) rfl)) (hw _ (List.mem_of_getElem? (i := 31) rfl)) (hw _ (List.mem_of_getElem? (i := 32) rfl)) (hw _ (List.mem_of_getElem? (i := 29) rfl)) (by decide) (rm5_0 l Z a0 hw hp6 h0.size hp5.size h0.size T2.heap.size T4.heap.size el em df mr _ p2 ag p6 km  P_nodes6 P_live6 P_leaders6 P_agreed6 P_messageKinds6 P_messages6 P_time6 A6 Lb Am Bm (Sl.ext EH) (Sm.ext EH) (Rl.ext EH) geo EH.1 Mr La) e6 1 (Nat.le_of_eq rfl) (by decide) (by decide) (by decide) (by decide) (by rw [hml]; rfl) pd__IILjava_util_List_ILjava_util_List__JJ_V rfl rfl (hb hby at_128) ?_
    rintro T7 L7 _ X7 ⟨rr, rfl, F7, Eo, Pl, Pa, Pv, Rr, Sm2⟩
    have N7 := Fr.app N4 F7
    show own_Fin _ _ _ _ _ _ _ T7 (mkF m 131 #[.val (.int p1), .val (.int p2), .val (.int p3), .val (.int p4), .val (.long p5), .second, .val (.long p6), .second, .val (.int (0 : Int32)), .val (.int sm), .val (.int ag), .val (.ref h0.size), .val (.ref T2.heap.size), .val (.ref T4.heap.size), .unset, .unset] [(.ref hp5.size)])
    refine own_step (fun _ k => XS.astore X7.here hx rfl (hb hby at_131) rfl rfl (l' := #[.val (.int p1), .val (.int p2), .val (.int p3), .val (.int p4), .val (.long p5), .second, .val (.long p6), .second, .val (.int (0 : Int32)), .val (.int sm), .val (.int ag), .val (.ref h0.size), .val (.ref T2.heap.size), .val (.ref T4.heap.size), .val (.ref hp5.size), .unset]) rfl k) ?_
    show own_Fin _ _ _ _ _ _ _ T7 (mkF m 133 #[.val (.int p1), .val (.int p2), .val (.int p3), .val (.int p4), .val (.long p5), .second, .val (.long p6), .second, .val (.int (0 : Int32)), .val (.int sm), .val (.int ag), .val (.ref h0.size), .val (.ref T2.heap.size), .val (.ref T4.heap.size), .val (.ref hp5.size), .unset] [])
    refine own_step (fun _ k => XT.iconstV X7.here hx rfl (0 : Int32) (hb hby at_133) (by decide) k) ?_
    show own_Fin _ _ _ _ _ _ _ T7 (mkF m 134 #[.val (.int p1), .val (.int p2), .val (.int p3), .val (.int p4), .val (.long p5), .second, .val (.long p6), .second, .val (.int (0 : Int32)), .val (.int sm), .val (.int ag), .val (.ref h0.size), .val (.ref T2.heap.size), .val (.ref T4.heap.size), .val (.ref hp5.size), .unset] [(.int (0 : Int32))])
    refine own_step (fun _ k => XS.istore X7.here hx rfl (hb hby at_134) rfl (l' := #[.val (.int p1), .val (.int p2), .val (.int p3), .val (.int p4), .val (.long p5), .second, .val (.long p6), .second, .val (.int (0 : Int32)), .val (.int sm), .val (.int ag), .val (.ref h0.size), .val (.ref T2.heap.size), .val (.ref T4.heap.size), .val (.ref hp5.size), .val (.int (0 : Int32))]) rfl k) ?_
    show own_Fin _ _ _ _ _ _ _ T7 (mkF m 136 #[.val (.int p1), .val (.int p2), .val (.int p3), .val (.int p4), .val (.long p5), .second, .val (.long p6), .second, .val (.int (0 : Int32)), .val (.int sm), .val (.int ag), .val (.ref h0.size), .val (.ref T2.heap.size), .val (.ref T4.heap.size), .val (.ref hp5.size), .val (.int (0 : Int32))] [])
    refine own_step (fun _ k => XS.iload X7.here hx rfl (hb hby at_136) rfl k) ?_
    show own_Fin _ _ _ _ _ _ _ T7 (mkF m 138 #[.val (.int p1), .val (.int p2), .val (.int p3), .val (.int p4), .val (.long p5), .second, .val (.long p6), .second, .val (.int (0 : Int32)), .val (.int sm), .val (.int ag), .val (.ref h0.size), .val (.ref T2.heap.size), .val (.ref T4.heap.size), .val (.ref hp5.size), .val (.int (0 : Int32))] [(.int (0 : Int32))])
    refine own_step (fun _ k => XT.iconstV X7.here hx rfl (1 : Int32) (hb hby at_138) (by decide) k) ?_
    show own_Fin _ _ _ _ _ _ _ T7 (mkF m 139 #[.val (.int p1), .val (.int p2), .val (.int p3), .val (.int p4), .val (.long p5), .second, .val (.long p6), .second, .val (.int (0 : Int32)), .val (.int sm), .val (.int ag), .val (.ref h0.size), .val (.ref T2.heap.size), .val (.ref T4.heap.size), .val (.ref hp5.size), .val (.int (0 : Int32))] [(.int (1 : Int32)), (.int (0 : Int32))])
    refine own_step (fun _ k => XS.icmpYes X7.here hx rfl (pc0 := 139) (pc' := 151) rfl (hb hby at_139) rfl (XT.ii_ne_t (by decide)) (by decide) (by decide) k) ?_
    show own_Fin _ _ _ _ _ _ _ T7 (mkF m 151 #[.val (.int p1), .val (.int p2), .val (.int p3), .val (.int p4), .val (.long p5), .second, .val (.long p6), .second, .val (.int (0 : Int32)), .val (.int sm), .val (.int ag), .val (.ref h0.size), .val (.ref T2.heap.size), .val (.ref T4.heap.size), .val (.ref hp5.size), .val (.int (0 : Int32))] [])
    refine own_step (fun _ k => XS.aload X7.here hx rfl (hb hby at_151) rfl rfl k) ?_
    show own_Fin _ _ _ _ _ _ _ T7 (mkF m 153 #[.val (.int p1), .val (.int p2), .val (.int p3), .val (.int p4), .val (.long p5), .second, .val (.long p6), .second, .val (.int (0 : Int32)), .val (.int sm), .val (.int ag), .val (.ref h0.size), .val (.ref T2.heap.size), .val (.ref T4.heap.size), .val (.ref hp5.size), .val (.int (0 : Int32))] [(.ref hp5.size)])
    have M := rm10_0 l Z a0 hw T7.heap h0.size hp5.size rr em h0.size ag p2 Pl Pa Pv Rr Sm2 (Nat.ne_of_gt Eem.lt)
    refine own_callV X7 hx hZ (b := hp5.size) (argsL := []) (rest := []) hown (hw _ (List.mem_of_getElem? (i := 86) rfl)) (hw _ (List.mem_of_getElem? (i := 87) rfl)) (hw _ (List.mem_of_getElem? (i := 89) rfl)) (hw _ (List.mem_of_getElem? (i := 88) rfl)) (hw _ (List.mem_of_getElem? (i := 90) rfl)) (hw _ (List.mem_of_getElem? (i := 29) rfl)) (by decide) Eo M rfl 0 (Nat.le_of_eq rfl) (by decide) (by decide) (by decide) (by decide) (by rw [hml]; rfl) pd___Z rfl rfl (hb hby at_153) ?_
    rintro T8 _ _ X8 ⟨rfl, rfl, e8⟩
    rw [List.append_nil] at X8
    show own_Fin _ _ _ _ _ _ _ T8 (mkF m 156 #[.val (.int p1), .val (.int p2), .val (.int p3), .val (.int p4), .val (.long p5), .second, .val (.long p6), .second, .val (.int (0 : Int32)), .val (.int sm), .val (.int ag), .val (.ref h0.size), .val (.ref T2.heap.size), .val (.ref T4.heap.size), .val (.ref hp5.size), .val (.int (0 : Int32))] [(.int (0 : Int32))])
    refine own_step (fun _ k => XS.iload X8.here hx rfl (hb hby at_156) rfl k) ?_
    show own_Fin _ _ _ _ _ _ _ T8 (mkF m 158 #[.val (.int p1), .val (.int p2), .val (.int p3), .val (.int p4), .val (.long p5), .second, .val (.long p6), .second, .val (.int (0 : Int32)), .val (.int sm), .val (.int ag), .val (.ref h0.size), .val (.ref T2.heap.size), .val (.ref T4.heap.size), .val (.ref hp5.size), .val (.int (0 : Int32))] [(.int (0 : Int32)), (.int (0 : Int32))])
    refine own_step (fun _ k => XS.icmpNo X8.here hx rfl (hb hby at_158) rfl (XT.ii_ne_f (by decide)) k) ?_
    show own_Fin _ _ _ _ _ _ _ T8 (mkF m 161 #[.val (.int p1), .val (.int p2), .val (.int p3), .val (.int p4), .val (.long p5), .second, .val (.long p6), .second, .val (.int (0 : Int32)), .val (.int sm), .val (.int ag), .val (.ref h0.size), .val (.ref T2.heap.size), .val (.ref T4.heap.size), .val (.ref hp5.size), .val (.int (0 : Int32))] [])
    refine own_step (fun _ k => XT.iconstV X8.here hx rfl (1 : Int32) (hb hby at_161) (by decide) k) ?_
    show own_Fin _ _ _ _ _ _ _ T8 (mkF m 162 #[.val (.int p1), .val (.int p2), .val (.int p3), .val (.int p4), .val (.long p5), .second, .val (.long p6), .second, .val (.int (0 : Int32)), .val (.int sm), .val (.int ag), .val (.ref h0.size), .val (.ref T2.heap.size), .val (.ref T4.heap.size), .val (.ref hp5.size), .val (.int (0 : Int32))] [(.int (1 : Int32))])
    refine own_step (fun _ k => XS.goto X8.here hx rfl (pc0 := 162) (pc' := 166) rfl (hb hby at_162) (by decide) (by decide) k) ?_
    show own_Fin _ _ _ _ _ _ _ T8 (mkF m 166 #[.val (.int p1), .val (.int p2), .val (.int p3), .val (.int p4), .val (.long p5), .second, .val (.long p6), .second, .val (.int (0 : Int32)), .val (.int sm), .val (.int ag), .val (.ref h0.size), .val (.ref T2.heap.size), .val (.ref T4.heap.size), .val (.ref hp5.size), .val (.int (0 : Int32))] [(.int (1 : Int32))])
    exact own_retZ X8 hx hrt hlk (hb hby at_166) (Or.inr rfl) ⟨rfl, N7⟩ (by decide) (by decide)
  rw [ef_law]
  show own_Fin _ _ _ _ _ _ _ s₁ (mkF m 0 #[.val (.int p1), .val (.int p2), .val (.int p3), .val (.int p4), .val (.long p5), .second, .val (.long p6), .second, .unset, .unset, .unset, .unset, .unset, .unset, .unset, .unset] [])
  refine own_step (fun _ k => XS.iloadN X0.here hx rfl (hb hby at_0) rfl k) ?_
  show own_Fin _ _ _ _ _ _ _ s₁ (mkF m 1 #[.val (.int p1), .val (.int p2), .val (.int p3), .val (.int p4), .val (.long p5), .second, .val (.long p6), .second, .unset, .unset, .unset, .unset, .unset, .unset, .unset, .unset] [(.int p1)])
  refine own_step (fun _ k => XT.iconstV X0.here hx rfl (3 : Int32) (hb hby at_1) (by decide) k) ?_
  show own_Fin _ _ _ _ _ _ _ s₁ (mkF m 2 #[.val (.int p1), .val (.int p2), .val (.int p3), .val (.int p4), .val (.long p5), .second, .val (.long p6), .second, .unset, .unset, .unset, .unset, .unset, .unset, .unset, .unset] [(.int (3 : Int32)), (.int p1)])
  refine own_step (fun _ k => XS.iand X0.here hx rfl (hb hby at_2) rfl k) ?_
  show own_Fin _ _ _ _ _ _ _ s₁ (mkF m 3 #[.val (.int p1), .val (.int p2), .val (.int p3), .val (.int p4), .val (.long p5), .second, .val (.long p6), .second, .unset, .unset, .unset, .unset, .unset, .unset, .unset, .unset] [(.int (p1 &&& (3 : Int32)))])
  rw [hk3]
  show own_Fin _ _ _ _ _ _ _ s₁ (mkF m 3 #[.val (.int p1), .val (.int p2), .val (.int p3), .val (.int p4), .val (.long p5), .second, .val (.long p6), .second, .unset, .unset, .unset, .unset, .unset, .unset, .unset, .unset] [(.int (0 : Int32))])
  refine own_step (fun _ k => XS.istore X0.here hx rfl (hb hby at_3) rfl (l' := #[.val (.int p1), .val (.int p2), .val (.int p3), .val (.int p4), .val (.long p5), .second, .val (.long p6), .second, .val (.int (0 : Int32)), .unset, .unset, .unset, .unset, .unset, .unset, .unset]) rfl k) ?_
  show own_Fin _ _ _ _ _ _ _ s₁ (mkF m 5 #[.val (.int p1), .val (.int p2), .val (.int p3), .val (.int p4), .val (.long p5), .second, .val (.long p6), .second, .val (.int (0 : Int32)), .unset, .unset, .unset, .unset, .unset, .unset, .unset] [])
  refine own_step (fun _ k => XS.iloadN X0.here hx rfl (hb hby at_5) rfl k) ?_
  show own_Fin _ _ _ _ _ _ _ s₁ (mkF m 6 #[.val (.int p1), .val (.int p2), .val (.int p3), .val (.int p4), .val (.long p5), .second, .val (.long p6), .second, .val (.int (0 : Int32)), .unset, .unset, .unset, .unset, .unset, .unset, .unset] [(.int p4)])
  refine own_step (fun _ k => XT.iconstV X0.here hx rfl (1 : Int32) (hb hby at_6) (by decide) k) ?_
  show own_Fin _ _ _ _ _ _ _ s₁ (mkF m 7 #[.val (.int p1), .val (.int p2), .val (.int p3), .val (.int p4), .val (.long p5), .second, .val (.long p6), .second, .val (.int (0 : Int32)), .unset, .unset, .unset, .unset, .unset, .unset, .unset] [(.int (1 : Int32)), (.int p4)])
  refine own_step (fun _ k => XS.iand X0.here hx rfl (hb hby at_7) rfl k) ?_
  show own_Fin _ _ _ _ _ _ _ s₁ (mkF m 8 #[.val (.int p1), .val (.int p2), .val (.int p3), .val (.int p4), .val (.long p5), .second, .val (.long p6), .second, .val (.int (0 : Int32)), .unset, .unset, .unset, .unset, .unset, .unset, .unset] [(.int (p4 &&& (1 : Int32)))])
  by_cases h8 : (p4 &&& (1 : Int32)) = 0
  · skip
    refine own_step (fun _ k => XS.ifYes X0.here hx rfl (pc0 := 8) (pc' := 15) rfl (hb hby at_8) rfl (XT.i0_eq_t h8) (by decide) (by decide) k) ?_
    show own_Fin _ _ _ _ _ _ _ s₁ (mkF m 15 #[.val (.int p1), .val (.int p2), .val (.int p3), .val (.int p4), .val (.long p5), .second, .val (.long p6), .second, .val (.int (0 : Int32)), .unset, .unset, .unset, .unset, .unset, .unset, .unset] [])
    refine own_step (fun _ k => XT.iconstV X0.here hx rfl (0 : Int32) (hb hby at_15) (by decide) k) ?_
    show own_Fin _ _ _ _ _ _ _ s₁ (mkF m 16 #[.val (.int p1), .val (.int p2), .val (.int p3), .val (.int p4), .val (.long p5), .second, .val (.long p6), .second, .val (.int (0 : Int32)), .unset, .unset, .unset, .unset, .unset, .unset, .unset] [(.int (0 : Int32))])
    refine own_step (fun _ k => XS.istore X0.here hx rfl (hb hby at_16) rfl (l' := #[.val (.int p1), .val (.int p2), .val (.int p3), .val (.int p4), .val (.long p5), .second, .val (.long p6), .second, .val (.int (0 : Int32)), .val (.int (0 : Int32)), .unset, .unset, .unset, .unset, .unset, .unset]) rfl k) ?_
    show own_Fin _ _ _ _ _ _ _ s₁ (mkF m 18 #[.val (.int p1), .val (.int p2), .val (.int p3), .val (.int p4), .val (.long p5), .second, .val (.long p6), .second, .val (.int (0 : Int32)), .val (.int (0 : Int32)), .unset, .unset, .unset, .unset, .unset, .unset] [])
    refine own_step (fun _ k => XS.iload X0.here hx rfl (hb hby at_18) rfl k) ?_
    show own_Fin _ _ _ _ _ _ _ s₁ (mkF m 20 #[.val (.int p1), .val (.int p2), .val (.int p3), .val (.int p4), .val (.long p5), .second, .val (.long p6), .second, .val (.int (0 : Int32)), .val (.int (0 : Int32)), .unset, .unset, .unset, .unset, .unset, .unset] [(.int (0 : Int32))])
    refine own_step (fun _ k => XS.ifYes X0.here hx rfl (pc0 := 20) (pc' := 27) rfl (hb hby at_20) rfl (XT.i0_eq_t (by decide)) (by decide) (by decide) k) ?_
    show own_Fin _ _ _ _ _ _ _ s₁ (mkF m 27 #[.val (.int p1), .val (.int p2), .val (.int p3), .val (.int p4), .val (.long p5), .second, .val (.long p6), .second, .val (.int (0 : Int32)), .val (.int (0 : Int32)), .unset, .unset, .unset, .unset, .unset, .unset] [])
    refine own_step (fun _ k => XS.iloadN X0.here hx rfl (hb hby at_27) rfl k) ?_
    show own_Fin _ _ _ _ _ _ _ s₁ (mkF m 28 #[.val (.int p1), .val (.int p2), .val (.int p3), .val (.int p4), .val (.long p5), .second, .val (.long p6), .second, .val (.int (0 : Int32)), .val (.int (0 : Int32)), .unset, .unset, .unset, .unset, .unset, .unset] [(.int p3)])
    exact tail _ _
  · skip
    refine own_step (fun _ k => XS.ifNo X0.here hx rfl (hb hby at_8) rfl (XT.i0_eq_f h8) k) ?_
    show own_Fin _ _ _ _ _ _ _ s₁ (mkF m 11 #[.val (.int p1), .val (.int p2), .val (.int p3), .val (.int p4), .val (.long p5), .second, .val (.long p6), .second, .val (.int (0 : Int32)), .unset, .unset, .unset, .unset, .unset, .unset, .unset] [])
    refine own_step (fun _ k => XT.iconstV X0.here hx rfl (1 : Int32) (hb hby at_11) (by decide) k) ?_
    show own_Fin _ _ _ _ _ _ _ s₁ (mkF m 12 #[.val (.int p1), .val (.int p2), .val (.int p3), .val (.int p4), .val (.long p5), .second, .val (.long p6), .second, .val (.int (0 : Int32)), .unset, .unset, .unset, .unset, .unset, .unset, .unset] [(.int (1 : Int32))])
    refine own_step (fun _ k => XS.goto X0.here hx rfl (pc0 := 12) (pc' := 16) rfl (hb hby at_12) (by decide) (by decide) k) ?_
    show own_Fin _ _ _ _ _ _ _ s₁ (mkF m 16 #[.val (.int p1), .val (.int p2), .val (.int p3), .val (.int p4), .val (.long p5), .second, .val (.long p6), .second, .val (.int (0 : Int32)), .unset, .unset, .unset, .unset, .unset, .unset, .unset] [(.int (1 : Int32))])
    refine own_step (fun _ k => XS.istore X0.here hx rfl (hb hby at_16) rfl (l' := #[.val (.int p1), .val (.int p2), .val (.int p3), .val (.int p4), .val (.long p5), .second, .val (.long p6), .second, .val (.int (0 : Int32)), .val (.int (1 : Int32)), .unset, .unset, .unset, .unset, .unset, .unset]) rfl k) ?_
    show own_Fin _ _ _ _ _ _ _ s₁ (mkF m 18 #[.val (.int p1), .val (.int p2), .val (.int p3), .val (.int p4), .val (.long p5), .second, .val (.long p6), .second, .val (.int (0 : Int32)), .val (.int (1 : Int32)), .unset, .unset, .unset, .unset, .unset, .unset] [])
    refine own_step (fun _ k => XS.iload X0.here hx rfl (hb hby at_18) rfl k) ?_
    show own_Fin _ _ _ _ _ _ _ s₁ (mkF m 20 #[.val (.int p1), .val (.int p2), .val (.int p3), .val (.int p4), .val (.long p5), .second, .val (.long p6), .second, .val (.int (0 : Int32)), .val (.int (1 : Int32)), .unset, .unset, .unset, .unset, .unset, .unset] [(.int (1 : Int32))])
    refine own_step (fun _ k => XS.ifNo X0.here hx rfl (hb hby at_20) rfl (XT.i0_eq_f (by decide)) k) ?_
    show own_Fin _ _ _ _ _ _ _ s₁ (mkF m 23 #[.val (.int p1), .val (.int p2), .val (.int p3), .val (.int p4), .val (.long p5), .second, .val (.long p6), .second, .val (.int (0 : Int32)), .val (.int (1 : Int32)), .unset, .unset, .unset, .unset, .unset, .unset] [])
    refine own_step (fun _ k => XS.iloadN X0.here hx rfl (hb hby at_23) rfl k) ?_
    show own_Fin _ _ _ _ _ _ _ s₁ (mkF m 24 #[.val (.int p1), .val (.int p2), .val (.int p3), .val (.int p4), .val (.long p5), .second, .val (.long p6), .second, .val (.int (0 : Int32)), .val (.int (1 : Int32)), .unset, .unset, .unset, .unset, .unset, .unset] [(.int p2)])
    refine own_step (fun _ k => XS.goto X0.here hx rfl (pc0 := 24) (pc' := 28) rfl (hb hby at_24) (by decide) (by decide) k) ?_
    show own_Fin _ _ _ _ _ _ _ s₁ (mkF m 28 #[.val (.int p1), .val (.int p2), .val (.int p3), .val (.int p4), .val (.long p5), .second, .val (.long p6), .second, .val (.int (0 : Int32)), .val (.int (1 : Int32)), .unset, .unset, .unset, .unset, .unset, .unset] [(.int p2)])
    exact tail _ _
set_option maxRecDepth 65536 in
set_option maxHeartbeats 40000000 in
theorem rm0_1 (l : Launch) (Z : State) (a0 : Array Value) (hw : ∀ d ∈ tables_1, d.before a0 Z = true) (ws : List Jvm.Cond) (h0 : Heap) (p1 p2 p3 p4 : Int32) (p5 p6 : Int64) (df el em mr ca : Addr) (kd : ClassId) (cc : Cell) (Sd : Sta Z h0 "java/util/ArrayList" "DEFAULTCAPACITY_EMPTY_ELEMENTDATA" "[Ljava/lang/Object;" (.ref df)) (Ad : Arv Z h0 df kd (.object "java/lang/Object") 0 [] .null) (Sl : Sta Z h0 "java/util/ImmutableCollections" "EMPTY_LIST" "Ljava/util/ImmutableCollections$ListN;" (.ref el)) (Sm : Sta Z h0 "java/util/ImmutableCollections" "EMPTY" "Ljava/lang/Object;" (.ref em)) (Rl : own_LN Z h0 el 0) (Eem : Exa Z h0 em "java/lang/Object") (Mr : own_Mir Z "[Ljava/lang/Object;" mr) (Sc : Sta Z h0 "java/lang/Long$LongCache" "cache" "[Ljava/lang/Long;" (.ref ca)) (Ac : Arr Z h0 ca cc (.object "java/lang/Long")) (Zc : cc.slots.size = 256) (Hc : ∀ i, i < 256 → ∃ r, cc.slots[i]? = some (.ref r) ∧ Exa Z h0 r "java/lang/Long") (hk3 : (p1 &&& (3 : Int32)) = (1 : Int32)) :
    own_Met l Z x code maxLocals ret ws room_1 #[(.int p1), (.int p2), (.int p3), (.int p4), (.long p5), (.long p6)] h0 (own_Q1 h0.size) := by
  refine own_body (y := x) pn_com_example_libelect_libelect_simulation_OutcomeElectedPinLaw ?_
  intro p e s m below meth c s₁ hx hby hml hZ hown hnm hrt hlk X0 e0
  replace hown : s.vm.findClass "com/example/libelect/libelect/simulation/OutcomeElectedPinLaw" = some m.cls := hown
  replace hml : c.maxLocals = 16 := hml
  have N0 := Fr.nil h0.size
  have tail : ∀ (sm ag : Int32), own_Fin p e s below room_1.cells room_1.slots (own_Q1 h0.size) s₁ (mkF m 28 #[.val (.int p1), .val (.int p2), .val (.int p3), .val (.int p4), .val (.long p5), .second, .val (.long p6), .second, .val (.int (1 : Int32)), .val (.int sm), .unset, .unset, .unset, .unset, .unset, .unset] [(.int ag)]) := by
    intro sm ag
    have EH := own_ext_refl h0
    show own_Fin _ _ _ _ _ _ _ s₁ (mkF m 28 #[.val (.int p1), .val (.int p2), .val (.int p3), .val (.int p4), .val (.long p5), .second, .val (.long p6), .second, .val (.int (1 : Int32)), .val (.int sm), .unset, .unset, .unset, .unset, .unset, .unset] [(.int ag)])
    refine own_step (fun _ k => XS.istore X0.here hx rfl (hb hby at_28) rfl (l' := #[.val (.int p1), .val (.int p2), .val (.int p3), .val (.int p4), .val (.long p5), .second, .val (.long p6), .second, .val (.int (1 : Int32)), .val (.int sm), .val (.int ag), .unset, .unset, .unset, .unset, .unset]) rfl k) ?_
    show own_Fin _ _ _ _ _ _ _ s₁ (mkF m 30 #[.val (.int p1), .val (.int p2), .val (.int p3), .val (.int p4), .val (.long p5), .second, .val (.long p6), .second, .val (.int (1 : Int32)), .val (.int sm), .val (.int ag), .unset, .unset, .unset, .unset, .unset] [])
    refine own_newO X0 hx hZ hown (hw _ (List.mem_of_getElem? (i := 0) rfl)) (hw _ (List.mem_of_getElem? (i := 1) rfl)) (hw _ (List.mem_of_getElem? (i := 2) rfl)) e0 (by decide) (by decide) (hb hby at_30) ?_
    intro T1 hp1 X1 e1 E1 A1 D1
    have Fm1 := D1 (O := "java/util/AbstractList") (nm := "modCount") (d := "I") (Or.inl (hw _ (List.mem_of_getElem? (i := 22) rfl))) pf_I
    have Fs1 := D1 (O := "java/util/ArrayList") (nm := "size") (d := "I") (Or.inl (hw _ (List.mem_of_getElem? (i := 62) rfl))) pf_I
    have Fe1 := D1 (O := "java/util/ArrayList") (nm := "elementData") (d := "[Ljava/lang/Object;") (Or.inl (hw _ (List.mem_of_getElem? (i := 25) rfl))) pf__Ljava_lang_Object_
    have ge1 : h0.size ≤ h0.size := EH.1
    replace EH := own_ext_trans EH E1
    show own_Fin _ _ _ _ _ _ _ T1 (mkF m 33 #[.val (.int p1), .val (.int p2), .val (.int p3), .val (.int p4), .val (.long p5), .second, .val (.long p6), .second, .val (.int (1 : Int32)), .val (.int sm), .val (.int ag), .unset, .unset, .unset, .unset, .unset] [(.ref h0.size)])
    refine own_step (fun _ k => XS.dup X1.here hx rfl (hb hby at_33) rfl rfl k) ?_
    show own_Fin _ _ _ _ _ _ _ T1 (mkF m 34 #[.val (.int p1), .val (.int p2), .val (.int p3), .val (.int p4), .val (.long p5), .second, .val (.long p6), .second, .val (.int (1 : Int32)), .val (.int sm), .val (.int ag), .unset, .unset, .unset, .unset, .unset] [(.ref h0.size), (.ref h0.size)])
    refine own_callN X1 hx hZ (b := h0.size) (argsL := []) (rest := [(.ref h0.size)]) rfl hown (hw _ (List.mem_of_getElem? (i := 3) rfl)) (hw _ (List.mem_of_getElem? (i := 4) rfl)) (hw _ (List.mem_of_getElem? (i := 5) rfl)) (hw _ (List.mem_of_getElem? (i := 2) rfl)) (by decide) (rm1 l Z a0 hw hp1 h0.size h0.size df _ _ Fm1 Fs1 Fe1 A1 (Sd.ext EH) ge1) e1 1 (Nat.le_of_eq rfl) (by decide) (by decide) (by decide) (by decide) (by rw [hml]; rfl) pd___V rfl rfl (hb hby at_34) ?_
    rintro T2 L2 _ X2 ⟨rfl, F2, K2, La2⟩
    have N2 := Fr.app N0 F2
    replace EH := own_ext_keep EH K2 (allS ge1 all0)
    have La := La2
    show own_Fin _ _ _ _ _ _ _ T2 (mkF m 37 #[.val (.int p1), .val (.int p2), .val (.int p3), .val (.int p4), .val (.long p5), .second, .val (.long p6), .second, .val (.int (1 : Int32)), .val (.int sm), .val (.int ag), .unset, .unset, .unset, .unset, .unset] [(.ref h0.size)])
    refine own_step (fun _ k => XS.astore X2.here hx rfl (hb hby at_37) rfl rfl (l' := #[.val (.int p1), .val (.int p2), .val (.int p3), .val (.int p4), .val (.long p5), .second, .val (.long p6), .second, .val (.int (1 : Int32)), .val (.int sm), .val (.int ag), .val (.ref h0.size), .unset, .unset, .unset, .unset]) rfl k) ?_
    show own_Fin _ _ _ _ _ _ _ T2 (mkF m 39 #[.val (.int p1), .val (.int p2), .val (.int p3), .val (.int p4), .val (.long p5), .second, .val (.long p6), .second, .val (.int (1 : Int32)), .val (.int sm), .val (.int ag), .val (.ref h0.size), .unset, .unset, .unset, .unset] [])
    refine own_step (fun _ k => XS.iload X2.here hx rfl (hb hby at_39) rfl k) ?_
    show own_Fin _ _ _ _ _ _ _ T2 (mkF m 41 #[.val (.int p1), .val (.int p2), .val (.int p3), .val (.int p4), .val (.long p5), .second, .val (.long p6), .second, .val (.int (1 : Int32)), .val (.int sm), .val (.int ag), .val (.ref h0.size), .unset, .unset, .unset, .unset] [(.int (1 : Int32))])
    refine own_step (fun _ k => XT.iconstV X2.here hx rfl (1 : Int32) (hb hby at_41) (by decide) k) ?_
    show own_Fin _ _ _ _ _ _ _ T2 (mkF m 42 #[.val (.int p1), .val (.int p2), .val (.int p3), .val (.int p4), .val (.long p5), .second, .val (.long p6), .second, .val (.int (1 : Int32)), .val (.int sm), .val (.int ag), .val (.ref h0.size), .unset, .unset, .unset, .unset] [(.int (1 : Int32)), (.int (1 : Int32))])
    refine own_step (fun _ k => XS.icmpNo X2.here hx rfl (hb hby at_42) rfl (XT.ii_lt_f (by decide)) k) ?_
    show own_Fin _ _ _ _ _ _ _ T2 (mkF m 45 #[.val (.int p1), .val (.int p2), .val (.int p3), .val (.int p4), .val (.long p5), .second, .val (.long p6), .second, .val (.int (1 : Int32)), .val (.int sm), .val (.int ag), .val (.ref h0.size), .unset, .unset, .unset, .unset] [])
    refine own_step (fun _ k => XS.aload X2.here hx rfl (hb hby at_45) rfl rfl k) ?_
    show own_Fin _ _ _ _ _ _ _ T2 (mkF m 47 #[.val (.int p1), .val (.int p2), .val (.int p3), .val (.int p4), .val (.long p5), .second, .val (.long p6), .second, .val (.int (1 : Int32)), .val (.int sm), .val (.int ag), .val (.ref h0.size), .unset, .unset, .unset, .unset] [(.ref h0.size)])
    refine own_step (fun _ k => XT.lload X2.here hx rfl (hb hby at_47) rfl k) ?_
    show own_Fin _ _ _ _ _ _ _ T2 (mkF m 49 #[.val (.int p1), .val (.int p2), .val (.int p3), .val (.int p4), .val (.long p5), .second, .val (.long p6), .second, .val (.int (1 : Int32)), .val (.int sm), .val (.int ag), .val (.ref h0.size), .unset, .unset, .unset, .unset] [(.long p5), (.ref h0.size)])
    refine own_callS X2 hx hZ (argsL := [(.long p5)]) (rest := [(.ref h0.size)]) hown (hw _ (List.mem_of_getElem? (i := 103) rfl)) (hw _ (List.mem_of_getElem? (i := 104) rfl)) (hw _ (List.mem_of_getElem? (i := 105) rfl)) (hw _ (List.mem_of_getElem? (i := 106) rfl)) (by decide) (rm12 l Z a0 hw T2.heap h0.size p5 ca cc (Sc.ext EH) (Ac.ext EH) Zc (fun i hi => by obtain ⟨r, u1, u2⟩ := Hc i hi; exact ⟨r, u1, u2.ext EH⟩) EH.1) rfl 1 (Nat.le_of_eq rfl) (by decide) (by decide) (by decide) (by decide) (by rw [hml]; rfl) pd__J_Ljava_lang_Long_ rfl rfl (hb hby at_49) ?_
    rintro T3 L3 _ X3 ⟨r1, rfl, F3, E3, Er1⟩
    have N3 := Fr.app N2 F3
    replace EH := own_ext_trans EH E3
    replace La := La.ext E3
    show own_Fin _ _ _ _ _ _ _ T3 (mkF m 52 #[.val (.int p1), .val (.int p2), .val (.int p3), .val (.int p4), .val (.long p5), .second, .val (.long p6), .second, .val (.int (1 : Int32)), .val (.int sm), .val (.int ag), .val (.ref h0.size), .unset, .unset, .unset, .unset] [(.ref r1), (.ref h0.size)])
    have dne : df ≠ h0.size := Nat.ne_of_lt Ad.lt
    refine own_callV X3 hx hZ (b := h0.size) (argsL := [(.ref r1)]) (rest := []) hown (hw _ (List.mem_of_getElem? (i := 111) rfl)) (hw _ (List.mem_of_getElem? (i := 112) rfl)) (hw _ (List.mem_of_getElem? (i := 114) rfl)) (hw _ (List.mem_of_getElem? (i := 113) rfl)) (hw _ (List.mem_of_getElem? (i := 115) rfl)) (hw _ (List.mem_of_getElem? (i := 2) rfl)) (by decide) La.1 (rm13_0 l Z a0 hw T3.heap h0.size h0.size df kd r1 La (Sd.ext EH) (Ad.ext EH) (Nat.le_refl _) EH.1 Er1) rfl 0 (Nat.le_of_eq rfl) (by decide) (by decide) (by decide) (by decide) (by rw [hml]; rfl) pd__Ljava_lang_Object__Z rfl rfl (hb hby at_52) ?_
    have hlt : h0.size < T3.heap.size := La.1.lt
    rintro T4 L4 _ X4 ⟨ar, ka, rfl, F4, gr, K4, La4, Aa, Oa, Ba⟩
    have gar : h0.size ≤ ar := Nat.le_trans (Nat.le_of_lt hlt) gr
    have nar : ar ≠ h0.size := Nat.ne_of_gt (Nat.lt_of_lt_of_le hlt gr)
    have N4 := Fr.app N3 F4
    replace EH := own_ext_keep EH K4 (allS (Nat.le_refl _) all0)
    replace Er1 := Er1.keep K4
    replace La := La4
    show own_Fin _ _ _ _ _ _ _ T4 (mkF m 55 #[.val (.int p1), .val (.int p2), .val (.int p3), .val (.int p4), .val (.long p5), .second, .val (.long p6), .second, .val (.int (1 : Int32)), .val (.int sm), .val (.int ag), .val (.ref h0.size), .unset, .unset, .unset, .unset] [(.int (1 : Int32))])
    refine own_step (fun _ k => XT.pop X4.here hx rfl (hb hby at_55) rfl rfl k) ?_
    show own_Fin _ _ _ _ _ _ _ T4 (mkF m 56 #[.val (.int p1), .val (.int p2), .val (.int p3), .val (.int p4), .val (.long p5), .second, .val (.long p6), .second, .val (.int (1 : Int32)), .val (.int sm), .val (.int ag), .val (.ref h0.size), .unset, .unset, .unset, .unset] [])
    refine own_step (fun _ k => XS.iload X4.here hx rfl (hb hby at_56) rfl k) ?_
    show own_Fin _ _ _ _ _ _ _ T4 (mkF m 58 #[.val (.int p1), .val (.int p2), .val (.int p3), .val (.int p4), .val (.long p5), .second, .val (.long p6), .second, .val (.int (1 : Int32)), .val (.int sm), .val (.int ag), .val (.ref h0.size), .unset, .unset, .unset, .unset] [(.int (1 : Int32))])
    refine own_step (fun _ k => XT.iconstV X4.here hx rfl (2 : Int32) (hb hby at_58) (by decide) k) ?_
    show own_Fin _ _ _ _ _ _ _ T4 (mkF m 59 #[.val (.int p1), .val (.int p2), .val (.int p3), .val (.int p4), .val (.long p5), .second, .val (.long p6), .second, .val (.int (1 : Int32)), .val (.int sm), .val (.int ag), .val (.ref h0.size), .unset, .unset, .unset, .unset] [(.int (2 : Int32)), (.int (1 : Int32))])
    refine own_step (fun _ k => XS.icmpYes X4.here hx rfl (pc0 := 59) (pc' := 75) rfl (hb hby at_59) rfl (XT.ii_lt_t (by decide)) (by decide) (by decide) k) ?_
    show own_Fin _ _ _ _ _ _ _ T4 (mkF m 75 #[.val (.int p1), .val (.int p2), .val (.int p3), .val (.int p4), .val (.long p5), .second, .val (.long p6), .second, .val (.int (1 : Int32)), .val (.int sm), .val (.int ag), .val (.ref h0.size), .unset, .unset, .unset, .unset] [])
    refine own_step (fun _ k => XS.iload X4.here hx rfl (hb hby at_75) rfl k) ?_
    show own_Fin _ _ _ _ _ _ _ T4 (mkF m 77 #[.val (.int p1), .val (.int p2), .val (.int p3), .val (.int p4), .val (.long p5), .second, .val (.long p6), .second, .val (.int (1 : Int32)), .val (.int sm), .val (.int ag), .val (.ref h0.size), .unset, .unset, .unset, .unset] [(.int (1 : Int32))])
    refine own_step (fun _ k => XT.iconstV X4.here hx rfl (3 : Int32) (hb hby at_77) (by decide) k) ?_
    show own_Fin _ _ _ _ _ _ _ T4 (mkF m 78 #[.val (.int p1), .val (.int p2), .val (.int p3), .val (.int p4), .val (.long p5), .second, .val (.long p6), .second, .val (.int (1 : Int32)), .val (.int sm), .val (.int ag), .val (.ref h0.size), .unset, .unset, .unset, .unset] [(.int (3 : Int32)), (.int (1 : Int32))])
    refine own_step (fun _ k => XS.icmpYes X4.here hx rfl (pc0 := 78) (pc' := 96) rfl (hb hby at_78) rfl (XT.ii_lt_t (by decide)) (by decide) (by decide) k) ?_
    show own_Fin _ _ _ _ _ _ _ T4 (mkF m 96 #[.val (.int p1), .val (.int p2), .val (.int p3), .val (.int p4), .val (.long p5), .second, .val (.long p6), .second, .val (.int (1 : Int32)), .val (.int sm), .val (.int ag), .val (.ref h0.size), .unset, .unset, .unset, .unset] [])
    refine own_newO X4 hx hZ hown (hw _ (List.mem_of_getElem? (i := 0) rfl)) (hw _ (List.mem_of_getElem? (i := 1) rfl)) (hw _ (List.mem_of_getElem? (i := 2) rfl)) rfl (by decide) (by decide) (hb hby at_96) ?_
    intro T5 hp5 X5 e5 E5 A5 D5
    have Fm5 := D5 (O := "java/util/AbstractList") (nm := "modCount") (d := "I") (Or.inl (hw _ (List.mem_of_getElem? (i := 22) rfl))) pf_I
    have Fs5 := D5 (O := "java/util/ArrayList") (nm := "size") (d := "I") (Or.inl (hw _ (List.mem_of_getElem? (i := 62) rfl))) pf_I
    have Fe5 := D5 (O := "java/util/ArrayList") (nm := "elementData") (d := "[Ljava/lang/Object;") (Or.inl (hw _ (List.mem_of_getElem? (i := 25) rfl))) pf__Ljava_lang_Object_
    have ge2 : h0.size ≤ T4.heap.size := EH.1
    have ne12 : h0.size ≠ T4.heap.size := Nat.ne_of_lt La.1.lt
    have neA2 : ar ≠ T4.heap.size := Nat.ne_of_lt Aa.lt
    replace EH := own_ext_trans EH E5
    replace Er1 := Er1.ext E5
    replace La := La.ext E5
    replace Aa := Aa.ext E5
    replace Ba := Ba.ext E5
    show own_Fin _ _ _ _ _ _ _ T5 (mkF m 99 #[.val (.int p1), .val (.int p2), .val (.int p3), .val (.int p4), .val (.long p5), .second, .val (.long p6), .second, .val (.int (1 : Int32)), .val (.int sm), .val (.int ag), .val (.ref h0.size), .unset, .unset, .unset, .unset] [(.ref T4.heap.size)])
    refine own_step (fun _ k => XS.dup X5.here hx rfl (hb hby at_99) rfl rfl k) ?_
    show own_Fin _ _ _ _ _ _ _ T5 (mkF m 100 #[.val (.int p1), .val (.int p2), .val (.int p3), .val (.int p4), .val (.long p5), .second, .val (.long p6), .second, .val (.int (1 : Int32)), .val (.int sm), .val (.int ag), .val (.ref h0.size), .unset, .unset, .unset, .unset] [(.ref T4.heap.size), (.ref T4.heap.size)])
    refine own_callN X5 hx hZ (b := T4.heap.size) (argsL := []) (rest := [(.ref T4.heap.size)]) rfl hown (hw _ (List.mem_of_getElem? (i := 3) rfl)) (hw _ (List.mem_of_getElem? (i := 4) rfl)) (hw _ (List.mem_of_getElem? (i := 5) rfl)) (hw _ (List.mem_of_getElem? (i := 2) rfl)) (by decide) (rm1 l Z a0 hw hp5 h0.size T4.heap.size df _ _ Fm5 Fs5 Fe5 A5 (Sd.ext EH) ge2) e5 1 (Nat.le_of_eq rfl) (by decide) (by decide) (by decide) (by decide) (by rw [hml]; rfl) pd___V rfl rfl (hb hby at_100) ?_
    rintro T6 L6 _ X6 ⟨rfl, F6, K6, La6⟩
    have N6 := Fr.app N4 F6
    replace EH := own_ext_keep EH K6 (allS ge2 all0)
    replace Er1 := Er1.keep K6
    replace La := La.keep K6 (ninS ne12 nin0)
    replace Aa := Aa.keep K6 (ninS neA2 nin0)
    replace Ba := Ba.keep K6
    have Lb := La6
    show own_Fin _ _ _ _ _ _ _ T6 (mkF m 103 #[.val (.int p1), .val (.int p2), .val (.int p3), .val (.int p4), .val (.long p5), .second, .val (.long p6), .second, .val (.int (1 : Int32)), .val (.int sm), .val (.int ag), .val (.ref h0.size), .unset, .unset, .unset, .unset] [(.ref T4.heap.size)])
    refine own_step (fun _ k => XS.astore X6.here hx rfl (hb hby at_103) rfl rfl (l' := #[.val (.int p1), .val (.int p2), .val (.int p3), .val (.int p4), .val (.long p5), .second, .val (.long p6), .second, .val (.int (1 : Int32)), .val (.int sm), .val (.int ag), .val (.ref h0.size), .val (.ref T4.heap.size), .unset, .unset, .unset]) rfl k) ?_
    show own_Fin _ _ _ _ _ _ _ T6 (mkF m 105 #[.val (.int p1), .val (.int p2), .val (.int p3), .val (.int p4), .val (.long p5), .second, .val (.long p6), .second, .val (.int (1 : Int32)), .val (.int sm), .val (.int ag), .val (.ref h0.size), .val (.ref T4.heap.size), .unset, .unset, .unset] [])
    refine own_step (fun _ k => XT.iconstV X6.here hx rfl (0 : Int32) (hb hby at_105) (by decide) k) ?_
    show own_Fin _ _ _ _ _ _ _ T6 (mkF m 106 #[.val (.int p1), .val (.int p2), .val (.int p3), .val (.int p4), .val (.long p5), .second, .val (.long p6), .second, .val (.int (1 : Int32)), .val (.int sm), .val (.int ag), .val (.ref h0.size), .val (.ref T4.heap.size), .unset, .unset, .unset] [(.int (0 : Int32))])
    refine own_newPE X6 hx hZ (aty := .long) (hw _ (List.mem_of_getElem? (i := 26) rfl)) rfl 0 (by decide) (by decide) (by decide) (by decide) (by decide) (ad := "[J") (by decide +kernel) (hb hby at_106) ?_
    intro T7 hp7 km X7 e7 E7 Am Bm
    replace EH := own_ext_trans EH E7
    replace Er1 := Er1.ext E7
    replace La := La.ext E7
    replace Aa := Aa.ext E7
    replace Ba := Ba.ext E7
    replace Lb := Lb.ext E7
    show own_Fin _ _ _ _ _ _ _ T7 (mkF m 108 #[.val (.int p1), .val (.int p2), .val (.int p3), .val (.int p4), .val (.long p5), .second, .val (.long p6), .second, .val (.int (1 : Int32)), .val (.int sm), .val (.int ag), .val (.ref h0.size), .val (.ref T4.heap.size), .unset, .unset, .unset] [(.ref T6.heap.size)])
    refine own_step (fun _ k => XS.astore X7.here hx rfl (hb hby at_108) rfl rfl (l' := #[.val (.int p1), .val (.int p2), .val (.int p3), .val (.int p4), .val (.long p5), .second, .val (.long p6), .second, .val (.int (1 : Int32)), .val (.int sm), .val (.int ag), .val (.ref h0.size), .val (.ref T4.heap.size), .val (.ref T6.heap.size), .unset, .unset]) rfl k) ?_
    show own_Fin _ _ _ _ _ _ _ T7 (mkF m 110 #[.val (.int p1), .val (.int p2), .val (.int p3), .val (.int p4), .val (.long p5), .second, .val (.long p6), .second, .val (.int (1 : Int32)), .val (.int sm), .val (.int ag), .val (.ref h0.size), .val (.ref T4.heap.size), .val (.ref T6.heap.size), .unset, .unset] [])
    refine own_newO X7 hx hZ hown (hw _ (List.mem_of_getElem? (i := 27) rfl)) (hw _ (List.mem_of_getElem? (i := 28) rfl)) (hw _ (List.mem_of_getElem? (i := 29) rfl)) e7 (by decide) (by decide) (hb hby at_110) ?_
    intro T8 hp8 X8 e8 E8 A8 D8
    have P_nodes8 := D8 (O := "com/example/libelect/libelect/simulation/Outcome") (nm := "nodes") (d := "I") (Or.inr (hw _ (List.mem_of_getElem? (i := 35) rfl))) pf_I
    have P_live8 := D8 (O := "com/example/libelect/libelect/simulation/Outcome") (nm := "live") (d := "I") (Or.inr (hw _ (List.mem_of_getElem? (i := 37) rfl))) pf_I
    have P_leaders8 := D8 (O := "com/example/libelect/libelect/simulation/Outcome") (nm := "leaders") (d := "Ljava/util/List;") (Or.inr (hw _ (List.mem_of_getElem? (i := 68) rfl))) pf_Ljava_util_List_
    have P_agreed8 := D8 (O := "com/example/libelect/libelect/simulation/Outcome") (nm := "agreed") (d := "I") (Or.inr (hw _ (List.mem_of_getElem? (i := 70) rfl))) pf_I
    have P_messageKinds8 := D8 (O := "com/example/libelect/libelect/simulation/Outcome") (nm := "messageKinds") (d := "Ljava/util/List;") (Or.inr (hw _ (List.mem_of_getElem? (i := 72) rfl))) pf_Ljava_util_List_
    have P_messages8 := D8 (O := "com/example/libelect/libelect/simulation/Outcome") (nm := "messages") (d := "[J") (Or.inr (hw _ (List.mem_of_getElem? (i := 83) rfl))) pf__J
    have P_time8 := D8 (O := "com/example/libelect/libelect/simulation/Outcome") (nm := "time") (d := "J") (Or.inr (hw _ (List.mem_of_getElem? (i := 85) rfl))) pf_J
    have geo : h0.size ≤ hp7.size := EH.1
    replace EH := own_ext_trans EH E8
    replace Er1 := Er1.ext E8
    replace La := La.ext E8
    replace Aa := Aa.ext E8
    replace Ba := Ba.ext E8
    replace Lb := Lb.ext E8
    replace Am := Am.ext E8
    replace Bm := Bm.ext E8
    show own_Fin _ _ _ _ _ _ _ T8 (mkF m 113 #[.val (.int p1), .val (.int p2), .val (.int p3), .val (.int p4), .val (.long p5), .second, .val (.long p6), .second, .val (.int (1 : Int32)), .val (.int sm), .val (.int ag), .val (.ref h0.size), .val (.ref T4.heap.size), .val (.ref T6.heap.size), .unset, .unset] [(.ref hp7.size)])
    refine own_step (fun _ k => XS.dup X8.here hx rfl (hb hby at_113) rfl rfl k) ?_
    show own_Fin _ _ _ _ _ _ _ T8 (mkF m 114 #[.val (.int p1), .val (.int p2), .val (.int p3), .val (.int p4), .val (.long p5), .second, .val (.long p6), .second, .val (.int (1 : Int32)), .val (.int sm), .val (.int ag), .val (.ref h0.size), .val (.ref T4.heap.size), .val (.ref T6.heap.size), .unset, .unset] [(.ref hp7.size), (.ref hp7.size)])
    refine own_step (fun _ k => XS.iloadN X8.here hx rfl (hb hby at_114) rfl k) ?_
    show own_Fin _ _ _ _ _ _ _ T8 (mkF m 115 #[.val (.int p1), .val (.int p2), .val (.int p3), .val (.int p4), .val (.long p5), .second, .val (.long p6), .second, .val (.int (1 : Int32)), .val (.int sm), .val (.int ag), .val (.ref h0.size), .val (.ref T4.heap.size), .val (.ref T6.heap.size), .unset, .unset] [(.int p4), (.ref hp7.size), (.ref hp7.size)])
    refine own_step (fun _ k => XT.iconstV X8.here hx rfl (1 : Int32) (hb hby at_115) (by decide) k) ?_
    show own_Fin _ _ _ _ _ _ _ T8 (mkF m 116 #[.val (.int p1), .val (.int p2), .val (.int p3), .val (.int p4), .val (.long p5), .second, .val (.long p6), .second, .val (.int (1 : Int32)), .val (.int sm), .val (.int ag), .val (.ref h0.size), .val (.ref T4.heap.size), .val (.ref T6.heap.size), .unset, .unset] [(.int (1 : Int32)), (.int p4), (.ref hp7.size), (.ref hp7.size)])
    refine own_step (fun _ k => XT.ishr X8.here hx rfl (hb hby at_116) rfl k) ?_
    show own_Fin _ _ _ _ _ _ _ T8 (mkF m 117 #[.val (.int p1), .val (.int p2), .val (.int p3), .val (.int p4), .val (.long p5), .second, .val (.long p6), .second, .val (.int (1 : Int32)), .val (.int sm), .val (.int ag), .val (.ref h0.size), .val (.ref T4.heap.size), .val (.ref T6.heap.size), .unset, .unset] [(.int (p4 >>> ((1 : Int32) &&& 31))), (.ref hp7.size), (.ref hp7.size)])
    refine own_step (fun _ k => XS.iloadN X8.here hx rfl (hb hby at_117) rfl k) ?_
    show own_Fin _ _ _ _ _ _ _ T8 (mkF m 118 #[.val (.int p1), .val (.int p2), .val (.int p3), .val (.int p4), .val (.long p5), .second, .val (.long p6), .second, .val (.int (1 : Int32)), .val (.int sm), .val (.int ag), .val (.ref h0.size), .val (.ref T4.heap.size), .val (.ref T6.heap.size), .unset, .unset] [(.int p2), (.int (p4 >>> ((1 : Int32) &&& 31))), (.ref hp7.size), (.ref hp7.size)])
    refine own_step (fun _ k => XS.aload X8.here hx rfl (hb hby at_118) rfl rfl k) ?_
    show own_Fin _ _ _ _ _ _ _ T8 (mkF m 120 #[.val (.int p1), .val (.int p2), .val (.int p3), .val (.int p4), .val (.long p5), .second, .val (.long p6), .second, .val (.int (1 : Int32)), .val (.int sm), .val (.int ag), .val (.ref h0.size), .val (.ref T4.heap.size), .val (.ref T6.heap.size), .unset, .unset] [(.ref h0.size), (.int p2), (.int (p4 >>> ((1 : Int32) &&& 31))), (.ref hp7.size), (.ref hp7.size)])
    refine own_step (fun _ k => XS.iload X8.here hx rfl (hb hby at_120) rfl k) ?_
    show own_Fin _ _ _ _ _ _ _ T8 (mkF m 122 #[.val (.int p1), .val (.int p2), .val (.int p3), .val (.int p4), .val (.long p5), .second, .val (.long p6), .second, .val (.int (1 : Int32)), .val (.int sm), .val (.int ag), .val (.ref h0.size), .val (.ref T4.heap.size), .val (.ref T6.heap.size), .unset, .unset] [(.int ag), (.ref h0.size), (.int p2), (.int (p4 >>> ((1 : Int32) &&& 31))), (.ref hp7.size), (.ref hp7.size)])
    refine own_step (fun _ k => XS.aload X8.here hx rfl (hb hby at_122) rfl rfl k) ?_
    show own_Fin _ _ _ _ _ _ _ T8 (mkF m 124 #[.val (.int p1), .val (.int p2), .val (.int p3), .val (.int p4), .val (.long p5), .second, .val (.long p6), .second, .val (.int (1 : Int32)), .val (.int sm), .val (.int ag), .val (.ref h0.size), .val (.ref T4.heap.size), .val (.ref T6.heap.size), .unset, .unset] [(.ref T4.heap.size), (.int ag), (.ref h0.size), (.int p2), (.int (p4 >>> ((1 : Int32) &&& 31))), (.ref hp7.size), (.ref hp7.size)])
    refine own_step (fun _ k => XS.aload X8.here hx rfl (hb hby at_124) rfl rfl k) ?_
    show own_Fin _ _ _ _ _ _ _ T8 (mkF m 126 #[.val (.int p1), .val (.int p2), .val (.int p3), .val (.int p4), .val (.long p5), .second, .val (.long p6), .second, .val (.int (1 : Int32)), .val (.int sm), .val (.int ag), .val (.ref h0.size), .val (.ref T4.heap.size), .val (.ref T6.heap.size), .unset, .unset] [(.ref T6.heap.size), (.ref T4.heap.size), (.int ag), (.ref h0.size), (.int p2), (.int (p4 >>> ((1 : Int32) &&& 31))), (.ref hp7.size), (.ref hp7.size)])
    refine own_step (fun _ k => XT.lload X8.here hx rfl (hb hby at_126) rfl k) ?_
    show own_Fin _ _ _ _ _ _ _ T8 (mkF m 128 #[.val (.int p1), .val (.int p2), .val (.int p3), .val (.int p4), .val (.long p5), .second, .val (.long p6), .second, .val (.int (1 : Int32)), .val (.int sm), .val (.int ag), .val (.ref h0.size), .val (.ref T4.heap.size), .val (.ref T6.heap.size), .unset, .unset] [(.long p6), (.ref T6.heap.size), (.ref T4.heap.size), (.int ag), (.ref h0.size), (.int p2), (.int (p4 >>> ((1 : Int32) &&& 31))), (.ref hp7.size), (.ref hp7.size)])
    refine own_callN X8 hx hZ (b := hp7.size) (argsL := [(.int (p4 >>> ((1 : Int32) &&& 31))), (.int p2), (.ref h0.size), (.int ag), (.ref T4.heap.size), (.ref T6.heap.size), (.long p6)]) (rest := [(.ref hp7.size)]) rfl hown (hw _ (List.mem_of_getElem? (i := 30) rfl)) (hw _ (List.mem_of_getElem? (i := 31) rfl)) (hw _ (List.mem_of_getElem? (i := 32) rfl)) (hw _ (List.mem_of_getElem? (i := 29) rfl)) (by decide) (rm5_1 l Z a0 hw hp8 h0.size hp7.size h0.size T4.heap.size T6.heap.size el em df mr ar _ p2 ag p6 km ka r1 P_nodes8 P_live8 P_leaders8 P_agreed8 P_messageKinds8 P_messages8 P_time8 A8 Lb Am Bm (Sl.ext EH) (Sm.ext EH) (Rl.ext EH) geo EH.1 Mr La Aa Ba Er1) e8 1 (Nat.le_of_eq rfl) (by decide) (by decide) (by decide) (by decide) (by rw [hml]; rfl) pd__IILjava_util_List_ILjava_util_List__JJ_V rfl rfl (hb hby at_128) ?_
    rintro T9 L9 _ X9 ⟨rr, rfl, F9, Eo, Pl, Pa, Pv, Rr, Sm2⟩
    have N9 := Fr.app N6 F9
    show own_Fin _ _ _ _ _ _ _ T9 (mkF m 131 #[.val (.int p1), .val (.int p2), .val (.int p3), .val (.int p4), .val (.long p5), .second, .val (.long p6), .second, .val (.int (1 : Int32)), .val (.int sm), .val (.int ag), .val (.ref h0.size), .val (.ref T4.heap.size), .val (.ref T6.heap.size), .unset, .unset] [(.ref hp7.size)])
    refine own_step (fun _ k => XS.astore X9.here hx rfl (hb hby at_131) rfl rfl (l' := #[.val (.int p1), .val (.int p2), .val (.int p3), .val (.int p4), .val (.long p5), .second, .val (.long p6), .second, .val (.int (1 : Int32)), .val (.int sm), .val (.int ag), .val (.ref h0.size), .val (.ref T4.heap.size), .val (.ref T6.heap.size), .val (.ref hp7.size), .unset]) rfl k) ?_
    show own_Fin _ _ _ _ _ _ _ T9 (mkF m 133 #[.val (.int p1), .val (.int p2), .val (.int p3), .val (.int p4), .val (.long p5), .second, .val (.long p6), .second, .val (.int (1 : Int32)), .val (.int sm), .val (.int ag), .val (.ref h0.size), .val (.ref T4.heap.size), .val (.ref T6.heap.size), .val (.ref hp7.size), .unset] [])
    refine own_step (fun _ k => XT.iconstV X9.here hx rfl (0 : Int32) (hb hby at_133) (by decide) k) ?_
    show own_Fin _ _ _ _ _ _ _ T9 (mkF m 134 #[.val (.int p1), .val (.int p2), .val (.int p3), .val (.int p4), .val (.long p5), .second, .val (.long p6), .second, .val (.int (1 : Int32)), .val (.int sm), .val (.int ag), .val (.ref h0.size), .val (.ref T4.heap.size), .val (.ref T6.heap.size), .val (.ref hp7.size), .unset] [(.int (0 : Int32))])
    refine own_step (fun _ k => XS.istore X9.here hx rfl (hb hby at_134) rfl (l' := #[.val (.int p1), .val (.int p2), .val (.int p3), .val (.int p4), .val (.long p5), .second, .val (.long p6), .second, .val (.int (1 : Int32)), .val (.int sm), .val (.int ag), .val (.ref h0.size), .val (.ref T4.heap.size), .val (.ref T6.heap.size), .val (.ref hp7.size), .val (.int (0 : Int32))]) rfl k) ?_
    show own_Fin _ _ _ _ _ _ _ T9 (mkF m 136 #[.val (.int p1), .val (.int p2), .val (.int p3), .val (.int p4), .val (.long p5), .second, .val (.long p6), .second, .val (.int (1 : Int32)), .val (.int sm), .val (.int ag), .val (.ref h0.size), .val (.ref T4.heap.size), .val (.ref T6.heap.size), .val (.ref hp7.size), .val (.int (0 : Int32))] [])
    refine own_step (fun _ k => XS.iload X9.here hx rfl (hb hby at_136) rfl k) ?_
    show own_Fin _ _ _ _ _ _ _ T9 (mkF m 138 #[.val (.int p1), .val (.int p2), .val (.int p3), .val (.int p4), .val (.long p5), .second, .val (.long p6), .second, .val (.int (1 : Int32)), .val (.int sm), .val (.int ag), .val (.ref h0.size), .val (.ref T4.heap.size), .val (.ref T6.heap.size), .val (.ref hp7.size), .val (.int (0 : Int32))] [(.int (1 : Int32))])
    refine own_step (fun _ k => XT.iconstV X9.here hx rfl (1 : Int32) (hb hby at_138) (by decide) k) ?_
    show own_Fin _ _ _ _ _ _ _ T9 (mkF m 139 #[.val (.int p1), .val (.int p2), .val (.int p3), .val (.int p4), .val (.long p5), .second, .val (.long p6), .second, .val (.int (1 : Int32)), .val (.int sm), .val (.int ag), .val (.ref h0.size), .val (.ref T4.heap.size), .val (.ref T6.heap.size), .val (.ref hp7.size), .val (.int (0 : Int32))] [(.int (1 : Int32)), (.int (1 : Int32))])
    refine own_step (fun _ k => XS.icmpNo X9.here hx rfl (hb hby at_139) rfl (XT.ii_ne_f (by decide)) k) ?_
    show own_Fin _ _ _ _ _ _ _ T9 (mkF m 142 #[.val (.int p1), .val (.int p2), .val (.int p3), .val (.int p4), .val (.long p5), .second, .val (.long p6), .second, .val (.int (1 : Int32)), .val (.int sm), .val (.int ag), .val (.ref h0.size), .val (.ref T4.heap.size), .val (.ref T6.heap.size), .val (.ref hp7.size), .val (.int (0 : Int32))] [])
    refine own_step (fun _ k => XS.iload X9.here hx rfl (hb hby at_142) rfl k) ?_
    show own_Fin _ _ _ _ _ _ _ T9 (mkF m 144 #[.val (.int p1), .val (.int p2), .val (.int p3), .val (.int p4), .val (.long p5), .second, .val (.long p6), .second, .val (.int (1 : Int32)), .val (.int sm), .val (.int ag), .val (.ref h0.size), .val (.ref T4.heap.size), .val (.ref T6.heap.size), .val (.ref hp7.size), .val (.int (0 : Int32))] [(.int ag)])
    refine own_step (fun _ k => XS.iloadN X9.here hx rfl (hb hby at_144) rfl k) ?_
    show own_Fin _ _ _ _ _ _ _ T9 (mkF m 145 #[.val (.int p1), .val (.int p2), .val (.int p3), .val (.int p4), .val (.long p5), .second, .val (.long p6), .second, .val (.int (1 : Int32)), .val (.int sm), .val (.int ag), .val (.ref h0.size), .val (.ref T4.heap.size), .val (.ref T6.heap.size), .val (.ref hp7.size), .val (.int (0 : Int32))] [(.int p2), (.int ag)])
    by_cases h145 : ag = p2
    · skip
      refine own_step (fun _ k => XS.icmpNo X9.here hx rfl (hb hby at_145) rfl (XT.ii_ne_f h145) k) ?_
      show own_Fin _ _ _ _ _ _ _ T9 (mkF m 148 #[.val (.int p1), .val (.int p2), .val (.int p3), .val (.int p4), .val (.long p5), .second, .val (.long p6), .second, .val (.int (1 : Int32)), .val (.int sm), .val (.int ag), .val (.ref h0.size), .val (.ref T4.heap.size), .val (.ref T6.heap.size), .val (.ref hp7.size), .val (.int (0 : Int32))] [])
      refine own_step (fun _ k => XT.iconstV X9.here hx rfl (1 : Int32) (hb hby at_148) (by decide) k) ?_
      show own_Fin _ _ _ _ _ _ _ T9 (mkF m 149 #[.val (.int p1), .val (.int p2), .val (.int p3), .val (.int p4), .val (.long p5), .second, .val (.long p6), .second, .val (.int (1 : Int32)), .val (.int sm), .val (.int ag), .val (.ref h0.size), .val (.ref T4.heap.size), .val (.ref T6.heap.size), .val (.ref hp7.size), .val (.int (0 : Int32))] [(.int (1 : Int32))])
      refine own_step (fun _ k => XS.istore X9.here hx rfl (hb hby at_149) rfl (l' := #[.val (.int p1), .val (.int p2), .val (.int p3), .val (.int p4), .val (.long p5), .second, .val (.long p6), .second, .val (.int (1 : Int32)), .val (.int sm), .val (.int ag), .val (.ref h0.size), .val (.ref T4.heap.size), .val (.ref T6.heap.size), .val (.ref hp7.size), .val (.int (1 : Int32))]) rfl k) ?_
      show own_Fin _ _ _ _ _ _ _ T9 (mkF m 151 #[.val (.int p1), .val (.int p2), .val (.int p3), .val (.int p4), .val (.long p5), .second, .val (.long p6), .second, .val (.int (1 : Int32)), .val (.int sm), .val (.int ag), .val (.ref h0.size), .val (.ref T4.heap.size), .val (.ref T6.heap.size), .val (.ref hp7.size), .val (.int (1 : Int32))] [])
      refine own_step (fun _ k => XS.aload X9.here hx rfl (hb hby at_151) rfl rfl k) ?_
      show own_Fin _ _ _ _ _ _ _ T9 (mkF m 153 #[.val (.int p1), .val (.int p2), .val (.int p3), .val (.int p4), .val (.long p5), .second, .val (.long p6), .second, .val (.int (1 : Int32)), .val (.int sm), .val (.int ag), .val (.ref h0.size), .val (.ref T4.heap.size), .val (.ref T6.heap.size), .val (.ref hp7.size), .val (.int (1 : Int32))] [(.ref hp7.size)])
      have M := rm10_1 l Z a0 hw T9.heap h0.size hp7.size rr em h0.size ag p2 Pl Pa Pv Rr Sm2 (Nat.ne_of_gt Eem.lt)
      rw [if_pos h145] at M
      refine own_callV X9 hx hZ (b := hp7.size) (argsL := []) (rest := []) hown (hw _ (List.mem_of_getElem? (i := 86) rfl)) (hw _ (List.mem_of_getElem? (i := 87) rfl)) (hw _ (List.mem_of_getElem? (i := 89) rfl)) (hw _ (List.mem_of_getElem? (i := 88) rfl)) (hw _ (List.mem_of_getElem? (i := 90) rfl)) (hw _ (List.mem_of_getElem? (i := 29) rfl)) (by decide) Eo M rfl 0 (Nat.le_of_eq rfl) (by decide) (by decide) (by decide) (by decide) (by rw [hml]; rfl) pd___Z rfl rfl (hb hby at_153) ?_
      rintro T10 _ _ X10 ⟨rfl, rfl, e10⟩
      rw [List.append_nil] at X10
      show own_Fin _ _ _ _ _ _ _ T10 (mkF m 156 #[.val (.int p1), .val (.int p2), .val (.int p3), .val (.int p4), .val (.long p5), .second, .val (.long p6), .second, .val (.int (1 : Int32)), .val (.int sm), .val (.int ag), .val (.ref h0.size), .val (.ref T4.heap.size), .val (.ref T6.heap.size), .val (.ref hp7.size), .val (.int (1 : Int32))] [(.int (1 : Int32))])
      refine own_step (fun _ k => XS.iload X10.here hx rfl (hb hby at_156) rfl k) ?_
      show own_Fin _ _ _ _ _ _ _ T10 (mkF m 158 #[.val (.int p1), .val (.int p2), .val (.int p3), .val (.int p4), .val (.long p5), .second, .val (.long p6), .second, .val (.int (1 : Int32)), .val (.int sm), .val (.int ag), .val (.ref h0.size), .val (.ref T4.heap.size), .val (.ref T6.heap.size), .val (.ref hp7.size), .val (.int (1 : Int32))] [(.int (1 : Int32)), (.int (1 : Int32))])
      refine own_step (fun _ k => XS.icmpNo X10.here hx rfl (hb hby at_158) rfl (XT.ii_ne_f (by decide)) k) ?_
      show own_Fin _ _ _ _ _ _ _ T10 (mkF m 161 #[.val (.int p1), .val (.int p2), .val (.int p3), .val (.int p4), .val (.long p5), .second, .val (.long p6), .second, .val (.int (1 : Int32)), .val (.int sm), .val (.int ag), .val (.ref h0.size), .val (.ref T4.heap.size), .val (.ref T6.heap.size), .val (.ref hp7.size), .val (.int (1 : Int32))] [])
      refine own_step (fun _ k => XT.iconstV X10.here hx rfl (1 : Int32) (hb hby at_161) (by decide) k) ?_
      show own_Fin _ _ _ _ _ _ _ T10 (mkF m 162 #[.val (.int p1), .val (.int p2), .val (.int p3), .val (.int p4), .val (.long p5), .second, .val (.long p6), .second, .val (.int (1 : Int32)), .val (.int sm), .val (.int ag), .val (.ref h0.size), .val (.ref T4.heap.size), .val (.ref T6.heap.size), .val (.ref hp7.size), .val (.int (1 : Int32))] [(.int (1 : Int32))])
      refine own_step (fun _ k => XS.goto X10.here hx rfl (pc0 := 162) (pc' := 166) rfl (hb hby at_162) (by decide) (by decide) k) ?_
      show own_Fin _ _ _ _ _ _ _ T10 (mkF m 166 #[.val (.int p1), .val (.int p2), .val (.int p3), .val (.int p4), .val (.long p5), .second, .val (.long p6), .second, .val (.int (1 : Int32)), .val (.int sm), .val (.int ag), .val (.ref h0.size), .val (.ref T4.heap.size), .val (.ref T6.heap.size), .val (.ref hp7.size), .val (.int (1 : Int32))] [(.int (1 : Int32))])
      exact own_retZ X10 hx hrt hlk (hb hby at_166) (Or.inr rfl) ⟨rfl, N9⟩ (by decide) (by decide)
    · skip
      refine own_step (fun _ k => XS.icmpYes X9.here hx rfl (pc0 := 145) (pc' := 151) rfl (hb hby at_145) rfl (XT.ii_ne_t h145) (by decide) (by decide) k) ?_
      show own_Fin _ _ _ _ _ _ _ T9 (mkF m 151 #[.val (.int p1), .val (.int p2), .val (.int p3), .val (.int p4), .val (.long p5), .second, .val (.long p6), .second, .val (.int (1 : Int32)), .val (.int sm), .val (.int ag), .val (.ref h0.size), .val (.ref T4.heap.size), .val (.ref T6.heap.size), .val (.ref hp7.size), .val (.int (0 : Int32))] [])
      refine own_step (fun _ k => XS.aload X9.here hx rfl (hb hby at_151) rfl rfl k) ?_
      show own_Fin _ _ _ _ _ _ _ T9 (mkF m 153 #[.val (.int p1), .val (.int p2), .val (.int p3), .val (.int p4), .val (.long p5), .second, .val (.long p6), .second, .val (.int (1 : Int32)), .val (.int sm), .val (.int ag), .val (.ref h0.size), .val (.ref T4.heap.size), .val (.ref T6.heap.size), .val (.ref hp7.size), .val (.int (0 : Int32))] [(.ref hp7.size)])
      have M := rm10_1 l Z a0 hw T9.heap h0.size hp7.size rr em h0.size ag p2 Pl Pa Pv Rr Sm2 (Nat.ne_of_gt Eem.lt)
      rw [if_neg h145] at M
      refine own_callV X9 hx hZ (b := hp7.size) (argsL := []) (rest := []) hown (hw _ (List.mem_of_getElem? (i := 86) rfl)) (hw _ (List.mem_of_getElem? (i := 87) rfl)) (hw _ (List.mem_of_getElem? (i := 89) rfl)) (hw _ (List.mem_of_getElem? (i := 88) rfl)) (hw _ (List.mem_of_getElem? (i := 90) rfl)) (hw _ (List.mem_of_getElem? (i := 29) rfl)) (by decide) Eo M rfl 0 (Nat.le_of_eq rfl) (by decide) (by decide) (by decide) (by decide) (by rw [hml]; rfl) pd___Z rfl rfl (hb hby at_153) ?_
      rintro T11 _ _ X11 ⟨rfl, rfl, e11⟩
      rw [List.append_nil] at X11
      show own_Fin _ _ _ _ _ _ _ T11 (mkF m 156 #[.val (.int p1), .val (.int p2), .val (.int p3), .val (.int p4), .val (.long p5), .second, .val (.long p6), .second, .val (.int (1 : Int32)), .val (.int sm), .val (.int ag), .val (.ref h0.size), .val (.ref T4.heap.size), .val (.ref T6.heap.size), .val (.ref hp7.size), .val (.int (0 : Int32))] [(.int (0 : Int32))])
      refine own_step (fun _ k => XS.iload X11.here hx rfl (hb hby at_156) rfl k) ?_
      show own_Fin _ _ _ _ _ _ _ T11 (mkF m 158 #[.val (.int p1), .val (.int p2), .val (.int p3), .val (.int p4), .val (.long p5), .second, .val (.long p6), .second, .val (.int (1 : Int32)), .val (.int sm), .val (.int ag), .val (.ref h0.size), .val (.ref T4.heap.size), .val (.ref T6.heap.size), .val (.ref hp7.size), .val (.int (0 : Int32))] [(.int (0 : Int32)), (.int (0 : Int32))])
      refine own_step (fun _ k => XS.icmpNo X11.here hx rfl (hb hby at_158) rfl (XT.ii_ne_f (by decide)) k) ?_
      show own_Fin _ _ _ _ _ _ _ T11 (mkF m 161 #[.val (.int p1), .val (.int p2), .val (.int p3), .val (.int p4), .val (.long p5), .second, .val (.long p6), .second, .val (.int (1 : Int32)), .val (.int sm), .val (.int ag), .val (.ref h0.size), .val (.ref T4.heap.size), .val (.ref T6.heap.size), .val (.ref hp7.size), .val (.int (0 : Int32))] [])
      refine own_step (fun _ k => XT.iconstV X11.here hx rfl (1 : Int32) (hb hby at_161) (by decide) k) ?_
      show own_Fin _ _ _ _ _ _ _ T11 (mkF m 162 #[.val (.int p1), .val (.int p2), .val (.int p3), .val (.int p4), .val (.long p5), .second, .val (.long p6), .second, .val (.int (1 : Int32)), .val (.int sm), .val (.int ag), .val (.ref h0.size), .val (.ref T4.heap.size), .val (.ref T6.heap.size), .val (.ref hp7.size), .val (.int (0 : Int32))] [(.int (1 : Int32))])
      refine own_step (fun _ k => XS.goto X11.here hx rfl (pc0 := 162) (pc' := 166) rfl (hb hby at_162) (by decide) (by decide) k) ?_
      show own_Fin _ _ _ _ _ _ _ T11 (mkF m 166 #[.val (.int p1), .val (.int p2), .val (.int p3), .val (.int p4), .val (.long p5), .second, .val (.long p6), .second, .val (.int (1 : Int32)), .val (.int sm), .val (.int ag), .val (.ref h0.size), .val (.ref T4.heap.size), .val (.ref T6.heap.size), .val (.ref hp7.size), .val (.int (0 : Int32))] [(.int (1 : Int32))])
      exact own_retZ X11 hx hrt hlk (hb hby at_166) (Or.inr rfl) ⟨rfl, N9⟩ (by decide) (by decide)
  rw [ef_law]
  show own_Fin _ _ _ _ _ _ _ s₁ (mkF m 0 #[.val (.int p1), .val (.int p2), .val (.int p3), .val (.int p4), .val (.long p5), .second, .val (.long p6), .second, .unset, .unset, .unset, .unset, .unset, .unset, .unset, .unset] [])
  refine own_step (fun _ k => XS.iloadN X0.here hx rfl (hb hby at_0) rfl k) ?_
  show own_Fin _ _ _ _ _ _ _ s₁ (mkF m 1 #[.val (.int p1), .val (.int p2), .val (.int p3), .val (.int p4), .val (.long p5), .second, .val (.long p6), .second, .unset, .unset, .unset, .unset, .unset, .unset, .unset, .unset] [(.int p1)])
  refine own_step (fun _ k => XT.iconstV X0.here hx rfl (3 : Int32) (hb hby at_1) (by decide) k) ?_
  show own_Fin _ _ _ _ _ _ _ s₁ (mkF m 2 #[.val (.int p1), .val (.int p2), .val (.int p3), .val (.int p4), .val (.long p5), .second, .val (.long p6), .second, .unset, .unset, .unset, .unset, .unset, .unset, .unset, .unset] [(.int (3 : Int32)), (.int p1)])
  refine own_step (fun _ k => XS.iand X0.here hx rfl (hb hby at_2) rfl k) ?_
  show own_Fin _ _ _ _ _ _ _ s₁ (mkF m 3 #[.val (.int p1), .val (.int p2), .val (.int p3), .val (.int p4), .val (.long p5), .second, .val (.long p6), .second, .unset, .unset, .unset, .unset, .unset, .unset, .unset, .unset] [(.int (p1 &&& (3 : Int32)))])
  rw [hk3]
  show own_Fin _ _ _ _ _ _ _ s₁ (mkF m 3 #[.val (.int p1), .val (.int p2), .val (.int p3), .val (.int p4), .val (.long p5), .second, .val (.long p6), .second, .unset, .unset, .unset, .unset, .unset, .unset, .unset, .unset] [(.int (1 : Int32))])
  refine own_step (fun _ k => XS.istore X0.here hx rfl (hb hby at_3) rfl (l' := #[.val (.int p1), .val (.int p2), .val (.int p3), .val (.int p4), .val (.long p5), .second, .val (.long p6), .second, .val (.int (1 : Int32)), .unset, .unset, .unset, .unset, .unset, .unset, .unset]) rfl k) ?_
  show own_Fin _ _ _ _ _ _ _ s₁ (mkF m 5 #[.val (.int p1), .val (.int p2), .val (.int p3), .val (.int p4), .val (.long p5), .second, .val (.long p6), .second, .val (.int (1 : Int32)), .unset, .unset, .unset, .unset, .unset, .unset, .unset] [])
  refine own_step (fun _ k => XS.iloadN X0.here hx rfl (hb hby at_5) rfl k) ?_
  show own_Fin _ _ _ _ _ _ _ s₁ (mkF m 6 #[.val (.int p1), .val (.int p2), .val (.int p3), .val (.int p4), .val (.long p5), .second, .val (.long p6), .second, .val (.int (1 : Int32)), .unset, .unset, .unset, .unset, .unset, .unset, .unset] [(.int p4)])
  refine own_step (fun _ k => XT.iconstV X0.here hx rfl (1 : Int32) (hb hby at_6) (by decide) k) ?_
  show own_Fin _ _ _ _ _ _ _ s₁ (mkF m 7 #[.val (.int p1), .val (.int p2), .val (.int p3), .val (.int p4), .val (.long p5), .second, .val (.long p6), .second, .val (.int (1 : Int32)), .unset, .unset, .unset, .unset, .unset, .unset, .unset] [(.int (1 : Int32)), (.int p4)])
  refine own_step (fun _ k => XS.iand X0.here hx rfl (hb hby at_7) rfl k) ?_
  show own_Fin _ _ _ _ _ _ _ s₁ (mkF m 8 #[.val (.int p1), .val (.int p2), .val (.int p3), .val (.int p4), .val (.long p5), .second, .val (.long p6), .second, .val (.int (1 : Int32)), .unset, .unset, .unset, .unset, .unset, .unset, .unset] [(.int (p4 &&& (1 : Int32)))])
  by_cases h8 : (p4 &&& (1 : Int32)) = 0
  · skip
    refine own_step (fun _ k => XS.ifYes X0.here hx rfl (pc0 := 8) (pc' := 15) rfl (hb hby at_8) rfl (XT.i0_eq_t h8) (by decide) (by decide) k) ?_
    show own_Fin _ _ _ _ _ _ _ s₁ (mkF m 15 #[.val (.int p1), .val (.int p2), .val (.int p3), .val (.int p4), .val (.long p5), .second, .val (.long p6), .second, .val (.int (1 : Int32)), .unset, .unset, .unset, .unset, .unset, .unset, .unset] [])
    refine own_step (fun _ k => XT.iconstV X0.here hx rfl (0 : Int32) (hb hby at_15) (by decide) k) ?_
    show own_Fin _ _ _ _ _ _ _ s₁ (mkF m 16 #[.val (.int p1), .val (.int p2), .val (.int p3), .val (.int p4), .val (.long p5), .second, .val (.long p6), .second, .val (.int (1 : Int32)), .unset, .unset, .unset, .unset, .unset, .unset, .unset] [(.int (0 : Int32))])
    refine own_step (fun _ k => XS.istore X0.here hx rfl (hb hby at_16) rfl (l' := #[.val (.int p1), .val (.int p2), .val (.int p3), .val (.int p4), .val (.long p5), .second, .val (.long p6), .second, .val (.int (1 : Int32)), .val (.int (0 : Int32)), .unset, .unset, .unset, .unset, .unset, .unset]) rfl k) ?_
    show own_Fin _ _ _ _ _ _ _ s₁ (mkF m 18 #[.val (.int p1), .val (.int p2), .val (.int p3), .val (.int p4), .val (.long p5), .second, .val (.long p6), .second, .val (.int (1 : Int32)), .val (.int (0 : Int32)), .unset, .unset, .unset, .unset, .unset, .unset] [])
    refine own_step (fun _ k => XS.iload X0.here hx rfl (hb hby at_18) rfl k) ?_
    show own_Fin _ _ _ _ _ _ _ s₁ (mkF m 20 #[.val (.int p1), .val (.int p2), .val (.int p3), .val (.int p4), .val (.long p5), .second, .val (.long p6), .second, .val (.int (1 : Int32)), .val (.int (0 : Int32)), .unset, .unset, .unset, .unset, .unset, .unset] [(.int (0 : Int32))])
    refine own_step (fun _ k => XS.ifYes X0.here hx rfl (pc0 := 20) (pc' := 27) rfl (hb hby at_20) rfl (XT.i0_eq_t (by decide)) (by decide) (by decide) k) ?_
    show own_Fin _ _ _ _ _ _ _ s₁ (mkF m 27 #[.val (.int p1), .val (.int p2), .val (.int p3), .val (.int p4), .val (.long p5), .second, .val (.long p6), .second, .val (.int (1 : Int32)), .val (.int (0 : Int32)), .unset, .unset, .unset, .unset, .unset, .unset] [])
    refine own_step (fun _ k => XS.iloadN X0.here hx rfl (hb hby at_27) rfl k) ?_
    show own_Fin _ _ _ _ _ _ _ s₁ (mkF m 28 #[.val (.int p1), .val (.int p2), .val (.int p3), .val (.int p4), .val (.long p5), .second, .val (.long p6), .second, .val (.int (1 : Int32)), .val (.int (0 : Int32)), .unset, .unset, .unset, .unset, .unset, .unset] [(.int p3)])
    exact tail _ _
  · skip
    refine own_step (fun _ k => XS.ifNo X0.here hx rfl (hb hby at_8) rfl (XT.i0_eq_f h8) k) ?_
    show own_Fin _ _ _ _ _ _ _ s₁ (mkF m 11 #[.val (.int p1), .val (.int p2), .val (.int p3), .val (.int p4), .val (.long p5), .second, .val (.long p6), .second, .val (.int (1 : Int32)), .unset, .unset, .unset, .unset, .unset, .unset, .unset] [])
    refine own_step (fun _ k => XT.iconstV X0.here hx rfl (1 : Int32) (hb hby at_11) (by decide) k) ?_
    show own_Fin _ _ _ _ _ _ _ s₁ (mkF m 12 #[.val (.int p1), .val (.int p2), .val (.int p3), .val (.int p4), .val (.long p5), .second, .val (.long p6), .second, .val (.int (1 : Int32)), .unset, .unset, .unset, .unset, .unset, .unset, .unset] [(.int (1 : Int32))])
    refine own_step (fun _ k => XS.goto X0.here hx rfl (pc0 := 12) (pc' := 16) rfl (hb hby at_12) (by decide) (by decide) k) ?_
    show own_Fin _ _ _ _ _ _ _ s₁ (mkF m 16 #[.val (.int p1), .val (.int p2), .val (.int p3), .val (.int p4), .val (.long p5), .second, .val (.long p6), .second, .val (.int (1 : Int32)), .unset, .unset, .unset, .unset, .unset, .unset, .unset] [(.int (1 : Int32))])
    refine own_step (fun _ k => XS.istore X0.here hx rfl (hb hby at_16) rfl (l' := #[.val (.int p1), .val (.int p2), .val (.int p3), .val (.int p4), .val (.long p5), .second, .val (.long p6), .second, .val (.int (1 : Int32)), .val (.int (1 : Int32)), .unset, .unset, .unset, .unset, .unset, .unset]) rfl k) ?_
    show own_Fin _ _ _ _ _ _ _ s₁ (mkF m 18 #[.val (.int p1), .val (.int p2), .val (.int p3), .val (.int p4), .val (.long p5), .second, .val (.long p6), .second, .val (.int (1 : Int32)), .val (.int (1 : Int32)), .unset, .unset, .unset, .unset, .unset, .unset] [])
    refine own_step (fun _ k => XS.iload X0.here hx rfl (hb hby at_18) rfl k) ?_
    show own_Fin _ _ _ _ _ _ _ s₁ (mkF m 20 #[.val (.int p1), .val (.int p2), .val (.int p3), .val (.int p4), .val (.long p5), .second, .val (.long p6), .second, .val (.int (1 : Int32)), .val (.int (1 : Int32)), .unset, .unset, .unset, .unset, .unset, .unset] [(.int (1 : Int32))])
    refine own_step (fun _ k => XS.ifNo X0.here hx rfl (hb hby at_20) rfl (XT.i0_eq_f (by decide)) k) ?_
    show own_Fin _ _ _ _ _ _ _ s₁ (mkF m 23 #[.val (.int p1), .val (.int p2), .val (.int p3), .val (.int p4), .val (.long p5), .second, .val (.long p6), .second, .val (.int (1 : Int32)), .val (.int (1 : Int32)), .unset, .unset, .unset, .unset, .unset, .unset] [])
    refine own_step (fun _ k => XS.iloadN X0.here hx rfl (hb hby at_23) rfl k) ?_
    show own_Fin _ _ _ _ _ _ _ s₁ (mkF m 24 #[.val (.int p1), .val (.int p2), .val (.int p3), .val (.int p4), .val (.long p5), .second, .val (.long p6), .second, .val (.int (1 : Int32)), .val (.int (1 : Int32)), .unset, .unset, .unset, .unset, .unset, .unset] [(.int p2)])
    refine own_step (fun _ k => XS.goto X0.here hx rfl (pc0 := 24) (pc' := 28) rfl (hb hby at_24) (by decide) (by decide) k) ?_
    show own_Fin _ _ _ _ _ _ _ s₁ (mkF m 28 #[.val (.int p1), .val (.int p2), .val (.int p3), .val (.int p4), .val (.long p5), .second, .val (.long p6), .second, .val (.int (1 : Int32)), .val (.int (1 : Int32)), .unset, .unset, .unset, .unset, .unset, .unset] [(.int p2)])
    exact tail _ _
set_option maxRecDepth 65536 in
set_option maxHeartbeats 40000000 in
theorem rm0_2 (l : Launch) (Z : State) (a0 : Array Value) (hw : ∀ d ∈ tables_1, d.before a0 Z = true) (ws : List Jvm.Cond) (h0 : Heap) (p1 p2 p3 p4 : Int32) (p5 p6 : Int64) (df el em mr ca : Addr) (kd : ClassId) (cc : Cell) (Sd : Sta Z h0 "java/util/ArrayList" "DEFAULTCAPACITY_EMPTY_ELEMENTDATA" "[Ljava/lang/Object;" (.ref df)) (Ad : Arv Z h0 df kd (.object "java/lang/Object") 0 [] .null) (Sl : Sta Z h0 "java/util/ImmutableCollections" "EMPTY_LIST" "Ljava/util/ImmutableCollections$ListN;" (.ref el)) (Sm : Sta Z h0 "java/util/ImmutableCollections" "EMPTY" "Ljava/lang/Object;" (.ref em)) (Rl : own_LN Z h0 el 0) (Eem : Exa Z h0 em "java/lang/Object") (Mr : own_Mir Z "[Ljava/lang/Object;" mr) (Sc : Sta Z h0 "java/lang/Long$LongCache" "cache" "[Ljava/lang/Long;" (.ref ca)) (Ac : Arr Z h0 ca cc (.object "java/lang/Long")) (Zc : cc.slots.size = 256) (Hc : ∀ i, i < 256 → ∃ r, cc.slots[i]? = some (.ref r) ∧ Exa Z h0 r "java/lang/Long") (hk3 : (p1 &&& (3 : Int32)) = (2 : Int32)) :
    own_Met l Z x code maxLocals ret ws room_1 #[(.int p1), (.int p2), (.int p3), (.int p4), (.long p5), (.long p6)] h0 (own_Q1 h0.size) := by
  refine own_body (y := x) pn_com_example_libelect_libelect_simulation_OutcomeElectedPinLaw ?_
  intro p e s m below meth c s₁ hx hby hml hZ hown hnm hrt hlk X0 e0
  replace hown : s.vm.findClass "com/example/libelect/libelect/simulation/OutcomeElectedPinLaw" = some m.cls := hown
  replace hml : c.maxLocals = 16 := hml
  have N0 := Fr.nil h0.size
  have tail : ∀ (sm ag : Int32), own_Fin p e s below room_1.cells room_1.slots (own_Q1 h0.size) s₁ (mkF m 28 #[.val (.int p1), .val (.int p2), .val (.int p3), .val (.int p4), .val (.long p5), .second, .val (.long p6), .second, .val (.int (2 : Int32)), .val (.int sm), .unset, .unset, .unset, .unset, .unset, .unset] [(.int ag)]) := by
    intro sm ag
    have EH := own_ext_refl h0
    show own_Fin _ _ _ _ _ _ _ s₁ (mkF m 28 #[.val (.int p1), .val (.int p2), .val (.int p3), .val (.int p4), .val (.long p5), .second, .val (.long p6), .second, .val (.int (2 : Int32)), .val (.int sm), .unset, .unset, .unset, .unset, .unset, .unset] [(.int ag)])
    refine own_step (fun _ k => XS.istore X0.here hx rfl (hb hby at_28) rfl (l' := #[.val (.int p1), .val (.int p2), .val (.int p3), .val (.int p4), .val (.long p5), .second, .val (.long p6), .second, .val (.int (2 : Int32)), .val (.int sm), .val (.int ag), .unset, .unset, .unset, .unset, .unset]) rfl k) ?_
    show own_Fin _ _ _ _ _ _ _ s₁ (mkF m 30 #[.val (.int p1), .val (.int p2), .val (.int p3), .val (.int p4), .val (.long p5), .second, .val (.long p6), .second, .val (.int (2 : Int32)), .val (.int sm), .val (.int ag), .unset, .unset, .unset, .unset, .unset] [])
    refine own_newO X0 hx hZ hown (hw _ (List.mem_of_getElem? (i := 0) rfl)) (hw _ (List.mem_of_getElem? (i := 1) rfl)) (hw _ (List.mem_of_getElem? (i := 2) rfl)) e0 (by decide) (by decide) (hb hby at_30) ?_
    intro T1 hp1 X1 e1 E1 A1 D1
    have Fm1 := D1 (O := "java/util/AbstractList") (nm := "modCount") (d := "I") (Or.inl (hw _ (List.mem_of_getElem? (i := 22) rfl))) pf_I
    have Fs1 := D1 (O := "java/util/ArrayList") (nm := "size") (d := "I") (Or.inl (hw _ (List.mem_of_getElem? (i := 62) rfl))) pf_I
    have Fe1 := D1 (O := "java/util/ArrayList") (nm := "elementData") (d := "[Ljava/lang/Object;") (Or.inl (hw _ (List.mem_of_getElem? (i := 25) rfl))) pf__Ljava_lang_Object_
    have ge1 : h0.size ≤ h0.size := EH.1
    replace EH := own_ext_trans EH E1
    show own_Fin _ _ _ _ _ _ _ T1 (mkF m 33 #[.val (.int p1), .val (.int p2), .val (.int p3), .val (.int p4), .val (.long p5), .second, .val (.long p6), .second, .val (.int (2 : Int32)), .val (.int sm), .val (.int ag), .unset, .unset, .unset, .unset, .unset] [(.ref h0.size)])
    refine own_step (fun _ k => XS.dup X1.here hx rfl (hb hby at_33) rfl rfl k) ?_
    show own_Fin _ _ _ _ _ _ _ T1 (mkF m 34 #[.val (.int p1), .val (.int p2), .val (.int p3), .val (.int p4), .val (.long p5), .second, .val (.long p6), .second, .val (.int (2 : Int32)), .val (.int sm), .val (.int ag), .unset, .unset, .unset, .unset, .unset] [(.ref h0.size), (.ref h0.size)])
    refine own_callN X1 hx hZ (b := h0.size) (argsL := []) (rest := [(.ref h0.size)]) rfl hown (hw _ (List.mem_of_getElem? (i := 3) rfl)) (hw _ (List.mem_of_getElem? (i := 4) rfl)) (hw _ (List.mem_of_getElem? (i := 5) rfl)) (hw _ (List.mem_of_getElem? (i := 2) rfl)) (by decide) (rm1 l Z a0 hw hp1 h0.size h0.size df _ _ Fm1 Fs1 Fe1 A1 (Sd.ext EH) ge1) e1 1 (Nat.le_of_eq rfl) (by decide) (by decide) (by decide) (by decide) (by rw [hml]; rfl) pd___V rfl rfl (hb hby at_34) ?_
    rintro T2 L2 _ X2 ⟨rfl, F2, K2, La2⟩
    have N2 := Fr.app N0 F2
    replace EH := own_ext_keep EH K2 (allS ge1 all0)
    have La := La2
    show own_Fin _ _ _ _ _ _ _ T2 (mkF m 37 #[.val (.int p1), .val (.int p2), .val (.int p3), .val (.int p4), .val (.long p5), .second, .val (.long p6), .second, .val (.int (2 : Int32)), .val (.int sm), .val (.int ag), .unset, .unset, .unset, .unset, .unset] [(.ref h0.size)])
    refine own_step (fun _ k => XS.astore X2.here hx rfl (hb hby at_37) rfl rfl (l' := #[.val (.int p1), .val (.int p2), .val (.int p3), .val (.int p4), .val (.long p5), .second, .val (.long p6), .second, .val (.int (2 : Int32)), .val (.int sm), .val (.int ag), .val (.ref h0.size), .unset, .unset, .unset, .unset]) rfl k) ?_
    show own_Fin _ _ _ _ _ _ _ T2 (mkF m 39 #[.val (.int p1), .val (.int p2), .val (.int p3), .val (.int p4), .val (.long p5), .second, .val (.long p6), .second, .val (.int (2 : Int32)), .val (.int sm), .val (.int ag), .val (.ref h0.size), .unset, .unset, .unset, .unset] [])
    refine own_step (fun _ k => XS.iload X2.here hx rfl (hb hby at_39) rfl k) ?_
    show own_Fin _ _ _ _ _ _ _ T2 (mkF m 41 #[.val (.int p1), .val (.int p2), .val (.int p3), .val (.int p4), .val (.long p5), .second, .val (.long p6), .second, .val (.int (2 : Int32)), .val (.int sm), .val (.int ag), .val (.ref h0.size), .unset, .unset, .unset, .unset] [(.int (2 : Int32))])
    refine own_step (fun _ k => XT.iconstV X2.here hx rfl (1 : Int32) (hb hby at_41) (by decide) k) ?_
    show own_Fin _ _ _ _ _ _ _ T2 (mkF m 42 #[.val (.int p1), .val (.int p2), .val (.int p3), .val (.int p4), .val (.long p5), .second, .val (.long p6), .second, .val (.int (2 : Int32)), .val (.int sm), .val (.int ag), .val (.ref h0.size), .unset, .unset, .unset, .unset] [(.int (1 : Int32)), (.int (2 : Int32))])
    refine own_step (fun _ k => XS.icmpNo X2.here hx rfl (hb hby at_42) rfl (XT.ii_lt_f (by decide)) k) ?_
    show own_Fin _ _ _ _ _ _ _ T2 (mkF m 45 #[.val (.int p1), .val (.int p2), .val (.int p3), .val (.int p4), .val (.long p5), .second, .val (.long p6), .second, .val (.int (2 : Int32)), .val (.int sm), .val (.int ag), .val (.ref h0.size), .unset, .unset, .unset, .unset] [])
    refine own_step (fun _ k => XS.aload X2.here hx rfl (hb hby at_45) rfl rfl k) ?_
    show own_Fin _ _ _ _ _ _ _ T2 (mkF m 47 #[.val (.int p1), .val (.int p2), .val (.int p3), .val (.int p4), .val (.long p5), .second, .val (.long p6), .second, .val (.int (2 : Int32)), .val (.int sm), .val (.int ag), .val (.ref h0.size), .unset, .unset, .unset, .unset] [(.ref h0.size)])
    refine own_step (fun _ k => XT.lload X2.here hx rfl (hb hby at_47) rfl k) ?_
    show own_Fin _ _ _ _ _ _ _ T2 (mkF m 49 #[.val (.int p1), .val (.int p2), .val (.int p3), .val (.int p4), .val (.long p5), .second, .val (.long p6), .second, .val (.int (2 : Int32)), .val (.int sm), .val (.int ag), .val (.ref h0.size), .unset, .unset, .unset, .unset] [(.long p5), (.ref h0.size)])
    refine own_callS X2 hx hZ (argsL := [(.long p5)]) (rest := [(.ref h0.size)]) hown (hw _ (List.mem_of_getElem? (i := 103) rfl)) (hw _ (List.mem_of_getElem? (i := 104) rfl)) (hw _ (List.mem_of_getElem? (i := 105) rfl)) (hw _ (List.mem_of_getElem? (i := 106) rfl)) (by decide) (rm12 l Z a0 hw T2.heap h0.size p5 ca cc (Sc.ext EH) (Ac.ext EH) Zc (fun i hi => by obtain ⟨r, u1, u2⟩ := Hc i hi; exact ⟨r, u1, u2.ext EH⟩) EH.1) rfl 1 (Nat.le_of_eq rfl) (by decide) (by decide) (by decide) (by decide) (by rw [hml]; rfl) pd__J_Ljava_lang_Long_ rfl rfl (hb hby at_49) ?_
    rintro T3 L3 _ X3 ⟨r1, rfl, F3, E3, Er1⟩
    have N3 := Fr.app N2 F3
    replace EH := own_ext_trans EH E3
    replace La := La.ext E3
    show own_Fin _ _ _ _ _ _ _ T3 (mkF m 52 #[.val (.int p1), .val (.int p2), .val (.int p3), .val (.int p4), .val (.long p5), .second, .val (.long p6), .second, .val (.int (2 : Int32)), .val (.int sm), .val (.int ag), .val (.ref h0.size), .unset, .unset, .unset, .unset] [(.ref r1), (.ref h0.size)])
    have dne : df ≠ h0.size := Nat.ne_of_lt Ad.lt
    refine own_callV X3 hx hZ (b := h0.size) (argsL := [(.ref r1)]) (rest := []) hown (hw _ (List.mem_of_getElem? (i := 111) rfl)) (hw _ (List.mem_of_getElem? (i := 112) rfl)) (hw _ (List.mem_of_getElem? (i := 114) rfl)) (hw _ (List.mem_of_getElem? (i := 113) rfl)) (hw _ (List.mem_of_getElem? (i := 115) rfl)) (hw _ (List.mem_of_getElem? (i := 2) rfl)) (by decide) La.1 (rm13_0 l Z a0 hw T3.heap h0.size h0.size df kd r1 La (Sd.ext EH) (Ad.ext EH) (Nat.le_refl _) EH.1 Er1) rfl 0 (Nat.le_of_eq rfl) (by decide) (by decide) (by decide) (by decide) (by rw [hml]; rfl) pd__Ljava_lang_Object__Z rfl rfl (hb hby at_52) ?_
    have hlt : h0.size < T3.heap.size := La.1.lt
    rintro T4 L4 _ X4 ⟨ar, ka, rfl, F4, gr, K4, La4, Aa, Oa, Ba⟩
    have gar : h0.size ≤ ar := Nat.le_trans (Nat.le_of_lt hlt) gr
    have nar : ar ≠ h0.size := Nat.ne_of_gt (Nat.lt_of_lt_of_le hlt gr)
    have N4 := Fr.app N3 F4
    replace EH := own_ext_keep EH K4 (allS (Nat.le_refl _) all0)
    replace Er1 := Er1.keep K4
    replace La := La4
    show own_Fin _ _ _ _ _ _ _ T4 (mkF m 55 #[.val (.int p1), .val (.int p2), .val (.int p3), .val (.int p4), .val (.long p5), .second, .val (.long p6), .second, .val (.int (2 : Int32)), .val (.int sm), .val (.int ag), .val (.ref h0.size), .unset, .unset, .unset, .unset] [(.int (1 : Int32))])
    refine own_step (fun _ k => XT.pop X4.here hx rfl (hb hby at_55) rfl rfl k) ?_
    show own_Fin _ _ _ _ _ _ _ T4 (mkF m 56 #[.val (.int p1), .val (.int p2), .val (.int p3), .val (.int p4), .val (.long p5), .second, .val (.long p6), .second, .val (.int (2 : Int32)), .val (.int sm), .val (.int ag), .val (.ref h0.size), .unset, .unset, .unset, .unset] [])
    refine own_step (fun _ k => XS.iload X4.here hx rfl (hb hby at_56) rfl k) ?_
    show own_Fin _ _ _ _ _ _ _ T4 (mkF m 58 #[.val (.int p1), .val (.int p2), .val (.int p3), .val (.int p4), .val (.long p5), .second, .val (.long p6), .second, .val (.int (2 : Int32)), .val (.int sm), .val (.int ag), .val (.ref h0.size), .unset, .unset, .unset, .unset] [(.int (2 : Int32))])
    refine own_step (fun _ k => XT.iconstV X4.here hx rfl (2 : Int32) (hb hby at_58) (by decide) k) ?_
    show own_Fin _ _ _ _ _ _ _ T4 (mkF m 59 #[.val (.int p1), .val (.int p2), .val (.int p3), .val (.int p4), .val (.long p5), .second, .val (.long p6), .second, .val (.int (2 : Int32)), .val (.int sm), .val (.int ag), .val (.ref h0.size), .unset, .unset, .unset, .unset] [(.int (2 : Int32)), (.int (2 : Int32))])
    refine own_step (fun _ k => XS.icmpNo X4.here hx rfl (hb hby at_59) rfl (XT.ii_lt_f (by decide)) k) ?_
    show own_Fin _ _ _ _ _ _ _ T4 (mkF m 62 #[.val (.int p1), .val (.int p2), .val (.int p3), .val (.int p4), .val (.long p5), .second, .val (.long p6), .second, .val (.int (2 : Int32)), .val (.int sm), .val (.int ag), .val (.ref h0.size), .unset, .unset, .unset, .unset] [])
    refine own_step (fun _ k => XS.aload X4.here hx rfl (hb hby at_62) rfl rfl k) ?_
    show own_Fin _ _ _ _ _ _ _ T4 (mkF m 64 #[.val (.int p1), .val (.int p2), .val (.int p3), .val (.int p4), .val (.long p5), .second, .val (.long p6), .second, .val (.int (2 : Int32)), .val (.int sm), .val (.int ag), .val (.ref h0.size), .unset, .unset, .unset, .unset] [(.ref h0.size)])
    refine own_step (fun _ k => XT.lload X4.here hx rfl (hb hby at_64) rfl k) ?_
    show own_Fin _ _ _ _ _ _ _ T4 (mkF m 66 #[.val (.int p1), .val (.int p2), .val (.int p3), .val (.int p4), .val (.long p5), .second, .val (.long p6), .second, .val (.int (2 : Int32)), .val (.int sm), .val (.int ag), .val (.ref h0.size), .unset, .unset, .unset, .unset] [(.long p5), (.ref h0.size)])
    refine own_step (fun _ k => XT.lconstV X4.here hx rfl (1 : Int64) (hb hby at_66) (by decide) k) ?_
    show own_Fin _ _ _ _ _ _ _ T4 (mkF m 67 #[.val (.int p1), .val (.int p2), .val (.int p3), .val (.int p4), .val (.long p5), .second, .val (.long p6), .second, .val (.int (2 : Int32)), .val (.int sm), .val (.int ag), .val (.ref h0.size), .unset, .unset, .unset, .unset] [(.long (1 : Int64)), (.long p5), (.ref h0.size)])
    refine own_step (fun _ k => XT.ladd X4.here hx rfl (hb hby at_67) rfl k) ?_
    show own_Fin _ _ _ _ _ _ _ T4 (mkF m 68 #[.val (.int p1), .val (.int p2), .val (.int p3), .val (.int p4), .val (.long p5), .second, .val (.long p6), .second, .val (.int (2 : Int32)), .val (.int sm), .val (.int ag), .val (.ref h0.size), .unset, .unset, .unset, .unset] [(.long (p5 + (1 : Int64))), (.ref h0.size)])
    refine own_callS X4 hx hZ (argsL := [(.long (p5 + (1 : Int64)))]) (rest := [(.ref h0.size)]) hown (hw _ (List.mem_of_getElem? (i := 103) rfl)) (hw _ (List.mem_of_getElem? (i := 104) rfl)) (hw _ (List.mem_of_getElem? (i := 105) rfl)) (hw _ (List.mem_of_getElem? (i := 106) rfl)) (by decide) (rm12 l Z a0 hw T4.heap h0.size (p5 + (1 : Int64)) ca cc (Sc.ext EH) (Ac.ext EH) Zc (fun i hi => by obtain ⟨r, u1, u2⟩ := Hc i hi; exact ⟨r, u1, u2.ext EH⟩) EH.1) rfl 1 (Nat.le_of_eq rfl) (by decide) (by decide) (by decide) (by decide) (by rw [hml]; rfl) pd__J_Ljava_lang_Long_ rfl rfl (hb hby at_68) ?_
    rintro T5 L5 _ X5 ⟨r2, rfl, F5, E5, Er2⟩
    have N5 := Fr.app N4 F5
    replace EH := own_ext_trans EH E5
    replace Er1 := Er1.ext E5
    replace La := La.ext E5
    replace Aa := Aa.ext E5
    replace Ba := Ba.ext E5
    show own_Fin _ _ _ _ _ _ _ T5 (mkF m 71 #[.val (.int p1), .val (.int p2), .val (.int p3), .val (.int p4), .val (.long p5), .second, .val (.long p6), .second, .val (.int (2 : Int32)), .val (.int sm), .val (.int ag), .val (.ref h0.size), .unset, .unset, .unset, .unset] [(.ref r2), (.ref h0.size)])
    refine own_callV X5 hx hZ (b := h0.size) (argsL := [(.ref r2)]) (rest := []) hown (hw _ (List.mem_of_getElem? (i := 111) rfl)) (hw _ (List.mem_of_getElem? (i := 112) rfl)) (hw _ (List.mem_of_getElem? (i := 114) rfl)) (hw _ (List.mem_of_getElem? (i := 113) rfl)) (hw _ (List.mem_of_getElem? (i := 115) rfl)) (hw _ (List.mem_of_getElem? (i := 2) rfl)) (by decide) La.1 (rm13_1 l Z a0 hw T5.heap h0.size h0.size ar ka r1 r2 La Aa Oa Ba (Nat.le_refl _) gar nar Er2) rfl 0 (Nat.le_of_eq rfl) (by decide) (by decide) (by decide) (by decide) (by rw [hml]; rfl) pd__Ljava_lang_Object__Z rfl rfl (hb hby at_71) ?_
    rintro T6 L6 _ X6 ⟨rfl, F6, K6, La6, Aa6⟩
    have N6 := Fr.app N5 F6
    replace EH := own_ext_keep EH K6 (allS (Nat.le_refl _) (allS gar all0))
    replace Er1 := Er1.keep K6
    replace Ba := Ba.keep K6
    replace Er2 := Er2.keep K6
    replace La := La6
    replace Aa := Aa6
    show own_Fin _ _ _ _ _ _ _ T6 (mkF m 74 #[.val (.int p1), .val (.int p2), .val (.int p3), .val (.int p4), .val (.long p5), .second, .val (.long p6), .second, .val (.int (2 : Int32)), .val (.int sm), .val (.int ag), .val (.ref h0.size), .unset, .unset, .unset, .unset] [(.int (1 : Int32))])
    refine own_step (fun _ k => XT.pop X6.here hx rfl (hb hby at_74) rfl rfl k) ?_
    show own_Fin _ _ _ _ _ _ _ T6 (mkF m 75 #[.val (.int p1), .val (.int p2), .val (.int p3), .val (.int p4), .val (.long p5), .second, .val (.long p6), .second, .val (.int (2 : Int32)), .val (.int sm), .val (.int ag), .val (.ref h0.size), .unset, .unset, .unset, .unset] [])
    refine own_step (fun _ k => XS.iload X6.here hx rfl (hb hby at_75) rfl k) ?_
    show own_Fin _ _ _ _ _ _ _ T6 (mkF m 77 #[.val (.int p1), .val (.int p2), .val (.int p3), .val (.int p4), .val (.long p5), .second, .val (.long p6), .second, .val (.int (2 : Int32)), .val (.int sm), .val (.int ag), .val (.ref h0.size), .unset, .unset, .unset, .unset] [(.int (2 : Int32))])
    refine own_step (fun _ k => XT.iconstV X6.here hx rfl (3 : Int32) (hb hby at_77) (by decide) k) ?_
    show own_Fin _ _ _ _ _ _ _ T6 (mkF m 78 #[.val (.int p1), .val (.int p2), .val (.int p3), .val (.int p4), .val (.long p5), .second, .val (.long p6), .second, .val (.int (2 : Int32)), .val (.int sm), .val (.int ag), .val (.ref h0.size), .unset, .unset, .unset, .unset] [(.int (3 : Int32)), (.int (2 : Int32))])
    refine own_step (fun _ k => XS.icmpYes X6.here hx rfl (pc0 := 78) (pc' := 96) rfl (hb hby at_78) rfl (XT.ii_lt_t (by decide)) (by decide) (by decide) k) ?_
    show own_Fin _ _ _ _ _ _ _ T6 (mkF m 96 #[.val (.int p1), .val (.int p2), .val (.int p3), .val (.int p4), .val (.long p5), .second, .val (.long p6), .second, .val (.int (2 : Int32)), .val (.int sm), .val (.int ag), .val (.ref h0.size), .unset, .unset, .unset, .unset] [])
    refine own_newO X6 hx hZ hown (hw _ (List.mem_of_getElem? (i := 0) rfl)) (hw _ (List.mem_of_getElem? (i := 1) rfl)) (hw _ (List.mem_of_getElem? (i := 2) rfl)) rfl (by decide) (by decide) (hb hby at_96) ?_
    intro T7 hp7 X7 e7 E7 A7 D7
    have Fm7 := D7 (O := "java/util/AbstractList") (nm := "modCount") (d := "I") (Or.inl (hw _ (List.mem_of_getElem? (i := 22) rfl))) pf_I
    have Fs7 := D7 (O := "java/util/ArrayList") (nm := "size") (d := "I") (Or.inl (hw _ (List.mem_of_getElem? (i := 62) rfl))) pf_I
    have Fe7 := D7 (O := "java/util/ArrayList") (nm := "elementData") (d := "[Ljava/lang/Object;") (Or.inl (hw _ (List.mem_of_getElem? (i := 25) rfl))) pf__Ljava_lang_Object_
    have ge2 : h0.size ≤ T6.heap.size := EH.1
    have ne12 : h0.size ≠ T6.heap.size := Nat.ne_of_lt La.1.lt
    have neA2 : ar ≠ T6.heap.size := Nat.ne_of_lt Aa.lt
    replace EH := own_ext_trans EH E7
    replace Er1 := Er1.ext E7
    replace Er2 := Er2.ext E7
    replace La := La.ext E7
    replace Aa := Aa.ext E7
    replace Ba := Ba.ext E7
    show own_Fin _ _ _ _ _ _ _ T7 (mkF m 99 #[.val (.int p1), .val (.int p2), .val (.int p3), .val (.int p4), .val (.long p5), .second, .val (.long p6), .second, .val (.int (2 : Int32)), .val (.int sm), .val (.int ag), .val (.ref h0.size), .unset, .unset, .unset, .unset] [(.ref T6.heap.size)])
    refine own_step (fun _ k => XS.dup X7.here hx rfl (hb hby at_99) rfl rfl k) ?_
    show own_Fin _ _ _ _ _ _ _ T7 (mkF m 100 #[.val (.int p1), .val (.int p2), .val (.int p3), .val (.int p4), .val (.long p5), .second, .val (.long p6), .second, .val (.int (2 : Int32)), .val (.int sm), .val (.int ag), .val (.ref h0.size), .unset, .unset, .unset, .unset] [(.ref T6.heap.size), (.ref T6.heap.size)])
    refine own_callN X7 hx hZ (b := T6.heap.size) (argsL := []) (rest := [(.ref T6.heap.size)]) rfl hown (hw _ (List.mem_of_getElem? (i := 3) rfl)) (hw _ (List.mem_of_getElem? (i := 4) rfl)) (hw _ (List.mem_of_getElem? (i := 5) rfl)) (hw _ (List.mem_of_getElem? (i := 2) rfl)) (by decide) (rm1 l Z a0 hw hp7 h0.size T6.heap.size df _ _ Fm7 Fs7 Fe7 A7 (Sd.ext EH) ge2) e7 1 (Nat.le_of_eq rfl) (by decide) (by decide) (by decide) (by decide) (by rw [hml]; rfl) pd___V rfl rfl (hb hby at_100) ?_
    rintro T8 L8 _ X8 ⟨rfl, F8, K8, La8⟩
    have N8 := Fr.app N6 F8
    replace EH := own_ext_keep EH K8 (allS ge2 all0)
    replace Er1 := Er1.keep K8
    replace Er2 := Er2.keep K8
    replace La := La.keep K8 (ninS ne12 nin0)
    replace Aa := Aa.keep K8 (ninS neA2 nin0)
    replace Ba := Ba.keep K8
    have Lb := La8
    show own_Fin _ _ _ _ _ _ _ T8 (mkF m 103 #[.val (.int p1), .val (.int p2), .val (.int p3), .val (.int p4), .val (.long p5), .second, .val (.long p6), .second, .val (.int (2 : Int32)), .val (.int sm), .val (.int ag), .val (.ref h0.size), .unset, .unset, .unset, .unset] [(.ref T6.heap.size)])
    refine own_step (fun _ k => XS.astore X8.here hx rfl (hb hby at_103) rfl rfl (l' := #[.val (.int p1), .val (.int p2), .val (.int p3), .val (.int p4), .val (.long p5), .second, .val (.long p6), .second, .val (.int (2 : Int32)), .val (.int sm), .val (.int ag), .val (.ref h0.size), .val (.ref T6.heap.size), .unset, .unset, .unset]) rfl k) ?_
    show own_Fin _ _ _ _ _ _ _ T8 (mkF m 105 #[.val (.int p1), .val (.int p2), .val (.int p3), .val (.int p4), .val (.long p5), .second, .val (.long p6), .second, .val (.int (2 : Int32)), .val (.int sm), .val (.int ag), .val (.ref h0.size), .val (.ref T6.heap.size), .unset, .unset, .unset] [])
    refine own_step (fun _ k => XT.iconstV X8.here hx rfl (0 : Int32) (hb hby at_105) (by decide) k) ?_
    show own_Fin _ _ _ _ _ _ _ T8 (mkF m 106 #[.val (.int p1), .val (.int p2), .val (.int p3), .val (.int p4), .val (.long p5), .second, .val (.long p6), .second, .val (.int (2 : Int32)), .val (.int sm), .val (.int ag), .val (.ref h0.size), .val (.ref T6.heap.size), .unset, .unset, .unset] [(.int (0 : Int32))])
    refine own_newPE X8 hx hZ (aty := .long) (hw _ (List.mem_of_getElem? (i := 26) rfl)) rfl 0 (by decide) (by decide) (by decide) (by decide) (by decide) (ad := "[J") (by decide +kernel) (hb hby at_106) ?_
    intro T9 hp9 km X9 e9 E9 Am Bm
    replace EH := own_ext_trans EH E9
    replace Er1 := Er1.ext E9
    replace Er2 := Er2.ext E9
    replace La := La.ext E9
    replace Aa := Aa.ext E9
    replace Ba := Ba.ext E9
    replace Lb := Lb.ext E9
    show own_Fin _ _ _ _ _ _ _ T9 (mkF m 108 #[.val (.int p1), .val (.int p2), .val (.int p3), .val (.int p4), .val (.long p5), .second, .val (.long p6), .second, .val (.int (2 : Int32)), .val (.int sm), .val (.int ag), .val (.ref h0.size), .val (.ref T6.heap.size), .unset, .unset, .unset] [(.ref T8.heap.size)])
    refine own_step (fun _ k => XS.astore X9.here hx rfl (hb hby at_108) rfl rfl (l' := #[.val (.int p1), .val (.int p2), .val (.int p3), .val (.int p4), .val (.long p5), .second, .val (.long p6), .second, .val (.int (2 : Int32)), .val (.int sm), .val (.int ag), .val (.ref h0.size), .val (.ref T6.heap.size), .val (.ref T8.heap.size), .unset, .unset]) rfl k) ?_
    show own_Fin _ _ _ _ _ _ _ T9 (mkF m 110 #[.val (.int p1), .val (.int p2), .val (.int p3), .val (.int p4), .val (.long p5), .second, .val (.long p6), .second, .val (.int (2 : Int32)), .val (.int sm), .val (.int ag), .val (.ref h0.size), .val (.ref T6.heap.size), .val (.ref T8.heap.size), .unset, .unset] [])
    refine own_newO X9 hx hZ hown (hw _ (List.mem_of_getElem? (i := 27) rfl)) (hw _ (List.mem_of_getElem? (i := 28) rfl)) (hw _ (List.mem_of_getElem? (i := 29) rfl)) e9 (by decide) (by decide) (hb hby at_110) ?_
    intro T10 hp10 X10 e10 E10 A10 D10
    have P_nodes10 := D10 (O := "com/example/libelect/libelect/simulation/Outcome") (nm := "nodes") (d := "I") (Or.inr (hw _ (List.mem_of_getElem? (i := 35) rfl))) pf_I
    have P_live10 := D10 (O := "com/example/libelect/libelect/simulation/Outcome") (nm := "live") (d := "I") (Or.inr (hw _ (List.mem_of_getElem? (i := 37) rfl))) pf_I
    have P_leaders10 := D10 (O := "com/example/libelect/libelect/simulation/Outcome") (nm := "leaders") (d := "Ljava/util/List;") (Or.inr (hw _ (List.mem_of_getElem? (i := 68) rfl))) pf_Ljava_util_List_
    have P_agreed10 := D10 (O := "com/example/libelect/libelect/simulation/Outcome") (nm := "agreed") (d := "I") (Or.inr (hw _ (List.mem_of_getElem? (i := 70) rfl))) pf_I
    have P_messageKinds10 := D10 (O := "com/example/libelect/libelect/simulation/Outcome") (nm := "messageKinds") (d := "Ljava/util/List;") (Or.inr (hw _ (List.mem_of_getElem? (i := 72) rfl))) pf_Ljava_util_List_
    have P_messages10 := D10 (O := "com/example/libelect/libelect/simulation/Outcome") (nm := "messages") (d := "[J") (Or.inr (hw _ (List.mem_of_getElem? (i := 83) rfl))) pf__J
    have P_time10 := D10 (O := "com/example/libelect/libelect/simulation/Outcome") (nm := "time") (d := "J") (Or.inr (hw _ (List.mem_of_getElem? (i := 85) rfl))) pf_J
    have geo : h0.size ≤ hp9.size := EH.1
    replace EH := own_ext_trans EH E10
    replace Er1 := Er1.ext E10
    replace Er2 := Er2.ext E10
    replace La := La.ext E10
    replace Aa := Aa.ext E10
    replace Ba := Ba.ext E10
    replace Lb := Lb.ext E10
    replace Am := Am.ext E10
    replace Bm := Bm.ext E10
    show own_Fin _ _ _ _ _ _ _ T10 (mkF m 113 #[.val (.int p1), .val (.int p2), .val (.int p3), .val (.int p4), .val (.long p5), .second, .val (.long p6), .second, .val (.int (2 : Int32)), .val (.int sm), .val (.int ag), .val (.ref h0.size), .val (.ref T6.heap.size), .val (.ref T8.heap.size), .unset, .unset] [(.ref hp9.size)])
    refine own_step (fun _ k => XS.dup X10.here hx rfl (hb hby at_113) rfl rfl k) ?_
    show own_Fin _ _ _ _ _ _ _ T10 (mkF m 114 #[.val (.int p1), .val (.int p2), .val (.int p3), .val (.int p4), .val (.long p5), .second, .val (.long p6), .second, .val (.int (2 : Int32)), .val (.int sm), .val (.int ag), .val (.ref h0.size), .val (.ref T6.heap.size), .val (.ref T8.heap.size), .unset, .unset] [(.ref hp9.size), (.ref hp9.size)])
    refine own_step (fun _ k => XS.iloadN X10.here hx rfl (hb hby at_114) rfl k) ?_
    show own_Fin _ _ _ _ _ _ _ T10 (mkF m 115 #[.val (.int p1), .val (.int p2), .val (.int p3), .val (.int p4), .val (.long p5), .second, .val (.long p6), .second, .val (.int (2 : Int32)), .val (.int sm), .val (.int ag), .val (.ref h0.size), .val (.ref T6.heap.size), .val (.ref T8.heap.size), .unset, .unset] [(.int p4), (.ref hp9.size), (.ref hp9.size)])
    refine own_step (fun _ k => XT.iconstV X10.here hx rfl (1 : Int32) (hb hby at_115) (by decide) k) ?_
    show own_Fin _ _ _ _ _ _ _ T10 (mkF m 116 #[.val (.int p1), .val (.int p2), .val (.int p3), .val (.int p4), .val (.long p5), .second, .val (.long p6), .second, .val (.int (2 : Int32)), .val (.int sm), .val (.int ag), .val (.ref h0.size), .val (.ref T6.heap.size), .val (.ref T8.heap.size), .unset, .unset] [(.int (1 : Int32)), (.int p4), (.ref hp9.size), (.ref hp9.size)])
    refine own_step (fun _ k => XT.ishr X10.here hx rfl (hb hby at_116) rfl k) ?_
    show own_Fin _ _ _ _ _ _ _ T10 (mkF m 117 #[.val (.int p1), .val (.int p2), .val (.int p3), .val (.int p4), .val (.long p5), .second, .val (.long p6), .second, .val (.int (2 : Int32)), .val (.int sm), .val (.int ag), .val (.ref h0.size), .val (.ref T6.heap.size), .val (.ref T8.heap.size), .unset, .unset] [(.int (p4 >>> ((1 : Int32) &&& 31))), (.ref hp9.size), (.ref hp9.size)])
    refine own_step (fun _ k => XS.iloadN X10.here hx rfl (hb hby at_117) rfl k) ?_
    show own_Fin _ _ _ _ _ _ _ T10 (mkF m 118 #[.val (.int p1), .val (.int p2), .val (.int p3), .val (.int p4), .val (.long p5), .second, .val (.long p6), .second, .val (.int (2 : Int32)), .val (.int sm), .val (.int ag), .val (.ref h0.size), .val (.ref T6.heap.size), .val (.ref T8.heap.size), .unset, .unset] [(.int p2), (.int (p4 >>> ((1 : Int32) &&& 31))), (.ref hp9.size), (.ref hp9.size)])
    refine own_step (fun _ k => XS.aload X10.here hx rfl (hb hby at_118) rfl rfl k) ?_
    show own_Fin _ _ _ _ _ _ _ T10 (mkF m 120 #[.val (.int p1), .val (.int p2), .val (.int p3), .val (.int p4), .val (.long p5), .second, .val (.long p6), .second, .val (.int (2 : Int32)), .val (.int sm), .val (.int ag), .val (.ref h0.size), .val (.ref T6.heap.size), .val (.ref T8.heap.size), .unset, .unset] [(.ref h0.size), (.int p2), (.int (p4 >>> ((1 : Int32) &&& 31))), (.ref hp9.size), (.ref hp9.size)])
    refine own_step (fun _ k => XS.iload X10.here hx rfl (hb hby at_120) rfl k) ?_
    show own_Fin _ _ _ _ _ _ _ T10 (mkF m 122 #[.val (.int p1), .val (.int p2), .val (.int p3), .val (.int p4), .val (.long p5), .second, .val (.long p6), .second, .val (.int (2 : Int32)), .val (.int sm), .val (.int ag), .val (.ref h0.size), .val (.ref T6.heap.size), .val (.ref T8.heap.size), .unset, .unset] [(.int ag), (.ref h0.size), (.int p2), (.int (p4 >>> ((1 : Int32) &&& 31))), (.ref hp9.size), (.ref hp9.size)])
    refine own_step (fun _ k => XS.aload X10.here hx rfl (hb hby at_122) rfl rfl k) ?_
    show own_Fin _ _ _ _ _ _ _ T10 (mkF m 124 #[.val (.int p1), .val (.int p2), .val (.int p3), .val (.int p4), .val (.long p5), .second, .val (.long p6), .second, .val (.int (2 : Int32)), .val (.int sm), .val (.int ag), .val (.ref h0.size), .val (.ref T6.heap.size), .val (.ref T8.heap.size), .unset, .unset] [(.ref T6.heap.size), (.int ag), (.ref h0.size), (.int p2), (.int (p4 >>> ((1 : Int32) &&& 31))), (.ref hp9.size), (.ref hp9.size)])
    refine own_step (fun _ k => XS.aload X10.here hx rfl (hb hby at_124) rfl rfl k) ?_
    show own_Fin _ _ _ _ _ _ _ T10 (mkF m 126 #[.val (.int p1), .val (.int p2), .val (.int p3), .val (.int p4), .val (.long p5), .second, .val (.long p6), .second, .val (.int (2 : Int32)), .val (.int sm), .val (.int ag), .val (.ref h0.size), .val (.ref T6.heap.size), .val (.ref T8.heap.size), .unset, .unset] [(.ref T8.heap.size), (.ref T6.heap.size), (.int ag), (.ref h0.size), (.int p2), (.int (p4 >>> ((1 : Int32) &&& 31))), (.ref hp9.size), (.ref hp9.size)])
    refine own_step (fun _ k => XT.lload X10.here hx rfl (hb hby at_126) rfl k) ?_
    show own_Fin _ _ _ _ _ _ _ T10 (mkF m 128 #[.val (.int p1), .val (.int p2), .val (.int p3), .val (.int p4), .val (.long p5), .second, .val (.long p6), .second, .val (.int (2 : Int32)), .val (.int sm), .val (.int ag), .val (.ref h0.size), .val (.ref T6.heap.size), .val (.ref T8.heap.size), .unset, .unset] [(.long p6), (.ref T8.heap.size), (.ref T6.heap.size), (.int ag), (.ref h0.size), (.int p2), (.int (p4 >>> ((1 : Int32) &&& 31))), (.ref hp9.size), (.ref hp9.size)])
    refine own_callN X10 hx hZ (b := hp9.size) (argsL := [(.int (p4 >>> ((1 : Int32) &&& 31))), (.int p2), (.ref h0.size), (.int ag), (.ref T6.heap.size), (.ref T8.heap.size), (.long p6)]) (rest := [(.ref hp9.size)]) rfl hown (hw _ (List.mem_of_getElem? (i := 30) rfl)) (hw _ (List.mem_of_getElem? (i := 31) rfl)) (hw _ (List.mem_of_getElem? (i := 32) rfl)) (hw _ (List.mem_of_getElem? (i := 29) rfl)) (by decide) (rm5_2 l Z a0 hw hp10 h0.size hp9.size h0.size T6.heap.size T8.heap.size el em df mr ar _ p2 ag p6 km ka r1 r2 P_nodes10 P_live10 P_leaders10 P_agreed10 P_messageKinds10 P_messages10 P_time10 A10 Lb Am Bm (Sl.ext EH) (Sm.ext EH) (Rl.ext EH) geo EH.1 Mr La Aa Ba Er1 Er2) e10 1 (Nat.le_of_eq rfl) (by decide) (by decide) (by decide) (by decide) (by rw [hml]; rfl) pd__IILjava_util_List_ILjava_util_List__JJ_V rfl rfl (hb hby at_128) ?_
    rintro T11 L11 _ X11 ⟨rr, rfl, F11, Eo, Pl, Pa, Pv, Rr, Sm2⟩
    have N11 := Fr.app N8 F11
    show own_Fin _ _ _ _ _ _ _ T11 (mkF m 131 #[.val (.int p1), .val (.int p2), .val (.int p3), .val (.int p4), .val (.long p5), .second, .val (.long p6), .second, .val (.int (2 : Int32)), .val (.int sm), .val (.int ag), .val (.ref h0.size), .val (.ref T6.heap.size), .val (.ref T8.heap.size), .unset, .unset] [(.ref hp9.size)])
    refine own_step (fun _ k => XS.astore X11.here hx rfl (hb hby at_131) rfl rfl (l' := #[.val (.int p1), .val (.int p2), .val (.int p3), .val (.int p4), .val (.long p5), .second, .val (.long p6), .second, .val (.int (2 : Int32)), .val (.int sm), .val (.int ag), .val (.ref h0.size), .val (.ref T6.heap.size), .val (.ref T8.heap.size), .val (.ref hp9.size), .unset]) rfl k) ?_
    show own_Fin _ _ _ _ _ _ _ T11 (mkF m 133 #[.val (.int p1), .val (.int p2), .val (.int p3), .val (.int p4), .val (.long p5), .second, .val (.long p6), .second, .val (.int (2 : Int32)), .val (.int sm), .val (.int ag), .val (.ref h0.size), .val (.ref T6.heap.size), .val (.ref T8.heap.size), .val (.ref hp9.size), .unset] [])
    refine own_step (fun _ k => XT.iconstV X11.here hx rfl (0 : Int32) (hb hby at_133) (by decide) k) ?_
    show own_Fin _ _ _ _ _ _ _ T11 (mkF m 134 #[.val (.int p1), .val (.int p2), .val (.int p3), .val (.int p4), .val (.long p5), .second, .val (.long p6), .second, .val (.int (2 : Int32)), .val (.int sm), .val (.int ag), .val (.ref h0.size), .val (.ref T6.heap.size), .val (.ref T8.heap.size), .val (.ref hp9.size), .unset] [(.int (0 : Int32))])
    refine own_step (fun _ k => XS.istore X11.here hx rfl (hb hby at_134) rfl (l' := #[.val (.int p1), .val (.int p2), .val (.int p3), .val (.int p4), .val (.long p5), .second, .val (.long p6), .second, .val (.int (2 : Int32)), .val (.int sm), .val (.int ag), .val (.ref h0.size), .val (.ref T6.heap.size), .val (.ref T8.heap.size), .val (.ref hp9.size), .val (.int (0 : Int32))]) rfl k) ?_
    show own_Fin _ _ _ _ _ _ _ T11 (mkF m 136 #[.val (.int p1), .val (.int p2), .val (.int p3), .val (.int p4), .val (.long p5), .second, .val (.long p6), .second, .val (.int (2 : Int32)), .val (.int sm), .val (.int ag), .val (.ref h0.size), .val (.ref T6.heap.size), .val (.ref T8.heap.size), .val (.ref hp9.size), .val (.int (0 : Int32))] [])
    refine own_step (fun _ k => XS.iload X11.here hx rfl (hb hby at_136) rfl k) ?_
    show own_Fin _ _ _ _ _ _ _ T11 (mkF m 138 #[.val (.int p1), .val (.int p2), .val (.int p3), .val (.int p4), .val (.long p5), .second, .val (.long p6), .second, .val (.int (2 : Int32)), .val (.int sm), .val (.int ag), .val (.ref h0.size), .val (.ref T6.heap.size), .val (.ref T8.heap.size), .val (.ref hp9.size), .val (.int (0 : Int32))] [(.int (2 : Int32))])
    refine own_step (fun _ k => XT.iconstV X11.here hx rfl (1 : Int32) (hb hby at_138) (by decide) k) ?_
    show own_Fin _ _ _ _ _ _ _ T11 (mkF m 139 #[.val (.int p1), .val (.int p2), .val (.int p3), .val (.int p4), .val (.long p5), .second, .val (.long p6), .second, .val (.int (2 : Int32)), .val (.int sm), .val (.int ag), .val (.ref h0.size), .val (.ref T6.heap.size), .val (.ref T8.heap.size), .val (.ref hp9.size), .val (.int (0 : Int32))] [(.int (1 : Int32)), (.int (2 : Int32))])
    refine own_step (fun _ k => XS.icmpYes X11.here hx rfl (pc0 := 139) (pc' := 151) rfl (hb hby at_139) rfl (XT.ii_ne_t (by decide)) (by decide) (by decide) k) ?_
    show own_Fin _ _ _ _ _ _ _ T11 (mkF m 151 #[.val (.int p1), .val (.int p2), .val (.int p3), .val (.int p4), .val (.long p5), .second, .val (.long p6), .second, .val (.int (2 : Int32)), .val (.int sm), .val (.int ag), .val (.ref h0.size), .val (.ref T6.heap.size), .val (.ref T8.heap.size), .val (.ref hp9.size), .val (.int (0 : Int32))] [])
    refine own_step (fun _ k => XS.aload X11.here hx rfl (hb hby at_151) rfl rfl k) ?_
    show own_Fin _ _ _ _ _ _ _ T11 (mkF m 153 #[.val (.int p1), .val (.int p2), .val (.int p3), .val (.int p4), .val (.long p5), .second, .val (.long p6), .second, .val (.int (2 : Int32)), .val (.int sm), .val (.int ag), .val (.ref h0.size), .val (.ref T6.heap.size), .val (.ref T8.heap.size), .val (.ref hp9.size), .val (.int (0 : Int32))] [(.ref hp9.size)])
    have M := rm10_2 l Z a0 hw T11.heap h0.size hp9.size rr em r2 ag p2 Pl Pa Pv Rr Sm2 (ne_exa Er2 (Eem.ext EH) (by decide))
    refine own_callV X11 hx hZ (b := hp9.size) (argsL := []) (rest := []) hown (hw _ (List.mem_of_getElem? (i := 86) rfl)) (hw _ (List.mem_of_getElem? (i := 87) rfl)) (hw _ (List.mem_of_getElem? (i := 89) rfl)) (hw _ (List.mem_of_getElem? (i := 88) rfl)) (hw _ (List.mem_of_getElem? (i := 90) rfl)) (hw _ (List.mem_of_getElem? (i := 29) rfl)) (by decide) Eo M rfl 0 (Nat.le_of_eq rfl) (by decide) (by decide) (by decide) (by decide) (by rw [hml]; rfl) pd___Z rfl rfl (hb hby at_153) ?_
    rintro T12 _ _ X12 ⟨rfl, rfl, e12⟩
    rw [List.append_nil] at X12
    show own_Fin _ _ _ _ _ _ _ T12 (mkF m 156 #[.val (.int p1), .val (.int p2), .val (.int p3), .val (.int p4), .val (.long p5), .second, .val (.long p6), .second, .val (.int (2 : Int32)), .val (.int sm), .val (.int ag), .val (.ref h0.size), .val (.ref T6.heap.size), .val (.ref T8.heap.size), .val (.ref hp9.size), .val (.int (0 : Int32))] [(.int (0 : Int32))])
    refine own_step (fun _ k => XS.iload X12.here hx rfl (hb hby at_156) rfl k) ?_
    show own_Fin _ _ _ _ _ _ _ T12 (mkF m 158 #[.val (.int p1), .val (.int p2), .val (.int p3), .val (.int p4), .val (.long p5), .second, .val (.long p6), .second, .val (.int (2 : Int32)), .val (.int sm), .val (.int ag), .val (.ref h0.size), .val (.ref T6.heap.size), .val (.ref T8.heap.size), .val (.ref hp9.size), .val (.int (0 : Int32))] [(.int (0 : Int32)), (.int (0 : Int32))])
    refine own_step (fun _ k => XS.icmpNo X12.here hx rfl (hb hby at_158) rfl (XT.ii_ne_f (by decide)) k) ?_
    show own_Fin _ _ _ _ _ _ _ T12 (mkF m 161 #[.val (.int p1), .val (.int p2), .val (.int p3), .val (.int p4), .val (.long p5), .second, .val (.long p6), .second, .val (.int (2 : Int32)), .val (.int sm), .val (.int ag), .val (.ref h0.size), .val (.ref T6.heap.size), .val (.ref T8.heap.size), .val (.ref hp9.size), .val (.int (0 : Int32))] [])
    refine own_step (fun _ k => XT.iconstV X12.here hx rfl (1 : Int32) (hb hby at_161) (by decide) k) ?_
    show own_Fin _ _ _ _ _ _ _ T12 (mkF m 162 #[.val (.int p1), .val (.int p2), .val (.int p3), .val (.int p4), .val (.long p5), .second, .val (.long p6), .second, .val (.int (2 : Int32)), .val (.int sm), .val (.int ag), .val (.ref h0.size), .val (.ref T6.heap.size), .val (.ref T8.heap.size), .val (.ref hp9.size), .val (.int (0 : Int32))] [(.int (1 : Int32))])
    refine own_step (fun _ k => XS.goto X12.here hx rfl (pc0 := 162) (pc' := 166) rfl (hb hby at_162) (by decide) (by decide) k) ?_
    show own_Fin _ _ _ _ _ _ _ T12 (mkF m 166 #[.val (.int p1), .val (.int p2), .val (.int p3), .val (.int p4), .val (.long p5), .second, .val (.long p6), .second, .val (.int (2 : Int32)), .val (.int sm), .val (.int ag), .val (.ref h0.size), .val (.ref T6.heap.size), .val (.ref T8.heap.size), .val (.ref hp9.size), .val (.int (0 : Int32))] [(.int (1 : Int32))])
    exact own_retZ X12 hx hrt hlk (hb hby at_166) (Or.inr rfl) ⟨rfl, N11⟩ (by decide) (by decide)
  rw [ef_law]
  show own_Fin _ _ _ _ _ _ _ s₁ (mkF m 0 #[.val (.int p1), .val (.int p2), .val (.int p3), .val (.int p4), .val (.long p5), .second, .val (.long p6), .second, .unset, .unset, .unset, .unset, .unset, .unset, .unset, .unset] [])
  refine own_step (fun _ k => XS.iloadN X0.here hx rfl (hb hby at_0) rfl k) ?_
  show own_Fin _ _ _ _ _ _ _ s₁ (mkF m 1 #[.val (.int p1), .val (.int p2), .val (.int p3), .val (.int p4), .val (.long p5), .second, .val (.long p6), .second, .unset, .unset, .unset, .unset, .unset, .unset, .unset, .unset] [(.int p1)])
  refine own_step (fun _ k => XT.iconstV X0.here hx rfl (3 : Int32) (hb hby at_1) (by decide) k) ?_
  show own_Fin _ _ _ _ _ _ _ s₁ (mkF m 2 #[.val (.int p1), .val (.int p2), .val (.int p3), .val (.int p4), .val (.long p5), .second, .val (.long p6), .second, .unset, .unset, .unset, .unset, .unset, .unset, .unset, .unset] [(.int (3 : Int32)), (.int p1)])
  refine own_step (fun _ k => XS.iand X0.here hx rfl (hb hby at_2) rfl k) ?_
  show own_Fin _ _ _ _ _ _ _ s₁ (mkF m 3 #[.val (.int p1), .val (.int p2), .val (.int p3), .val (.int p4), .val (.long p5), .second, .val (.long p6), .second, .unset, .unset, .unset, .unset, .unset, .unset, .unset, .unset] [(.int (p1 &&& (3 : Int32)))])
  rw [hk3]
  show own_Fin _ _ _ _ _ _ _ s₁ (mkF m 3 #[.val (.int p1), .val (.int p2), .val (.int p3), .val (.int p4), .val (.long p5), .second, .val (.long p6), .second, .unset, .unset, .unset, .unset, .unset, .unset, .unset, .unset] [(.int (2 : Int32))])
  refine own_step (fun _ k => XS.istore X0.here hx rfl (hb hby at_3) rfl (l' := #[.val (.int p1), .val (.int p2), .val (.int p3), .val (.int p4), .val (.long p5), .second, .val (.long p6), .second, .val (.int (2 : Int32)), .unset, .unset, .unset, .unset, .unset, .unset, .unset]) rfl k) ?_
  show own_Fin _ _ _ _ _ _ _ s₁ (mkF m 5 #[.val (.int p1), .val (.int p2), .val (.int p3), .val (.int p4), .val (.long p5), .second, .val (.long p6), .second, .val (.int (2 : Int32)), .unset, .unset, .unset, .unset, .unset, .unset, .unset] [])
  refine own_step (fun _ k => XS.iloadN X0.here hx rfl (hb hby at_5) rfl k) ?_
  show own_Fin _ _ _ _ _ _ _ s₁ (mkF m 6 #[.val (.int p1), .val (.int p2), .val (.int p3), .val (.int p4), .val (.long p5), .second, .val (.long p6), .second, .val (.int (2 : Int32)), .unset, .unset, .unset, .unset, .unset, .unset, .unset] [(.int p4)])
  refine own_step (fun _ k => XT.iconstV X0.here hx rfl (1 : Int32) (hb hby at_6) (by decide) k) ?_
  show own_Fin _ _ _ _ _ _ _ s₁ (mkF m 7 #[.val (.int p1), .val (.int p2), .val (.int p3), .val (.int p4), .val (.long p5), .second, .val (.long p6), .second, .val (.int (2 : Int32)), .unset, .unset, .unset, .unset, .unset, .unset, .unset] [(.int (1 : Int32)), (.int p4)])
  refine own_step (fun _ k => XS.iand X0.here hx rfl (hb hby at_7) rfl k) ?_
  show own_Fin _ _ _ _ _ _ _ s₁ (mkF m 8 #[.val (.int p1), .val (.int p2), .val (.int p3), .val (.int p4), .val (.long p5), .second, .val (.long p6), .second, .val (.int (2 : Int32)), .unset, .unset, .unset, .unset, .unset, .unset, .unset] [(.int (p4 &&& (1 : Int32)))])
  by_cases h8 : (p4 &&& (1 : Int32)) = 0
  · skip
    refine own_step (fun _ k => XS.ifYes X0.here hx rfl (pc0 := 8) (pc' := 15) rfl (hb hby at_8) rfl (XT.i0_eq_t h8) (by decide) (by decide) k) ?_
    show own_Fin _ _ _ _ _ _ _ s₁ (mkF m 15 #[.val (.int p1), .val (.int p2), .val (.int p3), .val (.int p4), .val (.long p5), .second, .val (.long p6), .second, .val (.int (2 : Int32)), .unset, .unset, .unset, .unset, .unset, .unset, .unset] [])
    refine own_step (fun _ k => XT.iconstV X0.here hx rfl (0 : Int32) (hb hby at_15) (by decide) k) ?_
    show own_Fin _ _ _ _ _ _ _ s₁ (mkF m 16 #[.val (.int p1), .val (.int p2), .val (.int p3), .val (.int p4), .val (.long p5), .second, .val (.long p6), .second, .val (.int (2 : Int32)), .unset, .unset, .unset, .unset, .unset, .unset, .unset] [(.int (0 : Int32))])
    refine own_step (fun _ k => XS.istore X0.here hx rfl (hb hby at_16) rfl (l' := #[.val (.int p1), .val (.int p2), .val (.int p3), .val (.int p4), .val (.long p5), .second, .val (.long p6), .second, .val (.int (2 : Int32)), .val (.int (0 : Int32)), .unset, .unset, .unset, .unset, .unset, .unset]) rfl k) ?_
    show own_Fin _ _ _ _ _ _ _ s₁ (mkF m 18 #[.val (.int p1), .val (.int p2), .val (.int p3), .val (.int p4), .val (.long p5), .second, .val (.long p6), .second, .val (.int (2 : Int32)), .val (.int (0 : Int32)), .unset, .unset, .unset, .unset, .unset, .unset] [])
    refine own_step (fun _ k => XS.iload X0.here hx rfl (hb hby at_18) rfl k) ?_
    show own_Fin _ _ _ _ _ _ _ s₁ (mkF m 20 #[.val (.int p1), .val (.int p2), .val (.int p3), .val (.int p4), .val (.long p5), .second, .val (.long p6), .second, .val (.int (2 : Int32)), .val (.int (0 : Int32)), .unset, .unset, .unset, .unset, .unset, .unset] [(.int (0 : Int32))])
    refine own_step (fun _ k => XS.ifYes X0.here hx rfl (pc0 := 20) (pc' := 27) rfl (hb hby at_20) rfl (XT.i0_eq_t (by decide)) (by decide) (by decide) k) ?_
    show own_Fin _ _ _ _ _ _ _ s₁ (mkF m 27 #[.val (.int p1), .val (.int p2), .val (.int p3), .val (.int p4), .val (.long p5), .second, .val (.long p6), .second, .val (.int (2 : Int32)), .val (.int (0 : Int32)), .unset, .unset, .unset, .unset, .unset, .unset] [])
    refine own_step (fun _ k => XS.iloadN X0.here hx rfl (hb hby at_27) rfl k) ?_
    show own_Fin _ _ _ _ _ _ _ s₁ (mkF m 28 #[.val (.int p1), .val (.int p2), .val (.int p3), .val (.int p4), .val (.long p5), .second, .val (.long p6), .second, .val (.int (2 : Int32)), .val (.int (0 : Int32)), .unset, .unset, .unset, .unset, .unset, .unset] [(.int p3)])
    exact tail _ _
  · skip
    refine own_step (fun _ k => XS.ifNo X0.here hx rfl (hb hby at_8) rfl (XT.i0_eq_f h8) k) ?_
    show own_Fin _ _ _ _ _ _ _ s₁ (mkF m 11 #[.val (.int p1), .val (.int p2), .val (.int p3), .val (.int p4), .val (.long p5), .second, .val (.long p6), .second, .val (.int (2 : Int32)), .unset, .unset, .unset, .unset, .unset, .unset, .unset] [])
    refine own_step (fun _ k => XT.iconstV X0.here hx rfl (1 : Int32) (hb hby at_11) (by decide) k) ?_
    show own_Fin _ _ _ _ _ _ _ s₁ (mkF m 12 #[.val (.int p1), .val (.int p2), .val (.int p3), .val (.int p4), .val (.long p5), .second, .val (.long p6), .second, .val (.int (2 : Int32)), .unset, .unset, .unset, .unset, .unset, .unset, .unset] [(.int (1 : Int32))])
    refine own_step (fun _ k => XS.goto X0.here hx rfl (pc0 := 12) (pc' := 16) rfl (hb hby at_12) (by decide) (by decide) k) ?_
    show own_Fin _ _ _ _ _ _ _ s₁ (mkF m 16 #[.val (.int p1), .val (.int p2), .val (.int p3), .val (.int p4), .val (.long p5), .second, .val (.long p6), .second, .val (.int (2 : Int32)), .unset, .unset, .unset, .unset, .unset, .unset, .unset] [(.int (1 : Int32))])
    refine own_step (fun _ k => XS.istore X0.here hx rfl (hb hby at_16) rfl (l' := #[.val (.int p1), .val (.int p2), .val (.int p3), .val (.int p4), .val (.long p5), .second, .val (.long p6), .second, .val (.int (2 : Int32)), .val (.int (1 : Int32)), .unset, .unset, .unset, .unset, .unset, .unset]) rfl k) ?_
    show own_Fin _ _ _ _ _ _ _ s₁ (mkF m 18 #[.val (.int p1), .val (.int p2), .val (.int p3), .val (.int p4), .val (.long p5), .second, .val (.long p6), .second, .val (.int (2 : Int32)), .val (.int (1 : Int32)), .unset, .unset, .unset, .unset, .unset, .unset] [])
    refine own_step (fun _ k => XS.iload X0.here hx rfl (hb hby at_18) rfl k) ?_
    show own_Fin _ _ _ _ _ _ _ s₁ (mkF m 20 #[.val (.int p1), .val (.int p2), .val (.int p3), .val (.int p4), .val (.long p5), .second, .val (.long p6), .second, .val (.int (2 : Int32)), .val (.int (1 : Int32)), .unset, .unset, .unset, .unset, .unset, .unset] [(.int (1 : Int32))])
    refine own_step (fun _ k => XS.ifNo X0.here hx rfl (hb hby at_20) rfl (XT.i0_eq_f (by decide)) k) ?_
    show own_Fin _ _ _ _ _ _ _ s₁ (mkF m 23 #[.val (.int p1), .val (.int p2), .val (.int p3), .val (.int p4), .val (.long p5), .second, .val (.long p6), .second, .val (.int (2 : Int32)), .val (.int (1 : Int32)), .unset, .unset, .unset, .unset, .unset, .unset] [])
    refine own_step (fun _ k => XS.iloadN X0.here hx rfl (hb hby at_23) rfl k) ?_
    show own_Fin _ _ _ _ _ _ _ s₁ (mkF m 24 #[.val (.int p1), .val (.int p2), .val (.int p3), .val (.int p4), .val (.long p5), .second, .val (.long p6), .second, .val (.int (2 : Int32)), .val (.int (1 : Int32)), .unset, .unset, .unset, .unset, .unset, .unset] [(.int p2)])
    refine own_step (fun _ k => XS.goto X0.here hx rfl (pc0 := 24) (pc' := 28) rfl (hb hby at_24) (by decide) (by decide) k) ?_
    show own_Fin _ _ _ _ _ _ _ s₁ (mkF m 28 #[.val (.int p1), .val (.int p2), .val (.int p3), .val (.int p4), .val (.long p5), .second, .val (.long p6), .second, .val (.int (2 : Int32)), .val (.int (1 : Int32)), .unset, .unset, .unset, .unset, .unset, .unset] [(.int p2)])
    exact tail _ _
set_option maxRecDepth 65536 in
set_option maxHeartbeats 40000000 in
theorem rm0_3 (l : Launch) (Z : State) (a0 : Array Value) (hw : ∀ d ∈ tables_1, d.before a0 Z = true) (ws : List Jvm.Cond) (h0 : Heap) (p1 p2 p3 p4 : Int32) (p5 p6 : Int64) (df el em mr ca : Addr) (kd : ClassId) (cc : Cell) (Sd : Sta Z h0 "java/util/ArrayList" "DEFAULTCAPACITY_EMPTY_ELEMENTDATA" "[Ljava/lang/Object;" (.ref df)) (Ad : Arv Z h0 df kd (.object "java/lang/Object") 0 [] .null) (Sl : Sta Z h0 "java/util/ImmutableCollections" "EMPTY_LIST" "Ljava/util/ImmutableCollections$ListN;" (.ref el)) (Sm : Sta Z h0 "java/util/ImmutableCollections" "EMPTY" "Ljava/lang/Object;" (.ref em)) (Rl : own_LN Z h0 el 0) (Eem : Exa Z h0 em "java/lang/Object") (Mr : own_Mir Z "[Ljava/lang/Object;" mr) (Sc : Sta Z h0 "java/lang/Long$LongCache" "cache" "[Ljava/lang/Long;" (.ref ca)) (Ac : Arr Z h0 ca cc (.object "java/lang/Long")) (Zc : cc.slots.size = 256) (Hc : ∀ i, i < 256 → ∃ r, cc.slots[i]? = some (.ref r) ∧ Exa Z h0 r "java/lang/Long") (hk3 : (p1 &&& (3 : Int32)) = (3 : Int32)) :
    own_Met l Z x code maxLocals ret ws room_1 #[(.int p1), (.int p2), (.int p3), (.int p4), (.long p5), (.long p6)] h0 (own_Q1 h0.size) := by
  refine own_body (y := x) pn_com_example_libelect_libelect_simulation_OutcomeElectedPinLaw ?_
  intro p e s m below meth c s₁ hx hby hml hZ hown hnm hrt hlk X0 e0
  replace hown : s.vm.findClass "com/example/libelect/libelect/simulation/OutcomeElectedPinLaw" = some m.cls := hown
  replace hml : c.maxLocals = 16 := hml
  have N0 := Fr.nil h0.size
  have tail : ∀ (sm ag : Int32), own_Fin p e s below room_1.cells room_1.slots (own_Q1 h0.size) s₁ (mkF m 28 #[.val (.int p1), .val (.int p2), .val (.int p3), .val (.int p4), .val (.long p5), .second, .val (.long p6), .second, .val (.int (3 : Int32)), .val (.int sm), .unset, .unset, .unset, .unset, .unset, .unset] [(.int ag)]) := by
    intro sm ag
    have EH := own_ext_refl h0
    show own_Fin _ _ _ _ _ _ _ s₁ (mkF m 28 #[.val (.int p1), .val (.int p2), .val (.int p3), .val (.int p4), .val (.long p5), .second, .val (.long p6), .second, .val (.int (3 : Int32)), .val (.int sm), .unset, .unset, .unset, .unset, .unset, .unset] [(.int ag)])
    refine own_step (fun _ k => XS.istore X0.here hx rfl (hb hby at_28) rfl (l' := #[.val (.int p1), .val (.int p2), .val (.int p3), .val (.int p4), .val (.long p5), .second, .val (.long p6), .second, .val (.int (3 : Int32)), .val (.int sm), .val (.int ag), .unset, .unset, .unset, .unset, .unset]) rfl k) ?_
    show own_Fin _ _ _ _ _ _ _ s₁ (mkF m 30 #[.val (.int p1), .val (.int p2), .val (.int p3), .val (.int p4), .val (.long p5), .second, .val (.long p6), .second, .val (.int (3 : Int32)), .val (.int sm), .val (.int ag), .unset, .unset, .unset, .unset, .unset] [])
    refine own_newO X0 hx hZ hown (hw _ (List.mem_of_getElem? (i := 0) rfl)) (hw _ (List.mem_of_getElem? (i := 1) rfl)) (hw _ (List.mem_of_getElem? (i := 2) rfl)) e0 (by decide) (by decide) (hb hby at_30) ?_
    intro T1 hp1 X1 e1 E1 A1 D1
    have Fm1 := D1 (O := "java/util/AbstractList") (nm := "modCount") (d := "I") (Or.inl (hw _ (List.mem_of_getElem? (i := 22) rfl))) pf_I
    have Fs1 := D1 (O := "java/util/ArrayList") (nm := "size") (d := "I") (Or.inl (hw _ (List.mem_of_getElem? (i := 62) rfl))) pf_I
    have Fe1 := D1 (O := "java/util/ArrayList") (nm := "elementData") (d := "[Ljava/lang/Object;") (Or.inl (hw _ (List.mem_of_getElem? (i := 25) rfl))) pf__Ljava_lang_Object_
    have ge1 : h0.size ≤ h0.size := EH.1
    replace EH := own_ext_trans EH E1
    show own_Fin _ _ _ _ _ _ _ T1 (mkF m 33 #[.val (.int p1), .val (.int p2), .val (.int p3), .val (.int p4), .val (.long p5), .second, .val (.long p6), .second, .val (.int (3 : Int32)), .val (.int sm), .val (.int ag), .unset, .unset, .unset, .unset, .unset] [(.ref h0.size)])
    refine own_step (fun _ k => XS.dup X1.here hx rfl (hb hby at_33) rfl rfl k) ?_
    show own_Fin _ _ _ _ _ _ _ T1 (mkF m 34 #[.val (.int p1), .val (.int p2), .val (.int p3), .val (.int p4), .val (.long p5), .second, .val (.long p6), .second, .val (.int (3 : Int32)), .val (.int sm), .val (.int ag), .unset, .unset, .unset, .unset, .unset] [(.ref h0.size), (.ref h0.size)])
    refine own_callN X1 hx hZ (b := h0.size) (argsL := []) (rest := [(.ref h0.size)]) rfl hown (hw _ (List.mem_of_getElem? (i := 3) rfl)) (hw _ (List.mem_of_getElem? (i := 4) rfl)) (hw _ (List.mem_of_getElem? (i := 5) rfl)) (hw _ (List.mem_of_getElem? (i := 2) rfl)) (by decide) (rm1 l Z a0 hw hp1 h0.size h0.size df _ _ Fm1 Fs1 Fe1 A1 (Sd.ext EH) ge1) e1 1 (Nat.le_of_eq rfl) (by decide) (by decide) (by decide) (by decide) (by rw [hml]; rfl) pd___V rfl rfl (hb hby at_34) ?_
    rintro T2 L2 _ X2 ⟨rfl, F2, K2, La2⟩
    have N2 := Fr.app N0 F2
    replace EH := own_ext_keep EH K2 (allS ge1 all0)
    have La := La2
    show own_Fin _ _ _ _ _ _ _ T2 (mkF m 37 #[.val (.int p1), .val (.int p2), .val (.int p3), .val (.int p4), .val (.long p5), .second, .val (.long p6), .second, .val (.int (3 : Int32)), .val (.int sm), .val (.int ag), .unset, .unset, .unset, .unset, .unset] [(.ref h0.size)])
    refine own_step (fun _ k => XS.astore X2.here hx rfl (hb hby at_37) rfl rfl (l' := #[.val (.int p1), .val (.int p2), .val (.int p3), .val (.int p4), .val (.long p5), .second, .val (.long p6), .second, .val (.int (3 : Int32)), .val (.int sm), .val (.int ag), .val (.ref h0.size), .unset, .unset, .unset, .unset]) rfl k) ?_
    show own_Fin _ _ _ _ _ _ _ T2 (mkF m 39 #[.val (.int p1), .val (.int p2), .val (.int p3), .val (.int p4), .val (.long p5), .second, .val (.long p6), .second, .val (.int (3 : Int32)), .val (.int sm), .val (.int ag), .val (.ref h0.size), .unset, .unset, .unset, .unset] [])
    refine own_step (fun _ k => XS.iload X2.here hx rfl (hb hby at_39) rfl k) ?_
    show own_Fin _ _ _ _ _ _ _ T2 (mkF m 41 #[.val (.int p1), .val (.int p2), .val (.int p3), .val (.int p4), .val (.long p5), .second, .val (.long p6), .second, .val (.int (3 : Int32)), .val (.int sm), .val (.int ag), .val (.ref h0.size), .unset, .unset, .unset, .unset] [(.int (3 : Int32))])
    refine own_step (fun _ k => XT.iconstV X2.here hx rfl (1 : Int32) (hb hby at_41) (by decide) k) ?_
    show own_Fin _ _ _ _ _ _ _ T2 (mkF m 42 #[.val (.int p1), .val (.int p2), .val (.int p3), .val (.int p4), .val (.long p5), .second, .val (.long p6), .second, .val (.int (3 : Int32)), .val (.int sm), .val (.int ag), .val (.ref h0.size), .unset, .unset, .unset, .unset] [(.int (1 : Int32)), (.int (3 : Int32))])
    refine own_step (fun _ k => XS.icmpNo X2.here hx rfl (hb hby at_42) rfl (XT.ii_lt_f (by decide)) k) ?_
    show own_Fin _ _ _ _ _ _ _ T2 (mkF m 45 #[.val (.int p1), .val (.int p2), .val (.int p3), .val (.int p4), .val (.long p5), .second, .val (.long p6), .second, .val (.int (3 : Int32)), .val (.int sm), .val (.int ag), .val (.ref h0.size), .unset, .unset, .unset, .unset] [])
    refine own_step (fun _ k => XS.aload X2.here hx rfl (hb hby at_45) rfl rfl k) ?_
    show own_Fin _ _ _ _ _ _ _ T2 (mkF m 47 #[.val (.int p1), .val (.int p2), .val (.int p3), .val (.int p4), .val (.long p5), .second, .val (.long p6), .second, .val (.int (3 : Int32)), .val (.int sm), .val (.int ag), .val (.ref h0.size), .unset, .unset, .unset, .unset] [(.ref h0.size)])
    refine own_step (fun _ k => XT.lload X2.here hx rfl (hb hby at_47) rfl k) ?_
    show own_Fin _ _ _ _ _ _ _ T2 (mkF m 49 #[.val (.int p1), .val (.int p2), .val (.int p3), .val (.int p4), .val (.long p5), .second, .val (.long p6), .second, .val (.int (3 : Int32)), .val (.int sm), .val (.int ag), .val (.ref h0.size), .unset, .unset, .unset, .unset] [(.long p5), (.ref h0.size)])
    refine own_callS X2 hx hZ (argsL := [(.long p5)]) (rest := [(.ref h0.size)]) hown (hw _ (List.mem_of_getElem? (i := 103) rfl)) (hw _ (List.mem_of_getElem? (i := 104) rfl)) (hw _ (List.mem_of_getElem? (i := 105) rfl)) (hw _ (List.mem_of_getElem? (i := 106) rfl)) (by decide) (rm12 l Z a0 hw T2.heap h0.size p5 ca cc (Sc.ext EH) (Ac.ext EH) Zc (fun i hi => by obtain ⟨r, u1, u2⟩ := Hc i hi; exact ⟨r, u1, u2.ext EH⟩) EH.1) rfl 1 (Nat.le_of_eq rfl) (by decide) (by decide) (by decide) (by decide) (by rw [hml]; rfl) pd__J_Ljava_lang_Long_ rfl rfl (hb hby at_49) ?_
    rintro T3 L3 _ X3 ⟨r1, rfl, F3, E3, Er1⟩
    have N3 := Fr.app N2 F3
    replace EH := own_ext_trans EH E3
    replace La := La.ext E3
    show own_Fin _ _ _ _ _ _ _ T3 (mkF m 52 #[.val (.int p1), .val (.int p2), .val (.int p3), .val (.int p4), .val (.long p5), .second, .val (.long p6), .second, .val (.int (3 : Int32)), .val (.int sm), .val (.int ag), .val (.ref h0.size), .unset, .unset, .unset, .unset] [(.ref r1), (.ref h0.size)])
    have dne : df ≠ h0.size := Nat.ne_of_lt Ad.lt
    refine own_callV X3 hx hZ (b := h0.size) (argsL := [(.ref r1)]) (rest := []) hown (hw _ (List.mem_of_getElem? (i := 111) rfl)) (hw _ (List.mem_of_getElem? (i := 112) rfl)) (hw _ (List.mem_of_getElem? (i := 114) rfl)) (hw _ (List.mem_of_getElem? (i := 113) rfl)) (hw _ (List.mem_of_getElem? (i := 115) rfl)) (hw _ (List.mem_of_getElem? (i := 2) rfl)) (by decide) La.1 (rm13_0 l Z a0 hw T3.heap h0.size h0.size df kd r1 La (Sd.ext EH) (Ad.ext EH) (Nat.le_refl _) EH.1 Er1) rfl 0 (Nat.le_of_eq rfl) (by decide) (by decide) (by decide) (by decide) (by rw [hml]; rfl) pd__Ljava_lang_Object__Z rfl rfl (hb hby at_52) ?_
    have hlt : h0.size < T3.heap.size := La.1.lt
    rintro T4 L4 _ X4 ⟨ar, ka, rfl, F4, gr, K4, La4, Aa, Oa, Ba⟩
    have gar : h0.size ≤ ar := Nat.le_trans (Nat.le_of_lt hlt) gr
    have nar : ar ≠ h0.size := Nat.ne_of_gt (Nat.lt_of_lt_of_le hlt gr)
    have N4 := Fr.app N3 F4
    replace EH := own_ext_keep EH K4 (allS (Nat.le_refl _) all0)
    replace Er1 := Er1.keep K4
    replace La := La4
    show own_Fin _ _ _ _ _ _ _ T4 (mkF m 55 #[.val (.int p1), .val (.int p2), .val (.int p3), .val (.int p4), .val (.long p5), .second, .val (.long p6), .second, .val (.int (3 : Int32)), .val (.int sm), .val (.int ag), .val (.ref h0.size), .unset, .unset, .unset, .unset] [(.int (1 : Int32))])
    refine own_step (fun _ k => XT.pop X4.here hx rfl (hb hby at_55) rfl rfl k) ?_
    show own_Fin _ _ _ _ _ _ _ T4 (mkF m 56 #[.val (.int p1), .val (.int p2), .val (.int p3), .val (.int p4), .val (.long p5), .second, .val (.long p6), .second, .val (.int (3 : Int32)), .val (.int sm), .val (.int ag), .val (.ref h0.size), .unset, .unset, .unset, .unset] [])
    refine own_step (fun _ k => XS.iload X4.here hx rfl (hb hby at_56) rfl k) ?_
    show own_Fin _ _ _ _ _ _ _ T4 (mkF m 58 #[.val (.int p1), .val (.int p2), .val (.int p3), .val (.int p4), .val (.long p5), .second, .val (.long p6), .second, .val (.int (3 : Int32)), .val (.int sm), .val (.int ag), .val (.ref h0.size), .unset, .unset, .unset, .unset] [(.int (3 : Int32))])
    refine own_step (fun _ k => XT.iconstV X4.here hx rfl (2 : Int32) (hb hby at_58) (by decide) k) ?_
    show own_Fin _ _ _ _ _ _ _ T4 (mkF m 59 #[.val (.int p1), .val (.int p2), .val (.int p3), .val (.int p4), .val (.long p5), .second, .val (.long p6), .second, .val (.int (3 : Int32)), .val (.int sm), .val (.int ag), .val (.ref h0.size), .unset, .unset, .unset, .unset] [(.int (2 : Int32)), (.int (3 : Int32))])
    refine own_step (fun _ k => XS.icmpNo X4.here hx rfl (hb hby at_59) rfl (XT.ii_lt_f (by decide)) k) ?_
    show own_Fin _ _ _ _ _ _ _ T4 (mkF m 62 #[.val (.int p1), .val (.int p2), .val (.int p3), .val (.int p4), .val (.long p5), .second, .val (.long p6), .second, .val (.int (3 : Int32)), .val (.int sm), .val (.int ag), .val (.ref h0.size), .unset, .unset, .unset, .unset] [])
    refine own_step (fun _ k => XS.aload X4.here hx rfl (hb hby at_62) rfl rfl k) ?_
    show own_Fin _ _ _ _ _ _ _ T4 (mkF m 64 #[.val (.int p1), .val (.int p2), .val (.int p3), .val (.int p4), .val (.long p5), .second, .val (.long p6), .second, .val (.int (3 : Int32)), .val (.int sm), .val (.int ag), .val (.ref h0.size), .unset, .unset, .unset, .unset] [(.ref h0.size)])
    refine own_step (fun _ k => XT.lload X4.here hx rfl (hb hby at_64) rfl k) ?_
    show own_Fin _ _ _ _ _ _ _ T4 (mkF m 66 #[.val (.int p1), .val (.int p2), .val (.int p3), .val (.int p4), .val (.long p5), .second, .val (.long p6), .second, .val (.int (3 : Int32)), .val (.int sm), .val (.int ag), .val (.ref h0.size), .unset, .unset, .unset, .unset] [(.long p5), (.ref h0.size)])
    refine own_step (fun _ k => XT.lconstV X4.here hx rfl (1 : Int64) (hb hby at_66) (by decide) k) ?_
    show own_Fin _ _ _ _ _ _ _ T4 (mkF m 67 #[.val (.int p1), .val (.int p2), .val (.int p3), .val (.int p4), .val (.long p5), .second, .val (.long p6), .second, .val (.int (3 : Int32)), .val (.int sm), .val (.int ag), .val (.ref h0.size), .unset, .unset, .unset, .unset] [(.long (1 : Int64)), (.long p5), (.ref h0.size)])
    refine own_step (fun _ k => XT.ladd X4.here hx rfl (hb hby at_67) rfl k) ?_
    show own_Fin _ _ _ _ _ _ _ T4 (mkF m 68 #[.val (.int p1), .val (.int p2), .val (.int p3), .val (.int p4), .val (.long p5), .second, .val (.long p6), .second, .val (.int (3 : Int32)), .val (.int sm), .val (.int ag), .val (.ref h0.size), .unset, .unset, .unset, .unset] [(.long (p5 + (1 : Int64))), (.ref h0.size)])
    refine own_callS X4 hx hZ (argsL := [(.long (p5 + (1 : Int64)))]) (rest := [(.ref h0.size)]) hown (hw _ (List.mem_of_getElem? (i := 103) rfl)) (hw _ (List.mem_of_getElem? (i := 104) rfl)) (hw _ (List.mem_of_getElem? (i := 105) rfl)) (hw _ (List.mem_of_getElem? (i := 106) rfl)) (by decide) (rm12 l Z a0 hw T4.heap h0.size (p5 + (1 : Int64)) ca cc (Sc.ext EH) (Ac.ext EH) Zc (fun i hi => by obtain ⟨r, u1, u2⟩ := Hc i hi; exact ⟨r, u1, u2.ext EH⟩) EH.1) rfl 1 (Nat.le_of_eq rfl) (by decide) (by decide) (by decide) (by decide) (by rw [hml]; rfl) pd__J_Ljava_lang_Long_ rfl rfl (hb hby at_68) ?_
    rintro T5 L5 _ X5 ⟨r2, rfl, F5, E5, Er2⟩
    have N5 := Fr.app N4 F5
    replace EH := own_ext_trans EH E5
    replace Er1 := Er1.ext E5
    replace La := La.ext E5
    replace Aa := Aa.ext E5
    replace Ba := Ba.ext E5
    show own_Fin _ _ _ _ _ _ _ T5 (mkF m 71 #[.val (.int p1), .val (.int p2), .val (.int p3), .val (.int p4), .val (.long p5), .second, .val (.long p6), .second, .val (.int (3 : Int32)), .val (.int sm), .val (.int ag), .val (.ref h0.size), .unset, .unset, .unset, .unset] [(.ref r2), (.ref h0.size)])
    refine own_callV X5 hx hZ (b := h0.size) (argsL := [(.ref r2)]) (rest := []) hown (hw _ (List.mem_of_getElem? (i := 111) rfl)) (hw _ (List.mem_of_getElem? (i := 112) rfl)) (hw _ (List.mem_of_getElem? (i := 114) rfl)) (hw _ (List.mem_of_getElem? (i := 113) rfl)) (hw _ (List.mem_of_getElem? (i := 115) rfl)) (hw _ (List.mem_of_getElem? (i := 2) rfl)) (by decide) La.1 (rm13_1 l Z a0 hw T5.heap h0.size h0.size ar ka r1 r2 La Aa Oa Ba (Nat.le_refl _) gar nar Er2) rfl 0 (Nat.le_of_eq rfl) (by decide) (by decide) (by decide) (by decide) (by rw [hml]; rfl) pd__Ljava_lang_Object__Z rfl rfl (hb hby at_71) ?_
    rintro T6 L6 _ X6 ⟨rfl, F6, K6, La6, Aa6⟩
    have N6 := Fr.app N5 F6
    replace EH := own_ext_keep EH K6 (allS (Nat.le_refl _) (allS gar all0))
    replace Er1 := Er1.keep K6
    replace Ba := Ba.keep K6
    replace Er2 := Er2.keep K6
    replace La := La6
    replace Aa := Aa6
    show own_Fin _ _ _ _ _ _ _ T6 (mkF m 74 #[.val (.int p1), .val (.int p2), .val (.int p3), .val (.int p4), .val (.long p5), .second, .val (.long p6), .second, .val (.int (3 : Int32)), .val (.int sm), .val (.int ag), .val (.ref h0.size), .unset, .unset, .unset, .unset] [(.int (1 : Int32))])
    refine own_step (fun _ k => XT.pop X6.here hx rfl (hb hby at_74) rfl rfl k) ?_
    show own_Fin _ _ _ _ _ _ _ T6 (mkF m 75 #[.val (.int p1), .val (.int p2), .val (.int p3), .val (.int p4), .val (.long p5), .second, .val (.long p6), .second, .val (.int (3 : Int32)), .val (.int sm), .val (.int ag), .val (.ref h0.size), .unset, .unset, .unset, .unset] [])
    refine own_step (fun _ k => XS.iload X6.here hx rfl (hb hby at_75) rfl k) ?_
    show own_Fin _ _ _ _ _ _ _ T6 (mkF m 77 #[.val (.int p1), .val (.int p2), .val (.int p3), .val (.int p4), .val (.long p5), .second, .val (.long p6), .second, .val (.int (3 : Int32)), .val (.int sm), .val (.int ag), .val (.ref h0.size), .unset, .unset, .unset, .unset] [(.int (3 : Int32))])
    refine own_step (fun _ k => XT.iconstV X6.here hx rfl (3 : Int32) (hb hby at_77) (by decide) k) ?_
    show own_Fin _ _ _ _ _ _ _ T6 (mkF m 78 #[.val (.int p1), .val (.int p2), .val (.int p3), .val (.int p4), .val (.long p5), .second, .val (.long p6), .second, .val (.int (3 : Int32)), .val (.int sm), .val (.int ag), .val (.ref h0.size), .unset, .unset, .unset, .unset] [(.int (3 : Int32)), (.int (3 : Int32))])
    refine own_step (fun _ k => XS.icmpNo X6.here hx rfl (hb hby at_78) rfl (XT.ii_lt_f (by decide)) k) ?_
    show own_Fin _ _ _ _ _ _ _ T6 (mkF m 81 #[.val (.int p1), .val (.int p2), .val (.int p3), .val (.int p4), .val (.long p5), .second, .val (.long p6), .second, .val (.int (3 : Int32)), .val (.int sm), .val (.int ag), .val (.ref h0.size), .unset, .unset, .unset, .unset] [])
    refine own_step (fun _ k => XS.aload X6.here hx rfl (hb hby at_81) rfl rfl k) ?_
    show own_Fin _ _ _ _ _ _ _ T6 (mkF m 83 #[.val (.int p1), .val (.int p2), .val (.int p3), .val (.int p4), .val (.long p5), .second, .val (.long p6), .second, .val (.int (3 : Int32)), .val (.int sm), .val (.int ag), .val (.ref h0.size), .unset, .unset, .unset, .unset] [(.ref h0.size)])
    refine own_step (fun _ k => XT.lload X6.here hx rfl (hb hby at_83) rfl k) ?_
    show own_Fin _ _ _ _ _ _ _ T6 (mkF m 85 #[.val (.int p1), .val (.int p2), .val (.int p3), .val (.int p4), .val (.long p5), .second, .val (.long p6), .second, .val (.int (3 : Int32)), .val (.int sm), .val (.int ag), .val (.ref h0.size), .unset, .unset, .unset, .unset] [(.long p5), (.ref h0.size)])
    refine own_step (fun _ k => Stand.ldc2J X6 hx (v := (2 : Int64)) hown (mvT hZ (hw _ (List.mem_of_getElem? (i := 140) rfl))) rfl (hb hby at_85) k) ?_
    show own_Fin _ _ _ _ _ _ _ T6 (mkF m 88 #[.val (.int p1), .val (.int p2), .val (.int p3), .val (.int p4), .val (.long p5), .second, .val (.long p6), .second, .val (.int (3 : Int32)), .val (.int sm), .val (.int ag), .val (.ref h0.size), .unset, .unset, .unset, .unset] [(.long (2 : Int64)), (.long p5), (.ref h0.size)])
    refine own_step (fun _ k => XT.ladd X6.here hx rfl (hb hby at_88) rfl k) ?_
    show own_Fin _ _ _ _ _ _ _ T6 (mkF m 89 #[.val (.int p1), .val (.int p2), .val (.int p3), .val (.int p4), .val (.long p5), .second, .val (.long p6), .second, .val (.int (3 : Int32)), .val (.int sm), .val (.int ag), .val (.ref h0.size), .unset, .unset, .unset, .unset] [(.long (p5 + (2 : Int64))), (.ref h0.size)])
    refine own_callS X6 hx hZ (argsL := [(.long (p5 + (2 : Int64)))]) (rest := [(.ref h0.size)]) hown (hw _ (List.mem_of_getElem? (i := 103) rfl)) (hw _ (List.mem_of_getElem? (i := 104) rfl)) (hw _ (List.mem_of_getElem? (i := 105) rfl)) (hw _ (List.mem_of_getElem? (i := 106) rfl)) (by decide) (rm12 l Z a0 hw T6.heap h0.size (p5 + (2 : Int64)) ca cc (Sc.ext EH) (Ac.ext EH) Zc (fun i hi => by obtain ⟨r, u1, u2⟩ := Hc i hi; exact ⟨r, u1, u2.ext EH⟩) EH.1) rfl 1 (Nat.le_of_eq rfl) (by decide) (by decide) (by decide) (by decide) (by rw [hml]; rfl) pd__J_Ljava_lang_Long_ rfl rfl (hb hby at_89) ?_
    rintro T7 L7 _ X7 ⟨r3, rfl, F7, E7, Er3⟩
    have N7 := Fr.app N6 F7
    replace EH := own_ext_trans EH E7
    replace Er1 := Er1.ext E7
    replace Er2 := Er2.ext E7
    replace La := La.ext E7
    replace Aa := Aa.ext E7
    replace Ba := Ba.ext E7
    show own_Fin _ _ _ _ _ _ _ T7 (mkF m 92 #[.val (.int p1), .val (.int p2), .val (.int p3), .val (.int p4), .val (.long p5), .second, .val (.long p6), .second, .val (.int (3 : Int32)), .val (.int sm), .val (.int ag), .val (.ref h0.size), .unset, .unset, .unset, .unset] [(.ref r3), (.ref h0.size)])
    refine own_callV X7 hx hZ (b := h0.size) (argsL := [(.ref r3)]) (rest := []) hown (hw _ (List.mem_of_getElem? (i := 111) rfl)) (hw _ (List.mem_of_getElem? (i := 112) rfl)) (hw _ (List.mem_of_getElem? (i := 114) rfl)) (hw _ (List.mem_of_getElem? (i := 113) rfl)) (hw _ (List.mem_of_getElem? (i := 115) rfl)) (hw _ (List.mem_of_getElem? (i := 2) rfl)) (by decide) La.1 (rm13_2 l Z a0 hw T7.heap h0.size h0.size ar ka r1 r2 r3 La Aa Oa Ba (Nat.le_refl _) gar nar Er3) rfl 0 (Nat.le_of_eq rfl) (by decide) (by decide) (by decide) (by decide) (by rw [hml]; rfl) pd__Ljava_lang_Object__Z rfl rfl (hb hby at_92) ?_
    rintro T8 L8 _ X8 ⟨rfl, F8, K8, La8, Aa8⟩
    have N8 := Fr.app N7 F8
    replace EH := own_ext_keep EH K8 (allS (Nat.le_refl _) (allS gar all0))
    replace Er1 := Er1.keep K8
    replace Er2 := Er2.keep K8
    replace Ba := Ba.keep K8
    replace Er3 := Er3.keep K8
    replace La := La8
    replace Aa := Aa8
    show own_Fin _ _ _ _ _ _ _ T8 (mkF m 95 #[.val (.int p1), .val (.int p2), .val (.int p3), .val (.int p4), .val (.long p5), .second, .val (.long p6), .second, .val (.int (3 : Int32)), .val (.int sm), .val (.int ag), .val (.ref h0.size), .unset, .unset, .unset, .unset] [(.int (1 : Int32))])
    refine own_step (fun _ k => XT.pop X8.here hx rfl (hb hby at_95) rfl rfl k) ?_
    show own_Fin _ _ _ _ _ _ _ T8 (mkF m 96 #[.val (.int p1), .val (.int p2), .val (.int p3), .val (.int p4), .val (.long p5), .second, .val (.long p6), .second, .val (.int (3 : Int32)), .val (.int sm), .val (.int ag), .val (.ref h0.size), .unset, .unset, .unset, .unset] [])
    refine own_newO X8 hx hZ hown (hw _ (List.mem_of_getElem? (i := 0) rfl)) (hw _ (List.mem_of_getElem? (i := 1) rfl)) (hw _ (List.mem_of_getElem? (i := 2) rfl)) rfl (by decide) (by decide) (hb hby at_96) ?_
    intro T9 hp9 X9 e9 E9 A9 D9
    have Fm9 := D9 (O := "java/util/AbstractList") (nm := "modCount") (d := "I") (Or.inl (hw _ (List.mem_of_getElem? (i := 22) rfl))) pf_I
    have Fs9 := D9 (O := "java/util/ArrayList") (nm := "size") (d := "I") (Or.inl (hw _ (List.mem_of_getElem? (i := 62) rfl))) pf_I
    have Fe9 := D9 (O := "java/util/ArrayList") (nm := "elementData") (d := "[Ljava/lang/Object;") (Or.inl (hw _ (List.mem_of_getElem? (i := 25) rfl))) pf__Ljava_lang_Object_
    have ge2 : h0.size ≤ T8.heap.size := EH.1
    have ne12 : h0.size ≠ T8.heap.size := Nat.ne_of_lt La.1.lt
    have neA2 : ar ≠ T8.heap.size := Nat.ne_of_lt Aa.lt
    replace EH := own_ext_trans EH E9
    replace Er1 := Er1.ext E9
    replace Er2 := Er2.ext E9
    replace Er3 := Er3.ext E9
    replace La := La.ext E9
    replace Aa := Aa.ext E9
    replace Ba := Ba.ext E9
    show own_Fin _ _ _ _ _ _ _ T9 (mkF m 99 #[.val (.int p1), .val (.int p2), .val (.int p3), .val (.int p4), .val (.long p5), .second, .val (.long p6), .second, .val (.int (3 : Int32)), .val (.int sm), .val (.int ag), .val (.ref h0.size), .unset, .unset, .unset, .unset] [(.ref T8.heap.size)])
    refine own_step (fun _ k => XS.dup X9.here hx rfl (hb hby at_99) rfl rfl k) ?_
    show own_Fin _ _ _ _ _ _ _ T9 (mkF m 100 #[.val (.int p1), .val (.int p2), .val (.int p3), .val (.int p4), .val (.long p5), .second, .val (.long p6), .second, .val (.int (3 : Int32)), .val (.int sm), .val (.int ag), .val (.ref h0.size), .unset, .unset, .unset, .unset] [(.ref T8.heap.size), (.ref T8.heap.size)])
    refine own_callN X9 hx hZ (b := T8.heap.size) (argsL := []) (rest := [(.ref T8.heap.size)]) rfl hown (hw _ (List.mem_of_getElem? (i := 3) rfl)) (hw _ (List.mem_of_getElem? (i := 4) rfl)) (hw _ (List.mem_of_getElem? (i := 5) rfl)) (hw _ (List.mem_of_getElem? (i := 2) rfl)) (by decide) (rm1 l Z a0 hw hp9 h0.size T8.heap.size df _ _ Fm9 Fs9 Fe9 A9 (Sd.ext EH) ge2) e9 1 (Nat.le_of_eq rfl) (by decide) (by decide) (by decide) (by decide) (by rw [hml]; rfl) pd___V rfl rfl (hb hby at_100) ?_
    rintro T10 L10 _ X10 ⟨rfl, F10, K10, La10⟩
    have N10 := Fr.app N8 F10
    replace EH := own_ext_keep EH K10 (allS ge2 all0)
    replace Er1 := Er1.keep K10
    replace Er2 := Er2.keep K10
    replace Er3 := Er3.keep K10
    replace La := La.keep K10 (ninS ne12 nin0)
    replace Aa := Aa.keep K10 (ninS neA2 nin0)
    replace Ba := Ba.keep K10
    have Lb := La10
    show own_Fin _ _ _ _ _ _ _ T10 (mkF m 103 #[.val (.int p1), .val (.int p2), .val (.int p3), .val (.int p4), .val (.long p5), .second, .val (.long p6), .second, .val (.int (3 : Int32)), .val (.int sm), .val (.int ag), .val (.ref h0.size), .unset, .unset, .unset, .unset] [(.ref T8.heap.size)])
    refine own_step (fun _ k => XS.astore X10.here hx rfl (hb hby at_103) rfl rfl (l' := #[.val (.int p1), .val (.int p2), .val (.int p3), .val (.int p4), .val (.long p5), .second, .val (.long p6), .second, .val (.int (3 : Int32)), .val (.int sm), .val (.int ag), .val (.ref h0.size), .val (.ref T8.heap.size), .unset, .unset, .unset]) rfl k) ?_
    show own_Fin _ _ _ _ _ _ _ T10 (mkF m 105 #[.val (.int p1), .val (.int p2), .val (.int p3), .val (.int p4), .val (.long p5), .second, .val (.long p6), .second, .val (.int (3 : Int32)), .val (.int sm), .val (.int ag), .val (.ref h0.size), .val (.ref T8.heap.size), .unset, .unset, .unset] [])
    refine own_step (fun _ k => XT.iconstV X10.here hx rfl (0 : Int32) (hb hby at_105) (by decide) k) ?_
    show own_Fin _ _ _ _ _ _ _ T10 (mkF m 106 #[.val (.int p1), .val (.int p2), .val (.int p3), .val (.int p4), .val (.long p5), .second, .val (.long p6), .second, .val (.int (3 : Int32)), .val (.int sm), .val (.int ag), .val (.ref h0.size), .val (.ref T8.heap.size), .unset, .unset, .unset] [(.int (0 : Int32))])
    refine own_newPE X10 hx hZ (aty := .long) (hw _ (List.mem_of_getElem? (i := 26) rfl)) rfl 0 (by decide) (by decide) (by decide) (by decide) (by decide) (ad := "[J") (by decide +kernel) (hb hby at_106) ?_
    intro T11 hp11 km X11 e11 E11 Am Bm
    replace EH := own_ext_trans EH E11
    replace Er1 := Er1.ext E11
    replace Er2 := Er2.ext E11
    replace Er3 := Er3.ext E11
    replace La := La.ext E11
    replace Aa := Aa.ext E11
    replace Ba := Ba.ext E11
    replace Lb := Lb.ext E11
    show own_Fin _ _ _ _ _ _ _ T11 (mkF m 108 #[.val (.int p1), .val (.int p2), .val (.int p3), .val (.int p4), .val (.long p5), .second, .val (.long p6), .second, .val (.int (3 : Int32)), .val (.int sm), .val (.int ag), .val (.ref h0.size), .val (.ref T8.heap.size), .unset, .unset, .unset] [(.ref T10.heap.size)])
    refine own_step (fun _ k => XS.astore X11.here hx rfl (hb hby at_108) rfl rfl (l' := #[.val (.int p1), .val (.int p2), .val (.int p3), .val (.int p4), .val (.long p5), .second, .val (.long p6), .second, .val (.int (3 : Int32)), .val (.int sm), .val (.int ag), .val (.ref h0.size), .val (.ref T8.heap.size), .val (.ref T10.heap.size), .unset, .unset]) rfl k) ?_
    show own_Fin _ _ _ _ _ _ _ T11 (mkF m 110 #[.val (.int p1), .val (.int p2), .val (.int p3), .val (.int p4), .val (.long p5), .second, .val (.long p6), .second, .val (.int (3 : Int32)), .val (.int sm), .val (.int ag), .val (.ref h0.size), .val (.ref T8.heap.size), .val (.ref T10.heap.size), .unset, .unset] [])
    refine own_newO X11 hx hZ hown (hw _ (List.mem_of_getElem? (i := 27) rfl)) (hw _ (List.mem_of_getElem? (i := 28) rfl)) (hw _ (List.mem_of_getElem? (i := 29) rfl)) e11 (by decide) (by decide) (hb hby at_110) ?_
    intro T12 hp12 X12 e12 E12 A12 D12
    have P_nodes12 := D12 (O := "com/example/libelect/libelect/simulation/Outcome") (nm := "nodes") (d := "I") (Or.inr (hw _ (List.mem_of_getElem? (i := 35) rfl))) pf_I
    have P_live12 := D12 (O := "com/example/libelect/libelect/simulation/Outcome") (nm := "live") (d := "I") (Or.inr (hw _ (List.mem_of_getElem? (i := 37) rfl))) pf_I
    have P_leaders12 := D12 (O := "com/example/libelect/libelect/simulation/Outcome") (nm := "leaders") (d := "Ljava/util/List;") (Or.inr (hw _ (List.mem_of_getElem? (i := 68) rfl))) pf_Ljava_util_List_
    have P_agreed12 := D12 (O := "com/example/libelect/libelect/simulation/Outcome") (nm := "agreed") (d := "I") (Or.inr (hw _ (List.mem_of_getElem? (i := 70) rfl))) pf_I
    have P_messageKinds12 := D12 (O := "com/example/libelect/libelect/simulation/Outcome") (nm := "messageKinds") (d := "Ljava/util/List;") (Or.inr (hw _ (List.mem_of_getElem? (i := 72) rfl))) pf_Ljava_util_List_
    have P_messages12 := D12 (O := "com/example/libelect/libelect/simulation/Outcome") (nm := "messages") (d := "[J") (Or.inr (hw _ (List.mem_of_getElem? (i := 83) rfl))) pf__J
    have P_time12 := D12 (O := "com/example/libelect/libelect/simulation/Outcome") (nm := "time") (d := "J") (Or.inr (hw _ (List.mem_of_getElem? (i := 85) rfl))) pf_J
    have geo : h0.size ≤ hp11.size := EH.1
    replace EH := own_ext_trans EH E12
    replace Er1 := Er1.ext E12
    replace Er2 := Er2.ext E12
    replace Er3 := Er3.ext E12
    replace La := La.ext E12
    replace Aa := Aa.ext E12
    replace Ba := Ba.ext E12
    replace Lb := Lb.ext E12
    replace Am := Am.ext E12
    replace Bm := Bm.ext E12
    show own_Fin _ _ _ _ _ _ _ T12 (mkF m 113 #[.val (.int p1), .val (.int p2), .val (.int p3), .val (.int p4), .val (.long p5), .second, .val (.long p6), .second, .val (.int (3 : Int32)), .val (.int sm), .val (.int ag), .val (.ref h0.size), .val (.ref T8.heap.size), .val (.ref T10.heap.size), .unset, .unset] [(.ref hp11.size)])
    refine own_step (fun _ k => XS.dup X12.here hx rfl (hb hby at_113) rfl rfl k) ?_
    show own_Fin _ _ _ _ _ _ _ T12 (mkF m 114 #[.val (.int p1), .val (.int p2), .val (.int p3), .val (.int p4), .val (.long p5), .second, .val (.long p6), .second, .val (.int (3 : Int32)), .val (.int sm), .val (.int ag), .val (.ref h0.size), .val (.ref T8.heap.size), .val (.ref T10.heap.size), .unset, .unset] [(.ref hp11.size), (.ref hp11.size)])
    refine own_step (fun _ k => XS.iloadN X12.here hx rfl (hb hby at_114) rfl k) ?_
    show own_Fin _ _ _ _ _ _ _ T12 (mkF m 115 #[.val (.int p1), .val (.int p2), .val (.int p3), .val (.int p4), .val (.long p5), .second, .val (.long p6), .second, .val (.int (3 : Int32)), .val (.int sm), .val (.int ag), .val (.ref h0.size), .val (.ref T8.heap.size), .val (.ref T10.heap.size), .unset, .unset] [(.int p4), (.ref hp11.size), (.ref hp11.size)])
    refine own_step (fun _ k => XT.iconstV X12.here hx rfl (1 : Int32) (hb hby at_115) (by decide) k) ?_
    show own_Fin _ _ _ _ _ _ _ T12 (mkF m 116 #[.val (.int p1), .val (.int p2), .val (.int p3), .val (.int p4), .val (.long p5), .second, .val (.long p6), .second, .val (.int (3 : Int32)), .val (.int sm), .val (.int ag), .val (.ref h0.size), .val (.ref T8.heap.size), .val (.ref T10.heap.size), .unset, .unset] [(.int (1 : Int32)), (.int p4), (.ref hp11.size), (.ref hp11.size)])
    refine own_step (fun _ k => XT.ishr X12.here hx rfl (hb hby at_116) rfl k) ?_
    show own_Fin _ _ _ _ _ _ _ T12 (mkF m 117 #[.val (.int p1), .val (.int p2), .val (.int p3), .val (.int p4), .val (.long p5), .second, .val (.long p6), .second, .val (.int (3 : Int32)), .val (.int sm), .val (.int ag), .val (.ref h0.size), .val (.ref T8.heap.size), .val (.ref T10.heap.size), .unset, .unset] [(.int (p4 >>> ((1 : Int32) &&& 31))), (.ref hp11.size), (.ref hp11.size)])
    refine own_step (fun _ k => XS.iloadN X12.here hx rfl (hb hby at_117) rfl k) ?_
    show own_Fin _ _ _ _ _ _ _ T12 (mkF m 118 #[.val (.int p1), .val (.int p2), .val (.int p3), .val (.int p4), .val (.long p5), .second, .val (.long p6), .second, .val (.int (3 : Int32)), .val (.int sm), .val (.int ag), .val (.ref h0.size), .val (.ref T8.heap.size), .val (.ref T10.heap.size), .unset, .unset] [(.int p2), (.int (p4 >>> ((1 : Int32) &&& 31))), (.ref hp11.size), (.ref hp11.size)])
    refine own_step (fun _ k => XS.aload X12.here hx rfl (hb hby at_118) rfl rfl k) ?_
    show own_Fin _ _ _ _ _ _ _ T12 (mkF m 120 #[.val (.int p1), .val (.int p2), .val (.int p3), .val (.int p4), .val (.long p5), .second, .val (.long p6), .second, .val (.int (3 : Int32)), .val (.int sm), .val (.int ag), .val (.ref h0.size), .val (.ref T8.heap.size), .val (.ref T10.heap.size), .unset, .unset] [(.ref h0.size), (.int p2), (.int (p4 >>> ((1 : Int32) &&& 31))), (.ref hp11.size), (.ref hp11.size)])
    refine own_step (fun _ k => XS.iload X12.here hx rfl (hb hby at_120) rfl k) ?_
    show own_Fin _ _ _ _ _ _ _ T12 (mkF m 122 #[.val (.int p1), .val (.int p2), .val (.int p3), .val (.int p4), .val (.long p5), .second, .val (.long p6), .second, .val (.int (3 : Int32)), .val (.int sm), .val (.int ag), .val (.ref h0.size), .val (.ref T8.heap.size), .val (.ref T10.heap.size), .unset, .unset] [(.int ag), (.ref h0.size), (.int p2), (.int (p4 >>> ((1 : Int32) &&& 31))), (.ref hp11.size), (.ref hp11.size)])
    refine own_step (fun _ k => XS.aload X12.here hx rfl (hb hby at_122) rfl rfl k) ?_
    show own_Fin _ _ _ _ _ _ _ T12 (mkF m 124 #[.val (.int p1), .val (.int p2), .val (.int p3), .val (.int p4), .val (.long p5), .second, .val (.long p6), .second, .val (.int (3 : Int32)), .val (.int sm), .val (.int ag), .val (.ref h0.size), .val (.ref T8.heap.size), .val (.ref T10.heap.size), .unset, .unset] [(.ref T8.heap.size), (.int ag), (.ref h0.size), (.int p2), (.int (p4 >>> ((1 : Int32) &&& 31))), (.ref hp11.size), (.ref hp11.size)])
    refine own_step (fun _ k => XS.aload X12.here hx rfl (hb hby at_124) rfl rfl k) ?_
    show own_Fin _ _ _ _ _ _ _ T12 (mkF m 126 #[.val (.int p1), .val (.int p2), .val (.int p3), .val (.int p4), .val (.long p5), .second, .val (.long p6), .second, .val (.int (3 : Int32)), .val (.int sm), .val (.int ag), .val (.ref h0.size), .val (.ref T8.heap.size), .val (.ref T10.heap.size), .unset, .unset] [(.ref T10.heap.size), (.ref T8.heap.size), (.int ag), (.ref h0.size), (.int p2), (.int (p4 >>> ((1 : Int32) &&& 31))), (.ref hp11.size), (.ref hp11.size)])
    refine own_step (fun _ k => XT.lload X12.here hx rfl (hb hby at_126) rfl k) ?_
    show own_Fin _ _ _ _ _ _ _ T12 (mkF m 128 #[.val (.int p1), .val (.int p2), .val (.int p3), .val (.int p4), .val (.long p5), .second, .val (.long p6), .second, .val (.int (3 : Int32)), .val (.int sm), .val (.int ag), .val (.ref h0.size), .val (.ref T8.heap.size), .val (.ref T10.heap.size), .unset, .unset] [(.long p6), (.ref T10.heap.size), (.ref T8.heap.size), (.int ag), (.ref h0.size), (.int p2), (.int (p4 >>> ((1 : Int32) &&& 31))), (.ref hp11.size), (.ref hp11.size)])
    refine own_callN X12 hx hZ (b := hp11.size) (argsL := [(.int (p4 >>> ((1 : Int32) &&& 31))), (.int p2), (.ref h0.size), (.int ag), (.ref T8.heap.size), (.ref T10.heap.size), (.long p6)]) (rest := [(.ref hp11.size)]) rfl hown (hw _ (List.mem_of_getElem? (i := 30) rfl)) (hw _ (List.mem_of_getElem? (i := 31) rfl)) (hw _ (List.mem_of_getElem? (i := 32) rfl)) (hw _ (List.mem_of_getElem? (i := 29) rfl)) (by decide) (rm5_3 l Z a0 hw hp12 h0.size hp11.size h0.size T8.heap.size T10.heap.size el em df mr ar _ p2 ag p6 km ka r1 r2 r3 P_nodes12 P_live12 P_leaders12 P_agreed12 P_messageKinds12 P_messages12 P_time12 A12 Lb Am Bm (Sl.ext EH) (Sm.ext EH) (Rl.ext EH) geo EH.1 Mr La Aa Ba Er1 Er2 Er3) e12 1 (Nat.le_of_eq rfl) (by decide) (by decide) (by decide) (by decide) (by rw [hml]; rfl) pd__IILjava_util_List_ILjava_util_List__JJ_V rfl rfl (hb hby at_128) ?_
    rintro T13 L13 _ X13 ⟨rr, rfl, F13, Eo, Pl, Pa, Pv, Rr, Sm2⟩
    have N13 := Fr.app N10 F13
    show own_Fin _ _ _ _ _ _ _ T13 (mkF m 131 #[.val (.int p1), .val (.int p2), .val (.int p3), .val (.int p4), .val (.long p5), .second, .val (.long p6), .second, .val (.int (3 : Int32)), .val (.int sm), .val (.int ag), .val (.ref h0.size), .val (.ref T8.heap.size), .val (.ref T10.heap.size), .unset, .unset] [(.ref hp11.size)])
    refine own_step (fun _ k => XS.astore X13.here hx rfl (hb hby at_131) rfl rfl (l' := #[.val (.int p1), .val (.int p2), .val (.int p3), .val (.int p4), .val (.long p5), .second, .val (.long p6), .second, .val (.int (3 : Int32)), .val (.int sm), .val (.int ag), .val (.ref h0.size), .val (.ref T8.heap.size), .val (.ref T10.heap.size), .val (.ref hp11.size), .unset]) rfl k) ?_
    show own_Fin _ _ _ _ _ _ _ T13 (mkF m 133 #[.val (.int p1), .val (.int p2), .val (.int p3), .val (.int p4), .val (.long p5), .second, .val (.long p6), .second, .val (.int (3 : Int32)), .val (.int sm), .val (.int ag), .val (.ref h0.size), .val (.ref T8.heap.size), .val (.ref T10.heap.size), .val (.ref hp11.size), .unset] [])
    refine own_step (fun _ k => XT.iconstV X13.here hx rfl (0 : Int32) (hb hby at_133) (by decide) k) ?_
    show own_Fin _ _ _ _ _ _ _ T13 (mkF m 134 #[.val (.int p1), .val (.int p2), .val (.int p3), .val (.int p4), .val (.long p5), .second, .val (.long p6), .second, .val (.int (3 : Int32)), .val (.int sm), .val (.int ag), .val (.ref h0.size), .val (.ref T8.heap.size), .val (.ref T10.heap.size), .val (.ref hp11.size), .unset] [(.int (0 : Int32))])
    refine own_step (fun _ k => XS.istore X13.here hx rfl (hb hby at_134) rfl (l' := #[.val (.int p1), .val (.int p2), .val (.int p3), .val (.int p4), .val (.long p5), .second, .val (.long p6), .second, .val (.int (3 : Int32)), .val (.int sm), .val (.int ag), .val (.ref h0.size), .val (.ref T8.heap.size), .val (.ref T10.heap.size), .val (.ref hp11.size), .val (.int (0 : Int32))]) rfl k) ?_
    show own_Fin _ _ _ _ _ _ _ T13 (mkF m 136 #[.val (.int p1), .val (.int p2), .val (.int p3), .val (.int p4), .val (.long p5), .second, .val (.long p6), .second, .val (.int (3 : Int32)), .val (.int sm), .val (.int ag), .val (.ref h0.size), .val (.ref T8.heap.size), .val (.ref T10.heap.size), .val (.ref hp11.size), .val (.int (0 : Int32))] [])
    refine own_step (fun _ k => XS.iload X13.here hx rfl (hb hby at_136) rfl k) ?_
    show own_Fin _ _ _ _ _ _ _ T13 (mkF m 138 #[.val (.int p1), .val (.int p2), .val (.int p3), .val (.int p4), .val (.long p5), .second, .val (.long p6), .second, .val (.int (3 : Int32)), .val (.int sm), .val (.int ag), .val (.ref h0.size), .val (.ref T8.heap.size), .val (.ref T10.heap.size), .val (.ref hp11.size), .val (.int (0 : Int32))] [(.int (3 : Int32))])
    refine own_step (fun _ k => XT.iconstV X13.here hx rfl (1 : Int32) (hb hby at_138) (by decide) k) ?_
    show own_Fin _ _ _ _ _ _ _ T13 (mkF m 139 #[.val (.int p1), .val (.int p2), .val (.int p3), .val (.int p4), .val (.long p5), .second, .val (.long p6), .second, .val (.int (3 : Int32)), .val (.int sm), .val (.int ag), .val (.ref h0.size), .val (.ref T8.heap.size), .val (.ref T10.heap.size), .val (.ref hp11.size), .val (.int (0 : Int32))] [(.int (1 : Int32)), (.int (3 : Int32))])
    refine own_step (fun _ k => XS.icmpYes X13.here hx rfl (pc0 := 139) (pc' := 151) rfl (hb hby at_139) rfl (XT.ii_ne_t (by decide)) (by decide) (by decide) k) ?_
    show own_Fin _ _ _ _ _ _ _ T13 (mkF m 151 #[.val (.int p1), .val (.int p2), .val (.int p3), .val (.int p4), .val (.long p5), .second, .val (.long p6), .second, .val (.int (3 : Int32)), .val (.int sm), .val (.int ag), .val (.ref h0.size), .val (.ref T8.heap.size), .val (.ref T10.heap.size), .val (.ref hp11.size), .val (.int (0 : Int32))] [])
    refine own_step (fun _ k => XS.aload X13.here hx rfl (hb hby at_151) rfl rfl k) ?_
    show own_Fin _ _ _ _ _ _ _ T13 (mkF m 153 #[.val (.int p1), .val (.int p2), .val (.int p3), .val (.int p4), .val (.long p5), .second, .val (.long p6), .second, .val (.int (3 : Int32)), .val (.int sm), .val (.int ag), .val (.ref h0.size), .val (.ref T8.heap.size), .val (.ref T10.heap.size), .val (.ref hp11.size), .val (.int (0 : Int32))] [(.ref hp11.size)])
    have M := rm10_3 l Z a0 hw T13.heap h0.size hp11.size rr em h0.size ag p2 Pl Pa Pv Rr Sm2 (Nat.ne_of_gt Eem.lt)
    refine own_callV X13 hx hZ (b := hp11.size) (argsL := []) (rest := []) hown (hw _ (List.mem_of_getElem? (i := 86) rfl)) (hw _ (List.mem_of_getElem? (i := 87) rfl)) (hw _ (List.mem_of_getElem? (i := 89) rfl)) (hw _ (List.mem_of_getElem? (i := 88) rfl)) (hw _ (List.mem_of_getElem? (i := 90) rfl)) (hw _ (List.mem_of_getElem? (i := 29) rfl)) (by decide) Eo M rfl 0 (Nat.le_of_eq rfl) (by decide) (by decide) (by decide) (by decide) (by rw [hml]; rfl) pd___Z rfl rfl (hb hby at_153) ?_
    rintro T14 _ _ X14 ⟨rfl, rfl, e14⟩
    rw [List.append_nil] at X14
    show own_Fin _ _ _ _ _ _ _ T14 (mkF m 156 #[.val (.int p1), .val (.int p2), .val (.int p3), .val (.int p4), .val (.long p5), .second, .val (.long p6), .second, .val (.int (3 : Int32)), .val (.int sm), .val (.int ag), .val (.ref h0.size), .val (.ref T8.heap.size), .val (.ref T10.heap.size), .val (.ref hp11.size), .val (.int (0 : Int32))] [(.int (0 : Int32))])
    refine own_step (fun _ k => XS.iload X14.here hx rfl (hb hby at_156) rfl k) ?_
    show own_Fin _ _ _ _ _ _ _ T14 (mkF m 158 #[.val (.int p1), .val (.int p2), .val (.int p3), .val (.int p4), .val (.long p5), .second, .val (.long p6), .second, .val (.int (3 : Int32)), .val (.int sm), .val (.int ag), .val (.ref h0.size), .val (.ref T8.heap.size), .val (.ref T10.heap.size), .val (.ref hp11.size), .val (.int (0 : Int32))] [(.int (0 : Int32)), (.int (0 : Int32))])
    refine own_step (fun _ k => XS.icmpNo X14.here hx rfl (hb hby at_158) rfl (XT.ii_ne_f (by decide)) k) ?_
    show own_Fin _ _ _ _ _ _ _ T14 (mkF m 161 #[.val (.int p1), .val (.int p2), .val (.int p3), .val (.int p4), .val (.long p5), .second, .val (.long p6), .second, .val (.int (3 : Int32)), .val (.int sm), .val (.int ag), .val (.ref h0.size), .val (.ref T8.heap.size), .val (.ref T10.heap.size), .val (.ref hp11.size), .val (.int (0 : Int32))] [])
    refine own_step (fun _ k => XT.iconstV X14.here hx rfl (1 : Int32) (hb hby at_161) (by decide) k) ?_
    show own_Fin _ _ _ _ _ _ _ T14 (mkF m 162 #[.val (.int p1), .val (.int p2), .val (.int p3), .val (.int p4), .val (.long p5), .second, .val (.long p6), .second, .val (.int (3 : Int32)), .val (.int sm), .val (.int ag), .val (.ref h0.size), .val (.ref T8.heap.size), .val (.ref T10.heap.size), .val (.ref hp11.size), .val (.int (0 : Int32))] [(.int (1 : Int32))])
    refine own_step (fun _ k => XS.goto X14.here hx rfl (pc0 := 162) (pc' := 166) rfl (hb hby at_162) (by decide) (by decide) k) ?_
    show own_Fin _ _ _ _ _ _ _ T14 (mkF m 166 #[.val (.int p1), .val (.int p2), .val (.int p3), .val (.int p4), .val (.long p5), .second, .val (.long p6), .second, .val (.int (3 : Int32)), .val (.int sm), .val (.int ag), .val (.ref h0.size), .val (.ref T8.heap.size), .val (.ref T10.heap.size), .val (.ref hp11.size), .val (.int (0 : Int32))] [(.int (1 : Int32))])
    exact own_retZ X14 hx hrt hlk (hb hby at_166) (Or.inr rfl) ⟨rfl, N13⟩ (by decide) (by decide)
  rw [ef_law]
  show own_Fin _ _ _ _ _ _ _ s₁ (mkF m 0 #[.val (.int p1), .val (.int p2), .val (.int p3), .val (.int p4), .val (.long p5), .second, .val (.long p6), .second, .unset, .unset, .unset, .unset, .unset, .unset, .unset, .unset] [])
  refine own_step (fun _ k => XS.iloadN X0.here hx rfl (hb hby at_0) rfl k) ?_
  show own_Fin _ _ _ _ _ _ _ s₁ (mkF m 1 #[.val (.int p1), .val (.int p2), .val (.int p3), .val (.int p4), .val (.long p5), .second, .val (.long p6), .second, .unset, .unset, .unset, .unset, .unset, .unset, .unset, .unset] [(.int p1)])
  refine own_step (fun _ k => XT.iconstV X0.here hx rfl (3 : Int32) (hb hby at_1) (by decide) k) ?_
  show own_Fin _ _ _ _ _ _ _ s₁ (mkF m 2 #[.val (.int p1), .val (.int p2), .val (.int p3), .val (.int p4), .val (.long p5), .second, .val (.long p6), .second, .unset, .unset, .unset, .unset, .unset, .unset, .unset, .unset] [(.int (3 : Int32)), (.int p1)])
  refine own_step (fun _ k => XS.iand X0.here hx rfl (hb hby at_2) rfl k) ?_
  show own_Fin _ _ _ _ _ _ _ s₁ (mkF m 3 #[.val (.int p1), .val (.int p2), .val (.int p3), .val (.int p4), .val (.long p5), .second, .val (.long p6), .second, .unset, .unset, .unset, .unset, .unset, .unset, .unset, .unset] [(.int (p1 &&& (3 : Int32)))])
  rw [hk3]
  show own_Fin _ _ _ _ _ _ _ s₁ (mkF m 3 #[.val (.int p1), .val (.int p2), .val (.int p3), .val (.int p4), .val (.long p5), .second, .val (.long p6), .second, .unset, .unset, .unset, .unset, .unset, .unset, .unset, .unset] [(.int (3 : Int32))])
  refine own_step (fun _ k => XS.istore X0.here hx rfl (hb hby at_3) rfl (l' := #[.val (.int p1), .val (.int p2), .val (.int p3), .val (.int p4), .val (.long p5), .second, .val (.long p6), .second, .val (.int (3 : Int32)), .unset, .unset, .unset, .unset, .unset, .unset, .unset]) rfl k) ?_
  show own_Fin _ _ _ _ _ _ _ s₁ (mkF m 5 #[.val (.int p1), .val (.int p2), .val (.int p3), .val (.int p4), .val (.long p5), .second, .val (.long p6), .second, .val (.int (3 : Int32)), .unset, .unset, .unset, .unset, .unset, .unset, .unset] [])
  refine own_step (fun _ k => XS.iloadN X0.here hx rfl (hb hby at_5) rfl k) ?_
  show own_Fin _ _ _ _ _ _ _ s₁ (mkF m 6 #[.val (.int p1), .val (.int p2), .val (.int p3), .val (.int p4), .val (.long p5), .second, .val (.long p6), .second, .val (.int (3 : Int32)), .unset, .unset, .unset, .unset, .unset, .unset, .unset] [(.int p4)])
  refine own_step (fun _ k => XT.iconstV X0.here hx rfl (1 : Int32) (hb hby at_6) (by decide) k) ?_
  show own_Fin _ _ _ _ _ _ _ s₁ (mkF m 7 #[.val (.int p1), .val (.int p2), .val (.int p3), .val (.int p4), .val (.long p5), .second, .val (.long p6), .second, .val (.int (3 : Int32)), .unset, .unset, .unset, .unset, .unset, .unset, .unset] [(.int (1 : Int32)), (.int p4)])
  refine own_step (fun _ k => XS.iand X0.here hx rfl (hb hby at_7) rfl k) ?_
  show own_Fin _ _ _ _ _ _ _ s₁ (mkF m 8 #[.val (.int p1), .val (.int p2), .val (.int p3), .val (.int p4), .val (.long p5), .second, .val (.long p6), .second, .val (.int (3 : Int32)), .unset, .unset, .unset, .unset, .unset, .unset, .unset] [(.int (p4 &&& (1 : Int32)))])
  by_cases h8 : (p4 &&& (1 : Int32)) = 0
  · skip
    refine own_step (fun _ k => XS.ifYes X0.here hx rfl (pc0 := 8) (pc' := 15) rfl (hb hby at_8) rfl (XT.i0_eq_t h8) (by decide) (by decide) k) ?_
    show own_Fin _ _ _ _ _ _ _ s₁ (mkF m 15 #[.val (.int p1), .val (.int p2), .val (.int p3), .val (.int p4), .val (.long p5), .second, .val (.long p6), .second, .val (.int (3 : Int32)), .unset, .unset, .unset, .unset, .unset, .unset, .unset] [])
    refine own_step (fun _ k => XT.iconstV X0.here hx rfl (0 : Int32) (hb hby at_15) (by decide) k) ?_
    show own_Fin _ _ _ _ _ _ _ s₁ (mkF m 16 #[.val (.int p1), .val (.int p2), .val (.int p3), .val (.int p4), .val (.long p5), .second, .val (.long p6), .second, .val (.int (3 : Int32)), .unset, .unset, .unset, .unset, .unset, .unset, .unset] [(.int (0 : Int32))])
    refine own_step (fun _ k => XS.istore X0.here hx rfl (hb hby at_16) rfl (l' := #[.val (.int p1), .val (.int p2), .val (.int p3), .val (.int p4), .val (.long p5), .second, .val (.long p6), .second, .val (.int (3 : Int32)), .val (.int (0 : Int32)), .unset, .unset, .unset, .unset, .unset, .unset]) rfl k) ?_
    show own_Fin _ _ _ _ _ _ _ s₁ (mkF m 18 #[.val (.int p1), .val (.int p2), .val (.int p3), .val (.int p4), .val (.long p5), .second, .val (.long p6), .second, .val (.int (3 : Int32)), .val (.int (0 : Int32)), .unset, .unset, .unset, .unset, .unset, .unset] [])
    refine own_step (fun _ k => XS.iload X0.here hx rfl (hb hby at_18) rfl k) ?_
    show own_Fin _ _ _ _ _ _ _ s₁ (mkF m 20 #[.val (.int p1), .val (.int p2), .val (.int p3), .val (.int p4), .val (.long p5), .second, .val (.long p6), .second, .val (.int (3 : Int32)), .val (.int (0 : Int32)), .unset, .unset, .unset, .unset, .unset, .unset] [(.int (0 : Int32))])
    refine own_step (fun _ k => XS.ifYes X0.here hx rfl (pc0 := 20) (pc' := 27) rfl (hb hby at_20) rfl (XT.i0_eq_t (by decide)) (by decide) (by decide) k) ?_
    show own_Fin _ _ _ _ _ _ _ s₁ (mkF m 27 #[.val (.int p1), .val (.int p2), .val (.int p3), .val (.int p4), .val (.long p5), .second, .val (.long p6), .second, .val (.int (3 : Int32)), .val (.int (0 : Int32)), .unset, .unset, .unset, .unset, .unset, .unset] [])
    refine own_step (fun _ k => XS.iloadN X0.here hx rfl (hb hby at_27) rfl k) ?_
    show own_Fin _ _ _ _ _ _ _ s₁ (mkF m 28 #[.val (.int p1), .val (.int p2), .val (.int p3), .val (.int p4), .val (.long p5), .second, .val (.long p6), .second, .val (.int (3 : Int32)), .val (.int (0 : Int32)), .unset, .unset, .unset, .unset, .unset, .unset] [(.int p3)])
    exact tail _ _
  · skip
    refine own_step (fun _ k => XS.ifNo X0.here hx rfl (hb hby at_8) rfl (XT.i0_eq_f h8) k) ?_
    show own_Fin _ _ _ _ _ _ _ s₁ (mkF m 11 #[.val (.int p1), .val (.int p2), .val (.int p3), .val (.int p4), .val (.long p5), .second, .val (.long p6), .second, .val (.int (3 : Int32)), .unset, .unset, .unset, .unset, .unset, .unset, .unset] [])
    refine own_step (fun _ k => XT.iconstV X0.here hx rfl (1 : Int32) (hb hby at_11) (by decide) k) ?_
    show own_Fin _ _ _ _ _ _ _ s₁ (mkF m 12 #[.val (.int p1), .val (.int p2), .val (.int p3), .val (.int p4), .val (.long p5), .second, .val (.long p6), .second, .val (.int (3 : Int32)), .unset, .unset, .unset, .unset, .unset, .unset, .unset] [(.int (1 : Int32))])
    refine own_step (fun _ k => XS.goto X0.here hx rfl (pc0 := 12) (pc' := 16) rfl (hb hby at_12) (by decide) (by decide) k) ?_
    show own_Fin _ _ _ _ _ _ _ s₁ (mkF m 16 #[.val (.int p1), .val (.int p2), .val (.int p3), .val (.int p4), .val (.long p5), .second, .val (.long p6), .second, .val (.int (3 : Int32)), .unset, .unset, .unset, .unset, .unset, .unset, .unset] [(.int (1 : Int32))])
    refine own_step (fun _ k => XS.istore X0.here hx rfl (hb hby at_16) rfl (l' := #[.val (.int p1), .val (.int p2), .val (.int p3), .val (.int p4), .val (.long p5), .second, .val (.long p6), .second, .val (.int (3 : Int32)), .val (.int (1 : Int32)), .unset, .unset, .unset, .unset, .unset, .unset]) rfl k) ?_
    show own_Fin _ _ _ _ _ _ _ s₁ (mkF m 18 #[.val (.int p1), .val (.int p2), .val (.int p3), .val (.int p4), .val (.long p5), .second, .val (.long p6), .second, .val (.int (3 : Int32)), .val (.int (1 : Int32)), .unset, .unset, .unset, .unset, .unset, .unset] [])
    refine own_step (fun _ k => XS.iload X0.here hx rfl (hb hby at_18) rfl k) ?_
    show own_Fin _ _ _ _ _ _ _ s₁ (mkF m 20 #[.val (.int p1), .val (.int p2), .val (.int p3), .val (.int p4), .val (.long p5), .second, .val (.long p6), .second, .val (.int (3 : Int32)), .val (.int (1 : Int32)), .unset, .unset, .unset, .unset, .unset, .unset] [(.int (1 : Int32))])
    refine own_step (fun _ k => XS.ifNo X0.here hx rfl (hb hby at_20) rfl (XT.i0_eq_f (by decide)) k) ?_
    show own_Fin _ _ _ _ _ _ _ s₁ (mkF m 23 #[.val (.int p1), .val (.int p2), .val (.int p3), .val (.int p4), .val (.long p5), .second, .val (.long p6), .second, .val (.int (3 : Int32)), .val (.int (1 : Int32)), .unset, .unset, .unset, .unset, .unset, .unset] [])
    refine own_step (fun _ k => XS.iloadN X0.here hx rfl (hb hby at_23) rfl k) ?_
    show own_Fin _ _ _ _ _ _ _ s₁ (mkF m 24 #[.val (.int p1), .val (.int p2), .val (.int p3), .val (.int p4), .val (.long p5), .second, .val (.long p6), .second, .val (.int (3 : Int32)), .val (.int (1 : Int32)), .unset, .unset, .unset, .unset, .unset, .unset] [(.int p2)])
    refine own_step (fun _ k => XS.goto X0.here hx rfl (pc0 := 24) (pc' := 28) rfl (hb hby at_24) (by decide) (by decide) k) ?_
    show own_Fin _ _ _ _ _ _ _ s₁ (mkF m 28 #[.val (.int p1), .val (.int p2), .val (.int p3), .val (.int p4), .val (.long p5), .second, .val (.long p6), .second, .val (.int (3 : Int32)), .val (.int (1 : Int32)), .unset, .unset, .unset, .unset, .unset, .unset] [(.int p2)])
    exact tail _ _
theorem rm0 (l : Launch) (Z : State) (a0 : Array Value) (hw : ∀ d ∈ tables_1, d.before a0 Z = true) (ws : List Jvm.Cond) (h0 : Heap) (p1 p2 p3 p4 : Int32) (p5 p6 : Int64) (df el em mr ca : Addr) (kd : ClassId) (cc : Cell) (Sd : Sta Z h0 "java/util/ArrayList" "DEFAULTCAPACITY_EMPTY_ELEMENTDATA" "[Ljava/lang/Object;" (.ref df)) (Ad : Arv Z h0 df kd (.object "java/lang/Object") 0 [] .null) (Sl : Sta Z h0 "java/util/ImmutableCollections" "EMPTY_LIST" "Ljava/util/ImmutableCollections$ListN;" (.ref el)) (Sm : Sta Z h0 "java/util/ImmutableCollections" "EMPTY" "Ljava/lang/Object;" (.ref em)) (Rl : own_LN Z h0 el 0) (Eem : Exa Z h0 em "java/lang/Object") (Mr : own_Mir Z "[Ljava/lang/Object;" mr) (Sc : Sta Z h0 "java/lang/Long$LongCache" "cache" "[Ljava/lang/Long;" (.ref ca)) (Ac : Arr Z h0 ca cc (.object "java/lang/Long")) (Zc : cc.slots.size = 256) (Hc : ∀ i, i < 256 → ∃ r, cc.slots[i]? = some (.ref r) ∧ Exa Z h0 r "java/lang/Long") :
    own_Met l Z x code maxLocals ret ws room_1 #[(.int p1), (.int p2), (.int p3), (.int p4), (.long p5), (.long p6)] h0 (own_Q1 h0.size) := by
  rcases own_and3 p1 with q | q | q | q
  · exact rm0_0 l Z a0 hw ws h0 p1 p2 p3 p4 p5 p6 df el em mr ca kd cc Sd Ad Sl Sm Rl Eem Mr Sc Ac Zc Hc q
  · exact rm0_1 l Z a0 hw ws h0 p1 p2 p3 p4 p5 p6 df el em mr ca kd cc Sd Ad Sl Sm Rl Eem Mr Sc Ac Zc Hc q
  · exact rm0_2 l Z a0 hw ws h0 p1 p2 p3 p4 p5 p6 df el em mr ca kd cc Sd Ad Sl Sm Rl Eem Mr Sc Ac Zc Hc q
  · exact rm0_3 l Z a0 hw ws h0 p1 p2 p3 p4 p5 p6 df el em mr ca kd cc Sd Ad Sl Sm Rl Eem Mr Sc Ac Zc Hc q
set_option maxRecDepth 65536 in
set_option maxHeartbeats 40000000 in
theorem comes_1 {Post : Tables → Env → Array Value → State → Outcome → State → Prop} (hpost : ∀ tb e args s v u, (limb_1_1.after args s (.returned v) u = true ∧ limb_1_2.after args s (.returned v) u = true ∧ True) → FrameEnd s (.returned v) u (Jvm.fieldLocs frame_1_writes args s ++ Jvm.arrayLocs frame_1_arrays args s ++ Jvm.staticLocs frame_1_statics s) 32 192 → Post tb e args s (.returned v) u) :
    ArmFor flags0 classFile x code maxLocals ret World_1 tables_1 room_1 Calls_1 rest_1 Pre_1 Post := by
  intro l hfl _ _ p e ha hc hk s m args below hf hA hF happ hP
  obtain ⟨hcalls, hrest, hpre⟩ := hP
  obtain ⟨-, -, -, hnamed, -, -, -, hat⟩ := (Spec.applies_iff hf).mp happ
  obtain ⟨hg, hn⟩ := and_e (Cond.before_iff.mp (show (Jvm.Cond.and given_1 narrow_1).before args s = true from hpre))
  obtain ⟨hg0, hg1⟩ := and_e hg
  obtain ⟨w0, w1, w2, w3, w4, w5, rfl⟩ : ∃ w0 w1 w2 w3 w4 w5 : Value, args = #[w0, w1, w2, w3, w4, w5] := by
    have hs : args.size = 6 := by simpa [Cond.value, given_1] using hg0
    obtain ⟨L⟩ := args
    match L, hs with
    | [w0, w1, w2, w3, w4, w5], _ => exact ⟨w0, w1, w2, w3, w4, w5, rfl⟩
  have hw := fun d (hd : d ∈ tables_1) => atoms_spec (ws := Jvm.Cond.code x code maxLocals ret :: tables_1) hat d (List.mem_cons_of_mem _ hd)
  have hfit : Fit s := fun {y c} hc i hi => by
    obtain ⟨ha, rfl⟩ := Array.getElem?_eq_some_iff.mp hc
    have q := List.all_eq_true.mp ((Array.all_eq_true_iff_forall_mem.mp hF) _ (Array.getElem_mem ha)) i (List.mem_range.mpr hi)
    simpa [Array.getElem?_eq_getElem hi] using q
  obtain ⟨g0, hg2⟩ := and_e hg1
  obtain ⟨i0, ei0⟩ := is_v g0
  obtain rfl : w0 = (.int i0) := Option.some.inj ei0
  obtain ⟨g1, hg3⟩ := and_e hg2
  obtain ⟨i1, ei1⟩ := is_v g1
  obtain rfl : w1 = (.int i1) := Option.some.inj ei1
  obtain ⟨g2, hg4⟩ := and_e hg3
  obtain ⟨i2, ei2⟩ := is_v g2
  obtain rfl : w2 = (.int i2) := Option.some.inj ei2
  obtain ⟨g3, hg5⟩ := and_e hg4
  obtain ⟨i3, ei3⟩ := is_v g3
  obtain rfl : w3 = (.int i3) := Option.some.inj ei3
  obtain ⟨g4, hg6⟩ := and_e hg5
  obtain ⟨i4, ei4⟩ := isL_v g4
  obtain rfl : w4 = (.long i4) := Option.some.inj ei4
  obtain ⟨i5, ei5⟩ := isL_v hg6
  obtain rfl : w5 = (.long i5) := Option.some.inj ei5
  obtain ⟨hsets, hown0⟩ := atoms_of _ (rest_1_c_eq ▸ (show rest_1_c.before _ s = true from hrest))
  obtain ⟨⟨cM, kM, mr, mm1, mm2, mm3, -⟩, -⟩ := (show call_1_1 _ _ _ s ∧ True from hcalls)
  have Mr : own_Mir s "[Ljava/lang/Object;" mr := ⟨cM, kM, mm1, mm2, mm3⟩
  obtain ⟨df, vd⟩ := arr_v (Cond.before_iff.mp (hsets _ (List.mem_of_getElem? (i := 6) rfl)))
  have Sd := Sta.start vd (Or.inr ⟨(hw _ (List.mem_of_getElem? (i := 2) rfl)), (hsets _ (List.mem_of_getElem? (i := 2) rfl))⟩)
  obtain ⟨cd, Ad0⟩ := Arr.start vd (Cond.before_iff.mp (hsets _ (List.mem_of_getElem? (i := 6) rfl)))
  have zd : cd.slots.size = 0 := own_len (by decide) vd Ad0 (own_eqi (Cond.before_iff.mp (hsets _ (List.mem_of_getElem? (i := 8) rfl))))
  have Ad : Arv s s.heap df cd.cls (.object "java/lang/Object") 0 [] .null := Arv.start hfit Ad0 (by rw [zd]; decide) (by rw [zd]; rfl) (by decide) rfl trivial
  obtain ⟨el, vl⟩ := exa_v (Cond.before_iff.mp (hsets _ (List.mem_of_getElem? (i := 11) rfl)))
  have Sl := Sta.start vl (Or.inl (hsets _ (List.mem_of_getElem? (i := 10) rfl)))
  have El := Exa.start vl (Cond.before_iff.mp (hsets _ (List.mem_of_getElem? (i := 11) rfl)))
  obtain ⟨ea, ve⟩ := arr_v (Cond.before_iff.mp (hsets _ (List.mem_of_getElem? (i := 12) rfl)))
  obtain ⟨ce, Ae0⟩ := Arr.start ve (Cond.before_iff.mp (hsets _ (List.mem_of_getElem? (i := 12) rfl)))
  have ze : ce.slots.size = 0 := own_len (by decide) ve Ae0 (own_eqi (Cond.before_iff.mp (hsets _ (List.mem_of_getElem? (i := 14) rfl))))
  have Ae : Arv s s.heap ea ce.cls (.object "java/lang/Object") 0 [] .null := Arv.start hfit Ae0 (by rw [ze]; decide) (by rw [ze]; rfl) (by decide) rfl trivial
  have Rl : own_LN s s.heap el 0 := ⟨El, ea, _, _, Fld.start ((fld_at vl).symm.trans ve), Ae⟩
  obtain ⟨em, vm0⟩ := exa_v (Cond.before_iff.mp (hsets _ (List.mem_of_getElem? (i := 24) rfl)))
  have Sm := Sta.start vm0 (Or.inl (hsets _ (List.mem_of_getElem? (i := 23) rfl)))
  have Eem := Exa.start vm0 (Cond.before_iff.mp (hsets _ (List.mem_of_getElem? (i := 24) rfl)))
  obtain ⟨ca, vc⟩ := arr_v (Cond.before_iff.mp (hsets _ (List.mem_of_getElem? (i := 18) rfl)))
  have Sc := Sta.start vc (Or.inl (hsets _ (List.mem_of_getElem? (i := 17) rfl)))
  obtain ⟨cc, Ac⟩ := Arr.start vc (Cond.before_iff.mp (hsets _ (List.mem_of_getElem? (i := 18) rfl)))
  have Zc : cc.slots.size = 256 := own_len (by decide) vc Ac (own_eqi (Cond.before_iff.mp (hsets _ (List.mem_of_getElem? (i := 20) rfl))))
  have Bx := Bxs.start (z := 256) (val := fun j => .long (j - 128).toInt64) (fun idx => vc) Ac (by rw [Zc]; decide) (by rw [Zc]; rfl) (by decide) (Cond.before_iff.mp (hsets _ (List.mem_of_getElem? (i := 21) rfl))) (fun X j hj hX => eqv_l (i2l_at (own_sub_at (idx_at hj))) hX)
  have Hc : ∀ i, i < 256 → ∃ r, cc.slots[i]? = some (.ref r) ∧ Exa s s.heap r "java/lang/Long" := fun i hi => by
    obtain ⟨b, u1, u2, -⟩ := Bx.2.2.2 (Int32.ofNat i) (by rw [own_n32 (by omega), Zc]; exact fun q => q.elim (own_nneg (by omega)) (by omega))
    rw [own_n32 (by omega)] at u1
    exact ⟨b, u1, u2⟩
  obtain ⟨n, o, r1, r2, r3, _, L, rfl, ⟨rfl, hq0⟩, hq⟩ := rm0 l s _ hw tables_1 s.heap i0 i1 i2 i3 i4 i5 df el em mr ca cd.cls cc Sd Ad Sl Sm Rl Eem Mr Sc Ac Zc Hc p e ha hc hk s m _ below hf ((Spec.applies_iff_loose hf).mp happ).1 ⟨rfl, State.Warmed39.refl s, rfl⟩ trivial
  refine ⟨n, _, r1, r2, r3, hpost _ _ _ _ _ _ ⟨Cond.after_iff.mpr rfl, Cond.after_iff.mpr (eq_i res_at (Term.int_eval (1)) rfl), trivial⟩ ⟨hq.1, hq.2.1, (hq.2.2.sift fun y hy => Or.inr (hq0 y hy)).mono (by decide) (by decide)⟩⟩
theorem main_1_1 : Claimed_1_1 := comes_1 fun _ _ _ _ _ _ h hF => ⟨h.1, hF⟩
theorem main_1_2 : Claimed_1_2 := comes_1 fun _ _ _ _ _ _ h hF => ⟨h.2.1, hF⟩
end Jvm.Pilot.@@N@@
namespace Jvm.Pilot.@@N@@
open Jvm Jvm.ClassFile Sem Op Lib Jvm.Free Jvm.Stand Jvm.Pilot.@@N@@.Jvm.D
/-! MADE BY PROGRAM (witnessworld.py) out of the Statement's table words and the real class files: 37 classes; the members and pool entries that the words name. The judged class is class 1, her method 1. -/
namespace start1
open Jvm.ClassFile
def u (s : String) : CpInfo := .utf8 (stringToUtf16 s)
/-- a pool by its gaps: so many unusable entries, then the entry; so many at the end -/
def gap : Nat → List CpInfo → List CpInfo
  | 0, r => r
  | n + 1, r => .unusable :: gap n r
def poolList (es : List (Nat × CpInfo)) (last : Nat) : List CpInfo := es.foldr (fun e r => gap e.1 (e.2 :: r)) (gap last [])
def pool (es : List (Nat × CpInfo)) (last : Nat) : Array CpInfo := ⟨poolList es last⟩
def fileOf (pool : Array CpInfo) (this : Nat) (attrs : Array Attribute := #[]) (ms : Array MethodInfo := #[]) (fl : Nat := 33) (sup : Nat := 0) (ifs : Array Nat := #[]) (fds : Array FieldInfo := #[]) : ClassFile where
  minorVersion := 0
  majorVersion := 65
  constantPool := pool
  accessFlags := fl
  thisClass := this
  superClass := sup
  interfaces := ifs
  fields := fds
  methods := ms
  attributes := attrs
def plain (name : String) (sup : Option ClassId) : Class where
  name := name
  kind := .ordinary
  loader := none
  accessFlags := 33
  super := sup
  interfaces := #[]
  cf := none
  fields := #[]
  methods := #[]
  instanceTypes := #[]
  staticTypes := #[]
  resolved := #[]
  callSites := []
  init := .initialized
  statics := none
  mirror := none

def pool0 : Array CpInfo := pool [(5, u "<init>"), (0, u "()V"), (1, .class_ 10), (1, u "java/lang/Object"), (0, u "getClass"), (0, u "()Ljava/lang/Class;"), (83, u "clone"), (0, u "()Ljava/lang/Object;")] 26

def k0c0 : Code := { maxStack := 0, maxLocals := 1, code := object_method_1_code, exceptionTable := #[], attributes := #[] }
def k0m0 : Method := { name := "<init>", desc := "()V", sig := { parameters := [], returnType := none }, accessFlags := 1, code := some k0c0 }
def k0m1 : Method := { name := "getClass", desc := "()Ljava/lang/Class;", sig := { parameters := [], returnType := some (.object "java/lang/Class") }, accessFlags := 273, code := none }
def k0m2 : Method := { name := "clone", desc := "()Ljava/lang/Object;", sig := { parameters := [], returnType := some (.object "java/lang/Object") }, accessFlags := 260, code := none }
/-- java/lang/Object -/
def k0 : Class := { plain "java/lang/Object" none with
  accessFlags := 33
  interfaces := #[]
  cf := some (fileOf pool0 8 #[] #[{ accessFlags := 1, nameIndex := 5, descriptorIndex := 6, attributes := #[] }, { accessFlags := 273, nameIndex := 11, descriptorIndex := 12, attributes := #[] }, { accessFlags := 260, nameIndex := 96, descriptorIndex := 97, attributes := #[] }] 33 0 #[] #[])
  fields := #[]
  methods := #[k0m0, k0m1, k0m2]
  instanceTypes := #[]
  staticTypes := #[]
  resolved := Array.replicate 124 none
  statics := none }

def pool1 : Array CpInfo := pool [(2, .class_ 4), (0, .nameAndType 5 6), (0, u "java/lang/Object"), (0, u "<init>"), (0, u "()V"), (0, .class_ 8), (0, u "java/util/ArrayList"), (0, .methodref 7 3), (0, .methodref 11 12), (0, .class_ 13), (0, .nameAndType 14 15), (0, u "java/lang/Long"), (0, u "valueOf"), (0, u "(J)Ljava/lang/Long;"), (0, .methodref 7 17), (0, .nameAndType 18 19), (0, u "add"), (0, u "(Ljava/lang/Object;)Z"), (0, .long 2), (1, .class_ 23), (0, u "com/example/libelect/libelect/simulation/Outcome"), (0, .methodref 22 25), (0, .nameAndType 5 26), (0, u "(IILjava/util/List;ILjava/util/List;[JJ)V"), (0, .methodref 22 28), (0, .nameAndType 29 30), (0, u "elected"), (0, u "()Z"), (0, .class_ 32), (0, u "com/example/libelect/libelect/simulation/OutcomeElectedPinLaw"), (2, u "law"), (0, u "(IIIIJJ)Z")] 5

def k1m0 : Method := { name := "<init>", desc := "()V", sig := { parameters := [], returnType := none }, accessFlags := 2, code := none }
def k1c1 : Code := { maxStack := 10, maxLocals := 16, code := code, exceptionTable := #[], attributes := #[] }
def k1m1 : Method := { name := "law", desc := "(IIIIJJ)Z", sig := { parameters := [.int, .int, .int, .int, .long, .long], returnType := some .boolean }, accessFlags := 9, code := some k1c1 }
/-- com/example/libelect/libelect/simulation/OutcomeElectedPinLaw -/
def k1 : Class := { plain "com/example/libelect/libelect/simulation/OutcomeElectedPinLaw" (some 0) with
  accessFlags := 49
  interfaces := #[]
  cf := some (fileOf pool1 31 #[] #[{ accessFlags := 2, nameIndex := 5, descriptorIndex := 6, attributes := #[] }, { accessFlags := 9, nameIndex := 35, descriptorIndex := 36, attributes := #[] }] 49 2 #[] #[])
  fields := #[]
  methods := #[k1m0, k1m1]
  instanceTypes := #[]
  staticTypes := #[]
  resolved := Array.replicate 42 none
  statics := none }

def pool2 : Array CpInfo := pool [(8, .class_ 10), (1, u "java/lang/Iterable"), (24, .class_ 36), (0, u "java/lang/Object")] 25

/-- java/lang/Iterable -/
def k2 : Class := { plain "java/lang/Iterable" (some 0) with
  accessFlags := 1537
  interfaces := #[]
  cf := some (fileOf pool2 8 #[] #[] 1537 35 #[] #[])
  fields := #[]
  methods := #[]
  instanceTypes := #[]
  staticTypes := #[]
  resolved := Array.replicate 62 none
  statics := none }

def pool3 : Array CpInfo := pool [(10, .class_ 12), (1, u "java/util/Collection"), (0, u "toArray"), (16, u "()Z"), (29, .class_ 61), (0, u "java/lang/Object"), (0, .class_ 63), (0, u "java/lang/Iterable"), (2, u "isEmpty"), (3, u "()[Ljava/lang/Object;")] 44

def k3m0 : Method := { name := "isEmpty", desc := "()Z", sig := { parameters := [], returnType := some .boolean }, accessFlags := 1025, code := none }
def k3m1 : Method := { name := "toArray", desc := "()[Ljava/lang/Object;", sig := { parameters := [], returnType := some (.array (.object "java/lang/Object")) }, accessFlags := 1025, code := none }
/-- java/util/Collection -/
def k3 : Class := { plain "java/util/Collection" (some 0) with
  accessFlags := 1537
  interfaces := #[2]
  cf := some (fileOf pool3 10 #[] #[{ accessFlags := 1025, nameIndex := 66, descriptorIndex := 30, attributes := #[] }, { accessFlags := 1025, nameIndex := 13, descriptorIndex := 70, attributes := #[] }] 1537 60 #[62] #[])
  fields := #[]
  methods := #[k3m0, k3m1]
  instanceTypes := #[]
  staticTypes := #[]
  resolved := Array.replicate 115 none
  statics := none }

def pool4 : Array CpInfo := pool [(1, .methodref 2 3), (0, .class_ 4), (0, .nameAndType 5 6), (0, u "java/lang/Object"), (0, u "<init>"), (0, u "()V"), (1, .class_ 10), (1, u "java/util/AbstractCollection"), (66, .class_ 78), (0, u "java/util/Collection")] 81

def k4c0 : Code := { maxStack := 1, maxLocals := 1, code := jdk_22_method_1_code, exceptionTable := #[], attributes := #[] }
def k4m0 : Method := { name := "<init>", desc := "()V", sig := { parameters := [], returnType := none }, accessFlags := 4, code := some k4c0 }
/-- java/util/AbstractCollection -/
def k4 : Class := { plain "java/util/AbstractCollection" (some 0) with
  accessFlags := 1057
  interfaces := #[3]
  cf := some (fileOf pool4 8 #[] #[{ accessFlags := 4, nameIndex := 5, descriptorIndex := 6, attributes := #[] }] 1057 2 #[77] #[])
  fields := #[]
  methods := #[k4m0]
  instanceTypes := #[]
  staticTypes := #[]
  resolved := Array.replicate 160 none
  statics := none }

def pool5 : Array CpInfo := pool [(8, .class_ 10), (1, u "java/util/SequencedCollection"), (15, .class_ 27), (0, u "java/lang/Object"), (0, .class_ 29), (0, u "java/util/Collection")] 27

/-- java/util/SequencedCollection -/
def k5 : Class := { plain "java/util/SequencedCollection" (some 0) with
  accessFlags := 1537
  interfaces := #[3]
  cf := some (fileOf pool5 8 #[] #[] 1537 26 #[28] #[])
  fields := #[]
  methods := #[]
  instanceTypes := #[]
  staticTypes := #[]
  resolved := Array.replicate 57 none
  statics := none }

def pool6 : Array CpInfo := pool [(8, .class_ 10), (1, u "java/util/List"), (20, u "(Ljava/lang/Object;)V"), (16, u "<init>"), (30, u "size"), (0, u "()I"), (7, u "of"), (1, .fieldref 91 92), (0, .class_ 93), (0, .nameAndType 94 95), (0, u "java/util/ImmutableCollections"), (0, u "EMPTY_LIST"), (0, u "Ljava/util/ImmutableCollections$ListN;"), (0, .class_ 97), (0, u "java/util/ImmutableCollections$List12"), (0, .methodref 96 99), (0, .nameAndType 48 31), (0, .methodref 96 101), (0, .nameAndType 48 102), (0, u "(Ljava/lang/Object;Ljava/lang/Object;)V"), (0, .class_ 104), (0, u "java/lang/Object"), (3, u "([Ljava/lang/Object;)Ljava/util/List;"), (0, .methodref 91 110), (0, .nameAndType 111 108), (0, u "listFromArray"), (0, .methodref 91 113), (0, .nameAndType 114 115), (0, u "listCopy"), (0, u "(Ljava/util/Collection;)Ljava/util/List;"), (3, u "()Ljava/util/List;"), (0, .class_ 121), (0, u "java/util/SequencedCollection"), (112, u "copyOf")] 16

def k6m0 : Method := { name := "size", desc := "()I", sig := { parameters := [], returnType := some .int }, accessFlags := 1025, code := none }
def k6c1 : Code := { maxStack := 1, maxLocals := 0, code := jdk_40_method_36_code, exceptionTable := #[], attributes := #[] }
def k6m1 : Method := { name := "of", desc := "()Ljava/util/List;", sig := { parameters := [], returnType := some (.object "java/util/List") }, accessFlags := 9, code := some k6c1 }
def k6c2 : Code := { maxStack := 5, maxLocals := 2, code := jdk_40_method_47_code, exceptionTable := #[], attributes := #[] }
def k6m2 : Method := { name := "of", desc := "([Ljava/lang/Object;)Ljava/util/List;", sig := { parameters := [(.array (.object "java/lang/Object"))], returnType := some (.object "java/util/List") }, accessFlags := 137, code := some k6c2 }
def k6c3 : Code := { maxStack := 1, maxLocals := 1, code := jdk_40_method_48_code, exceptionTable := #[], attributes := #[] }
def k6m3 : Method := { name := "copyOf", desc := "(Ljava/util/Collection;)Ljava/util/List;", sig := { parameters := [(.object "java/util/Collection")], returnType := some (.object "java/util/List") }, accessFlags := 9, code := some k6c3 }
/-- java/util/List -/
def k6 : Class := { plain "java/util/List" (some 0) with
  accessFlags := 1537
  interfaces := #[5]
  cf := some (fileOf pool6 8 #[] #[{ accessFlags := 1025, nameIndex := 79, descriptorIndex := 80, attributes := #[] }, { accessFlags := 9, nameIndex := 88, descriptorIndex := 119, attributes := #[] }, { accessFlags := 137, nameIndex := 88, descriptorIndex := 108, attributes := #[] }, { accessFlags := 9, nameIndex := 234, descriptorIndex := 115, attributes := #[] }] 1537 103 #[120] #[])
  fields := #[]
  methods := #[k6m0, k6m1, k6m2, k6m3]
  instanceTypes := #[]
  staticTypes := #[]
  resolved := Array.replicate 251 none
  statics := none }

def pool7 : Array CpInfo := pool [(1, .methodref 2 3), (0, .class_ 4), (0, .nameAndType 5 6), (0, u "java/util/AbstractCollection"), (0, u "<init>"), (0, u "()V"), (0, .fieldref 8 9), (0, .class_ 10), (0, .nameAndType 11 12), (0, u "java/util/AbstractList"), (0, u "modCount"), (0, u "I"), (64, .class_ 78), (0, u "java/util/AbstractList$Itr"), (3, .class_ 83), (0, u "java/util/AbstractList$ListItr"), (9, .class_ 94), (0, u "java/util/AbstractList$RandomAccessSubList"), (3, .class_ 99), (0, u "java/util/AbstractList$SubList"), (33, .class_ 134), (0, u "java/util/List"), (73, .class_ 209), (0, u "java/util/AbstractList$SubList$1"), (0, .class_ 211), (0, u "java/util/AbstractList$RandomAccessSpliterator")] 6

def k7c0 : Code := { maxStack := 2, maxLocals := 1, code := jdk_39_method_1_code, exceptionTable := #[], attributes := #[] }
def k7m0 : Method := { name := "<init>", desc := "()V", sig := { parameters := [], returnType := none }, accessFlags := 4, code := some k7c0 }
/-- java/util/AbstractList -/
def k7 : Class := { plain "java/util/AbstractList" (some 4) with
  accessFlags := 1057
  interfaces := #[6]
  cf := some (fileOf pool7 8 #[.nestMembers #[93, 98, 208, 210, 82, 77]] #[{ accessFlags := 4, nameIndex := 5, descriptorIndex := 6, attributes := #[] }] 1057 2 #[133] #[{ accessFlags := 132, nameIndex := 11, descriptorIndex := 12, attributes := #[] }])
  fields := #[{ name := "modCount", type := .int, accessFlags := 132, slot := 0, constantValue := 0 }]
  methods := #[k7m0]
  instanceTypes := #[.int]
  staticTypes := #[]
  resolved := Array.replicate 218 none
  statics := none }

def pool8 : Array CpInfo := pool [(1, .class_ 2), (0, u "java/util/RandomAccess"), (0, .class_ 4), (0, u "java/lang/Object")] 2

/-- java/util/RandomAccess -/
def k8 : Class := { plain "java/util/RandomAccess" (some 0) with
  accessFlags := 1537
  interfaces := #[]
  cf := some (fileOf pool8 1 #[] #[] 1537 3 #[] #[])
  fields := #[]
  methods := #[]
  instanceTypes := #[]
  staticTypes := #[]
  resolved := Array.replicate 7 none
  statics := none }

def pool9 : Array CpInfo := pool [(1, .class_ 2), (0, u "java/lang/Cloneable"), (0, .class_ 4), (0, u "java/lang/Object")] 2

/-- java/lang/Cloneable -/
def k9 : Class := { plain "java/lang/Cloneable" (some 0) with
  accessFlags := 1537
  interfaces := #[]
  cf := some (fileOf pool9 1 #[] #[] 1537 3 #[] #[])
  fields := #[]
  methods := #[]
  instanceTypes := #[]
  staticTypes := #[]
  resolved := Array.replicate 7 none
  statics := none }

def pool10 : Array CpInfo := pool [(1, .class_ 2), (0, u "java/io/Serializable"), (0, .class_ 4), (0, u "java/lang/Object")] 2

/-- java/io/Serializable -/
def k10 : Class := { plain "java/io/Serializable" (some 0) with
  accessFlags := 1537
  interfaces := #[]
  cf := some (fileOf pool10 1 #[] #[] 1537 3 #[] #[])
  fields := #[]
  methods := #[]
  instanceTypes := #[]
  staticTypes := #[]
  resolved := Array.replicate 7 none
  statics := none }

def pool11 : Array CpInfo := pool [(1, .methodref 2 3), (0, .class_ 4), (0, .nameAndType 5 6), (0, u "java/util/AbstractList"), (0, u "<init>"), (0, u "()V"), (0, .class_ 8), (0, u "java/lang/Object"), (0, .fieldref 10 11), (0, .class_ 12), (0, .nameAndType 13 14), (0, u "java/util/ArrayList"), (0, u "elementData"), (0, u "[Ljava/lang/Object;"), (2, u "EMPTY_ELEMENTDATA"), (21, .fieldref 10 40), (0, .nameAndType 41 14), (0, u "DEFAULTCAPACITY_EMPTY_ELEMENTDATA"), (4, u "toArray"), (0, u "()[Ljava/lang/Object;"), (0, .fieldref 10 49), (0, .nameAndType 50 51), (0, u "size"), (0, u "I"), (6, .class_ 60), (1, u "java/util/Arrays"), (0, u "copyOf"), (1, .fieldref 10 64), (0, .nameAndType 65 51), (0, u "modCount"), (0, .methodref 58 67), (0, .nameAndType 61 68), (0, u "([Ljava/lang/Object;I)[Ljava/lang/Object;"), (0, .methodref 10 70), (0, .nameAndType 71 72), (0, u "grow"), (0, u "(I)[Ljava/lang/Object;"), (6, .methodref 80 81), (0, .class_ 82), (0, .nameAndType 83 84), (0, u "java/lang/Math"), (0, u "max"), (0, u "(II)I"), (11, u "(Ljava/lang/Object;)Z"), (32, .methodref 10 130), (0, .nameAndType 71 47), (0, .methodref 10 132), (0, .nameAndType 133 134), (0, u "add"), (0, u "(Ljava/lang/Object;[Ljava/lang/Object;I)V"), (13, .class_ 149), (0, u "java/util/List"), (23, u "()Z"), (88, .class_ 263), (0, u "java/util/ArrayList$ListItr"), (3, .class_ 268), (0, u "java/util/ArrayList$Itr"), (7, .class_ 277), (0, u "java/util/ArrayList$SubList"), (12, .class_ 291), (0, u "java/util/ArrayList$ArrayListSpliterator"), (37, .class_ 330), (0, u "java/util/RandomAccess"), (0, .class_ 332), (0, u "java/lang/Cloneable"), (0, .class_ 334), (0, u "java/io/Serializable"), (0, u "serialVersionUID"), (0, u "J"), (3, u "DEFAULT_CAPACITY"), (22, u "isEmpty"), (136, .class_ 501), (0, u "java/util/ArrayList$SubList$2"), (0, .class_ 503), (0, u "java/util/ArrayList$SubList$1")] 5

def k11c0 : Code := { maxStack := 2, maxLocals := 1, code := jdk_38_method_2_code, exceptionTable := #[], attributes := #[] }
def k11m0 : Method := { name := "<init>", desc := "()V", sig := { parameters := [], returnType := none }, accessFlags := 1, code := some k11c0 }
def k11c1 : Code := { maxStack := 4, maxLocals := 4, code := jdk_38_method_6_code, exceptionTable := #[], attributes := #[] }
def k11m1 : Method := { name := "grow", desc := "(I)[Ljava/lang/Object;", sig := { parameters := [.int], returnType := some (.array (.object "java/lang/Object")) }, accessFlags := 2, code := some k11c1 }
def k11c2 : Code := { maxStack := 3, maxLocals := 1, code := jdk_38_method_7_code, exceptionTable := #[], attributes := #[] }
def k11m2 : Method := { name := "grow", desc := "()[Ljava/lang/Object;", sig := { parameters := [], returnType := some (.array (.object "java/lang/Object")) }, accessFlags := 2, code := some k11c2 }
def k11c3 : Code := { maxStack := 1, maxLocals := 1, code := jdk_38_method_9_code, exceptionTable := #[], attributes := #[] }
def k11m3 : Method := { name := "isEmpty", desc := "()Z", sig := { parameters := [], returnType := some .boolean }, accessFlags := 1, code := some k11c3 }
def k11c4 : Code := { maxStack := 2, maxLocals := 1, code := jdk_38_method_16_code, exceptionTable := #[], attributes := #[] }
def k11m4 : Method := { name := "toArray", desc := "()[Ljava/lang/Object;", sig := { parameters := [], returnType := some (.array (.object "java/lang/Object")) }, accessFlags := 1, code := some k11c4 }
def k11c5 : Code := { maxStack := 3, maxLocals := 4, code := jdk_38_method_24_code, exceptionTable := #[], attributes := #[] }
def k11m5 : Method := { name := "add", desc := "(Ljava/lang/Object;[Ljava/lang/Object;I)V", sig := { parameters := [(.object "java/lang/Object"), (.array (.object "java/lang/Object")), .int], returnType := none }, accessFlags := 2, code := some k11c5 }
def k11c6 : Code := { maxStack := 4, maxLocals := 2, code := jdk_38_method_25_code, exceptionTable := #[], attributes := #[] }
def k11m6 : Method := { name := "add", desc := "(Ljava/lang/Object;)Z", sig := { parameters := [(.object "java/lang/Object")], returnType := some .boolean }, accessFlags := 1, code := some k11c6 }
/-- java/util/ArrayList -/
def k11 : Class := { plain "java/util/ArrayList" (some 7) with
  accessFlags := 33
  interfaces := #[6, 8, 9, 10]
  cf := some (fileOf pool11 10 #[.nestMembers #[290, 276, 500, 502, 262, 267]] #[{ accessFlags := 1, nameIndex := 5, descriptorIndex := 6, attributes := #[] }, { accessFlags := 2, nameIndex := 71, descriptorIndex := 72, attributes := #[] }, { accessFlags := 2, nameIndex := 71, descriptorIndex := 47, attributes := #[] }, { accessFlags := 1, nameIndex := 363, descriptorIndex := 173, attributes := #[] }, { accessFlags := 1, nameIndex := 46, descriptorIndex := 47, attributes := #[] }, { accessFlags := 2, nameIndex := 133, descriptorIndex := 134, attributes := #[] }, { accessFlags := 1, nameIndex := 133, descriptorIndex := 96, attributes := #[] }] 33 2 #[148, 329, 331, 333] #[{ accessFlags := 26, nameIndex := 335, descriptorIndex := 336, attributes := #[] }, { accessFlags := 26, nameIndex := 340, descriptorIndex := 51, attributes := #[] }, { accessFlags := 26, nameIndex := 17, descriptorIndex := 14, attributes := #[] }, { accessFlags := 26, nameIndex := 41, descriptorIndex := 14, attributes := #[] }, { accessFlags := 128, nameIndex := 13, descriptorIndex := 14, attributes := #[] }, { accessFlags := 2, nameIndex := 50, descriptorIndex := 51, attributes := #[] }])
  fields := #[{ name := "serialVersionUID", type := .long, accessFlags := 26, slot := 0, constantValue := 0 }, { name := "DEFAULT_CAPACITY", type := .int, accessFlags := 26, slot := 1, constantValue := 0 }, { name := "EMPTY_ELEMENTDATA", type := (.array (.object "java/lang/Object")), accessFlags := 26, slot := 2, constantValue := 0 }, { name := "DEFAULTCAPACITY_EMPTY_ELEMENTDATA", type := (.array (.object "java/lang/Object")), accessFlags := 26, slot := 3, constantValue := 0 }, { name := "elementData", type := (.array (.object "java/lang/Object")), accessFlags := 128, slot := 1, constantValue := 0 }, { name := "size", type := .int, accessFlags := 2, slot := 2, constantValue := 0 }]
  methods := #[k11m0, k11m1, k11m2, k11m3, k11m4, k11m5, k11m6]
  instanceTypes := #[.int, (.array (.object "java/lang/Object")), .int]
  staticTypes := #[.long, .int, (.array (.object "java/lang/Object")), (.array (.object "java/lang/Object"))]
  resolved := Array.replicate 509 none
  statics := some 0 }

def pool12 : Array CpInfo := pool [(1, .methodref 2 3), (0, .class_ 4), (0, .nameAndType 5 6), (0, u "java/lang/Object"), (0, u "<init>"), (0, u "()V"), (0, .fieldref 8 9), (0, .class_ 10), (0, .nameAndType 11 12), (0, u "com/example/libelect/libelect/simulation/Outcome"), (0, u "nodes"), (0, u "I"), (0, .fieldref 8 14), (0, .nameAndType 15 12), (0, u "live"), (0, .interfaceMethodref 17 18), (0, .class_ 19), (0, .nameAndType 20 21), (0, u "java/util/List"), (0, u "copyOf"), (0, u "(Ljava/util/Collection;)Ljava/util/List;"), (0, .fieldref 8 23), (0, .nameAndType 24 25), (0, u "leaders"), (0, u "Ljava/util/List;"), (0, .fieldref 8 27), (0, .nameAndType 28 12), (0, u "agreed"), (0, .fieldref 8 30), (0, .nameAndType 31 25), (0, u "messageKinds"), (0, .methodref 33 34), (0, .class_ 35), (0, .nameAndType 36 37), (0, u "[J"), (0, u "clone"), (0, u "()Ljava/lang/Object;"), (0, .fieldref 8 39), (0, .nameAndType 40 35), (0, u "messages"), (0, .fieldref 8 42), (0, .nameAndType 43 44), (0, u "time"), (0, u "J"), (0, .interfaceMethodref 17 46), (0, .nameAndType 47 48), (0, u "size"), (0, u "()I"), (3, u "(IILjava/util/List;ILjava/util/List;[JJ)V"), (5, u "elected"), (0, u "()Z")] 7

def k12c0 : Code := { maxStack := 3, maxLocals := 9, code := prog_52_method_1_code, exceptionTable := #[], attributes := #[] }
def k12m0 : Method := { name := "<init>", desc := "(IILjava/util/List;ILjava/util/List;[JJ)V", sig := { parameters := [.int, .int, (.object "java/util/List"), .int, (.object "java/util/List"), (.array .long), .long], returnType := none }, accessFlags := 0, code := some k12c0 }
def k12c1 : Code := { maxStack := 2, maxLocals := 1, code := prog_52_method_6_code, exceptionTable := #[], attributes := #[] }
def k12m1 : Method := { name := "elected", desc := "()Z", sig := { parameters := [], returnType := some .boolean }, accessFlags := 1, code := some k12c1 }
/-- com/example/libelect/libelect/simulation/Outcome -/
def k12 : Class := { plain "com/example/libelect/libelect/simulation/Outcome" (some 0) with
  accessFlags := 49
  interfaces := #[]
  cf := some (fileOf pool12 8 #[] #[{ accessFlags := 0, nameIndex := 5, descriptorIndex := 52, attributes := #[] }, { accessFlags := 1, nameIndex := 58, descriptorIndex := 59, attributes := #[] }] 49 2 #[] #[{ accessFlags := 18, nameIndex := 11, descriptorIndex := 12, attributes := #[] }, { accessFlags := 18, nameIndex := 15, descriptorIndex := 12, attributes := #[] }, { accessFlags := 18, nameIndex := 24, descriptorIndex := 25, attributes := #[] }, { accessFlags := 18, nameIndex := 28, descriptorIndex := 12, attributes := #[] }, { accessFlags := 18, nameIndex := 31, descriptorIndex := 25, attributes := #[] }, { accessFlags := 18, nameIndex := 40, descriptorIndex := 35, attributes := #[] }, { accessFlags := 18, nameIndex := 43, descriptorIndex := 44, attributes := #[] }])
  fields := #[{ name := "nodes", type := .int, accessFlags := 18, slot := 0, constantValue := 0 }, { name := "live", type := .int, accessFlags := 18, slot := 1, constantValue := 0 }, { name := "leaders", type := (.object "java/util/List"), accessFlags := 18, slot := 2, constantValue := 0 }, { name := "agreed", type := .int, accessFlags := 18, slot := 3, constantValue := 0 }, { name := "messageKinds", type := (.object "java/util/List"), accessFlags := 18, slot := 4, constantValue := 0 }, { name := "messages", type := (.array .long), accessFlags := 18, slot := 5, constantValue := 0 }, { name := "time", type := .long, accessFlags := 18, slot := 6, constantValue := 0 }]
  methods := #[k12m0, k12m1]
  instanceTypes := #[.int, .int, (.object "java/util/List"), .int, (.object "java/util/List"), (.array .long), .long]
  staticTypes := #[]
  resolved := Array.replicate 67 none
  statics := none }

def pool13 : Array CpInfo := pool [(2, .class_ 4), (1, u "java/lang/Object"), (0, u "<init>"), (0, u "()V"), (3, .class_ 11), (0, u "java/util/ImmutableCollections$List12"), (0, .class_ 13), (0, u "java/util/ImmutableCollections$ListN"), (3, u "Z"), (0, .class_ 19), (0, u "java/util/List"), (0, .interfaceMethodref 21 22), (0, .class_ 23), (0, .nameAndType 24 25), (0, u "java/util/Collection"), (0, u "isEmpty"), (0, u "()Z"), (0, .interfaceMethodref 18 27), (0, .nameAndType 28 29), (0, u "of"), (0, u "()Ljava/util/List;"), (0, .interfaceMethodref 21 31), (0, .nameAndType 32 33), (0, u "toArray"), (0, u "()[Ljava/lang/Object;"), (0, .interfaceMethodref 18 35), (0, .nameAndType 28 36), (0, u "([Ljava/lang/Object;)Ljava/util/List;"), (0, .methodref 38 39), (0, .class_ 40), (0, .nameAndType 41 42), (0, u "java/util/Objects"), (0, u "requireNonNull"), (0, u "(Ljava/lang/Object;)Ljava/lang/Object;"), (0, .methodref 12 44), (0, .nameAndType 5 45), (0, u "([Ljava/lang/Object;Z)V"), (1, .class_ 49), (1, u "java/util/ImmutableCollections"), (0, u "$assertionsDisabled"), (5, u "[Ljava/lang/Object;"), (5, u "EMPTY_LIST"), (0, u "Ljava/util/ImmutableCollections$ListN;"), (8, u "EMPTY_LIST_NULLS"), (22, u "SALT32L"), (0, u "J"), (2, u "REVERSE"), (6, u "archivedObjects"), (2, u "EMPTY"), (0, u "Ljava/lang/Object;"), (0, .class_ 112), (0, u "java/util/ImmutableCollections$SetN"), (5, u "EMPTY_SET"), (0, u "Ljava/util/ImmutableCollections$SetN;"), (0, .class_ 121), (0, u "java/util/ImmutableCollections$MapN"), (3, u "EMPTY_MAP"), (0, u "Ljava/util/ImmutableCollections$MapN;"), (4, u "EXPAND_FACTOR"), (0, u "I"), (9, u "listCopy"), (0, u "(Ljava/util/Collection;)Ljava/util/List;"), (7, u "listFromArray"), (17, .class_ 170), (0, u "java/util/ImmutableCollections$MapN$MapNIterator"), (0, .class_ 172), (0, u "java/util/ImmutableCollections$MapN$1"), (0, .class_ 174), (0, u "java/util/ImmutableCollections$Map1"), (0, .class_ 176), (0, u "java/util/ImmutableCollections$AbstractImmutableMap"), (0, .class_ 178), (0, u "java/util/ImmutableCollections$SetN$SetNIterator"), (0, .class_ 180), (0, u "java/util/ImmutableCollections$Set12"), (0, .class_ 182), (0, u "java/util/ImmutableCollections$Set12$1"), (0, .class_ 184), (0, u "java/util/ImmutableCollections$AbstractImmutableSet"), (0, .class_ 186), (0, u "java/util/ImmutableCollections$SubList"), (0, .class_ 188), (0, u "java/util/ImmutableCollections$ListItr"), (0, .class_ 190), (0, u "java/util/ImmutableCollections$AbstractImmutableList"), (0, .class_ 192), (0, u "java/util/ImmutableCollections$AbstractImmutableCollection"), (0, .class_ 194), (0, u "java/util/ImmutableCollections$Access"), (0, .class_ 196), (0, u "java/util/ImmutableCollections$Access$1")] 16

def k13m0 : Method := { name := "<init>", desc := "()V", sig := { parameters := [], returnType := none }, accessFlags := 2, code := none }
def k13c1 : Code := { maxStack := 1, maxLocals := 2, code := jdk_56_method_3_code, exceptionTable := #[], attributes := #[] }
def k13m1 : Method := { name := "listCopy", desc := "(Ljava/util/Collection;)Ljava/util/List;", sig := { parameters := [(.object "java/util/Collection")], returnType := some (.object "java/util/List") }, accessFlags := 8, code := some k13c1 }
def k13c2 : Code := { maxStack := 4, maxLocals := 3, code := jdk_56_method_4_code, exceptionTable := #[], attributes := #[] }
def k13m2 : Method := { name := "listFromArray", desc := "([Ljava/lang/Object;)Ljava/util/List;", sig := { parameters := [(.array (.object "java/lang/Object"))], returnType := some (.object "java/util/List") }, accessFlags := 136, code := some k13c2 }
/-- java/util/ImmutableCollections -/
def k13 : Class := { plain "java/util/ImmutableCollections" (some 0) with
  accessFlags := 32
  interfaces := #[]
  cf := some (fileOf pool13 47 #[.nestMembers #[120, 169, 171, 173, 175, 111, 177, 179, 181, 183, 12, 10, 185, 187, 189, 191, 193, 195]] #[{ accessFlags := 2, nameIndex := 5, descriptorIndex := 6, attributes := #[] }, { accessFlags := 8, nameIndex := 142, descriptorIndex := 143, attributes := #[] }, { accessFlags := 136, nameIndex := 151, descriptorIndex := 36, attributes := #[] }] 32 2 #[] #[{ accessFlags := 26, nameIndex := 95, descriptorIndex := 96, attributes := #[] }, { accessFlags := 26, nameIndex := 99, descriptorIndex := 17, attributes := #[] }, { accessFlags := 10, nameIndex := 106, descriptorIndex := 56, attributes := #[] }, { accessFlags := 26, nameIndex := 109, descriptorIndex := 110, attributes := #[] }, { accessFlags := 24, nameIndex := 62, descriptorIndex := 63, attributes := #[] }, { accessFlags := 24, nameIndex := 72, descriptorIndex := 63, attributes := #[] }, { accessFlags := 24, nameIndex := 118, descriptorIndex := 119, attributes := #[] }, { accessFlags := 24, nameIndex := 125, descriptorIndex := 126, attributes := #[] }, { accessFlags := 24, nameIndex := 131, descriptorIndex := 132, attributes := #[] }, { accessFlags := 4120, nameIndex := 50, descriptorIndex := 17, attributes := #[] }])
  fields := #[{ name := "SALT32L", type := .long, accessFlags := 26, slot := 0, constantValue := 0 }, { name := "REVERSE", type := .boolean, accessFlags := 26, slot := 1, constantValue := 0 }, { name := "archivedObjects", type := (.array (.object "java/lang/Object")), accessFlags := 10, slot := 2, constantValue := 0 }, { name := "EMPTY", type := (.object "java/lang/Object"), accessFlags := 26, slot := 3, constantValue := 0 }, { name := "EMPTY_LIST", type := (.object "java/util/ImmutableCollections$ListN"), accessFlags := 24, slot := 4, constantValue := 0 }, { name := "EMPTY_LIST_NULLS", type := (.object "java/util/ImmutableCollections$ListN"), accessFlags := 24, slot := 5, constantValue := 0 }, { name := "EMPTY_SET", type := (.object "java/util/ImmutableCollections$SetN"), accessFlags := 24, slot := 6, constantValue := 0 }, { name := "EMPTY_MAP", type := (.object "java/util/ImmutableCollections$MapN"), accessFlags := 24, slot := 7, constantValue := 0 }, { name := "EXPAND_FACTOR", type := .int, accessFlags := 24, slot := 8, constantValue := 0 }, { name := "$assertionsDisabled", type := .boolean, accessFlags := 4120, slot := 9, constantValue := 0 }]
  methods := #[k13m0, k13m1, k13m2]
  instanceTypes := #[]
  staticTypes := #[.long, .boolean, (.array (.object "java/lang/Object")), (.object "java/lang/Object"), (.object "java/util/ImmutableCollections$ListN"), (.object "java/util/ImmutableCollections$ListN"), (.object "java/util/ImmutableCollections$SetN"), (.object "java/util/ImmutableCollections$MapN"), .int, .boolean]
  resolved := Array.replicate 213 none
  statics := some 1 }

def pool14 : Array CpInfo := pool [(1, .methodref 2 3), (0, .class_ 4), (0, .nameAndType 5 6), (0, u "java/util/AbstractCollection"), (0, u "<init>"), (0, u "()V"), (1, .class_ 10), (1, u "java/util/ImmutableCollections"), (2, .class_ 14), (0, u "java/util/ImmutableCollections$AbstractImmutableCollection")] 41

def k14c0 : Code := { maxStack := 1, maxLocals := 1, code := jdk_47_method_1_code, exceptionTable := #[], attributes := #[] }
def k14m0 : Method := { name := "<init>", desc := "()V", sig := { parameters := [], returnType := none }, accessFlags := 0, code := some k14c0 }
/-- java/util/ImmutableCollections$AbstractImmutableCollection -/
def k14 : Class := { plain "java/util/ImmutableCollections$AbstractImmutableCollection" (some 4) with
  accessFlags := 1056
  interfaces := #[]
  cf := some (fileOf pool14 13 #[.nestHost 8] #[{ accessFlags := 0, nameIndex := 5, descriptorIndex := 6, attributes := #[] }] 1056 2 #[] #[])
  fields := #[]
  methods := #[k14m0]
  instanceTypes := #[]
  staticTypes := #[]
  resolved := Array.replicate 56 none
  statics := none }

def pool15 : Array CpInfo := pool [(1, .methodref 2 3), (0, .class_ 4), (0, .nameAndType 5 6), (0, u "java/util/ImmutableCollections$AbstractImmutableCollection"), (0, u "<init>"), (0, u "()V"), (1, .class_ 10), (1, u "java/util/ImmutableCollections"), (3, .class_ 16), (1, u "java/util/ImmutableCollections$AbstractImmutableList"), (60, .class_ 78), (0, u "java/util/List"), (45, .class_ 125), (0, u "java/util/RandomAccess")] 70

def k15c0 : Code := { maxStack := 1, maxLocals := 1, code := jdk_46_method_1_code, exceptionTable := #[], attributes := #[] }
def k15m0 : Method := { name := "<init>", desc := "()V", sig := { parameters := [], returnType := none }, accessFlags := 0, code := some k15c0 }
/-- java/util/ImmutableCollections$AbstractImmutableList -/
def k15 : Class := { plain "java/util/ImmutableCollections$AbstractImmutableList" (some 14) with
  accessFlags := 1056
  interfaces := #[6, 8]
  cf := some (fileOf pool15 14 #[.nestHost 8] #[{ accessFlags := 0, nameIndex := 5, descriptorIndex := 6, attributes := #[] }] 1056 2 #[77, 124] #[])
  fields := #[]
  methods := #[k15m0]
  instanceTypes := #[]
  staticTypes := #[]
  resolved := Array.replicate 196 none
  statics := none }

def pool16 : Array CpInfo := pool [(1, .methodref 2 3), (0, .class_ 4), (0, .nameAndType 5 6), (0, u "java/util/ImmutableCollections$AbstractImmutableList"), (0, u "<init>"), (0, u "()V"), (0, .methodref 8 9), (0, .class_ 10), (0, .nameAndType 11 12), (0, u "java/util/Objects"), (0, u "requireNonNull"), (0, u "(Ljava/lang/Object;)Ljava/lang/Object;"), (0, .fieldref 14 15), (0, .class_ 16), (0, .nameAndType 17 18), (0, u "java/util/ImmutableCollections$List12"), (0, u "e0"), (0, u "Ljava/lang/Object;"), (0, .fieldref 20 21), (0, .class_ 22), (0, .nameAndType 23 18), (0, u "java/util/ImmutableCollections"), (0, u "EMPTY"), (0, .fieldref 14 25), (0, .nameAndType 26 18), (0, u "e1"), (24, u "size"), (0, u "()I"), (17, .class_ 71), (0, u "java/io/Serializable"), (4, u "(Ljava/lang/Object;)V"), (8, u "(Ljava/lang/Object;Ljava/lang/Object;)V")] 39

def k16c0 : Code := { maxStack := 2, maxLocals := 2, code := jdk_44_method_1_code, exceptionTable := #[], attributes := #[] }
def k16m0 : Method := { name := "<init>", desc := "(Ljava/lang/Object;)V", sig := { parameters := [(.object "java/lang/Object")], returnType := none }, accessFlags := 0, code := some k16c0 }
def k16c1 : Code := { maxStack := 2, maxLocals := 3, code := jdk_44_method_2_code, exceptionTable := #[], attributes := #[] }
def k16m1 : Method := { name := "<init>", desc := "(Ljava/lang/Object;Ljava/lang/Object;)V", sig := { parameters := [(.object "java/lang/Object"), (.object "java/lang/Object")], returnType := none }, accessFlags := 0, code := some k16c1 }
def k16c2 : Code := { maxStack := 2, maxLocals := 1, code := jdk_44_method_3_code, exceptionTable := #[], attributes := #[] }
def k16m2 : Method := { name := "size", desc := "()I", sig := { parameters := [], returnType := some .int }, accessFlags := 1, code := some k16c2 }
/-- java/util/ImmutableCollections$List12 -/
def k16 : Class := { plain "java/util/ImmutableCollections$List12" (some 15) with
  accessFlags := 48
  interfaces := #[10]
  cf := some (fileOf pool16 14 #[.nestHost 20] #[{ accessFlags := 0, nameIndex := 5, descriptorIndex := 76, attributes := #[] }, { accessFlags := 0, nameIndex := 5, descriptorIndex := 85, attributes := #[] }, { accessFlags := 1, nameIndex := 51, descriptorIndex := 52, attributes := #[] }] 48 2 #[70] #[{ accessFlags := 18, nameIndex := 17, descriptorIndex := 18, attributes := #[] }, { accessFlags := 18, nameIndex := 26, descriptorIndex := 18, attributes := #[] }])
  fields := #[{ name := "e0", type := (.object "java/lang/Object"), accessFlags := 18, slot := 0, constantValue := 0 }, { name := "e1", type := (.object "java/lang/Object"), accessFlags := 18, slot := 1, constantValue := 0 }]
  methods := #[k16m0, k16m1, k16m2]
  instanceTypes := #[(.object "java/lang/Object"), (.object "java/lang/Object")]
  staticTypes := #[]
  resolved := Array.replicate 125 none
  statics := none }

def pool17 : Array CpInfo := pool [(1, .methodref 2 3), (0, .class_ 4), (0, .nameAndType 5 6), (0, u "java/util/ImmutableCollections$AbstractImmutableList"), (0, u "<init>"), (0, u "()V"), (0, .fieldref 8 9), (0, .class_ 10), (0, .nameAndType 11 12), (0, u "java/util/ImmutableCollections$ListN"), (0, u "elements"), (0, u "[Ljava/lang/Object;"), (0, .fieldref 8 14), (0, .nameAndType 15 16), (0, u "allowNulls"), (0, u "Z"), (42, .class_ 60), (0, u "java/io/Serializable"), (4, u "([Ljava/lang/Object;Z)V"), (11, u "size"), (0, u "()I"), (35, .class_ 115), (0, u "java/util/ImmutableCollections")] 3

def k17c0 : Code := { maxStack := 2, maxLocals := 3, code := jdk_45_method_1_code, exceptionTable := #[], attributes := #[] }
def k17m0 : Method := { name := "<init>", desc := "([Ljava/lang/Object;Z)V", sig := { parameters := [(.array (.object "java/lang/Object")), .boolean], returnType := none }, accessFlags := 2, code := some k17c0 }
def k17c1 : Code := { maxStack := 1, maxLocals := 1, code := jdk_45_method_3_code, exceptionTable := #[], attributes := #[] }
def k17m1 : Method := { name := "size", desc := "()I", sig := { parameters := [], returnType := some .int }, accessFlags := 1, code := some k17c1 }
/-- java/util/ImmutableCollections$ListN -/
def k17 : Class := { plain "java/util/ImmutableCollections$ListN" (some 15) with
  accessFlags := 48
  interfaces := #[10]
  cf := some (fileOf pool17 8 #[.nestHost 114] #[{ accessFlags := 2, nameIndex := 5, descriptorIndex := 65, attributes := #[] }, { accessFlags := 1, nameIndex := 77, descriptorIndex := 78, attributes := #[] }] 48 2 #[59] #[{ accessFlags := 18, nameIndex := 11, descriptorIndex := 12, attributes := #[] }, { accessFlags := 18, nameIndex := 15, descriptorIndex := 16, attributes := #[] }])
  fields := #[{ name := "elements", type := (.array (.object "java/lang/Object")), accessFlags := 18, slot := 0, constantValue := 0 }, { name := "allowNulls", type := .boolean, accessFlags := 18, slot := 1, constantValue := 0 }]
  methods := #[k17m0, k17m1]
  instanceTypes := #[(.array (.object "java/lang/Object")), .boolean]
  staticTypes := #[]
  resolved := Array.replicate 119 none
  statics := none }

def pool18 : Array CpInfo := pool [(1, .methodref 2 3), (0, .class_ 4), (0, .nameAndType 5 6), (0, u "java/lang/Object"), (0, u "<init>"), (0, u "()V"), (1, .class_ 10), (1, u "java/lang/Number"), (2, .class_ 14), (0, u "java/io/Serializable"), (0, u "serialVersionUID"), (0, u "J")] 20

def k18c0 : Code := { maxStack := 1, maxLocals := 1, code := jdk_18_method_1_code, exceptionTable := #[], attributes := #[] }
def k18m0 : Method := { name := "<init>", desc := "()V", sig := { parameters := [], returnType := none }, accessFlags := 1, code := some k18c0 }
/-- java/lang/Number -/
def k18 : Class := { plain "java/lang/Number" (some 0) with
  accessFlags := 1057
  interfaces := #[10]
  cf := some (fileOf pool18 8 #[] #[{ accessFlags := 1, nameIndex := 5, descriptorIndex := 6, attributes := #[] }] 1057 2 #[13] #[{ accessFlags := 26, nameIndex := 15, descriptorIndex := 16, attributes := #[] }])
  fields := #[{ name := "serialVersionUID", type := .long, accessFlags := 26, slot := 0, constantValue := 0 }]
  methods := #[k18m0]
  instanceTypes := #[]
  staticTypes := #[.long]
  resolved := Array.replicate 37 none
  statics := none }

def pool19 : Array CpInfo := pool [(1, .class_ 2), (0, u "java/lang/Comparable"), (0, .class_ 4), (0, u "java/lang/Object")] 7

/-- java/lang/Comparable -/
def k19 : Class := { plain "java/lang/Comparable" (some 0) with
  accessFlags := 1537
  interfaces := #[]
  cf := some (fileOf pool19 1 #[] #[] 1537 3 #[] #[])
  fields := #[]
  methods := #[]
  instanceTypes := #[]
  staticTypes := #[]
  resolved := Array.replicate 12 none
  statics := none }

def pool20 : Array CpInfo := pool [(1, .class_ 2), (0, u "java/lang/constant/Constable"), (0, .class_ 4), (0, u "java/lang/Object")] 6

/-- java/lang/constant/Constable -/
def k20 : Class := { plain "java/lang/constant/Constable" (some 0) with
  accessFlags := 1537
  interfaces := #[]
  cf := some (fileOf pool20 1 #[] #[] 1537 3 #[] #[])
  fields := #[]
  methods := #[]
  instanceTypes := #[]
  staticTypes := #[]
  resolved := Array.replicate 11 none
  statics := none }

def pool21 : Array CpInfo := pool [(1, .class_ 2), (0, u "java/lang/constant/ConstantDesc"), (0, .class_ 4), (0, u "java/lang/Object")] 32

/-- java/lang/constant/ConstantDesc -/
def k21 : Class := { plain "java/lang/constant/ConstantDesc" (some 0) with
  accessFlags := 1537
  interfaces := #[]
  cf := some (fileOf pool21 1 #[] #[] 1537 3 #[] #[])
  fields := #[]
  methods := #[]
  instanceTypes := #[]
  staticTypes := #[]
  resolved := Array.replicate 37 none
  statics := none }

def pool22 : Array CpInfo := pool [(1, .class_ 2), (0, u "java/lang/Long"), (55, .nameAndType 59 60), (0, u "<init>"), (0, u "()V"), (24, u "valueOf"), (143, u "(J)Ljava/lang/Long;"), (0, .long 18446744073709551488), (1, .long 127), (1, .fieldref 235 236), (0, .class_ 237), (0, .nameAndType 238 239), (0, u "java/lang/Long$LongCache"), (0, u "cache"), (0, u "[Ljava/lang/Long;"), (0, .methodref 1 241), (0, .nameAndType 59 242), (0, u "(J)V"), (27, .methodref 271 58), (0, .class_ 272), (0, u "java/lang/Number"), (0, .fieldref 1 274), (0, .nameAndType 275 276), (0, u "value"), (0, u "J"), (84, u "TYPE"), (0, u "Ljava/lang/Class;"), (0, .class_ 364), (0, u "java/lang/Comparable"), (0, .class_ 366), (0, u "java/lang/constant/Constable"), (0, .class_ 368), (0, u "java/lang/constant/ConstantDesc"), (0, u "MIN_VALUE"), (1, u "MAX_VALUE"), (4, u "SIZE"), (0, u "I"), (1, u "BYTES"), (1, u "serialVersionUID")] 142

def k22c0 : Code := { maxStack := 4, maxLocals := 3, code := jdk_35_method_24_code, exceptionTable := #[], attributes := #[] }
def k22m0 : Method := { name := "valueOf", desc := "(J)Ljava/lang/Long;", sig := { parameters := [.long], returnType := some (.object "java/lang/Long") }, accessFlags := 9, code := some k22c0 }
def k22c1 : Code := { maxStack := 3, maxLocals := 3, code := jdk_35_method_26_code, exceptionTable := #[], attributes := #[] }
def k22m1 : Method := { name := "<init>", desc := "(J)V", sig := { parameters := [.long], returnType := none }, accessFlags := 1, code := some k22c1 }
/-- java/lang/Long -/
def k22 : Class := { plain "java/lang/Long" (some 18) with
  accessFlags := 49
  interfaces := #[19, 20, 21]
  cf := some (fileOf pool22 1 #[.nestMembers #[235]] #[{ accessFlags := 9, nameIndex := 85, descriptorIndex := 229, attributes := #[] }, { accessFlags := 1, nameIndex := 59, descriptorIndex := 242, attributes := #[] }] 49 271 #[363, 365, 367] #[{ accessFlags := 25, nameIndex := 369, descriptorIndex := 276, attributes := #[] }, { accessFlags := 25, nameIndex := 371, descriptorIndex := 276, attributes := #[] }, { accessFlags := 25, nameIndex := 361, descriptorIndex := 362, attributes := #[] }, { accessFlags := 18, nameIndex := 275, descriptorIndex := 276, attributes := #[] }, { accessFlags := 25, nameIndex := 376, descriptorIndex := 377, attributes := #[] }, { accessFlags := 25, nameIndex := 379, descriptorIndex := 377, attributes := #[] }, { accessFlags := 26, nameIndex := 381, descriptorIndex := 276, attributes := #[] }])
  fields := #[{ name := "MIN_VALUE", type := .long, accessFlags := 25, slot := 0, constantValue := 0 }, { name := "MAX_VALUE", type := .long, accessFlags := 25, slot := 1, constantValue := 0 }, { name := "TYPE", type := (.object "java/lang/Class"), accessFlags := 25, slot := 2, constantValue := 0 }, { name := "value", type := .long, accessFlags := 18, slot := 0, constantValue := 0 }, { name := "SIZE", type := .int, accessFlags := 25, slot := 3, constantValue := 0 }, { name := "BYTES", type := .int, accessFlags := 25, slot := 4, constantValue := 0 }, { name := "serialVersionUID", type := .long, accessFlags := 26, slot := 5, constantValue := 0 }]
  methods := #[k22m0, k22m1]
  instanceTypes := #[.long]
  staticTypes := #[.long, .long, (.object "java/lang/Class"), .int, .int, .long]
  resolved := Array.replicate 524 none
  statics := none }

def pool23 : Array CpInfo := pool [(2, .class_ 4), (1, u "java/lang/Object"), (0, u "<init>"), (0, u "()V"), (0, .class_ 8), (0, u "java/lang/Long"), (7, .class_ 18), (1, u "java/lang/Long$LongCache"), (0, u "$assertionsDisabled"), (0, u "Z"), (8, u "archivedCache"), (0, u "[Ljava/lang/Long;"), (7, u "cache")] 24

def k23m0 : Method := { name := "<init>", desc := "()V", sig := { parameters := [], returnType := none }, accessFlags := 2, code := none }
/-- java/lang/Long$LongCache -/
def k23 : Class := { plain "java/lang/Long$LongCache" (some 0) with
  accessFlags := 48
  interfaces := #[]
  cf := some (fileOf pool23 16 #[.nestHost 7] #[{ accessFlags := 2, nameIndex := 5, descriptorIndex := 6, attributes := #[] }] 48 2 #[] #[{ accessFlags := 24, nameIndex := 38, descriptorIndex := 30, attributes := #[] }, { accessFlags := 8, nameIndex := 29, descriptorIndex := 30, attributes := #[] }, { accessFlags := 4120, nameIndex := 19, descriptorIndex := 20, attributes := #[] }])
  fields := #[{ name := "cache", type := (.array (.object "java/lang/Long")), accessFlags := 24, slot := 0, constantValue := 0 }, { name := "archivedCache", type := (.array (.object "java/lang/Long")), accessFlags := 8, slot := 1, constantValue := 0 }, { name := "$assertionsDisabled", type := .boolean, accessFlags := 4120, slot := 2, constantValue := 0 }]
  methods := #[k23m0]
  instanceTypes := #[]
  staticTypes := #[(.array (.object "java/lang/Long")), (.array (.object "java/lang/Long")), .boolean]
  resolved := Array.replicate 63 none
  statics := some 2 }

def pool24 : Array CpInfo := pool [(1, .class_ 2), (0, u "java/lang/Math"), (1, .class_ 6), (1, u "java/lang/Object"), (0, u "<init>"), (0, u "()V"), (89, .class_ 100), (1, u "java/lang/Math$RandomNumberGeneratorHolder"), (71, u "negativeZeroFloatBits"), (0, u "J"), (2, u "negativeZeroDoubleBits"), (21, u "max"), (2, u "min"), (43, u "$assertionsDisabled"), (0, u "Z"), (88, u "(II)I"), (2, u "twoToTheDoubleScaleDown"), (0, u "D"), (4, u "twoToTheDoubleScaleUp"), (9, u "E"), (3, u "PI"), (2, u "TAU"), (2, u "DEGREES_TO_RADIANS"), (0, u "RADIANS_TO_DEGREES")] 94

def k24m0 : Method := { name := "<init>", desc := "()V", sig := { parameters := [], returnType := none }, accessFlags := 2, code := none }
def k24c1 : Code := { maxStack := 2, maxLocals := 2, code := jdk_29_method_65_code, exceptionTable := #[], attributes := #[] }
def k24m1 : Method := { name := "max", desc := "(II)I", sig := { parameters := [.int, .int], returnType := some .int }, accessFlags := 9, code := some k24c1 }
def k24c2 : Code := { maxStack := 2, maxLocals := 2, code := jdk_29_method_69_code, exceptionTable := #[], attributes := #[] }
def k24m2 : Method := { name := "min", desc := "(II)I", sig := { parameters := [.int, .int], returnType := some .int }, accessFlags := 9, code := some k24c2 }
/-- java/lang/Math -/
def k24 : Class := { plain "java/lang/Math" (some 0) with
  accessFlags := 49
  interfaces := #[]
  cf := some (fileOf pool24 1 #[.nestMembers #[98]] #[{ accessFlags := 2, nameIndex := 7, descriptorIndex := 8, attributes := #[] }, { accessFlags := 9, nameIndex := 198, descriptorIndex := 335, attributes := #[] }, { accessFlags := 9, nameIndex := 201, descriptorIndex := 335, attributes := #[] }] 49 4 #[] #[{ accessFlags := 25, nameIndex := 354, descriptorIndex := 339, attributes := #[] }, { accessFlags := 25, nameIndex := 358, descriptorIndex := 339, attributes := #[] }, { accessFlags := 25, nameIndex := 361, descriptorIndex := 339, attributes := #[] }, { accessFlags := 26, nameIndex := 364, descriptorIndex := 339, attributes := #[] }, { accessFlags := 26, nameIndex := 365, descriptorIndex := 339, attributes := #[] }, { accessFlags := 26, nameIndex := 172, descriptorIndex := 173, attributes := #[] }, { accessFlags := 26, nameIndex := 176, descriptorIndex := 173, attributes := #[] }, { accessFlags := 8, nameIndex := 344, descriptorIndex := 339, attributes := #[] }, { accessFlags := 8, nameIndex := 338, descriptorIndex := 339, attributes := #[] }, { accessFlags := 4120, nameIndex := 245, descriptorIndex := 246, attributes := #[] }])
  fields := #[{ name := "E", type := .double, accessFlags := 25, slot := 0, constantValue := 0 }, { name := "PI", type := .double, accessFlags := 25, slot := 1, constantValue := 0 }, { name := "TAU", type := .double, accessFlags := 25, slot := 2, constantValue := 0 }, { name := "DEGREES_TO_RADIANS", type := .double, accessFlags := 26, slot := 3, constantValue := 0 }, { name := "RADIANS_TO_DEGREES", type := .double, accessFlags := 26, slot := 4, constantValue := 0 }, { name := "negativeZeroFloatBits", type := .long, accessFlags := 26, slot := 5, constantValue := 0 }, { name := "negativeZeroDoubleBits", type := .long, accessFlags := 26, slot := 6, constantValue := 0 }, { name := "twoToTheDoubleScaleUp", type := .double, accessFlags := 8, slot := 7, constantValue := 0 }, { name := "twoToTheDoubleScaleDown", type := .double, accessFlags := 8, slot := 8, constantValue := 0 }, { name := "$assertionsDisabled", type := .boolean, accessFlags := 4120, slot := 9, constantValue := 0 }]
  methods := #[k24m0, k24m1, k24m2]
  instanceTypes := #[]
  staticTypes := #[.double, .double, .double, .double, .double, .long, .long, .double, .double, .boolean]
  resolved := Array.replicate 460 none
  statics := none }

def pool25 : Array CpInfo := pool [(2, .class_ 4), (1, u "java/lang/Object"), (0, u "<init>"), (0, u "()V"), (7, .class_ 16), (1, u "java/util/Arrays"), (57, .class_ 76), (1, u "java/util/Arrays$NaturalOrder"), (9, .methodref 2 87), (0, .nameAndType 88 89), (0, u "getClass"), (0, u "()Ljava/lang/Class;"), (20, .class_ 111), (0, u "[Ljava/lang/Object;"), (1, .class_ 115), (1, u "java/util/Arrays$LegacyMergeSort"), (1, u "Z"), (32, .methodref 151 152), (0, .class_ 153), (0, .nameAndType 154 155), (0, u "java/lang/System"), (0, u "arraycopy"), (0, u "(Ljava/lang/Object;ILjava/lang/Object;II)V"), (144, .methodref 14 301), (0, .nameAndType 302 303), (0, u "copyOf"), (0, u "([Ljava/lang/Object;ILjava/lang/Class;)[Ljava/lang/Object;"), (0, .methodref 305 306), (0, .class_ 307), (0, .nameAndType 308 309), (0, u "java/lang/Math"), (0, u "min"), (0, u "(II)I"), (65, .class_ 376), (0, u "java/util/Arrays$ArrayList"), (68, u "$assertionsDisabled"), (269, u "MIN_ARRAY_SORT_GRAN"), (0, u "I"), (2, u "INSERTIONSORT_THRESHOLD"), (140, u "([Ljava/lang/Object;I)[Ljava/lang/Object;"), (114, .class_ 976), (0, u "java/util/Arrays$ArrayItr")] 52

def k25m0 : Method := { name := "<init>", desc := "()V", sig := { parameters := [], returnType := none }, accessFlags := 2, code := none }
def k25c1 : Code := { maxStack := 3, maxLocals := 2, code := jdk_65_method_119_code, exceptionTable := #[], attributes := #[] }
def k25m1 : Method := { name := "copyOf", desc := "([Ljava/lang/Object;I)[Ljava/lang/Object;", sig := { parameters := [(.array (.object "java/lang/Object")), .int], returnType := some (.array (.object "java/lang/Object")) }, accessFlags := 9, code := some k25c1 }
def k25c2 : Code := { maxStack := 6, maxLocals := 4, code := jdk_65_method_120_code, exceptionTable := #[], attributes := #[] }
def k25m2 : Method := { name := "copyOf", desc := "([Ljava/lang/Object;ILjava/lang/Class;)[Ljava/lang/Object;", sig := { parameters := [(.array (.object "java/lang/Object")), .int, (.object "java/lang/Class")], returnType := some (.array (.object "java/lang/Object")) }, accessFlags := 9, code := some k25c2 }
/-- java/util/Arrays -/
def k25 : Class := { plain "java/util/Arrays" (some 0) with
  accessFlags := 49
  interfaces := #[]
  cf := some (fileOf pool25 14 #[.nestMembers #[975, 375, 113, 74]] #[{ accessFlags := 2, nameIndex := 5, descriptorIndex := 6, attributes := #[] }, { accessFlags := 9, nameIndex := 302, descriptorIndex := 860, attributes := #[] }, { accessFlags := 9, nameIndex := 302, descriptorIndex := 303, attributes := #[] }] 49 2 #[] #[{ accessFlags := 26, nameIndex := 715, descriptorIndex := 716, attributes := #[] }, { accessFlags := 26, nameIndex := 719, descriptorIndex := 716, attributes := #[] }, { accessFlags := 4120, nameIndex := 445, descriptorIndex := 117, attributes := #[] }])
  fields := #[{ name := "MIN_ARRAY_SORT_GRAN", type := .int, accessFlags := 26, slot := 0, constantValue := 0 }, { name := "INSERTIONSORT_THRESHOLD", type := .int, accessFlags := 26, slot := 1, constantValue := 0 }, { name := "$assertionsDisabled", type := .boolean, accessFlags := 4120, slot := 2, constantValue := 0 }]
  methods := #[k25m0, k25m1, k25m2]
  instanceTypes := #[]
  staticTypes := #[.int, .int, .boolean]
  resolved := Array.replicate 1029 none
  statics := none }

def pool26 : Array CpInfo := pool [(2, .class_ 4), (1, u "java/lang/Object"), (0, u "<init>"), (0, u "()V"), (1, .class_ 10), (1, u "java/lang/System"), (0, u "allowSecurityManager"), (0, u "I"), (16, u "cons"), (0, u "Ljava/io/Console;"), (77, .class_ 110), (1, u "java/lang/System$CallersHolder"), (43, u "initialErrStream"), (0, u "Ljava/io/PrintStream;"), (19, u "security"), (0, u "Ljava/lang/SecurityManager;"), (31, .class_ 209), (0, u "java/lang/System$1"), (7, u "props"), (0, u "Ljava/util/Properties;"), (2, u "lineSeparator"), (0, u "Ljava/lang/String;"), (96, .class_ 321), (1, u "java/lang/System$LoggerFinder"), (5, .class_ 328), (0, u "java/lang/System$Logger"), (67, u "err"), (2, u "out"), (91, u "notSupportedJnuEncoding"), (15, u "in"), (17, u "initialIn"), (0, u "Ljava/io/InputStream;"), (35, u "bootLayer"), (0, u "Ljava/lang/ModuleLayer;"), (99, .class_ 664), (0, u "java/lang/System$2"), (9, u "NEVER"), (2, u "MAYBE"), (49, u "arraycopy"), (0, u "(Ljava/lang/Object;ILjava/lang/Object;II)V"), (72, .class_ 802), (0, u "java/lang/System$Logger$Level")] 31

def k26m0 : Method := { name := "<init>", desc := "()V", sig := { parameters := [], returnType := none }, accessFlags := 2, code := none }
def k26m1 : Method := { name := "arraycopy", desc := "(Ljava/lang/Object;ILjava/lang/Object;II)V", sig := { parameters := [(.object "java/lang/Object"), .int, (.object "java/lang/Object"), .int, .int], returnType := none }, accessFlags := 265, code := none }
/-- java/lang/System -/
def k26 : Class := { plain "java/lang/System" (some 0) with
  accessFlags := 49
  interfaces := #[]
  cf := some (fileOf pool26 8 #[.nestMembers #[319, 327, 801, 108, 663, 208]] #[{ accessFlags := 2, nameIndex := 5, descriptorIndex := 6, attributes := #[] }, { accessFlags := 265, nameIndex := 727, descriptorIndex := 728, attributes := #[] }] 49 2 #[] #[{ accessFlags := 25, nameIndex := 507, descriptorIndex := 526, attributes := #[] }, { accessFlags := 25, nameIndex := 399, descriptorIndex := 155, attributes := #[] }, { accessFlags := 25, nameIndex := 396, descriptorIndex := 155, attributes := #[] }, { accessFlags := 10, nameIndex := 525, descriptorIndex := 526, attributes := #[] }, { accessFlags := 26, nameIndex := 674, descriptorIndex := 12, attributes := #[] }, { accessFlags := 26, nameIndex := 677, descriptorIndex := 12, attributes := #[] }, { accessFlags := 10, nameIndex := 11, descriptorIndex := 12, attributes := #[] }, { accessFlags := 74, nameIndex := 175, descriptorIndex := 176, attributes := #[] }, { accessFlags := 10, nameIndex := 491, descriptorIndex := 222, attributes := #[] }, { accessFlags := 74, nameIndex := 29, descriptorIndex := 30, attributes := #[] }, { accessFlags := 74, nameIndex := 154, descriptorIndex := 155, attributes := #[] }, { accessFlags := 10, nameIndex := 217, descriptorIndex := 218, attributes := #[] }, { accessFlags := 10, nameIndex := 221, descriptorIndex := 222, attributes := #[] }, { accessFlags := 8, nameIndex := 562, descriptorIndex := 563, attributes := #[] }])
  fields := #[{ name := "in", type := (.object "java/io/InputStream"), accessFlags := 25, slot := 0, constantValue := 0 }, { name := "out", type := (.object "java/io/PrintStream"), accessFlags := 25, slot := 1, constantValue := 0 }, { name := "err", type := (.object "java/io/PrintStream"), accessFlags := 25, slot := 2, constantValue := 0 }, { name := "initialIn", type := (.object "java/io/InputStream"), accessFlags := 10, slot := 3, constantValue := 0 }, { name := "NEVER", type := .int, accessFlags := 26, slot := 4, constantValue := 0 }, { name := "MAYBE", type := .int, accessFlags := 26, slot := 5, constantValue := 0 }, { name := "allowSecurityManager", type := .int, accessFlags := 10, slot := 6, constantValue := 0 }, { name := "security", type := (.object "java/lang/SecurityManager"), accessFlags := 74, slot := 7, constantValue := 0 }, { name := "notSupportedJnuEncoding", type := (.object "java/lang/String"), accessFlags := 10, slot := 8, constantValue := 0 }, { name := "cons", type := (.object "java/io/Console"), accessFlags := 74, slot := 9, constantValue := 0 }, { name := "initialErrStream", type := (.object "java/io/PrintStream"), accessFlags := 74, slot := 10, constantValue := 0 }, { name := "props", type := (.object "java/util/Properties"), accessFlags := 10, slot := 11, constantValue := 0 }, { name := "lineSeparator", type := (.object "java/lang/String"), accessFlags := 10, slot := 12, constantValue := 0 }, { name := "bootLayer", type := (.object "java/lang/ModuleLayer"), accessFlags := 8, slot := 13, constantValue := 0 }]
  methods := #[k26m0, k26m1]
  instanceTypes := #[]
  staticTypes := #[(.object "java/io/InputStream"), (.object "java/io/PrintStream"), (.object "java/io/PrintStream"), (.object "java/io/InputStream"), .int, .int, .int, (.object "java/lang/SecurityManager"), (.object "java/lang/String"), (.object "java/io/Console"), (.object "java/io/PrintStream"), (.object "java/util/Properties"), (.object "java/lang/String"), (.object "java/lang/ModuleLayer")]
  resolved := Array.replicate 834 none
  statics := none }

def pool27 : Array CpInfo := pool [(2, .class_ 4), (1, u "java/lang/Object"), (0, u "<init>"), (0, u "()V"), (35, .class_ 44), (1, u "java/util/Objects"), (0, u "requireNonNull"), (0, u "(Ljava/lang/Object;)Ljava/lang/Object;")] 137

def k27m0 : Method := { name := "<init>", desc := "()V", sig := { parameters := [], returnType := none }, accessFlags := 2, code := none }
def k27c1 : Code := { maxStack := 2, maxLocals := 1, code := jdk_31_method_10_code, exceptionTable := #[], attributes := #[] }
def k27m1 : Method := { name := "requireNonNull", desc := "(Ljava/lang/Object;)Ljava/lang/Object;", sig := { parameters := [(.object "java/lang/Object")], returnType := some (.object "java/lang/Object") }, accessFlags := 9, code := some k27c1 }
/-- java/util/Objects -/
def k27 : Class := { plain "java/util/Objects" (some 0) with
  accessFlags := 49
  interfaces := #[]
  cf := some (fileOf pool27 42 #[] #[{ accessFlags := 2, nameIndex := 5, descriptorIndex := 6, attributes := #[] }, { accessFlags := 9, nameIndex := 45, descriptorIndex := 46, attributes := #[] }] 49 2 #[] #[])
  fields := #[]
  methods := #[k27m0, k27m1]
  instanceTypes := #[]
  staticTypes := #[]
  resolved := Array.replicate 184 none
  statics := none }

def pool28 : Array CpInfo := pool [(1, .class_ 2), (0, u "java/lang/Class"), (0, .class_ 4), (0, u "java/lang/Object")] 0

/-- java/lang/Class -/
def k28 : Class := { plain "java/lang/Class" (some 0) with
  accessFlags := 49
  interfaces := #[]
  cf := some (fileOf pool28 1 #[] #[] 49 3 #[] #[])
  fields := #[]
  methods := #[]
  instanceTypes := #[]
  staticTypes := #[]
  resolved := Array.replicate 5 none
  statics := none }

/-- the primitive byte -/
def k29 : Class := { plain "byte" none with kind := .primitive 'B', accessFlags := 0x411 }
/-- [B -/
def k30 : Class := { plain "[B" (some 0) with kind := .array 29 .byte, interfaces := #[9, 10], accessFlags := 1041 }

/-- the primitive int -/
def k31 : Class := { plain "int" none with kind := .primitive 'I', accessFlags := 0x411 }
/-- [I -/
def k32 : Class := { plain "[I" (some 0) with kind := .array 31 .int, interfaces := #[9, 10], accessFlags := 1041 }

/-- the primitive long -/
def k33 : Class := { plain "long" none with kind := .primitive 'J', accessFlags := 0x411 }
/-- [J -/
def k34 : Class := { plain "[J" (some 0) with kind := .array 33 .long, interfaces := #[9, 10], accessFlags := 1041 }

/-- [Ljava/lang/Long; -/
def k35 : Class := { plain "[Ljava/lang/Long;" (some 0) with kind := .array 22 (.object "java/lang/Long"), interfaces := #[9, 10], accessFlags := 1041 }

/-- [Ljava/lang/Object; -/
def k36 : Class := { plain "[Ljava/lang/Object;" (some 0) with mirror := some 3, kind := .array 0 (.object "java/lang/Object"), interfaces := #[9, 10], accessFlags := 1041 }

def heap : Heap := #[{ cls := 11, slots := #[.long 0, .int 0, .ref 263, .ref 264], vm := .statics 11 },
  { cls := 13, slots := #[.long 0, .int 0, .null, .ref 265, .ref 262, .null, .null, .null, .int 0, .int 1], vm := .statics 13 },
  { cls := 23, slots := #[.ref 4, .null, .int 0], vm := .statics 23 },
  { cls := 28, slots := #[], vm := .mirror 36 },
  { cls := 35, slots := #[.ref 6, .ref 7, .ref 8, .ref 9, .ref 10, .ref 11, .ref 12, .ref 13, .ref 14, .ref 15, .ref 16, .ref 17, .ref 18, .ref 19, .ref 20, .ref 21, .ref 22, .ref 23, .ref 24, .ref 25, .ref 26, .ref 27, .ref 28, .ref 29, .ref 30, .ref 31, .ref 32, .ref 33, .ref 34, .ref 35, .ref 36, .ref 37, .ref 38, .ref 39, .ref 40, .ref 41, .ref 42, .ref 43, .ref 44, .ref 45, .ref 46, .ref 47, .ref 48, .ref 49, .ref 50, .ref 51, .ref 52, .ref 53, .ref 54, .ref 55, .ref 56, .ref 57, .ref 58, .ref 59, .ref 60, .ref 61, .ref 62, .ref 63, .ref 64, .ref 65, .ref 66, .ref 67, .ref 68, .ref 69, .ref 70, .ref 71, .ref 72, .ref 73, .ref 74, .ref 75, .ref 76, .ref 77, .ref 78, .ref 79, .ref 80, .ref 81, .ref 82, .ref 83, .ref 84, .ref 85, .ref 86, .ref 87, .ref 88, .ref 89, .ref 90, .ref 91, .ref 92, .ref 93, .ref 94, .ref 95, .ref 96, .ref 97, .ref 98, .ref 99, .ref 100, .ref 101, .ref 102, .ref 103, .ref 104, .ref 105, .ref 106, .ref 107, .ref 108, .ref 109, .ref 110, .ref 111, .ref 112, .ref 113, .ref 114, .ref 115, .ref 116, .ref 117, .ref 118, .ref 119, .ref 120, .ref 121, .ref 122, .ref 123, .ref 124, .ref 125, .ref 126, .ref 127, .ref 128, .ref 129, .ref 130, .ref 131, .ref 132, .ref 133, .ref 134, .ref 135, .ref 136, .ref 137, .ref 138, .ref 139, .ref 140, .ref 141, .ref 142, .ref 143, .ref 144, .ref 145, .ref 146, .ref 147, .ref 148, .ref 149, .ref 150, .ref 151, .ref 152, .ref 153, .ref 154, .ref 155, .ref 156, .ref 157, .ref 158, .ref 159, .ref 160, .ref 161, .ref 162, .ref 163, .ref 164, .ref 165, .ref 166, .ref 167, .ref 168, .ref 169, .ref 170, .ref 171, .ref 172, .ref 173, .ref 174, .ref 175, .ref 176, .ref 177, .ref 178, .ref 179, .ref 180, .ref 181, .ref 182, .ref 183, .ref 184, .ref 185, .ref 186, .ref 187, .ref 188, .ref 189, .ref 190, .ref 191, .ref 192, .ref 193, .ref 194, .ref 195, .ref 196, .ref 197, .ref 198, .ref 199, .ref 200, .ref 201, .ref 202, .ref 203, .ref 204, .ref 205, .ref 206, .ref 207, .ref 208, .ref 209, .ref 210, .ref 211, .ref 212, .ref 213, .ref 214, .ref 215, .ref 216, .ref 217, .ref 218, .ref 219, .ref 220, .ref 221, .ref 222, .ref 223, .ref 224, .ref 225, .ref 226, .ref 227, .ref 228, .ref 229, .ref 230, .ref 231, .ref 232, .ref 233, .ref 234, .ref 235, .ref 236, .ref 237, .ref 238, .ref 239, .ref 240, .ref 241, .ref 242, .ref 243, .ref 244, .ref 245, .ref 246, .ref 247, .ref 248, .ref 249, .ref 250, .ref 251, .ref 252, .ref 253, .ref 254, .ref 255, .ref 256, .ref 257, .ref 258, .ref 259, .ref 260, .ref 261], vm := .none },
  { cls := 36, slots := #[], vm := .none },
  { cls := 22, slots := #[.long (-128)], vm := .none },
  { cls := 22, slots := #[.long (-127)], vm := .none },
  { cls := 22, slots := #[.long (-126)], vm := .none },
  { cls := 22, slots := #[.long (-125)], vm := .none },
  { cls := 22, slots := #[.long (-124)], vm := .none },
  { cls := 22, slots := #[.long (-123)], vm := .none },
  { cls := 22, slots := #[.long (-122)], vm := .none },
  { cls := 22, slots := #[.long (-121)], vm := .none },
  { cls := 22, slots := #[.long (-120)], vm := .none },
  { cls := 22, slots := #[.long (-119)], vm := .none },
  { cls := 22, slots := #[.long (-118)], vm := .none },
  { cls := 22, slots := #[.long (-117)], vm := .none },
  { cls := 22, slots := #[.long (-116)], vm := .none },
  { cls := 22, slots := #[.long (-115)], vm := .none },
  { cls := 22, slots := #[.long (-114)], vm := .none },
  { cls := 22, slots := #[.long (-113)], vm := .none },
  { cls := 22, slots := #[.long (-112)], vm := .none },
  { cls := 22, slots := #[.long (-111)], vm := .none },
  { cls := 22, slots := #[.long (-110)], vm := .none },
  { cls := 22, slots := #[.long (-109)], vm := .none },
  { cls := 22, slots := #[.long (-108)], vm := .none },
  { cls := 22, slots := #[.long (-107)], vm := .none },
  { cls := 22, slots := #[.long (-106)], vm := .none },
  { cls := 22, slots := #[.long (-105)], vm := .none },
  { cls := 22, slots := #[.long (-104)], vm := .none },
  { cls := 22, slots := #[.long (-103)], vm := .none },
  { cls := 22, slots := #[.long (-102)], vm := .none },
  { cls := 22, slots := #[.long (-101)], vm := .none },
  { cls := 22, slots := #[.long (-100)], vm := .none },
  { cls := 22, slots := #[.long (-99)], vm := .none },
  { cls := 22, slots := #[.long (-98)], vm := .none },
  { cls := 22, slots := #[.long (-97)], vm := .none },
  { cls := 22, slots := #[.long (-96)], vm := .none },
  { cls := 22, slots := #[.long (-95)], vm := .none },
  { cls := 22, slots := #[.long (-94)], vm := .none },
  { cls := 22, slots := #[.long (-93)], vm := .none },
  { cls := 22, slots := #[.long (-92)], vm := .none },
  { cls := 22, slots := #[.long (-91)], vm := .none },
  { cls := 22, slots := #[.long (-90)], vm := .none },
  { cls := 22, slots := #[.long (-89)], vm := .none },
  { cls := 22, slots := #[.long (-88)], vm := .none },
  { cls := 22, slots := #[.long (-87)], vm := .none },
  { cls := 22, slots := #[.long (-86)], vm := .none },
  { cls := 22, slots := #[.long (-85)], vm := .none },
  { cls := 22, slots := #[.long (-84)], vm := .none },
  { cls := 22, slots := #[.long (-83)], vm := .none },
  { cls := 22, slots := #[.long (-82)], vm := .none },
  { cls := 22, slots := #[.long (-81)], vm := .none },
  { cls := 22, slots := #[.long (-80)], vm := .none },
  { cls := 22, slots := #[.long (-79)], vm := .none },
  { cls := 22, slots := #[.long (-78)], vm := .none },
  { cls := 22, slots := #[.long (-77)], vm := .none },
  { cls := 22, slots := #[.long (-76)], vm := .none },
  { cls := 22, slots := #[.long (-75)], vm := .none },
  { cls := 22, slots := #[.long (-74)], vm := .none },
  { cls := 22, slots := #[.long (-73)], vm := .none },
  { cls := 22, slots := #[.long (-72)], vm := .none },
  { cls := 22, slots := #[.long (-71)], vm := .none },
  { cls := 22, slots := #[.long (-70)], vm := .none },
  { cls := 22, slots := #[.long (-69)], vm := .none },
  { cls := 22, slots := #[.long (-68)], vm := .none },
  { cls := 22, slots := #[.long (-67)], vm := .none },
  { cls := 22, slots := #[.long (-66)], vm := .none },
  { cls := 22, slots := #[.long (-65)], vm := .none },
  { cls := 22, slots := #[.long (-64)], vm := .none },
  { cls := 22, slots := #[.long (-63)], vm := .none },
  { cls := 22, slots := #[.long (-62)], vm := .none },
  { cls := 22, slots := #[.long (-61)], vm := .none },
  { cls := 22, slots := #[.long (-60)], vm := .none },
  { cls := 22, slots := #[.long (-59)], vm := .none },
  { cls := 22, slots := #[.long (-58)], vm := .none },
  { cls := 22, slots := #[.long (-57)], vm := .none },
  { cls := 22, slots := #[.long (-56)], vm := .none },
  { cls := 22, slots := #[.long (-55)], vm := .none },
  { cls := 22, slots := #[.long (-54)], vm := .none },
  { cls := 22, slots := #[.long (-53)], vm := .none },
  { cls := 22, slots := #[.long (-52)], vm := .none },
  { cls := 22, slots := #[.long (-51)], vm := .none },
  { cls := 22, slots := #[.long (-50)], vm := .none },
  { cls := 22, slots := #[.long (-49)], vm := .none },
  { cls := 22, slots := #[.long (-48)], vm := .none },
  { cls := 22, slots := #[.long (-47)], vm := .none },
  { cls := 22, slots := #[.long (-46)], vm := .none },
  { cls := 22, slots := #[.long (-45)], vm := .none },
  { cls := 22, slots := #[.long (-44)], vm := .none },
  { cls := 22, slots := #[.long (-43)], vm := .none },
  { cls := 22, slots := #[.long (-42)], vm := .none },
  { cls := 22, slots := #[.long (-41)], vm := .none },
  { cls := 22, slots := #[.long (-40)], vm := .none },
  { cls := 22, slots := #[.long (-39)], vm := .none },
  { cls := 22, slots := #[.long (-38)], vm := .none },
  { cls := 22, slots := #[.long (-37)], vm := .none },
  { cls := 22, slots := #[.long (-36)], vm := .none },
  { cls := 22, slots := #[.long (-35)], vm := .none },
  { cls := 22, slots := #[.long (-34)], vm := .none },
  { cls := 22, slots := #[.long (-33)], vm := .none },
  { cls := 22, slots := #[.long (-32)], vm := .none },
  { cls := 22, slots := #[.long (-31)], vm := .none },
  { cls := 22, slots := #[.long (-30)], vm := .none },
  { cls := 22, slots := #[.long (-29)], vm := .none },
  { cls := 22, slots := #[.long (-28)], vm := .none },
  { cls := 22, slots := #[.long (-27)], vm := .none },
  { cls := 22, slots := #[.long (-26)], vm := .none },
  { cls := 22, slots := #[.long (-25)], vm := .none },
  { cls := 22, slots := #[.long (-24)], vm := .none },
  { cls := 22, slots := #[.long (-23)], vm := .none },
  { cls := 22, slots := #[.long (-22)], vm := .none },
  { cls := 22, slots := #[.long (-21)], vm := .none },
  { cls := 22, slots := #[.long (-20)], vm := .none },
  { cls := 22, slots := #[.long (-19)], vm := .none },
  { cls := 22, slots := #[.long (-18)], vm := .none },
  { cls := 22, slots := #[.long (-17)], vm := .none },
  { cls := 22, slots := #[.long (-16)], vm := .none },
  { cls := 22, slots := #[.long (-15)], vm := .none },
  { cls := 22, slots := #[.long (-14)], vm := .none },
  { cls := 22, slots := #[.long (-13)], vm := .none },
  { cls := 22, slots := #[.long (-12)], vm := .none },
  { cls := 22, slots := #[.long (-11)], vm := .none },
  { cls := 22, slots := #[.long (-10)], vm := .none },
  { cls := 22, slots := #[.long (-9)], vm := .none },
  { cls := 22, slots := #[.long (-8)], vm := .none },
  { cls := 22, slots := #[.long (-7)], vm := .none },
  { cls := 22, slots := #[.long (-6)], vm := .none },
  { cls := 22, slots := #[.long (-5)], vm := .none },
  { cls := 22, slots := #[.long (-4)], vm := .none },
  { cls := 22, slots := #[.long (-3)], vm := .none },
  { cls := 22, slots := #[.long (-2)], vm := .none },
  { cls := 22, slots := #[.long (-1)], vm := .none },
  { cls := 22, slots := #[.long (0)], vm := .none },
  { cls := 22, slots := #[.long (1)], vm := .none },
  { cls := 22, slots := #[.long (2)], vm := .none },
  { cls := 22, slots := #[.long (3)], vm := .none },
  { cls := 22, slots := #[.long (4)], vm := .none },
  { cls := 22, slots := #[.long (5)], vm := .none },
  { cls := 22, slots := #[.long (6)], vm := .none },
  { cls := 22, slots := #[.long (7)], vm := .none },
  { cls := 22, slots := #[.long (8)], vm := .none },
  { cls := 22, slots := #[.long (9)], vm := .none },
  { cls := 22, slots := #[.long (10)], vm := .none },
  { cls := 22, slots := #[.long (11)], vm := .none },
  { cls := 22, slots := #[.long (12)], vm := .none },
  { cls := 22, slots := #[.long (13)], vm := .none },
  { cls := 22, slots := #[.long (14)], vm := .none },
  { cls := 22, slots := #[.long (15)], vm := .none },
  { cls := 22, slots := #[.long (16)], vm := .none },
  { cls := 22, slots := #[.long (17)], vm := .none },
  { cls := 22, slots := #[.long (18)], vm := .none },
  { cls := 22, slots := #[.long (19)], vm := .none },
  { cls := 22, slots := #[.long (20)], vm := .none },
  { cls := 22, slots := #[.long (21)], vm := .none },
  { cls := 22, slots := #[.long (22)], vm := .none },
  { cls := 22, slots := #[.long (23)], vm := .none },
  { cls := 22, slots := #[.long (24)], vm := .none },
  { cls := 22, slots := #[.long (25)], vm := .none },
  { cls := 22, slots := #[.long (26)], vm := .none },
  { cls := 22, slots := #[.long (27)], vm := .none },
  { cls := 22, slots := #[.long (28)], vm := .none },
  { cls := 22, slots := #[.long (29)], vm := .none },
  { cls := 22, slots := #[.long (30)], vm := .none },
  { cls := 22, slots := #[.long (31)], vm := .none },
  { cls := 22, slots := #[.long (32)], vm := .none },
  { cls := 22, slots := #[.long (33)], vm := .none },
  { cls := 22, slots := #[.long (34)], vm := .none },
  { cls := 22, slots := #[.long (35)], vm := .none },
  { cls := 22, slots := #[.long (36)], vm := .none },
  { cls := 22, slots := #[.long (37)], vm := .none },
  { cls := 22, slots := #[.long (38)], vm := .none },
  { cls := 22, slots := #[.long (39)], vm := .none },
  { cls := 22, slots := #[.long (40)], vm := .none },
  { cls := 22, slots := #[.long (41)], vm := .none },
  { cls := 22, slots := #[.long (42)], vm := .none },
  { cls := 22, slots := #[.long (43)], vm := .none },
  { cls := 22, slots := #[.long (44)], vm := .none },
  { cls := 22, slots := #[.long (45)], vm := .none },
  { cls := 22, slots := #[.long (46)], vm := .none },
  { cls := 22, slots := #[.long (47)], vm := .none },
  { cls := 22, slots := #[.long (48)], vm := .none },
  { cls := 22, slots := #[.long (49)], vm := .none },
  { cls := 22, slots := #[.long (50)], vm := .none },
  { cls := 22, slots := #[.long (51)], vm := .none },
  { cls := 22, slots := #[.long (52)], vm := .none },
  { cls := 22, slots := #[.long (53)], vm := .none },
  { cls := 22, slots := #[.long (54)], vm := .none },
  { cls := 22, slots := #[.long (55)], vm := .none },
  { cls := 22, slots := #[.long (56)], vm := .none },
  { cls := 22, slots := #[.long (57)], vm := .none },
  { cls := 22, slots := #[.long (58)], vm := .none },
  { cls := 22, slots := #[.long (59)], vm := .none },
  { cls := 22, slots := #[.long (60)], vm := .none },
  { cls := 22, slots := #[.long (61)], vm := .none },
  { cls := 22, slots := #[.long (62)], vm := .none },
  { cls := 22, slots := #[.long (63)], vm := .none },
  { cls := 22, slots := #[.long (64)], vm := .none },
  { cls := 22, slots := #[.long (65)], vm := .none },
  { cls := 22, slots := #[.long (66)], vm := .none },
  { cls := 22, slots := #[.long (67)], vm := .none },
  { cls := 22, slots := #[.long (68)], vm := .none },
  { cls := 22, slots := #[.long (69)], vm := .none },
  { cls := 22, slots := #[.long (70)], vm := .none },
  { cls := 22, slots := #[.long (71)], vm := .none },
  { cls := 22, slots := #[.long (72)], vm := .none },
  { cls := 22, slots := #[.long (73)], vm := .none },
  { cls := 22, slots := #[.long (74)], vm := .none },
  { cls := 22, slots := #[.long (75)], vm := .none },
  { cls := 22, slots := #[.long (76)], vm := .none },
  { cls := 22, slots := #[.long (77)], vm := .none },
  { cls := 22, slots := #[.long (78)], vm := .none },
  { cls := 22, slots := #[.long (79)], vm := .none },
  { cls := 22, slots := #[.long (80)], vm := .none },
  { cls := 22, slots := #[.long (81)], vm := .none },
  { cls := 22, slots := #[.long (82)], vm := .none },
  { cls := 22, slots := #[.long (83)], vm := .none },
  { cls := 22, slots := #[.long (84)], vm := .none },
  { cls := 22, slots := #[.long (85)], vm := .none },
  { cls := 22, slots := #[.long (86)], vm := .none },
  { cls := 22, slots := #[.long (87)], vm := .none },
  { cls := 22, slots := #[.long (88)], vm := .none },
  { cls := 22, slots := #[.long (89)], vm := .none },
  { cls := 22, slots := #[.long (90)], vm := .none },
  { cls := 22, slots := #[.long (91)], vm := .none },
  { cls := 22, slots := #[.long (92)], vm := .none },
  { cls := 22, slots := #[.long (93)], vm := .none },
  { cls := 22, slots := #[.long (94)], vm := .none },
  { cls := 22, slots := #[.long (95)], vm := .none },
  { cls := 22, slots := #[.long (96)], vm := .none },
  { cls := 22, slots := #[.long (97)], vm := .none },
  { cls := 22, slots := #[.long (98)], vm := .none },
  { cls := 22, slots := #[.long (99)], vm := .none },
  { cls := 22, slots := #[.long (100)], vm := .none },
  { cls := 22, slots := #[.long (101)], vm := .none },
  { cls := 22, slots := #[.long (102)], vm := .none },
  { cls := 22, slots := #[.long (103)], vm := .none },
  { cls := 22, slots := #[.long (104)], vm := .none },
  { cls := 22, slots := #[.long (105)], vm := .none },
  { cls := 22, slots := #[.long (106)], vm := .none },
  { cls := 22, slots := #[.long (107)], vm := .none },
  { cls := 22, slots := #[.long (108)], vm := .none },
  { cls := 22, slots := #[.long (109)], vm := .none },
  { cls := 22, slots := #[.long (110)], vm := .none },
  { cls := 22, slots := #[.long (111)], vm := .none },
  { cls := 22, slots := #[.long (112)], vm := .none },
  { cls := 22, slots := #[.long (113)], vm := .none },
  { cls := 22, slots := #[.long (114)], vm := .none },
  { cls := 22, slots := #[.long (115)], vm := .none },
  { cls := 22, slots := #[.long (116)], vm := .none },
  { cls := 22, slots := #[.long (117)], vm := .none },
  { cls := 22, slots := #[.long (118)], vm := .none },
  { cls := 22, slots := #[.long (119)], vm := .none },
  { cls := 22, slots := #[.long (120)], vm := .none },
  { cls := 22, slots := #[.long (121)], vm := .none },
  { cls := 22, slots := #[.long (122)], vm := .none },
  { cls := 22, slots := #[.long (123)], vm := .none },
  { cls := 22, slots := #[.long (124)], vm := .none },
  { cls := 22, slots := #[.long (125)], vm := .none },
  { cls := 22, slots := #[.long (126)], vm := .none },
  { cls := 22, slots := #[.long (127)], vm := .none },
  { cls := 17, slots := #[.ref 5, .int 0], vm := .none },
  { cls := 36, slots := #[], vm := .none },
  { cls := 36, slots := #[], vm := .none },
  { cls := 0, slots := #[], vm := .none }]
def classes : Array Class := #[k0, k1, k2, k3, k4, k5, k6, k7, k8, k9, k10, k11, k12, k13, k14, k15, k16, k17, k18, k19, k20, k21, k22, k23, k24, k25, k26, k27, k28, k29, k30, k31, k32, k33, k34, k35, k36]
def interned : List (Array UInt16 × Addr) := []
def slotsUsed : Nat := 531
def theMethod : MethodId := ⟨1, 1⟩
def args0 : Array Value := #[.int 1, .int 2, .int 3, .int 0, .long 5, .long 6]
def aboutOver (below : List Frame) : State where
  vm := { classes := classes, interned := interned.toArray }
  heap := heap
  slotsUsed := slotsUsed
  threads := #[{ frames := .invoking theMethod args0 :: below }]
def below0 : List Frame := [.native { method := ⟨0, 0⟩, args := #[] }]
def about1 : State := aboutOver below0
def p0 : Program := .bare "" "" ""
def e0 : Env := launch0.env 0 0 0
theorem w_frames : about1.frames = Frame.invoking theMethod args0 :: below0 := rfl
set_option maxRecDepth 65536 in
theorem w_args : argsFit about1.vm theMethod args0 = true := by decide +kernel
set_option maxRecDepth 65536 in
theorem w_heap : heapFits about1 = true := by decide +kernel
set_option maxRecDepth 65536 in
theorem w_runnable : about1.curStatus? = some .runnable := by decide +kernel
set_option maxRecDepth 65536 in
theorem w_alone : about1.alone = true := by decide +kernel
set_option maxRecDepth 65536 in
theorem w_named : about1.methodNamed? x = some theMethod := by decide +kernel
set_option maxRecDepth 65536 in
theorem w_hears : about1.hears theMethod below0 = true := by decide +kernel
set_option maxRecDepth 65536 in
theorem w_ripe : about1.ripe theMethod args0 below0 = true := by decide +kernel
theorem w_running : about1.status = .running := rfl
set_option maxRecDepth 65536 in
theorem w_room : about1.hasRoom e0.platform room_1 = true :=
  launch0.hasRoom_least _ room_1 (by decide +kernel) (by decide +kernel) (by decide +kernel) (by decide +kernel) (by decide +kernel) (by decide +kernel)
theorem allAtoms_all (ts : List Jvm.Cond) (a : Array Jvm.Value) (st : Jvm.State) : (allAtoms ts).before a st = ts.all (fun c => c.before a st) := by
  induction ts with
  | nil => rfl
  | cons c t ih =>
    show (Jvm.Cond.and c (allAtoms t)).before a st = _
    rw [Jvm.Cond.before_and, ih, List.all_cons]
def words1 : List Jvm.Cond := Jvm.Cond.code x code maxLocals ret :: tables_1
/-- a 'code' word, met by the world's own term for the bytes: nothing is compared byte by byte -/
theorem code_word {y : MethodName} {bytes : ByteArray} {mx : Nat} {rt : Option FieldType} {a : Array Value} {s : State} {m : MethodId} {meth : Method} {c : Code} (h1 : s.methodNamed? y = some m) (h2 : s.vm.method? m = some meth) (h3 : meth.code = some c) (h4 : c.code = bytes)
    (h5 : (c.maxLocals == mx && c.exceptionTable.isEmpty && decide (c.maxStack ≤ mostOperands) && decide (meth.sig.returnType = rt) && !meth.locks && decide (parseMethodDescriptor y.desc = some meth.sig)) = true) : (Jvm.Cond.code y bytes mx rt).before a s = true := by
  simp only [Bool.and_eq_true, beq_iff_eq, Bool.not_eq_true', decide_eq_true_eq] at h5
  obtain ⟨⟨⟨⟨⟨g1, g2⟩, g3⟩, g4⟩, g5⟩, g6⟩ := h5
  simp [Cond.before, Cond.holds, Cond.value, h1, h2, h3, h4, g1, g2, g3, g4, g5, g6]
def isCode : Jvm.Cond → Bool
  | .code _ _ _ _ => true
  | _ => false
theorem all_split {L : List Jvm.Cond} {P : Jvm.Cond → Bool} (h1 : L.all (fun c => isCode c || P c) = true) (h2 : ∀ c ∈ L.filter isCode, P c = true) : L.all P = true := by
  refine List.all_eq_true.mpr fun c hc => ?_
  have h := List.all_eq_true.mp h1 c hc
  rcases Bool.eq_false_or_eq_true (isCode c) with hi | hi
  · exact h2 c (List.mem_filter.mpr ⟨hc, hi⟩)
  · simpa [hi] using h
set_option maxRecDepth 65536 in
theorem w_c0 : (Jvm.Cond.code x code maxLocals ret).before args0 about1 = true := code_word (m := ⟨1, 1⟩) (meth := k1m1) (c := k1c1) (by decide +kernel) rfl rfl rfl (by decide +kernel)
set_option maxRecDepth 65536 in
theorem w_c1 : (Jvm.Cond.code ({ cls := "java/util/ArrayList", name := "<init>", desc := "()V" } : Jvm.MethodName) jdk_38_method_2_code (1 : Nat) (Option.none : Option Jvm.ClassFile.FieldType)).before args0 about1 = true := code_word (m := ⟨11, 0⟩) (meth := k11m0) (c := k11c0) (by decide +kernel) rfl rfl rfl (by decide +kernel)
set_option maxRecDepth 65536 in
theorem w_c2 : (Jvm.Cond.code ({ cls := "java/util/AbstractList", name := "<init>", desc := "()V" } : Jvm.MethodName) jdk_39_method_1_code (1 : Nat) (Option.none : Option Jvm.ClassFile.FieldType)).before args0 about1 = true := code_word (m := ⟨7, 0⟩) (meth := k7m0) (c := k7c0) (by decide +kernel) rfl rfl rfl (by decide +kernel)
set_option maxRecDepth 65536 in
theorem w_c3 : (Jvm.Cond.code ({ cls := "java/util/AbstractCollection", name := "<init>", desc := "()V" } : Jvm.MethodName) jdk_22_method_1_code (1 : Nat) (Option.none : Option Jvm.ClassFile.FieldType)).before args0 about1 = true := code_word (m := ⟨4, 0⟩) (meth := k4m0) (c := k4c0) (by decide +kernel) rfl rfl rfl (by decide +kernel)
set_option maxRecDepth 65536 in
theorem w_c4 : (Jvm.Cond.code ({ cls := "java/lang/Object", name := "<init>", desc := "()V" } : Jvm.MethodName) object_method_1_code (1 : Nat) (Option.none : Option Jvm.ClassFile.FieldType)).before args0 about1 = true := code_word (m := ⟨0, 0⟩) (meth := k0m0) (c := k0c0) (by decide +kernel) rfl rfl rfl (by decide +kernel)
set_option maxRecDepth 65536 in
theorem w_c5 : (Jvm.Cond.code ({ cls := "com/example/libelect/libelect/simulation/Outcome", name := "<init>", desc := "(IILjava/util/List;ILjava/util/List;[JJ)V" } : Jvm.MethodName) prog_52_method_1_code (9 : Nat) (Option.none : Option Jvm.ClassFile.FieldType)).before args0 about1 = true := code_word (m := ⟨12, 0⟩) (meth := k12m0) (c := k12c0) (by decide +kernel) rfl rfl rfl (by decide +kernel)
set_option maxRecDepth 65536 in
theorem w_c6 : (Jvm.Cond.code ({ cls := "java/util/List", name := "copyOf", desc := "(Ljava/util/Collection;)Ljava/util/List;" } : Jvm.MethodName) jdk_40_method_48_code (1 : Nat) (Option.some (Jvm.ClassFile.FieldType.object "java/util/List"))).before args0 about1 = true := code_word (m := ⟨6, 3⟩) (meth := k6m3) (c := k6c3) (by decide +kernel) rfl rfl rfl (by decide +kernel)
set_option maxRecDepth 65536 in
theorem w_c7 : (Jvm.Cond.code ({ cls := "java/util/ImmutableCollections", name := "listCopy", desc := "(Ljava/util/Collection;)Ljava/util/List;" } : Jvm.MethodName) jdk_56_method_3_code (2 : Nat) (Option.some (Jvm.ClassFile.FieldType.object "java/util/List"))).before args0 about1 = true := code_word (m := ⟨13, 1⟩) (meth := k13m1) (c := k13c1) (by decide +kernel) rfl rfl rfl (by decide +kernel)
set_option maxRecDepth 65536 in
theorem w_c8 : (Jvm.Cond.code ({ cls := "java/util/ArrayList", name := "isEmpty", desc := "()Z" } : Jvm.MethodName) jdk_38_method_9_code (1 : Nat) (Option.some Jvm.ClassFile.FieldType.boolean)).before args0 about1 = true := code_word (m := ⟨11, 3⟩) (meth := k11m3) (c := k11c3) (by decide +kernel) rfl rfl rfl (by decide +kernel)
set_option maxRecDepth 65536 in
theorem w_c9 : (Jvm.Cond.code ({ cls := "java/util/List", name := "of", desc := "()Ljava/util/List;" } : Jvm.MethodName) jdk_40_method_36_code (0 : Nat) (Option.some (Jvm.ClassFile.FieldType.object "java/util/List"))).before args0 about1 = true := code_word (m := ⟨6, 1⟩) (meth := k6m1) (c := k6c1) (by decide +kernel) rfl rfl rfl (by decide +kernel)
set_option maxRecDepth 65536 in
theorem w_c10 : (Jvm.Cond.code ({ cls := "com/example/libelect/libelect/simulation/Outcome", name := "elected", desc := "()Z" } : Jvm.MethodName) prog_52_method_6_code (1 : Nat) (Option.some Jvm.ClassFile.FieldType.boolean)).before args0 about1 = true := code_word (m := ⟨12, 1⟩) (meth := k12m1) (c := k12c1) (by decide +kernel) rfl rfl rfl (by decide +kernel)
set_option maxRecDepth 65536 in
theorem w_c11 : (Jvm.Cond.code ({ cls := "java/util/ImmutableCollections$ListN", name := "size", desc := "()I" } : Jvm.MethodName) jdk_45_method_3_code (1 : Nat) (Option.some Jvm.ClassFile.FieldType.int)).before args0 about1 = true := code_word (m := ⟨17, 1⟩) (meth := k17m1) (c := k17c1) (by decide +kernel) rfl rfl rfl (by decide +kernel)
set_option maxRecDepth 65536 in
theorem w_c12 : (Jvm.Cond.code ({ cls := "java/lang/Long", name := "valueOf", desc := "(J)Ljava/lang/Long;" } : Jvm.MethodName) jdk_35_method_24_code (3 : Nat) (Option.some (Jvm.ClassFile.FieldType.object "java/lang/Long"))).before args0 about1 = true := code_word (m := ⟨22, 0⟩) (meth := k22m0) (c := k22c0) (by decide +kernel) rfl rfl rfl (by decide +kernel)
set_option maxRecDepth 65536 in
theorem w_c13 : (Jvm.Cond.code ({ cls := "java/util/ArrayList", name := "add", desc := "(Ljava/lang/Object;)Z" } : Jvm.MethodName) jdk_38_method_25_code (2 : Nat) (Option.some Jvm.ClassFile.FieldType.boolean)).before args0 about1 = true := code_word (m := ⟨11, 6⟩) (meth := k11m6) (c := k11c6) (by decide +kernel) rfl rfl rfl (by decide +kernel)
set_option maxRecDepth 65536 in
theorem w_c14 : (Jvm.Cond.code ({ cls := "java/util/ArrayList", name := "add", desc := "(Ljava/lang/Object;[Ljava/lang/Object;I)V" } : Jvm.MethodName) jdk_38_method_24_code (4 : Nat) (Option.none : Option Jvm.ClassFile.FieldType)).before args0 about1 = true := code_word (m := ⟨11, 5⟩) (meth := k11m5) (c := k11c5) (by decide +kernel) rfl rfl rfl (by decide +kernel)
set_option maxRecDepth 65536 in
theorem w_c15 : (Jvm.Cond.code ({ cls := "java/util/ArrayList", name := "grow", desc := "()[Ljava/lang/Object;" } : Jvm.MethodName) jdk_38_method_7_code (1 : Nat) (Option.some (Jvm.ClassFile.FieldType.array (Jvm.ClassFile.FieldType.object "java/lang/Object")))).before args0 about1 = true := code_word (m := ⟨11, 2⟩) (meth := k11m2) (c := k11c2) (by decide +kernel) rfl rfl rfl (by decide +kernel)
set_option maxRecDepth 65536 in
theorem w_c16 : (Jvm.Cond.code ({ cls := "java/util/ArrayList", name := "grow", desc := "(I)[Ljava/lang/Object;" } : Jvm.MethodName) jdk_38_method_6_code (4 : Nat) (Option.some (Jvm.ClassFile.FieldType.array (Jvm.ClassFile.FieldType.object "java/lang/Object")))).before args0 about1 = true := code_word (m := ⟨11, 1⟩) (meth := k11m1) (c := k11c1) (by decide +kernel) rfl rfl rfl (by decide +kernel)
set_option maxRecDepth 65536 in
theorem w_c17 : (Jvm.Cond.code ({ cls := "java/lang/Math", name := "max", desc := "(II)I" } : Jvm.MethodName) jdk_29_method_65_code (2 : Nat) (Option.some Jvm.ClassFile.FieldType.int)).before args0 about1 = true := code_word (m := ⟨24, 1⟩) (meth := k24m1) (c := k24c1) (by decide +kernel) rfl rfl rfl (by decide +kernel)
set_option maxRecDepth 65536 in
theorem w_c18 : (Jvm.Cond.code ({ cls := "java/util/ArrayList", name := "toArray", desc := "()[Ljava/lang/Object;" } : Jvm.MethodName) jdk_38_method_16_code (1 : Nat) (Option.some (Jvm.ClassFile.FieldType.array (Jvm.ClassFile.FieldType.object "java/lang/Object")))).before args0 about1 = true := code_word (m := ⟨11, 4⟩) (meth := k11m4) (c := k11c4) (by decide +kernel) rfl rfl rfl (by decide +kernel)
set_option maxRecDepth 65536 in
theorem w_c19 : (Jvm.Cond.code ({ cls := "java/util/Arrays", name := "copyOf", desc := "([Ljava/lang/Object;I)[Ljava/lang/Object;" } : Jvm.MethodName) jdk_65_method_119_code (2 : Nat) (Option.some (Jvm.ClassFile.FieldType.array (Jvm.ClassFile.FieldType.object "java/lang/Object")))).before args0 about1 = true := code_word (m := ⟨25, 1⟩) (meth := k25m1) (c := k25c1) (by decide +kernel) rfl rfl rfl (by decide +kernel)
set_option maxRecDepth 65536 in
theorem w_c20 : (Jvm.Cond.code ({ cls := "java/util/Arrays", name := "copyOf", desc := "([Ljava/lang/Object;ILjava/lang/Class;)[Ljava/lang/Object;" } : Jvm.MethodName) jdk_65_method_120_code (4 : Nat) (Option.some (Jvm.ClassFile.FieldType.array (Jvm.ClassFile.FieldType.object "java/lang/Object")))).before args0 about1 = true := code_word (m := ⟨25, 2⟩) (meth := k25m2) (c := k25c2) (by decide +kernel) rfl rfl rfl (by decide +kernel)
set_option maxRecDepth 65536 in
theorem w_c21 : (Jvm.Cond.code ({ cls := "java/lang/Math", name := "min", desc := "(II)I" } : Jvm.MethodName) jdk_29_method_69_code (2 : Nat) (Option.some Jvm.ClassFile.FieldType.int)).before args0 about1 = true := code_word (m := ⟨24, 2⟩) (meth := k24m2) (c := k24c2) (by decide +kernel) rfl rfl rfl (by decide +kernel)
set_option maxRecDepth 65536 in
theorem w_c22 : (Jvm.Cond.code ({ cls := "java/util/List", name := "of", desc := "([Ljava/lang/Object;)Ljava/util/List;" } : Jvm.MethodName) jdk_40_method_47_code (2 : Nat) (Option.some (Jvm.ClassFile.FieldType.object "java/util/List"))).before args0 about1 = true := code_word (m := ⟨6, 2⟩) (meth := k6m2) (c := k6c2) (by decide +kernel) rfl rfl rfl (by decide +kernel)
set_option maxRecDepth 65536 in
theorem w_c23 : (Jvm.Cond.code ({ cls := "java/util/ImmutableCollections", name := "listFromArray", desc := "([Ljava/lang/Object;)Ljava/util/List;" } : Jvm.MethodName) jdk_56_method_4_code (3 : Nat) (Option.some (Jvm.ClassFile.FieldType.object "java/util/List"))).before args0 about1 = true := code_word (m := ⟨13, 2⟩) (meth := k13m2) (c := k13c2) (by decide +kernel) rfl rfl rfl (by decide +kernel)
set_option maxRecDepth 65536 in
theorem w_c24 : (Jvm.Cond.code ({ cls := "java/util/Objects", name := "requireNonNull", desc := "(Ljava/lang/Object;)Ljava/lang/Object;" } : Jvm.MethodName) jdk_31_method_10_code (1 : Nat) (Option.some (Jvm.ClassFile.FieldType.object "java/lang/Object"))).before args0 about1 = true := code_word (m := ⟨27, 1⟩) (meth := k27m1) (c := k27c1) (by decide +kernel) rfl rfl rfl (by decide +kernel)
set_option maxRecDepth 65536 in
theorem w_c25 : (Jvm.Cond.code ({ cls := "java/util/ImmutableCollections$ListN", name := "<init>", desc := "([Ljava/lang/Object;Z)V" } : Jvm.MethodName) jdk_45_method_1_code (3 : Nat) (Option.none : Option Jvm.ClassFile.FieldType)).before args0 about1 = true := code_word (m := ⟨17, 0⟩) (meth := k17m0) (c := k17c0) (by decide +kernel) rfl rfl rfl (by decide +kernel)
set_option maxRecDepth 65536 in
theorem w_c26 : (Jvm.Cond.code ({ cls := "java/util/ImmutableCollections$AbstractImmutableList", name := "<init>", desc := "()V" } : Jvm.MethodName) jdk_46_method_1_code (1 : Nat) (Option.none : Option Jvm.ClassFile.FieldType)).before args0 about1 = true := code_word (m := ⟨15, 0⟩) (meth := k15m0) (c := k15c0) (by decide +kernel) rfl rfl rfl (by decide +kernel)
set_option maxRecDepth 65536 in
theorem w_c27 : (Jvm.Cond.code ({ cls := "java/util/ImmutableCollections$AbstractImmutableCollection", name := "<init>", desc := "()V" } : Jvm.MethodName) jdk_47_method_1_code (1 : Nat) (Option.none : Option Jvm.ClassFile.FieldType)).before args0 about1 = true := code_word (m := ⟨14, 0⟩) (meth := k14m0) (c := k14c0) (by decide +kernel) rfl rfl rfl (by decide +kernel)
set_option maxRecDepth 65536 in
theorem w_c28 : (Jvm.Cond.code ({ cls := "java/lang/Long", name := "<init>", desc := "(J)V" } : Jvm.MethodName) jdk_35_method_26_code (3 : Nat) (Option.none : Option Jvm.ClassFile.FieldType)).before args0 about1 = true := code_word (m := ⟨22, 1⟩) (meth := k22m1) (c := k22c1) (by decide +kernel) rfl rfl rfl (by decide +kernel)
set_option maxRecDepth 65536 in
theorem w_c29 : (Jvm.Cond.code ({ cls := "java/lang/Number", name := "<init>", desc := "()V" } : Jvm.MethodName) jdk_18_method_1_code (1 : Nat) (Option.none : Option Jvm.ClassFile.FieldType)).before args0 about1 = true := code_word (m := ⟨18, 0⟩) (meth := k18m0) (c := k18c0) (by decide +kernel) rfl rfl rfl (by decide +kernel)
set_option maxRecDepth 65536 in
theorem w_c30 : (Jvm.Cond.code ({ cls := "java/util/ImmutableCollections$List12", name := "<init>", desc := "(Ljava/lang/Object;Ljava/lang/Object;)V" } : Jvm.MethodName) jdk_44_method_2_code (3 : Nat) (Option.none : Option Jvm.ClassFile.FieldType)).before args0 about1 = true := code_word (m := ⟨16, 1⟩) (meth := k16m1) (c := k16c1) (by decide +kernel) rfl rfl rfl (by decide +kernel)
set_option maxRecDepth 65536 in
theorem w_c31 : (Jvm.Cond.code ({ cls := "java/util/ImmutableCollections$List12", name := "size", desc := "()I" } : Jvm.MethodName) jdk_44_method_3_code (1 : Nat) (Option.some Jvm.ClassFile.FieldType.int)).before args0 about1 = true := code_word (m := ⟨16, 2⟩) (meth := k16m2) (c := k16c2) (by decide +kernel) rfl rfl rfl (by decide +kernel)
set_option maxRecDepth 65536 in
theorem w_c32 : (Jvm.Cond.code ({ cls := "java/util/ImmutableCollections$List12", name := "<init>", desc := "(Ljava/lang/Object;)V" } : Jvm.MethodName) jdk_44_method_1_code (2 : Nat) (Option.none : Option Jvm.ClassFile.FieldType)).before args0 about1 = true := code_word (m := ⟨16, 0⟩) (meth := k16m0) (c := k16c0) (by decide +kernel) rfl rfl rfl (by decide +kernel)
def codes1 : List Jvm.Cond := [Jvm.Cond.code x code maxLocals ret, Jvm.Cond.code ({ cls := "java/util/ArrayList", name := "<init>", desc := "()V" } : Jvm.MethodName) jdk_38_method_2_code (1 : Nat) (Option.none : Option Jvm.ClassFile.FieldType), Jvm.Cond.code ({ cls := "java/util/AbstractList", name := "<init>", desc := "()V" } : Jvm.MethodName) jdk_39_method_1_code (1 : Nat) (Option.none : Option Jvm.ClassFile.FieldType), Jvm.Cond.code ({ cls := "java/util/AbstractCollection", name := "<init>", desc := "()V" } : Jvm.MethodName) jdk_22_method_1_code (1 : Nat) (Option.none : Option Jvm.ClassFile.FieldType), Jvm.Cond.code ({ cls := "java/lang/Object", name := "<init>", desc := "()V" } : Jvm.MethodName) object_method_1_code (1 : Nat) (Option.none : Option Jvm.ClassFile.FieldType), Jvm.Cond.code ({ cls := "com/example/libelect/libelect/simulation/Outcome", name := "<init>", desc := "(IILjava/util/List;ILjava/util/List;[JJ)V" } : Jvm.MethodName) prog_52_method_1_code (9 : Nat) (Option.none : Option Jvm.ClassFile.FieldType), Jvm.Cond.code ({ cls := "java/util/List", name := "copyOf", desc := "(Ljava/util/Collection;)Ljava/util/List;" } : Jvm.MethodName) jdk_40_method_48_code (1 : Nat) (Option.some (Jvm.ClassFile.FieldType.object "java/util/List")), Jvm.Cond.code ({ cls := "java/util/ImmutableCollections", name := "listCopy", desc := "(Ljava/util/Collection;)Ljava/util/List;" } : Jvm.MethodName) jdk_56_method_3_code (2 : Nat) (Option.some (Jvm.ClassFile.FieldType.object "java/util/List")), Jvm.Cond.code ({ cls := "java/util/ArrayList", name := "isEmpty", desc := "()Z" } : Jvm.MethodName) jdk_38_method_9_code (1 : Nat) (Option.some Jvm.ClassFile.FieldType.boolean), Jvm.Cond.code ({ cls := "java/util/List", name := "of", desc := "()Ljava/util/List;" } : Jvm.MethodName) jdk_40_method_36_code (0 : Nat) (Option.some (Jvm.ClassFile.FieldType.object "java/util/List")), Jvm.Cond.code ({ cls := "com/example/libelect/libelect/simulation/Outcome", name := "elected", desc := "()Z" } : Jvm.MethodName) prog_52_method_6_code (1 : Nat) (Option.some Jvm.ClassFile.FieldType.boolean), Jvm.Cond.code ({ cls := "java/util/ImmutableCollections$ListN", name := "size", desc := "()I" } : Jvm.MethodName) jdk_45_method_3_code (1 : Nat) (Option.some Jvm.ClassFile.FieldType.int), Jvm.Cond.code ({ cls := "java/lang/Long", name := "valueOf", desc := "(J)Ljava/lang/Long;" } : Jvm.MethodName) jdk_35_method_24_code (3 : Nat) (Option.some (Jvm.ClassFile.FieldType.object "java/lang/Long")), Jvm.Cond.code ({ cls := "java/util/ArrayList", name := "add", desc := "(Ljava/lang/Object;)Z" } : Jvm.MethodName) jdk_38_method_25_code (2 : Nat) (Option.some Jvm.ClassFile.FieldType.boolean), Jvm.Cond.code ({ cls := "java/util/ArrayList", name := "add", desc := "(Ljava/lang/Object;[Ljava/lang/Object;I)V" } : Jvm.MethodName) jdk_38_method_24_code (4 : Nat) (Option.none : Option Jvm.ClassFile.FieldType), Jvm.Cond.code ({ cls := "java/util/ArrayList", name := "grow", desc := "()[Ljava/lang/Object;" } : Jvm.MethodName) jdk_38_method_7_code (1 : Nat) (Option.some (Jvm.ClassFile.FieldType.array (Jvm.ClassFile.FieldType.object "java/lang/Object"))), Jvm.Cond.code ({ cls := "java/util/ArrayList", name := "grow", desc := "(I)[Ljava/lang/Object;" } : Jvm.MethodName) jdk_38_method_6_code (4 : Nat) (Option.some (Jvm.ClassFile.FieldType.array (Jvm.ClassFile.FieldType.object "java/lang/Object"))), Jvm.Cond.code ({ cls := "java/lang/Math", name := "max", desc := "(II)I" } : Jvm.MethodName) jdk_29_method_65_code (2 : Nat) (Option.some Jvm.ClassFile.FieldType.int), Jvm.Cond.code ({ cls := "java/util/ArrayList", name := "toArray", desc := "()[Ljava/lang/Object;" } : Jvm.MethodName) jdk_38_method_16_code (1 : Nat) (Option.some (Jvm.ClassFile.FieldType.array (Jvm.ClassFile.FieldType.object "java/lang/Object"))), Jvm.Cond.code ({ cls := "java/util/Arrays", name := "copyOf", desc := "([Ljava/lang/Object;I)[Ljava/lang/Object;" } : Jvm.MethodName) jdk_65_method_119_code (2 : Nat) (Option.some (Jvm.ClassFile.FieldType.array (Jvm.ClassFile.FieldType.object "java/lang/Object"))), Jvm.Cond.code ({ cls := "java/util/Arrays", name := "copyOf", desc := "([Ljava/lang/Object;ILjava/lang/Class;)[Ljava/lang/Object;" } : Jvm.MethodName) jdk_65_method_120_code (4 : Nat) (Option.some (Jvm.ClassFile.FieldType.array (Jvm.ClassFile.FieldType.object "java/lang/Object"))), Jvm.Cond.code ({ cls := "java/lang/Math", name := "min", desc := "(II)I" } : Jvm.MethodName) jdk_29_method_69_code (2 : Nat) (Option.some Jvm.ClassFile.FieldType.int), Jvm.Cond.code ({ cls := "java/util/List", name := "of", desc := "([Ljava/lang/Object;)Ljava/util/List;" } : Jvm.MethodName) jdk_40_method_47_code (2 : Nat) (Option.some (Jvm.ClassFile.FieldType.object "java/util/List")), Jvm.Cond.code ({ cls := "java/util/ImmutableCollections", name := "listFromArray", desc := "([Ljava/lang/Object;)Ljava/util/List;" } : Jvm.MethodName) jdk_56_method_4_code (3 : Nat) (Option.some (Jvm.ClassFile.FieldType.object "java/util/List")), Jvm.Cond.code ({ cls := "java/util/Objects", name := "requireNonNull", desc := "(Ljava/lang/Object;)Ljava/lang/Object;" } : Jvm.MethodName) jdk_31_method_10_code (1 : Nat) (Option.some (Jvm.ClassFile.FieldType.object "java/lang/Object")), Jvm.Cond.code ({ cls := "java/util/ImmutableCollections$ListN", name := "<init>", desc := "([Ljava/lang/Object;Z)V" } : Jvm.MethodName) jdk_45_method_1_code (3 : Nat) (Option.none : Option Jvm.ClassFile.FieldType), Jvm.Cond.code ({ cls := "java/util/ImmutableCollections$AbstractImmutableList", name := "<init>", desc := "()V" } : Jvm.MethodName) jdk_46_method_1_code (1 : Nat) (Option.none : Option Jvm.ClassFile.FieldType), Jvm.Cond.code ({ cls := "java/util/ImmutableCollections$AbstractImmutableCollection", name := "<init>", desc := "()V" } : Jvm.MethodName) jdk_47_method_1_code (1 : Nat) (Option.none : Option Jvm.ClassFile.FieldType), Jvm.Cond.code ({ cls := "java/lang/Long", name := "<init>", desc := "(J)V" } : Jvm.MethodName) jdk_35_method_26_code (3 : Nat) (Option.none : Option Jvm.ClassFile.FieldType), Jvm.Cond.code ({ cls := "java/lang/Number", name := "<init>", desc := "()V" } : Jvm.MethodName) jdk_18_method_1_code (1 : Nat) (Option.none : Option Jvm.ClassFile.FieldType), Jvm.Cond.code ({ cls := "java/util/ImmutableCollections$List12", name := "<init>", desc := "(Ljava/lang/Object;Ljava/lang/Object;)V" } : Jvm.MethodName) jdk_44_method_2_code (3 : Nat) (Option.none : Option Jvm.ClassFile.FieldType), Jvm.Cond.code ({ cls := "java/util/ImmutableCollections$List12", name := "size", desc := "()I" } : Jvm.MethodName) jdk_44_method_3_code (1 : Nat) (Option.some Jvm.ClassFile.FieldType.int), Jvm.Cond.code ({ cls := "java/util/ImmutableCollections$List12", name := "<init>", desc := "(Ljava/lang/Object;)V" } : Jvm.MethodName) jdk_44_method_1_code (2 : Nat) (Option.none : Option Jvm.ClassFile.FieldType)]
set_option maxRecDepth 65536 in
theorem codes_eq : words1.filter isCode = codes1 := rfl
theorem w_codes : ∀ c ∈ words1.filter isCode, c.before args0 about1 = true := by
  rw [codes_eq]
  intro c hc
  simp only [codes1, List.mem_cons, List.not_mem_nil, or_false] at hc
  rcases hc with rfl | rfl | rfl | rfl | rfl | rfl | rfl | rfl | rfl | rfl | rfl | rfl | rfl | rfl | rfl | rfl | rfl | rfl | rfl | rfl | rfl | rfl | rfl | rfl | rfl | rfl | rfl | rfl | rfl | rfl | rfl | rfl | rfl
  · exact w_c0
  · exact w_c1
  · exact w_c2
  · exact w_c3
  · exact w_c4
  · exact w_c5
  · exact w_c6
  · exact w_c7
  · exact w_c8
  · exact w_c9
  · exact w_c10
  · exact w_c11
  · exact w_c12
  · exact w_c13
  · exact w_c14
  · exact w_c15
  · exact w_c16
  · exact w_c17
  · exact w_c18
  · exact w_c19
  · exact w_c20
  · exact w_c21
  · exact w_c22
  · exact w_c23
  · exact w_c24
  · exact w_c25
  · exact w_c26
  · exact w_c27
  · exact w_c28
  · exact w_c29
  · exact w_c30
  · exact w_c31
  · exact w_c32
set_option maxRecDepth 65536 in
theorem w_t1 : (words1.take 24).all (fun c => isCode c || c.before args0 about1) = true := by decide +kernel
set_option maxRecDepth 65536 in
theorem w_t2 : ((words1.drop 24).take 24).all (fun c => isCode c || c.before args0 about1) = true := by decide +kernel
set_option maxRecDepth 65536 in
theorem w_t3 : (((words1.drop 24).drop 24).take 24).all (fun c => isCode c || c.before args0 about1) = true := by decide +kernel
set_option maxRecDepth 65536 in
theorem w_t4 : ((((words1.drop 24).drop 24).drop 24).take 24).all (fun c => isCode c || c.before args0 about1) = true := by decide +kernel
set_option maxRecDepth 65536 in
theorem w_t5 : (((((words1.drop 24).drop 24).drop 24).drop 24).take 24).all (fun c => isCode c || c.before args0 about1) = true := by decide +kernel
set_option maxRecDepth 65536 in
theorem w_t6 : ((((((words1.drop 24).drop 24).drop 24).drop 24).drop 24).take 24).all (fun c => isCode c || c.before args0 about1) = true := by decide +kernel
set_option maxRecDepth 65536 in
theorem w_t7 : (((((((words1.drop 24).drop 24).drop 24).drop 24).drop 24).drop 24).take 24).all (fun c => isCode c || c.before args0 about1) = true := by decide +kernel
set_option maxRecDepth 65536 in
theorem w_t8 : ((((((((words1.drop 24).drop 24).drop 24).drop 24).drop 24).drop 24).drop 24).take 24).all (fun c => isCode c || c.before args0 about1) = true := by decide +kernel
set_option maxRecDepth 65536 in
theorem w_t9 : (((((((((words1.drop 24).drop 24).drop 24).drop 24).drop 24).drop 24).drop 24).drop 24).take 24).all (fun c => isCode c || c.before args0 about1) = true := by decide +kernel
set_option maxRecDepth 65536 in
theorem w_t10 : ((((((((((words1.drop 24).drop 24).drop 24).drop 24).drop 24).drop 24).drop 24).drop 24).drop 24).take 24).all (fun c => isCode c || c.before args0 about1) = true := by decide +kernel
set_option maxRecDepth 65536 in
theorem w_t11 : ((((((((((words1.drop 24).drop 24).drop 24).drop 24).drop 24).drop 24).drop 24).drop 24).drop 24).drop 24).all (fun c => isCode c || c.before args0 about1) = true := by decide +kernel
theorem w_tables : (allAtoms (Jvm.Cond.code x code maxLocals ret :: tables_1)).before args0 about1 = true := by
  rw [allAtoms_all]
  show words1.all (fun c => c.before args0 about1) = true
  refine all_split ?_ w_codes
  rw [← List.take_append_drop 24 words1, List.all_append, w_t1, ← List.take_append_drop 24 (words1.drop 24), List.all_append, w_t2, ← List.take_append_drop 24 ((words1.drop 24).drop 24), List.all_append, w_t3, ← List.take_append_drop 24 (((words1.drop 24).drop 24).drop 24), List.all_append, w_t4, ← List.take_append_drop 24 ((((words1.drop 24).drop 24).drop 24).drop 24), List.all_append, w_t5, ← List.take_append_drop 24 (((((words1.drop 24).drop 24).drop 24).drop 24).drop 24), List.all_append, w_t6, ← List.take_append_drop 24 ((((((words1.drop 24).drop 24).drop 24).drop 24).drop 24).drop 24), List.all_append, w_t7, ← List.take_append_drop 24 (((((((words1.drop 24).drop 24).drop 24).drop 24).drop 24).drop 24).drop 24), List.all_append, w_t8, ← List.take_append_drop 24 ((((((((words1.drop 24).drop 24).drop 24).drop 24).drop 24).drop 24).drop 24).drop 24), List.all_append, w_t9, ← List.take_append_drop 24 (((((((((words1.drop 24).drop 24).drop 24).drop 24).drop 24).drop 24).drop 24).drop 24).drop 24), List.all_append, w_t10, w_t11]
  rfl
set_option maxRecDepth 65536 in
theorem w_rest : rest_1_c.before args0 about1 = true := by decide +kernel
set_option maxRecDepth 65536 in
theorem w_case : (Jvm.Cond.and given_1 narrow_1).before args0 about1 = true := by decide +kernel
theorem w_applies : (headSpec (Jvm.Cond.code x code maxLocals ret :: tables_1) room_1).applies x e0.platform about1 = true :=
  (Spec.applies_iff w_frames).mpr ⟨w_running, w_runnable, w_alone, w_named, w_hears, w_ripe, w_room, w_tables⟩
set_option maxRecDepth 65536 in
theorem atStart : AtStart classFile x code maxLocals ret World_1 tables_1 room_1 Calls_1 rest_1 Pre_1 launch0 p0 e0 about1 theMethod args0 below0 :=
  ⟨lists_1, trivial, launch0.admits_env _ _ _, launch0.least_env, fairChoices_fair.cas, fairChoices_fair.clock, w_frames, w_args, w_heap, w_applies, ⟨⟨36, k36, 3, by decide +kernel, rfl, rfl, _, rfl, rfl⟩, trivial⟩, w_rest, w_case⟩
end start1
theorem witness_1 : WitnessClaimed_1 := ⟨start1.p0, start1.e0, start1.about1, start1.theMethod, start1.args0, start1.below0, start1.atStart⟩
end Jvm.Pilot.@@N@@
