import JvmDerived
import JvmDerived.Pilot.@@N@@Statement
import JvmDerived.Pilot.@@N@@Code
set_option linter.unusedVariables false
set_option linter.unusedSimpArgs false
namespace Jvm.Pilot.@@N@@
open Jvm Jvm.ClassFile Sem Op Lib Jvm.Free Jvm.Stand Jvm.LawKit Jvm.RoadKit Bundle Jvm.Pilot.@@N@@.Jvm.D
section Own
variable {p : Program} {l : Launch} {e : Env} {R : Room} {s : State} {m : MethodId} {args : Array Value} {below : List Frame} {meth : Method} {c : Code} {T T' : State} {locs : List Loc} {cells slots : Nat} {Z : State} {a0 : Array Value} {h : Heap} {K N : Nat} {Q : Option Value → Heap → List Loc → Prop}
/-- from the state T with the frame g on top the invocation comes to its end, and Q holds of what it leaves -/
def own_Fin (p : Program) (e : Env) (s : State) (below : List Frame) (K N : Nat) (Q : Option Value → Heap → List Loc → Prop) (T : State) (g : JFrame) : Prop :=
  ∃ s₂ o, Steps p.tables e below (T.setTop g) s₂ ∧ s₂.status = .running ∧ Ended s₂ below o ∧ ∃ v L, o = .returned v ∧ Q v s₂.heap L ∧ FrameEnd s o s₂ L K N
/-- a contract of this family: called with as' at the heap h the method returns, and Q holds -/
abbrev own_Met (l : Launch) (Z : State) (y : MethodName) (bytes : ByteArray) (maxL : Nat) (ret : Option FieldType) (ws : List Jvm.Cond) (rm : Room) (as' : Array Value) (h : Heap) (Q : Option Value → Heap → List Loc → Prop) : Prop :=
  MetFree l y (head1 (Jvm.Cond.code y bytes maxL ret :: ws) rm) (fun a U => a = as' ∧ Z.Warmed39 U.vm ∧ U.heap = h) (fun _ _ _ _ _ => True) (fun _ U o U' => ∃ v L, o = .returned v ∧ Q v U'.heap L ∧ FrameEnd U o U' L rm.cells rm.slots)
/-- a method that writes nothing and makes nothing: it returns w -/
def own_Q0 (h : Heap) (w : Value) (v : Option Value) (h' : Heap) (L : List Loc) : Prop := v = some w ∧ L = [] ∧ h' = h
abbrev own_Pure (l : Launch) (Z : State) (y : MethodName) (bytes : ByteArray) (maxL : Nat) (ret : Option FieldType) (fr lo : Nat) (as' : Array Value) (h : Heap) (w : Value) : Prop :=
  own_Met l Z y bytes maxL ret [] ({ frames := fr, cells := 0, slots := 0, locals := lo } : Room) as' h (own_Q0 h w)
theorem own_step {g g' : JFrame} (st : ∀ t, Steps p.tables e below (T'.setTop g') t → Steps p.tables e below (T.setTop g) t) (H : own_Fin p e s below K N Q T' g') : own_Fin p e s below K N Q T g := by
  obtain ⟨s2, o, h1, r⟩ := H
  exact ⟨s2, o, st _ h1, r⟩
theorem own_body {y : MethodName} {bytes : ByteArray} {maxL : Nat} {ret : Option FieldType} {ws : List Jvm.Cond} {rm : Room} {as' : Array Value} (hpn : plainName y.cls = true)
    (F : ∀ (p : Program) (e : Env) (s : State) (m : MethodId) (below : List Frame) (meth : Method) (c : Code) (s₁ : State), p.tables.exec = Jvm.exec → c.code = bytes → c.maxLocals = maxL → Z.Warmed39 s.vm → s.vm.findClass y.cls = some m.cls → meth.name = y.name → meth.sig.returnType = ret → meth.locks = false →
      Stand p l e rm s m as' below meth c s₁ [] 0 0 → s₁.heap = h → own_Fin p e s below rm.cells rm.slots Q s₁ (entryFrame m as' maxL)) : own_Met l Z y bytes maxL ret ws rm as' h Q := by
  refine MetFree.of_bodySF (plainFor_of_name hpn) hisR ?_
  intro p e s m args below meth c s₁ Bd hml0 hP hK
  obtain ⟨rfl, hZ, hh⟩ := hP
  exact F p e s m below meth c s₁ Bd.exec Bd.bytes hml0 hZ (findClass_of_methodNamed Bd.named) (name_of_methodNamed Bd.named Bd.method).1 Bd.returns Bd.notSynchronized (Stand.of_body Bd) (by rw [← hh, Bd.state]; rfl)
theorem own_end (X : Stand p l e R s m args below meth c T locs cells slots) {v : Option Value} (hv : meth.sig.returnType = none → v = none) (hlk : meth.locks = false) {g : JFrame}
    (st : ∀ fs, (∀ (f : JFrame) (acts : List Action), f.method = m → f.locked = none → f.entered = [] → (doReturn e (T.setTop f) acts v).1 = T.setFrames fs) → Steps p.tables e below (T.setTop g) (T.setFrames fs))
    (hQ : Q v T.heap locs) (hk : cells ≤ K) (hn : slots ≤ N) : own_Fin p e s below K N Q T g := by
  obtain ⟨fs, hr, hrun, hended, hW, hsame⟩ := X.leave (v := v) hv hlk
  exact ⟨_, _, st fs hr, hrun, hended, _, _, rfl, hQ, ⟨_, rfl⟩, hW, hsame.mono hk hn⟩
theorem own_retZ (X : Stand p l e R s m args below meth c T locs cells slots) (hx : p.tables.exec = Jvm.exec) (hret : meth.sig.returnType = some .boolean) (hlk : meth.locks = false) {pc : Nat} {Ls : Array Slot} {z : Int32} {rest : List Value} (hd : decode c.code pc = .ok (.ireturn, 1)) (hz : z = 0 ∨ z = 1)
    (hQ : Q (some (.int z)) T.heap locs) (hk : cells ≤ K) (hn : slots ≤ N) : own_Fin p e s below K N Q T (mkF m pc Ls (.int z :: rest)) := by
  refine own_end X (v := some (.int z)) (fun q => by rw [hret] at q; cases q) hlk (fun fs hr => ?_) hQ hk hn
  have hnar : nar .boolean z = z := by rcases hz with rfl | rfl <;> rfl
  exact retN X hx (t := .boolean) hret (Or.inl rfl) hd (by rw [hnar]; exact hr)
theorem own_retA (X : Stand p l e R s m args below meth c T locs cells slots) (hx : p.tables.exec = Jvm.exec) {t : FieldType} (hret : meth.sig.returnType = some t) (ht : t.isReference = true) (hlk : meth.locks = false) {pc : Nat} {Ls : Array Slot} {w : Value} {rest : List Value} (hd : decode c.code pc = .ok (.areturn, 1)) (hw : w.isRef = true)
    (hQ : Q (some w) T.heap locs) (hk : cells ≤ K) (hn : slots ≤ N) : own_Fin p e s below K N Q T (mkF m pc Ls (w :: rest)) := by
  refine own_end X (v := some w) (fun q => by rw [hret] at q; cases q) hlk (fun fs hr => ?_) hQ hk hn
  refine retOut X hx (i := .areturn) hret ?_ (Or.inr (Or.inr (Or.inr (Or.inr ⟨rfl, ht, hw⟩)))) hd hr
  rcases ref_cases hw with rfl | ⟨a, rfl⟩ <;> cases t <;> first | rfl | (cases ht; done)
theorem own_getS (X : Stand p l e R s m args below meth c T locs cells slots) (hx : p.tables.exec = Jvm.exec) (hZ : Z.Warmed39 s.vm) {own O n d : String} {index : Nat} (hown : s.vm.findClass own = some m.cls) (w : (Jvm.Cond.fieldLink own index O n d).before a0 Z = true) (eT : T.heap = h) {v : Value} (F : Sta Z h O n d v)
    {pc : Nat} {Ls : Array Slot} {st : List Value} (hd : decode c.code pc = .ok (.getstatic index, 3)) (H : ∀ T', Stand p l e R s m args below meth c T' locs cells slots → T'.heap = h → own_Fin p e s below K N Q T' (mkF m (pc + 3) Ls (v :: st))) : own_Fin p e s below K N Q T (mkF m pc Ls st) := by
  obtain ⟨T', X', e', st'⟩ := getS (host := "") X hx hZ hown w Via.refl eT F (g := mkF m pc Ls st) rfl hd
  exact own_step st' (H T' X' e')
theorem own_getF (X : Stand p l e R s m args below meth c T locs cells slots) (hx : p.tables.exec = Jvm.exec) (hZ : Z.Warmed39 s.vm) {own O n d : String} {index : Nat} (hown : s.vm.findClass own = some m.cls) (w : (Jvm.Cond.fieldLink own index O n d).before a0 Z = true) (eT : T.heap = h) {a : Addr} {v : Value} (F : Fld Z h a O n d v)
    {pc : Nat} {Ls : Array Slot} {st : List Value} (hd : decode c.code pc = .ok (.getfield index, 3)) (H : ∀ T', Stand p l e R s m args below meth c T' locs cells slots → T'.heap = h → own_Fin p e s below K N Q T' (mkF m (pc + 3) Ls (v :: st))) : own_Fin p e s below K N Q T (mkF m pc Ls (.ref a :: st)) := by
  obtain ⟨T', X', e', st'⟩ := getF (host := "") X hx hZ hown (Or.inl w) Via.refl eT F (g := mkF m pc Ls (.ref a :: st)) rfl rfl hd
  exact own_step st' (H T' X' e')
/-- a static method by its contract -/
theorem own_callS (X : Stand p l e R s m args below meth c T locs cells slots) (hx : p.tables.exec = Jvm.exec) (hZ : Z.Warmed39 s.vm) {own : String} {index : Nat} {y : MethodName} {bytes : ByteArray} {maxL : Nat} {ret : Option FieldType} {rm : Room} {Q' : Option Value → Heap → List Loc → Prop} {argsL rest : List Value}
    (hown : s.vm.findClass own = some m.cls) (w1 : (Jvm.Cond.methodLink own index y).before a0 Z = true) (w2 : (Jvm.Cond.static y).before a0 Z = true) (w3 : (Jvm.Cond.initialized y.cls).before a0 Z = true) (w4 : (Jvm.Cond.code y bytes maxL ret).before a0 Z = true)
    (hy : y.cls ≠ "java/lang/invoke/MethodHandle" ∧ y.cls ≠ "java/lang/invoke/VarHandle") (M : own_Met l Z y bytes maxL ret [] rm argsL.toArray h Q') (eT : T.heap = h) (W : Nat) (hW : (rest.map fun v => v.category).sum ≤ W) (hf : rm.frames + 1 ≤ R.frames) (hl : W + (maxL + 11) + rm.locals ≤ R.locals) (hc : cells + rm.cells ≤ R.cells) (hs : slots + rm.slots ≤ R.slots)
    {pc : Nat} {Ls : Array Slot} {st : List Value} (hml : c.maxLocals = Ls.size) {ps : List FieldType} {r : Option FieldType} (hsig : parseMethodDescriptor y.desc = some ⟨ps, r⟩) (hlen : argsL.length = ps.length) (hst : st = argsL.reverse ++ rest) (hd : decode c.code pc = .ok (.invokestatic index, 3))
    (H : ∀ T' L v, Stand p l e R s m args below meth c T' (locs ++ L) (cells + rm.cells) (slots + rm.slots) → Q' v T'.heap L → own_Fin p e s below K N Q T' (mkF m (pc + 3) Ls (v.toList ++ rest))) : own_Fin p e s below K N Q T (mkF m pc Ls st) := by
  obtain ⟨v, _, ⟨T', L', k', n'⟩, -, X', ⟨Lc, hQ, l', y', z'⟩, st'⟩ := Jvm.LawKit.callS X hx (y := y) hown (mvT hZ w1) (mvT hZ w2) (mvT hZ w3) (mvT hZ w4) hy (backOf (W := W) M hZ w4 w3 hf hl) (g := mkF m pc Ls st) rfl (by rw [hml]) (argsL := argsL) (rest := rest) (lenOf hsig hlen) hst (by show 2 * 0 + _ ≤ _; omega) hd (fun _ _ => ⟨rfl, eT, hc, hs⟩)
  dsimp only [Pt.U, Pt.locs, Pt.cells, Pt.slots] at X' l' y' z' st' hQ
  subst l' y' z'
  exact own_step st' (H T' Lc v X' hQ)
/-- an instance method by its contract, the receiver exactly of the class C -/
theorem own_callV (X : Stand p l e R s m args below meth c T locs cells slots) (hx : p.tables.exec = Jvm.exec) (hZ : Z.Warmed39 s.vm) {own C : String} {index : Nat} {y : MethodName} {bytes : ByteArray} {maxL : Nat} {ret : Option FieldType} {rm : Room} {Q' : Option Value → Heap → List Loc → Prop} {b : Addr} {argsL rest : List Value}
    (hown : s.vm.findClass own = some m.cls) (w1 : (Jvm.Cond.methodLink own index y).before a0 Z = true) (w2 : (Jvm.Cond.declares y).before a0 Z = true) (w3 : (Jvm.Cond.selects C y y).before a0 Z = true) (w4 : (Jvm.Cond.instanceMethod y).before a0 Z = true) (w5 : (Jvm.Cond.code y bytes maxL ret).before a0 Z = true) (w6 : (Jvm.Cond.initialized y.cls).before a0 Z = true)
    (hy : y.cls ≠ "java/lang/invoke/MethodHandle" ∧ y.cls ≠ "java/lang/invoke/VarHandle") (E : Exa Z h b C) (M : own_Met l Z y bytes maxL ret [] rm (.ref b :: argsL).toArray h Q') (eT : T.heap = h) (W : Nat) (hW : (rest.map fun v => v.category).sum ≤ W) (hf : rm.frames + 1 ≤ R.frames) (hl : W + (maxL + 11) + rm.locals ≤ R.locals) (hc : cells + rm.cells ≤ R.cells) (hs : slots + rm.slots ≤ R.slots)
    {pc : Nat} {Ls : Array Slot} {st : List Value} (hml : c.maxLocals = Ls.size) {ps : List FieldType} {r : Option FieldType} (hsig : parseMethodDescriptor y.desc = some ⟨ps, r⟩) (hlen : argsL.length = ps.length) (hst : st = argsL.reverse ++ .ref b :: rest) (hd : decode c.code pc = .ok (.invokevirtual index, 3))
    (H : ∀ T' L v, Stand p l e R s m args below meth c T' (locs ++ L) (cells + rm.cells) (slots + rm.slots) → Q' v T'.heap L → own_Fin p e s below K N Q T' (mkF m (pc + 3) Ls (v.toList ++ rest))) : own_Fin p e s below K N Q T (mkF m pc Ls st) := by
  obtain ⟨cq, kq, q1, q2, q3⟩ := isOf hZ eT E
  obtain ⟨v, _, ⟨T', L', k', n'⟩, -, X', ⟨Lc, hQ, l', y', z'⟩, st'⟩ := X.virtualBack hx (y := y) (z := y) hown (mvT hZ w1) (mvT hZ w2) (notFace_of_selects (args := #[]) (mvT hZ w3)) (mvT hZ w3) (mvT hZ w4) hy (backOf (W := W) M hZ w5 w6 hf hl) q1 q3 (g := mkF m pc Ls st) rfl (by rw [hml]) (Steps.refl _) (argsL := argsL) (rest := rest) (lenOf hsig hlen) hst (by show 2 * 0 + _ ≤ _; omega) hd (fun _ _ => ⟨rfl, eT, hc, hs⟩)
  dsimp only [Pt.U, Pt.locs, Pt.cells, Pt.slots] at X' l' y' z' st' hQ
  subst l' y' z'
  exact own_step (fun _ k => st'.trans k) (H T' Lc v X' hQ)
theorem own_callS0 (X : Stand p l e R s m args below meth c T locs cells slots) (hx : p.tables.exec = Jvm.exec) (hZ : Z.Warmed39 s.vm) {own : String} {index : Nat} {y : MethodName} {bytes : ByteArray} {maxL : Nat} {ret : Option FieldType} {fr lo : Nat} {w : Value} {argsL rest : List Value}
    (hown : s.vm.findClass own = some m.cls) (w1 : (Jvm.Cond.methodLink own index y).before a0 Z = true) (w2 : (Jvm.Cond.static y).before a0 Z = true) (w3 : (Jvm.Cond.initialized y.cls).before a0 Z = true) (w4 : (Jvm.Cond.code y bytes maxL ret).before a0 Z = true)
    (hy : y.cls ≠ "java/lang/invoke/MethodHandle" ∧ y.cls ≠ "java/lang/invoke/VarHandle") (M : own_Pure l Z y bytes maxL ret fr lo argsL.toArray h w) (eT : T.heap = h) (W : Nat) (hW : (rest.map fun v => v.category).sum ≤ W) (hf : fr + 1 ≤ R.frames) (hl : W + (maxL + 11) + lo ≤ R.locals) (hc : cells ≤ R.cells) (hs : slots ≤ R.slots)
    {pc : Nat} {Ls : Array Slot} {st : List Value} (hml : c.maxLocals = Ls.size) {ps : List FieldType} {r : Option FieldType} (hsig : parseMethodDescriptor y.desc = some ⟨ps, r⟩) (hlen : argsL.length = ps.length) (hst : st = argsL.reverse ++ rest) (hd : decode c.code pc = .ok (.invokestatic index, 3))
    (H : ∀ T', Stand p l e R s m args below meth c T' locs cells slots → T'.heap = h → own_Fin p e s below K N Q T' (mkF m (pc + 3) Ls (w :: rest))) : own_Fin p e s below K N Q T (mkF m pc Ls st) := by
  refine own_callS X hx hZ hown w1 w2 w3 w4 hy M eT W hW hf hl hc hs hml hsig hlen hst hd ?_
  rintro T' L v X' ⟨rfl, rfl, q⟩
  rw [List.append_nil] at X'
  exact H T' X' q
theorem own_callV0 (X : Stand p l e R s m args below meth c T locs cells slots) (hx : p.tables.exec = Jvm.exec) (hZ : Z.Warmed39 s.vm) {own C : String} {index : Nat} {y : MethodName} {bytes : ByteArray} {maxL : Nat} {ret : Option FieldType} {fr lo : Nat} {w : Value} {b : Addr} {argsL rest : List Value}
    (hown : s.vm.findClass own = some m.cls) (w1 : (Jvm.Cond.methodLink own index y).before a0 Z = true) (w2 : (Jvm.Cond.declares y).before a0 Z = true) (w3 : (Jvm.Cond.selects C y y).before a0 Z = true) (w4 : (Jvm.Cond.instanceMethod y).before a0 Z = true) (w5 : (Jvm.Cond.code y bytes maxL ret).before a0 Z = true) (w6 : (Jvm.Cond.initialized y.cls).before a0 Z = true)
    (hy : y.cls ≠ "java/lang/invoke/MethodHandle" ∧ y.cls ≠ "java/lang/invoke/VarHandle") (E : Exa Z h b C) (M : own_Pure l Z y bytes maxL ret fr lo (.ref b :: argsL).toArray h w) (eT : T.heap = h) (W : Nat) (hW : (rest.map fun v => v.category).sum ≤ W) (hf : fr + 1 ≤ R.frames) (hl : W + (maxL + 11) + lo ≤ R.locals) (hc : cells ≤ R.cells) (hs : slots ≤ R.slots)
    {pc : Nat} {Ls : Array Slot} {st : List Value} (hml : c.maxLocals = Ls.size) {ps : List FieldType} {r : Option FieldType} (hsig : parseMethodDescriptor y.desc = some ⟨ps, r⟩) (hlen : argsL.length = ps.length) (hst : st = argsL.reverse ++ .ref b :: rest) (hd : decode c.code pc = .ok (.invokevirtual index, 3))
    (H : ∀ T', Stand p l e R s m args below meth c T' locs cells slots → T'.heap = h → own_Fin p e s below K N Q T' (mkF m (pc + 3) Ls (w :: rest))) : own_Fin p e s below K N Q T (mkF m pc Ls st) := by
  refine own_callV X hx hZ hown w1 w2 w3 w4 w5 w6 hy E M eT W hW hf hl hc hs hml hsig hlen hst hd ?_
  rintro T' L v X' ⟨rfl, rfl, q⟩
  rw [List.append_nil] at X'
  exact H T' X' q
end Own
section OwnFacts
variable {Z : State} {h : Heap} {a b : Addr} {C n d : String} {v w : Value} {args : Array Value} {s : State} {t : Term}
theorem own_fld_uni (F : Fld Z h a C n d v) (G : Fld Z h a C n d w) : v = w := by
  obtain ⟨cell, cf, k, i, f, h1, h2, h3, h4, h5, h6, h7⟩ := F
  obtain ⟨cell', cf', k', i', f', g1, g2, g3, g4, g5, g6, g7⟩ := G
  cases h1.symm.trans g1
  cases h2.symm.trans g2
  exact Option.some.inj (h7.symm.trans g7)
theorem own_ne {j k : Int32} (F : Fld Z h a C n d (.int j)) (G : Fld Z h b C n d (.int k)) (hn : j ≠ k) : a ≠ b := fun e => by
  subst e; exact hn (Value.int.inj (own_fld_uni F G))
theorem own_eqi {k : Int32} (q : (Jvm.Cond.eq t (Term.int k)).value args s none s [] = some true) : t.eval args s none [] s = some (.int k) := by
  simp only [Jvm.Cond.value, Term.eval] at q
  cases ht : t.eval args s none [] s with
  | none => simp [ht] at q
  | some x => cases x <;> simp [ht] at q ⊢; exact q
theorem own_fldw {k : Int32} (ev : t.eval args s none [] s = some (.ref a)) (q : (Jvm.Cond.eq (Term.field t C n d) (Term.int k)).value args s none s [] = some true) : Fld s s.heap a C n d (.int k) :=
  Fld.start ((fld_at ev).symm.trans (own_eqi q))
end OwnFacts
section OwnArrays
/-- what a law leaves: it returns 1; it has written into new cells alone -/
def own_Q1 (n0 : Nat) (v : Option Value) (_ : Heap) (L : List Loc) : Prop := v = some (.int 1) ∧ Fr n0 L
variable {p : Program} {l : Launch} {e : Env} {R : Room} {s : State} {m : MethodId} {args : Array Value} {below : List Frame} {meth : Method} {c : Code} {T T' : State} {locs : List Loc} {cells slots : Nat} {Z : State} {a0 : Array Value} {h h0 : Heap} {K N n0 : Nat} {Q : Option Value → Heap → List Loc → Prop}
theorem own_ext_wr {h' : Heap} {a : Addr} {sl : Nat} {v : Value} (E : Ext h0 h) (W : Wr h h' a sl v) (ha : h0.size ≤ a) : Ext h0 h' := by
  refine ⟨by rw [W.size]; exact E.1, fun b cb hb => ?_⟩
  obtain ⟨c', e1, -, -, -, e5, -⟩ := wr_at W (E.2 _ _ hb)
  rw [e1, e5 (fun q => by have := (Array.getElem?_eq_some_iff.mp hb).1; subst q; exact absurd this (Nat.not_lt.mpr ha))]
theorem own_ext_trans {h1 h2 : Heap} (E : Ext h0 h1) (F : Ext h1 h2) : Ext h0 h2 := ⟨Nat.le_trans E.1 F.1, fun a c q => F.2 _ _ (E.2 _ _ q)⟩
theorem own_ext_refl (h0 : Heap) : Ext h0 h0 := ⟨Nat.le_refl _, fun _ _ q => q⟩
theorem own_fr_snoc {a : Addr} {k : Nat} (F : Fr n0 locs) (ha : n0 ≤ a) : Fr n0 (locs ++ [⟨a, k⟩]) := fun y hy => by
  rcases List.mem_append.mp hy with q | q
  · exact F y q
  · rw [List.mem_singleton.mp q]; exact ha
/-- anewarray of a known length -/
theorem own_newR (X : Stand p l e R s m args below meth c T locs cells slots) (hx : p.tables.exec = Jvm.exec) (hZ : Z.Warmed39 s.vm) {own C : String} {index : Nat} (hown : s.vm.findClass own = some m.cls) (w1 : (Jvm.Cond.classLink own index C).before a0 Z = true) (w2 : (Jvm.Cond.arrayOver (.object C)).before a0 Z = true)
    (eT : T.heap = h) {pc : Nat} {Ls : Array Slot} {n : Int32} {st : List Value} (cap : Nat) (hn : ¬ n < 0) (hcap : n.toNatClampNeg = cap) (hb8 : cap * 8 ≤ 536870912) (hc : cells + 1 ≤ R.cells) (hl : slots + cap ≤ R.slots) (hd : decode c.code pc = .ok (.anewarray index, 3))
    (H : ∀ T' h' cl, Stand p l e R s m args below meth c T' locs (cells + 1) (slots + cap) → T'.heap = h' → Ext h h' → Arr Z h' h.size cl (.object C) → Ovr Z cl.cls C → cl.slots = Array.replicate cap .null → own_Fin p e s below K N Q T' (mkF m (pc + 3) Ls (.ref h.size :: st))) : own_Fin p e s below K N Q T (mkF m pc Ls (.int n :: st)) := by
  obtain ⟨T', h', cA, X', e', E', A', O', st'⟩ := newR X hx hZ hown w1 w2 eT (g := mkF m pc Ls (.int n :: st)) rfl hd rfl hn (cap := cap) (Nat.le_of_eq hcap) hb8 hc hl
  exact own_step st' (H T' h' _ X' e' E' A' O' (by rw [← hcap]; rfl))
/-- newarray of a known length -/
theorem own_newP (X : Stand p l e R s m args below meth c T locs cells slots) (hx : p.tables.exec = Jvm.exec) (hZ : Z.Warmed39 s.vm) {aty : ArrayType} (w : (Jvm.Cond.arrayClass (newarray.typeOf aty)).before a0 Z = true)
    (eT : T.heap = h) {pc : Nat} {Ls : Array Slot} {n : Int32} {st : List Value} (cap : Nat) (hn : ¬ n < 0) (hcap : n.toNatClampNeg = cap) (hb8 : cap * 8 ≤ 536870912) (hc : cells + 1 ≤ R.cells) (hl : slots + cap ≤ R.slots) (hd : decode c.code pc = .ok (.newarray aty, 2))
    (H : ∀ T' h' cl, Stand p l e R s m args below meth c T' locs (cells + 1) (slots + cap) → T'.heap = h' → Ext h h' → Arr Z h' h.size cl (newarray.typeOf aty) → cl.slots = Array.replicate cap (defaultValue (newarray.typeOf aty)) → own_Fin p e s below K N Q T' (mkF m (pc + 2) Ls (.ref h.size :: st))) : own_Fin p e s below K N Q T (mkF m pc Ls (.int n :: st)) := by
  obtain ⟨T', h', cA, X', e', E', A', st'⟩ := newP X hx hZ w eT (g := mkF m pc Ls (.int n :: st)) rfl hd rfl hn (cap := cap) (Nat.le_of_eq hcap) hb8 hc hl
  exact own_step st' (H T' h' _ X' e' E' A' (by rw [← hcap]; rfl))
/-- a reference stored into an array that is new since h0 -/
theorem own_stR (X : Stand p l e R s m args below meth c T locs cells slots) (hx : p.tables.exec = Jvm.exec) (hZ : Z.Warmed39 s.vm) (eT : T.heap = h) {a y : Addr} {cl : Cell} {C : String} (A : Arr Z h a cl (.object C)) (O : Ovr Z cl.cls C) (I : Exa Z h y C) (E : Ext h0 h) (ha : h0.size ≤ a) (F : Fr n0 locs) (hn0 : n0 ≤ a)
    {j : Int32} (i : Nat) (hi : j.toNatClampNeg = i) (hj : ¬ j < 0) (his : i < cl.slots.size) {pc : Nat} {Ls : Array Slot} {st : List Value} (hd : decode c.code pc = .ok (.aastore, 1))
    (H : ∀ T' h' cl' locs', Stand p l e R s m args below meth c T' locs' cells slots → T'.heap = h' → Ext h0 h' → Arr Z h' a cl' (.object C) → Ovr Z cl'.cls C → Fr n0 locs' → cl'.slots = cl.slots.setIfInBounds i (.ref y) → (∀ (b : Addr) (cb : Cell) (tb : FieldType), b ≠ a → Arr Z h b cb tb → Arr Z h' b cb tb) → own_Fin p e s below K N Q T' (mkF m (pc + 1) Ls st)) : own_Fin p e s below K N Q T (mkF m pc Ls (.ref y :: .int j :: .ref a :: st)) := by
  obtain ⟨T', h', X', e', W', st'⟩ := stR X hx hZ eT A (j := j) (v := .ref y) (fun q => q.elim hj (by rw [hi]; omega)) rfl (Sto.of A O (Ins.self I)) (g := mkF m pc Ls (.ref y :: .int j :: .ref a :: st)) rfl rfl hd
  rw [hi] at X' W'
  exact own_step st' (H T' h' _ _ X' e' (own_ext_wr E W' ha) (A.same W') O (own_fr_snoc F hn0) rfl (fun b cb tb hne B => B.other W' hne))
/-- an int stored into an array that is new since h0 -/
theorem own_stI (X : Stand p l e R s m args below meth c T locs cells slots) (hx : p.tables.exec = Jvm.exec) (hZ : Z.Warmed39 s.vm) (eT : T.heap = h) {a : Addr} {cl : Cell} (A : Arr Z h a cl .int) (E : Ext h0 h) (ha : h0.size ≤ a) (F : Fr n0 locs) (hn0 : n0 ≤ a)
    {j x : Int32} (i : Nat) (hi : j.toNatClampNeg = i) (hj : ¬ j < 0) (his : i < cl.slots.size) {pc : Nat} {Ls : Array Slot} {st : List Value} (hd : decode c.code pc = .ok (.iastore, 1))
    (H : ∀ T' h' cl' locs', Stand p l e R s m args below meth c T' locs' cells slots → T'.heap = h' → Ext h0 h' → Arr Z h' a cl' .int → Fr n0 locs' → cl'.slots = cl.slots.setIfInBounds i (.int x) → (∀ (b : Addr) (cb : Cell) (tb : FieldType), b ≠ a → Arr Z h b cb tb → Arr Z h' b cb tb) → own_Fin p e s below K N Q T' (mkF m (pc + 1) Ls st)) : own_Fin p e s below K N Q T (mkF m pc Ls (.int x :: .int j :: .ref a :: st)) := by
  obtain ⟨T', h', X', e', W', st'⟩ := stI X hx hZ eT A (j := j) (x := x) (fun q => q.elim hj (by rw [hi]; omega)) (g := mkF m pc Ls (.int x :: .int j :: .ref a :: st)) rfl rfl hd
  rw [hi] at X' W'
  exact own_step st' (H T' h' _ _ X' e' (own_ext_wr E W' ha) (A.same W') (own_fr_snoc F hn0) rfl (fun b cb tb hne B => B.other W' hne))
/-- a method that writes nothing, called where the walk has already made and written -/
theorem own_ald {a : Addr} {cl : Cell} {ty : FieldType} (X : Stand p l e R s m args below meth c T locs cells slots) (hx : p.tables.exec = Jvm.exec) (hZ : Z.Warmed39 s.vm) (eT : T.heap = h) (A : Arr Z h a cl ty) (hty : ty.isReference = true) {j : Int32} {v : Value} (i : Nat) (hi : j.toNatClampNeg = i) (hj : ¬ j < 0) (hv : cl.slots[i]? = some v)
    {pc : Nat} {Ls : Array Slot} {st : List Value} (hd : decode c.code pc = .ok (.aaload, 1)) (H : own_Fin p e s below K N Q T (mkF m (pc + 1) Ls (v :: st))) : own_Fin p e s below K N Q T (mkF m pc Ls (.int j :: .ref a :: st)) := by
  have his := (Array.getElem?_eq_some_iff.mp hv).1
  exact own_step (fun _ k => Stand.aaload X hx (by rw [eT]; exact A.1) (State.isArrayOf_alike hZ.alike A.2.1) hty A.2.2 (fun q => q.elim hj (by rw [hi]; omega)) (by rw [hi]; exact hv) (g := mkF m pc Ls (.int j :: .ref a :: st)) rfl rfl hd _ k) H
theorem own_ild {a : Addr} {cl : Cell} (X : Stand p l e R s m args below meth c T locs cells slots) (hx : p.tables.exec = Jvm.exec) (hZ : Z.Warmed39 s.vm) (eT : T.heap = h) (A : Arr Z h a cl .int) {j : Int32} {v : Value} (i : Nat) (hi : j.toNatClampNeg = i) (hj : ¬ j < 0) (hv : cl.slots[i]? = some v)
    {pc : Nat} {Ls : Array Slot} {st : List Value} (hd : decode c.code pc = .ok (.iaload, 1)) (H : own_Fin p e s below K N Q T (mkF m (pc + 1) Ls (v :: st))) : own_Fin p e s below K N Q T (mkF m pc Ls (.int j :: .ref a :: st)) := by
  have his := (Array.getElem?_eq_some_iff.mp hv).1
  exact own_step (fun _ k => Stand.iaload X hx (by rw [eT]; exact A.1) (State.isArrayOf_alike hZ.alike A.2.1) A.2.2 (fun q => q.elim hj (by rw [hi]; omega)) (by rw [hi]; exact hv) (g := mkF m pc Ls (.int j :: .ref a :: st)) rfl rfl hd _ k) H
theorem own_fldref {args : Array Value} {s : State} {t u : Term} {C n d : String} {a b : Addr} (ev : t.eval args s none [] s = some (.ref a)) (eu : u.eval args s none [] s = some (.ref b)) (q : (Jvm.Cond.eq (Term.field t C n d) u).value args s none s [] = some true) : Fld s s.heap a C n d (.ref b) := by
  refine Fld.start ((fld_at ev).symm.trans ?_)
  simp only [Jvm.Cond.value] at q
  cases ht : (Term.field t C n d).eval args s none [] s with
  | none => simp [ht] at q
  | some x => cases x <;> simp [ht, eu] at q ⊢; exact q
end OwnArrays
theorem pn_com_example_even_share_evenshare_protocol_ApiKey : plainName "com/example/even_share/evenshare/protocol/ApiKey" = true := by first | (simp [plainName, overriddenIn]; done) | decide +kernel
theorem pn_com_example_even_share_evenshare_protocol_ApiKeyIsFlexiblePinLaw : plainName "com/example/even_share/evenshare/protocol/ApiKeyIsFlexiblePinLaw" = true := by first | (simp [plainName, overriddenIn]; done) | decide +kernel
theorem pd__I_Z : parseMethodDescriptor "(I)Z" = some ⟨[.int], (some .boolean)⟩ := by decide +kernel
theorem ef_1 (m : MethodId) (x0 : Addr) (x1 : Int32) : entryFrame m #[(.ref x0), (.int x1)] 2 = mkF m 0 #[.val (.ref x0), .val (.int x1)] [] := by first | (simp [entryFrame, mkF, argsToLocals, Value.category]; done) | rfl
theorem d1_0 : decode prog_33_method_9_code 0 = .ok (.iload_n 1, 1) := by decide +kernel
theorem d1_1 : decode prog_33_method_9_code 1 = .ok (.aload_n 0, 1) := by decide +kernel
theorem d1_2 : decode prog_33_method_9_code 2 = .ok (.getfield 75, 3) := by decide +kernel
theorem d1_5 : decode prog_33_method_9_code 5 = .ok (.if_icmp .lt 7, 3) := by decide +kernel
theorem d1_8 : decode prog_33_method_9_code 8 = .ok (.iconst 1, 1) := by decide +kernel
theorem d1_9 : decode prog_33_method_9_code 9 = .ok (.goto 4, 3) := by decide +kernel
theorem d1_12 : decode prog_33_method_9_code 12 = .ok (.iconst 0, 1) := by decide +kernel
theorem d1_13 : decode prog_33_method_9_code 13 = .ok (.ireturn, 1) := by decide +kernel
set_option maxRecDepth 65536 in
set_option maxHeartbeats 40000000 in
theorem rm1 (l : Launch) (Z : State) (a0 : Array Value) (hw : ∀ d ∈ tables_1, d.before a0 Z = true) (h0 : Heap) (a : Addr) (ver ff : Int32) (Ff : Fld Z h0 a "com/example/even_share/evenshare/protocol/ApiKey" "firstFlexibleVersion" "I" (.int ff)) :
    own_Pure l Z (⟨"com/example/even_share/evenshare/protocol/ApiKey", "isFlexible", "(I)Z"⟩ : MethodName) prog_33_method_9_code 2 (some .boolean) 0 0 #[(.ref a), (.int ver)] h0 (.int (if ver < ff then 0 else 1)) := by
  refine own_body pn_com_example_even_share_evenshare_protocol_ApiKey ?_
  intro p e s m below meth c s₁ hx hby hml hZ hown hnm hrt hlk X0 e0
  rw [ef_1]
  show own_Fin _ _ _ _ _ _ _ s₁ (mkF m 0 #[.val (.ref a), .val (.int ver)] [])
  refine own_step (fun _ k => XS.iloadN X0.here hx rfl (hb hby d1_0) rfl k) ?_
  show own_Fin _ _ _ _ _ _ _ s₁ (mkF m 1 #[.val (.ref a), .val (.int ver)] [(.int ver)])
  refine own_step (fun _ k => XS.aloadN X0.here hx rfl (hb hby d1_1) rfl rfl k) ?_
  show own_Fin _ _ _ _ _ _ _ s₁ (mkF m 2 #[.val (.ref a), .val (.int ver)] [(.ref a), (.int ver)])
  refine own_getF X0 hx hZ hown (hw _ (List.mem_of_getElem? (i := 39) rfl)) e0 Ff (hb hby d1_2) ?_
  intro T1 X1 e1
  show own_Fin _ _ _ _ _ _ _ T1 (mkF m 5 #[.val (.ref a), .val (.int ver)] [(.int ff), (.int ver)])
  by_cases h5 : ver < ff
  · skip
    refine own_step (fun _ k => XS.icmpYes X1.here hx rfl (pc0 := 5) (pc' := 12) rfl (hb hby d1_5) rfl (XT.ii_lt_t h5) (by decide) (by decide) k) ?_
    show own_Fin _ _ _ _ _ _ _ T1 (mkF m 12 #[.val (.ref a), .val (.int ver)] [])
    refine own_step (fun _ k => XT.iconstV X1.here hx rfl (0 : Int32) (hb hby d1_12) (by decide) k) ?_
    show own_Fin _ _ _ _ _ _ _ T1 (mkF m 13 #[.val (.ref a), .val (.int ver)] [(.int (0 : Int32))])
    exact own_retZ X1 hx hrt hlk (hb hby d1_13) (Or.inl rfl) ⟨by simp [h5], rfl, e1⟩ (Nat.le_refl _) (Nat.le_refl _)
  · skip
    refine own_step (fun _ k => XS.icmpNo X1.here hx rfl (hb hby d1_5) rfl (XT.ii_lt_f h5) k) ?_
    show own_Fin _ _ _ _ _ _ _ T1 (mkF m 8 #[.val (.ref a), .val (.int ver)] [])
    refine own_step (fun _ k => XT.iconstV X1.here hx rfl (1 : Int32) (hb hby d1_8) (by decide) k) ?_
    show own_Fin _ _ _ _ _ _ _ T1 (mkF m 9 #[.val (.ref a), .val (.int ver)] [(.int (1 : Int32))])
    refine own_step (fun _ k => XS.goto X1.here hx rfl (pc0 := 9) (pc' := 13) rfl (hb hby d1_9) (by decide) (by decide) k) ?_
    show own_Fin _ _ _ _ _ _ _ T1 (mkF m 13 #[.val (.ref a), .val (.int ver)] [(.int (1 : Int32))])
    exact own_retZ X1 hx hrt hlk (hb hby d1_13) (Or.inr rfl) ⟨by simp [h5], rfl, e1⟩ (Nat.le_refl _) (Nat.le_refl _)
theorem own_rem14 (x : Int32) : ((x &&& (2147483647 : Int32)) % (14 : Int32)) = (0 : Int32) ∨ ((x &&& (2147483647 : Int32)) % (14 : Int32)) = (1 : Int32) ∨ ((x &&& (2147483647 : Int32)) % (14 : Int32)) = (2 : Int32) ∨ ((x &&& (2147483647 : Int32)) % (14 : Int32)) = (3 : Int32) ∨ ((x &&& (2147483647 : Int32)) % (14 : Int32)) = (4 : Int32) ∨ ((x &&& (2147483647 : Int32)) % (14 : Int32)) = (5 : Int32) ∨ ((x &&& (2147483647 : Int32)) % (14 : Int32)) = (6 : Int32) ∨ ((x &&& (2147483647 : Int32)) % (14 : Int32)) = (7 : Int32) ∨ ((x &&& (2147483647 : Int32)) % (14 : Int32)) = (8 : Int32) ∨ ((x &&& (2147483647 : Int32)) % (14 : Int32)) = (9 : Int32) ∨ ((x &&& (2147483647 : Int32)) % (14 : Int32)) = (10 : Int32) ∨ ((x &&& (2147483647 : Int32)) % (14 : Int32)) = (11 : Int32) ∨ ((x &&& (2147483647 : Int32)) % (14 : Int32)) = (12 : Int32) ∨ ((x &&& (2147483647 : Int32)) % (14 : Int32)) = (13 : Int32) := by
  have h1 := c_and x 2147483647 (by decide)
  have h2 := (c_irem (x &&& 2147483647) 14 14 (by decide)).1 h1.1
  simp only [← Int32.toInt_inj, h2, Int32.reduceToInt]
  omega
theorem ef_0 (m : MethodId) (x0 x1 : Int32) : entryFrame m #[(.int x0), (.int x1)] maxLocals = mkF m 0 #[.val (.int x0), .val (.int x1), .unset, .unset, .unset, .unset] [] := by first | (simp [entryFrame, mkF, argsToLocals, Value.category, maxLocals]; done) | rfl
set_option maxRecDepth 65536 in
set_option maxHeartbeats 40000000 in
theorem rm0 (l : Launch) (Z : State) (a0 : Array Value) (hw : ∀ d ∈ tables_1, d.before a0 Z = true) (ws : List Jvm.Cond) (h0 : Heap) (p1 p2 : Int32) (s0 s1 s2 s3 s4 s5 s6 s7 s8 s9 s10 s11 s12 s13 : Addr) (S0 : Sta Z h0 "com/example/even_share/evenshare/protocol/ApiKey" "FETCH" "Lcom/example/even_share/evenshare/protocol/ApiKey;" (.ref s0)) (E0 : Exa Z h0 s0 "com/example/even_share/evenshare/protocol/ApiKey") (F0 : Fld Z h0 s0 "com/example/even_share/evenshare/protocol/ApiKey" "firstFlexibleVersion" "I" (.int 12)) (S1 : Sta Z h0 "com/example/even_share/evenshare/protocol/ApiKey" "LIST_OFFSETS" "Lcom/example/even_share/evenshare/protocol/ApiKey;" (.ref s1)) (E1 : Exa Z h0 s1 "com/example/even_share/evenshare/protocol/ApiKey") (F1 : Fld Z h0 s1 "com/example/even_share/evenshare/protocol/ApiKey" "firstFlexibleVersion" "I" (.int 6)) (S2 : Sta Z h0 "com/example/even_share/evenshare/protocol/ApiKey" "METADATA" "Lcom/example/even_share/evenshare/protocol/ApiKey;" (.ref s2)) (E2 : Exa Z h0 s2 "com/example/even_share/evenshare/protocol/ApiKey") (F2 : Fld Z h0 s2 "com/example/even_share/evenshare/protocol/ApiKey" "firstFlexibleVersion" "I" (.int 9)) (S3 : Sta Z h0 "com/example/even_share/evenshare/protocol/ApiKey" "OFFSET_COMMIT" "Lcom/example/even_share/evenshare/protocol/ApiKey;" (.ref s3)) (E3 : Exa Z h0 s3 "com/example/even_share/evenshare/protocol/ApiKey") (F3 : Fld Z h0 s3 "com/example/even_share/evenshare/protocol/ApiKey" "firstFlexibleVersion" "I" (.int 8)) (S4 : Sta Z h0 "com/example/even_share/evenshare/protocol/ApiKey" "OFFSET_FETCH" "Lcom/example/even_share/evenshare/protocol/ApiKey;" (.ref s4)) (E4 : Exa Z h0 s4 "com/example/even_share/evenshare/protocol/ApiKey") (F4 : Fld Z h0 s4 "com/example/even_share/evenshare/protocol/ApiKey" "firstFlexibleVersion" "I" (.int 6)) (S5 : Sta Z h0 "com/example/even_share/evenshare/protocol/ApiKey" "FIND_COORDINATOR" "Lcom/example/even_share/evenshare/protocol/ApiKey;" (.ref s5)) (E5 : Exa Z h0 s5 "com/example/even_share/evenshare/protocol/ApiKey") (F5 : Fld Z h0 s5 "com/example/even_share/evenshare/protocol/ApiKey" "firstFlexibleVersion" "I" (.int 3)) (S6 : Sta Z h0 "com/example/even_share/evenshare/protocol/ApiKey" "JOIN_GROUP" "Lcom/example/even_share/evenshare/protocol/ApiKey;" (.ref s6)) (E6 : Exa Z h0 s6 "com/example/even_share/evenshare/protocol/ApiKey") (F6 : Fld Z h0 s6 "com/example/even_share/evenshare/protocol/ApiKey" "firstFlexibleVersion" "I" (.int 6)) (S7 : Sta Z h0 "com/example/even_share/evenshare/protocol/ApiKey" "HEARTBEAT" "Lcom/example/even_share/evenshare/protocol/ApiKey;" (.ref s7)) (E7 : Exa Z h0 s7 "com/example/even_share/evenshare/protocol/ApiKey") (F7 : Fld Z h0 s7 "com/example/even_share/evenshare/protocol/ApiKey" "firstFlexibleVersion" "I" (.int 4)) (S8 : Sta Z h0 "com/example/even_share/evenshare/protocol/ApiKey" "LEAVE_GROUP" "Lcom/example/even_share/evenshare/protocol/ApiKey;" (.ref s8)) (E8 : Exa Z h0 s8 "com/example/even_share/evenshare/protocol/ApiKey") (F8 : Fld Z h0 s8 "com/example/even_share/evenshare/protocol/ApiKey" "firstFlexibleVersion" "I" (.int 4)) (S9 : Sta Z h0 "com/example/even_share/evenshare/protocol/ApiKey" "SYNC_GROUP" "Lcom/example/even_share/evenshare/protocol/ApiKey;" (.ref s9)) (E9 : Exa Z h0 s9 "com/example/even_share/evenshare/protocol/ApiKey") (F9 : Fld Z h0 s9 "com/example/even_share/evenshare/protocol/ApiKey" "firstFlexibleVersion" "I" (.int 4)) (S10 : Sta Z h0 "com/example/even_share/evenshare/protocol/ApiKey" "DESCRIBE_GROUPS" "Lcom/example/even_share/evenshare/protocol/ApiKey;" (.ref s10)) (E10 : Exa Z h0 s10 "com/example/even_share/evenshare/protocol/ApiKey") (F10 : Fld Z h0 s10 "com/example/even_share/evenshare/protocol/ApiKey" "firstFlexibleVersion" "I" (.int 5)) (S11 : Sta Z h0 "com/example/even_share/evenshare/protocol/ApiKey" "LIST_GROUPS" "Lcom/example/even_share/evenshare/protocol/ApiKey;" (.ref s11)) (E11 : Exa Z h0 s11 "com/example/even_share/evenshare/protocol/ApiKey") (F11 : Fld Z h0 s11 "com/example/even_share/evenshare/protocol/ApiKey" "firstFlexibleVersion" "I" (.int 3)) (S12 : Sta Z h0 "com/example/even_share/evenshare/protocol/ApiKey" "API_VERSIONS" "Lcom/example/even_share/evenshare/protocol/ApiKey;" (.ref s12)) (E12 : Exa Z h0 s12 "com/example/even_share/evenshare/protocol/ApiKey") (F12 : Fld Z h0 s12 "com/example/even_share/evenshare/protocol/ApiKey" "firstFlexibleVersion" "I" (.int 3)) (S13 : Sta Z h0 "com/example/even_share/evenshare/protocol/ApiKey" "DELETE_GROUPS" "Lcom/example/even_share/evenshare/protocol/ApiKey;" (.ref s13)) (E13 : Exa Z h0 s13 "com/example/even_share/evenshare/protocol/ApiKey") (F13 : Fld Z h0 s13 "com/example/even_share/evenshare/protocol/ApiKey" "firstFlexibleVersion" "I" (.int 2)) :
    own_Met l Z x code maxLocals ret ws room_1 #[(.int p1), (.int p2)] h0 (own_Q1 h0.size) := by
  refine own_body (y := x) pn_com_example_even_share_evenshare_protocol_ApiKeyIsFlexiblePinLaw ?_
  intro p e s m below meth c s₁ hx hby hml hZ hown hnm hrt hlk X0 e0
  replace hown : s.vm.findClass "com/example/even_share/evenshare/protocol/ApiKeyIsFlexiblePinLaw" = some m.cls := hown
  replace hml : c.maxLocals = 6 := hml
  have N0 := Fr.nil h0.size
  rw [ef_0]
  show own_Fin _ _ _ _ _ _ _ s₁ (mkF m 0 #[.val (.int p1), .val (.int p2), .unset, .unset, .unset, .unset] [])
  refine own_step (fun _ k => XT.bipushV X0.here hx rfl (14 : Int32) (hb hby at_0) (by decide) k) ?_
  show own_Fin _ _ _ _ _ _ _ s₁ (mkF m 2 #[.val (.int p1), .val (.int p2), .unset, .unset, .unset, .unset] [(.int (14 : Int32))])
  refine own_newR X0 hx hZ hown (hw _ (List.mem_of_getElem? (i := 0) rfl)) (hw _ (List.mem_of_getElem? (i := 1) rfl)) e0 14 (by decide) (by decide) (by decide) (by decide) (by decide) (hb hby at_2) ?_
  intro T21 hp21 cl21 X21 e21 E21 A21 O21 z21
  replace z21 : cl21.slots = #[.null, .null, .null, .null, .null, .null, .null, .null, .null, .null, .null, .null, .null, .null] := z21
  show own_Fin _ _ _ _ _ _ _ T21 (mkF m 5 #[.val (.int p1), .val (.int p2), .unset, .unset, .unset, .unset] [(.ref h0.size)])
  refine own_step (fun _ k => XS.dup X21.here hx rfl (hb hby at_5) rfl rfl k) ?_
  show own_Fin _ _ _ _ _ _ _ T21 (mkF m 6 #[.val (.int p1), .val (.int p2), .unset, .unset, .unset, .unset] [(.ref h0.size), (.ref h0.size)])
  refine own_step (fun _ k => XT.iconstV X21.here hx rfl (0 : Int32) (hb hby at_6) (by decide) k) ?_
  show own_Fin _ _ _ _ _ _ _ T21 (mkF m 7 #[.val (.int p1), .val (.int p2), .unset, .unset, .unset, .unset] [(.int (0 : Int32)), (.ref h0.size), (.ref h0.size)])
  refine own_getS X21 hx hZ hown (hw _ (List.mem_of_getElem? (i := 2) rfl)) e21 (S0.ext E21) (hb hby at_7) ?_
  intro T22 X22 e22
  show own_Fin _ _ _ _ _ _ _ T22 (mkF m 10 #[.val (.int p1), .val (.int p2), .unset, .unset, .unset, .unset] [(.ref s0), (.int (0 : Int32)), (.ref h0.size), (.ref h0.size)])
  refine own_stR X22 hx hZ e22 A21 O21 (E0.ext E21) E21 (Nat.le_refl _) N0 (Nat.le_refl _) 0 (by decide) (by decide) (by rw [z21]; show (0 : Nat) < 14; decide) (hb hby at_10) ?_
  intro T23 hp23 cl23 L23 X23 e23 E23 A23 O23 N23 z23 B23
  rw [z21] at z23
  replace z23 : cl23.slots = #[(.ref s0), .null, .null, .null, .null, .null, .null, .null, .null, .null, .null, .null, .null, .null] := z23
  show own_Fin _ _ _ _ _ _ _ T23 (mkF m 11 #[.val (.int p1), .val (.int p2), .unset, .unset, .unset, .unset] [(.ref h0.size)])
  refine own_step (fun _ k => XS.dup X23.here hx rfl (hb hby at_11) rfl rfl k) ?_
  show own_Fin _ _ _ _ _ _ _ T23 (mkF m 12 #[.val (.int p1), .val (.int p2), .unset, .unset, .unset, .unset] [(.ref h0.size), (.ref h0.size)])
  refine own_step (fun _ k => XT.iconstV X23.here hx rfl (1 : Int32) (hb hby at_12) (by decide) k) ?_
  show own_Fin _ _ _ _ _ _ _ T23 (mkF m 13 #[.val (.int p1), .val (.int p2), .unset, .unset, .unset, .unset] [(.int (1 : Int32)), (.ref h0.size), (.ref h0.size)])
  refine own_getS X23 hx hZ hown (hw _ (List.mem_of_getElem? (i := 6) rfl)) e23 (S1.ext E23) (hb hby at_13) ?_
  intro T24 X24 e24
  show own_Fin _ _ _ _ _ _ _ T24 (mkF m 16 #[.val (.int p1), .val (.int p2), .unset, .unset, .unset, .unset] [(.ref s1), (.int (1 : Int32)), (.ref h0.size), (.ref h0.size)])
  refine own_stR X24 hx hZ e24 A23 O23 (E1.ext E23) E23 (Nat.le_refl _) N23 (Nat.le_refl _) 1 (by decide) (by decide) (by rw [z23]; show (1 : Nat) < 14; decide) (hb hby at_16) ?_
  intro T25 hp25 cl25 L25 X25 e25 E25 A25 O25 N25 z25 B25
  rw [z23] at z25
  replace z25 : cl25.slots = #[(.ref s0), (.ref s1), .null, .null, .null, .null, .null, .null, .null, .null, .null, .null, .null, .null] := z25
  show own_Fin _ _ _ _ _ _ _ T25 (mkF m 17 #[.val (.int p1), .val (.int p2), .unset, .unset, .unset, .unset] [(.ref h0.size)])
  refine own_step (fun _ k => XS.dup X25.here hx rfl (hb hby at_17) rfl rfl k) ?_
  show own_Fin _ _ _ _ _ _ _ T25 (mkF m 18 #[.val (.int p1), .val (.int p2), .unset, .unset, .unset, .unset] [(.ref h0.size), (.ref h0.size)])
  refine own_step (fun _ k => XT.iconstV X25.here hx rfl (2 : Int32) (hb hby at_18) (by decide) k) ?_
  show own_Fin _ _ _ _ _ _ _ T25 (mkF m 19 #[.val (.int p1), .val (.int p2), .unset, .unset, .unset, .unset] [(.int (2 : Int32)), (.ref h0.size), (.ref h0.size)])
  refine own_getS X25 hx hZ hown (hw _ (List.mem_of_getElem? (i := 8) rfl)) e25 (S2.ext E25) (hb hby at_19) ?_
  intro T26 X26 e26
  show own_Fin _ _ _ _ _ _ _ T26 (mkF m 22 #[.val (.int p1), .val (.int p2), .unset, .unset, .unset, .unset] [(.ref s2), (.int (2 : Int32)), (.ref h0.size), (.ref h0.size)])
  refine own_stR X26 hx hZ e26 A25 O25 (E2.ext E25) E25 (Nat.le_refl _) N25 (Nat.le_refl _) 2 (by decide) (by decide) (by rw [z25]; show (2 : Nat) < 14; decide) (hb hby at_22) ?_
  intro T27 hp27 cl27 L27 X27 e27 E27 A27 O27 N27 z27 B27
  rw [z25] at z27
  replace z27 : cl27.slots = #[(.ref s0), (.ref s1), (.ref s2), .null, .null, .null, .null, .null, .null, .null, .null, .null, .null, .null] := z27
  show own_Fin _ _ _ _ _ _ _ T27 (mkF m 23 #[.val (.int p1), .val (.int p2), .unset, .unset, .unset, .unset] [(.ref h0.size)])
  refine own_step (fun _ k => XS.dup X27.here hx rfl (hb hby at_23) rfl rfl k) ?_
  show own_Fin _ _ _ _ _ _ _ T27 (mkF m 24 #[.val (.int p1), .val (.int p2), .unset, .unset, .unset, .unset] [(.ref h0.size), (.ref h0.size)])
  refine own_step (fun _ k => XT.iconstV X27.here hx rfl (3 : Int32) (hb hby at_24) (by decide) k) ?_
  show own_Fin _ _ _ _ _ _ _ T27 (mkF m 25 #[.val (.int p1), .val (.int p2), .unset, .unset, .unset, .unset] [(.int (3 : Int32)), (.ref h0.size), (.ref h0.size)])
  refine own_getS X27 hx hZ hown (hw _ (List.mem_of_getElem? (i := 10) rfl)) e27 (S3.ext E27) (hb hby at_25) ?_
  intro T28 X28 e28
  show own_Fin _ _ _ _ _ _ _ T28 (mkF m 28 #[.val (.int p1), .val (.int p2), .unset, .unset, .unset, .unset] [(.ref s3), (.int (3 : Int32)), (.ref h0.size), (.ref h0.size)])
  refine own_stR X28 hx hZ e28 A27 O27 (E3.ext E27) E27 (Nat.le_refl _) N27 (Nat.le_refl _) 3 (by decide) (by decide) (by rw [z27]; show (3 : Nat) < 14; decide) (hb hby at_28) ?_
  intro T29 hp29 cl29 L29 X29 e29 E29 A29 O29 N29 z29 B29
  rw [z27] at z29
  replace z29 : cl29.slots = #[(.ref s0), (.ref s1), (.ref s2), (.ref s3), .null, .null, .null, .null, .null, .null, .null, .null, .null, .null] := z29
  show own_Fin _ _ _ _ _ _ _ T29 (mkF m 29 #[.val (.int p1), .val (.int p2), .unset, .unset, .unset, .unset] [(.ref h0.size)])
  refine own_step (fun _ k => XS.dup X29.here hx rfl (hb hby at_29) rfl rfl k) ?_
  show own_Fin _ _ _ _ _ _ _ T29 (mkF m 30 #[.val (.int p1), .val (.int p2), .unset, .unset, .unset, .unset] [(.ref h0.size), (.ref h0.size)])
  refine own_step (fun _ k => XT.iconstV X29.here hx rfl (4 : Int32) (hb hby at_30) (by decide) k) ?_
  show own_Fin _ _ _ _ _ _ _ T29 (mkF m 31 #[.val (.int p1), .val (.int p2), .unset, .unset, .unset, .unset] [(.int (4 : Int32)), (.ref h0.size), (.ref h0.size)])
  refine own_getS X29 hx hZ hown (hw _ (List.mem_of_getElem? (i := 12) rfl)) e29 (S4.ext E29) (hb hby at_31) ?_
  intro T30 X30 e30
  show own_Fin _ _ _ _ _ _ _ T30 (mkF m 34 #[.val (.int p1), .val (.int p2), .unset, .unset, .unset, .unset] [(.ref s4), (.int (4 : Int32)), (.ref h0.size), (.ref h0.size)])
  refine own_stR X30 hx hZ e30 A29 O29 (E4.ext E29) E29 (Nat.le_refl _) N29 (Nat.le_refl _) 4 (by decide) (by decide) (by rw [z29]; show (4 : Nat) < 14; decide) (hb hby at_34) ?_
  intro T31 hp31 cl31 L31 X31 e31 E31 A31 O31 N31 z31 B31
  rw [z29] at z31
  replace z31 : cl31.slots = #[(.ref s0), (.ref s1), (.ref s2), (.ref s3), (.ref s4), .null, .null, .null, .null, .null, .null, .null, .null, .null] := z31
  show own_Fin _ _ _ _ _ _ _ T31 (mkF m 35 #[.val (.int p1), .val (.int p2), .unset, .unset, .unset, .unset] [(.ref h0.size)])
  refine own_step (fun _ k => XS.dup X31.here hx rfl (hb hby at_35) rfl rfl k) ?_
  show own_Fin _ _ _ _ _ _ _ T31 (mkF m 36 #[.val (.int p1), .val (.int p2), .unset, .unset, .unset, .unset] [(.ref h0.size), (.ref h0.size)])
  refine own_step (fun _ k => XT.iconstV X31.here hx rfl (5 : Int32) (hb hby at_36) (by decide) k) ?_
  show own_Fin _ _ _ _ _ _ _ T31 (mkF m 37 #[.val (.int p1), .val (.int p2), .unset, .unset, .unset, .unset] [(.int (5 : Int32)), (.ref h0.size), (.ref h0.size)])
  refine own_getS X31 hx hZ hown (hw _ (List.mem_of_getElem? (i := 14) rfl)) e31 (S5.ext E31) (hb hby at_37) ?_
  intro T32 X32 e32
  show own_Fin _ _ _ _ _ _ _ T32 (mkF m 40 #[.val (.int p1), .val (.int p2), .unset, .unset, .unset, .unset] [(.ref s5), (.int (5 : Int32)), (.ref h0.size), (.ref h0.size)])
  refine own_stR X32 hx hZ e32 A31 O31 (E5.ext E31) E31 (Nat.le_refl _) N31 (Nat.le_refl _) 5 (by decide) (by decide) (by rw [z31]; show (5 : Nat) < 14; decide) (hb hby at_40) ?_
  intro T33 hp33 cl33 L33 X33 e33 E33 A33 O33 N33 z33 B33
  rw [z31] at z33
  replace z33 : cl33.slots = #[(.ref s0), (.ref s1), (.ref s2), (.ref s3), (.ref s4), (.ref s5), .null, .null, .null, .null, .null, .null, .null, .null] := z33
  show own_Fin _ _ _ _ _ _ _ T33 (mkF m 41 #[.val (.int p1), .val (.int p2), .unset, .unset, .unset, .unset] [(.ref h0.size)])
  refine own_step (fun _ k => XS.dup X33.here hx rfl (hb hby at_41) rfl rfl k) ?_
  show own_Fin _ _ _ _ _ _ _ T33 (mkF m 42 #[.val (.int p1), .val (.int p2), .unset, .unset, .unset, .unset] [(.ref h0.size), (.ref h0.size)])
  refine own_step (fun _ k => XT.bipushV X33.here hx rfl (6 : Int32) (hb hby at_42) (by decide) k) ?_
  show own_Fin _ _ _ _ _ _ _ T33 (mkF m 44 #[.val (.int p1), .val (.int p2), .unset, .unset, .unset, .unset] [(.int (6 : Int32)), (.ref h0.size), (.ref h0.size)])
  refine own_getS X33 hx hZ hown (hw _ (List.mem_of_getElem? (i := 16) rfl)) e33 (S6.ext E33) (hb hby at_44) ?_
  intro T34 X34 e34
  show own_Fin _ _ _ _ _ _ _ T34 (mkF m 47 #[.val (.int p1), .val (.int p2), .unset, .unset, .unset, .unset] [(.ref s6), (.int (6 : Int32)), (.ref h0.size), (.ref h0.size)])
  refine own_stR X34 hx hZ e34 A33 O33 (E6.ext E33) E33 (Nat.le_refl _) N33 (Nat.le_refl _) 6 (by decide) (by decide) (by rw [z33]; show (6 : Nat) < 14; decide) (hb hby at_47) ?_
  intro T35 hp35 cl35 L35 X35 e35 E35 A35 O35 N35 z35 B35
  rw [z33] at z35
  replace z35 : cl35.slots = #[(.ref s0), (.ref s1), (.ref s2), (.ref s3), (.ref s4), (.ref s5), (.ref s6), .null, .null, .null, .null, .null, .null, .null] := z35
  show own_Fin _ _ _ _ _ _ _ T35 (mkF m 48 #[.val (.int p1), .val (.int p2), .unset, .unset, .unset, .unset] [(.ref h0.size)])
  refine own_step (fun _ k => XS.dup X35.here hx rfl (hb hby at_48) rfl rfl k) ?_
  show own_Fin _ _ _ _ _ _ _ T35 (mkF m 49 #[.val (.int p1), .val (.int p2), .unset, .unset, .unset, .unset] [(.ref h0.size), (.ref h0.size)])
  refine own_step (fun _ k => XT.bipushV X35.here hx rfl (7 : Int32) (hb hby at_49) (by decide) k) ?_
  show own_Fin _ _ _ _ _ _ _ T35 (mkF m 51 #[.val (.int p1), .val (.int p2), .unset, .unset, .unset, .unset] [(.int (7 : Int32)), (.ref h0.size), (.ref h0.size)])
  refine own_getS X35 hx hZ hown (hw _ (List.mem_of_getElem? (i := 18) rfl)) e35 (S7.ext E35) (hb hby at_51) ?_
  intro T36 X36 e36
  show own_Fin _ _ _ _ _ _ _ T36 (mkF m 54 #[.val (.int p1), .val (.int p2), .unset, .unset, .unset, .unset] [(.ref s7), (.int (7 : Int32)), (.ref h0.size), (.ref h0.size)])
  refine own_stR X36 hx hZ e36 A35 O35 (E7.ext E35) E35 (Nat.le_refl _) N35 (Nat.le_refl _) 7 (by decide) (by decide) (by rw [z35]; show (7 : Nat) < 14; decide) (hb hby at_54) ?_
  intro T37 hp37 cl37 L37 X37 e37 E37 A37 O37 N37 z37 B37
  rw [z35] at z37
  replace z37 : cl37.slots = #[(.ref s0), (.ref s1), (.ref s2), (.ref s3), (.ref s4), (.ref s5), (.ref s6), (.ref s7), .null, .null, .null, .null, .null, .null] := z37
  show own_Fin _ _ _ _ _ _ _ T37 (mkF m 55 #[.val (.int p1), .val (.int p2), .unset, .unset, .unset, .unset] [(.ref h0.size)])
  refine own_step (fun _ k => XS.dup X37.here hx rfl (hb hby at_55) rfl rfl k) ?_
  show own_Fin _ _ _ _ _ _ _ T37 (mkF m 56 #[.val (.int p1), .val (.int p2), .unset, .unset, .unset, .unset] [(.ref h0.size), (.ref h0.size)])
  refine own_step (fun _ k => XT.bipushV X37.here hx rfl (8 : Int32) (hb hby at_56) (by decide) k) ?_
  show own_Fin _ _ _ _ _ _ _ T37 (mkF m 58 #[.val (.int p1), .val (.int p2), .unset, .unset, .unset, .unset] [(.int (8 : Int32)), (.ref h0.size), (.ref h0.size)])
  refine own_getS X37 hx hZ hown (hw _ (List.mem_of_getElem? (i := 20) rfl)) e37 (S8.ext E37) (hb hby at_58) ?_
  intro T38 X38 e38
  show own_Fin _ _ _ _ _ _ _ T38 (mkF m 61 #[.val (.int p1), .val (.int p2), .unset, .unset, .unset, .unset] [(.ref s8), (.int (8 : Int32)), (.ref h0.size), (.ref h0.size)])
  refine own_stR X38 hx hZ e38 A37 O37 (E8.ext E37) E37 (Nat.le_refl _) N37 (Nat.le_refl _) 8 (by decide) (by decide) (by rw [z37]; show (8 : Nat) < 14; decide) (hb hby at_61) ?_
  intro T39 hp39 cl39 L39 X39 e39 E39 A39 O39 N39 z39 B39
  rw [z37] at z39
  replace z39 : cl39.slots = #[(.ref s0), (.ref s1), (.ref s2), (.ref s3), (.ref s4), (.ref s5), (.ref s6), (.ref s7), (.ref s8), .null, .null, .null, .null, .null] := z39
  show own_Fin _ _ _ _ _ _ _ T39 (mkF m 62 #[.val (.int p1), .val (.int p2), .unset, .unset, .unset, .unset] [(.ref h0.size)])
  refine own_step (fun _ k => XS.dup X39.here hx rfl (hb hby at_62) rfl rfl k) ?_
  show own_Fin _ _ _ _ _ _ _ T39 (mkF m 63 #[.val (.int p1), .val (.int p2), .unset, .unset, .unset, .unset] [(.ref h0.size), (.ref h0.size)])
  refine own_step (fun _ k => XT.bipushV X39.here hx rfl (9 : Int32) (hb hby at_63) (by decide) k) ?_
  show own_Fin _ _ _ _ _ _ _ T39 (mkF m 65 #[.val (.int p1), .val (.int p2), .unset, .unset, .unset, .unset] [(.int (9 : Int32)), (.ref h0.size), (.ref h0.size)])
  refine own_getS X39 hx hZ hown (hw _ (List.mem_of_getElem? (i := 22) rfl)) e39 (S9.ext E39) (hb hby at_65) ?_
  intro T40 X40 e40
  show own_Fin _ _ _ _ _ _ _ T40 (mkF m 68 #[.val (.int p1), .val (.int p2), .unset, .unset, .unset, .unset] [(.ref s9), (.int (9 : Int32)), (.ref h0.size), (.ref h0.size)])
  refine own_stR X40 hx hZ e40 A39 O39 (E9.ext E39) E39 (Nat.le_refl _) N39 (Nat.le_refl _) 9 (by decide) (by decide) (by rw [z39]; show (9 : Nat) < 14; decide) (hb hby at_68) ?_
  intro T41 hp41 cl41 L41 X41 e41 E41 A41 O41 N41 z41 B41
  rw [z39] at z41
  replace z41 : cl41.slots = #[(.ref s0), (.ref s1), (.ref s2), (.ref s3), (.ref s4), (.ref s5), (.ref s6), (.ref s7), (.ref s8), (.ref s9), .null, .null, .null, .null] := z41
  show own_Fin _ _ _ _ _ _ _ T41 (mkF m 69 #[.val (.int p1), .val (.int p2), .unset, .unset, .unset, .unset] [(.ref h0.size)])
  refine own_step (fun _ k => XS.dup X41.here hx rfl (hb hby at_69) rfl rfl k) ?_
  show own_Fin _ _ _ _ _ _ _ T41 (mkF m 70 #[.val (.int p1), .val (.int p2), .unset, .unset, .unset, .unset] [(.ref h0.size), (.ref h0.size)])
  refine own_step (fun _ k => XT.bipushV X41.here hx rfl (10 : Int32) (hb hby at_70) (by decide) k) ?_
  show own_Fin _ _ _ _ _ _ _ T41 (mkF m 72 #[.val (.int p1), .val (.int p2), .unset, .unset, .unset, .unset] [(.int (10 : Int32)), (.ref h0.size), (.ref h0.size)])
  refine own_getS X41 hx hZ hown (hw _ (List.mem_of_getElem? (i := 24) rfl)) e41 (S10.ext E41) (hb hby at_72) ?_
  intro T42 X42 e42
  show own_Fin _ _ _ _ _ _ _ T42 (mkF m 75 #[.val (.int p1), .val (.int p2), .unset, .unset, .unset, .unset] [(.ref s10), (.int (10 : Int32)), (.ref h0.size), (.ref h0.size)])
  refine own_stR X42 hx hZ e42 A41 O41 (E10.ext E41) E41 (Nat.le_refl _) N41 (Nat.le_refl _) 10 (by decide) (by decide) (by rw [z41]; show (10 : Nat) < 14; decide) (hb hby at_75) ?_
  intro T43 hp43 cl43 L43 X43 e43 E43 A43 O43 N43 z43 B43
  rw [z41] at z43
  replace z43 : cl43.slots = #[(.ref s0), (.ref s1), (.ref s2), (.ref s3), (.ref s4), (.ref s5), (.ref s6), (.ref s7), (.ref s8), (.ref s9), (.ref s10), .null, .null, .null] := z43
  show own_Fin _ _ _ _ _ _ _ T43 (mkF m 76 #[.val (.int p1), .val (.int p2), .unset, .unset, .unset, .unset] [(.ref h0.size)])
  refine own_step (fun _ k => XS.dup X43.here hx rfl (hb hby at_76) rfl rfl k) ?_
  show own_Fin _ _ _ _ _ _ _ T43 (mkF m 77 #[.val (.int p1), .val (.int p2), .unset, .unset, .unset, .unset] [(.ref h0.size), (.ref h0.size)])
  refine own_step (fun _ k => XT.bipushV X43.here hx rfl (11 : Int32) (hb hby at_77) (by decide) k) ?_
  show own_Fin _ _ _ _ _ _ _ T43 (mkF m 79 #[.val (.int p1), .val (.int p2), .unset, .unset, .unset, .unset] [(.int (11 : Int32)), (.ref h0.size), (.ref h0.size)])
  refine own_getS X43 hx hZ hown (hw _ (List.mem_of_getElem? (i := 26) rfl)) e43 (S11.ext E43) (hb hby at_79) ?_
  intro T44 X44 e44
  show own_Fin _ _ _ _ _ _ _ T44 (mkF m 82 #[.val (.int p1), .val (.int p2), .unset, .unset, .unset, .unset] [(.ref s11), (.int (11 : Int32)), (.ref h0.size), (.ref h0.size)])
  refine own_stR X44 hx hZ e44 A43 O43 (E11.ext E43) E43 (Nat.le_refl _) N43 (Nat.le_refl _) 11 (by decide) (by decide) (by rw [z43]; show (11 : Nat) < 14; decide) (hb hby at_82) ?_
  intro T45 hp45 cl45 L45 X45 e45 E45 A45 O45 N45 z45 B45
  rw [z43] at z45
  replace z45 : cl45.slots = #[(.ref s0), (.ref s1), (.ref s2), (.ref s3), (.ref s4), (.ref s5), (.ref s6), (.ref s7), (.ref s8), (.ref s9), (.ref s10), (.ref s11), .null, .null] := z45
  show own_Fin _ _ _ _ _ _ _ T45 (mkF m 83 #[.val (.int p1), .val (.int p2), .unset, .unset, .unset, .unset] [(.ref h0.size)])
  refine own_step (fun _ k => XS.dup X45.here hx rfl (hb hby at_83) rfl rfl k) ?_
  show own_Fin _ _ _ _ _ _ _ T45 (mkF m 84 #[.val (.int p1), .val (.int p2), .unset, .unset, .unset, .unset] [(.ref h0.size), (.ref h0.size)])
  refine own_step (fun _ k => XT.bipushV X45.here hx rfl (12 : Int32) (hb hby at_84) (by decide) k) ?_
  show own_Fin _ _ _ _ _ _ _ T45 (mkF m 86 #[.val (.int p1), .val (.int p2), .unset, .unset, .unset, .unset] [(.int (12 : Int32)), (.ref h0.size), (.ref h0.size)])
  refine own_getS X45 hx hZ hown (hw _ (List.mem_of_getElem? (i := 28) rfl)) e45 (S12.ext E45) (hb hby at_86) ?_
  intro T46 X46 e46
  show own_Fin _ _ _ _ _ _ _ T46 (mkF m 89 #[.val (.int p1), .val (.int p2), .unset, .unset, .unset, .unset] [(.ref s12), (.int (12 : Int32)), (.ref h0.size), (.ref h0.size)])
  refine own_stR X46 hx hZ e46 A45 O45 (E12.ext E45) E45 (Nat.le_refl _) N45 (Nat.le_refl _) 12 (by decide) (by decide) (by rw [z45]; show (12 : Nat) < 14; decide) (hb hby at_89) ?_
  intro T47 hp47 cl47 L47 X47 e47 E47 A47 O47 N47 z47 B47
  rw [z45] at z47
  replace z47 : cl47.slots = #[(.ref s0), (.ref s1), (.ref s2), (.ref s3), (.ref s4), (.ref s5), (.ref s6), (.ref s7), (.ref s8), (.ref s9), (.ref s10), (.ref s11), (.ref s12), .null] := z47
  show own_Fin _ _ _ _ _ _ _ T47 (mkF m 90 #[.val (.int p1), .val (.int p2), .unset, .unset, .unset, .unset] [(.ref h0.size)])
  refine own_step (fun _ k => XS.dup X47.here hx rfl (hb hby at_90) rfl rfl k) ?_
  show own_Fin _ _ _ _ _ _ _ T47 (mkF m 91 #[.val (.int p1), .val (.int p2), .unset, .unset, .unset, .unset] [(.ref h0.size), (.ref h0.size)])
  refine own_step (fun _ k => XT.bipushV X47.here hx rfl (13 : Int32) (hb hby at_91) (by decide) k) ?_
  show own_Fin _ _ _ _ _ _ _ T47 (mkF m 93 #[.val (.int p1), .val (.int p2), .unset, .unset, .unset, .unset] [(.int (13 : Int32)), (.ref h0.size), (.ref h0.size)])
  refine own_getS X47 hx hZ hown (hw _ (List.mem_of_getElem? (i := 30) rfl)) e47 (S13.ext E47) (hb hby at_93) ?_
  intro T48 X48 e48
  show own_Fin _ _ _ _ _ _ _ T48 (mkF m 96 #[.val (.int p1), .val (.int p2), .unset, .unset, .unset, .unset] [(.ref s13), (.int (13 : Int32)), (.ref h0.size), (.ref h0.size)])
  refine own_stR X48 hx hZ e48 A47 O47 (E13.ext E47) E47 (Nat.le_refl _) N47 (Nat.le_refl _) 13 (by decide) (by decide) (by rw [z47]; show (13 : Nat) < 14; decide) (hb hby at_96) ?_
  intro T49 hp49 cl49 L49 X49 e49 E49 A49 O49 N49 z49 B49
  rw [z47] at z49
  replace z49 : cl49.slots = #[(.ref s0), (.ref s1), (.ref s2), (.ref s3), (.ref s4), (.ref s5), (.ref s6), (.ref s7), (.ref s8), (.ref s9), (.ref s10), (.ref s11), (.ref s12), (.ref s13)] := z49
  show own_Fin _ _ _ _ _ _ _ T49 (mkF m 97 #[.val (.int p1), .val (.int p2), .unset, .unset, .unset, .unset] [(.ref h0.size)])
  refine own_step (fun _ k => XS.astoreN X49.here hx rfl (hb hby at_97) rfl rfl (l' := #[.val (.int p1), .val (.int p2), .val (.ref h0.size), .unset, .unset, .unset]) rfl k) ?_
  show own_Fin _ _ _ _ _ _ _ T49 (mkF m 98 #[.val (.int p1), .val (.int p2), .val (.ref h0.size), .unset, .unset, .unset] [])
  refine own_step (fun _ k => XT.bipushV X49.here hx rfl (14 : Int32) (hb hby at_98) (by decide) k) ?_
  show own_Fin _ _ _ _ _ _ _ T49 (mkF m 100 #[.val (.int p1), .val (.int p2), .val (.ref h0.size), .unset, .unset, .unset] [(.int (14 : Int32))])
  refine own_newP X49 hx hZ (aty := .int) (hw _ (List.mem_of_getElem? (i := 32) rfl)) e49 14 (by decide) (by decide) (by decide) (by decide) (by decide) (hb hby at_100) ?_
  intro T50 hp50 cl50 X50 e50 E50 A50 z50
  replace z50 : cl50.slots = #[.int 0, .int 0, .int 0, .int 0, .int 0, .int 0, .int 0, .int 0, .int 0, .int 0, .int 0, .int 0, .int 0, .int 0] := z50
  have hsz : h0.size ≤ hp49.size := E49.1
  have hne : h0.size ≠ hp49.size := Nat.ne_of_lt A49.lt
  replace A49 := A49.ext E50
  replace E50 := own_ext_trans E49 E50
  show own_Fin _ _ _ _ _ _ _ T50 (mkF m 102 #[.val (.int p1), .val (.int p2), .val (.ref h0.size), .unset, .unset, .unset] [(.ref hp49.size)])
  refine own_step (fun _ k => XS.dup X50.here hx rfl (hb hby at_102) rfl rfl k) ?_
  show own_Fin _ _ _ _ _ _ _ T50 (mkF m 103 #[.val (.int p1), .val (.int p2), .val (.ref h0.size), .unset, .unset, .unset] [(.ref hp49.size), (.ref hp49.size)])
  refine own_step (fun _ k => XT.iconstV X50.here hx rfl (0 : Int32) (hb hby at_103) (by decide) k) ?_
  show own_Fin _ _ _ _ _ _ _ T50 (mkF m 104 #[.val (.int p1), .val (.int p2), .val (.ref h0.size), .unset, .unset, .unset] [(.int (0 : Int32)), (.ref hp49.size), (.ref hp49.size)])
  refine own_step (fun _ k => XT.bipushV X50.here hx rfl (12 : Int32) (hb hby at_104) (by decide) k) ?_
  show own_Fin _ _ _ _ _ _ _ T50 (mkF m 106 #[.val (.int p1), .val (.int p2), .val (.ref h0.size), .unset, .unset, .unset] [(.int (12 : Int32)), (.int (0 : Int32)), (.ref hp49.size), (.ref hp49.size)])
  refine own_stI X50 hx hZ e50 A50 E50 hsz N49 hsz 0 (by decide) (by decide) (by rw [z50]; show (0 : Nat) < 14; decide) (hb hby at_106) ?_
  intro T51 hp51 cl51 L51 X51 e51 E51 A51 N51 z51 B51
  replace A49 := B51 _ _ _ hne A49
  rw [z50] at z51
  replace z51 : cl51.slots = #[(.int (12 : Int32)), .int 0, .int 0, .int 0, .int 0, .int 0, .int 0, .int 0, .int 0, .int 0, .int 0, .int 0, .int 0, .int 0] := z51
  show own_Fin _ _ _ _ _ _ _ T51 (mkF m 107 #[.val (.int p1), .val (.int p2), .val (.ref h0.size), .unset, .unset, .unset] [(.ref hp49.size)])
  refine own_step (fun _ k => XS.dup X51.here hx rfl (hb hby at_107) rfl rfl k) ?_
  show own_Fin _ _ _ _ _ _ _ T51 (mkF m 108 #[.val (.int p1), .val (.int p2), .val (.ref h0.size), .unset, .unset, .unset] [(.ref hp49.size), (.ref hp49.size)])
  refine own_step (fun _ k => XT.iconstV X51.here hx rfl (1 : Int32) (hb hby at_108) (by decide) k) ?_
  show own_Fin _ _ _ _ _ _ _ T51 (mkF m 109 #[.val (.int p1), .val (.int p2), .val (.ref h0.size), .unset, .unset, .unset] [(.int (1 : Int32)), (.ref hp49.size), (.ref hp49.size)])
  refine own_step (fun _ k => XT.bipushV X51.here hx rfl (6 : Int32) (hb hby at_109) (by decide) k) ?_
  show own_Fin _ _ _ _ _ _ _ T51 (mkF m 111 #[.val (.int p1), .val (.int p2), .val (.ref h0.size), .unset, .unset, .unset] [(.int (6 : Int32)), (.int (1 : Int32)), (.ref hp49.size), (.ref hp49.size)])
  refine own_stI X51 hx hZ e51 A51 E51 hsz N51 hsz 1 (by decide) (by decide) (by rw [z51]; show (1 : Nat) < 14; decide) (hb hby at_111) ?_
  intro T52 hp52 cl52 L52 X52 e52 E52 A52 N52 z52 B52
  replace A49 := B52 _ _ _ hne A49
  rw [z51] at z52
  replace z52 : cl52.slots = #[(.int (12 : Int32)), (.int (6 : Int32)), .int 0, .int 0, .int 0, .int 0, .int 0, .int 0, .int 0, .int 0, .int 0, .int 0, .int 0, .int 0] := z52
  show own_Fin _ _ _ _ _ _ _ T52 (mkF m 112 #[.val (.int p1), .val (.int p2), .val (.ref h0.size), .unset, .unset, .unset] [(.ref hp49.size)])
  refine own_step (fun _ k => XS.dup X52.here hx rfl (hb hby at_112) rfl rfl k) ?_
  show own_Fin _ _ _ _ _ _ _ T52 (mkF m 113 #[.val (.int p1), .val (.int p2), .val (.ref h0.size), .unset, .unset, .unset] [(.ref hp49.size), (.ref hp49.size)])
  refine own_step (fun _ k => XT.iconstV X52.here hx rfl (2 : Int32) (hb hby at_113) (by decide) k) ?_
  show own_Fin _ _ _ _ _ _ _ T52 (mkF m 114 #[.val (.int p1), .val (.int p2), .val (.ref h0.size), .unset, .unset, .unset] [(.int (2 : Int32)), (.ref hp49.size), (.ref hp49.size)])
  refine own_step (fun _ k => XT.bipushV X52.here hx rfl (9 : Int32) (hb hby at_114) (by decide) k) ?_
  show own_Fin _ _ _ _ _ _ _ T52 (mkF m 116 #[.val (.int p1), .val (.int p2), .val (.ref h0.size), .unset, .unset, .unset] [(.int (9 : Int32)), (.int (2 : Int32)), (.ref hp49.size), (.ref hp49.size)])
  refine own_stI X52 hx hZ e52 A52 E52 hsz N52 hsz 2 (by decide) (by decide) (by rw [z52]; show (2 : Nat) < 14; decide) (hb hby at_116) ?_
  intro T53 hp53 cl53 L53 X53 e53 E53 A53 N53 z53 B53
  replace A49 := B53 _ _ _ hne A49
  rw [z52] at z53
  replace z53 : cl53.slots = #[(.int (12 : Int32)), (.int (6 : Int32)), (.int (9 : Int32)), .int 0, .int 0, .int 0, .int 0, .int 0, .int 0, .int 0, .int 0, .int 0, .int 0, .int 0] := z53
  show own_Fin _ _ _ _ _ _ _ T53 (mkF m 117 #[.val (.int p1), .val (.int p2), .val (.ref h0.size), .unset, .unset, .unset] [(.ref hp49.size)])
  refine own_step (fun _ k => XS.dup X53.here hx rfl (hb hby at_117) rfl rfl k) ?_
  show own_Fin _ _ _ _ _ _ _ T53 (mkF m 118 #[.val (.int p1), .val (.int p2), .val (.ref h0.size), .unset, .unset, .unset] [(.ref hp49.size), (.ref hp49.size)])
  refine own_step (fun _ k => XT.iconstV X53.here hx rfl (3 : Int32) (hb hby at_118) (by decide) k) ?_
  show own_Fin _ _ _ _ _ _ _ T53 (mkF m 119 #[.val (.int p1), .val (.int p2), .val (.ref h0.size), .unset, .unset, .unset] [(.int (3 : Int32)), (.ref hp49.size), (.ref hp49.size)])
  refine own_step (fun _ k => XT.bipushV X53.here hx rfl (8 : Int32) (hb hby at_119) (by decide) k) ?_
  show own_Fin _ _ _ _ _ _ _ T53 (mkF m 121 #[.val (.int p1), .val (.int p2), .val (.ref h0.size), .unset, .unset, .unset] [(.int (8 : Int32)), (.int (3 : Int32)), (.ref hp49.size), (.ref hp49.size)])
  refine own_stI X53 hx hZ e53 A53 E53 hsz N53 hsz 3 (by decide) (by decide) (by rw [z53]; show (3 : Nat) < 14; decide) (hb hby at_121) ?_
  intro T54 hp54 cl54 L54 X54 e54 E54 A54 N54 z54 B54
  replace A49 := B54 _ _ _ hne A49
  rw [z53] at z54
  replace z54 : cl54.slots = #[(.int (12 : Int32)), (.int (6 : Int32)), (.int (9 : Int32)), (.int (8 : Int32)), .int 0, .int 0, .int 0, .int 0, .int 0, .int 0, .int 0, .int 0, .int 0, .int 0] := z54
  show own_Fin _ _ _ _ _ _ _ T54 (mkF m 122 #[.val (.int p1), .val (.int p2), .val (.ref h0.size), .unset, .unset, .unset] [(.ref hp49.size)])
  refine own_step (fun _ k => XS.dup X54.here hx rfl (hb hby at_122) rfl rfl k) ?_
  show own_Fin _ _ _ _ _ _ _ T54 (mkF m 123 #[.val (.int p1), .val (.int p2), .val (.ref h0.size), .unset, .unset, .unset] [(.ref hp49.size), (.ref hp49.size)])
  refine own_step (fun _ k => XT.iconstV X54.here hx rfl (4 : Int32) (hb hby at_123) (by decide) k) ?_
  show own_Fin _ _ _ _ _ _ _ T54 (mkF m 124 #[.val (.int p1), .val (.int p2), .val (.ref h0.size), .unset, .unset, .unset] [(.int (4 : Int32)), (.ref hp49.size), (.ref hp49.size)])
  refine own_step (fun _ k => XT.bipushV X54.here hx rfl (6 : Int32) (hb hby at_124) (by decide) k) ?_
  show own_Fin _ _ _ _ _ _ _ T54 (mkF m 126 #[.val (.int p1), .val (.int p2), .val (.ref h0.size), .unset, .unset, .unset] [(.int (6 : Int32)), (.int (4 : Int32)), (.ref hp49.size), (.ref hp49.size)])
  refine own_stI X54 hx hZ e54 A54 E54 hsz N54 hsz 4 (by decide) (by decide) (by rw [z54]; show (4 : Nat) < 14; decide) (hb hby at_126) ?_
  intro T55 hp55 cl55 L55 X55 e55 E55 A55 N55 z55 B55
  replace A49 := B55 _ _ _ hne A49
  rw [z54] at z55
  replace z55 : cl55.slots = #[(.int (12 : Int32)), (.int (6 : Int32)), (.int (9 : Int32)), (.int (8 : Int32)), (.int (6 : Int32)), .int 0, .int 0, .int 0, .int 0, .int 0, .int 0, .int 0, .int 0, .int 0] := z55
  show own_Fin _ _ _ _ _ _ _ T55 (mkF m 127 #[.val (.int p1), .val (.int p2), .val (.ref h0.size), .unset, .unset, .unset] [(.ref hp49.size)])
  refine own_step (fun _ k => XS.dup X55.here hx rfl (hb hby at_127) rfl rfl k) ?_
  show own_Fin _ _ _ _ _ _ _ T55 (mkF m 128 #[.val (.int p1), .val (.int p2), .val (.ref h0.size), .unset, .unset, .unset] [(.ref hp49.size), (.ref hp49.size)])
  refine own_step (fun _ k => XT.iconstV X55.here hx rfl (5 : Int32) (hb hby at_128) (by decide) k) ?_
  show own_Fin _ _ _ _ _ _ _ T55 (mkF m 129 #[.val (.int p1), .val (.int p2), .val (.ref h0.size), .unset, .unset, .unset] [(.int (5 : Int32)), (.ref hp49.size), (.ref hp49.size)])
  refine own_step (fun _ k => XT.iconstV X55.here hx rfl (3 : Int32) (hb hby at_129) (by decide) k) ?_
  show own_Fin _ _ _ _ _ _ _ T55 (mkF m 130 #[.val (.int p1), .val (.int p2), .val (.ref h0.size), .unset, .unset, .unset] [(.int (3 : Int32)), (.int (5 : Int32)), (.ref hp49.size), (.ref hp49.size)])
  refine own_stI X55 hx hZ e55 A55 E55 hsz N55 hsz 5 (by decide) (by decide) (by rw [z55]; show (5 : Nat) < 14; decide) (hb hby at_130) ?_
  intro T56 hp56 cl56 L56 X56 e56 E56 A56 N56 z56 B56
  replace A49 := B56 _ _ _ hne A49
  rw [z55] at z56
  replace z56 : cl56.slots = #[(.int (12 : Int32)), (.int (6 : Int32)), (.int (9 : Int32)), (.int (8 : Int32)), (.int (6 : Int32)), (.int (3 : Int32)), .int 0, .int 0, .int 0, .int 0, .int 0, .int 0, .int 0, .int 0] := z56
  show own_Fin _ _ _ _ _ _ _ T56 (mkF m 131 #[.val (.int p1), .val (.int p2), .val (.ref h0.size), .unset, .unset, .unset] [(.ref hp49.size)])
  refine own_step (fun _ k => XS.dup X56.here hx rfl (hb hby at_131) rfl rfl k) ?_
  show own_Fin _ _ _ _ _ _ _ T56 (mkF m 132 #[.val (.int p1), .val (.int p2), .val (.ref h0.size), .unset, .unset, .unset] [(.ref hp49.size), (.ref hp49.size)])
  refine own_step (fun _ k => XT.bipushV X56.here hx rfl (6 : Int32) (hb hby at_132) (by decide) k) ?_
  show own_Fin _ _ _ _ _ _ _ T56 (mkF m 134 #[.val (.int p1), .val (.int p2), .val (.ref h0.size), .unset, .unset, .unset] [(.int (6 : Int32)), (.ref hp49.size), (.ref hp49.size)])
  refine own_step (fun _ k => XT.bipushV X56.here hx rfl (6 : Int32) (hb hby at_134) (by decide) k) ?_
  show own_Fin _ _ _ _ _ _ _ T56 (mkF m 136 #[.val (.int p1), .val (.int p2), .val (.ref h0.size), .unset, .unset, .unset] [(.int (6 : Int32)), (.int (6 : Int32)), (.ref hp49.size), (.ref hp49.size)])
  refine own_stI X56 hx hZ e56 A56 E56 hsz N56 hsz 6 (by decide) (by decide) (by rw [z56]; show (6 : Nat) < 14; decide) (hb hby at_136) ?_
  intro T57 hp57 cl57 L57 X57 e57 E57 A57 N57 z57 B57
  replace A49 := B57 _ _ _ hne A49
  rw [z56] at z57
  replace z57 : cl57.slots = #[(.int (12 : Int32)), (.int (6 : Int32)), (.int (9 : Int32)), (.int (8 : Int32)), (.int (6 : Int32)), (.int (3 : Int32)), (.int (6 : Int32)), .int 0, .int 0, .int 0, .int 0, .int 0, .int 0, .int 0] := z57
  show own_Fin _ _ _ _ _ _ _ T57 (mkF m 137 #[.val (.int p1), .val (.int p2), .val (.ref h0.size), .unset, .unset, .unset] [(.ref hp49.size)])
  refine own_step (fun _ k => XS.dup X57.here hx rfl (hb hby at_137) rfl rfl k) ?_
  show own_Fin _ _ _ _ _ _ _ T57 (mkF m 138 #[.val (.int p1), .val (.int p2), .val (.ref h0.size), .unset, .unset, .unset] [(.ref hp49.size), (.ref hp49.size)])
  refine own_step (fun _ k => XT.bipushV X57.here hx rfl (7 : Int32) (hb hby at_138) (by decide) k) ?_
  show own_Fin _ _ _ _ _ _ _ T57 (mkF m 140 #[.val (.int p1), .val (.int p2), .val (.ref h0.size), .unset, .unset, .unset] [(.int (7 : Int32)), (.ref hp49.size), (.ref hp49.size)])
  refine own_step (fun _ k => XT.iconstV X57.here hx rfl (4 : Int32) (hb hby at_140) (by decide) k) ?_
  show own_Fin _ _ _ _ _ _ _ T57 (mkF m 141 #[.val (.int p1), .val (.int p2), .val (.ref h0.size), .unset, .unset, .unset] [(.int (4 : Int32)), (.int (7 : Int32)), (.ref hp49.size), (.ref hp49.size)])
  refine own_stI X57 hx hZ e57 A57 E57 hsz N57 hsz 7 (by decide) (by decide) (by rw [z57]; show (7 : Nat) < 14; decide) (hb hby at_141) ?_
  intro T58 hp58 cl58 L58 X58 e58 E58 A58 N58 z58 B58
  replace A49 := B58 _ _ _ hne A49
  rw [z57] at z58
  replace z58 : cl58.slots = #[(.int (12 : Int32)), (.int (6 : Int32)), (.int (9 : Int32)), (.int (8 : Int32)), (.int (6 : Int32)), (.int (3 : Int32)), (.int (6 : Int32)), (.int (4 : Int32)), .int 0, .int 0, .int 0, .int 0, .int 0, .int 0] := z58
  show own_Fin _ _ _ _ _ _ _ T58 (mkF m 142 #[.val (.int p1), .val (.int p2), .val (.ref h0.size), .unset, .unset, .unset] [(.ref hp49.size)])
  refine own_step (fun _ k => XS.dup X58.here hx rfl (hb hby at_142) rfl rfl k) ?_
  show own_Fin _ _ _ _ _ _ _ T58 (mkF m 143 #[.val (.int p1), .val (.int p2), .val (.ref h0.size), .unset, .unset, .unset] [(.ref hp49.size), (.ref hp49.size)])
  refine own_step (fun _ k => XT.bipushV X58.here hx rfl (8 : Int32) (hb hby at_143) (by decide) k) ?_
  show own_Fin _ _ _ _ _ _ _ T58 (mkF m 145 #[.val (.int p1), .val (.int p2), .val (.ref h0.size), .unset, .unset, .unset] [(.int (8 : Int32)), (.ref hp49.size), (.ref hp49.size)])
  refine own_step (fun _ k => XT.iconstV X58.here hx rfl (4 : Int32) (hb hby at_145) (by decide) k) ?_
  show own_Fin _ _ _ _ _ _ _ T58 (mkF m 146 #[.val (.int p1), .val (.int p2), .val (.ref h0.size), .unset, .unset, .unset] [(.int (4 : Int32)), (.int (8 : Int32)), (.ref hp49.size), (.ref hp49.size)])
  refine own_stI X58 hx hZ e58 A58 E58 hsz N58 hsz 8 (by decide) (by decide) (by rw [z58]; show (8 : Nat) < 14; decide) (hb hby at_146) ?_
  intro T59 hp59 cl59 L59 X59 e59 E59 A59 N59 z59 B59
  replace A49 := B59 _ _ _ hne A49
  rw [z58] at z59
  replace z59 : cl59.slots = #[(.int (12 : Int32)), (.int (6 : Int32)), (.int (9 : Int32)), (.int (8 : Int32)), (.int (6 : Int32)), (.int (3 : Int32)), (.int (6 : Int32)), (.int (4 : Int32)), (.int (4 : Int32)), .int 0, .int 0, .int 0, .int 0, .int 0] := z59
  show own_Fin _ _ _ _ _ _ _ T59 (mkF m 147 #[.val (.int p1), .val (.int p2), .val (.ref h0.size), .unset, .unset, .unset] [(.ref hp49.size)])
  refine own_step (fun _ k => XS.dup X59.here hx rfl (hb hby at_147) rfl rfl k) ?_
  show own_Fin _ _ _ _ _ _ _ T59 (mkF m 148 #[.val (.int p1), .val (.int p2), .val (.ref h0.size), .unset, .unset, .unset] [(.ref hp49.size), (.ref hp49.size)])
  refine own_step (fun _ k => XT.bipushV X59.here hx rfl (9 : Int32) (hb hby at_148) (by decide) k) ?_
  show own_Fin _ _ _ _ _ _ _ T59 (mkF m 150 #[.val (.int p1), .val (.int p2), .val (.ref h0.size), .unset, .unset, .unset] [(.int (9 : Int32)), (.ref hp49.size), (.ref hp49.size)])
  refine own_step (fun _ k => XT.iconstV X59.here hx rfl (4 : Int32) (hb hby at_150) (by decide) k) ?_
  show own_Fin _ _ _ _ _ _ _ T59 (mkF m 151 #[.val (.int p1), .val (.int p2), .val (.ref h0.size), .unset, .unset, .unset] [(.int (4 : Int32)), (.int (9 : Int32)), (.ref hp49.size), (.ref hp49.size)])
  refine own_stI X59 hx hZ e59 A59 E59 hsz N59 hsz 9 (by decide) (by decide) (by rw [z59]; show (9 : Nat) < 14; decide) (hb hby at_151) ?_
  intro T60 hp60 cl60 L60 X60 e60 E60 A60 N60 z60 B60
  replace A49 := B60 _ _ _ hne A49
  rw [z59] at z60
  replace z60 : cl60.slots = #[(.int (12 : Int32)), (.int (6 : Int32)), (.int (9 : Int32)), (.int (8 : Int32)), (.int (6 : Int32)), (.int (3 : Int32)), (.int (6 : Int32)), (.int (4 : Int32)), (.int (4 : Int32)), (.int (4 : Int32)), .int 0, .int 0, .int 0, .int 0] := z60
  show own_Fin _ _ _ _ _ _ _ T60 (mkF m 152 #[.val (.int p1), .val (.int p2), .val (.ref h0.size), .unset, .unset, .unset] [(.ref hp49.size)])
  refine own_step (fun _ k => XS.dup X60.here hx rfl (hb hby at_152) rfl rfl k) ?_
  show own_Fin _ _ _ _ _ _ _ T60 (mkF m 153 #[.val (.int p1), .val (.int p2), .val (.ref h0.size), .unset, .unset, .unset] [(.ref hp49.size), (.ref hp49.size)])
  refine own_step (fun _ k => XT.bipushV X60.here hx rfl (10 : Int32) (hb hby at_153) (by decide) k) ?_
  show own_Fin _ _ _ _ _ _ _ T60 (mkF m 155 #[.val (.int p1), .val (.int p2), .val (.ref h0.size), .unset, .unset, .unset] [(.int (10 : Int32)), (.ref hp49.size), (.ref hp49.size)])
  refine own_step (fun _ k => XT.iconstV X60.here hx rfl (5 : Int32) (hb hby at_155) (by decide) k) ?_
  show own_Fin _ _ _ _ _ _ _ T60 (mkF m 156 #[.val (.int p1), .val (.int p2), .val (.ref h0.size), .unset, .unset, .unset] [(.int (5 : Int32)), (.int (10 : Int32)), (.ref hp49.size), (.ref hp49.size)])
  refine own_stI X60 hx hZ e60 A60 E60 hsz N60 hsz 10 (by decide) (by decide) (by rw [z60]; show (10 : Nat) < 14; decide) (hb hby at_156) ?_
  intro T61 hp61 cl61 L61 X61 e61 E61 A61 N61 z61 B61
  replace A49 := B61 _ _ _ hne A49
  rw [z60] at z61
  replace z61 : cl61.slots = #[(.int (12 : Int32)), (.int (6 : Int32)), (.int (9 : Int32)), (.int (8 : Int32)), (.int (6 : Int32)), (.int (3 : Int32)), (.int (6 : Int32)), (.int (4 : Int32)), (.int (4 : Int32)), (.int (4 : Int32)), (.int (5 : Int32)), .int 0, .int 0, .int 0] := z61
  show own_Fin _ _ _ _ _ _ _ T61 (mkF m 157 #[.val (.int p1), .val (.int p2), .val (.ref h0.size), .unset, .unset, .unset] [(.ref hp49.size)])
  refine own_step (fun _ k => XS.dup X61.here hx rfl (hb hby at_157) rfl rfl k) ?_
  show own_Fin _ _ _ _ _ _ _ T61 (mkF m 158 #[.val (.int p1), .val (.int p2), .val (.ref h0.size), .unset, .unset, .unset] [(.ref hp49.size), (.ref hp49.size)])
  refine own_step (fun _ k => XT.bipushV X61.here hx rfl (11 : Int32) (hb hby at_158) (by decide) k) ?_
  show own_Fin _ _ _ _ _ _ _ T61 (mkF m 160 #[.val (.int p1), .val (.int p2), .val (.ref h0.size), .unset, .unset, .unset] [(.int (11 : Int32)), (.ref hp49.size), (.ref hp49.size)])
  refine own_step (fun _ k => XT.iconstV X61.here hx rfl (3 : Int32) (hb hby at_160) (by decide) k) ?_
  show own_Fin _ _ _ _ _ _ _ T61 (mkF m 161 #[.val (.int p1), .val (.int p2), .val (.ref h0.size), .unset, .unset, .unset] [(.int (3 : Int32)), (.int (11 : Int32)), (.ref hp49.size), (.ref hp49.size)])
  refine own_stI X61 hx hZ e61 A61 E61 hsz N61 hsz 11 (by decide) (by decide) (by rw [z61]; show (11 : Nat) < 14; decide) (hb hby at_161) ?_
  intro T62 hp62 cl62 L62 X62 e62 E62 A62 N62 z62 B62
  replace A49 := B62 _ _ _ hne A49
  rw [z61] at z62
  replace z62 : cl62.slots = #[(.int (12 : Int32)), (.int (6 : Int32)), (.int (9 : Int32)), (.int (8 : Int32)), (.int (6 : Int32)), (.int (3 : Int32)), (.int (6 : Int32)), (.int (4 : Int32)), (.int (4 : Int32)), (.int (4 : Int32)), (.int (5 : Int32)), (.int (3 : Int32)), .int 0, .int 0] := z62
  show own_Fin _ _ _ _ _ _ _ T62 (mkF m 162 #[.val (.int p1), .val (.int p2), .val (.ref h0.size), .unset, .unset, .unset] [(.ref hp49.size)])
  refine own_step (fun _ k => XS.dup X62.here hx rfl (hb hby at_162) rfl rfl k) ?_
  show own_Fin _ _ _ _ _ _ _ T62 (mkF m 163 #[.val (.int p1), .val (.int p2), .val (.ref h0.size), .unset, .unset, .unset] [(.ref hp49.size), (.ref hp49.size)])
  refine own_step (fun _ k => XT.bipushV X62.here hx rfl (12 : Int32) (hb hby at_163) (by decide) k) ?_
  show own_Fin _ _ _ _ _ _ _ T62 (mkF m 165 #[.val (.int p1), .val (.int p2), .val (.ref h0.size), .unset, .unset, .unset] [(.int (12 : Int32)), (.ref hp49.size), (.ref hp49.size)])
  refine own_step (fun _ k => XT.iconstV X62.here hx rfl (3 : Int32) (hb hby at_165) (by decide) k) ?_
  show own_Fin _ _ _ _ _ _ _ T62 (mkF m 166 #[.val (.int p1), .val (.int p2), .val (.ref h0.size), .unset, .unset, .unset] [(.int (3 : Int32)), (.int (12 : Int32)), (.ref hp49.size), (.ref hp49.size)])
  refine own_stI X62 hx hZ e62 A62 E62 hsz N62 hsz 12 (by decide) (by decide) (by rw [z62]; show (12 : Nat) < 14; decide) (hb hby at_166) ?_
  intro T63 hp63 cl63 L63 X63 e63 E63 A63 N63 z63 B63
  replace A49 := B63 _ _ _ hne A49
  rw [z62] at z63
  replace z63 : cl63.slots = #[(.int (12 : Int32)), (.int (6 : Int32)), (.int (9 : Int32)), (.int (8 : Int32)), (.int (6 : Int32)), (.int (3 : Int32)), (.int (6 : Int32)), (.int (4 : Int32)), (.int (4 : Int32)), (.int (4 : Int32)), (.int (5 : Int32)), (.int (3 : Int32)), (.int (3 : Int32)), .int 0] := z63
  show own_Fin _ _ _ _ _ _ _ T63 (mkF m 167 #[.val (.int p1), .val (.int p2), .val (.ref h0.size), .unset, .unset, .unset] [(.ref hp49.size)])
  refine own_step (fun _ k => XS.dup X63.here hx rfl (hb hby at_167) rfl rfl k) ?_
  show own_Fin _ _ _ _ _ _ _ T63 (mkF m 168 #[.val (.int p1), .val (.int p2), .val (.ref h0.size), .unset, .unset, .unset] [(.ref hp49.size), (.ref hp49.size)])
  refine own_step (fun _ k => XT.bipushV X63.here hx rfl (13 : Int32) (hb hby at_168) (by decide) k) ?_
  show own_Fin _ _ _ _ _ _ _ T63 (mkF m 170 #[.val (.int p1), .val (.int p2), .val (.ref h0.size), .unset, .unset, .unset] [(.int (13 : Int32)), (.ref hp49.size), (.ref hp49.size)])
  refine own_step (fun _ k => XT.iconstV X63.here hx rfl (2 : Int32) (hb hby at_170) (by decide) k) ?_
  show own_Fin _ _ _ _ _ _ _ T63 (mkF m 171 #[.val (.int p1), .val (.int p2), .val (.ref h0.size), .unset, .unset, .unset] [(.int (2 : Int32)), (.int (13 : Int32)), (.ref hp49.size), (.ref hp49.size)])
  refine own_stI X63 hx hZ e63 A63 E63 hsz N63 hsz 13 (by decide) (by decide) (by rw [z63]; show (13 : Nat) < 14; decide) (hb hby at_171) ?_
  intro T64 hp64 cl64 L64 X64 e64 E64 A64 N64 z64 B64
  replace A49 := B64 _ _ _ hne A49
  rw [z63] at z64
  replace z64 : cl64.slots = #[(.int (12 : Int32)), (.int (6 : Int32)), (.int (9 : Int32)), (.int (8 : Int32)), (.int (6 : Int32)), (.int (3 : Int32)), (.int (6 : Int32)), (.int (4 : Int32)), (.int (4 : Int32)), (.int (4 : Int32)), (.int (5 : Int32)), (.int (3 : Int32)), (.int (3 : Int32)), (.int (2 : Int32))] := z64
  show own_Fin _ _ _ _ _ _ _ T64 (mkF m 172 #[.val (.int p1), .val (.int p2), .val (.ref h0.size), .unset, .unset, .unset] [(.ref hp49.size)])
  refine own_step (fun _ k => XS.astoreN X64.here hx rfl (hb hby at_172) rfl rfl (l' := #[.val (.int p1), .val (.int p2), .val (.ref h0.size), .val (.ref hp49.size), .unset, .unset]) rfl k) ?_
  show own_Fin _ _ _ _ _ _ _ T64 (mkF m 173 #[.val (.int p1), .val (.int p2), .val (.ref h0.size), .val (.ref hp49.size), .unset, .unset] [])
  refine own_step (fun _ k => XS.iloadN X64.here hx rfl (hb hby at_173) rfl k) ?_
  show own_Fin _ _ _ _ _ _ _ T64 (mkF m 174 #[.val (.int p1), .val (.int p2), .val (.ref h0.size), .val (.ref hp49.size), .unset, .unset] [(.int p1)])
  refine own_step (fun _ k => Stand.ldcI X64 hx (v := (2147483647 : Int32)) hown (mvT hZ (hw _ (List.mem_of_getElem? (i := 33) rfl))) rfl (hb hby at_174) k) ?_
  show own_Fin _ _ _ _ _ _ _ T64 (mkF m 176 #[.val (.int p1), .val (.int p2), .val (.ref h0.size), .val (.ref hp49.size), .unset, .unset] [(.int (2147483647 : Int32)), (.int p1)])
  refine own_step (fun _ k => XS.iand X64.here hx rfl (hb hby at_176) rfl k) ?_
  show own_Fin _ _ _ _ _ _ _ T64 (mkF m 177 #[.val (.int p1), .val (.int p2), .val (.ref h0.size), .val (.ref hp49.size), .unset, .unset] [(.int (p1 &&& (2147483647 : Int32)))])
  refine own_step (fun _ k => XT.bipushV X64.here hx rfl (14 : Int32) (hb hby at_177) (by decide) k) ?_
  show own_Fin _ _ _ _ _ _ _ T64 (mkF m 179 #[.val (.int p1), .val (.int p2), .val (.ref h0.size), .val (.ref hp49.size), .unset, .unset] [(.int (14 : Int32)), (.int (p1 &&& (2147483647 : Int32)))])
  refine own_step (fun _ k => iremM X64 hx rfl (hb hby at_179) rfl (by decide) k) ?_
  show own_Fin _ _ _ _ _ _ _ T64 (mkF m 180 #[.val (.int p1), .val (.int p2), .val (.ref h0.size), .val (.ref hp49.size), .unset, .unset] [(.int ((p1 &&& (2147483647 : Int32)) % (14 : Int32)))])
  rcases own_rem14 p1 with q | q | q | q | q | q | q | q | q | q | q | q | q | q
  · rw [q]
    show own_Fin _ _ _ _ _ _ _ T64 (mkF m 180 #[.val (.int p1), .val (.int p2), .val (.ref h0.size), .val (.ref hp49.size), .unset, .unset] [(.int (0 : Int32))])
    refine own_step (fun _ k => XS.istore X64.here hx rfl (hb hby at_180) rfl (l' := #[.val (.int p1), .val (.int p2), .val (.ref h0.size), .val (.ref hp49.size), .val (.int (0 : Int32)), .unset]) rfl k) ?_
    show own_Fin _ _ _ _ _ _ _ T64 (mkF m 182 #[.val (.int p1), .val (.int p2), .val (.ref h0.size), .val (.ref hp49.size), .val (.int (0 : Int32)), .unset] [])
    refine own_step (fun _ k => XS.iloadN X64.here hx rfl (hb hby at_182) rfl k) ?_
    show own_Fin _ _ _ _ _ _ _ T64 (mkF m 183 #[.val (.int p1), .val (.int p2), .val (.ref h0.size), .val (.ref hp49.size), .val (.int (0 : Int32)), .unset] [(.int p2)])
    refine own_step (fun _ k => XS.aloadN X64.here hx rfl (hb hby at_183) rfl rfl k) ?_
    show own_Fin _ _ _ _ _ _ _ T64 (mkF m 184 #[.val (.int p1), .val (.int p2), .val (.ref h0.size), .val (.ref hp49.size), .val (.int (0 : Int32)), .unset] [(.ref hp49.size), (.int p2)])
    refine own_step (fun _ k => XS.iload X64.here hx rfl (hb hby at_184) rfl k) ?_
    show own_Fin _ _ _ _ _ _ _ T64 (mkF m 186 #[.val (.int p1), .val (.int p2), .val (.ref h0.size), .val (.ref hp49.size), .val (.int (0 : Int32)), .unset] [(.int (0 : Int32)), (.ref hp49.size), (.int p2)])
    refine own_ild X64 hx hZ e64 A64 (v := (.int (12 : Int32))) 0 (by decide) (by decide) (by rw [z64]; rfl) (hb hby at_186) ?_
    show own_Fin _ _ _ _ _ _ _ T64 (mkF m 187 #[.val (.int p1), .val (.int p2), .val (.ref h0.size), .val (.ref hp49.size), .val (.int (0 : Int32)), .unset] [(.int (12 : Int32)), (.int p2)])
    by_cases h187 : p2 < (12 : Int32)
    · skip
      refine own_step (fun _ k => XS.icmpYes X64.here hx rfl (pc0 := 187) (pc' := 194) rfl (hb hby at_187) rfl (XT.ii_lt_t h187) (by decide) (by decide) k) ?_
      show own_Fin _ _ _ _ _ _ _ T64 (mkF m 194 #[.val (.int p1), .val (.int p2), .val (.ref h0.size), .val (.ref hp49.size), .val (.int (0 : Int32)), .unset] [])
      refine own_step (fun _ k => XT.iconstV X64.here hx rfl (0 : Int32) (hb hby at_194) (by decide) k) ?_
      show own_Fin _ _ _ _ _ _ _ T64 (mkF m 195 #[.val (.int p1), .val (.int p2), .val (.ref h0.size), .val (.ref hp49.size), .val (.int (0 : Int32)), .unset] [(.int (0 : Int32))])
      refine own_step (fun _ k => XS.istore X64.here hx rfl (hb hby at_195) rfl (l' := #[.val (.int p1), .val (.int p2), .val (.ref h0.size), .val (.ref hp49.size), .val (.int (0 : Int32)), .val (.int (0 : Int32))]) rfl k) ?_
      show own_Fin _ _ _ _ _ _ _ T64 (mkF m 197 #[.val (.int p1), .val (.int p2), .val (.ref h0.size), .val (.ref hp49.size), .val (.int (0 : Int32)), .val (.int (0 : Int32))] [])
      refine own_step (fun _ k => XS.aloadN X64.here hx rfl (hb hby at_197) rfl rfl k) ?_
      show own_Fin _ _ _ _ _ _ _ T64 (mkF m 198 #[.val (.int p1), .val (.int p2), .val (.ref h0.size), .val (.ref hp49.size), .val (.int (0 : Int32)), .val (.int (0 : Int32))] [(.ref h0.size)])
      refine own_step (fun _ k => XS.iload X64.here hx rfl (hb hby at_198) rfl k) ?_
      show own_Fin _ _ _ _ _ _ _ T64 (mkF m 200 #[.val (.int p1), .val (.int p2), .val (.ref h0.size), .val (.ref hp49.size), .val (.int (0 : Int32)), .val (.int (0 : Int32))] [(.int (0 : Int32)), (.ref h0.size)])
      refine own_ald X64 hx hZ e64 A49 rfl (v := (.ref s0)) 0 (by decide) (by decide) (by rw [z49]; rfl) (hb hby at_200) ?_
      show own_Fin _ _ _ _ _ _ _ T64 (mkF m 201 #[.val (.int p1), .val (.int p2), .val (.ref h0.size), .val (.ref hp49.size), .val (.int (0 : Int32)), .val (.int (0 : Int32))] [(.ref s0)])
      refine own_step (fun _ k => XS.iloadN X64.here hx rfl (hb hby at_201) rfl k) ?_
      show own_Fin _ _ _ _ _ _ _ T64 (mkF m 202 #[.val (.int p1), .val (.int p2), .val (.ref h0.size), .val (.ref hp49.size), .val (.int (0 : Int32)), .val (.int (0 : Int32))] [(.int p2), (.ref s0)])
      have M := rm1 l Z a0 hw hp64 s0 p2 12 (F0.ext E64)
      rw [if_pos h187] at M
      refine own_callV0 X64 hx hZ (argsL := [(.int p2)]) (rest := []) hown (hw _ (List.mem_of_getElem? (i := 34) rfl)) (hw _ (List.mem_of_getElem? (i := 35) rfl)) (hw _ (List.mem_of_getElem? (i := 37) rfl)) (hw _ (List.mem_of_getElem? (i := 36) rfl)) (hw _ (List.mem_of_getElem? (i := 38) rfl)) (hw _ (List.mem_of_getElem? (i := 3) rfl)) (by decide) (E0.ext E64) M e64 0 (Nat.le_of_eq rfl) (by decide) (by decide) (by decide) (by decide) (by rw [hml]; rfl) pd__I_Z rfl rfl (hb hby at_202) ?_
      intro T65 X65 e65
      show own_Fin _ _ _ _ _ _ _ T65 (mkF m 205 #[.val (.int p1), .val (.int p2), .val (.ref h0.size), .val (.ref hp49.size), .val (.int (0 : Int32)), .val (.int (0 : Int32))] [(.int (0 : Int32))])
      refine own_step (fun _ k => XS.iload X65.here hx rfl (hb hby at_205) rfl k) ?_
      show own_Fin _ _ _ _ _ _ _ T65 (mkF m 207 #[.val (.int p1), .val (.int p2), .val (.ref h0.size), .val (.ref hp49.size), .val (.int (0 : Int32)), .val (.int (0 : Int32))] [(.int (0 : Int32)), (.int (0 : Int32))])
      refine own_step (fun _ k => XS.icmpNo X65.here hx rfl (hb hby at_207) rfl (XT.ii_ne_f (by decide)) k) ?_
      show own_Fin _ _ _ _ _ _ _ T65 (mkF m 210 #[.val (.int p1), .val (.int p2), .val (.ref h0.size), .val (.ref hp49.size), .val (.int (0 : Int32)), .val (.int (0 : Int32))] [])
      refine own_step (fun _ k => XT.iconstV X65.here hx rfl (1 : Int32) (hb hby at_210) (by decide) k) ?_
      show own_Fin _ _ _ _ _ _ _ T65 (mkF m 211 #[.val (.int p1), .val (.int p2), .val (.ref h0.size), .val (.ref hp49.size), .val (.int (0 : Int32)), .val (.int (0 : Int32))] [(.int (1 : Int32))])
      refine own_step (fun _ k => XS.goto X65.here hx rfl (pc0 := 211) (pc' := 215) rfl (hb hby at_211) (by decide) (by decide) k) ?_
      show own_Fin _ _ _ _ _ _ _ T65 (mkF m 215 #[.val (.int p1), .val (.int p2), .val (.ref h0.size), .val (.ref hp49.size), .val (.int (0 : Int32)), .val (.int (0 : Int32))] [(.int (1 : Int32))])
      exact own_retZ X65 hx hrt hlk (hb hby at_215) (Or.inr rfl) ⟨rfl, N64⟩ (by decide) (by decide)
    · skip
      refine own_step (fun _ k => XS.icmpNo X64.here hx rfl (hb hby at_187) rfl (XT.ii_lt_f h187) k) ?_
      show own_Fin _ _ _ _ _ _ _ T64 (mkF m 190 #[.val (.int p1), .val (.int p2), .val (.ref h0.size), .val (.ref hp49.size), .val (.int (0 : Int32)), .unset] [])
      refine own_step (fun _ k => XT.iconstV X64.here hx rfl (1 : Int32) (hb hby at_190) (by decide) k) ?_
      show own_Fin _ _ _ _ _ _ _ T64 (mkF m 191 #[.val (.int p1), .val (.int p2), .val (.ref h0.size), .val (.ref hp49.size), .val (.int (0 : Int32)), .unset] [(.int (1 : Int32))])
      refine own_step (fun _ k => XS.goto X64.here hx rfl (pc0 := 191) (pc' := 195) rfl (hb hby at_191) (by decide) (by decide) k) ?_
      show own_Fin _ _ _ _ _ _ _ T64 (mkF m 195 #[.val (.int p1), .val (.int p2), .val (.ref h0.size), .val (.ref hp49.size), .val (.int (0 : Int32)), .unset] [(.int (1 : Int32))])
      refine own_step (fun _ k => XS.istore X64.here hx rfl (hb hby at_195) rfl (l' := #[.val (.int p1), .val (.int p2), .val (.ref h0.size), .val (.ref hp49.size), .val (.int (0 : Int32)), .val (.int (1 : Int32))]) rfl k) ?_
      show own_Fin _ _ _ _ _ _ _ T64 (mkF m 197 #[.val (.int p1), .val (.int p2), .val (.ref h0.size), .val (.ref hp49.size), .val (.int (0 : Int32)), .val (.int (1 : Int32))] [])
      refine own_step (fun _ k => XS.aloadN X64.here hx rfl (hb hby at_197) rfl rfl k) ?_
      show own_Fin _ _ _ _ _ _ _ T64 (mkF m 198 #[.val (.int p1), .val (.int p2), .val (.ref h0.size), .val (.ref hp49.size), .val (.int (0 : Int32)), .val (.int (1 : Int32))] [(.ref h0.size)])
      refine own_step (fun _ k => XS.iload X64.here hx rfl (hb hby at_198) rfl k) ?_
      show own_Fin _ _ _ _ _ _ _ T64 (mkF m 200 #[.val (.int p1), .val (.int p2), .val (.ref h0.size), .val (.ref hp49.size), .val (.int (0 : Int32)), .val (.int (1 : Int32))] [(.int (0 : Int32)), (.ref h0.size)])
      refine own_ald X64 hx hZ e64 A49 rfl (v := (.ref s0)) 0 (by decide) (by decide) (by rw [z49]; rfl) (hb hby at_200) ?_
      show own_Fin _ _ _ _ _ _ _ T64 (mkF m 201 #[.val (.int p1), .val (.int p2), .val (.ref h0.size), .val (.ref hp49.size), .val (.int (0 : Int32)), .val (.int (1 : Int32))] [(.ref s0)])
      refine own_step (fun _ k => XS.iloadN X64.here hx rfl (hb hby at_201) rfl k) ?_
      show own_Fin _ _ _ _ _ _ _ T64 (mkF m 202 #[.val (.int p1), .val (.int p2), .val (.ref h0.size), .val (.ref hp49.size), .val (.int (0 : Int32)), .val (.int (1 : Int32))] [(.int p2), (.ref s0)])
      have M := rm1 l Z a0 hw hp64 s0 p2 12 (F0.ext E64)
      rw [if_neg h187] at M
      refine own_callV0 X64 hx hZ (argsL := [(.int p2)]) (rest := []) hown (hw _ (List.mem_of_getElem? (i := 34) rfl)) (hw _ (List.mem_of_getElem? (i := 35) rfl)) (hw _ (List.mem_of_getElem? (i := 37) rfl)) (hw _ (List.mem_of_getElem? (i := 36) rfl)) (hw _ (List.mem_of_getElem? (i := 38) rfl)) (hw _ (List.mem_of_getElem? (i := 3) rfl)) (by decide) (E0.ext E64) M e64 0 (Nat.le_of_eq rfl) (by decide) (by decide) (by decide) (by decide) (by rw [hml]; rfl) pd__I_Z rfl rfl (hb hby at_202) ?_
      intro T66 X66 e66
      show own_Fin _ _ _ _ _ _ _ T66 (mkF m 205 #[.val (.int p1), .val (.int p2), .val (.ref h0.size), .val (.ref hp49.size), .val (.int (0 : Int32)), .val (.int (1 : Int32))] [(.int (1 : Int32))])
      refine own_step (fun _ k => XS.iload X66.here hx rfl (hb hby at_205) rfl k) ?_
      show own_Fin _ _ _ _ _ _ _ T66 (mkF m 207 #[.val (.int p1), .val (.int p2), .val (.ref h0.size), .val (.ref hp49.size), .val (.int (0 : Int32)), .val (.int (1 : Int32))] [(.int (1 : Int32)), (.int (1 : Int32))])
      refine own_step (fun _ k => XS.icmpNo X66.here hx rfl (hb hby at_207) rfl (XT.ii_ne_f (by decide)) k) ?_
      show own_Fin _ _ _ _ _ _ _ T66 (mkF m 210 #[.val (.int p1), .val (.int p2), .val (.ref h0.size), .val (.ref hp49.size), .val (.int (0 : Int32)), .val (.int (1 : Int32))] [])
      refine own_step (fun _ k => XT.iconstV X66.here hx rfl (1 : Int32) (hb hby at_210) (by decide) k) ?_
      show own_Fin _ _ _ _ _ _ _ T66 (mkF m 211 #[.val (.int p1), .val (.int p2), .val (.ref h0.size), .val (.ref hp49.size), .val (.int (0 : Int32)), .val (.int (1 : Int32))] [(.int (1 : Int32))])
      refine own_step (fun _ k => XS.goto X66.here hx rfl (pc0 := 211) (pc' := 215) rfl (hb hby at_211) (by decide) (by decide) k) ?_
      show own_Fin _ _ _ _ _ _ _ T66 (mkF m 215 #[.val (.int p1), .val (.int p2), .val (.ref h0.size), .val (.ref hp49.size), .val (.int (0 : Int32)), .val (.int (1 : Int32))] [(.int (1 : Int32))])
      exact own_retZ X66 hx hrt hlk (hb hby at_215) (Or.inr rfl) ⟨rfl, N64⟩ (by decide) (by decide)
  · rw [q]
    show own_Fin _ _ _ _ _ _ _ T64 (mkF m 180 #[.val (.int p1), .val (.int p2), .val (.ref h0.size), .val (.ref hp49.size), .unset, .unset] [(.int (1 : Int32))])
    refine own_step (fun _ k => XS.istore X64.here hx rfl (hb hby at_180) rfl (l' := #[.val (.int p1), .val (.int p2), .val (.ref h0.size), .val (.ref hp49.size), .val (.int (1 : Int32)), .unset]) rfl k) ?_
    show own_Fin _ _ _ _ _ _ _ T64 (mkF m 182 #[.val (.int p1), .val (.int p2), .val (.ref h0.size), .val (.ref hp49.size), .val (.int (1 : Int32)), .unset] [])
    refine own_step (fun _ k => XS.iloadN X64.here hx rfl (hb hby at_182) rfl k) ?_
    show own_Fin _ _ _ _ _ _ _ T64 (mkF m 183 #[.val (.int p1), .val (.int p2), .val (.ref h0.size), .val (.ref hp49.size), .val (.int (1 : Int32)), .unset] [(.int p2)])
    refine own_step (fun _ k => XS.aloadN X64.here hx rfl (hb hby at_183) rfl rfl k) ?_
    show own_Fin _ _ _ _ _ _ _ T64 (mkF m 184 #[.val (.int p1), .val (.int p2), .val (.ref h0.size), .val (.ref hp49.size), .val (.int (1 : Int32)), .unset] [(.ref hp49.size), (.int p2)])
    refine own_step (fun _ k => XS.iload X64.here hx rfl (hb hby at_184) rfl k) ?_
    show own_Fin _ _ _ _ _ _ _ T64 (mkF m 186 #[.val (.int p1), .val (.int p2), .val (.ref h0.size), .val (.ref hp49.size), .val (.int (1 : Int32)), .unset] [(.int (1 : Int32)), (.ref hp49.size), (.int p2)])
    refine own_ild X64 hx hZ e64 A64 (v := (.int (6 : Int32))) 1 (by decide) (by decide) (by rw [z64]; rfl) (hb hby at_186) ?_
    show own_Fin _ _ _ _ _ _ _ T64 (mkF m 187 #[.val (.int p1), .val (.int p2), .val (.ref h0.size), .val (.ref hp49.size), .val (.int (1 : Int32)), .unset] [(.int (6 : Int32)), (.int p2)])
    by_cases h187 : p2 < (6 : Int32)
    · skip
      refine own_step (fun _ k => XS.icmpYes X64.here hx rfl (pc0 := 187) (pc' := 194) rfl (hb hby at_187) rfl (XT.ii_lt_t h187) (by decide) (by decide) k) ?_
      show own_Fin _ _ _ _ _ _ _ T64 (mkF m 194 #[.val (.int p1), .val (.int p2), .val (.ref h0.size), .val (.ref hp49.size), .val (.int (1 : Int32)), .unset] [])
      refine own_step (fun _ k => XT.iconstV X64.here hx rfl (0 : Int32) (hb hby at_194) (by decide) k) ?_
      show own_Fin _ _ _ _ _ _ _ T64 (mkF m 195 #[.val (.int p1), .val (.int p2), .val (.ref h0.size), .val (.ref hp49.size), .val (.int (1 : Int32)), .unset] [(.int (0 : Int32))])
      refine own_step (fun _ k => XS.istore X64.here hx rfl (hb hby at_195) rfl (l' := #[.val (.int p1), .val (.int p2), .val (.ref h0.size), .val (.ref hp49.size), .val (.int (1 : Int32)), .val (.int (0 : Int32))]) rfl k) ?_
      show own_Fin _ _ _ _ _ _ _ T64 (mkF m 197 #[.val (.int p1), .val (.int p2), .val (.ref h0.size), .val (.ref hp49.size), .val (.int (1 : Int32)), .val (.int (0 : Int32))] [])
      refine own_step (fun _ k => XS.aloadN X64.here hx rfl (hb hby at_197) rfl rfl k) ?_
      show own_Fin _ _ _ _ _ _ _ T64 (mkF m 198 #[.val (.int p1), .val (.int p2), .val (.ref h0.size), .val (.ref hp49.size), .val (.int (1 : Int32)), .val (.int (0 : Int32))] [(.ref h0.size)])
      refine own_step (fun _ k => XS.iload X64.here hx rfl (hb hby at_198) rfl k) ?_
      show own_Fin _ _ _ _ _ _ _ T64 (mkF m 200 #[.val (.int p1), .val (.int p2), .val (.ref h0.size), .val (.ref hp49.size), .val (.int (1 : Int32)), .val (.int (0 : Int32))] [(.int (1 : Int32)), (.ref h0.size)])
      refine own_ald X64 hx hZ e64 A49 rfl (v := (.ref s1)) 1 (by decide) (by decide) (by rw [z49]; rfl) (hb hby at_200) ?_
      show own_Fin _ _ _ _ _ _ _ T64 (mkF m 201 #[.val (.int p1), .val (.int p2), .val (.ref h0.size), .val (.ref hp49.size), .val (.int (1 : Int32)), .val (.int (0 : Int32))] [(.ref s1)])
      refine own_step (fun _ k => XS.iloadN X64.here hx rfl (hb hby at_201) rfl k) ?_
      show own_Fin _ _ _ _ _ _ _ T64 (mkF m 202 #[.val (.int p1), .val (.int p2), .val (.ref h0.size), .val (.ref hp49.size), .val (.int (1 : Int32)), .val (.int (0 : Int32))] [(.int p2), (.ref s1)])
      have M := rm1 l Z a0 hw hp64 s1 p2 6 (F1.ext E64)
      rw [if_pos h187] at M
      refine own_callV0 X64 hx hZ (argsL := [(.int p2)]) (rest := []) hown (hw _ (List.mem_of_getElem? (i := 34) rfl)) (hw _ (List.mem_of_getElem? (i := 35) rfl)) (hw _ (List.mem_of_getElem? (i := 37) rfl)) (hw _ (List.mem_of_getElem? (i := 36) rfl)) (hw _ (List.mem_of_getElem? (i := 38) rfl)) (hw _ (List.mem_of_getElem? (i := 3) rfl)) (by decide) (E1.ext E64) M e64 0 (Nat.le_of_eq rfl) (by decide) (by decide) (by decide) (by decide) (by rw [hml]; rfl) pd__I_Z rfl rfl (hb hby at_202) ?_
      intro T67 X67 e67
      show own_Fin _ _ _ _ _ _ _ T67 (mkF m 205 #[.val (.int p1), .val (.int p2), .val (.ref h0.size), .val (.ref hp49.size), .val (.int (1 : Int32)), .val (.int (0 : Int32))] [(.int (0 : Int32))])
      refine own_step (fun _ k => XS.iload X67.here hx rfl (hb hby at_205) rfl k) ?_
      show own_Fin _ _ _ _ _ _ _ T67 (mkF m 207 #[.val (.int p1), .val (.int p2), .val (.ref h0.size), .val (.ref hp49.size), .val (.int (1 : Int32)), .val (.int (0 : Int32))] [(.int (0 : Int32)), (.int (0 : Int32))])
      refine own_step (fun _ k => XS.icmpNo X67.here hx rfl (hb hby at_207) rfl (XT.ii_ne_f (by decide)) k) ?_
      show own_Fin _ _ _ _ _ _ _ T67 (mkF m 210 #[.val (.int p1), .val (.int p2), .val (.ref h0.size), .val (.ref hp49.size), .val (.int (1 : Int32)), .val (.int (0 : Int32))] [])
      refine own_step (fun _ k => XT.iconstV X67.here hx rfl (1 : Int32) (hb hby at_210) (by decide) k) ?_
      show own_Fin _ _ _ _ _ _ _ T67 (mkF m 211 #[.val (.int p1), .val (.int p2), .val (.ref h0.size), .val (.ref hp49.size), .val (.int (1 : Int32)), .val (.int (0 : Int32))] [(.int (1 : Int32))])
      refine own_step (fun _ k => XS.goto X67.here hx rfl (pc0 := 211) (pc' := 215) rfl (hb hby at_211) (by decide) (by decide) k) ?_
      show own_Fin _ _ _ _ _ _ _ T67 (mkF m 215 #[.val (.int p1), .val (.int p2), .val (.ref h0.size), .val (.ref hp49.size), .val (.int (1 : Int32)), .val (.int (0 : Int32))] [(.int (1 : Int32))])
      exact own_retZ X67 hx hrt hlk (hb hby at_215) (Or.inr rfl) ⟨rfl, N64⟩ (by decide) (by decide)
    · skip
      refine own_step (fun _ k => XS.icmpNo X64.here hx rfl (hb hby at_187) rfl (XT.ii_lt_f h187) k) ?_
      show own_Fin _ _ _ _ _ _ _ T64 (mkF m 190 #[.val (.int p1), .val (.int p2), .val (.ref h0.size), .val (.ref hp49.size), .val (.int (1 : Int32)), .unset] [])
      refine own_step (fun _ k => XT.iconstV X64.here hx rfl (1 : Int32) (hb hby at_190) (by decide) k) ?_
      show own_Fin _ _ _ _ _ _ _ T64 (mkF m 191 #[.val (.int p1), .val (.int p2), .val (.ref h0.size), .val (.ref hp49.size), .val (.int (1 : Int32)), .unset] [(.int (1 : Int32))])
      refine own_step (fun _ k => XS.goto X64.here hx rfl (pc0 := 191) (pc' := 195) rfl (hb hby at_191) (by decide) (by decide) k) ?_
      show own_Fin _ _ _ _ _ _ _ T64 (mkF m 195 #[.val (.int p1), .val (.int p2), .val (.ref h0.size), .val (.ref hp49.size), .val (.int (1 : Int32)), .unset] [(.int (1 : Int32))])
      refine own_step (fun _ k => XS.istore X64.here hx rfl (hb hby at_195) rfl (l' := #[.val (.int p1), .val (.int p2), .val (.ref h0.size), .val (.ref hp49.size), .val (.int (1 : Int32)), .val (.int (1 : Int32))]) rfl k) ?_
      show own_Fin _ _ _ _ _ _ _ T64 (mkF m 197 #[.val (.int p1), .val (.int p2), .val (.ref h0.size), .val (.ref hp49.size), .val (.int (1 : Int32)), .val (.int (1 : Int32))] [])
      refine own_step (fun _ k => XS.aloadN X64.here hx rfl (hb hby at_197) rfl rfl k) ?_
      show own_Fin _ _ _ _ _ _ _ T64 (mkF m 198 #[.val (.int p1), .val (.int p2), .val (.ref h0.size), .val (.ref hp49.size), .val (.int (1 : Int32)), .val (.int (1 : Int32))] [(.ref h0.size)])
      refine own_step (fun _ k => XS.iload X64.here hx rfl (hb hby at_198) rfl k) ?_
      show own_Fin _ _ _ _ _ _ _ T64 (mkF m 200 #[.val (.int p1), .val (.int p2), .val (.ref h0.size), .val (.ref hp49.size), .val (.int (1 : Int32)), .val (.int (1 : Int32))] [(.int (1 : Int32)), (.ref h0.size)])
      refine own_ald X64 hx hZ e64 A49 rfl (v := (.ref s1)) 1 (by decide) (by decide) (by rw [z49]; rfl) (hb hby at_200) ?_
      show own_Fin _ _ _ _ _ _ _ T64 (mkF m 201 #[.val (.int p1), .val (.int p2), .val (.ref h0.size), .val (.ref hp49.size), .val (.int (1 : Int32)), .val (.int (1 : Int32))] [(.ref s1)])
      refine own_step (fun _ k => XS.iloadN X64.here hx rfl (hb hby at_201) rfl k) ?_
      show own_Fin _ _ _ _ _ _ _ T64 (mkF m 202 #[.val (.int p1), .val (.int p2), .val (.ref h0.size), .val (.ref hp49.size), .val (.int (1 : Int32)), .val (.int (1 : Int32))] [(.int p2), (.ref s1)])
      have M := rm1 l Z a0 hw hp64 s1 p2 6 (F1.ext E64)
      rw [if_neg h187] at M
      refine own_callV0 X64 hx hZ (argsL := [(.int p2)]) (rest := []) hown (hw _ (List.mem_of_getElem? (i := 34) rfl)) (hw _ (List.mem_of_getElem? (i := 35) rfl)) (hw _ (List.mem_of_getElem? (i := 37) rfl)) (hw _ (List.mem_of_getElem? (i := 36) rfl)) (hw _ (List.mem_of_getElem? (i := 38) rfl)) (hw _ (List.mem_of_getElem? (i := 3) rfl)) (by decide) (E1.ext E64) M e64 0 (Nat.le_of_eq rfl) (by decide) (by decide) (by decide) (by decide) (by rw [hml]; rfl) pd__I_Z rfl rfl (hb hby at_202) ?_
      intro T68 X68 e68
      show own_Fin _ _ _ _ _ _ _ T68 (mkF m 205 #[.val (.int p1), .val (.int p2), .val (.ref h0.size), .val (.ref hp49.size), .val (.int (1 : Int32)), .val (.int (1 : Int32))] [(.int (1 : Int32))])
      refine own_step (fun _ k => XS.iload X68.here hx rfl (hb hby at_205) rfl k) ?_
      show own_Fin _ _ _ _ _ _ _ T68 (mkF m 207 #[.val (.int p1), .val (.int p2), .val (.ref h0.size), .val (.ref hp49.size), .val (.int (1 : Int32)), .val (.int (1 : Int32))] [(.int (1 : Int32)), (.int (1 : Int32))])
      refine own_step (fun _ k => XS.icmpNo X68.here hx rfl (hb hby at_207) rfl (XT.ii_ne_f (by decide)) k) ?_
      show own_Fin _ _ _ _ _ _ _ T68 (mkF m 210 #[.val (.int p1), .val (.int p2), .val (.ref h0.size), .val (.ref hp49.size), .val (.int (1 : Int32)), .val (.int (1 : Int32))] [])
      refine own_step (fun _ k => XT.iconstV X68.here hx rfl (1 : Int32) (hb hby at_210) (by decide) k) ?_
      show own_Fin _ _ _ _ _ _ _ T68 (mkF m 211 #[.val (.int p1), .val (.int p2), .val (.ref h0.size), .val (.ref hp49.size), .val (.int (1 : Int32)), .val (.int (1 : Int32))] [(.int (1 : Int32))])
      refine own_step (fun _ k => XS.goto X68.here hx rfl (pc0 := 211) (pc' := 215) rfl (hb hby at_211) (by decide) (by decide) k) ?_
      show own_Fin _ _ _ _ _ _ _ T68 (mkF m 215 #[.val (.int p1), .val (.int p2), .val (.ref h0.size), .val (.ref hp49.size), .val (.int (1 : Int32)), .val (.int (1 : Int32))] [(.int (1 : Int32))])
      exact own_retZ X68 hx hrt hlk (hb hby at_215) (Or.inr rfl) ⟨rfl, N64⟩ (by decide) (by decide)
  · rw [q]
    show own_Fin _ _ _ _ _ _ _ T64 (mkF m 180 #[.val (.int p1), .val (.int p2), .val (.ref h0.size), .val (.ref hp49.size), .unset, .unset] [(.int (2 : Int32))])
    refine own_step (fun _ k => XS.istore X64.here hx rfl (hb hby at_180) rfl (l' := #[.val (.int p1), .val (.int p2), .val (.ref h0.size), .val (.ref hp49.size), .val (.int (2 : Int32)), .unset]) rfl k) ?_
    show own_Fin _ _ _ _ _ _ _ T64 (mkF m 182 #[.val (.int p1), .val (.int p2), .val (.ref h0.size), .val (.ref hp49.size), .val (.int (2 : Int32)), .unset] [])
    refine own_step (fun _ k => XS.iloadN X64.here hx rfl (hb hby at_182) rfl k) ?_
    show own_Fin _ _ _ _ _ _ _ T64 (mkF m 183 #[.val (.int p1), .val (.int p2), .val (.ref h0.size), .val (.ref hp49.size), .val (.int (2 : Int32)), .unset] [(.int p2)])
    refine own_step (fun _ k => XS.aloadN X64.here hx rfl (hb hby at_183) rfl rfl k) ?_
    show own_Fin _ _ _ _ _ _ _ T64 (mkF m 184 #[.val (.int p1), .val (.int p2), .val (.ref h0.size), .val (.ref hp49.size), .val (.int (2 : Int32)), .unset] [(.ref hp49.size), (.int p2)])
    refine own_step (fun _ k => XS.iload X64.here hx rfl (hb hby at_184) rfl k) ?_
    show own_Fin _ _ _ _ _ _ _ T64 (mkF m 186 #[.val (.int p1), .val (.int p2), .val (.ref h0.size), .val (.ref hp49.size), .val (.int (2 : Int32)), .unset] [(.int (2 : Int32)), (.ref hp49.size), (.int p2)])
    refine own_ild X64 hx hZ e64 A64 (v := (.int (9 : Int32))) 2 (by decide) (by decide) (by rw [z64]; rfl) (hb hby at_186) ?_
    show own_Fin _ _ _ _ _ _ _ T64 (mkF m 187 #[.val (.int p1), .val (.int p2), .val (.ref h0.size), .val (.ref hp49.size), .val (.int (2 : Int32)), .unset] [(.int (9 : Int32)), (.int p2)])
    by_cases h187 : p2 < (9 : Int32)
    · skip
      refine own_step (fun _ k => XS.icmpYes X64.here hx rfl (pc0 := 187) (pc' := 194) rfl (hb hby at_187) rfl (XT.ii_lt_t h187) (by decide) (by decide) k) ?_
      show own_Fin _ _ _ _ _ _ _ T64 (mkF m 194 #[.val (.int p1), .val (.int p2), .val (.ref h0.size), .val (.ref hp49.size), .val (.int (2 : Int32)), .unset] [])
      refine own_step (fun _ k => XT.iconstV X64.here hx rfl (0 : Int32) (hb hby at_194) (by decide) k) ?_
      show own_Fin _ _ _ _ _ _ _ T64 (mkF m 195 #[.val (.int p1), .val (.int p2), .val (.ref h0.size), .val (.ref hp49.size), .val (.int (2 : Int32)), .unset] [(.int (0 : Int32))])
      refine own_step (fun _ k => XS.istore X64.here hx rfl (hb hby at_195) rfl (l' := #[.val (.int p1), .val (.int p2), .val (.ref h0.size), .val (.ref hp49.size), .val (.int (2 : Int32)), .val (.int (0 : Int32))]) rfl k) ?_
      show own_Fin _ _ _ _ _ _ _ T64 (mkF m 197 #[.val (.int p1), .val (.int p2), .val (.ref h0.size), .val (.ref hp49.size), .val (.int (2 : Int32)), .val (.int (0 : Int32))] [])
      refine own_step (fun _ k => XS.aloadN X64.here hx rfl (hb hby at_197) rfl rfl k) ?_
      show own_Fin _ _ _ _ _ _ _ T64 (mkF m 198 #[.val (.int p1), .val (.int p2), .val (.ref h0.size), .val (.ref hp49.size), .val (.int (2 : Int32)), .val (.int (0 : Int32))] [(.ref h0.size)])
      refine own_step (fun _ k => XS.iload X64.here hx rfl (hb hby at_198) rfl k) ?_
      show own_Fin _ _ _ _ _ _ _ T64 (mkF m 200 #[.val (.int p1), .val (.int p2), .val (.ref h0.size), .val (.ref hp49.size), .val (.int (2 : Int32)), .val (.int (0 : Int32))] [(.int (2 : Int32)), (.ref h0.size)])
      refine own_ald X64 hx hZ e64 A49 rfl (v := (.ref s2)) 2 (by decide) (by decide) (by rw [z49]; rfl) (hb hby at_200) ?_
      show own_Fin _ _ _ _ _ _ _ T64 (mkF m 201 #[.val (.int p1), .val (.int p2), .val (.ref h0.size), .val (.ref hp49.size), .val (.int (2 : Int32)), .val (.int (0 : Int32))] [(.ref s2)])
      refine own_step (fun _ k => XS.iloadN X64.here hx rfl (hb hby at_201) rfl k) ?_
      show own_Fin _ _ _ _ _ _ _ T64 (mkF m 202 #[.val (.int p1), .val (.int p2), .val (.ref h0.size), .val (.ref hp49.size), .val (.int (2 : Int32)), .val (.int (0 : Int32))] [(.int p2), (.ref s2)])
      have M := rm1 l Z a0 hw hp64 s2 p2 9 (F2.ext E64)
      rw [if_pos h187] at M
      refine own_callV0 X64 hx hZ (argsL := [(.int p2)]) (rest := []) hown (hw _ (List.mem_of_getElem? (i := 34) rfl)) (hw _ (List.mem_of_getElem? (i := 35) rfl)) (hw _ (List.mem_of_getElem? (i := 37) rfl)) (hw _ (List.mem_of_getElem? (i := 36) rfl)) (hw _ (List.mem_of_getElem? (i := 38) rfl)) (hw _ (List.mem_of_getElem? (i := 3) rfl)) (by decide) (E2.ext E64) M e64 0 (Nat.le_of_eq rfl) (by decide) (by decide) (by decide) (by decide) (by rw [hml]; rfl) pd__I_Z rfl rfl (hb hby at_202) ?_
      intro T69 X69 e69
      show own_Fin _ _ _ _ _ _ _ T69 (mkF m 205 #[.val (.int p1), .val (.int p2), .val (.ref h0.size), .val (.ref hp49.size), .val (.int (2 : Int32)), .val (.int (0 : Int32))] [(.int (0 : Int32))])
      refine own_step (fun _ k => XS.iload X69.here hx rfl (hb hby at_205) rfl k) ?_
      show own_Fin _ _ _ _ _ _ _ T69 (mkF m 207 #[.val (.int p1), .val (.int p2), .val (.ref h0.size), .val (.ref hp49.size), .val (.int (2 : Int32)), .val (.int (0 : Int32))] [(.int (0 : Int32)), (.int (0 : Int32))])
      refine own_step (fun _ k => XS.icmpNo X69.here hx rfl (hb hby at_207) rfl (XT.ii_ne_f (by decide)) k) ?_
      show own_Fin _ _ _ _ _ _ _ T69 (mkF m 210 #[.val (.int p1), .val (.int p2), .val (.ref h0.size), .val (.ref hp49.size), .val (.int (2 : Int32)), .val (.int (0 : Int32))] [])
      refine own_step (fun _ k => XT.iconstV X69.here hx rfl (1 : Int32) (hb hby at_210) (by decide) k) ?_
      show own_Fin _ _ _ _ _ _ _ T69 (mkF m 211 #[.val (.int p1), .val (.int p2), .val (.ref h0.size), .val (.ref hp49.size), .val (.int (2 : Int32)), .val (.int (0 : Int32))] [(.int (1 : Int32))])
      refine own_step (fun _ k => XS.goto X69.here hx rfl (pc0 := 211) (pc' := 215) rfl (hb hby at_211) (by decide) (by decide) k) ?_
      show own_Fin _ _ _ _ _ _ _ T69 (mkF m 215 #[.val (.int p1), .val (.int p2), .val (.ref h0.size), .val (.ref hp49.size), .val (.int (2 : Int32)), .val (.int (0 : Int32))] [(.int (1 : Int32))])
      exact own_retZ X69 hx hrt hlk (hb hby at_215) (Or.inr rfl) ⟨rfl, N64⟩ (by decide) (by decide)
    · skip
      refine own_step (fun _ k => XS.icmpNo X64.here hx rfl (hb hby at_187) rfl (XT.ii_lt_f h187) k) ?_
      show own_Fin _ _ _ _ _ _ _ T64 (mkF m 190 #[.val (.int p1), .val (.int p2), .val (.ref h0.size), .val (.ref hp49.size), .val (.int (2 : Int32)), .unset] [])
      refine own_step (fun _ k => XT.iconstV X64.here hx rfl (1 : Int32) (hb hby at_190) (by decide) k) ?_
      show own_Fin _ _ _ _ _ _ _ T64 (mkF m 191 #[.val (.int p1), .val (.int p2), .val (.ref h0.size), .val (.ref hp49.size), .val (.int (2 : Int32)), .unset] [(.int (1 : Int32))])
      refine own_step (fun _ k => XS.goto X64.here hx rfl (pc0 := 191) (pc' := 195) rfl (hb hby at_191) (by decide) (by decide) k) ?_
      show own_Fin _ _ _ _ _ _ _ T64 (mkF m 195 #[.val (.int p1), .val (.int p2), .val (.ref h0.size), .val (.ref hp49.size), .val (.int (2 : Int32)), .unset] [(.int (1 : Int32))])
      refine own_step (fun _ k => XS.istore X64.here hx rfl (hb hby at_195) rfl (l' := #[.val (.int p1), .val (.int p2), .val (.ref h0.size), .val (.ref hp49.size), .val (.int (2 : Int32)), .val (.int (1 : Int32))]) rfl k) ?_
      show own_Fin _ _ _ _ _ _ _ T64 (mkF m 197 #[.val (.int p1), .val (.int p2), .val (.ref h0.size), .val (.ref hp49.size), .val (.int (2 : Int32)), .val (.int (1 : Int32))] [])
      refine own_step (fun _ k => XS.aloadN X64.here hx rfl (hb hby at_197) rfl rfl k) ?_
      show own_Fin _ _ _ _ _ _ _ T64 (mkF m 198 #[.val (.int p1), .val (.int p2), .val (.ref h0.size), .val (.ref hp49.size), .val (.int (2 : Int32)), .val (.int (1 : Int32))] [(.ref h0.size)])
      refine own_step (fun _ k => XS.iload X64.here hx rfl (hb hby at_198) rfl k) ?_
      show own_Fin _ _ _ _ _ _ _ T64 (mkF m 200 #[.val (.int p1), .val (.int p2), .val (.ref h0.size), .val (.ref hp49.size), .val (.int (2 : Int32)), .val (.int (1 : Int32))] [(.int (2 : Int32)), (.ref h0.size)])
      refine own_ald X64 hx hZ e64 A49 rfl (v := (.ref s2)) 2 (by decide) (by decide) (by rw [z49]; rfl) (hb hby at_200) ?_
      show own_Fin _ _ _ _ _ _ _ T64 (mkF m 201 #[.val (.int p1), .val (.int p2), .val (.ref h0.size), .val (.ref hp49.size), .val (.int (2 : Int32)), .val (.int (1 : Int32))] [(.ref s2)])
      refine own_step (fun _ k => XS.iloadN X64.here hx rfl (hb hby at_201) rfl k) ?_
      show own_Fin _ _ _ _ _ _ _ T64 (mkF m 202 #[.val (.int p1), .val (.int p2), .val (.ref h0.size), .val (.ref hp49.size), .val (.int (2 : Int32)), .val (.int (1 : Int32))] [(.int p2), (.ref s2)])
      have M := rm1 l Z a0 hw hp64 s2 p2 9 (F2.ext E64)
      rw [if_neg h187] at M
      refine own_callV0 X64 hx hZ (argsL := [(.int p2)]) (rest := []) hown (hw _ (List.mem_of_getElem? (i := 34) rfl)) (hw _ (List.mem_of_getElem? (i := 35) rfl)) (hw _ (List.mem_of_getElem? (i := 37) rfl)) (hw _ (List.mem_of_getElem? (i := 36) rfl)) (hw _ (List.mem_of_getElem? (i := 38) rfl)) (hw _ (List.mem_of_getElem? (i := 3) rfl)) (by decide) (E2.ext E64) M e64 0 (Nat.le_of_eq rfl) (by decide) (by decide) (by decide) (by decide) (by rw [hml]; rfl) pd__I_Z rfl rfl (hb hby at_202) ?_
      intro T70 X70 e70
      show own_Fin _ _ _ _ _ _ _ T70 (mkF m 205 #[.val (.int p1), .val (.int p2), .val (.ref h0.size), .val (.ref hp49.size), .val (.int (2 : Int32)), .val (.int (1 : Int32))] [(.int (1 : Int32))])
      refine own_step (fun _ k => XS.iload X70.here hx rfl (hb hby at_205) rfl k) ?_
      show own_Fin _ _ _ _ _ _ _ T70 (mkF m 207 #[.val (.int p1), .val (.int p2), .val (.ref h0.size), .val (.ref hp49.size), .val (.int (2 : Int32)), .val (.int (1 : Int32))] [(.int (1 : Int32)), (.int (1 : Int32))])
      refine own_step (fun _ k => XS.icmpNo X70.here hx rfl (hb hby at_207) rfl (XT.ii_ne_f (by decide)) k) ?_
      show own_Fin _ _ _ _ _ _ _ T70 (mkF m 210 #[.val (.int p1), .val (.int p2), .val (.ref h0.size), .val (.ref hp49.size), .val (.int (2 : Int32)), .val (.int (1 : Int32))] [])
      refine own_step (fun _ k => XT.iconstV X70.here hx rfl (1 : Int32) (hb hby at_210) (by decide) k) ?_
      show own_Fin _ _ _ _ _ _ _ T70 (mkF m 211 #[.val (.int p1), .val (.int p2), .val (.ref h0.size), .val (.ref hp49.size), .val (.int (2 : Int32)), .val (.int (1 : Int32))] [(.int (1 : Int32))])
      refine own_step (fun _ k => XS.goto X70.here hx rfl (pc0 := 211) (pc' := 215) rfl (hb hby at_211) (by decide) (by decide) k) ?_
      show own_Fin _ _ _ _ _ _ _ T70 (mkF m 215 #[.val (.int p1), .val (.int p2), .val (.ref h0.size), .val (.ref hp49.size), .val (.int (2 : Int32)), .val (.int (1 : Int32))] [(.int (1 : Int32))])
      exact own_retZ X70 hx hrt hlk (hb hby at_215) (Or.inr rfl) ⟨rfl, N64⟩ (by decide) (by decide)
  · rw [q]
    show own_Fin _ _ _ _ _ _ _ T64 (mkF m 180 #[.val (.int p1), .val (.int p2), .val (.ref h0.size), .val (.ref hp49.size), .unset, .unset] [(.int (3 : Int32))])
    refine own_step (fun _ k => XS.istore X64.here hx rfl (hb hby at_180) rfl (l' := #[.val (.int p1), .val (.int p2), .val (.ref h0.size), .val (.ref hp49.size), .val (.int (3 : Int32)), .unset]) rfl k) ?_
    show own_Fin _ _ _ _ _ _ _ T64 (mkF m 182 #[.val (.int p1), .val (.int p2), .val (.ref h0.size), .val (.ref hp49.size), .val (.int (3 : Int32)), .unset] [])
    refine own_step (fun _ k => XS.iloadN X64.here hx rfl (hb hby at_182) rfl k) ?_
    show own_Fin _ _ _ _ _ _ _ T64 (mkF m 183 #[.val (.int p1), .val (.int p2), .val (.ref h0.size), .val (.ref hp49.size), .val (.int (3 : Int32)), .unset] [(.int p2)])
    refine own_step (fun _ k => XS.aloadN X64.here hx rfl (hb hby at_183) rfl rfl k) ?_
    show own_Fin _ _ _ _ _ _ _ T64 (mkF m 184 #[.val (.int p1), .val (.int p2), .val (.ref h0.size), .val (.ref hp49.size), .val (.int (3 : Int32)), .unset] [(.ref hp49.size), (.int p2)])
    refine own_step (fun _ k => XS.iload X64.here hx rfl (hb hby at_184) rfl k) ?_
    show own_Fin _ _ _ _ _ _ _ T64 (mkF m 186 #[.val (.int p1), .val (.int p2), .val (.ref h0.size), .val (.ref hp49.size), .val (.int (3 : Int32)), .unset] [(.int (3 : Int32)), (.ref hp49.size), (.int p2)])
    refine own_ild X64 hx hZ e64 A64 (v := (.int (8 : Int32))) 3 (by decide) (by decide) (by rw [z64]; rfl) (hb hby at_186) ?_
    show own_Fin _ _ _ _ _ _ _ T64 (mkF m 187 #[.val (.int p1), .val (.int p2), .val (.ref h0.size), .val (.ref hp49.size), .val (.int (3 : Int32)), .unset] [(.int (8 : Int32)), (.int p2)])
    by_cases h187 : p2 < (8 : Int32)
    · skip
      refine own_step (fun _ k => XS.icmpYes X64.here hx rfl (pc0 := 187) (pc' := 194) rfl (hb hby at_187) rfl (XT.ii_lt_t h187) (by decide) (by decide) k) ?_
      show own_Fin _ _ _ _ _ _ _ T64 (mkF m 194 #[.val (.int p1), .val (.int p2), .val (.ref h0.size), .val (.ref hp49.size), .val (.int (3 : Int32)), .unset] [])
      refine own_step (fun _ k => XT.iconstV X64.here hx rfl (0 : Int32) (hb hby at_194) (by decide) k) ?_
      show own_Fin _ _ _ _ _ _ _ T64 (mkF m 195 #[.val (.int p1), .val (.int p2), .val (.ref h0.size), .val (.ref hp49.size), .val (.int (3 : Int32)), .unset] [(.int (0 : Int32))])
      refine own_step (fun _ k => XS.istore X64.here hx rfl (hb hby at_195) rfl (l' := #[.val (.int p1), .val (.int p2), .val (.ref h0.size), .val (.ref hp49.size), .val (.int (3 : Int32)), .val (.int (0 : Int32))]) rfl k) ?_
      show own_Fin _ _ _ _ _ _ _ T64 (mkF m 197 #[.val (.int p1), .val (.int p2), .val (.ref h0.size), .val (.ref hp49.size), .val (.int (3 : Int32)), .val (.int (0 : Int32))] [])
      refine own_step (fun _ k => XS.aloadN X64.here hx rfl (hb hby at_197) rfl rfl k) ?_
      show own_Fin _ _ _ _ _ _ _ T64 (mkF m 198 #[.val (.int p1), .val (.int p2), .val (.ref h0.size), .val (.ref hp49.size), .val (.int (3 : Int32)), .val (.int (0 : Int32))] [(.ref h0.size)])
      refine own_step (fun _ k => XS.iload X64.here hx rfl (hb hby at_198) rfl k) ?_
      show own_Fin _ _ _ _ _ _ _ T64 (mkF m 200 #[.val (.int p1), .val (.int p2), .val (.ref h0.size), .val (.ref hp49.size), .val (.int (3 : Int32)), .val (.int (0 : Int32))] [(.int (3 : Int32)), (.ref h0.size)])
      refine own_ald X64 hx hZ e64 A49 rfl (v := (.ref s3)) 3 (by decide) (by decide) (by rw [z49]; rfl) (hb hby at_200) ?_
      show own_Fin _ _ _ _ _ _ _ T64 (mkF m 201 #[.val (.int p1), .val (.int p2), .val (.ref h0.size), .val (.ref hp49.size), .val (.int (3 : Int32)), .val (.int (0 : Int32))] [(.ref s3)])
      refine own_step (fun _ k => XS.iloadN X64.here hx rfl (hb hby at_201) rfl k) ?_
      show own_Fin _ _ _ _ _ _ _ T64 (mkF m 202 #[.val (.int p1), .val (.int p2), .val (.ref h0.size), .val (.ref hp49.size), .val (.int (3 : Int32)), .val (.int (0 : Int32))] [(.int p2), (.ref s3)])
      have M := rm1 l Z a0 hw hp64 s3 p2 8 (F3.ext E64)
      rw [if_pos h187] at M
      refine own_callV0 X64 hx hZ (argsL := [(.int p2)]) (rest := []) hown (hw _ (List.mem_of_getElem? (i := 34) rfl)) (hw _ (List.mem_of_getElem? (i := 35) rfl)) (hw _ (List.mem_of_getElem? (i := 37) rfl)) (hw _ (List.mem_of_getElem? (i := 36) rfl)) (hw _ (List.mem_of_getElem? (i := 38) rfl)) (hw _ (List.mem_of_getElem? (i := 3) rfl)) (by decide) (E3.ext E64) M e64 0 (Nat.le_of_eq rfl) (by decide) (by decide) (by decide) (by decide) (by rw [hml]; rfl) pd__I_Z rfl rfl (hb hby at_202) ?_
      intro T71 X71 e71
      show own_Fin _ _ _ _ _ _ _ T71 (mkF m 205 #[.val (.int p1), .val (.int p2), .val (.ref h0.size), .val (.ref hp49.size), .val (.int (3 : Int32)), .val (.int (0 : Int32))] [(.int (0 : Int32))])
      refine own_step (fun _ k => XS.iload X71.here hx rfl (hb hby at_205) rfl k) ?_
      show own_Fin _ _ _ _ _ _ _ T71 (mkF m 207 #[.val (.int p1), .val (.int p2), .val (.ref h0.size), .val (.ref hp49.size), .val (.int (3 : Int32)), .val (.int (0 : Int32))] [(.int (0 : Int32)), (.int (0 : Int32))])
      refine own_step (fun _ k => XS.icmpNo X71.here hx rfl (hb hby at_207) rfl (XT.ii_ne_f (by decide)) k) ?_
      show own_Fin _ _ _ _ _ _ _ T71 (mkF m 210 #[.val (.int p1), .val (.int p2), .val (.ref h0.size), .val (.ref hp49.size), .val (.int (3 : Int32)), .val (.int (0 : Int32))] [])
      refine own_step (fun _ k => XT.iconstV X71.here hx rfl (1 : Int32) (hb hby at_210) (by decide) k) ?_
      show own_Fin _ _ _ _ _ _ _ T71 (mkF m 211 #[.val (.int p1), .val (.int p2), .val (.ref h0.size), .val (.ref hp49.size), .val (.int (3 : Int32)), .val (.int (0 : Int32))] [(.int (1 : Int32))])
      refine own_step (fun _ k => XS.goto X71.here hx rfl (pc0 := 211) (pc' := 215) rfl (hb hby at_211) (by decide) (by decide) k) ?_
      show own_Fin _ _ _ _ _ _ _ T71 (mkF m 215 #[.val (.int p1), .val (.int p2), .val (.ref h0.size), .val (.ref hp49.size), .val (.int (3 : Int32)), .val (.int (0 : Int32))] [(.int (1 : Int32))])
      exact own_retZ X71 hx hrt hlk (hb hby at_215) (Or.inr rfl) ⟨rfl, N64⟩ (by decide) (by decide)
    · skip
      refine own_step (fun _ k => XS.icmpNo X64.here hx rfl (hb hby at_187) rfl (XT.ii_lt_f h187) k) ?_
      show own_Fin _ _ _ _ _ _ _ T64 (mkF m 190 #[.val (.int p1), .val (.int p2), .val (.ref h0.size), .val (.ref hp49.size), .val (.int (3 : Int32)), .unset] [])
      refine own_step (fun _ k => XT.iconstV X64.here hx rfl (1 : Int32) (hb hby at_190) (by decide) k) ?_
      show own_Fin _ _ _ _ _ _ _ T64 (mkF m 191 #[.val (.int p1), .val (.int p2), .val (.ref h0.size), .val (.ref hp49.size), .val (.int (3 : Int32)), .unset] [(.int (1 : Int32))])
      refine own_step (fun _ k => XS.goto X64.here hx rfl (pc0 := 191) (pc' := 195) rfl (hb hby at_191) (by decide) (by decide) k) ?_
      show own_Fin _ _ _ _ _ _ _ T64 (mkF m 195 #[.val (.int p1), .val (.int p2), .val (.ref h0.size), .val (.ref hp49.size), .val (.int (3 : Int32)), .unset] [(.int (1 : Int32))])
      refine own_step (fun _ k => XS.istore X64.here hx rfl (hb hby at_195) rfl (l' := #[.val (.int p1), .val (.int p2), .val (.ref h0.size), .val (.ref hp49.size), .val (.int (3 : Int32)), .val (.int (1 : Int32))]) rfl k) ?_
      show own_Fin _ _ _ _ _ _ _ T64 (mkF m 197 #[.val (.int p1), .val (.int p2), .val (.ref h0.size), .val (.ref hp49.size), .val (.int (3 : Int32)), .val (.int (1 : Int32))] [])
      refine own_step (fun _ k => XS.aloadN X64.here hx rfl (hb hby at_197) rfl rfl k) ?_
      show own_Fin _ _ _ _ _ _ _ T64 (mkF m 198 #[.val (.int p1), .val (.int p2), .val (.ref h0.size), .val (.ref hp49.size), .val (.int (3 : Int32)), .val (.int (1 : Int32))] [(.ref h0.size)])
      refine own_step (fun _ k => XS.iload X64.here hx rfl (hb hby at_198) rfl k) ?_
      show own_Fin _ _ _ _ _ _ _ T64 (mkF m 200 #[.val (.int p1), .val (.int p2), .val (.ref h0.size), .val (.ref hp49.size), .val (.int (3 : Int32)), .val (.int (1 : Int32))] [(.int (3 : Int32)), (.ref h0.size)])
      refine own_ald X64 hx hZ e64 A49 rfl (v := (.ref s3)) 3 (by decide) (by decide) (by rw [z49]; rfl) (hb hby at_200) ?_
      show own_Fin _ _ _ _ _ _ _ T64 (mkF m 201 #[.val (.int p1), .val (.int p2), .val (.ref h0.size), .val (.ref hp49.size), .val (.int (3 : Int32)), .val (.int (1 : Int32))] [(.ref s3)])
      refine own_step (fun _ k => XS.iloadN X64.here hx rfl (hb hby at_201) rfl k) ?_
      show own_Fin _ _ _ _ _ _ _ T64 (mkF m 202 #[.val (.int p1), .val (.int p2), .val (.ref h0.size), .val (.ref hp49.size), .val (.int (3 : Int32)), .val (.int (1 : Int32))] [(.int p2), (.ref s3)])
      have M := rm1 l Z a0 hw hp64 s3 p2 8 (F3.ext E64)
      rw [if_neg h187] at M
      refine own_callV0 X64 hx hZ (argsL := [(.int p2)]) (rest := []) hown (hw _ (List.mem_of_getElem? (i := 34) rfl)) (hw _ (List.mem_of_getElem? (i := 35) rfl)) (hw _ (List.mem_of_getElem? (i := 37) rfl)) (hw _ (List.mem_of_getElem? (i := 36) rfl)) (hw _ (List.mem_of_getElem? (i := 38) rfl)) (hw _ (List.mem_of_getElem? (i := 3) rfl)) (by decide) (E3.ext E64) M e64 0 (Nat.le_of_eq rfl) (by decide) (by decide) (by decide) (by decide) (by rw [hml]; rfl) pd__I_Z rfl rfl (hb hby at_202) ?_
      intro T72 X72 e72
      show own_Fin _ _ _ _ _ _ _ T72 (mkF m 205 #[.val (.int p1), .val (.int p2), .val (.ref h0.size), .val (.ref hp49.size), .val (.int (3 : Int32)), .val (.int (1 : Int32))] [(.int (1 : Int32))])
      refine own_step (fun _ k => XS.iload X72.here hx rfl (hb hby at_205) rfl k) ?_
      show own_Fin _ _ _ _ _ _ _ T72 (mkF m 207 #[.val (.int p1), .val (.int p2), .val (.ref h0.size), .val (.ref hp49.size), .val (.int (3 : Int32)), .val (.int (1 : Int32))] [(.int (1 : Int32)), (.int (1 : Int32))])
      refine own_step (fun _ k => XS.icmpNo X72.here hx rfl (hb hby at_207) rfl (XT.ii_ne_f (by decide)) k) ?_
      show own_Fin _ _ _ _ _ _ _ T72 (mkF m 210 #[.val (.int p1), .val (.int p2), .val (.ref h0.size), .val (.ref hp49.size), .val (.int (3 : Int32)), .val (.int (1 : Int32))] [])
      refine own_step (fun _ k => XT.iconstV X72.here hx rfl (1 : Int32) (hb hby at_210) (by decide) k) ?_
      show own_Fin _ _ _ _ _ _ _ T72 (mkF m 211 #[.val (.int p1), .val (.int p2), .val (.ref h0.size), .val (.ref hp49.size), .val (.int (3 : Int32)), .val (.int (1 : Int32))] [(.int (1 : Int32))])
      refine own_step (fun _ k => XS.goto X72.here hx rfl (pc0 := 211) (pc' := 215) rfl (hb hby at_211) (by decide) (by decide) k) ?_
      show own_Fin _ _ _ _ _ _ _ T72 (mkF m 215 #[.val (.int p1), .val (.int p2), .val (.ref h0.size), .val (.ref hp49.size), .val (.int (3 : Int32)), .val (.int (1 : Int32))] [(.int (1 : Int32))])
      exact own_retZ X72 hx hrt hlk (hb hby at_215) (Or.inr rfl) ⟨rfl, N64⟩ (by decide) (by decide)
  · rw [q]
    show own_Fin _ _ _ _ _ _ _ T64 (mkF m 180 #[.val (.int p1), .val (.int p2), .val (.ref h0.size), .val (.ref hp49.size), .unset, .unset] [(.int (4 : Int32))])
    refine own_step (fun _ k => XS.istore X64.here hx rfl (hb hby at_180) rfl (l' := #[.val (.int p1), .val (.int p2), .val (.ref h0.size), .val (.ref hp49.size), .val (.int (4 : Int32)), .unset]) rfl k) ?_
    show own_Fin _ _ _ _ _ _ _ T64 (mkF m 182 #[.val (.int p1), .val (.int p2), .val (.ref h0.size), .val (.ref hp49.size), .val (.int (4 : Int32)), .unset] [])
    refine own_step (fun _ k => XS.iloadN X64.here hx rfl (hb hby at_182) rfl k) ?_
    show own_Fin _ _ _ _ _ _ _ T64 (mkF m 183 #[.val (.int p1), .val (.int p2), .val (.ref h0.size), .val (.ref hp49.size), .val (.int (4 : Int32)), .unset] [(.int p2)])
    refine own_step (fun _ k => XS.aloadN X64.here hx rfl (hb hby at_183) rfl rfl k) ?_
    show own_Fin _ _ _ _ _ _ _ T64 (mkF m 184 #[.val (.int p1), .val (.int p2), .val (.ref h0.size), .val (.ref hp49.size), .val (.int (4 : Int32)), .unset] [(.ref hp49.size), (.int p2)])
    refine own_step (fun _ k => XS.iload X64.here hx rfl (hb hby at_184) rfl k) ?_
    show own_Fin _ _ _ _ _ _ _ T64 (mkF m 186 #[.val (.int p1), .val (.int p2), .val (.ref h0.size), .val (.ref hp49.size), .val (.int (4 : Int32)), .unset] [(.int (4 : Int32)), (.ref hp49.size), (.int p2)])
    refine own_ild X64 hx hZ e64 A64 (v := (.int (6 : Int32))) 4 (by decide) (by decide) (by rw [z64]; rfl) (hb hby at_186) ?_
    show own_Fin _ _ _ _ _ _ _ T64 (mkF m 187 #[.val (.int p1), .val (.int p2), .val (.ref h0.size), .val (.ref hp49.size), .val (.int (4 : Int32)), .unset] [(.int (6 : Int32)), (.int p2)])
    by_cases h187 : p2 < (6 : Int32)
    · skip
      refine own_step (fun _ k => XS.icmpYes X64.here hx rfl (pc0 := 187) (pc' := 194) rfl (hb hby at_187) rfl (XT.ii_lt_t h187) (by decide) (by decide) k) ?_
      show own_Fin _ _ _ _ _ _ _ T64 (mkF m 194 #[.val (.int p1), .val (.int p2), .val (.ref h0.size), .val (.ref hp49.size), .val (.int (4 : Int32)), .unset] [])
      refine own_step (fun _ k => XT.iconstV X64.here hx rfl (0 : Int32) (hb hby at_194) (by decide) k) ?_
      show own_Fin _ _ _ _ _ _ _ T64 (mkF m 195 #[.val (.int p1), .val (.int p2), .val (.ref h0.size), .val (.ref hp49.size), .val (.int (4 : Int32)), .unset] [(.int (0 : Int32))])
      refine own_step (fun _ k => XS.istore X64.here hx rfl (hb hby at_195) rfl (l' := #[.val (.int p1), .val (.int p2), .val (.ref h0.size), .val (.ref hp49.size), .val (.int (4 : Int32)), .val (.int (0 : Int32))]) rfl k) ?_
      show own_Fin _ _ _ _ _ _ _ T64 (mkF m 197 #[.val (.int p1), .val (.int p2), .val (.ref h0.size), .val (.ref hp49.size), .val (.int (4 : Int32)), .val (.int (0 : Int32))] [])
      refine own_step (fun _ k => XS.aloadN X64.here hx rfl (hb hby at_197) rfl rfl k) ?_
      show own_Fin _ _ _ _ _ _ _ T64 (mkF m 198 #[.val (.int p1), .val (.int p2), .val (.ref h0.size), .val (.ref hp49.size), .val (.int (4 : Int32)), .val (.int (0 : Int32))] [(.ref h0.size)])
      refine own_step (fun _ k => XS.iload X64.here hx rfl (hb hby at_198) rfl k) ?_
      show own_Fin _ _ _ _ _ _ _ T64 (mkF m 200 #[.val (.int p1), .val (.int p2), .val (.ref h0.size), .val (.ref hp49.size), .val (.int (4 : Int32)), .val (.int (0 : Int32))] [(.int (4 : Int32)), (.ref h0.size)])
      refine own_ald X64 hx hZ e64 A49 rfl (v := (.ref s4)) 4 (by decide) (by decide) (by rw [z49]; rfl) (hb hby at_200) ?_
      show own_Fin _ _ _ _ _ _ _ T64 (mkF m 201 #[.val (.int p1), .val (.int p2), .val (.ref h0.size), .val (.ref hp49.size), .val (.int (4 : Int32)), .val (.int (0 : Int32))] [(.ref s4)])
      refine own_step (fun _ k => XS.iloadN X64.here hx rfl (hb hby at_201) rfl k) ?_
      show own_Fin _ _ _ _ _ _ _ T64 (mkF m 202 #[.val (.int p1), .val (.int p2), .val (.ref h0.size), .val (.ref hp49.size), .val (.int (4 : Int32)), .val (.int (0 : Int32))] [(.int p2), (.ref s4)])
      have M := rm1 l Z a0 hw hp64 s4 p2 6 (F4.ext E64)
      rw [if_pos h187] at M
      refine own_callV0 X64 hx hZ (argsL := [(.int p2)]) (rest := []) hown (hw _ (List.mem_of_getElem? (i := 34) rfl)) (hw _ (List.mem_of_getElem? (i := 35) rfl)) (hw _ (List.mem_of_getElem? (i := 37) rfl)) (hw _ (List.mem_of_getElem? (i := 36) rfl)) (hw _ (List.mem_of_getElem? (i := 38) rfl)) (hw _ (List.mem_of_getElem? (i := 3) rfl)) (by decide) (E4.ext E64) M e64 0 (Nat.le_of_eq rfl) (by decide) (by decide) (by decide) (by decide) (by rw [hml]; rfl) pd__I_Z rfl rfl (hb hby at_202) ?_
      intro T73 X73 e73
      show own_Fin _ _ _ _ _ _ _ T73 (mkF m 205 #[.val (.int p1), .val (.int p2), .val (.ref h0.size), .val (.ref hp49.size), .val (.int (4 : Int32)), .val (.int (0 : Int32))] [(.int (0 : Int32))])
      refine own_step (fun _ k => XS.iload X73.here hx rfl (hb hby at_205) rfl k) ?_
      show own_Fin _ _ _ _ _ _ _ T73 (mkF m 207 #[.val (.int p1), .val (.int p2), .val (.ref h0.size), .val (.ref hp49.size), .val (.int (4 : Int32)), .val (.int (0 : Int32))] [(.int (0 : Int32)), (.int (0 : Int32))])
      refine own_step (fun _ k => XS.icmpNo X73.here hx rfl (hb hby at_207) rfl (XT.ii_ne_f (by decide)) k) ?_
      show own_Fin _ _ _ _ _ _ _ T73 (mkF m 210 #[.val (.int p1), .val (.int p2), .val (.ref h0.size), .val (.ref hp49.size), .val (.int (4 : Int32)), .val (.int (0 : Int32))] [])
      refine own_step (fun _ k => XT.iconstV X73.here hx rfl (1 : Int32) (hb hby at_210) (by decide) k) ?_
      show own_Fin _ _ _ _ _ _ _ T73 (mkF m 211 #[.val (.int p1), .val (.int p2), .val (.ref h0.size), .val (.ref hp49.size), .val (.int (4 : Int32)), .val (.int (0 : Int32))] [(.int (1 : Int32))])
      refine own_step (fun _ k => XS.goto X73.here hx rfl (pc0 := 211) (pc' := 215) rfl (hb hby at_211) (by decide) (by decide) k) ?_
      show own_Fin _ _ _ _ _ _ _ T73 (mkF m 215 #[.val (.int p1), .val (.int p2), .val (.ref h0.size), .val (.ref hp49.size), .val (.int (4 : Int32)), .val (.int (0 : Int32))] [(.int (1 : Int32))])
      exact own_retZ X73 hx hrt hlk (hb hby at_215) (Or.inr rfl) ⟨rfl, N64⟩ (by decide) (by decide)
    · skip
      refine own_step (fun _ k => XS.icmpNo X64.here hx rfl (hb hby at_187) rfl (XT.ii_lt_f h187) k) ?_
      show own_Fin _ _ _ _ _ _ _ T64 (mkF m 190 #[.val (.int p1), .val (.int p2), .val (.ref h0.size), .val (.ref hp49.size), .val (.int (4 : Int32)), .unset] [])
      refine own_step (fun _ k => XT.iconstV X64.here hx rfl (1 : Int32) (hb hby at_190) (by decide) k) ?_
      show own_Fin _ _ _ _ _ _ _ T64 (mkF m 191 #[.val (.int p1), .val (.int p2), .val (.ref h0.size), .val (.ref hp49.size), .val (.int (4 : Int32)), .unset] [(.int (1 : Int32))])
      refine own_step (fun _ k => XS.goto X64.here hx rfl (pc0 := 191) (pc' := 195) rfl (hb hby at_191) (by decide) (by decide) k) ?_
      show own_Fin _ _ _ _ _ _ _ T64 (mkF m 195 #[.val (.int p1), .val (.int p2), .val (.ref h0.size), .val (.ref hp49.size), .val (.int (4 : Int32)), .unset] [(.int (1 : Int32))])
      refine own_step (fun _ k => XS.istore X64.here hx rfl (hb hby at_195) rfl (l' := #[.val (.int p1), .val (.int p2), .val (.ref h0.size), .val (.ref hp49.size), .val (.int (4 : Int32)), .val (.int (1 : Int32))]) rfl k) ?_
      show own_Fin _ _ _ _ _ _ _ T64 (mkF m 197 #[.val (.int p1), .val (.int p2), .val (.ref h0.size), .val (.ref hp49.size), .val (.int (4 : Int32)), .val (.int (1 : Int32))] [])
      refine own_step (fun _ k => XS.aloadN X64.here hx rfl (hb hby at_197) rfl rfl k) ?_
      show own_Fin _ _ _ _ _ _ _ T64 (mkF m 198 #[.val (.int p1), .val (.int p2), .val (.ref h0.size), .val (.ref hp49.size), .val (.int (4 : Int32)), .val (.int (1 : Int32))] [(.ref h0.size)])
      refine own_step (fun _ k => XS.iload X64.here hx rfl (hb hby at_198) rfl k) ?_
      show own_Fin _ _ _ _ _ _ _ T64 (mkF m 200 #[.val (.int p1), .val (.int p2), .val (.ref h0.size), .val (.ref hp49.size), .val (.int (4 : Int32)), .val (.int (1 : Int32))] [(.int (4 : Int32)), (.ref h0.size)])
      refine own_ald X64 hx hZ e64 A49 rfl (v := (.ref s4)) 4 (by decide) (by decide) (by rw [z49]; rfl) (hb hby at_200) ?_
      show own_Fin _ _ _ _ _ _ _ T64 (mkF m 201 #[.val (.int p1), .val (.int p2), .val (.ref h0.size), .val (.ref hp49.size), .val (.int (4 : Int32)), .val (.int (1 : Int32))] [(.ref s4)])
      refine own_step (fun _ k => XS.iloadN X64.here hx rfl (hb hby at_201) rfl k) ?_
      show own_Fin _ _ _ _ _ _ _ T64 (mkF m 202 #[.val (.int p1), .val (.int p2), .val (.ref h0.size), .val (.ref hp49.size), .val (.int (4 : Int32)), .val (.int (1 : Int32))] [(.int p2), (.ref s4)])
      have M := rm1 l Z a0 hw hp64 s4 p2 6 (F4.ext E64)
      rw [if_neg h187] at M
      refine own_callV0 X64 hx hZ (argsL := [(.int p2)]) (rest := []) hown (hw _ (List.mem_of_getElem? (i := 34) rfl)) (hw _ (List.mem_of_getElem? (i := 35) rfl)) (hw _ (List.mem_of_getElem? (i := 37) rfl)) (hw _ (List.mem_of_getElem? (i := 36) rfl)) (hw _ (List.mem_of_getElem? (i := 38) rfl)) (hw _ (List.mem_of_getElem? (i := 3) rfl)) (by decide) (E4.ext E64) M e64 0 (Nat.le_of_eq rfl) (by decide) (by decide) (by decide) (by decide) (by rw [hml]; rfl) pd__I_Z rfl rfl (hb hby at_202) ?_
      intro T74 X74 e74
      show own_Fin _ _ _ _ _ _ _ T74 (mkF m 205 #[.val (.int p1), .val (.int p2), .val (.ref h0.size), .val (.ref hp49.size), .val (.int (4 : Int32)), .val (.int (1 : Int32))] [(.int (1 : Int32))])
      refine own_step (fun _ k => XS.iload X74.here hx rfl (hb hby at_205) rfl k) ?_
      show own_Fin _ _ _ _ _ _ _ T74 (mkF m 207 #[.val (.int p1), .val (.int p2), .val (.ref h0.size), .val (.ref hp49.size), .val (.int (4 : Int32)), .val (.int (1 : Int32))] [(.int (1 : Int32)), (.int (1 : Int32))])
      refine own_step (fun _ k => XS.icmpNo X74.here hx rfl (hb hby at_207) rfl (XT.ii_ne_f (by decide)) k) ?_
      show own_Fin _ _ _ _ _ _ _ T74 (mkF m 210 #[.val (.int p1), .val (.int p2), .val (.ref h0.size), .val (.ref hp49.size), .val (.int (4 : Int32)), .val (.int (1 : Int32))] [])
      refine own_step (fun _ k => XT.iconstV X74.here hx rfl (1 : Int32) (hb hby at_210) (by decide) k) ?_
      show own_Fin _ _ _ _ _ _ _ T74 (mkF m 211 #[.val (.int p1), .val (.int p2), .val (.ref h0.size), .val (.ref hp49.size), .val (.int (4 : Int32)), .val (.int (1 : Int32))] [(.int (1 : Int32))])
      refine own_step (fun _ k => XS.goto X74.here hx rfl (pc0 := 211) (pc' := 215) rfl (hb hby at_211) (by decide) (by decide) k) ?_
      show own_Fin _ _ _ _ _ _ _ T74 (mkF m 215 #[.val (.int p1), .val (.int p2), .val (.ref h0.size), .val (.ref hp49.size), .val (.int (4 : Int32)), .val (.int (1 : Int32))] [(.int (1 : Int32))])
      exact own_retZ X74 hx hrt hlk (hb hby at_215) (Or.inr rfl) ⟨rfl, N64⟩ (by decide) (by decide)
  · rw [q]
    show own_Fin _ _ _ _ _ _ _ T64 (mkF m 180 #[.val (.int p1), .val (.int p2), .val (.ref h0.size), .val (.ref hp49.size), .unset, .unset] [(.int (5 : Int32))])
    refine own_step (fun _ k => XS.istore X64.here hx rfl (hb hby at_180) rfl (l' := #[.val (.int p1), .val (.int p2), .val (.ref h0.size), .val (.ref hp49.size), .val (.int (5 : Int32)), .unset]) rfl k) ?_
    show own_Fin _ _ _ _ _ _ _ T64 (mkF m 182 #[.val (.int p1), .val (.int p2), .val (.ref h0.size), .val (.ref hp49.size), .val (.int (5 : Int32)), .unset] [])
    refine own_step (fun _ k => XS.iloadN X64.here hx rfl (hb hby at_182) rfl k) ?_
    show own_Fin _ _ _ _ _ _ _ T64 (mkF m 183 #[.val (.int p1), .val (.int p2), .val (.ref h0.size), .val (.ref hp49.size), .val (.int (5 : Int32)), .unset] [(.int p2)])
    refine own_step (fun _ k => XS.aloadN X64.here hx rfl (hb hby at_183) rfl rfl k) ?_
    show own_Fin _ _ _ _ _ _ _ T64 (mkF m 184 #[.val (.int p1), .val (.int p2), .val (.ref h0.size), .val (.ref hp49.size), .val (.int (5 : Int32)), .unset] [(.ref hp49.size), (.int p2)])
    refine own_step (fun _ k => XS.iload X64.here hx rfl (hb hby at_184) rfl k) ?_
    show own_Fin _ _ _ _ _ _ _ T64 (mkF m 186 #[.val (.int p1), .val (.int p2), .val (.ref h0.size), .val (.ref hp49.size), .val (.int (5 : Int32)), .unset] [(.int (5 : Int32)), (.ref hp49.size), (.int p2)])
    refine own_ild X64 hx hZ e64 A64 (v := (.int (3 : Int32))) 5 (by decide) (by decide) (by rw [z64]; rfl) (hb hby at_186) ?_
    show own_Fin _ _ _ _ _ _ _ T64 (mkF m 187 #[.val (.int p1), .val (.int p2), .val (.ref h0.size), .val (.ref hp49.size), .val (.int (5 : Int32)), .unset] [(.int (3 : Int32)), (.int p2)])
    by_cases h187 : p2 < (3 : Int32)
    · skip
      refine own_step (fun _ k => XS.icmpYes X64.here hx rfl (pc0 := 187) (pc' := 194) rfl (hb hby at_187) rfl (XT.ii_lt_t h187) (by decide) (by decide) k) ?_
      show own_Fin _ _ _ _ _ _ _ T64 (mkF m 194 #[.val (.int p1), .val (.int p2), .val (.ref h0.size), .val (.ref hp49.size), .val (.int (5 : Int32)), .unset] [])
      refine own_step (fun _ k => XT.iconstV X64.here hx rfl (0 : Int32) (hb hby at_194) (by decide) k) ?_
      show own_Fin _ _ _ _ _ _ _ T64 (mkF m 195 #[.val (.int p1), .val (.int p2), .val (.ref h0.size), .val (.ref hp49.size), .val (.int (5 : Int32)), .unset] [(.int (0 : Int32))])
      refine own_step (fun _ k => XS.istore X64.here hx rfl (hb hby at_195) rfl (l' := #[.val (.int p1), .val (.int p2), .val (.ref h0.size), .val (.ref hp49.size), .val (.int (5 : Int32)), .val (.int (0 : Int32))]) rfl k) ?_
      show own_Fin _ _ _ _ _ _ _ T64 (mkF m 197 #[.val (.int p1), .val (.int p2), .val (.ref h0.size), .val (.ref hp49.size), .val (.int (5 : Int32)), .val (.int (0 : Int32))] [])
      refine own_step (fun _ k => XS.aloadN X64.here hx rfl (hb hby at_197) rfl rfl k) ?_
      show own_Fin _ _ _ _ _ _ _ T64 (mkF m 198 #[.val (.int p1), .val (.int p2), .val (.ref h0.size), .val (.ref hp49.size), .val (.int (5 : Int32)), .val (.int (0 : Int32))] [(.ref h0.size)])
      refine own_step (fun _ k => XS.iload X64.here hx rfl (hb hby at_198) rfl k) ?_
      show own_Fin _ _ _ _ _ _ _ T64 (mkF m 200 #[.val (.int p1), .val (.int p2), .val (.ref h0.size), .val (.ref hp49.size), .val (.int (5 : Int32)), .val (.int (0 : Int32))] [(.int (5 : Int32)), (.ref h0.size)])
      refine own_ald X64 hx hZ e64 A49 rfl (v := (.ref s5)) 5 (by decide) (by decide) (by rw [z49]; rfl) (hb hby at_200) ?_
      show own_Fin _ _ _ _ _ _ _ T64 (mkF m 201 #[.val (.int p1), .val (.int p2), .val (.ref h0.size), .val (.ref hp49.size), .val (.int (5 : Int32)), .val (.int (0 : Int32))] [(.ref s5)])
      refine own_step (fun _ k => XS.iloadN X64.here hx rfl (hb hby at_201) rfl k) ?_
      show own_Fin _ _ _ _ _ _ _ T64 (mkF m 202 #[.val (.int p1), .val (.int p2), .val (.ref h0.size), .val (.ref hp49.size), .val (.int (5 : Int32)), .val (.int (0 : Int32))] [(.int p2), (.ref s5)])
      have M := rm1 l Z a0 hw hp64 s5 p2 3 (F5.ext E64)
      rw [if_pos h187] at M
      refine own_callV0 X64 hx hZ (argsL := [(.int p2)]) (rest := []) hown (hw _ (List.mem_of_getElem? (i := 34) rfl)) (hw _ (List.mem_of_getElem? (i := 35) rfl)) (hw _ (List.mem_of_getElem? (i := 37) rfl)) (hw _ (List.mem_of_getElem? (i := 36) rfl)) (hw _ (List.mem_of_getElem? (i := 38) rfl)) (hw _ (List.mem_of_getElem? (i := 3) rfl)) (by decide) (E5.ext E64) M e64 0 (Nat.le_of_eq rfl) (by decide) (by decide) (by decide) (by decide) (by rw [hml]; rfl) pd__I_Z rfl rfl (hb hby at_202) ?_
      intro T75 X75 e75
      show own_Fin _ _ _ _ _ _ _ T75 (mkF m 205 #[.val (.int p1), .val (.int p2), .val (.ref h0.size), .val (.ref hp49.size), .val (.int (5 : Int32)), .val (.int (0 : Int32))] [(.int (0 : Int32))])
      refine own_step (fun _ k => XS.iload X75.here hx rfl (hb hby at_205) rfl k) ?_
      show own_Fin _ _ _ _ _ _ _ T75 (mkF m 207 #[.val (.int p1), .val (.int p2), .val (.ref h0.size), .val (.ref hp49.size), .val (.int (5 : Int32)), .val (.int (0 : Int32))] [(.int (0 : Int32)), (.int (0 : Int32))])
      refine own_step (fun _ k => XS.icmpNo X75.here hx rfl (hb hby at_207) rfl (XT.ii_ne_f (by decide)) k) ?_
      show own_Fin _ _ _ _ _ _ _ T75 (mkF m 210 #[.val (.int p1), .val (.int p2), .val (.ref h0.size), .val (.ref hp49.size), .val (.int (5 : Int32)), .val (.int (0 : Int32))] [])
      refine own_step (fun _ k => XT.iconstV X75.here hx rfl (1 : Int32) (hb hby at_210) (by decide) k) ?_
      show own_Fin _ _ _ _ _ _ _ T75 (mkF m 211 #[.val (.int p1), .val (.int p2), .val (.ref h0.size), .val (.ref hp49.size), .val (.int (5 : Int32)), .val (.int (0 : Int32))] [(.int (1 : Int32))])
      refine own_step (fun _ k => XS.goto X75.here hx rfl (pc0 := 211) (pc' := 215) rfl (hb hby at_211) (by decide) (by decide) k) ?_
      show own_Fin _ _ _ _ _ _ _ T75 (mkF m 215 #[.val (.int p1), .val (.int p2), .val (.ref h0.size), .val (.ref hp49.size), .val (.int (5 : Int32)), .val (.int (0 : Int32))] [(.int (1 : Int32))])
      exact own_retZ X75 hx hrt hlk (hb hby at_215) (Or.inr rfl) ⟨rfl, N64⟩ (by decide) (by decide)
    · skip
      refine own_step (fun _ k => XS.icmpNo X64.here hx rfl (hb hby at_187) rfl (XT.ii_lt_f h187) k) ?_
      show own_Fin _ _ _ _ _ _ _ T64 (mkF m 190 #[.val (.int p1), .val (.int p2), .val (.ref h0.size), .val (.ref hp49.size), .val (.int (5 : Int32)), .unset] [])
      refine own_step (fun _ k => XT.iconstV X64.here hx rfl (1 : Int32) (hb hby at_190) (by decide) k) ?_
      show own_Fin _ _ _ _ _ _ _ T64 (mkF m 191 #[.val (.int p1), .val (.int p2), .val (.ref h0.size), .val (.ref hp49.size), .val (.int (5 : Int32)), .unset] [(.int (1 : Int32))])
      refine own_step (fun _ k => XS.goto X64.here hx rfl (pc0 := 191) (pc' := 195) rfl (hb hby at_191) (by decide) (by decide) k) ?_
      show own_Fin _ _ _ _ _ _ _ T64 (mkF m 195 #[.val (.int p1), .val (.int p2), .val (.ref h0.size), .val (.ref hp49.size), .val (.int (5 : Int32)), .unset] [(.int (1 : Int32))])
      refine own_step (fun _ k => XS.istore X64.here hx rfl (hb hby at_195) rfl (l' := #[.val (.int p1), .val (.int p2), .val (.ref h0.size), .val (.ref hp49.size), .val (.int (5 : Int32)), .val (.int (1 : Int32))]) rfl k) ?_
      show own_Fin _ _ _ _ _ _ _ T64 (mkF m 197 #[.val (.int p1), .val (.int p2), .val (.ref h0.size), .val (.ref hp49.size), .val (.int (5 : Int32)), .val (.int (1 : Int32))] [])
      refine own_step (fun _ k => XS.aloadN X64.here hx rfl (hb hby at_197) rfl rfl k) ?_
      show own_Fin _ _ _ _ _ _ _ T64 (mkF m 198 #[.val (.int p1), .val (.int p2), .val (.ref h0.size), .val (.ref hp49.size), .val (.int (5 : Int32)), .val (.int (1 : Int32))] [(.ref h0.size)])
      refine own_step (fun _ k => XS.iload X64.here hx rfl (hb hby at_198) rfl k) ?_
      show own_Fin _ _ _ _ _ _ _ T64 (mkF m 200 #[.val (.int p1), .val (.int p2), .val (.ref h0.size), .val (.ref hp49.size), .val (.int (5 : Int32)), .val (.int (1 : Int32))] [(.int (5 : Int32)), (.ref h0.size)])
      refine own_ald X64 hx hZ e64 A49 rfl (v := (.ref s5)) 5 (by decide) (by decide) (by rw [z49]; rfl) (hb hby at_200) ?_
      show own_Fin _ _ _ _ _ _ _ T64 (mkF m 201 #[.val (.int p1), .val (.int p2), .val (.ref h0.size), .val (.ref hp49.size), .val (.int (5 : Int32)), .val (.int (1 : Int32))] [(.ref s5)])
      refine own_step (fun _ k => XS.iloadN X64.here hx rfl (hb hby at_201) rfl k) ?_
      show own_Fin _ _ _ _ _ _ _ T64 (mkF m 202 #[.val (.int p1), .val (.int p2), .val (.ref h0.size), .val (.ref hp49.size), .val (.int (5 : Int32)), .val (.int (1 : Int32))] [(.int p2), (.ref s5)])
      have M := rm1 l Z a0 hw hp64 s5 p2 3 (F5.ext E64)
      rw [if_neg h187] at M
      refine own_callV0 X64 hx hZ (argsL := [(.int p2)]) (rest := []) hown (hw _ (List.mem_of_getElem? (i := 34) rfl)) (hw _ (List.mem_of_getElem? (i := 35) rfl)) (hw _ (List.mem_of_getElem? (i := 37) rfl)) (hw _ (List.mem_of_getElem? (i := 36) rfl)) (hw _ (List.mem_of_getElem? (i := 38) rfl)) (hw _ (List.mem_of_getElem? (i := 3) rfl)) (by decide) (E5.ext E64) M e64 0 (Nat.le_of_eq rfl) (by decide) (by decide) (by decide) (by decide) (by rw [hml]; rfl) pd__I_Z rfl rfl (hb hby at_202) ?_
      intro T76 X76 e76
      show own_Fin _ _ _ _ _ _ _ T76 (mkF m 205 #[.val (.int p1), .val (.int p2), .val (.ref h0.size), .val (.ref hp49.size), .val (.int (5 : Int32)), .val (.int (1 : Int32))] [(.int (1 : Int32))])
      refine own_step (fun _ k => XS.iload X76.here hx rfl (hb hby at_205) rfl k) ?_
      show own_Fin _ _ _ _ _ _ _ T76 (mkF m 207 #[.val (.int p1), .val (.int p2), .val (.ref h0.size), .val (.ref hp49.size), .val (.int (5 : Int32)), .val (.int (1 : Int32))] [(.int (1 : Int32)), (.int (1 : Int32))])
      refine own_step (fun _ k => XS.icmpNo X76.here hx rfl (hb hby at_207) rfl (XT.ii_ne_f (by decide)) k) ?_
      show own_Fin _ _ _ _ _ _ _ T76 (mkF m 210 #[.val (.int p1), .val (.int p2), .val (.ref h0.size), .val (.ref hp49.size), .val (.int (5 : Int32)), .val (.int (1 : Int32))] [])
      refine own_step (fun _ k => XT.iconstV X76.here hx rfl (1 : Int32) (hb hby at_210) (by decide) k) ?_
      show own_Fin _ _ _ _ _ _ _ T76 (mkF m 211 #[.val (.int p1), .val (.int p2), .val (.ref h0.size), .val (.ref hp49.size), .val (.int (5 : Int32)), .val (.int (1 : Int32))] [(.int (1 : Int32))])
      refine own_step (fun _ k => XS.goto X76.here hx rfl (pc0 := 211) (pc' := 215) rfl (hb hby at_211) (by decide) (by decide) k) ?_
      show own_Fin _ _ _ _ _ _ _ T76 (mkF m 215 #[.val (.int p1), .val (.int p2), .val (.ref h0.size), .val (.ref hp49.size), .val (.int (5 : Int32)), .val (.int (1 : Int32))] [(.int (1 : Int32))])
      exact own_retZ X76 hx hrt hlk (hb hby at_215) (Or.inr rfl) ⟨rfl, N64⟩ (by decide) (by decide)
  · rw [q]
    show own_Fin _ _ _ _ _ _ _ T64 (mkF m 180 #[.val (.int p1), .val (.int p2), .val (.ref h0.size), .val (.ref hp49.size), .unset, .unset] [(.int (6 : Int32))])
    refine own_step (fun _ k => XS.istore X64.here hx rfl (hb hby at_180) rfl (l' := #[.val (.int p1), .val (.int p2), .val (.ref h0.size), .val (.ref hp49.size), .val (.int (6 : Int32)), .unset]) rfl k) ?_
    show own_Fin _ _ _ _ _ _ _ T64 (mkF m 182 #[.val (.int p1), .val (.int p2), .val (.ref h0.size), .val (.ref hp49.size), .val (.int (6 : Int32)), .unset] [])
    refine own_step (fun _ k => XS.iloadN X64.here hx rfl (hb hby at_182) rfl k) ?_
    show own_Fin _ _ _ _ _ _ _ T64 (mkF m 183 #[.val (.int p1), .val (.int p2), .val (.ref h0.size), .val (.ref hp49.size), .val (.int (6 : Int32)), .unset] [(.int p2)])
    refine own_step (fun _ k => XS.aloadN X64.here hx rfl (hb hby at_183) rfl rfl k) ?_
    show own_Fin _ _ _ _ _ _ _ T64 (mkF m 184 #[.val (.int p1), .val (.int p2), .val (.ref h0.size), .val (.ref hp49.size), .val (.int (6 : Int32)), .unset] [(.ref hp49.size), (.int p2)])
    refine own_step (fun _ k => XS.iload X64.here hx rfl (hb hby at_184) rfl k) ?_
    show own_Fin _ _ _ _ _ _ _ T64 (mkF m 186 #[.val (.int p1), .val (.int p2), .val (.ref h0.size), .val (.ref hp49.size), .val (.int (6 : Int32)), .unset] [(.int (6 : Int32)), (.ref hp49.size), (.int p2)])
    refine own_ild X64 hx hZ e64 A64 (v := (.int (6 : Int32))) 6 (by decide) (by decide) (by rw [z64]; rfl) (hb hby at_186) ?_
    show own_Fin _ _ _ _ _ _ _ T64 (mkF m 187 #[.val (.int p1), .val (.int p2), .val (.ref h0.size), .val (.ref hp49.size), .val (.int (6 : Int32)), .unset] [(.int (6 : Int32)), (.int p2)])
    by_cases h187 : p2 < (6 : Int32)
    · skip
      refine own_step (fun _ k => XS.icmpYes X64.here hx rfl (pc0 := 187) (pc' := 194) rfl (hb hby at_187) rfl (XT.ii_lt_t h187) (by decide) (by decide) k) ?_
      show own_Fin _ _ _ _ _ _ _ T64 (mkF m 194 #[.val (.int p1), .val (.int p2), .val (.ref h0.size), .val (.ref hp49.size), .val (.int (6 : Int32)), .unset] [])
      refine own_step (fun _ k => XT.iconstV X64.here hx rfl (0 : Int32) (hb hby at_194) (by decide) k) ?_
      show own_Fin _ _ _ _ _ _ _ T64 (mkF m 195 #[.val (.int p1), .val (.int p2), .val (.ref h0.size), .val (.ref hp49.size), .val (.int (6 : Int32)), .unset] [(.int (0 : Int32))])
      refine own_step (fun _ k => XS.istore X64.here hx rfl (hb hby at_195) rfl (l' := #[.val (.int p1), .val (.int p2), .val (.ref h0.size), .val (.ref hp49.size), .val (.int (6 : Int32)), .val (.int (0 : Int32))]) rfl k) ?_
      show own_Fin _ _ _ _ _ _ _ T64 (mkF m 197 #[.val (.int p1), .val (.int p2), .val (.ref h0.size), .val (.ref hp49.size), .val (.int (6 : Int32)), .val (.int (0 : Int32))] [])
      refine own_step (fun _ k => XS.aloadN X64.here hx rfl (hb hby at_197) rfl rfl k) ?_
      show own_Fin _ _ _ _ _ _ _ T64 (mkF m 198 #[.val (.int p1), .val (.int p2), .val (.ref h0.size), .val (.ref hp49.size), .val (.int (6 : Int32)), .val (.int (0 : Int32))] [(.ref h0.size)])
      refine own_step (fun _ k => XS.iload X64.here hx rfl (hb hby at_198) rfl k) ?_
      show own_Fin _ _ _ _ _ _ _ T64 (mkF m 200 #[.val (.int p1), .val (.int p2), .val (.ref h0.size), .val (.ref hp49.size), .val (.int (6 : Int32)), .val (.int (0 : Int32))] [(.int (6 : Int32)), (.ref h0.size)])
      refine own_ald X64 hx hZ e64 A49 rfl (v := (.ref s6)) 6 (by decide) (by decide) (by rw [z49]; rfl) (hb hby at_200) ?_
      show own_Fin _ _ _ _ _ _ _ T64 (mkF m 201 #[.val (.int p1), .val (.int p2), .val (.ref h0.size), .val (.ref hp49.size), .val (.int (6 : Int32)), .val (.int (0 : Int32))] [(.ref s6)])
      refine own_step (fun _ k => XS.iloadN X64.here hx rfl (hb hby at_201) rfl k) ?_
      show own_Fin _ _ _ _ _ _ _ T64 (mkF m 202 #[.val (.int p1), .val (.int p2), .val (.ref h0.size), .val (.ref hp49.size), .val (.int (6 : Int32)), .val (.int (0 : Int32))] [(.int p2), (.ref s6)])
      have M := rm1 l Z a0 hw hp64 s6 p2 6 (F6.ext E64)
      rw [if_pos h187] at M
      refine own_callV0 X64 hx hZ (argsL := [(.int p2)]) (rest := []) hown (hw _ (List.mem_of_getElem? (i := 34) rfl)) (hw _ (List.mem_of_getElem? (i := 35) rfl)) (hw _ (List.mem_of_getElem? (i := 37) rfl)) (hw _ (List.mem_of_getElem? (i := 36) rfl)) (hw _ (List.mem_of_getElem? (i := 38) rfl)) (hw _ (List.mem_of_getElem? (i := 3) rfl)) (by decide) (E6.ext E64) M e64 0 (Nat.le_of_eq rfl) (by decide) (by decide) (by decide) (by decide) (by rw [hml]; rfl) pd__I_Z rfl rfl (hb hby at_202) ?_
      intro T77 X77 e77
      show own_Fin _ _ _ _ _ _ _ T77 (mkF m 205 #[.val (.int p1), .val (.int p2), .val (.ref h0.size), .val (.ref hp49.size), .val (.int (6 : Int32)), .val (.int (0 : Int32))] [(.int (0 : Int32))])
      refine own_step (fun _ k => XS.iload X77.here hx rfl (hb hby at_205) rfl k) ?_
      show own_Fin _ _ _ _ _ _ _ T77 (mkF m 207 #[.val (.int p1), .val (.int p2), .val (.ref h0.size), .val (.ref hp49.size), .val (.int (6 : Int32)), .val (.int (0 : Int32))] [(.int (0 : Int32)), (.int (0 : Int32))])
      refine own_step (fun _ k => XS.icmpNo X77.here hx rfl (hb hby at_207) rfl (XT.ii_ne_f (by decide)) k) ?_
      show own_Fin _ _ _ _ _ _ _ T77 (mkF m 210 #[.val (.int p1), .val (.int p2), .val (.ref h0.size), .val (.ref hp49.size), .val (.int (6 : Int32)), .val (.int (0 : Int32))] [])
      refine own_step (fun _ k => XT.iconstV X77.here hx rfl (1 : Int32) (hb hby at_210) (by decide) k) ?_
      show own_Fin _ _ _ _ _ _ _ T77 (mkF m 211 #[.val (.int p1), .val (.int p2), .val (.ref h0.size), .val (.ref hp49.size), .val (.int (6 : Int32)), .val (.int (0 : Int32))] [(.int (1 : Int32))])
      refine own_step (fun _ k => XS.goto X77.here hx rfl (pc0 := 211) (pc' := 215) rfl (hb hby at_211) (by decide) (by decide) k) ?_
      show own_Fin _ _ _ _ _ _ _ T77 (mkF m 215 #[.val (.int p1), .val (.int p2), .val (.ref h0.size), .val (.ref hp49.size), .val (.int (6 : Int32)), .val (.int (0 : Int32))] [(.int (1 : Int32))])
      exact own_retZ X77 hx hrt hlk (hb hby at_215) (Or.inr rfl) ⟨rfl, N64⟩ (by decide) (by decide)
    · skip
      refine own_step (fun _ k => XS.icmpNo X64.here hx rfl (hb hby at_187) rfl (XT.ii_lt_f h187) k) ?_
      show own_Fin _ _ _ _ _ _ _ T64 (mkF m 190 #[.val (.int p1), .val (.int p2), .val (.ref h0.size), .val (.ref hp49.size), .val (.int (6 : Int32)), .unset] [])
      refine own_step (fun _ k => XT.iconstV X64.here hx rfl (1 : Int32) (hb hby at_190) (by decide) k) ?_
      show own_Fin _ _ _ _ _ _ _ T64 (mkF m 191 #[.val (.int p1), .val (.int p2), .val (.ref h0.size), .val (.ref hp49.size), .val (.int (6 : Int32)), .unset] [(.int (1 : Int32))])
      refine own_step (fun _ k => XS.goto X64.here hx rfl (pc0 := 191) (pc' := 195) rfl (hb hby at_191) (by decide) (by decide) k) ?_
      show own_Fin _ _ _ _ _ _ _ T64 (mkF m 195 #[.val (.int p1), .val (.int p2), .val (.ref h0.size), .val (.ref hp49.size), .val (.int (6 : Int32)), .unset] [(.int (1 : Int32))])
      refine own_step (fun _ k => XS.istore X64.here hx rfl (hb hby at_195) rfl (l' := #[.val (.int p1), .val (.int p2), .val (.ref h0.size), .val (.ref hp49.size), .val (.int (6 : Int32)), .val (.int (1 : Int32))]) rfl k) ?_
      show own_Fin _ _ _ _ _ _ _ T64 (mkF m 197 #[.val (.int p1), .val (.int p2), .val (.ref h0.size), .val (.ref hp49.size), .val (.int (6 : Int32)), .val (.int (1 : Int32))] [])
      refine own_step (fun _ k => XS.aloadN X64.here hx rfl (hb hby at_197) rfl rfl k) ?_
      show own_Fin _ _ _ _ _ _ _ T64 (mkF m 198 #[.val (.int p1), .val (.int p2), .val (.ref h0.size), .val (.ref hp49.size), .val (.int (6 : Int32)), .val (.int (1 : Int32))] [(.ref h0.size)])
      refine own_step (fun _ k => XS.iload X64.here hx rfl (hb hby at_198) rfl k) ?_
      show own_Fin _ _ _ _ _ _ _ T64 (mkF m 200 #[.val (.int p1), .val (.int p2), .val (.ref h0.size), .val (.ref hp49.size), .val (.int (6 : Int32)), .val (.int (1 : Int32))] [(.int (6 : Int32)), (.ref h0.size)])
      refine own_ald X64 hx hZ e64 A49 rfl (v := (.ref s6)) 6 (by decide) (by decide) (by rw [z49]; rfl) (hb hby at_200) ?_
      show own_Fin _ _ _ _ _ _ _ T64 (mkF m 201 #[.val (.int p1), .val (.int p2), .val (.ref h0.size), .val (.ref hp49.size), .val (.int (6 : Int32)), .val (.int (1 : Int32))] [(.ref s6)])
      refine own_step (fun _ k => XS.iloadN X64.here hx rfl (hb hby at_201) rfl k) ?_
      show own_Fin _ _ _ _ _ _ _ T64 (mkF m 202 #[.val (.int p1), .val (.int p2), .val (.ref h0.size), .val (.ref hp49.size), .val (.int (6 : Int32)), .val (.int (1 : Int32))] [(.int p2), (.ref s6)])
      have M := rm1 l Z a0 hw hp64 s6 p2 6 (F6.ext E64)
      rw [if_neg h187] at M
      refine own_callV0 X64 hx hZ (argsL := [(.int p2)]) (rest := []) hown (hw _ (List.mem_of_getElem? (i := 34) rfl)) (hw _ (List.mem_of_getElem? (i := 35) rfl)) (hw _ (List.mem_of_getElem? (i := 37) rfl)) (hw _ (List.mem_of_getElem? (i := 36) rfl)) (hw _ (List.mem_of_getElem? (i := 38) rfl)) (hw _ (List.mem_of_getElem? (i := 3) rfl)) (by decide) (E6.ext E64) M e64 0 (Nat.le_of_eq rfl) (by decide) (by decide) (by decide) (by decide) (by rw [hml]; rfl) pd__I_Z rfl rfl (hb hby at_202) ?_
      intro T78 X78 e78
      show own_Fin _ _ _ _ _ _ _ T78 (mkF m 205 #[.val (.int p1), .val (.int p2), .val (.ref h0.size), .val (.ref hp49.size), .val (.int (6 : Int32)), .val (.int (1 : Int32))] [(.int (1 : Int32))])
      refine own_step (fun _ k => XS.iload X78.here hx rfl (hb hby at_205) rfl k) ?_
      show own_Fin _ _ _ _ _ _ _ T78 (mkF m 207 #[.val (.int p1), .val (.int p2), .val (.ref h0.size), .val (.ref hp49.size), .val (.int (6 : Int32)), .val (.int (1 : Int32))] [(.int (1 : Int32)), (.int (1 : Int32))])
      refine own_step (fun _ k => XS.icmpNo X78.here hx rfl (hb hby at_207) rfl (XT.ii_ne_f (by decide)) k) ?_
      show own_Fin _ _ _ _ _ _ _ T78 (mkF m 210 #[.val (.int p1), .val (.int p2), .val (.ref h0.size), .val (.ref hp49.size), .val (.int (6 : Int32)), .val (.int (1 : Int32))] [])
      refine own_step (fun _ k => XT.iconstV X78.here hx rfl (1 : Int32) (hb hby at_210) (by decide) k) ?_
      show own_Fin _ _ _ _ _ _ _ T78 (mkF m 211 #[.val (.int p1), .val (.int p2), .val (.ref h0.size), .val (.ref hp49.size), .val (.int (6 : Int32)), .val (.int (1 : Int32))] [(.int (1 : Int32))])
      refine own_step (fun _ k => XS.goto X78.here hx rfl (pc0 := 211) (pc' := 215) rfl (hb hby at_211) (by decide) (by decide) k) ?_
      show own_Fin _ _ _ _ _ _ _ T78 (mkF m 215 #[.val (.int p1), .val (.int p2), .val (.ref h0.size), .val (.ref hp49.size), .val (.int (6 : Int32)), .val (.int (1 : Int32))] [(.int (1 : Int32))])
      exact own_retZ X78 hx hrt hlk (hb hby at_215) (Or.inr rfl) ⟨rfl, N64⟩ (by decide) (by decide)
  · rw [q]
    show own_Fin _ _ _ _ _ _ _ T64 (mkF m 180 #[.val (.int p1), .val (.int p2), .val (.ref h0.size), .val (.ref hp49.size), .unset, .unset] [(.int (7 : Int32))])
    refine own_step (fun _ k => XS.istore X64.here hx rfl (hb hby at_180) rfl (l' := #[.val (.int p1), .val (.int p2), .val (.ref h0.size), .val (.ref hp49.size), .val (.int (7 : Int32)), .unset]) rfl k) ?_
    show own_Fin _ _ _ _ _ _ _ T64 (mkF m 182 #[.val (.int p1), .val (.int p2), .val (.ref h0.size), .val (.ref hp49.size), .val (.int (7 : Int32)), .unset] [])
    refine own_step (fun _ k => XS.iloadN X64.here hx rfl (hb hby at_182) rfl k) ?_
    show own_Fin _ _ _ _ _ _ _ T64 (mkF m 183 #[.val (.int p1), .val (.int p2), .val (.ref h0.size), .val (.ref hp49.size), .val (.int (7 : Int32)), .unset] [(.int p2)])
    refine own_step (fun _ k => XS.aloadN X64.here hx rfl (hb hby at_183) rfl rfl k) ?_
    show own_Fin _ _ _ _ _ _ _ T64 (mkF m 184 #[.val (.int p1), .val (.int p2), .val (.ref h0.size), .val (.ref hp49.size), .val (.int (7 : Int32)), .unset] [(.ref hp49.size), (.int p2)])
    refine own_step (fun _ k => XS.iload X64.here hx rfl (hb hby at_184) rfl k) ?_
    show own_Fin _ _ _ _ _ _ _ T64 (mkF m 186 #[.val (.int p1), .val (.int p2), .val (.ref h0.size), .val (.ref hp49.size), .val (.int (7 : Int32)), .unset] [(.int (7 : Int32)), (.ref hp49.size), (.int p2)])
    refine own_ild X64 hx hZ e64 A64 (v := (.int (4 : Int32))) 7 (by decide) (by decide) (by rw [z64]; rfl) (hb hby at_186) ?_
    show own_Fin _ _ _ _ _ _ _ T64 (mkF m 187 #[.val (.int p1), .val (.int p2), .val (.ref h0.size), .val (.ref hp49.size), .val (.int (7 : Int32)), .unset] [(.int (4 : Int32)), (.int p2)])
    by_cases h187 : p2 < (4 : Int32)
    · skip
      refine own_step (fun _ k => XS.icmpYes X64.here hx rfl (pc0 := 187) (pc' := 194) rfl (hb hby at_187) rfl (XT.ii_lt_t h187) (by decide) (by decide) k) ?_
      show own_Fin _ _ _ _ _ _ _ T64 (mkF m 194 #[.val (.int p1), .val (.int p2), .val (.ref h0.size), .val (.ref hp49.size), .val (.int (7 : Int32)), .unset] [])
      refine own_step (fun _ k => XT.iconstV X64.here hx rfl (0 : Int32) (hb hby at_194) (by decide) k) ?_
      show own_Fin _ _ _ _ _ _ _ T64 (mkF m 195 #[.val (.int p1), .val (.int p2), .val (.ref h0.size), .val (.ref hp49.size), .val (.int (7 : Int32)), .unset] [(.int (0 : Int32))])
      refine own_step (fun _ k => XS.istore X64.here hx rfl (hb hby at_195) rfl (l' := #[.val (.int p1), .val (.int p2), .val (.ref h0.size), .val (.ref hp49.size), .val (.int (7 : Int32)), .val (.int (0 : Int32))]) rfl k) ?_
      show own_Fin _ _ _ _ _ _ _ T64 (mkF m 197 #[.val (.int p1), .val (.int p2), .val (.ref h0.size), .val (.ref hp49.size), .val (.int (7 : Int32)), .val (.int (0 : Int32))] [])
      refine own_step (fun _ k => XS.aloadN X64.here hx rfl (hb hby at_197) rfl rfl k) ?_
      show own_Fin _ _ _ _ _ _ _ T64 (mkF m 198 #[.val (.int p1), .val (.int p2), .val (.ref h0.size), .val (.ref hp49.size), .val (.int (7 : Int32)), .val (.int (0 : Int32))] [(.ref h0.size)])
      refine own_step (fun _ k => XS.iload X64.here hx rfl (hb hby at_198) rfl k) ?_
      show own_Fin _ _ _ _ _ _ _ T64 (mkF m 200 #[.val (.int p1), .val (.int p2), .val (.ref h0.size), .val (.ref hp49.size), .val (.int (7 : Int32)), .val (.int (0 : Int32))] [(.int (7 : Int32)), (.ref h0.size)])
      refine own_ald X64 hx hZ e64 A49 rfl (v := (.ref s7)) 7 (by decide) (by decide) (by rw [z49]; rfl) (hb hby at_200) ?_
      show own_Fin _ _ _ _ _ _ _ T64 (mkF m 201 #[.val (.int p1), .val (.int p2), .val (.ref h0.size), .val (.ref hp49.size), .val (.int (7 : Int32)), .val (.int (0 : Int32))] [(.ref s7)])
      refine own_step (fun _ k => XS.iloadN X64.here hx rfl (hb hby at_201) rfl k) ?_
      show own_Fin _ _ _ _ _ _ _ T64 (mkF m 202 #[.val (.int p1), .val (.int p2), .val (.ref h0.size), .val (.ref hp49.size), .val (.int (7 : Int32)), .val (.int (0 : Int32))] [(.int p2), (.ref s7)])
      have M := rm1 l Z a0 hw hp64 s7 p2 4 (F7.ext E64)
      rw [if_pos h187] at M
      refine own_callV0 X64 hx hZ (argsL := [(.int p2)]) (rest := []) hown (hw _ (List.mem_of_getElem? (i := 34) rfl)) (hw _ (List.mem_of_getElem? (i := 35) rfl)) (hw _ (List.mem_of_getElem? (i := 37) rfl)) (hw _ (List.mem_of_getElem? (i := 36) rfl)) (hw _ (List.mem_of_getElem? (i := 38) rfl)) (hw _ (List.mem_of_getElem? (i := 3) rfl)) (by decide) (E7.ext E64) M e64 0 (Nat.le_of_eq rfl) (by decide) (by decide) (by decide) (by decide) (by rw [hml]; rfl) pd__I_Z rfl rfl (hb hby at_202) ?_
      intro T79 X79 e79
      show own_Fin _ _ _ _ _ _ _ T79 (mkF m 205 #[.val (.int p1), .val (.int p2), .val (.ref h0.size), .val (.ref hp49.size), .val (.int (7 : Int32)), .val (.int (0 : Int32))] [(.int (0 : Int32))])
      refine own_step (fun _ k => XS.iload X79.here hx rfl (hb hby at_205) rfl k) ?_
      show own_Fin _ _ _ _ _ _ _ T79 (mkF m 207 #[.val (.int p1), .val (.int p2), .val (.ref h0.size), .val (.ref hp49.size), .val (.int (7 : Int32)), .val (.int (0 : Int32))] [(.int (0 : Int32)), (.int (0 : Int32))])
      refine own_step (fun _ k => XS.icmpNo X79.here hx rfl (hb hby at_207) rfl (XT.ii_ne_f (by decide)) k) ?_
      show own_Fin _ _ _ _ _ _ _ T79 (mkF m 210 #[.val (.int p1), .val (.int p2), .val (.ref h0.size), .val (.ref hp49.size), .val (.int (7 : Int32)), .val (.int (0 : Int32))] [])
      refine own_step (fun _ k => XT.iconstV X79.here hx rfl (1 : Int32) (hb hby at_210) (by decide) k) ?_
      show own_Fin _ _ _ _ _ _ _ T79 (mkF m 211 #[.val (.int p1), .val (.int p2), .val (.ref h0.size), .val (.ref hp49.size), .val (.int (7 : Int32)), .val (.int (0 : Int32))] [(.int (1 : Int32))])
      refine own_step (fun _ k => XS.goto X79.here hx rfl (pc0 := 211) (pc' := 215) rfl (hb hby at_211) (by decide) (by decide) k) ?_
      show own_Fin _ _ _ _ _ _ _ T79 (mkF m 215 #[.val (.int p1), .val (.int p2), .val (.ref h0.size), .val (.ref hp49.size), .val (.int (7 : Int32)), .val (.int (0 : Int32))] [(.int (1 : Int32))])
      exact own_retZ X79 hx hrt hlk (hb hby at_215) (Or.inr rfl) ⟨rfl, N64⟩ (by decide) (by decide)
    · skip
      refine own_step (fun _ k => XS.icmpNo X64.here hx rfl (hb hby at_187) rfl (XT.ii_lt_f h187) k) ?_
      show own_Fin _ _ _ _ _ _ _ T64 (mkF m 190 #[.val (.int p1), .val (.int p2), .val (.ref h0.size), .val (.ref hp49.size), .val (.int (7 : Int32)), .unset] [])
      refine own_step (fun _ k => XT.iconstV X64.here hx rfl (1 : Int32) (hb hby at_190) (by decide) k) ?_
      show own_Fin _ _ _ _ _ _ _ T64 (mkF m 191 #[.val (.int p1), .val (.int p2), .val (.ref h0.size), .val (.ref hp49.size), .val (.int (7 : Int32)), .unset] [(.int (1 : Int32))])
      refine own_step (fun _ k => XS.goto X64.here hx rfl (pc0 := 191) (pc' := 195) rfl (hb hby at_191) (by decide) (by decide) k) ?_
      show own_Fin _ _ _ _ _ _ _ T64 (mkF m 195 #[.val (.int p1), .val (.int p2), .val (.ref h0.size), .val (.ref hp49.size), .val (.int (7 : Int32)), .unset] [(.int (1 : Int32))])
      refine own_step (fun _ k => XS.istore X64.here hx rfl (hb hby at_195) rfl (l' := #[.val (.int p1), .val (.int p2), .val (.ref h0.size), .val (.ref hp49.size), .val (.int (7 : Int32)), .val (.int (1 : Int32))]) rfl k) ?_
      show own_Fin _ _ _ _ _ _ _ T64 (mkF m 197 #[.val (.int p1), .val (.int p2), .val (.ref h0.size), .val (.ref hp49.size), .val (.int (7 : Int32)), .val (.int (1 : Int32))] [])
      refine own_step (fun _ k => XS.aloadN X64.here hx rfl (hb hby at_197) rfl rfl k) ?_
      show own_Fin _ _ _ _ _ _ _ T64 (mkF m 198 #[.val (.int p1), .val (.int p2), .val (.ref h0.size), .val (.ref hp49.size), .val (.int (7 : Int32)), .val (.int (1 : Int32))] [(.ref h0.size)])
      refine own_step (fun _ k => XS.iload X64.here hx rfl (hb hby at_198) rfl k) ?_
      show own_Fin _ _ _ _ _ _ _ T64 (mkF m 200 #[.val (.int p1), .val (.int p2), .val (.ref h0.size), .val (.ref hp49.size), .val (.int (7 : Int32)), .val (.int (1 : Int32))] [(.int (7 : Int32)), (.ref h0.size)])
      refine own_ald X64 hx hZ e64 A49 rfl (v := (.ref s7)) 7 (by decide) (by decide) (by rw [z49]; rfl) (hb hby at_200) ?_
      show own_Fin _ _ _ _ _ _ _ T64 (mkF m 201 #[.val (.int p1), .val (.int p2), .val (.ref h0.size), .val (.ref hp49.size), .val (.int (7 : Int32)), .val (.int (1 : Int32))] [(.ref s7)])
      refine own_step (fun _ k => XS.iloadN X64.here hx rfl (hb hby at_201) rfl k) ?_
      show own_Fin _ _ _ _ _ _ _ T64 (mkF m 202 #[.val (.int p1), .val (.int p2), .val (.ref h0.size), .val (.ref hp49.size), .val (.int (7 : Int32)), .val (.int (1 : Int32))] [(.int p2), (.ref s7)])
      have M := rm1 l Z a0 hw hp64 s7 p2 4 (F7.ext E64)
      rw [if_neg h187] at M
      refine own_callV0 X64 hx hZ (argsL := [(.int p2)]) (rest := []) hown (hw _ (List.mem_of_getElem? (i := 34) rfl)) (hw _ (List.mem_of_getElem? (i := 35) rfl)) (hw _ (List.mem_of_getElem? (i := 37) rfl)) (hw _ (List.mem_of_getElem? (i := 36) rfl)) (hw _ (List.mem_of_getElem? (i := 38) rfl)) (hw _ (List.mem_of_getElem? (i := 3) rfl)) (by decide) (E7.ext E64) M e64 0 (Nat.le_of_eq rfl) (by decide) (by decide) (by decide) (by decide) (by rw [hml]; rfl) pd__I_Z rfl rfl (hb hby at_202) ?_
      intro T80 X80 e80
      show own_Fin _ _ _ _ _ _ _ T80 (mkF m 205 #[.val (.int p1), .val (.int p2), .val (.ref h0.size), .val (.ref hp49.size), .val (.int (7 : Int32)), .val (.int (1 : Int32))] [(.int (1 : Int32))])
      refine own_step (fun _ k => XS.iload X80.here hx rfl (hb hby at_205) rfl k) ?_
      show own_Fin _ _ _ _ _ _ _ T80 (mkF m 207 #[.val (.int p1), .val (.int p2), .val (.ref h0.size), .val (.ref hp49.size), .val (.int (7 : Int32)), .val (.int (1 : Int32))] [(.int (1 : Int32)), (.int (1 : Int32))])
      refine own_step (fun _ k => XS.icmpNo X80.here hx rfl (hb hby at_207) rfl (XT.ii_ne_f (by decide)) k) ?_
      show own_Fin _ _ _ _ _ _ _ T80 (mkF m 210 #[.val (.int p1), .val (.int p2), .val (.ref h0.size), .val (.ref hp49.size), .val (.int (7 : Int32)), .val (.int (1 : Int32))] [])
      refine own_step (fun _ k => XT.iconstV X80.here hx rfl (1 : Int32) (hb hby at_210) (by decide) k) ?_
      show own_Fin _ _ _ _ _ _ _ T80 (mkF m 211 #[.val (.int p1), .val (.int p2), .val (.ref h0.size), .val (.ref hp49.size), .val (.int (7 : Int32)), .val (.int (1 : Int32))] [(.int (1 : Int32))])
      refine own_step (fun _ k => XS.goto X80.here hx rfl (pc0 := 211) (pc' := 215) rfl (hb hby at_211) (by decide) (by decide) k) ?_
      show own_Fin _ _ _ _ _ _ _ T80 (mkF m 215 #[.val (.int p1), .val (.int p2), .val (.ref h0.size), .val (.ref hp49.size), .val (.int (7 : Int32)), .val (.int (1 : Int32))] [(.int (1 : Int32))])
      exact own_retZ X80 hx hrt hlk (hb hby at_215) (Or.inr rfl) ⟨rfl, N64⟩ (by decide) (by decide)
  · rw [q]
    show own_Fin _ _ _ _ _ _ _ T64 (mkF m 180 #[.val (.int p1), .val (.int p2), .val (.ref h0.size), .val (.ref hp49.size), .unset, .unset] [(.int (8 : Int32))])
    refine own_step (fun _ k => XS.istore X64.here hx rfl (hb hby at_180) rfl (l' := #[.val (.int p1), .val (.int p2), .val (.ref h0.size), .val (.ref hp49.size), .val (.int (8 : Int32)), .unset]) rfl k) ?_
    show own_Fin _ _ _ _ _ _ _ T64 (mkF m 182 #[.val (.int p1), .val (.int p2), .val (.ref h0.size), .val (.ref hp49.size), .val (.int (8 : Int32)), .unset] [])
    refine own_step (fun _ k => XS.iloadN X64.here hx rfl (hb hby at_182) rfl k) ?_
    show own_Fin _ _ _ _ _ _ _ T64 (mkF m 183 #[.val (.int p1), .val (.int p2), .val (.ref h0.size), .val (.ref hp49.size), .val (.int (8 : Int32)), .unset] [(.int p2)])
    refine own_step (fun _ k => XS.aloadN X64.here hx rfl (hb hby at_183) rfl rfl k) ?_
    show own_Fin _ _ _ _ _ _ _ T64 (mkF m 184 #[.val (.int p1), .val (.int p2), .val (.ref h0.size), .val (.ref hp49.size), .val (.int (8 : Int32)), .unset] [(.ref hp49.size), (.int p2)])
    refine own_step (fun _ k => XS.iload X64.here hx rfl (hb hby at_184) rfl k) ?_
    show own_Fin _ _ _ _ _ _ _ T64 (mkF m 186 #[.val (.int p1), .val (.int p2), .val (.ref h0.size), .val (.ref hp49.size), .val (.int (8 : Int32)), .unset] [(.int (8 : Int32)), (.ref hp49.size), (.int p2)])
    refine own_ild X64 hx hZ e64 A64 (v := (.int (4 : Int32))) 8 (by decide) (by decide) (by rw [z64]; rfl) (hb hby at_186) ?_
    show own_Fin _ _ _ _ _ _ _ T64 (mkF m 187 #[.val (.int p1), .val (.int p2), .val (.ref h0.size), .val (.ref hp49.size), .val (.int (8 : Int32)), .unset] [(.int (4 : Int32)), (.int p2)])
    by_cases h187 : p2 < (4 : Int32)
    · skip
      refine own_step (fun _ k => XS.icmpYes X64.here hx rfl (pc0 := 187) (pc' := 194) rfl (hb hby at_187) rfl (XT.ii_lt_t h187) (by decide) (by decide) k) ?_
      show own_Fin _ _ _ _ _ _ _ T64 (mkF m 194 #[.val (.int p1), .val (.int p2), .val (.ref h0.size), .val (.ref hp49.size), .val (.int (8 : Int32)), .unset] [])
      refine own_step (fun _ k => XT.iconstV X64.here hx rfl (0 : Int32) (hb hby at_194) (by decide) k) ?_
      show own_Fin _ _ _ _ _ _ _ T64 (mkF m 195 #[.val (.int p1), .val (.int p2), .val (.ref h0.size), .val (.ref hp49.size), .val (.int (8 : Int32)), .unset] [(.int (0 : Int32))])
      refine own_step (fun _ k => XS.istore X64.here hx rfl (hb hby at_195) rfl (l' := #[.val (.int p1), .val (.int p2), .val (.ref h0.size), .val (.ref hp49.size), .val (.int (8 : Int32)), .val (.int (0 : Int32))]) rfl k) ?_
      show own_Fin _ _ _ _ _ _ _ T64 (mkF m 197 #[.val (.int p1), .val (.int p2), .val (.ref h0.size), .val (.ref hp49.size), .val (.int (8 : Int32)), .val (.int (0 : Int32))] [])
      refine own_step (fun _ k => XS.aloadN X64.here hx rfl (hb hby at_197) rfl rfl k) ?_
      show own_Fin _ _ _ _ _ _ _ T64 (mkF m 198 #[.val (.int p1), .val (.int p2), .val (.ref h0.size), .val (.ref hp49.size), .val (.int (8 : Int32)), .val (.int (0 : Int32))] [(.ref h0.size)])
      refine own_step (fun _ k => XS.iload X64.here hx rfl (hb hby at_198) rfl k) ?_
      show own_Fin _ _ _ _ _ _ _ T64 (mkF m 200 #[.val (.int p1), .val (.int p2), .val (.ref h0.size), .val (.ref hp49.size), .val (.int (8 : Int32)), .val (.int (0 : Int32))] [(.int (8 : Int32)), (.ref h0.size)])
      refine own_ald X64 hx hZ e64 A49 rfl (v := (.ref s8)) 8 (by decide) (by decide) (by rw [z49]; rfl) (hb hby at_200) ?_
      show own_Fin _ _ _ _ _ _ _ T64 (mkF m 201 #[.val (.int p1), .val (.int p2), .val (.ref h0.size), .val (.ref hp49.size), .val (.int (8 : Int32)), .val (.int (0 : Int32))] [(.ref s8)])
      refine own_step (fun _ k => XS.iloadN X64.here hx rfl (hb hby at_201) rfl k) ?_
      show own_Fin _ _ _ _ _ _ _ T64 (mkF m 202 #[.val (.int p1), .val (.int p2), .val (.ref h0.size), .val (.ref hp49.size), .val (.int (8 : Int32)), .val (.int (0 : Int32))] [(.int p2), (.ref s8)])
      have M := rm1 l Z a0 hw hp64 s8 p2 4 (F8.ext E64)
      rw [if_pos h187] at M
      refine own_callV0 X64 hx hZ (argsL := [(.int p2)]) (rest := []) hown (hw _ (List.mem_of_getElem? (i := 34) rfl)) (hw _ (List.mem_of_getElem? (i := 35) rfl)) (hw _ (List.mem_of_getElem? (i := 37) rfl)) (hw _ (List.mem_of_getElem? (i := 36) rfl)) (hw _ (List.mem_of_getElem? (i := 38) rfl)) (hw _ (List.mem_of_getElem? (i := 3) rfl)) (by decide) (E8.ext E64) M e64 0 (Nat.le_of_eq rfl) (by decide) (by decide) (by decide) (by decide) (by rw [hml]; rfl) pd__I_Z rfl rfl (hb hby at_202) ?_
      intro T81 X81 e81
      show own_Fin _ _ _ _ _ _ _ T81 (mkF m 205 #[.val (.int p1), .val (.int p2), .val (.ref h0.size), .val (.ref hp49.size), .val (.int (8 : Int32)), .val (.int (0 : Int32))] [(.int (0 : Int32))])
      refine own_step (fun _ k => XS.iload X81.here hx rfl (hb hby at_205) rfl k) ?_
      show own_Fin _ _ _ _ _ _ _ T81 (mkF m 207 #[.val (.int p1), .val (.int p2), .val (.ref h0.size), .val (.ref hp49.size), .val (.int (8 : Int32)), .val (.int (0 : Int32))] [(.int (0 : Int32)), (.int (0 : Int32))])
      refine own_step (fun _ k => XS.icmpNo X81.here hx rfl (hb hby at_207) rfl (XT.ii_ne_f (by decide)) k) ?_
      show own_Fin _ _ _ _ _ _ _ T81 (mkF m 210 #[.val (.int p1), .val (.int p2), .val (.ref h0.size), .val (.ref hp49.size), .val (.int (8 : Int32)), .val (.int (0 : Int32))] [])
      refine own_step (fun _ k => XT.iconstV X81.here hx rfl (1 : Int32) (hb hby at_210) (by decide) k) ?_
      show own_Fin _ _ _ _ _ _ _ T81 (mkF m 211 #[.val (.int p1), .val (.int p2), .val (.ref h0.size), .val (.ref hp49.size), .val (.int (8 : Int32)), .val (.int (0 : Int32))] [(.int (1 : Int32))])
      refine own_step (fun _ k => XS.goto X81.here hx rfl (pc0 := 211) (pc' := 215) rfl (hb hby at_211) (by decide) (by decide) k) ?_
      show own_Fin _ _ _ _ _ _ _ T81 (mkF m 215 #[.val (.int p1), .val (.int p2), .val (.ref h0.size), .val (.ref hp49.size), .val (.int (8 : Int32)), .val (.int (0 : Int32))] [(.int (1 : Int32))])
      exact own_retZ X81 hx hrt hlk (hb hby at_215) (Or.inr rfl) ⟨rfl, N64⟩ (by decide) (by decide)
    · skip
      refine own_step (fun _ k => XS.icmpNo X64.here hx rfl (hb hby at_187) rfl (XT.ii_lt_f h187) k) ?_
      show own_Fin _ _ _ _ _ _ _ T64 (mkF m 190 #[.val (.int p1), .val (.int p2), .val (.ref h0.size), .val (.ref hp49.size), .val (.int (8 : Int32)), .unset] [])
      refine own_step (fun _ k => XT.iconstV X64.here hx rfl (1 : Int32) (hb hby at_190) (by decide) k) ?_
      show own_Fin _ _ _ _ _ _ _ T64 (mkF m 191 #[.val (.int p1), .val (.int p2), .val (.ref h0.size), .val (.ref hp49.size), .val (.int (8 : Int32)), .unset] [(.int (1 : Int32))])
      refine own_step (fun _ k => XS.goto X64.here hx rfl (pc0 := 191) (pc' := 195) rfl (hb hby at_191) (by decide) (by decide) k) ?_
      show own_Fin _ _ _ _ _ _ _ T64 (mkF m 195 #[.val (.int p1), .val (.int p2), .val (.ref h0.size), .val (.ref hp49.size), .val (.int (8 : Int32)), .unset] [(.int (1 : Int32))])
      refine own_step (fun _ k => XS.istore X64.here hx rfl (hb hby at_195) rfl (l' := #[.val (.int p1), .val (.int p2), .val (.ref h0.size), .val (.ref hp49.size), .val (.int (8 : Int32)), .val (.int (1 : Int32))]) rfl k) ?_
      show own_Fin _ _ _ _ _ _ _ T64 (mkF m 197 #[.val (.int p1), .val (.int p2), .val (.ref h0.size), .val (.ref hp49.size), .val (.int (8 : Int32)), .val (.int (1 : Int32))] [])
      refine own_step (fun _ k => XS.aloadN X64.here hx rfl (hb hby at_197) rfl rfl k) ?_
      show own_Fin _ _ _ _ _ _ _ T64 (mkF m 198 #[.val (.int p1), .val (.int p2), .val (.ref h0.size), .val (.ref hp49.size), .val (.int (8 : Int32)), .val (.int (1 : Int32))] [(.ref h0.size)])
      refine own_step (fun _ k => XS.iload X64.here hx rfl (hb hby at_198) rfl k) ?_
      show own_Fin _ _ _ _ _ _ _ T64 (mkF m 200 #[.val (.int p1), .val (.int p2), .val (.ref h0.size), .val (.ref hp49.size), .val (.int (8 : Int32)), .val (.int (1 : Int32))] [(.int (8 : Int32)), (.ref h0.size)])
      refine own_ald X64 hx hZ e64 A49 rfl (v := (.ref s8)) 8 (by decide) (by decide) (by rw [z49]; rfl) (hb hby at_200) ?_
      show own_Fin _ _ _ _ _ _ _ T64 (mkF m 201 #[.val (.int p1), .val (.int p2), .val (.ref h0.size), .val (.ref hp49.size), .val (.int (8 : Int32)), .val (.int (1 : Int32))] [(.ref s8)])
      refine own_step (fun _ k => XS.iloadN X64.here hx rfl (hb hby at_201) rfl k) ?_
      show own_Fin _ _ _ _ _ _ _ T64 (mkF m 202 #[.val (.int p1), .val (.int p2), .val (.ref h0.size), .val (.ref hp49.size), .val (.int (8 : Int32)), .val (.int (1 : Int32))] [(.int p2), (.ref s8)])
      have M := rm1 l Z a0 hw hp64 s8 p2 4 (F8.ext E64)
      rw [if_neg h187] at M
      refine own_callV0 X64 hx hZ (argsL := [(.int p2)]) (rest := []) hown (hw _ (List.mem_of_getElem? (i := 34) rfl)) (hw _ (List.mem_of_getElem? (i := 35) rfl)) (hw _ (List.mem_of_getElem? (i := 37) rfl)) (hw _ (List.mem_of_getElem? (i := 36) rfl)) (hw _ (List.mem_of_getElem? (i := 38) rfl)) (hw _ (List.mem_of_getElem? (i := 3) rfl)) (by decide) (E8.ext E64) M e64 0 (Nat.le_of_eq rfl) (by decide) (by decide) (by decide) (by decide) (by rw [hml]; rfl) pd__I_Z rfl rfl (hb hby at_202) ?_
      intro T82 X82 e82
      show own_Fin _ _ _ _ _ _ _ T82 (mkF m 205 #[.val (.int p1), .val (.int p2), .val (.ref h0.size), .val (.ref hp49.size), .val (.int (8 : Int32)), .val (.int (1 : Int32))] [(.int (1 : Int32))])
      refine own_step (fun _ k => XS.iload X82.here hx rfl (hb hby at_205) rfl k) ?_
      show own_Fin _ _ _ _ _ _ _ T82 (mkF m 207 #[.val (.int p1), .val (.int p2), .val (.ref h0.size), .val (.ref hp49.size), .val (.int (8 : Int32)), .val (.int (1 : Int32))] [(.int (1 : Int32)), (.int (1 : Int32))])
      refine own_step (fun _ k => XS.icmpNo X82.here hx rfl (hb hby at_207) rfl (XT.ii_ne_f (by decide)) k) ?_
      show own_Fin _ _ _ _ _ _ _ T82 (mkF m 210 #[.val (.int p1), .val (.int p2), .val (.ref h0.size), .val (.ref hp49.size), .val (.int (8 : Int32)), .val (.int (1 : Int32))] [])
      refine own_step (fun _ k => XT.iconstV X82.here hx rfl (1 : Int32) (hb hby at_210) (by decide) k) ?_
      show own_Fin _ _ _ _ _ _ _ T82 (mkF m 211 #[.val (.int p1), .val (.int p2), .val (.ref h0.size), .val (.ref hp49.size), .val (.int (8 : Int32)), .val (.int (1 : Int32))] [(.int (1 : Int32))])
      refine own_step (fun _ k => XS.goto X82.here hx rfl (pc0 := 211) (pc' := 215) rfl (hb hby at_211) (by decide) (by decide) k) ?_
      show own_Fin _ _ _ _ _ _ _ T82 (mkF m 215 #[.val (.int p1), .val (.int p2), .val (.ref h0.size), .val (.ref hp49.size), .val (.int (8 : Int32)), .val (.int (1 : Int32))] [(.int (1 : Int32))])
      exact own_retZ X82 hx hrt hlk (hb hby at_215) (Or.inr rfl) ⟨rfl, N64⟩ (by decide) (by decide)
  · rw [q]
    show own_Fin _ _ _ _ _ _ _ T64 (mkF m 180 #[.val (.int p1), .val (.int p2), .val (.ref h0.size), .val (.ref hp49.size), .unset, .unset] [(.int (9 : Int32))])
    refine own_step (fun _ k => XS.istore X64.here hx rfl (hb hby at_180) rfl (l' := #[.val (.int p1), .val (.int p2), .val (.ref h0.size), .val (.ref hp49.size), .val (.int (9 : Int32)), .unset]) rfl k) ?_
    show own_Fin _ _ _ _ _ _ _ T64 (mkF m 182 #[.val (.int p1), .val (.int p2), .val (.ref h0.size), .val (.ref hp49.size), .val (.int (9 : Int32)), .unset] [])
    refine own_step (fun _ k => XS.iloadN X64.here hx rfl (hb hby at_182) rfl k) ?_
    show own_Fin _ _ _ _ _ _ _ T64 (mkF m 183 #[.val (.int p1), .val (.int p2), .val (.ref h0.size), .val (.ref hp49.size), .val (.int (9 : Int32)), .unset] [(.int p2)])
    refine own_step (fun _ k => XS.aloadN X64.here hx rfl (hb hby at_183) rfl rfl k) ?_
    show own_Fin _ _ _ _ _ _ _ T64 (mkF m 184 #[.val (.int p1), .val (.int p2), .val (.ref h0.size), .val (.ref hp49.size), .val (.int (9 : Int32)), .unset] [(.ref hp49.size), (.int p2)])
    refine own_step (fun _ k => XS.iload X64.here hx rfl (hb hby at_184) rfl k) ?_
    show own_Fin _ _ _ _ _ _ _ T64 (mkF m 186 #[.val (.int p1), .val (.int p2), .val (.ref h0.size), .val (.ref hp49.size), .val (.int (9 : Int32)), .unset] [(.int (9 : Int32)), (.ref hp49.size), (.int p2)])
    refine own_ild X64 hx hZ e64 A64 (v := (.int (4 : Int32))) 9 (by decide) (by decide) (by rw [z64]; rfl) (hb hby at_186) ?_
    show own_Fin _ _ _ _ _ _ _ T64 (mkF m 187 #[.val (.int p1), .val (.int p2), .val (.ref h0.size), .val (.ref hp49.size), .val (.int (9 : Int32)), .unset] [(.int (4 : Int32)), (.int p2)])
    by_cases h187 : p2 < (4 : Int32)
    · skip
      refine own_step (fun _ k => XS.icmpYes X64.here hx rfl (pc0 := 187) (pc' := 194) rfl (hb hby at_187) rfl (XT.ii_lt_t h187) (by decide) (by decide) k) ?_
      show own_Fin _ _ _ _ _ _ _ T64 (mkF m 194 #[.val (.int p1), .val (.int p2), .val (.ref h0.size), .val (.ref hp49.size), .val (.int (9 : Int32)), .unset] [])
      refine own_step (fun _ k => XT.iconstV X64.here hx rfl (0 : Int32) (hb hby at_194) (by decide) k) ?_
      show own_Fin _ _ _ _ _ _ _ T64 (mkF m 195 #[.val (.int p1), .val (.int p2), .val (.ref h0.size), .val (.ref hp49.size), .val (.int (9 : Int32)), .unset] [(.int (0 : Int32))])
      refine own_step (fun _ k => XS.istore X64.here hx rfl (hb hby at_195) rfl (l' := #[.val (.int p1), .val (.int p2), .val (.ref h0.size), .val (.ref hp49.size), .val (.int (9 : Int32)), .val (.int (0 : Int32))]) rfl k) ?_
      show own_Fin _ _ _ _ _ _ _ T64 (mkF m 197 #[.val (.int p1), .val (.int p2), .val (.ref h0.size), .val (.ref hp49.size), .val (.int (9 : Int32)), .val (.int (0 : Int32))] [])
      refine own_step (fun _ k => XS.aloadN X64.here hx rfl (hb hby at_197) rfl rfl k) ?_
      show own_Fin _ _ _ _ _ _ _ T64 (mkF m 198 #[.val (.int p1), .val (.int p2), .val (.ref h0.size), .val (.ref hp49.size), .val (.int (9 : Int32)), .val (.int (0 : Int32))] [(.ref h0.size)])
      refine own_step (fun _ k => XS.iload X64.here hx rfl (hb hby at_198) rfl k) ?_
      show own_Fin _ _ _ _ _ _ _ T64 (mkF m 200 #[.val (.int p1), .val (.int p2), .val (.ref h0.size), .val (.ref hp49.size), .val (.int (9 : Int32)), .val (.int (0 : Int32))] [(.int (9 : Int32)), (.ref h0.size)])
      refine own_ald X64 hx hZ e64 A49 rfl (v := (.ref s9)) 9 (by decide) (by decide) (by rw [z49]; rfl) (hb hby at_200) ?_
      show own_Fin _ _ _ _ _ _ _ T64 (mkF m 201 #[.val (.int p1), .val (.int p2), .val (.ref h0.size), .val (.ref hp49.size), .val (.int (9 : Int32)), .val (.int (0 : Int32))] [(.ref s9)])
      refine own_step (fun _ k => XS.iloadN X64.here hx rfl (hb hby at_201) rfl k) ?_
      show own_Fin _ _ _ _ _ _ _ T64 (mkF m 202 #[.val (.int p1), .val (.int p2), .val (.ref h0.size), .val (.ref hp49.size), .val (.int (9 : Int32)), .val (.int (0 : Int32))] [(.int p2), (.ref s9)])
      have M := rm1 l Z a0 hw hp64 s9 p2 4 (F9.ext E64)
      rw [if_pos h187] at M
      refine own_callV0 X64 hx hZ (argsL := [(.int p2)]) (rest := []) hown (hw _ (List.mem_of_getElem? (i := 34) rfl)) (hw _ (List.mem_of_getElem? (i := 35) rfl)) (hw _ (List.mem_of_getElem? (i := 37) rfl)) (hw _ (List.mem_of_getElem? (i := 36) rfl)) (hw _ (List.mem_of_getElem? (i := 38) rfl)) (hw _ (List.mem_of_getElem? (i := 3) rfl)) (by decide) (E9.ext E64) M e64 0 (Nat.le_of_eq rfl) (by decide) (by decide) (by decide) (by decide) (by rw [hml]; rfl) pd__I_Z rfl rfl (hb hby at_202) ?_
      intro T83 X83 e83
      show own_Fin _ _ _ _ _ _ _ T83 (mkF m 205 #[.val (.int p1), .val (.int p2), .val (.ref h0.size), .val (.ref hp49.size), .val (.int (9 : Int32)), .val (.int (0 : Int32))] [(.int (0 : Int32))])
      refine own_step (fun _ k => XS.iload X83.here hx rfl (hb hby at_205) rfl k) ?_
      show own_Fin _ _ _ _ _ _ _ T83 (mkF m 207 #[.val (.int p1), .val (.int p2), .val (.ref h0.size), .val (.ref hp49.size), .val (.int (9 : Int32)), .val (.int (0 : Int32))] [(.int (0 : Int32)), (.int (0 : Int32))])
      refine own_step (fun _ k => XS.icmpNo X83.here hx rfl (hb hby at_207) rfl (XT.ii_ne_f (by decide)) k) ?_
      show own_Fin _ _ _ _ _ _ _ T83 (mkF m 210 #[.val (.int p1), .val (.int p2), .val (.ref h0.size), .val (.ref hp49.size), .val (.int (9 : Int32)), .val (.int (0 : Int32))] [])
      refine own_step (fun _ k => XT.iconstV X83.here hx rfl (1 : Int32) (hb hby at_210) (by decide) k) ?_
      show own_Fin _ _ _ _ _ _ _ T83 (mkF m 211 #[.val (.int p1), .val (.int p2), .val (.ref h0.size), .val (.ref hp49.size), .val (.int (9 : Int32)), .val (.int (0 : Int32))] [(.int (1 : Int32))])
      refine own_step (fun _ k => XS.goto X83.here hx rfl (pc0 := 211) (pc' := 215) rfl (hb hby at_211) (by decide) (by decide) k) ?_
      show own_Fin _ _ _ _ _ _ _ T83 (mkF m 215 #[.val (.int p1), .val (.int p2), .val (.ref h0.size), .val (.ref hp49.size), .val (.int (9 : Int32)), .val (.int (0 : Int32))] [(.int (1 : Int32))])
      exact own_retZ X83 hx hrt hlk (hb hby at_215) (Or.inr rfl) ⟨rfl, N64⟩ (by decide) (by decide)
    · skip
      refine own_step (fun _ k => XS.icmpNo X64.here hx rfl (hb hby at_187) rfl (XT.ii_lt_f h187) k) ?_
      show own_Fin _ _ _ _ _ _ _ T64 (mkF m 190 #[.val (.int p1), .val (.int p2), .val (.ref h0.size), .val (.ref hp49.size), .val (.int (9 : Int32)), .unset] [])
      refine own_step (fun _ k => XT.iconstV X64.here hx rfl (1 : Int32) (hb hby at_190) (by decide) k) ?_
      show own_Fin _ _ _ _ _ _ _ T64 (mkF m 191 #[.val (.int p1), .val (.int p2), .val (.ref h0.size), .val (.ref hp49.size), .val (.int (9 : Int32)), .unset] [(.int (1 : Int32))])
      refine own_step (fun _ k => XS.goto X64.here hx rfl (pc0 := 191) (pc' := 195) rfl (hb hby at_191) (by decide) (by decide) k) ?_
      show own_Fin _ _ _ _ _ _ _ T64 (mkF m 195 #[.val (.int p1), .val (.int p2), .val (.ref h0.size), .val (.ref hp49.size), .val (.int (9 : Int32)), .unset] [(.int (1 : Int32))])
      refine own_step (fun _ k => XS.istore X64.here hx rfl (hb hby at_195) rfl (l' := #[.val (.int p1), .val (.int p2), .val (.ref h0.size), .val (.ref hp49.size), .val (.int (9 : Int32)), .val (.int (1 : Int32))]) rfl k) ?_
      show own_Fin _ _ _ _ _ _ _ T64 (mkF m 197 #[.val (.int p1), .val (.int p2), .val (.ref h0.size), .val (.ref hp49.size), .val (.int (9 : Int32)), .val (.int (1 : Int32))] [])
      refine own_step (fun _ k => XS.aloadN X64.here hx rfl (hb hby at_197) rfl rfl k) ?_
      show own_Fin _ _ _ _ _ _ _ T64 (mkF m 198 #[.val (.int p1), .val (.int p2), .val (.ref h0.size), .val (.ref hp49.size), .val (.int (9 : Int32)), .val (.int (1 : Int32))] [(.ref h0.size)])
      refine own_step (fun _ k => XS.iload X64.here hx rfl (hb hby at_198) rfl k) ?_
      show own_Fin _ _ _ _ _ _ _ T64 (mkF m 200 #[.val (.int p1), .val (.int p2), .val (.ref h0.size), .val (.ref hp49.size), .val (.int (9 : Int32)), .val (.int (1 : Int32))] [(.int (9 : Int32)), (.ref h0.size)])
      refine own_ald X64 hx hZ e64 A49 rfl (v := (.ref s9)) 9 (by decide) (by decide) (by rw [z49]; rfl) (hb hby at_200) ?_
      show own_Fin _ _ _ _ _ _ _ T64 (mkF m 201 #[.val (.int p1), .val (.int p2), .val (.ref h0.size), .val (.ref hp49.size), .val (.int (9 : Int32)), .val (.int (1 : Int32))] [(.ref s9)])
      refine own_step (fun _ k => XS.iloadN X64.here hx rfl (hb hby at_201) rfl k) ?_
      show own_Fin _ _ _ _ _ _ _ T64 (mkF m 202 #[.val (.int p1), .val (.int p2), .val (.ref h0.size), .val (.ref hp49.size), .val (.int (9 : Int32)), .val (.int (1 : Int32))] [(.int p2), (.ref s9)])
      have M := rm1 l Z a0 hw hp64 s9 p2 4 (F9.ext E64)
      rw [if_neg h187] at M
      refine own_callV0 X64 hx hZ (argsL := [(.int p2)]) (rest := []) hown (hw _ (List.mem_of_getElem? (i := 34) rfl)) (hw _ (List.mem_of_getElem? (i := 35) rfl)) (hw _ (List.mem_of_getElem? (i := 37) rfl)) (hw _ (List.mem_of_getElem? (i := 36) rfl)) (hw _ (List.mem_of_getElem? (i := 38) rfl)) (hw _ (List.mem_of_getElem? (i := 3) rfl)) (by decide) (E9.ext E64) M e64 0 (Nat.le_of_eq rfl) (by decide) (by decide) (by decide) (by decide) (by rw [hml]; rfl) pd__I_Z rfl rfl (hb hby at_202) ?_
      intro T84 X84 e84
      show own_Fin _ _ _ _ _ _ _ T84 (mkF m 205 #[.val (.int p1), .val (.int p2), .val (.ref h0.size), .val (.ref hp49.size), .val (.int (9 : Int32)), .val (.int (1 : Int32))] [(.int (1 : Int32))])
      refine own_step (fun _ k => XS.iload X84.here hx rfl (hb hby at_205) rfl k) ?_
      show own_Fin _ _ _ _ _ _ _ T84 (mkF m 207 #[.val (.int p1), .val (.int p2), .val (.ref h0.size), .val (.ref hp49.size), .val (.int (9 : Int32)), .val (.int (1 : Int32))] [(.int (1 : Int32)), (.int (1 : Int32))])
      refine own_step (fun _ k => XS.icmpNo X84.here hx rfl (hb hby at_207) rfl (XT.ii_ne_f (by decide)) k) ?_
      show own_Fin _ _ _ _ _ _ _ T84 (mkF m 210 #[.val (.int p1), .val (.int p2), .val (.ref h0.size), .val (.ref hp49.size), .val (.int (9 : Int32)), .val (.int (1 : Int32))] [])
      refine own_step (fun _ k => XT.iconstV X84.here hx rfl (1 : Int32) (hb hby at_210) (by decide) k) ?_
      show own_Fin _ _ _ _ _ _ _ T84 (mkF m 211 #[.val (.int p1), .val (.int p2), .val (.ref h0.size), .val (.ref hp49.size), .val (.int (9 : Int32)), .val (.int (1 : Int32))] [(.int (1 : Int32))])
      refine own_step (fun _ k => XS.goto X84.here hx rfl (pc0 := 211) (pc' := 215) rfl (hb hby at_211) (by decide) (by decide) k) ?_
      show own_Fin _ _ _ _ _ _ _ T84 (mkF m 215 #[.val (.int p1), .val (.int p2), .val (.ref h0.size), .val (.ref hp49.size), .val (.int (9 : Int32)), .val (.int (1 : Int32))] [(.int (1 : Int32))])
      exact own_retZ X84 hx hrt hlk (hb hby at_215) (Or.inr rfl) ⟨rfl, N64⟩ (by decide) (by decide)
  · rw [q]
    show own_Fin _ _ _ _ _ _ _ T64 (mkF m 180 #[.val (.int p1), .val (.int p2), .val (.ref h0.size), .val (.ref hp49.size), .unset, .unset] [(.int (10 : Int32))])
    refine own_step (fun _ k => XS.istore X64.here hx rfl (hb hby at_180) rfl (l' := #[.val (.int p1), .val (.int p2), .val (.ref h0.size), .val (.ref hp49.size), .val (.int (10 : Int32)), .unset]) rfl k) ?_
    show own_Fin _ _ _ _ _ _ _ T64 (mkF m 182 #[.val (.int p1), .val (.int p2), .val (.ref h0.size), .val (.ref hp49.size), .val (.int (10 : Int32)), .unset] [])
    refine own_step (fun _ k => XS.iloadN X64.here hx rfl (hb hby at_182) rfl k) ?_
    show own_Fin _ _ _ _ _ _ _ T64 (mkF m 183 #[.val (.int p1), .val (.int p2), .val (.ref h0.size), .val (.ref hp49.size), .val (.int (10 : Int32)), .unset] [(.int p2)])
    refine own_step (fun _ k => XS.aloadN X64.here hx rfl (hb hby at_183) rfl rfl k) ?_
    show own_Fin _ _ _ _ _ _ _ T64 (mkF m 184 #[.val (.int p1), .val (.int p2), .val (.ref h0.size), .val (.ref hp49.size), .val (.int (10 : Int32)), .unset] [(.ref hp49.size), (.int p2)])
    refine own_step (fun _ k => XS.iload X64.here hx rfl (hb hby at_184) rfl k) ?_
    show own_Fin _ _ _ _ _ _ _ T64 (mkF m 186 #[.val (.int p1), .val (.int p2), .val (.ref h0.size), .val (.ref hp49.size), .val (.int (10 : Int32)), .unset] [(.int (10 : Int32)), (.ref hp49.size), (.int p2)])
    refine own_ild X64 hx hZ e64 A64 (v := (.int (5 : Int32))) 10 (by decide) (by decide) (by rw [z64]; rfl) (hb hby at_186) ?_
    show own_Fin _ _ _ _ _ _ _ T64 (mkF m 187 #[.val (.int p1), .val (.int p2), .val (.ref h0.size), .val (.ref hp49.size), .val (.int (10 : Int32)), .unset] [(.int (5 : Int32)), (.int p2)])
    by_cases h187 : p2 < (5 : Int32)
    · skip
      refine own_step (fun _ k => XS.icmpYes X64.here hx rfl (pc0 := 187) (pc' := 194) rfl (hb hby at_187) rfl (XT.ii_lt_t h187) (by decide) (by decide) k) ?_
      show own_Fin _ _ _ _ _ _ _ T64 (mkF m 194 #[.val (.int p1), .val (.int p2), .val (.ref h0.size), .val (.ref hp49.size), .val (.int (10 : Int32)), .unset] [])
      refine own_step (fun _ k => XT.iconstV X64.here hx rfl (0 : Int32) (hb hby at_194) (by decide) k) ?_
      show own_Fin _ _ _ _ _ _ _ T64 (mkF m 195 #[.val (.int p1), .val (.int p2), .val (.ref h0.size), .val (.ref hp49.size), .val (.int (10 : Int32)), .unset] [(.int (0 : Int32))])
      refine own_step (fun _ k => XS.istore X64.here hx rfl (hb hby at_195) rfl (l' := #[.val (.int p1), .val (.int p2), .val (.ref h0.size), .val (.ref hp49.size), .val (.int (10 : Int32)), .val (.int (0 : Int32))]) rfl k) ?_
      show own_Fin _ _ _ _ _ _ _ T64 (mkF m 197 #[.val (.int p1), .val (.int p2), .val (.ref h0.size), .val (.ref hp49.size), .val (.int (10 : Int32)), .val (.int (0 : Int32))] [])
      refine own_step (fun _ k => XS.aloadN X64.here hx rfl (hb hby at_197) rfl rfl k) ?_
      show own_Fin _ _ _ _ _ _ _ T64 (mkF m 198 #[.val (.int p1), .val (.int p2), .val (.ref h0.size), .val (.ref hp49.size), .val (.int (10 : Int32)), .val (.int (0 : Int32))] [(.ref h0.size)])
      refine own_step (fun _ k => XS.iload X64.here hx rfl (hb hby at_198) rfl k) ?_
      show own_Fin _ _ _ _ _ _ _ T64 (mkF m 200 #[.val (.int p1), .val (.int p2), .val (.ref h0.size), .val (.ref hp49.size), .val (.int (10 : Int32)), .val (.int (0 : Int32))] [(.int (10 : Int32)), (.ref h0.size)])
      refine own_ald X64 hx hZ e64 A49 rfl (v := (.ref s10)) 10 (by decide) (by decide) (by rw [z49]; rfl) (hb hby at_200) ?_
      show own_Fin _ _ _ _ _ _ _ T64 (mkF m 201 #[.val (.int p1), .val (.int p2), .val (.ref h0.size), .val (.ref hp49.size), .val (.int (10 : Int32)), .val (.int (0 : Int32))] [(.ref s10)])
      refine own_step (fun _ k => XS.iloadN X64.here hx rfl (hb hby at_201) rfl k) ?_
      show own_Fin _ _ _ _ _ _ _ T64 (mkF m 202 #[.val (.int p1), .val (.int p2), .val (.ref h0.size), .val (.ref hp49.size), .val (.int (10 : Int32)), .val (.int (0 : Int32))] [(.int p2), (.ref s10)])
      have M := rm1 l Z a0 hw hp64 s10 p2 5 (F10.ext E64)
      rw [if_pos h187] at M
      refine own_callV0 X64 hx hZ (argsL := [(.int p2)]) (rest := []) hown (hw _ (List.mem_of_getElem? (i := 34) rfl)) (hw _ (List.mem_of_getElem? (i := 35) rfl)) (hw _ (List.mem_of_getElem? (i := 37) rfl)) (hw _ (List.mem_of_getElem? (i := 36) rfl)) (hw _ (List.mem_of_getElem? (i := 38) rfl)) (hw _ (List.mem_of_getElem? (i := 3) rfl)) (by decide) (E10.ext E64) M e64 0 (Nat.le_of_eq rfl) (by decide) (by decide) (by decide) (by decide) (by rw [hml]; rfl) pd__I_Z rfl rfl (hb hby at_202) ?_
      intro T85 X85 e85
      show own_Fin _ _ _ _ _ _ _ T85 (mkF m 205 #[.val (.int p1), .val (.int p2), .val (.ref h0.size), .val (.ref hp49.size), .val (.int (10 : Int32)), .val (.int (0 : Int32))] [(.int (0 : Int32))])
      refine own_step (fun _ k => XS.iload X85.here hx rfl (hb hby at_205) rfl k) ?_
      show own_Fin _ _ _ _ _ _ _ T85 (mkF m 207 #[.val (.int p1), .val (.int p2), .val (.ref h0.size), .val (.ref hp49.size), .val (.int (10 : Int32)), .val (.int (0 : Int32))] [(.int (0 : Int32)), (.int (0 : Int32))])
      refine own_step (fun _ k => XS.icmpNo X85.here hx rfl (hb hby at_207) rfl (XT.ii_ne_f (by decide)) k) ?_
      show own_Fin _ _ _ _ _ _ _ T85 (mkF m 210 #[.val (.int p1), .val (.int p2), .val (.ref h0.size), .val (.ref hp49.size), .val (.int (10 : Int32)), .val (.int (0 : Int32))] [])
      refine own_step (fun _ k => XT.iconstV X85.here hx rfl (1 : Int32) (hb hby at_210) (by decide) k) ?_
      show own_Fin _ _ _ _ _ _ _ T85 (mkF m 211 #[.val (.int p1), .val (.int p2), .val (.ref h0.size), .val (.ref hp49.size), .val (.int (10 : Int32)), .val (.int (0 : Int32))] [(.int (1 : Int32))])
      refine own_step (fun _ k => XS.goto X85.here hx rfl (pc0 := 211) (pc' := 215) rfl (hb hby at_211) (by decide) (by decide) k) ?_
      show own_Fin _ _ _ _ _ _ _ T85 (mkF m 215 #[.val (.int p1), .val (.int p2), .val (.ref h0.size), .val (.ref hp49.size), .val (.int (10 : Int32)), .val (.int (0 : Int32))] [(.int (1 : Int32))])
      exact own_retZ X85 hx hrt hlk (hb hby at_215) (Or.inr rfl) ⟨rfl, N64⟩ (by decide) (by decide)
    · skip
      refine own_step (fun _ k => XS.icmpNo X64.here hx rfl (hb hby at_187) rfl (XT.ii_lt_f h187) k) ?_
      show own_Fin _ _ _ _ _ _ _ T64 (mkF m 190 #[.val (.int p1), .val (.int p2), .val (.ref h0.size), .val (.ref hp49.size), .val (.int (10 : Int32)), .unset] [])
      refine own_step (fun _ k => XT.iconstV X64.here hx rfl (1 : Int32) (hb hby at_190) (by decide) k) ?_
      show own_Fin _ _ _ _ _ _ _ T64 (mkF m 191 #[.val (.int p1), .val (.int p2), .val (.ref h0.size), .val (.ref hp49.size), .val (.int (10 : Int32)), .unset] [(.int (1 : Int32))])
      refine own_step (fun _ k => XS.goto X64.here hx rfl (pc0 := 191) (pc' := 195) rfl (hb hby at_191) (by decide) (by decide) k) ?_
      show own_Fin _ _ _ _ _ _ _ T64 (mkF m 195 #[.val (.int p1), .val (.int p2), .val (.ref h0.size), .val (.ref hp49.size), .val (.int (10 : Int32)), .unset] [(.int (1 : Int32))])
      refine own_step (fun _ k => XS.istore X64.here hx rfl (hb hby at_195) rfl (l' := #[.val (.int p1), .val (.int p2), .val (.ref h0.size), .val (.ref hp49.size), .val (.int (10 : Int32)), .val (.int (1 : Int32))]) rfl k) ?_
      show own_Fin _ _ _ _ _ _ _ T64 (mkF m 197 #[.val (.int p1), .val (.int p2), .val (.ref h0.size), .val (.ref hp49.size), .val (.int (10 : Int32)), .val (.int (1 : Int32))] [])
      refine own_step (fun _ k => XS.aloadN X64.here hx rfl (hb hby at_197) rfl rfl k) ?_
      show own_Fin _ _ _ _ _ _ _ T64 (mkF m 198 #[.val (.int p1), .val (.int p2), .val (.ref h0.size), .val (.ref hp49.size), .val (.int (10 : Int32)), .val (.int (1 : Int32))] [(.ref h0.size)])
      refine own_step (fun _ k => XS.iload X64.here hx rfl (hb hby at_198) rfl k) ?_
      show own_Fin _ _ _ _ _ _ _ T64 (mkF m 200 #[.val (.int p1), .val (.int p2), .val (.ref h0.size), .val (.ref hp49.size), .val (.int (10 : Int32)), .val (.int (1 : Int32))] [(.int (10 : Int32)), (.ref h0.size)])
      refine own_ald X64 hx hZ e64 A49 rfl (v := (.ref s10)) 10 (by decide) (by decide) (by rw [z49]; rfl) (hb hby at_200) ?_
      show own_Fin _ _ _ _ _ _ _ T64 (mkF m 201 #[.val (.int p1), .val (.int p2), .val (.ref h0.size), .val (.ref hp49.size), .val (.int (10 : Int32)), .val (.int (1 : Int32))] [(.ref s10)])
      refine own_step (fun _ k => XS.iloadN X64.here hx rfl (hb hby at_201) rfl k) ?_
      show own_Fin _ _ _ _ _ _ _ T64 (mkF m 202 #[.val (.int p1), .val (.int p2), .val (.ref h0.size), .val (.ref hp49.size), .val (.int (10 : Int32)), .val (.int (1 : Int32))] [(.int p2), (.ref s10)])
      have M := rm1 l Z a0 hw hp64 s10 p2 5 (F10.ext E64)
      rw [if_neg h187] at M
      refine own_callV0 X64 hx hZ (argsL := [(.int p2)]) (rest := []) hown (hw _ (List.mem_of_getElem? (i := 34) rfl)) (hw _ (List.mem_of_getElem? (i := 35) rfl)) (hw _ (List.mem_of_getElem? (i := 37) rfl)) (hw _ (List.mem_of_getElem? (i := 36) rfl)) (hw _ (List.mem_of_getElem? (i := 38) rfl)) (hw _ (List.mem_of_getElem? (i := 3) rfl)) (by decide) (E10.ext E64) M e64 0 (Nat.le_of_eq rfl) (by decide) (by decide) (by decide) (by decide) (by rw [hml]; rfl) pd__I_Z rfl rfl (hb hby at_202) ?_
      intro T86 X86 e86
      show own_Fin _ _ _ _ _ _ _ T86 (mkF m 205 #[.val (.int p1), .val (.int p2), .val (.ref h0.size), .val (.ref hp49.size), .val (.int (10 : Int32)), .val (.int (1 : Int32))] [(.int (1 : Int32))])
      refine own_step (fun _ k => XS.iload X86.here hx rfl (hb hby at_205) rfl k) ?_
      show own_Fin _ _ _ _ _ _ _ T86 (mkF m 207 #[.val (.int p1), .val (.int p2), .val (.ref h0.size), .val (.ref hp49.size), .val (.int (10 : Int32)), .val (.int (1 : Int32))] [(.int (1 : Int32)), (.int (1 : Int32))])
      refine own_step (fun _ k => XS.icmpNo X86.here hx rfl (hb hby at_207) rfl (XT.ii_ne_f (by decide)) k) ?_
      show own_Fin _ _ _ _ _ _ _ T86 (mkF m 210 #[.val (.int p1), .val (.int p2), .val (.ref h0.size), .val (.ref hp49.size), .val (.int (10 : Int32)), .val (.int (1 : Int32))] [])
      refine own_step (fun _ k => XT.iconstV X86.here hx rfl (1 : Int32) (hb hby at_210) (by decide) k) ?_
      show own_Fin _ _ _ _ _ _ _ T86 (mkF m 211 #[.val (.int p1), .val (.int p2), .val (.ref h0.size), .val (.ref hp49.size), .val (.int (10 : Int32)), .val (.int (1 : Int32))] [(.int (1 : Int32))])
      refine own_step (fun _ k => XS.goto X86.here hx rfl (pc0 := 211) (pc' := 215) rfl (hb hby at_211) (by decide) (by decide) k) ?_
      show own_Fin _ _ _ _ _ _ _ T86 (mkF m 215 #[.val (.int p1), .val (.int p2), .val (.ref h0.size), .val (.ref hp49.size), .val (.int (10 : Int32)), .val (.int (1 : Int32))] [(.int (1 : Int32))])
      exact own_retZ X86 hx hrt hlk (hb hby at_215) (Or.inr rfl) ⟨rfl, N64⟩ (by decide) (by decide)
  · rw [q]
    show own_Fin _ _ _ _ _ _ _ T64 (mkF m 180 #[.val (.int p1), .val (.int p2), .val (.ref h0.size), .val (.ref hp49.size), .unset, .unset] [(.int (11 : Int32))])
    refine own_step (fun _ k => XS.istore X64.here hx rfl (hb hby at_180) rfl (l' := #[.val (.int p1), .val (.int p2), .val (.ref h0.size), .val (.ref hp49.size), .val (.int (11 : Int32)), .unset]) rfl k) ?_
    show own_Fin _ _ _ _ _ _ _ T64 (mkF m 182 #[.val (.int p1), .val (.int p2), .val (.ref h0.size), .val (.ref hp49.size), .val (.int (11 : Int32)), .unset] [])
    refine own_step (fun _ k => XS.iloadN X64.here hx rfl (hb hby at_182) rfl k) ?_
    show own_Fin _ _ _ _ _ _ _ T64 (mkF m 183 #[.val (.int p1), .val (.int p2), .val (.ref h0.size), .val (.ref hp49.size), .val (.int (11 : Int32)), .unset] [(.int p2)])
    refine own_step (fun _ k => XS.aloadN X64.here hx rfl (hb hby at_183) rfl rfl k) ?_
    show own_Fin _ _ _ _ _ _ _ T64 (mkF m 184 #[.val (.int p1), .val (.int p2), .val (.ref h0.size), .val (.ref hp49.size), .val (.int (11 : Int32)), .unset] [(.ref hp49.size), (.int p2)])
    refine own_step (fun _ k => XS.iload X64.here hx rfl (hb hby at_184) rfl k) ?_
    show own_Fin _ _ _ _ _ _ _ T64 (mkF m 186 #[.val (.int p1), .val (.int p2), .val (.ref h0.size), .val (.ref hp49.size), .val (.int (11 : Int32)), .unset] [(.int (11 : Int32)), (.ref hp49.size), (.int p2)])
    refine own_ild X64 hx hZ e64 A64 (v := (.int (3 : Int32))) 11 (by decide) (by decide) (by rw [z64]; rfl) (hb hby at_186) ?_
    show own_Fin _ _ _ _ _ _ _ T64 (mkF m 187 #[.val (.int p1), .val (.int p2), .val (.ref h0.size), .val (.ref hp49.size), .val (.int (11 : Int32)), .unset] [(.int (3 : Int32)), (.int p2)])
    by_cases h187 : p2 < (3 : Int32)
    · skip
      refine own_step (fun _ k => XS.icmpYes X64.here hx rfl (pc0 := 187) (pc' := 194) rfl (hb hby at_187) rfl (XT.ii_lt_t h187) (by decide) (by decide) k) ?_
      show own_Fin _ _ _ _ _ _ _ T64 (mkF m 194 #[.val (.int p1), .val (.int p2), .val (.ref h0.size), .val (.ref hp49.size), .val (.int (11 : Int32)), .unset] [])
      refine own_step (fun _ k => XT.iconstV X64.here hx rfl (0 : Int32) (hb hby at_194) (by decide) k) ?_
      show own_Fin _ _ _ _ _ _ _ T64 (mkF m 195 #[.val (.int p1), .val (.int p2), .val (.ref h0.size), .val (.ref hp49.size), .val (.int (11 : Int32)), .unset] [(.int (0 : Int32))])
      refine own_step (fun _ k => XS.istore X64.here hx rfl (hb hby at_195) rfl (l' := #[.val (.int p1), .val (.int p2), .val (.ref h0.size), .val (.ref hp49.size), .val (.int (11 : Int32)), .val (.int (0 : Int32))]) rfl k) ?_
      show own_Fin _ _ _ _ _ _ _ T64 (mkF m 197 #[.val (.int p1), .val (.int p2), .val (.ref h0.size), .val (.ref hp49.size), .val (.int (11 : Int32)), .val (.int (0 : Int32))] [])
      refine own_step (fun _ k => XS.aloadN X64.here hx rfl (hb hby at_197) rfl rfl k) ?_
      show own_Fin _ _ _ _ _ _ _ T64 (mkF m 198 #[.val (.int p1), .val (.int p2), .val (.ref h0.size), .val (.ref hp49.size), .val (.int (11 : Int32)), .val (.int (0 : Int32))] [(.ref h0.size)])
      refine own_step (fun _ k => XS.iload X64.here hx rfl (hb hby at_198) rfl k) ?_
      show own_Fin _ _ _ _ _ _ _ T64 (mkF m 200 #[.val (.int p1), .val (.int p2), .val (.ref h0.size), .val (.ref hp49.size), .val (.int (11 : Int32)), .val (.int (0 : Int32))] [(.int (11 : Int32)), (.ref h0.size)])
      refine own_ald X64 hx hZ e64 A49 rfl (v := (.ref s11)) 11 (by decide) (by decide) (by rw [z49]; rfl) (hb hby at_200) ?_
      show own_Fin _ _ _ _ _ _ _ T64 (mkF m 201 #[.val (.int p1), .val (.int p2), .val (.ref h0.size), .val (.ref hp49.size), .val (.int (11 : Int32)), .val (.int (0 : Int32))] [(.ref s11)])
      refine own_step (fun _ k => XS.iloadN X64.here hx rfl (hb hby at_201) rfl k) ?_
      show own_Fin _ _ _ _ _ _ _ T64 (mkF m 202 #[.val (.int p1), .val (.int p2), .val (.ref h0.size), .val (.ref hp49.size), .val (.int (11 : Int32)), .val (.int (0 : Int32))] [(.int p2), (.ref s11)])
      have M := rm1 l Z a0 hw hp64 s11 p2 3 (F11.ext E64)
      rw [if_pos h187] at M
      refine own_callV0 X64 hx hZ (argsL := [(.int p2)]) (rest := []) hown (hw _ (List.mem_of_getElem? (i := 34) rfl)) (hw _ (List.mem_of_getElem? (i := 35) rfl)) (hw _ (List.mem_of_getElem? (i := 37) rfl)) (hw _ (List.mem_of_getElem? (i := 36) rfl)) (hw _ (List.mem_of_getElem? (i := 38) rfl)) (hw _ (List.mem_of_getElem? (i := 3) rfl)) (by decide) (E11.ext E64) M e64 0 (Nat.le_of_eq rfl) (by decide) (by decide) (by decide) (by decide) (by rw [hml]; rfl) pd__I_Z rfl rfl (hb hby at_202) ?_
      intro T87 X87 e87
      show own_Fin _ _ _ _ _ _ _ T87 (mkF m 205 #[.val (.int p1), .val (.int p2), .val (.ref h0.size), .val (.ref hp49.size), .val (.int (11 : Int32)), .val (.int (0 : Int32))] [(.int (0 : Int32))])
      refine own_step (fun _ k => XS.iload X87.here hx rfl (hb hby at_205) rfl k) ?_
      show own_Fin _ _ _ _ _ _ _ T87 (mkF m 207 #[.val (.int p1), .val (.int p2), .val (.ref h0.size), .val (.ref hp49.size), .val (.int (11 : Int32)), .val (.int (0 : Int32))] [(.int (0 : Int32)), (.int (0 : Int32))])
      refine own_step (fun _ k => XS.icmpNo X87.here hx rfl (hb hby at_207) rfl (XT.ii_ne_f (by decide)) k) ?_
      show own_Fin _ _ _ _ _ _ _ T87 (mkF m 210 #[.val (.int p1), .val (.int p2), .val (.ref h0.size), .val (.ref hp49.size), .val (.int (11 : Int32)), .val (.int (0 : Int32))] [])
      refine own_step (fun _ k => XT.iconstV X87.here hx rfl (1 : Int32) (hb hby at_210) (by decide) k) ?_
      show own_Fin _ _ _ _ _ _ _ T87 (mkF m 211 #[.val (.int p1), .val (.int p2), .val (.ref h0.size), .val (.ref hp49.size), .val (.int (11 : Int32)), .val (.int (0 : Int32))] [(.int (1 : Int32))])
      refine own_step (fun _ k => XS.goto X87.here hx rfl (pc0 := 211) (pc' := 215) rfl (hb hby at_211) (by decide) (by decide) k) ?_
      show own_Fin _ _ _ _ _ _ _ T87 (mkF m 215 #[.val (.int p1), .val (.int p2), .val (.ref h0.size), .val (.ref hp49.size), .val (.int (11 : Int32)), .val (.int (0 : Int32))] [(.int (1 : Int32))])
      exact own_retZ X87 hx hrt hlk (hb hby at_215) (Or.inr rfl) ⟨rfl, N64⟩ (by decide) (by decide)
    · skip
      refine own_step (fun _ k => XS.icmpNo X64.here hx rfl (hb hby at_187) rfl (XT.ii_lt_f h187) k) ?_
      show own_Fin _ _ _ _ _ _ _ T64 (mkF m 190 #[.val (.int p1), .val (.int p2), .val (.ref h0.size), .val (.ref hp49.size), .val (.int (11 : Int32)), .unset] [])
      refine own_step (fun _ k => XT.iconstV X64.here hx rfl (1 : Int32) (hb hby at_190) (by decide) k) ?_
      show own_Fin _ _ _ _ _ _ _ T64 (mkF m 191 #[.val (.int p1), .val (.int p2), .val (.ref h0.size), .val (.ref hp49.size), .val (.int (11 : Int32)), .unset] [(.int (1 : Int32))])
      refine own_step (fun _ k => XS.goto X64.here hx rfl (pc0 := 191) (pc' := 195) rfl (hb hby at_191) (by decide) (by decide) k) ?_
      show own_Fin _ _ _ _ _ _ _ T64 (mkF m 195 #[.val (.int p1), .val (.int p2), .val (.ref h0.size), .val (.ref hp49.size), .val (.int (11 : Int32)), .unset] [(.int (1 : Int32))])
      refine own_step (fun _ k => XS.istore X64.here hx rfl (hb hby at_195) rfl (l' := #[.val (.int p1), .val (.int p2), .val (.ref h0.size), .val (.ref hp49.size), .val (.int (11 : Int32)), .val (.int (1 : Int32))]) rfl k) ?_
      show own_Fin _ _ _ _ _ _ _ T64 (mkF m 197 #[.val (.int p1), .val (.int p2), .val (.ref h0.size), .val (.ref hp49.size), .val (.int (11 : Int32)), .val (.int (1 : Int32))] [])
      refine own_step (fun _ k => XS.aloadN X64.here hx rfl (hb hby at_197) rfl rfl k) ?_
      show own_Fin _ _ _ _ _ _ _ T64 (mkF m 198 #[.val (.int p1), .val (.int p2), .val (.ref h0.size), .val (.ref hp49.size), .val (.int (11 : Int32)), .val (.int (1 : Int32))] [(.ref h0.size)])
      refine own_step (fun _ k => XS.iload X64.here hx rfl (hb hby at_198) rfl k) ?_
      show own_Fin _ _ _ _ _ _ _ T64 (mkF m 200 #[.val (.int p1), .val (.int p2), .val (.ref h0.size), .val (.ref hp49.size), .val (.int (11 : Int32)), .val (.int (1 : Int32))] [(.int (11 : Int32)), (.ref h0.size)])
      refine own_ald X64 hx hZ e64 A49 rfl (v := (.ref s11)) 11 (by decide) (by decide) (by rw [z49]; rfl) (hb hby at_200) ?_
      show own_Fin _ _ _ _ _ _ _ T64 (mkF m 201 #[.val (.int p1), .val (.int p2), .val (.ref h0.size), .val (.ref hp49.size), .val (.int (11 : Int32)), .val (.int (1 : Int32))] [(.ref s11)])
      refine own_step (fun _ k => XS.iloadN X64.here hx rfl (hb hby at_201) rfl k) ?_
      show own_Fin _ _ _ _ _ _ _ T64 (mkF m 202 #[.val (.int p1), .val (.int p2), .val (.ref h0.size), .val (.ref hp49.size), .val (.int (11 : Int32)), .val (.int (1 : Int32))] [(.int p2), (.ref s11)])
      have M := rm1 l Z a0 hw hp64 s11 p2 3 (F11.ext E64)
      rw [if_neg h187] at M
      refine own_callV0 X64 hx hZ (argsL := [(.int p2)]) (rest := []) hown (hw _ (List.mem_of_getElem? (i := 34) rfl)) (hw _ (List.mem_of_getElem? (i := 35) rfl)) (hw _ (List.mem_of_getElem? (i := 37) rfl)) (hw _ (List.mem_of_getElem? (i := 36) rfl)) (hw _ (List.mem_of_getElem? (i := 38) rfl)) (hw _ (List.mem_of_getElem? (i := 3) rfl)) (by decide) (E11.ext E64) M e64 0 (Nat.le_of_eq rfl) (by decide) (by decide) (by decide) (by decide) (by rw [hml]; rfl) pd__I_Z rfl rfl (hb hby at_202) ?_
      intro T88 X88 e88
      show own_Fin _ _ _ _ _ _ _ T88 (mkF m 205 #[.val (.int p1), .val (.int p2), .val (.ref h0.size), .val (.ref hp49.size), .val (.int (11 : Int32)), .val (.int (1 : Int32))] [(.int (1 : Int32))])
      refine own_step (fun _ k => XS.iload X88.here hx rfl (hb hby at_205) rfl k) ?_
      show own_Fin _ _ _ _ _ _ _ T88 (mkF m 207 #[.val (.int p1), .val (.int p2), .val (.ref h0.size), .val (.ref hp49.size), .val (.int (11 : Int32)), .val (.int (1 : Int32))] [(.int (1 : Int32)), (.int (1 : Int32))])
      refine own_step (fun _ k => XS.icmpNo X88.here hx rfl (hb hby at_207) rfl (XT.ii_ne_f (by decide)) k) ?_
      show own_Fin _ _ _ _ _ _ _ T88 (mkF m 210 #[.val (.int p1), .val (.int p2), .val (.ref h0.size), .val (.ref hp49.size), .val (.int (11 : Int32)), .val (.int (1 : Int32))] [])
      refine own_step (fun _ k => XT.iconstV X88.here hx rfl (1 : Int32) (hb hby at_210) (by decide) k) ?_
      show own_Fin _ _ _ _ _ _ _ T88 (mkF m 211 #[.val (.int p1), .val (.int p2), .val (.ref h0.size), .val (.ref hp49.size), .val (.int (11 : Int32)), .val (.int (1 : Int32))] [(.int (1 : Int32))])
      refine own_step (fun _ k => XS.goto X88.here hx rfl (pc0 := 211) (pc' := 215) rfl (hb hby at_211) (by decide) (by decide) k) ?_
      show own_Fin _ _ _ _ _ _ _ T88 (mkF m 215 #[.val (.int p1), .val (.int p2), .val (.ref h0.size), .val (.ref hp49.size), .val (.int (11 : Int32)), .val (.int (1 : Int32))] [(.int (1 : Int32))])
      exact own_retZ X88 hx hrt hlk (hb hby at_215) (Or.inr rfl) ⟨rfl, N64⟩ (by decide) (by decide)
  · rw [q]
    show own_Fin _ _ _ _ _ _ _ T64 (mkF m 180 #[.val (.int p1), .val (.int p2), .val (.ref h0.size), .val (.ref hp49.size), .unset, .unset] [(.int (12 : Int32))])
    refine own_step (fun _ k => XS.istore X64.here hx rfl (hb hby at_180) rfl (l' := #[.val (.int p1), .val (.int p2), .val (.ref h0.size), .val (.ref hp49.size), .val (.int (12 : Int32)), .unset]) rfl k) ?_
    show own_Fin _ _ _ _ _ _ _ T64 (mkF m 182 #[.val (.int p1), .val (.int p2), .val (.ref h0.size), .val (.ref hp49.size), .val (.int (12 : Int32)), .unset] [])
    refine own_step (fun _ k => XS.iloadN X64.here hx rfl (hb hby at_182) rfl k) ?_
    show own_Fin _ _ _ _ _ _ _ T64 (mkF m 183 #[.val (.int p1), .val (.int p2), .val (.ref h0.size), .val (.ref hp49.size), .val (.int (12 : Int32)), .unset] [(.int p2)])
    refine own_step (fun _ k => XS.aloadN X64.here hx rfl (hb hby at_183) rfl rfl k) ?_
    show own_Fin _ _ _ _ _ _ _ T64 (mkF m 184 #[.val (.int p1), .val (.int p2), .val (.ref h0.size), .val (.ref hp49.size), .val (.int (12 : Int32)), .unset] [(.ref hp49.size), (.int p2)])
    refine own_step (fun _ k => XS.iload X64.here hx rfl (hb hby at_184) rfl k) ?_
    show own_Fin _ _ _ _ _ _ _ T64 (mkF m 186 #[.val (.int p1), .val (.int p2), .val (.ref h0.size), .val (.ref hp49.size), .val (.int (12 : Int32)), .unset] [(.int (12 : Int32)), (.ref hp49.size), (.int p2)])
    refine own_ild X64 hx hZ e64 A64 (v := (.int (3 : Int32))) 12 (by decide) (by decide) (by rw [z64]; rfl) (hb hby at_186) ?_
    show own_Fin _ _ _ _ _ _ _ T64 (mkF m 187 #[.val (.int p1), .val (.int p2), .val (.ref h0.size), .val (.ref hp49.size), .val (.int (12 : Int32)), .unset] [(.int (3 : Int32)), (.int p2)])
    by_cases h187 : p2 < (3 : Int32)
    · skip
      refine own_step (fun _ k => XS.icmpYes X64.here hx rfl (pc0 := 187) (pc' := 194) rfl (hb hby at_187) rfl (XT.ii_lt_t h187) (by decide) (by decide) k) ?_
      show own_Fin _ _ _ _ _ _ _ T64 (mkF m 194 #[.val (.int p1), .val (.int p2), .val (.ref h0.size), .val (.ref hp49.size), .val (.int (12 : Int32)), .unset] [])
      refine own_step (fun _ k => XT.iconstV X64.here hx rfl (0 : Int32) (hb hby at_194) (by decide) k) ?_
      show own_Fin _ _ _ _ _ _ _ T64 (mkF m 195 #[.val (.int p1), .val (.int p2), .val (.ref h0.size), .val (.ref hp49.size), .val (.int (12 : Int32)), .unset] [(.int (0 : Int32))])
      refine own_step (fun _ k => XS.istore X64.here hx rfl (hb hby at_195) rfl (l' := #[.val (.int p1), .val (.int p2), .val (.ref h0.size), .val (.ref hp49.size), .val (.int (12 : Int32)), .val (.int (0 : Int32))]) rfl k) ?_
      show own_Fin _ _ _ _ _ _ _ T64 (mkF m 197 #[.val (.int p1), .val (.int p2), .val (.ref h0.size), .val (.ref hp49.size), .val (.int (12 : Int32)), .val (.int (0 : Int32))] [])
      refine own_step (fun _ k => XS.aloadN X64.here hx rfl (hb hby at_197) rfl rfl k) ?_
      show own_Fin _ _ _ _ _ _ _ T64 (mkF m 198 #[.val (.int p1), .val (.int p2), .val (.ref h0.size), .val (.ref hp49.size), .val (.int (12 : Int32)), .val (.int (0 : Int32))] [(.ref h0.size)])
      refine own_step (fun _ k => XS.iload X64.here hx rfl (hb hby at_198) rfl k) ?_
      show own_Fin _ _ _ _ _ _ _ T64 (mkF m 200 #[.val (.int p1), .val (.int p2), .val (.ref h0.size), .val (.ref hp49.size), .val (.int (12 : Int32)), .val (.int (0 : Int32))] [(.int (12 : Int32)), (.ref h0.size)])
      refine own_ald X64 hx hZ e64 A49 rfl (v := (.ref s12)) 12 (by decide) (by decide) (by rw [z49]; rfl) (hb hby at_200) ?_
      show own_Fin _ _ _ _ _ _ _ T64 (mkF m 201 #[.val (.int p1), .val (.int p2), .val (.ref h0.size), .val (.ref hp49.size), .val (.int (12 : Int32)), .val (.int (0 : Int32))] [(.ref s12)])
      refine own_step (fun _ k => XS.iloadN X64.here hx rfl (hb hby at_201) rfl k) ?_
      show own_Fin _ _ _ _ _ _ _ T64 (mkF m 202 #[.val (.int p1), .val (.int p2), .val (.ref h0.size), .val (.ref hp49.size), .val (.int (12 : Int32)), .val (.int (0 : Int32))] [(.int p2), (.ref s12)])
      have M := rm1 l Z a0 hw hp64 s12 p2 3 (F12.ext E64)
      rw [if_pos h187] at M
      refine own_callV0 X64 hx hZ (argsL := [(.int p2)]) (rest := []) hown (hw _ (List.mem_of_getElem? (i := 34) rfl)) (hw _ (List.mem_of_getElem? (i := 35) rfl)) (hw _ (List.mem_of_getElem? (i := 37) rfl)) (hw _ (List.mem_of_getElem? (i := 36) rfl)) (hw _ (List.mem_of_getElem? (i := 38) rfl)) (hw _ (List.mem_of_getElem? (i := 3) rfl)) (by decide) (E12.ext E64) M e64 0 (Nat.le_of_eq rfl) (by decide) (by decide) (by decide) (by decide) (by rw [hml]; rfl) pd__I_Z rfl rfl (hb hby at_202) ?_
      intro T89 X89 e89
      show own_Fin _ _ _ _ _ _ _ T89 (mkF m 205 #[.val (.int p1), .val (.int p2), .val (.ref h0.size), .val (.ref hp49.size), .val (.int (12 : Int32)), .val (.int (0 : Int32))] [(.int (0 : Int32))])
      refine own_step (fun _ k => XS.iload X89.here hx rfl (hb hby at_205) rfl k) ?_
      show own_Fin _ _ _ _ _ _ _ T89 (mkF m 207 #[.val (.int p1), .val (.int p2), .val (.ref h0.size), .val (.ref hp49.size), .val (.int (12 : Int32)), .val (.int (0 : Int32))] [(.int (0 : Int32)), (.int (0 : Int32))])
      refine own_step (fun _ k => XS.icmpNo X89.here hx rfl (hb hby at_207) rfl (XT.ii_ne_f (by decide)) k) ?_
      show own_Fin _ _ _ _ _ _ _ T89 (mkF m 210 #[.val (.int p1), .val (.int p2), .val (.ref h0.size), .val (.ref hp49.size), .val (.int (12 : Int32)), .val (.int (0 : Int32))] [])
      refine own_step (fun _ k => XT.iconstV X89.here hx rfl (1 : Int32) (hb hby at_210) (by decide) k) ?_
      show own_Fin _ _ _ _ _ _ _ T89 (mkF m 211 #[.val (.int p1), .val (.int p2), .val (.ref h0.size), .val (.ref hp49.size), .val (.int (12 : Int32)), .val (.int (0 : Int32))] [(.int (1 : Int32))])
      refine own_step (fun _ k => XS.goto X89.here hx rfl (pc0 := 211) (pc' := 215) rfl (hb hby at_211) (by decide) (by decide) k) ?_
      show own_Fin _ _ _ _ _ _ _ T89 (mkF m 215 #[.val (.int p1), .val (.int p2), .val (.ref h0.size), .val (.ref hp49.size), .val (.int (12 : Int32)), .val (.int (0 : Int32))] [(.int (1 : Int32))])
      exact own_retZ X89 hx hrt hlk (hb hby at_215) (Or.inr rfl) ⟨rfl, N64⟩ (by decide) (by decide)
    · skip
      refine own_step (fun _ k => XS.icmpNo X64.here hx rfl (hb hby at_187) rfl (XT.ii_lt_f h187) k) ?_
      show own_Fin _ _ _ _ _ _ _ T64 (mkF m 190 #[.val (.int p1), .val (.int p2), .val (.ref h0.size), .val (.ref hp49.size), .val (.int (12 : Int32)), .unset] [])
      refine own_step (fun _ k => XT.iconstV X64.here hx rfl (1 : Int32) (hb hby at_190) (by decide) k) ?_
      show own_Fin _ _ _ _ _ _ _ T64 (mkF m 191 #[.val (.int p1), .val (.int p2), .val (.ref h0.size), .val (.ref hp49.size), .val (.int (12 : Int32)), .unset] [(.int (1 : Int32))])
      refine own_step (fun _ k => XS.goto X64.here hx rfl (pc0 := 191) (pc' := 195) rfl (hb hby at_191) (by decide) (by decide) k) ?_
      show own_Fin _ _ _ _ _ _ _ T64 (mkF m 195 #[.val (.int p1), .val (.int p2), .val (.ref h0.size), .val (.ref hp49.size), .val (.int (12 : Int32)), .unset] [(.int (1 : Int32))])
      refine own_step (fun _ k => XS.istore X64.here hx rfl (hb hby at_195) rfl (l' := #[.val (.int p1), .val (.int p2), .val (.ref h0.size), .val (.ref hp49.size), .val (.int (12 : Int32)), .val (.int (1 : Int32))]) rfl k) ?_
      show own_Fin _ _ _ _ _ _ _ T64 (mkF m 197 #[.val (.int p1), .val (.int p2), .val (.ref h0.size), .val (.ref hp49.size), .val (.int (12 : Int32)), .val (.int (1 : Int32))] [])
      refine own_step (fun _ k => XS.aloadN X64.here hx rfl (hb hby at_197) rfl rfl k) ?_
      show own_Fin _ _ _ _ _ _ _ T64 (mkF m 198 #[.val (.int p1), .val (.int p2), .val (.ref h0.size), .val (.ref hp49.size), .val (.int (12 : Int32)), .val (.int (1 : Int32))] [(.ref h0.size)])
      refine own_step (fun _ k => XS.iload X64.here hx rfl (hb hby at_198) rfl k) ?_
      show own_Fin _ _ _ _ _ _ _ T64 (mkF m 200 #[.val (.int p1), .val (.int p2), .val (.ref h0.size), .val (.ref hp49.size), .val (.int (12 : Int32)), .val (.int (1 : Int32))] [(.int (12 : Int32)), (.ref h0.size)])
      refine own_ald X64 hx hZ e64 A49 rfl (v := (.ref s12)) 12 (by decide) (by decide) (by rw [z49]; rfl) (hb hby at_200) ?_
      show own_Fin _ _ _ _ _ _ _ T64 (mkF m 201 #[.val (.int p1), .val (.int p2), .val (.ref h0.size), .val (.ref hp49.size), .val (.int (12 : Int32)), .val (.int (1 : Int32))] [(.ref s12)])
      refine own_step (fun _ k => XS.iloadN X64.here hx rfl (hb hby at_201) rfl k) ?_
      show own_Fin _ _ _ _ _ _ _ T64 (mkF m 202 #[.val (.int p1), .val (.int p2), .val (.ref h0.size), .val (.ref hp49.size), .val (.int (12 : Int32)), .val (.int (1 : Int32))] [(.int p2), (.ref s12)])
      have M := rm1 l Z a0 hw hp64 s12 p2 3 (F12.ext E64)
      rw [if_neg h187] at M
      refine own_callV0 X64 hx hZ (argsL := [(.int p2)]) (rest := []) hown (hw _ (List.mem_of_getElem? (i := 34) rfl)) (hw _ (List.mem_of_getElem? (i := 35) rfl)) (hw _ (List.mem_of_getElem? (i := 37) rfl)) (hw _ (List.mem_of_getElem? (i := 36) rfl)) (hw _ (List.mem_of_getElem? (i := 38) rfl)) (hw _ (List.mem_of_getElem? (i := 3) rfl)) (by decide) (E12.ext E64) M e64 0 (Nat.le_of_eq rfl) (by decide) (by decide) (by decide) (by decide) (by rw [hml]; rfl) pd__I_Z rfl rfl (hb hby at_202) ?_
      intro T90 X90 e90
      show own_Fin _ _ _ _ _ _ _ T90 (mkF m 205 #[.val (.int p1), .val (.int p2), .val (.ref h0.size), .val (.ref hp49.size), .val (.int (12 : Int32)), .val (.int (1 : Int32))] [(.int (1 : Int32))])
      refine own_step (fun _ k => XS.iload X90.here hx rfl (hb hby at_205) rfl k) ?_
      show own_Fin _ _ _ _ _ _ _ T90 (mkF m 207 #[.val (.int p1), .val (.int p2), .val (.ref h0.size), .val (.ref hp49.size), .val (.int (12 : Int32)), .val (.int (1 : Int32))] [(.int (1 : Int32)), (.int (1 : Int32))])
      refine own_step (fun _ k => XS.icmpNo X90.here hx rfl (hb hby at_207) rfl (XT.ii_ne_f (by decide)) k) ?_
      show own_Fin _ _ _ _ _ _ _ T90 (mkF m 210 #[.val (.int p1), .val (.int p2), .val (.ref h0.size), .val (.ref hp49.size), .val (.int (12 : Int32)), .val (.int (1 : Int32))] [])
      refine own_step (fun _ k => XT.iconstV X90.here hx rfl (1 : Int32) (hb hby at_210) (by decide) k) ?_
      show own_Fin _ _ _ _ _ _ _ T90 (mkF m 211 #[.val (.int p1), .val (.int p2), .val (.ref h0.size), .val (.ref hp49.size), .val (.int (12 : Int32)), .val (.int (1 : Int32))] [(.int (1 : Int32))])
      refine own_step (fun _ k => XS.goto X90.here hx rfl (pc0 := 211) (pc' := 215) rfl (hb hby at_211) (by decide) (by decide) k) ?_
      show own_Fin _ _ _ _ _ _ _ T90 (mkF m 215 #[.val (.int p1), .val (.int p2), .val (.ref h0.size), .val (.ref hp49.size), .val (.int (12 : Int32)), .val (.int (1 : Int32))] [(.int (1 : Int32))])
      exact own_retZ X90 hx hrt hlk (hb hby at_215) (Or.inr rfl) ⟨rfl, N64⟩ (by decide) (by decide)
  · rw [q]
    show own_Fin _ _ _ _ _ _ _ T64 (mkF m 180 #[.val (.int p1), .val (.int p2), .val (.ref h0.size), .val (.ref hp49.size), .unset, .unset] [(.int (13 : Int32))])
    refine own_step (fun _ k => XS.istore X64.here hx rfl (hb hby at_180) rfl (l' := #[.val (.int p1), .val (.int p2), .val (.ref h0.size), .val (.ref hp49.size), .val (.int (13 : Int32)), .unset]) rfl k) ?_
    show own_Fin _ _ _ _ _ _ _ T64 (mkF m 182 #[.val (.int p1), .val (.int p2), .val (.ref h0.size), .val (.ref hp49.size), .val (.int (13 : Int32)), .unset] [])
    refine own_step (fun _ k => XS.iloadN X64.here hx rfl (hb hby at_182) rfl k) ?_
    show own_Fin _ _ _ _ _ _ _ T64 (mkF m 183 #[.val (.int p1), .val (.int p2), .val (.ref h0.size), .val (.ref hp49.size), .val (.int (13 : Int32)), .unset] [(.int p2)])
    refine own_step (fun _ k => XS.aloadN X64.here hx rfl (hb hby at_183) rfl rfl k) ?_
    show own_Fin _ _ _ _ _ _ _ T64 (mkF m 184 #[.val (.int p1), .val (.int p2), .val (.ref h0.size), .val (.ref hp49.size), .val (.int (13 : Int32)), .unset] [(.ref hp49.size), (.int p2)])
    refine own_step (fun _ k => XS.iload X64.here hx rfl (hb hby at_184) rfl k) ?_
    show own_Fin _ _ _ _ _ _ _ T64 (mkF m 186 #[.val (.int p1), .val (.int p2), .val (.ref h0.size), .val (.ref hp49.size), .val (.int (13 : Int32)), .unset] [(.int (13 : Int32)), (.ref hp49.size), (.int p2)])
    refine own_ild X64 hx hZ e64 A64 (v := (.int (2 : Int32))) 13 (by decide) (by decide) (by rw [z64]; rfl) (hb hby at_186) ?_
    show own_Fin _ _ _ _ _ _ _ T64 (mkF m 187 #[.val (.int p1), .val (.int p2), .val (.ref h0.size), .val (.ref hp49.size), .val (.int (13 : Int32)), .unset] [(.int (2 : Int32)), (.int p2)])
    by_cases h187 : p2 < (2 : Int32)
    · skip
      refine own_step (fun _ k => XS.icmpYes X64.here hx rfl (pc0 := 187) (pc' := 194) rfl (hb hby at_187) rfl (XT.ii_lt_t h187) (by decide) (by decide) k) ?_
      show own_Fin _ _ _ _ _ _ _ T64 (mkF m 194 #[.val (.int p1), .val (.int p2), .val (.ref h0.size), .val (.ref hp49.size), .val (.int (13 : Int32)), .unset] [])
      refine own_step (fun _ k => XT.iconstV X64.here hx rfl (0 : Int32) (hb hby at_194) (by decide) k) ?_
      show own_Fin _ _ _ _ _ _ _ T64 (mkF m 195 #[.val (.int p1), .val (.int p2), .val (.ref h0.size), .val (.ref hp49.size), .val (.int (13 : Int32)), .unset] [(.int (0 : Int32))])
      refine own_step (fun _ k => XS.istore X64.here hx rfl (hb hby at_195) rfl (l' := #[.val (.int p1), .val (.int p2), .val (.ref h0.size), .val (.ref hp49.size), .val (.int (13 : Int32)), .val (.int (0 : Int32))]) rfl k) ?_
      show own_Fin _ _ _ _ _ _ _ T64 (mkF m 197 #[.val (.int p1), .val (.int p2), .val (.ref h0.size), .val (.ref hp49.size), .val (.int (13 : Int32)), .val (.int (0 : Int32))] [])
      refine own_step (fun _ k => XS.aloadN X64.here hx rfl (hb hby at_197) rfl rfl k) ?_
      show own_Fin _ _ _ _ _ _ _ T64 (mkF m 198 #[.val (.int p1), .val (.int p2), .val (.ref h0.size), .val (.ref hp49.size), .val (.int (13 : Int32)), .val (.int (0 : Int32))] [(.ref h0.size)])
      refine own_step (fun _ k => XS.iload X64.here hx rfl (hb hby at_198) rfl k) ?_
      show own_Fin _ _ _ _ _ _ _ T64 (mkF m 200 #[.val (.int p1), .val (.int p2), .val (.ref h0.size), .val (.ref hp49.size), .val (.int (13 : Int32)), .val (.int (0 : Int32))] [(.int (13 : Int32)), (.ref h0.size)])
      refine own_ald X64 hx hZ e64 A49 rfl (v := (.ref s13)) 13 (by decide) (by decide) (by rw [z49]; rfl) (hb hby at_200) ?_
      show own_Fin _ _ _ _ _ _ _ T64 (mkF m 201 #[.val (.int p1), .val (.int p2), .val (.ref h0.size), .val (.ref hp49.size), .val (.int (13 : Int32)), .val (.int (0 : Int32))] [(.ref s13)])
      refine own_step (fun _ k => XS.iloadN X64.here hx rfl (hb hby at_201) rfl k) ?_
      show own_Fin _ _ _ _ _ _ _ T64 (mkF m 202 #[.val (.int p1), .val (.int p2), .val (.ref h0.size), .val (.ref hp49.size), .val (.int (13 : Int32)), .val (.int (0 : Int32))] [(.int p2), (.ref s13)])
      have M := rm1 l Z a0 hw hp64 s13 p2 2 (F13.ext E64)
      rw [if_pos h187] at M
      refine own_callV0 X64 hx hZ (argsL := [(.int p2)]) (rest := []) hown (hw _ (List.mem_of_getElem? (i := 34) rfl)) (hw _ (List.mem_of_getElem? (i := 35) rfl)) (hw _ (List.mem_of_getElem? (i := 37) rfl)) (hw _ (List.mem_of_getElem? (i := 36) rfl)) (hw _ (List.mem_of_getElem? (i := 38) rfl)) (hw _ (List.mem_of_getElem? (i := 3) rfl)) (by decide) (E13.ext E64) M e64 0 (Nat.le_of_eq rfl) (by decide) (by decide) (by decide) (by decide) (by rw [hml]; rfl) pd__I_Z rfl rfl (hb hby at_202) ?_
      intro T91 X91 e91
      show own_Fin _ _ _ _ _ _ _ T91 (mkF m 205 #[.val (.int p1), .val (.int p2), .val (.ref h0.size), .val (.ref hp49.size), .val (.int (13 : Int32)), .val (.int (0 : Int32))] [(.int (0 : Int32))])
      refine own_step (fun _ k => XS.iload X91.here hx rfl (hb hby at_205) rfl k) ?_
      show own_Fin _ _ _ _ _ _ _ T91 (mkF m 207 #[.val (.int p1), .val (.int p2), .val (.ref h0.size), .val (.ref hp49.size), .val (.int (13 : Int32)), .val (.int (0 : Int32))] [(.int (0 : Int32)), (.int (0 : Int32))])
      refine own_step (fun _ k => XS.icmpNo X91.here hx rfl (hb hby at_207) rfl (XT.ii_ne_f (by decide)) k) ?_
      show own_Fin _ _ _ _ _ _ _ T91 (mkF m 210 #[.val (.int p1), .val (.int p2), .val (.ref h0.size), .val (.ref hp49.size), .val (.int (13 : Int32)), .val (.int (0 : Int32))] [])
      refine own_step (fun _ k => XT.iconstV X91.here hx rfl (1 : Int32) (hb hby at_210) (by decide) k) ?_
      show own_Fin _ _ _ _ _ _ _ T91 (mkF m 211 #[.val (.int p1), .val (.int p2), .val (.ref h0.size), .val (.ref hp49.size), .val (.int (13 : Int32)), .val (.int (0 : Int32))] [(.int (1 : Int32))])
      refine own_step (fun _ k => XS.goto X91.here hx rfl (pc0 := 211) (pc' := 215) rfl (hb hby at_211) (by decide) (by decide) k) ?_
      show own_Fin _ _ _ _ _ _ _ T91 (mkF m 215 #[.val (.int p1), .val (.int p2), .val (.ref h0.size), .val (.ref hp49.size), .val (.int (13 : Int32)), .val (.int (0 : Int32))] [(.int (1 : Int32))])
      exact own_retZ X91 hx hrt hlk (hb hby at_215) (Or.inr rfl) ⟨rfl, N64⟩ (by decide) (by decide)
    · skip
      refine own_step (fun _ k => XS.icmpNo X64.here hx rfl (hb hby at_187) rfl (XT.ii_lt_f h187) k) ?_
      show own_Fin _ _ _ _ _ _ _ T64 (mkF m 190 #[.val (.int p1), .val (.int p2), .val (.ref h0.size), .val (.ref hp49.size), .val (.int (13 : Int32)), .unset] [])
      refine own_step (fun _ k => XT.iconstV X64.here hx rfl (1 : Int32) (hb hby at_190) (by decide) k) ?_
      show own_Fin _ _ _ _ _ _ _ T64 (mkF m 191 #[.val (.int p1), .val (.int p2), .val (.ref h0.size), .val (.ref hp49.size), .val (.int (13 : Int32)), .unset] [(.int (1 : Int32))])
      refine own_step (fun _ k => XS.goto X64.here hx rfl (pc0 := 191) (pc' := 195) rfl (hb hby at_191) (by decide) (by decide) k) ?_
      show own_Fin _ _ _ _ _ _ _ T64 (mkF m 195 #[.val (.int p1), .val (.int p2), .val (.ref h0.size), .val (.ref hp49.size), .val (.int (13 : Int32)), .unset] [(.int (1 : Int32))])
      refine own_step (fun _ k => XS.istore X64.here hx rfl (hb hby at_195) rfl (l' := #[.val (.int p1), .val (.int p2), .val (.ref h0.size), .val (.ref hp49.size), .val (.int (13 : Int32)), .val (.int (1 : Int32))]) rfl k) ?_
      show own_Fin _ _ _ _ _ _ _ T64 (mkF m 197 #[.val (.int p1), .val (.int p2), .val (.ref h0.size), .val (.ref hp49.size), .val (.int (13 : Int32)), .val (.int (1 : Int32))] [])
      refine own_step (fun _ k => XS.aloadN X64.here hx rfl (hb hby at_197) rfl rfl k) ?_
      show own_Fin _ _ _ _ _ _ _ T64 (mkF m 198 #[.val (.int p1), .val (.int p2), .val (.ref h0.size), .val (.ref hp49.size), .val (.int (13 : Int32)), .val (.int (1 : Int32))] [(.ref h0.size)])
      refine own_step (fun _ k => XS.iload X64.here hx rfl (hb hby at_198) rfl k) ?_
      show own_Fin _ _ _ _ _ _ _ T64 (mkF m 200 #[.val (.int p1), .val (.int p2), .val (.ref h0.size), .val (.ref hp49.size), .val (.int (13 : Int32)), .val (.int (1 : Int32))] [(.int (13 : Int32)), (.ref h0.size)])
      refine own_ald X64 hx hZ e64 A49 rfl (v := (.ref s13)) 13 (by decide) (by decide) (by rw [z49]; rfl) (hb hby at_200) ?_
      show own_Fin _ _ _ _ _ _ _ T64 (mkF m 201 #[.val (.int p1), .val (.int p2), .val (.ref h0.size), .val (.ref hp49.size), .val (.int (13 : Int32)), .val (.int (1 : Int32))] [(.ref s13)])
      refine own_step (fun _ k => XS.iloadN X64.here hx rfl (hb hby at_201) rfl k) ?_
      show own_Fin _ _ _ _ _ _ _ T64 (mkF m 202 #[.val (.int p1), .val (.int p2), .val (.ref h0.size), .val (.ref hp49.size), .val (.int (13 : Int32)), .val (.int (1 : Int32))] [(.int p2), (.ref s13)])
      have M := rm1 l Z a0 hw hp64 s13 p2 2 (F13.ext E64)
      rw [if_neg h187] at M
      refine own_callV0 X64 hx hZ (argsL := [(.int p2)]) (rest := []) hown (hw _ (List.mem_of_getElem? (i := 34) rfl)) (hw _ (List.mem_of_getElem? (i := 35) rfl)) (hw _ (List.mem_of_getElem? (i := 37) rfl)) (hw _ (List.mem_of_getElem? (i := 36) rfl)) (hw _ (List.mem_of_getElem? (i := 38) rfl)) (hw _ (List.mem_of_getElem? (i := 3) rfl)) (by decide) (E13.ext E64) M e64 0 (Nat.le_of_eq rfl) (by decide) (by decide) (by decide) (by decide) (by rw [hml]; rfl) pd__I_Z rfl rfl (hb hby at_202) ?_
      intro T92 X92 e92
      show own_Fin _ _ _ _ _ _ _ T92 (mkF m 205 #[.val (.int p1), .val (.int p2), .val (.ref h0.size), .val (.ref hp49.size), .val (.int (13 : Int32)), .val (.int (1 : Int32))] [(.int (1 : Int32))])
      refine own_step (fun _ k => XS.iload X92.here hx rfl (hb hby at_205) rfl k) ?_
      show own_Fin _ _ _ _ _ _ _ T92 (mkF m 207 #[.val (.int p1), .val (.int p2), .val (.ref h0.size), .val (.ref hp49.size), .val (.int (13 : Int32)), .val (.int (1 : Int32))] [(.int (1 : Int32)), (.int (1 : Int32))])
      refine own_step (fun _ k => XS.icmpNo X92.here hx rfl (hb hby at_207) rfl (XT.ii_ne_f (by decide)) k) ?_
      show own_Fin _ _ _ _ _ _ _ T92 (mkF m 210 #[.val (.int p1), .val (.int p2), .val (.ref h0.size), .val (.ref hp49.size), .val (.int (13 : Int32)), .val (.int (1 : Int32))] [])
      refine own_step (fun _ k => XT.iconstV X92.here hx rfl (1 : Int32) (hb hby at_210) (by decide) k) ?_
      show own_Fin _ _ _ _ _ _ _ T92 (mkF m 211 #[.val (.int p1), .val (.int p2), .val (.ref h0.size), .val (.ref hp49.size), .val (.int (13 : Int32)), .val (.int (1 : Int32))] [(.int (1 : Int32))])
      refine own_step (fun _ k => XS.goto X92.here hx rfl (pc0 := 211) (pc' := 215) rfl (hb hby at_211) (by decide) (by decide) k) ?_
      show own_Fin _ _ _ _ _ _ _ T92 (mkF m 215 #[.val (.int p1), .val (.int p2), .val (.ref h0.size), .val (.ref hp49.size), .val (.int (13 : Int32)), .val (.int (1 : Int32))] [(.int (1 : Int32))])
      exact own_retZ X92 hx hrt hlk (hb hby at_215) (Or.inr rfl) ⟨rfl, N64⟩ (by decide) (by decide)
set_option maxRecDepth 65536 in
set_option maxHeartbeats 40000000 in
theorem comes_1 {Post : Tables → Env → Array Value → State → Outcome → State → Prop} (hpost : ∀ tb e args s v u, (limb_1_1.after args s (.returned v) u = true ∧ limb_1_2.after args s (.returned v) u = true ∧ True) → FrameEnd s (.returned v) u (Jvm.fieldLocs frame_1_writes args s ++ Jvm.arrayLocs frame_1_arrays args s ++ Jvm.staticLocs frame_1_statics s) 16 128 → Post tb e args s (.returned v) u) :
    ArmFor flags0 classFile x code maxLocals ret World_1 tables_1 room_1 Calls_1 rest_1 Pre_1 Post := by
  intro l hfl _ _ p e ha hc hk s m args below hf hA hF happ hP
  obtain ⟨hcalls, hrest, hpre⟩ := hP
  obtain ⟨-, -, -, hnamed, -, -, -, hat⟩ := (Spec.applies_iff hf).mp happ
  obtain ⟨hg, hn⟩ := and_e (Cond.before_iff.mp (show (Jvm.Cond.and given_1 narrow_1).before args s = true from hpre))
  obtain ⟨hg0, hg1⟩ := and_e hg
  obtain ⟨w0, w1, rfl⟩ : ∃ w0 w1 : Value, args = #[w0, w1] := by
    have hs : args.size = 2 := by simpa [Cond.value, given_1] using hg0
    obtain ⟨L⟩ := args
    match L, hs with
    | [w0, w1], _ => exact ⟨w0, w1, rfl⟩
  have hw := fun d (hd : d ∈ tables_1) => atoms_spec (ws := Jvm.Cond.code x code maxLocals ret :: tables_1) hat d (List.mem_cons_of_mem _ hd)
  have hfit : Fit s := fun {y c} hc i hi => by
    obtain ⟨ha, rfl⟩ := Array.getElem?_eq_some_iff.mp hc
    have q := List.all_eq_true.mp ((Array.all_eq_true_iff_forall_mem.mp hF) _ (Array.getElem_mem ha)) i (List.mem_range.mpr hi)
    simpa [Array.getElem?_eq_getElem hi] using q
  obtain ⟨g0, hg2⟩ := and_e hg1
  obtain ⟨i0, ei0⟩ := is_v g0
  obtain rfl : w0 = (.int i0) := Option.some.inj ei0
  obtain ⟨i1, ei1⟩ := is_v hg2
  obtain rfl : w1 = (.int i1) := Option.some.inj ei1
  obtain ⟨c0, hn1⟩ := and_e hn
  obtain ⟨c1, hn2⟩ := and_e hn1
  obtain ⟨c2, hn3⟩ := and_e hn2
  obtain ⟨c3, hn4⟩ := and_e hn3
  obtain ⟨c4, hn5⟩ := and_e hn4
  obtain ⟨c5, hn6⟩ := and_e hn5
  obtain ⟨c6, hn7⟩ := and_e hn6
  obtain ⟨c7, hn8⟩ := and_e hn7
  obtain ⟨c8, hn9⟩ := and_e hn8
  obtain ⟨c9, hn10⟩ := and_e hn9
  obtain ⟨c10, hn11⟩ := and_e hn10
  obtain ⟨c11, hn12⟩ := and_e hn11
  obtain ⟨c12, hn13⟩ := and_e hn12
  obtain ⟨c13, hn14⟩ := and_e hn13
  obtain ⟨c14, hn15⟩ := and_e hn14
  obtain ⟨c15, hn16⟩ := and_e hn15
  obtain ⟨c16, hn17⟩ := and_e hn16
  obtain ⟨c17, hn18⟩ := and_e hn17
  obtain ⟨c18, hn19⟩ := and_e hn18
  obtain ⟨c19, hn20⟩ := and_e hn19
  obtain ⟨c20, hn21⟩ := and_e hn20
  obtain ⟨c21, hn22⟩ := and_e hn21
  obtain ⟨c22, hn23⟩ := and_e hn22
  obtain ⟨c23, hn24⟩ := and_e hn23
  obtain ⟨c24, hn25⟩ := and_e hn24
  obtain ⟨c25, hn26⟩ := and_e hn25
  obtain ⟨c26, hn27⟩ := and_e hn26
  have c27 := hn27
  obtain ⟨s0, v0⟩ := exa_v c0
  have S0 := Sta.start v0 (Or.inr ⟨(hw _ (List.mem_of_getElem? (i := 3) rfl)), (hw _ (List.mem_of_getElem? (i := 4) rfl))⟩)
  have E0 := Exa.start v0 c0
  have F0 := own_fldw v0 c14
  obtain ⟨s1, v1⟩ := exa_v c1
  have S1 := Sta.start v1 (Or.inr ⟨(hw _ (List.mem_of_getElem? (i := 3) rfl)), (hw _ (List.mem_of_getElem? (i := 7) rfl))⟩)
  have E1 := Exa.start v1 c1
  have F1 := own_fldw v1 c24
  obtain ⟨s2, v2⟩ := exa_v c2
  have S2 := Sta.start v2 (Or.inr ⟨(hw _ (List.mem_of_getElem? (i := 3) rfl)), (hw _ (List.mem_of_getElem? (i := 9) rfl))⟩)
  have E2 := Exa.start v2 c2
  have F2 := own_fldw v2 c25
  obtain ⟨s3, v3⟩ := exa_v c3
  have S3 := Sta.start v3 (Or.inr ⟨(hw _ (List.mem_of_getElem? (i := 3) rfl)), (hw _ (List.mem_of_getElem? (i := 11) rfl))⟩)
  have E3 := Exa.start v3 c3
  have F3 := own_fldw v3 c22
  obtain ⟨s4, v4⟩ := exa_v c4
  have S4 := Sta.start v4 (Or.inr ⟨(hw _ (List.mem_of_getElem? (i := 3) rfl)), (hw _ (List.mem_of_getElem? (i := 13) rfl))⟩)
  have E4 := Exa.start v4 c4
  have F4 := own_fldw v4 c17
  obtain ⟨s5, v5⟩ := exa_v c5
  have S5 := Sta.start v5 (Or.inr ⟨(hw _ (List.mem_of_getElem? (i := 3) rfl)), (hw _ (List.mem_of_getElem? (i := 15) rfl))⟩)
  have E5 := Exa.start v5 c5
  have F5 := own_fldw v5 c23
  obtain ⟨s6, v6⟩ := exa_v c6
  have S6 := Sta.start v6 (Or.inr ⟨(hw _ (List.mem_of_getElem? (i := 3) rfl)), (hw _ (List.mem_of_getElem? (i := 17) rfl))⟩)
  have E6 := Exa.start v6 c6
  have F6 := own_fldw v6 c19
  obtain ⟨s7, v7⟩ := exa_v c7
  have S7 := Sta.start v7 (Or.inr ⟨(hw _ (List.mem_of_getElem? (i := 3) rfl)), (hw _ (List.mem_of_getElem? (i := 19) rfl))⟩)
  have E7 := Exa.start v7 c7
  have F7 := own_fldw v7 c21
  obtain ⟨s8, v8⟩ := exa_v c8
  have S8 := Sta.start v8 (Or.inr ⟨(hw _ (List.mem_of_getElem? (i := 3) rfl)), (hw _ (List.mem_of_getElem? (i := 21) rfl))⟩)
  have E8 := Exa.start v8 c8
  have F8 := own_fldw v8 c16
  obtain ⟨s9, v9⟩ := exa_v c9
  have S9 := Sta.start v9 (Or.inr ⟨(hw _ (List.mem_of_getElem? (i := 3) rfl)), (hw _ (List.mem_of_getElem? (i := 23) rfl))⟩)
  have E9 := Exa.start v9 c9
  have F9 := own_fldw v9 c27
  obtain ⟨s10, v10⟩ := exa_v c10
  have S10 := Sta.start v10 (Or.inr ⟨(hw _ (List.mem_of_getElem? (i := 3) rfl)), (hw _ (List.mem_of_getElem? (i := 25) rfl))⟩)
  have E10 := Exa.start v10 c10
  have F10 := own_fldw v10 c15
  obtain ⟨s11, v11⟩ := exa_v c11
  have S11 := Sta.start v11 (Or.inr ⟨(hw _ (List.mem_of_getElem? (i := 3) rfl)), (hw _ (List.mem_of_getElem? (i := 27) rfl))⟩)
  have E11 := Exa.start v11 c11
  have F11 := own_fldw v11 c18
  obtain ⟨s12, v12⟩ := exa_v c12
  have S12 := Sta.start v12 (Or.inr ⟨(hw _ (List.mem_of_getElem? (i := 3) rfl)), (hw _ (List.mem_of_getElem? (i := 29) rfl))⟩)
  have E12 := Exa.start v12 c12
  have F12 := own_fldw v12 c20
  obtain ⟨s13, v13⟩ := exa_v c13
  have S13 := Sta.start v13 (Or.inr ⟨(hw _ (List.mem_of_getElem? (i := 3) rfl)), (hw _ (List.mem_of_getElem? (i := 31) rfl))⟩)
  have E13 := Exa.start v13 c13
  have F13 := own_fldw v13 c26
  obtain ⟨n, o, r1, r2, r3, _, L, rfl, ⟨rfl, hq0⟩, hq⟩ := rm0 l s _ hw tables_1 s.heap i0 i1 s0 s1 s2 s3 s4 s5 s6 s7 s8 s9 s10 s11 s12 s13 S0 E0 F0 S1 E1 F1 S2 E2 F2 S3 E3 F3 S4 E4 F4 S5 E5 F5 S6 E6 F6 S7 E7 F7 S8 E8 F8 S9 E9 F9 S10 E10 F10 S11 E11 F11 S12 E12 F12 S13 E13 F13 p e ha hc hk s m _ below hf ((Spec.applies_iff_loose hf).mp happ).1 ⟨rfl, State.Warmed39.refl s, rfl⟩ trivial
  refine ⟨n, _, r1, r2, r3, hpost _ _ _ _ _ _ ⟨Cond.after_iff.mpr rfl, Cond.after_iff.mpr (eq_i res_at (Term.int_eval (1)) rfl), trivial⟩ ⟨hq.1, hq.2.1, (hq.2.2.sift fun y hy => Or.inr (hq0 y hy)).mono (by decide) (by decide)⟩⟩
theorem main_1_1 : Claimed_1_1 := comes_1 fun _ _ _ _ _ _ h hF => ⟨h.1, hF⟩
theorem main_1_2 : Claimed_1_2 := comes_1 fun _ _ _ _ _ _ h hF => ⟨h.2.1, hF⟩
end Jvm.Pilot.@@N@@
namespace Jvm.Pilot.@@N@@
open Jvm Jvm.ClassFile Sem Op Lib Jvm.Free Jvm.Stand Jvm.Pilot.@@N@@.Jvm.D
/-! MADE BY PROGRAM (witnessworld.py) out of the Statement's table words and the real class files: 13 classes; the members and pool entries that the words name. The judged class is class 1, her method 1. -/
namespace start1
open Jvm.ClassFile
def u (s : String) : CpInfo := .utf8 (stringToUtf16 s)
/-- a pool by its gaps: so many unusable entries, then the entry; so many at the end -/
def gap : Nat → List CpInfo → List CpInfo
  | 0, r => r
  | n + 1, r => .unusable :: gap n r
def poolList (es : List (Nat × CpInfo)) (last : Nat) : List CpInfo := es.foldr (fun e r => gap e.1 (e.2 :: r)) (gap last [])
def pool (es : List (Nat × CpInfo)) (last : Nat) : Array CpInfo := ⟨poolList es last⟩
def fileOf (pool : Array CpInfo) (this : Nat) (attrs : Array Attribute := #[]) (ms : Array MethodInfo := #[]) (fl : Nat := 33) (sup : Nat := 0) (ifs : Array Nat := #[]) (fds : Array FieldInfo := #[]) : ClassFile where
  minorVersion := 0
  majorVersion := 65
  constantPool := pool
  accessFlags := fl
  thisClass := this
  superClass := sup
  interfaces := ifs
  fields := fds
  methods := ms
  attributes := attrs
def plain (name : String) (sup : Option ClassId) : Class where
  name := name
  kind := .ordinary
  loader := none
  accessFlags := 33
  super := sup
  interfaces := #[]
  cf := none
  fields := #[]
  methods := #[]
  instanceTypes := #[]
  staticTypes := #[]
  resolved := #[]
  callSites := []
  init := .initialized
  statics := none
  mirror := none

def pool0 : Array CpInfo := pool [(5, u "<init>"), (0, u "()V"), (1, .class_ 10), (1, u "java/lang/Object")] 113

def k0m0 : Method := { name := "<init>", desc := "()V", sig := { parameters := [], returnType := none }, accessFlags := 1, code := none }
/-- java/lang/Object -/
def k0 : Class := { plain "java/lang/Object" none with
  accessFlags := 33
  interfaces := #[]
  cf := some (fileOf pool0 8 #[] #[{ accessFlags := 1, nameIndex := 5, descriptorIndex := 6, attributes := #[] }] 33 0 #[] #[])
  fields := #[]
  methods := #[k0m0]
  instanceTypes := #[]
  staticTypes := #[]
  resolved := Array.replicate 124 none
  statics := none }

def pool1 : Array CpInfo := pool [(2, .class_ 4), (1, u "java/lang/Object"), (0, u "<init>"), (0, u "()V"), (0, .class_ 8), (0, u "com/example/even_share/evenshare/protocol/ApiKey"), (0, .fieldref 7 10), (0, .nameAndType 11 12), (0, u "FETCH"), (0, u "Lcom/example/even_share/evenshare/protocol/ApiKey;"), (0, .fieldref 7 14), (0, .nameAndType 15 12), (0, u "LIST_OFFSETS"), (0, .fieldref 7 17), (0, .nameAndType 18 12), (0, u "METADATA"), (0, .fieldref 7 20), (0, .nameAndType 21 12), (0, u "OFFSET_COMMIT"), (0, .fieldref 7 23), (0, .nameAndType 24 12), (0, u "OFFSET_FETCH"), (0, .fieldref 7 26), (0, .nameAndType 27 12), (0, u "FIND_COORDINATOR"), (0, .fieldref 7 29), (0, .nameAndType 30 12), (0, u "JOIN_GROUP"), (0, .fieldref 7 32), (0, .nameAndType 33 12), (0, u "HEARTBEAT"), (0, .fieldref 7 35), (0, .nameAndType 36 12), (0, u "LEAVE_GROUP"), (0, .fieldref 7 38), (0, .nameAndType 39 12), (0, u "SYNC_GROUP"), (0, .fieldref 7 41), (0, .nameAndType 42 12), (0, u "DESCRIBE_GROUPS"), (0, .fieldref 7 44), (0, .nameAndType 45 12), (0, u "LIST_GROUPS"), (0, .fieldref 7 47), (0, .nameAndType 48 12), (0, u "API_VERSIONS"), (0, .fieldref 7 50), (0, .nameAndType 51 12), (0, u "DELETE_GROUPS"), (0, .integer 2147483647), (0, .methodref 7 54), (0, .nameAndType 55 56), (0, u "isFlexible"), (0, u "(I)Z"), (0, .class_ 58), (0, u "com/example/even_share/evenshare/protocol/ApiKeyIsFlexiblePinLaw"), (2, u "law"), (0, u "(II)Z")] 7

def k1m0 : Method := { name := "<init>", desc := "()V", sig := { parameters := [], returnType := none }, accessFlags := 1, code := none }
def k1c1 : Code := { maxStack := 4, maxLocals := 6, code := code, exceptionTable := #[], attributes := #[] }
def k1m1 : Method := { name := "law", desc := "(II)Z", sig := { parameters := [.int, .int], returnType := some .boolean }, accessFlags := 9, code := some k1c1 }
/-- com/example/even_share/evenshare/protocol/ApiKeyIsFlexiblePinLaw -/
def k1 : Class := { plain "com/example/even_share/evenshare/protocol/ApiKeyIsFlexiblePinLaw" (some 0) with
  accessFlags := 49
  interfaces := #[]
  cf := some (fileOf pool1 57 #[] #[{ accessFlags := 1, nameIndex := 5, descriptorIndex := 6, attributes := #[] }, { accessFlags := 9, nameIndex := 61, descriptorIndex := 62, attributes := #[] }] 49 2 #[] #[])
  fields := #[]
  methods := #[k1m0, k1m1]
  instanceTypes := #[]
  staticTypes := #[]
  resolved := Array.replicate 70 none
  statics := none }

def pool2 : Array CpInfo := pool [(1, .class_ 2), (0, u "java/lang/constant/Constable"), (0, .class_ 4), (0, u "java/lang/Object")] 6

/-- java/lang/constant/Constable -/
def k2 : Class := { plain "java/lang/constant/Constable" (some 0) with
  accessFlags := 1537
  interfaces := #[]
  cf := some (fileOf pool2 1 #[] #[] 1537 3 #[] #[])
  fields := #[]
  methods := #[]
  instanceTypes := #[]
  staticTypes := #[]
  resolved := Array.replicate 11 none
  statics := none }

def pool3 : Array CpInfo := pool [(1, .class_ 2), (0, u "java/lang/Comparable"), (0, .class_ 4), (0, u "java/lang/Object")] 7

/-- java/lang/Comparable -/
def k3 : Class := { plain "java/lang/Comparable" (some 0) with
  accessFlags := 1537
  interfaces := #[]
  cf := some (fileOf pool3 1 #[] #[] 1537 3 #[] #[])
  fields := #[]
  methods := #[]
  instanceTypes := #[]
  staticTypes := #[]
  resolved := Array.replicate 12 none
  statics := none }

def pool4 : Array CpInfo := pool [(1, .class_ 2), (0, u "java/io/Serializable"), (0, .class_ 4), (0, u "java/lang/Object")] 2

/-- java/io/Serializable -/
def k4 : Class := { plain "java/io/Serializable" (some 0) with
  accessFlags := 1537
  interfaces := #[]
  cf := some (fileOf pool4 1 #[] #[] 1537 3 #[] #[])
  fields := #[]
  methods := #[]
  instanceTypes := #[]
  staticTypes := #[]
  resolved := Array.replicate 7 none
  statics := none }

def pool5 : Array CpInfo := pool [(2, .class_ 4), (1, u "java/lang/Enum"), (0, u "name"), (0, u "Ljava/lang/String;"), (2, u "ordinal"), (0, u "I"), (1, .class_ 14), (1, u "java/lang/Object"), (4, u "hash"), (86, .class_ 108), (1, u "java/lang/Enum$EnumDesc"), (2, .class_ 112), (0, u "java/lang/constant/Constable"), (0, .class_ 114), (0, u "java/lang/Comparable"), (0, .class_ 116), (0, u "java/io/Serializable")] 87

/-- java/lang/Enum -/
def k5 : Class := { plain "java/lang/Enum" (some 0) with
  accessFlags := 1057
  interfaces := #[2, 3, 4]
  cf := some (fileOf pool5 2 #[.nestMembers #[106]] #[] 1057 12 #[111, 113, 115] #[{ accessFlags := 18, nameIndex := 5, descriptorIndex := 6, attributes := #[] }, { accessFlags := 18, nameIndex := 9, descriptorIndex := 10, attributes := #[] }, { accessFlags := 2, nameIndex := 19, descriptorIndex := 10, attributes := #[] }])
  fields := #[{ name := "name", type := (.object "java/lang/String"), accessFlags := 18, slot := 0, constantValue := 0 }, { name := "ordinal", type := .int, accessFlags := 18, slot := 1, constantValue := 0 }, { name := "hash", type := .int, accessFlags := 2, slot := 2, constantValue := 0 }]
  methods := #[]
  instanceTypes := #[(.object "java/lang/String"), .int, .int]
  staticTypes := #[]
  resolved := Array.replicate 204 none
  statics := none }

def pool6 : Array CpInfo := pool [(1, .class_ 2), (0, u "com/example/even_share/evenshare/protocol/ApiKey"), (2, u "FETCH"), (0, u "Lcom/example/even_share/evenshare/protocol/ApiKey;"), (2, u "LIST_OFFSETS"), (2, u "METADATA"), (2, u "OFFSET_COMMIT"), (2, u "OFFSET_FETCH"), (2, u "FIND_COORDINATOR"), (2, u "JOIN_GROUP"), (2, u "HEARTBEAT"), (2, u "LEAVE_GROUP"), (2, u "SYNC_GROUP"), (2, u "DESCRIBE_GROUPS"), (2, u "LIST_GROUPS"), (2, u "API_VERSIONS"), (2, u "DELETE_GROUPS"), (2, u "$VALUES"), (0, u "[Lcom/example/even_share/evenshare/protocol/ApiKey;"), (6, .class_ 58), (1, u "java/lang/Enum"), (8, u "key"), (0, u "I"), (2, u "minVersion"), (2, u "maxVersion"), (0, .fieldref 1 76), (0, .nameAndType 77 68), (0, u "firstFlexibleVersion"), (26, u "isFlexible"), (0, u "(I)Z")] 61

def k6c0 : Code := { maxStack := 2, maxLocals := 2, code := prog_33_method_9_code, exceptionTable := #[], attributes := #[] }
def k6m0 : Method := { name := "isFlexible", desc := "(I)Z", sig := { parameters := [.int], returnType := some .boolean }, accessFlags := 0, code := some k6c0 }
/-- com/example/even_share/evenshare/protocol/ApiKey -/
def k6 : Class := { plain "com/example/even_share/evenshare/protocol/ApiKey" (some 5) with
  accessFlags := 16432
  interfaces := #[]
  cf := some (fileOf pool6 1 #[] #[{ accessFlags := 0, nameIndex := 104, descriptorIndex := 105, attributes := #[] }] 16432 56 #[] #[{ accessFlags := 16409, nameIndex := 5, descriptorIndex := 6, attributes := #[] }, { accessFlags := 16409, nameIndex := 9, descriptorIndex := 6, attributes := #[] }, { accessFlags := 16409, nameIndex := 12, descriptorIndex := 6, attributes := #[] }, { accessFlags := 16409, nameIndex := 15, descriptorIndex := 6, attributes := #[] }, { accessFlags := 16409, nameIndex := 18, descriptorIndex := 6, attributes := #[] }, { accessFlags := 16409, nameIndex := 21, descriptorIndex := 6, attributes := #[] }, { accessFlags := 16409, nameIndex := 24, descriptorIndex := 6, attributes := #[] }, { accessFlags := 16409, nameIndex := 27, descriptorIndex := 6, attributes := #[] }, { accessFlags := 16409, nameIndex := 30, descriptorIndex := 6, attributes := #[] }, { accessFlags := 16409, nameIndex := 33, descriptorIndex := 6, attributes := #[] }, { accessFlags := 16409, nameIndex := 36, descriptorIndex := 6, attributes := #[] }, { accessFlags := 16409, nameIndex := 39, descriptorIndex := 6, attributes := #[] }, { accessFlags := 16409, nameIndex := 42, descriptorIndex := 6, attributes := #[] }, { accessFlags := 16409, nameIndex := 45, descriptorIndex := 6, attributes := #[] }, { accessFlags := 18, nameIndex := 67, descriptorIndex := 68, attributes := #[] }, { accessFlags := 18, nameIndex := 71, descriptorIndex := 68, attributes := #[] }, { accessFlags := 18, nameIndex := 74, descriptorIndex := 68, attributes := #[] }, { accessFlags := 18, nameIndex := 77, descriptorIndex := 68, attributes := #[] }, { accessFlags := 4122, nameIndex := 48, descriptorIndex := 49, attributes := #[] }])
  fields := #[{ name := "FETCH", type := (.object "com/example/even_share/evenshare/protocol/ApiKey"), accessFlags := 16409, slot := 0, constantValue := 0 }, { name := "LIST_OFFSETS", type := (.object "com/example/even_share/evenshare/protocol/ApiKey"), accessFlags := 16409, slot := 1, constantValue := 0 }, { name := "METADATA", type := (.object "com/example/even_share/evenshare/protocol/ApiKey"), accessFlags := 16409, slot := 2, constantValue := 0 }, { name := "OFFSET_COMMIT", type := (.object "com/example/even_share/evenshare/protocol/ApiKey"), accessFlags := 16409, slot := 3, constantValue := 0 }, { name := "OFFSET_FETCH", type := (.object "com/example/even_share/evenshare/protocol/ApiKey"), accessFlags := 16409, slot := 4, constantValue := 0 }, { name := "FIND_COORDINATOR", type := (.object "com/example/even_share/evenshare/protocol/ApiKey"), accessFlags := 16409, slot := 5, constantValue := 0 }, { name := "JOIN_GROUP", type := (.object "com/example/even_share/evenshare/protocol/ApiKey"), accessFlags := 16409, slot := 6, constantValue := 0 }, { name := "HEARTBEAT", type := (.object "com/example/even_share/evenshare/protocol/ApiKey"), accessFlags := 16409, slot := 7, constantValue := 0 }, { name := "LEAVE_GROUP", type := (.object "com/example/even_share/evenshare/protocol/ApiKey"), accessFlags := 16409, slot := 8, constantValue := 0 }, { name := "SYNC_GROUP", type := (.object "com/example/even_share/evenshare/protocol/ApiKey"), accessFlags := 16409, slot := 9, constantValue := 0 }, { name := "DESCRIBE_GROUPS", type := (.object "com/example/even_share/evenshare/protocol/ApiKey"), accessFlags := 16409, slot := 10, constantValue := 0 }, { name := "LIST_GROUPS", type := (.object "com/example/even_share/evenshare/protocol/ApiKey"), accessFlags := 16409, slot := 11, constantValue := 0 }, { name := "API_VERSIONS", type := (.object "com/example/even_share/evenshare/protocol/ApiKey"), accessFlags := 16409, slot := 12, constantValue := 0 }, { name := "DELETE_GROUPS", type := (.object "com/example/even_share/evenshare/protocol/ApiKey"), accessFlags := 16409, slot := 13, constantValue := 0 }, { name := "key", type := .int, accessFlags := 18, slot := 3, constantValue := 0 }, { name := "minVersion", type := .int, accessFlags := 18, slot := 4, constantValue := 0 }, { name := "maxVersion", type := .int, accessFlags := 18, slot := 5, constantValue := 0 }, { name := "firstFlexibleVersion", type := .int, accessFlags := 18, slot := 6, constantValue := 0 }, { name := "$VALUES", type := (.array (.object "com/example/even_share/evenshare/protocol/ApiKey")), accessFlags := 4122, slot := 14, constantValue := 0 }]
  methods := #[k6m0]
  instanceTypes := #[(.object "java/lang/String"), .int, .int, .int, .int, .int, .int]
  staticTypes := #[(.object "com/example/even_share/evenshare/protocol/ApiKey"), (.object "com/example/even_share/evenshare/protocol/ApiKey"), (.object "com/example/even_share/evenshare/protocol/ApiKey"), (.object "com/example/even_share/evenshare/protocol/ApiKey"), (.object "com/example/even_share/evenshare/protocol/ApiKey"), (.object "com/example/even_share/evenshare/protocol/ApiKey"), (.object "com/example/even_share/evenshare/protocol/ApiKey"), (.object "com/example/even_share/evenshare/protocol/ApiKey"), (.object "com/example/even_share/evenshare/protocol/ApiKey"), (.object "com/example/even_share/evenshare/protocol/ApiKey"), (.object "com/example/even_share/evenshare/protocol/ApiKey"), (.object "com/example/even_share/evenshare/protocol/ApiKey"), (.object "com/example/even_share/evenshare/protocol/ApiKey"), (.object "com/example/even_share/evenshare/protocol/ApiKey"), (.array (.object "com/example/even_share/evenshare/protocol/ApiKey"))]
  resolved := Array.replicate 167 none
  statics := some 0 }

def pool7 : Array CpInfo := pool [(1, u "java/lang/Cloneable"), (0, .class_ 1), (0, u "java/lang/Object"), (0, .class_ 3)] 3

/-- java/lang/Cloneable -/
def k7 : Class := { plain "java/lang/Cloneable" (some 0) with
  accessFlags := 1537
  interfaces := #[]
  cf := some (fileOf pool7 2 #[] #[] 1537 4 #[] #[])
  fields := #[]
  methods := #[]
  instanceTypes := #[]
  staticTypes := #[]
  resolved := Array.replicate 8 none
  statics := none }

/-- the primitive byte -/
def k8 : Class := { plain "byte" none with kind := .primitive 'B', accessFlags := 0x411 }
/-- [B -/
def k9 : Class := { plain "[B" (some 0) with kind := .array 8 .byte, interfaces := #[7, 4], accessFlags := 1041 }

/-- the primitive int -/
def k10 : Class := { plain "int" none with kind := .primitive 'I', accessFlags := 0x411 }
/-- [I -/
def k11 : Class := { plain "[I" (some 0) with kind := .array 10 .int, interfaces := #[7, 4], accessFlags := 1041 }

/-- [Lcom/example/even_share/evenshare/protocol/ApiKey; -/
def k12 : Class := { plain "[Lcom/example/even_share/evenshare/protocol/ApiKey;" (some 0) with kind := .array 6 (.object "com/example/even_share/evenshare/protocol/ApiKey"), interfaces := #[7, 4], accessFlags := 1041 }

def heap : Heap := #[{ cls := 6, slots := #[.ref 1, .ref 2, .ref 3, .ref 4, .ref 5, .ref 6, .ref 7, .ref 8, .ref 9, .ref 10, .ref 11, .ref 12, .ref 13, .ref 14, .null], vm := .statics 6 },
  { cls := 6, slots := #[.null, .int 0, .int 0, .int 0, .int 0, .int 0, .int 12], vm := .none },
  { cls := 6, slots := #[.null, .int 0, .int 0, .int 0, .int 0, .int 0, .int 6], vm := .none },
  { cls := 6, slots := #[.null, .int 0, .int 0, .int 0, .int 0, .int 0, .int 9], vm := .none },
  { cls := 6, slots := #[.null, .int 0, .int 0, .int 0, .int 0, .int 0, .int 8], vm := .none },
  { cls := 6, slots := #[.null, .int 0, .int 0, .int 0, .int 0, .int 0, .int 6], vm := .none },
  { cls := 6, slots := #[.null, .int 0, .int 0, .int 0, .int 0, .int 0, .int 3], vm := .none },
  { cls := 6, slots := #[.null, .int 0, .int 0, .int 0, .int 0, .int 0, .int 6], vm := .none },
  { cls := 6, slots := #[.null, .int 0, .int 0, .int 0, .int 0, .int 0, .int 4], vm := .none },
  { cls := 6, slots := #[.null, .int 0, .int 0, .int 0, .int 0, .int 0, .int 4], vm := .none },
  { cls := 6, slots := #[.null, .int 0, .int 0, .int 0, .int 0, .int 0, .int 4], vm := .none },
  { cls := 6, slots := #[.null, .int 0, .int 0, .int 0, .int 0, .int 0, .int 5], vm := .none },
  { cls := 6, slots := #[.null, .int 0, .int 0, .int 0, .int 0, .int 0, .int 3], vm := .none },
  { cls := 6, slots := #[.null, .int 0, .int 0, .int 0, .int 0, .int 0, .int 3], vm := .none },
  { cls := 6, slots := #[.null, .int 0, .int 0, .int 0, .int 0, .int 0, .int 2], vm := .none }]
def classes : Array Class := #[k0, k1, k2, k3, k4, k5, k6, k7, k8, k9, k10, k11, k12]
def interned : List (Array UInt16 × Addr) := []
def slotsUsed : Nat := 113
def theMethod : MethodId := ⟨1, 1⟩
def args0 : Array Value := #[.int 5, .int 6]
def aboutOver (below : List Frame) : State where
  vm := { classes := classes, interned := interned.toArray }
  heap := heap
  slotsUsed := slotsUsed
  threads := #[{ frames := .invoking theMethod args0 :: below }]
def below0 : List Frame := [.native { method := ⟨0, 0⟩, args := #[] }]
def about1 : State := aboutOver below0
def p0 : Program := .bare "" "" ""
def e0 : Env := launch0.env 0 0 0
theorem w_frames : about1.frames = Frame.invoking theMethod args0 :: below0 := rfl
set_option maxRecDepth 65536 in
theorem w_args : argsFit about1.vm theMethod args0 = true := by decide +kernel
set_option maxRecDepth 65536 in
theorem w_heap : heapFits about1 = true := by decide +kernel
set_option maxRecDepth 65536 in
theorem w_runnable : about1.curStatus? = some .runnable := by decide +kernel
set_option maxRecDepth 65536 in
theorem w_alone : about1.alone = true := by decide +kernel
set_option maxRecDepth 65536 in
theorem w_named : about1.methodNamed? x = some theMethod := by decide +kernel
set_option maxRecDepth 65536 in
theorem w_hears : about1.hears theMethod below0 = true := by decide +kernel
set_option maxRecDepth 65536 in
theorem w_ripe : about1.ripe theMethod args0 below0 = true := by decide +kernel
theorem w_running : about1.status = .running := rfl
set_option maxRecDepth 65536 in
theorem w_room : about1.hasRoom e0.platform room_1 = true :=
  launch0.hasRoom_least _ room_1 (by decide +kernel) (by decide +kernel) (by decide +kernel) (by decide +kernel) (by decide +kernel) (by decide +kernel)
theorem allAtoms_all (ts : List Jvm.Cond) (a : Array Jvm.Value) (st : Jvm.State) : (allAtoms ts).before a st = ts.all (fun c => c.before a st) := by
  induction ts with
  | nil => rfl
  | cons c t ih =>
    show (Jvm.Cond.and c (allAtoms t)).before a st = _
    rw [Jvm.Cond.before_and, ih, List.all_cons]
def words1 : List Jvm.Cond := Jvm.Cond.code x code maxLocals ret :: tables_1
/-- a 'code' word, met by the world's own term for the bytes: nothing is compared byte by byte -/
theorem code_word {y : MethodName} {bytes : ByteArray} {mx : Nat} {rt : Option FieldType} {a : Array Value} {s : State} {m : MethodId} {meth : Method} {c : Code} (h1 : s.methodNamed? y = some m) (h2 : s.vm.method? m = some meth) (h3 : meth.code = some c) (h4 : c.code = bytes)
    (h5 : (c.maxLocals == mx && c.exceptionTable.isEmpty && decide (c.maxStack ≤ mostOperands) && decide (meth.sig.returnType = rt) && !meth.locks && decide (parseMethodDescriptor y.desc = some meth.sig)) = true) : (Jvm.Cond.code y bytes mx rt).before a s = true := by
  simp only [Bool.and_eq_true, beq_iff_eq, Bool.not_eq_true', decide_eq_true_eq] at h5
  obtain ⟨⟨⟨⟨⟨g1, g2⟩, g3⟩, g4⟩, g5⟩, g6⟩ := h5
  simp [Cond.before, Cond.holds, Cond.value, h1, h2, h3, h4, g1, g2, g3, g4, g5, g6]
def isCode : Jvm.Cond → Bool
  | .code _ _ _ _ => true
  | _ => false
theorem all_split {L : List Jvm.Cond} {P : Jvm.Cond → Bool} (h1 : L.all (fun c => isCode c || P c) = true) (h2 : ∀ c ∈ L.filter isCode, P c = true) : L.all P = true := by
  refine List.all_eq_true.mpr fun c hc => ?_
  have h := List.all_eq_true.mp h1 c hc
  rcases Bool.eq_false_or_eq_true (isCode c) with hi | hi
  · exact h2 c (List.mem_filter.mpr ⟨hc, hi⟩)
  · simpa [hi] using h
set_option maxRecDepth 65536 in
theorem w_c0 : (Jvm.Cond.code x code maxLocals ret).before args0 about1 = true := code_word (m := ⟨1, 1⟩) (meth := k1m1) (c := k1c1) (by decide +kernel) rfl rfl rfl (by decide +kernel)
set_option maxRecDepth 65536 in
theorem w_c1 : (Jvm.Cond.code ({ cls := "com/example/even_share/evenshare/protocol/ApiKey", name := "isFlexible", desc := "(I)Z" } : Jvm.MethodName) prog_33_method_9_code (2 : Nat) (Option.some Jvm.ClassFile.FieldType.boolean)).before args0 about1 = true := code_word (m := ⟨6, 0⟩) (meth := k6m0) (c := k6c0) (by decide +kernel) rfl rfl rfl (by decide +kernel)
def codes1 : List Jvm.Cond := [Jvm.Cond.code x code maxLocals ret, Jvm.Cond.code ({ cls := "com/example/even_share/evenshare/protocol/ApiKey", name := "isFlexible", desc := "(I)Z" } : Jvm.MethodName) prog_33_method_9_code (2 : Nat) (Option.some Jvm.ClassFile.FieldType.boolean)]
set_option maxRecDepth 65536 in
theorem codes_eq : words1.filter isCode = codes1 := rfl
theorem w_codes : ∀ c ∈ words1.filter isCode, c.before args0 about1 = true := by
  rw [codes_eq]
  intro c hc
  simp only [codes1, List.mem_cons, List.not_mem_nil, or_false] at hc
  rcases hc with rfl | rfl
  · exact w_c0
  · exact w_c1
set_option maxRecDepth 65536 in
theorem w_t1 : (words1.take 24).all (fun c => isCode c || c.before args0 about1) = true := by decide +kernel
set_option maxRecDepth 65536 in
theorem w_t2 : (words1.drop 24).all (fun c => isCode c || c.before args0 about1) = true := by decide +kernel
theorem w_tables : (allAtoms (Jvm.Cond.code x code maxLocals ret :: tables_1)).before args0 about1 = true := by
  rw [allAtoms_all]
  show words1.all (fun c => c.before args0 about1) = true
  refine all_split ?_ w_codes
  rw [← List.take_append_drop 24 words1, List.all_append, w_t1, w_t2]
  rfl
set_option maxRecDepth 65536 in
theorem w_case : (Jvm.Cond.and given_1 narrow_1).before args0 about1 = true := by decide +kernel
theorem w_applies : (headSpec (Jvm.Cond.code x code maxLocals ret :: tables_1) room_1).applies x e0.platform about1 = true :=
  (Spec.applies_iff w_frames).mpr ⟨w_running, w_runnable, w_alone, w_named, w_hears, w_ripe, w_room, w_tables⟩
theorem atStart : AtStart classFile x code maxLocals ret World_1 tables_1 room_1 Calls_1 rest_1 Pre_1 launch0 p0 e0 about1 theMethod args0 below0 :=
  ⟨lists_1, trivial, launch0.admits_env _ _ _, launch0.least_env, fairChoices_fair.cas, fairChoices_fair.clock, w_frames, w_args, w_heap, w_applies, trivial, trivial, w_case⟩
end start1
theorem witness_1 : WitnessClaimed_1 := ⟨start1.p0, start1.e0, start1.about1, start1.theMethod, start1.args0, start1.below0, start1.atStart⟩
end Jvm.Pilot.@@N@@
