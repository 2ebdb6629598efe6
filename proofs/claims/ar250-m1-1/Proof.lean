import JvmDerived
import JvmDerived.Pilot.@@N@@Statement
import JvmDerived.Pilot.@@N@@Code
set_option linter.unusedVariables false
set_option linter.unusedSimpArgs false
namespace Jvm.Pilot.@@N@@
open Jvm Jvm.ClassFile Sem Op Lib Jvm.Free Jvm.Stand Jvm.LawKit Jvm.RoadKit Bundle Jvm.Pilot.@@N@@.Jvm.D
section Own
variable {p : Program} {l : Launch} {e : Env} {R : Room} {s : State} {m : MethodId} {args : Array Value} {below : List Frame} {meth : Method} {c : Code} {T T' : State} {locs : List Loc} {cells slots : Nat} {Z : State} {a0 : Array Value} {h : Heap} {K N : Nat} {Q : Option Value → Heap → List Loc → Prop}
/-- from the state T with the frame g on top the invocation comes to its end, and Q holds of what it leaves -/
def own_Fin (p : Program) (e : Env) (s : State) (below : List Frame) (K N : Nat) (Q : Option Value → Heap → List Loc → Prop) (T : State) (g : JFrame) : Prop :=
  ∃ s₂ o, Steps p.tables e below (T.setTop g) s₂ ∧ s₂.status = .running ∧ Ended s₂ below o ∧ ∃ v L, o = .returned v ∧ Q v s₂.heap L ∧ FrameEnd s o s₂ L K N
/-- a contract of this family: called with as' at the heap h the method returns, and Q holds -/
abbrev own_Met (l : Launch) (Z : State) (y : MethodName) (bytes : ByteArray) (maxL : Nat) (ret : Option FieldType) (ws : List Jvm.Cond) (rm : Room) (as' : Array Value) (h : Heap) (Q : Option Value → Heap → List Loc → Prop) : Prop :=
  MetFree l y (head1 (Jvm.Cond.code y bytes maxL ret :: ws) rm) (fun a U => a = as' ∧ Z.Warmed39 U.vm ∧ U.heap = h) (fun _ _ _ _ _ => True) (fun _ U o U' => ∃ v L, o = .returned v ∧ Q v U'.heap L ∧ FrameEnd U o U' L rm.cells rm.slots)
/-- a method that writes nothing and makes nothing: it returns w -/
def own_Q0 (h : Heap) (w : Value) (v : Option Value) (h' : Heap) (L : List Loc) : Prop := v = some w ∧ L = [] ∧ h' = h
abbrev own_Pure (l : Launch) (Z : State) (y : MethodName) (bytes : ByteArray) (maxL : Nat) (ret : Option FieldType) (fr lo : Nat) (as' : Array Value) (h : Heap) (w : Value) : Prop :=
  own_Met l Z y bytes maxL ret [] ({ frames := fr, cells := 0, slots := 0, locals := lo } : Room) as' h (own_Q0 h w)
theorem own_step {g g' : JFrame} (st : ∀ t, Steps p.tables e below (T'.setTop g') t → Steps p.tables e below (T.setTop g) t) (H : own_Fin p e s below K N Q T' g') : own_Fin p e s below K N Q T g := by
  obtain ⟨s2, o, h1, r⟩ := H
  exact ⟨s2, o, st _ h1, r⟩
theorem own_body {y : MethodName} {bytes : ByteArray} {maxL : Nat} {ret : Option FieldType} {ws : List Jvm.Cond} {rm : Room} {as' : Array Value} (hpn : plainName y.cls = true)
    (F : ∀ (p : Program) (e : Env) (s : State) (m : MethodId) (below : List Frame) (meth : Method) (c : Code) (s₁ : State), p.tables.exec = Jvm.exec → c.code = bytes → c.maxLocals = maxL → Z.Warmed39 s.vm → s.vm.findClass y.cls = some m.cls → meth.name = y.name → meth.sig.returnType = ret → meth.locks = false →
      Stand p l e rm s m as' below meth c s₁ [] 0 0 → s₁.heap = h → own_Fin p e s below rm.cells rm.slots Q s₁ (entryFrame m as' maxL)) : own_Met l Z y bytes maxL ret ws rm as' h Q := by
  refine MetFree.of_bodySF (plainFor_of_name hpn) hisR ?_
  intro p e s m args below meth c s₁ Bd hml0 hP hK
  obtain ⟨rfl, hZ, hh⟩ := hP
  exact F p e s m below meth c s₁ Bd.exec Bd.bytes hml0 hZ (findClass_of_methodNamed Bd.named) (name_of_methodNamed Bd.named Bd.method).1 Bd.returns Bd.notSynchronized (Stand.of_body Bd) (by rw [← hh, Bd.state]; rfl)
theorem own_end (X : Stand p l e R s m args below meth c T locs cells slots) {v : Option Value} (hv : meth.sig.returnType = none → v = none) (hlk : meth.locks = false) {g : JFrame}
    (st : ∀ fs, (∀ (f : JFrame) (acts : List Action), f.method = m → f.locked = none → f.entered = [] → (doReturn e (T.setTop f) acts v).1 = T.setFrames fs) → Steps p.tables e below (T.setTop g) (T.setFrames fs))
    (hQ : Q v T.heap locs) (hk : cells ≤ K) (hn : slots ≤ N) : own_Fin p e s below K N Q T g := by
  obtain ⟨fs, hr, hrun, hended, hW, hsame⟩ := X.leave (v := v) hv hlk
  exact ⟨_, _, st fs hr, hrun, hended, _, _, rfl, hQ, ⟨_, rfl⟩, hW, hsame.mono hk hn⟩
theorem own_retZ (X : Stand p l e R s m args below meth c T locs cells slots) (hx : p.tables.exec = Jvm.exec) (hret : meth.sig.returnType = some .boolean) (hlk : meth.locks = false) {pc : Nat} {Ls : Array Slot} {z : Int32} {rest : List Value} (hd : decode c.code pc = .ok (.ireturn, 1)) (hz : z = 0 ∨ z = 1)
    (hQ : Q (some (.int z)) T.heap locs) (hk : cells ≤ K) (hn : slots ≤ N) : own_Fin p e s below K N Q T (mkF m pc Ls (.int z :: rest)) := by
  refine own_end X (v := some (.int z)) (fun q => by rw [hret] at q; cases q) hlk (fun fs hr => ?_) hQ hk hn
  have hnar : nar .boolean z = z := by rcases hz with rfl | rfl <;> rfl
  exact retN X hx (t := .boolean) hret (Or.inl rfl) hd (by rw [hnar]; exact hr)
theorem own_retA (X : Stand p l e R s m args below meth c T locs cells slots) (hx : p.tables.exec = Jvm.exec) {t : FieldType} (hret : meth.sig.returnType = some t) (ht : t.isReference = true) (hlk : meth.locks = false) {pc : Nat} {Ls : Array Slot} {w : Value} {rest : List Value} (hd : decode c.code pc = .ok (.areturn, 1)) (hw : w.isRef = true)
    (hQ : Q (some w) T.heap locs) (hk : cells ≤ K) (hn : slots ≤ N) : own_Fin p e s below K N Q T (mkF m pc Ls (w :: rest)) := by
  refine own_end X (v := some w) (fun q => by rw [hret] at q; cases q) hlk (fun fs hr => ?_) hQ hk hn
  refine retOut X hx (i := .areturn) hret ?_ (Or.inr (Or.inr (Or.inr (Or.inr ⟨rfl, ht, hw⟩)))) hd hr
  rcases ref_cases hw with rfl | ⟨a, rfl⟩ <;> cases t <;> first | rfl | (cases ht; done)
theorem own_getS (X : Stand p l e R s m args below meth c T locs cells slots) (hx : p.tables.exec = Jvm.exec) (hZ : Z.Warmed39 s.vm) {own O n d : String} {index : Nat} (hown : s.vm.findClass own = some m.cls) (w : (Jvm.Cond.fieldLink own index O n d).before a0 Z = true) (eT : T.heap = h) {v : Value} (F : Sta Z h O n d v)
    {pc : Nat} {Ls : Array Slot} {st : List Value} (hd : decode c.code pc = .ok (.getstatic index, 3)) (H : ∀ T', Stand p l e R s m args below meth c T' locs cells slots → T'.heap = h → own_Fin p e s below K N Q T' (mkF m (pc + 3) Ls (v :: st))) : own_Fin p e s below K N Q T (mkF m pc Ls st) := by
  obtain ⟨T', X', e', st'⟩ := getS (host := "") X hx hZ hown w Via.refl eT F (g := mkF m pc Ls st) rfl hd
  exact own_step st' (H T' X' e')
theorem own_getF (X : Stand p l e R s m args below meth c T locs cells slots) (hx : p.tables.exec = Jvm.exec) (hZ : Z.Warmed39 s.vm) {own O n d : String} {index : Nat} (hown : s.vm.findClass own = some m.cls) (w : (Jvm.Cond.fieldLink own index O n d).before a0 Z = true) (eT : T.heap = h) {a : Addr} {v : Value} (F : Fld Z h a O n d v)
    {pc : Nat} {Ls : Array Slot} {st : List Value} (hd : decode c.code pc = .ok (.getfield index, 3)) (H : ∀ T', Stand p l e R s m args below meth c T' locs cells slots → T'.heap = h → own_Fin p e s below K N Q T' (mkF m (pc + 3) Ls (v :: st))) : own_Fin p e s below K N Q T (mkF m pc Ls (.ref a :: st)) := by
  obtain ⟨T', X', e', st'⟩ := getF (host := "") X hx hZ hown (Or.inl w) Via.refl eT F (g := mkF m pc Ls (.ref a :: st)) rfl rfl hd
  exact own_step st' (H T' X' e')
/-- a static method by its contract -/
theorem own_callS (X : Stand p l e R s m args below meth c T locs cells slots) (hx : p.tables.exec = Jvm.exec) (hZ : Z.Warmed39 s.vm) {own : String} {index : Nat} {y : MethodName} {bytes : ByteArray} {maxL : Nat} {ret : Option FieldType} {rm : Room} {Q' : Option Value → Heap → List Loc → Prop} {argsL rest : List Value}
    (hown : s.vm.findClass own = some m.cls) (w1 : (Jvm.Cond.methodLink own index y).before a0 Z = true) (w2 : (Jvm.Cond.static y).before a0 Z = true) (w3 : (Jvm.Cond.initialized y.cls).before a0 Z = true) (w4 : (Jvm.Cond.code y bytes maxL ret).before a0 Z = true)
    (hy : y.cls ≠ "java/lang/invoke/MethodHandle" ∧ y.cls ≠ "java/lang/invoke/VarHandle") (M : own_Met l Z y bytes maxL ret [] rm argsL.toArray h Q') (eT : T.heap = h) (W : Nat) (hW : (rest.map fun v => v.category).sum ≤ W) (hf : rm.frames + 1 ≤ R.frames) (hl : W + (maxL + 11) + rm.locals ≤ R.locals) (hc : cells + rm.cells ≤ R.cells) (hs : slots + rm.slots ≤ R.slots)
    {pc : Nat} {Ls : Array Slot} {st : List Value} (hml : c.maxLocals = Ls.size) {ps : List FieldType} {r : Option FieldType} (hsig : parseMethodDescriptor y.desc = some ⟨ps, r⟩) (hlen : argsL.length = ps.length) (hst : st = argsL.reverse ++ rest) (hd : decode c.code pc = .ok (.invokestatic index, 3))
    (H : ∀ T' L v, Stand p l e R s m args below meth c T' (locs ++ L) (cells + rm.cells) (slots + rm.slots) → Q' v T'.heap L → own_Fin p e s below K N Q T' (mkF m (pc + 3) Ls (v.toList ++ rest))) : own_Fin p e s below K N Q T (mkF m pc Ls st) := by
  obtain ⟨v, _, ⟨T', L', k', n'⟩, -, X', ⟨Lc, hQ, l', y', z'⟩, st'⟩ := Jvm.LawKit.callS X hx (y := y) hown (mvT hZ w1) (mvT hZ w2) (mvT hZ w3) (mvT hZ w4) hy (backOf (W := W) M hZ w4 w3 hf hl) (g := mkF m pc Ls st) rfl (by rw [hml]) (argsL := argsL) (rest := rest) (lenOf hsig hlen) hst (by show 2 * 0 + _ ≤ _; omega) hd (fun _ _ => ⟨rfl, eT, hc, hs⟩)
  dsimp only [Pt.U, Pt.locs, Pt.cells, Pt.slots] at X' l' y' z' st' hQ
  subst l' y' z'
  exact own_step st' (H T' Lc v X' hQ)
/-- an instance method by its contract, the receiver exactly of the class C -/
theorem own_callV (X : Stand p l e R s m args below meth c T locs cells slots) (hx : p.tables.exec = Jvm.exec) (hZ : Z.Warmed39 s.vm) {own C : String} {index : Nat} {y : MethodName} {bytes : ByteArray} {maxL : Nat} {ret : Option FieldType} {rm : Room} {Q' : Option Value → Heap → List Loc → Prop} {b : Addr} {argsL rest : List Value}
    (hown : s.vm.findClass own = some m.cls) (w1 : (Jvm.Cond.methodLink own index y).before a0 Z = true) (w2 : (Jvm.Cond.declares y).before a0 Z = true) (w3 : (Jvm.Cond.selects C y y).before a0 Z = true) (w4 : (Jvm.Cond.instanceMethod y).before a0 Z = true) (w5 : (Jvm.Cond.code y bytes maxL ret).before a0 Z = true) (w6 : (Jvm.Cond.initialized y.cls).before a0 Z = true)
    (hy : y.cls ≠ "java/lang/invoke/MethodHandle" ∧ y.cls ≠ "java/lang/invoke/VarHandle") (E : Exa Z h b C) (M : own_Met l Z y bytes maxL ret [] rm (.ref b :: argsL).toArray h Q') (eT : T.heap = h) (W : Nat) (hW : (rest.map fun v => v.category).sum ≤ W) (hf : rm.frames + 1 ≤ R.frames) (hl : W + (maxL + 11) + rm.locals ≤ R.locals) (hc : cells + rm.cells ≤ R.cells) (hs : slots + rm.slots ≤ R.slots)
    {pc : Nat} {Ls : Array Slot} {st : List Value} (hml : c.maxLocals = Ls.size) {ps : List FieldType} {r : Option FieldType} (hsig : parseMethodDescriptor y.desc = some ⟨ps, r⟩) (hlen : argsL.length = ps.length) (hst : st = argsL.reverse ++ .ref b :: rest) (hd : decode c.code pc = .ok (.invokevirtual index, 3))
    (H : ∀ T' L v, Stand p l e R s m args below meth c T' (locs ++ L) (cells + rm.cells) (slots + rm.slots) → Q' v T'.heap L → own_Fin p e s below K N Q T' (mkF m (pc + 3) Ls (v.toList ++ rest))) : own_Fin p e s below K N Q T (mkF m pc Ls st) := by
  obtain ⟨cq, kq, q1, q2, q3⟩ := isOf hZ eT E
  obtain ⟨v, _, ⟨T', L', k', n'⟩, -, X', ⟨Lc, hQ, l', y', z'⟩, st'⟩ := X.virtualBack hx (y := y) (z := y) hown (mvT hZ w1) (mvT hZ w2) (notFace_of_selects (args := #[]) (mvT hZ w3)) (mvT hZ w3) (mvT hZ w4) hy (backOf (W := W) M hZ w5 w6 hf hl) q1 q3 (g := mkF m pc Ls st) rfl (by rw [hml]) (Steps.refl _) (argsL := argsL) (rest := rest) (lenOf hsig hlen) hst (by show 2 * 0 + _ ≤ _; omega) hd (fun _ _ => ⟨rfl, eT, hc, hs⟩)
  dsimp only [Pt.U, Pt.locs, Pt.cells, Pt.slots] at X' l' y' z' st' hQ
  subst l' y' z'
  exact own_step (fun _ k => st'.trans k) (H T' Lc v X' hQ)
theorem own_callS0 (X : Stand p l e R s m args below meth c T locs cells slots) (hx : p.tables.exec = Jvm.exec) (hZ : Z.Warmed39 s.vm) {own : String} {index : Nat} {y : MethodName} {bytes : ByteArray} {maxL : Nat} {ret : Option FieldType} {fr lo : Nat} {w : Value} {argsL rest : List Value}
    (hown : s.vm.findClass own = some m.cls) (w1 : (Jvm.Cond.methodLink own index y).before a0 Z = true) (w2 : (Jvm.Cond.static y).before a0 Z = true) (w3 : (Jvm.Cond.initialized y.cls).before a0 Z = true) (w4 : (Jvm.Cond.code y bytes maxL ret).before a0 Z = true)
    (hy : y.cls ≠ "java/lang/invoke/MethodHandle" ∧ y.cls ≠ "java/lang/invoke/VarHandle") (M : own_Pure l Z y bytes maxL ret fr lo argsL.toArray h w) (eT : T.heap = h) (W : Nat) (hW : (rest.map fun v => v.category).sum ≤ W) (hf : fr + 1 ≤ R.frames) (hl : W + (maxL + 11) + lo ≤ R.locals) (hc : cells ≤ R.cells) (hs : slots ≤ R.slots)
    {pc : Nat} {Ls : Array Slot} {st : List Value} (hml : c.maxLocals = Ls.size) {ps : List FieldType} {r : Option FieldType} (hsig : parseMethodDescriptor y.desc = some ⟨ps, r⟩) (hlen : argsL.length = ps.length) (hst : st = argsL.reverse ++ rest) (hd : decode c.code pc = .ok (.invokestatic index, 3))
    (H : ∀ T', Stand p l e R s m args below meth c T' locs cells slots → T'.heap = h → own_Fin p e s below K N Q T' (mkF m (pc + 3) Ls (w :: rest))) : own_Fin p e s below K N Q T (mkF m pc Ls st) := by
  refine own_callS X hx hZ hown w1 w2 w3 w4 hy M eT W hW hf hl hc hs hml hsig hlen hst hd ?_
  rintro T' L v X' ⟨rfl, rfl, q⟩
  rw [List.append_nil] at X'
  exact H T' X' q
theorem own_callV0 (X : Stand p l e R s m args below meth c T locs cells slots) (hx : p.tables.exec = Jvm.exec) (hZ : Z.Warmed39 s.vm) {own C : String} {index : Nat} {y : MethodName} {bytes : ByteArray} {maxL : Nat} {ret : Option FieldType} {fr lo : Nat} {w : Value} {b : Addr} {argsL rest : List Value}
    (hown : s.vm.findClass own = some m.cls) (w1 : (Jvm.Cond.methodLink own index y).before a0 Z = true) (w2 : (Jvm.Cond.declares y).before a0 Z = true) (w3 : (Jvm.Cond.selects C y y).before a0 Z = true) (w4 : (Jvm.Cond.instanceMethod y).before a0 Z = true) (w5 : (Jvm.Cond.code y bytes maxL ret).before a0 Z = true) (w6 : (Jvm.Cond.initialized y.cls).before a0 Z = true)
    (hy : y.cls ≠ "java/lang/invoke/MethodHandle" ∧ y.cls ≠ "java/lang/invoke/VarHandle") (E : Exa Z h b C) (M : own_Pure l Z y bytes maxL ret fr lo (.ref b :: argsL).toArray h w) (eT : T.heap = h) (W : Nat) (hW : (rest.map fun v => v.category).sum ≤ W) (hf : fr + 1 ≤ R.frames) (hl : W + (maxL + 11) + lo ≤ R.locals) (hc : cells ≤ R.cells) (hs : slots ≤ R.slots)
    {pc : Nat} {Ls : Array Slot} {st : List Value} (hml : c.maxLocals = Ls.size) {ps : List FieldType} {r : Option FieldType} (hsig : parseMethodDescriptor y.desc = some ⟨ps, r⟩) (hlen : argsL.length = ps.length) (hst : st = argsL.reverse ++ .ref b :: rest) (hd : decode c.code pc = .ok (.invokevirtual index, 3))
    (H : ∀ T', Stand p l e R s m args below meth c T' locs cells slots → T'.heap = h → own_Fin p e s below K N Q T' (mkF m (pc + 3) Ls (w :: rest))) : own_Fin p e s below K N Q T (mkF m pc Ls st) := by
  refine own_callV X hx hZ hown w1 w2 w3 w4 w5 w6 hy E M eT W hW hf hl hc hs hml hsig hlen hst hd ?_
  rintro T' L v X' ⟨rfl, rfl, q⟩
  rw [List.append_nil] at X'
  exact H T' X' q
end Own
section OwnFacts
variable {Z : State} {h : Heap} {a b : Addr} {C n d : String} {v w : Value} {args : Array Value} {s : State} {t : Term}
theorem own_fld_uni (F : Fld Z h a C n d v) (G : Fld Z h a C n d w) : v = w := by
  obtain ⟨cell, cf, k, i, f, h1, h2, h3, h4, h5, h6, h7⟩ := F
  obtain ⟨cell', cf', k', i', f', g1, g2, g3, g4, g5, g6, g7⟩ := G
  cases h1.symm.trans g1
  cases h2.symm.trans g2
  exact Option.some.inj (h7.symm.trans g7)
theorem own_ne {j k : Int32} (F : Fld Z h a C n d (.int j)) (G : Fld Z h b C n d (.int k)) (hn : j ≠ k) : a ≠ b := fun e => by
  subst e; exact hn (Value.int.inj (own_fld_uni F G))
theorem own_eqi {k : Int32} (q : (Jvm.Cond.eq t (Term.int k)).value args s none s [] = some true) : t.eval args s none [] s = some (.int k) := by
  simp only [Jvm.Cond.value, Term.eval] at q
  cases ht : t.eval args s none [] s with
  | none => simp [ht] at q
  | some x => cases x <;> simp [ht] at q ⊢; exact q
theorem own_fldw {k : Int32} (ev : t.eval args s none [] s = some (.ref a)) (q : (Jvm.Cond.eq (Term.field t C n d) (Term.int k)).value args s none s [] = some true) : Fld s s.heap a C n d (.int k) :=
  Fld.start ((fld_at ev).symm.trans (own_eqi q))
end OwnFacts
theorem pn_com_example_rootbound_rootbound_engine_ChildCollection_Kind : plainName "com/example/rootbound/rootbound/engine/ChildCollection$Kind" = true := by first | (simp [plainName, overriddenIn]; done) | decide +kernel
theorem pn_com_example_rootbound_rootbound_engine_KindIsKeyedPinLaw : plainName "com/example/rootbound/rootbound/engine/KindIsKeyedPinLaw" = true := by first | (simp [plainName, overriddenIn]; done) | decide +kernel
theorem pd___Z : parseMethodDescriptor "()Z" = some ⟨[], (some .boolean)⟩ := by decide +kernel
theorem ef_1 (m : MethodId) (x0 : Addr) : entryFrame m #[(.ref x0)] 1 = mkF m 0 #[.val (.ref x0)] [] := by first | (simp [entryFrame, mkF, argsToLocals, Value.category]; done) | rfl
theorem d1_0 : decode prog_36_method_9_code 0 = .ok (.aload_n 0, 1) := by decide +kernel
theorem d1_1 : decode prog_36_method_9_code 1 = .ok (.getstatic 3, 3) := by decide +kernel
theorem d1_4 : decode prog_36_method_9_code 4 = .ok (.if_acmp .eq 10, 3) := by decide +kernel
theorem d1_7 : decode prog_36_method_9_code 7 = .ok (.aload_n 0, 1) := by decide +kernel
theorem d1_8 : decode prog_36_method_9_code 8 = .ok (.getstatic 10, 3) := by decide +kernel
theorem d1_11 : decode prog_36_method_9_code 11 = .ok (.if_acmp .ne 7, 3) := by decide +kernel
theorem d1_14 : decode prog_36_method_9_code 14 = .ok (.iconst 1, 1) := by decide +kernel
theorem d1_15 : decode prog_36_method_9_code 15 = .ok (.goto 4, 3) := by decide +kernel
theorem d1_18 : decode prog_36_method_9_code 18 = .ok (.iconst 0, 1) := by decide +kernel
theorem d1_19 : decode prog_36_method_9_code 19 = .ok (.ireturn, 1) := by decide +kernel
set_option maxRecDepth 65536 in
set_option maxHeartbeats 40000000 in
theorem rm1 (l : Launch) (Z : State) (a0 : Array Value) (hw : ∀ d ∈ tables_1, d.before a0 Z = true) (h0 : Heap) (a s0 s2 : Addr) (S0 : Sta Z h0 "com/example/rootbound/rootbound/engine/ChildCollection$Kind" "LIST" "Lcom/example/rootbound/rootbound/engine/ChildCollection$Kind;" (.ref s0)) (S2 : Sta Z h0 "com/example/rootbound/rootbound/engine/ChildCollection$Kind" "MAP" "Lcom/example/rootbound/rootbound/engine/ChildCollection$Kind;" (.ref s2)) :
    own_Pure l Z (⟨"com/example/rootbound/rootbound/engine/ChildCollection$Kind", "isKeyed", "()Z"⟩ : MethodName) prog_36_method_9_code 1 (some .boolean) 0 0 #[(.ref a)] h0 (.int (if a = s0 ∨ a = s2 then 1 else 0)) := by
  refine own_body pn_com_example_rootbound_rootbound_engine_ChildCollection_Kind ?_
  intro p e s m below meth c s₁ hx hby hml hZ hown hnm hrt hlk X0 e0
  rw [ef_1]
  show own_Fin _ _ _ _ _ _ _ s₁ (mkF m 0 #[.val (.ref a)] [])
  refine own_step (fun _ k => XS.aloadN X0.here hx rfl (hb hby d1_0) rfl rfl k) ?_
  show own_Fin _ _ _ _ _ _ _ s₁ (mkF m 1 #[.val (.ref a)] [(.ref a)])
  refine own_getS X0 hx hZ hown (hw _ (List.mem_of_getElem? (i := 8) rfl)) e0 S0 (hb hby d1_1) ?_
  intro T1 X1 e1
  show own_Fin _ _ _ _ _ _ _ T1 (mkF m 4 #[.val (.ref a)] [(.ref s0), (.ref a)])
  by_cases h4 : a = s0
  · skip
    refine own_step (fun _ k => XT.acmpYes X1.here hx rfl (pc0 := 4) (pc' := 14) rfl (hb hby d1_4) rfl rfl rfl (XT.aa_eq_t (congrArg Value.ref h4)) (by decide) (by decide) k) ?_
    show own_Fin _ _ _ _ _ _ _ T1 (mkF m 14 #[.val (.ref a)] [])
    refine own_step (fun _ k => XT.iconstV X1.here hx rfl (1 : Int32) (hb hby d1_14) (by decide) k) ?_
    show own_Fin _ _ _ _ _ _ _ T1 (mkF m 15 #[.val (.ref a)] [(.int (1 : Int32))])
    refine own_step (fun _ k => XS.goto X1.here hx rfl (pc0 := 15) (pc' := 19) rfl (hb hby d1_15) (by decide) (by decide) k) ?_
    show own_Fin _ _ _ _ _ _ _ T1 (mkF m 19 #[.val (.ref a)] [(.int (1 : Int32))])
    exact own_retZ X1 hx hrt hlk (hb hby d1_19) (Or.inr rfl) ⟨by simp [h4], rfl, e1⟩ (Nat.le_refl _) (Nat.le_refl _)
  · skip
    refine own_step (fun _ k => XT.acmpNo X1.here hx rfl (hb hby d1_4) rfl rfl rfl (XT.aa_eq_f (fun q => h4 (Value.ref.inj q))) k) ?_
    show own_Fin _ _ _ _ _ _ _ T1 (mkF m 7 #[.val (.ref a)] [])
    refine own_step (fun _ k => XS.aloadN X1.here hx rfl (hb hby d1_7) rfl rfl k) ?_
    show own_Fin _ _ _ _ _ _ _ T1 (mkF m 8 #[.val (.ref a)] [(.ref a)])
    refine own_getS X1 hx hZ hown (hw _ (List.mem_of_getElem? (i := 18) rfl)) e1 S2 (hb hby d1_8) ?_
    intro T2 X2 e2
    show own_Fin _ _ _ _ _ _ _ T2 (mkF m 11 #[.val (.ref a)] [(.ref s2), (.ref a)])
    by_cases h11 : a = s2
    · skip
      refine own_step (fun _ k => XT.acmpNo X2.here hx rfl (hb hby d1_11) rfl rfl rfl (XT.aa_ne_f (congrArg Value.ref h11)) k) ?_
      show own_Fin _ _ _ _ _ _ _ T2 (mkF m 14 #[.val (.ref a)] [])
      refine own_step (fun _ k => XT.iconstV X2.here hx rfl (1 : Int32) (hb hby d1_14) (by decide) k) ?_
      show own_Fin _ _ _ _ _ _ _ T2 (mkF m 15 #[.val (.ref a)] [(.int (1 : Int32))])
      refine own_step (fun _ k => XS.goto X2.here hx rfl (pc0 := 15) (pc' := 19) rfl (hb hby d1_15) (by decide) (by decide) k) ?_
      show own_Fin _ _ _ _ _ _ _ T2 (mkF m 19 #[.val (.ref a)] [(.int (1 : Int32))])
      exact own_retZ X2 hx hrt hlk (hb hby d1_19) (Or.inr rfl) ⟨by simp [h4, h11], rfl, e2⟩ (Nat.le_refl _) (Nat.le_refl _)
    · skip
      refine own_step (fun _ k => XT.acmpYes X2.here hx rfl (pc0 := 11) (pc' := 18) rfl (hb hby d1_11) rfl rfl rfl (XT.aa_ne_t (fun q => h11 (Value.ref.inj q))) (by decide) (by decide) k) ?_
      show own_Fin _ _ _ _ _ _ _ T2 (mkF m 18 #[.val (.ref a)] [])
      refine own_step (fun _ k => XT.iconstV X2.here hx rfl (0 : Int32) (hb hby d1_18) (by decide) k) ?_
      show own_Fin _ _ _ _ _ _ _ T2 (mkF m 19 #[.val (.ref a)] [(.int (0 : Int32))])
      exact own_retZ X2 hx hrt hlk (hb hby d1_19) (Or.inl rfl) ⟨by simp [h4, h11], rfl, e2⟩ (Nat.le_refl _) (Nat.le_refl _)
theorem d2_0 : decode prog_36_method_10_code 0 = .ok (.aload_n 0, 1) := by decide +kernel
theorem d2_1 : decode prog_36_method_10_code 1 = .ok (.getstatic 7, 3) := by decide +kernel
theorem d2_4 : decode prog_36_method_10_code 4 = .ok (.if_acmp .eq 7, 3) := by decide +kernel
theorem d2_7 : decode prog_36_method_10_code 7 = .ok (.iconst 1, 1) := by decide +kernel
theorem d2_8 : decode prog_36_method_10_code 8 = .ok (.goto 4, 3) := by decide +kernel
theorem d2_11 : decode prog_36_method_10_code 11 = .ok (.iconst 0, 1) := by decide +kernel
theorem d2_12 : decode prog_36_method_10_code 12 = .ok (.ireturn, 1) := by decide +kernel
set_option maxRecDepth 65536 in
set_option maxHeartbeats 40000000 in
theorem rm2 (l : Launch) (Z : State) (a0 : Array Value) (hw : ∀ d ∈ tables_1, d.before a0 Z = true) (h0 : Heap) (a s1 : Addr) (S1 : Sta Z h0 "com/example/rootbound/rootbound/engine/ChildCollection$Kind" "SET" "Lcom/example/rootbound/rootbound/engine/ChildCollection$Kind;" (.ref s1)) :
    own_Pure l Z (⟨"com/example/rootbound/rootbound/engine/ChildCollection$Kind", "placesElements", "()Z"⟩ : MethodName) prog_36_method_10_code 1 (some .boolean) 0 0 #[(.ref a)] h0 (.int (if a = s1 then 0 else 1)) := by
  refine own_body pn_com_example_rootbound_rootbound_engine_ChildCollection_Kind ?_
  intro p e s m below meth c s₁ hx hby hml hZ hown hnm hrt hlk X0 e0
  rw [ef_1]
  show own_Fin _ _ _ _ _ _ _ s₁ (mkF m 0 #[.val (.ref a)] [])
  refine own_step (fun _ k => XS.aloadN X0.here hx rfl (hb hby d2_0) rfl rfl k) ?_
  show own_Fin _ _ _ _ _ _ _ s₁ (mkF m 1 #[.val (.ref a)] [(.ref a)])
  refine own_getS X0 hx hZ hown (hw _ (List.mem_of_getElem? (i := 14) rfl)) e0 S1 (hb hby d2_1) ?_
  intro T1 X1 e1
  show own_Fin _ _ _ _ _ _ _ T1 (mkF m 4 #[.val (.ref a)] [(.ref s1), (.ref a)])
  by_cases h4 : a = s1
  · skip
    refine own_step (fun _ k => XT.acmpYes X1.here hx rfl (pc0 := 4) (pc' := 11) rfl (hb hby d2_4) rfl rfl rfl (XT.aa_eq_t (congrArg Value.ref h4)) (by decide) (by decide) k) ?_
    show own_Fin _ _ _ _ _ _ _ T1 (mkF m 11 #[.val (.ref a)] [])
    refine own_step (fun _ k => XT.iconstV X1.here hx rfl (0 : Int32) (hb hby d2_11) (by decide) k) ?_
    show own_Fin _ _ _ _ _ _ _ T1 (mkF m 12 #[.val (.ref a)] [(.int (0 : Int32))])
    exact own_retZ X1 hx hrt hlk (hb hby d2_12) (Or.inl rfl) ⟨by simp [h4], rfl, e1⟩ (Nat.le_refl _) (Nat.le_refl _)
  · skip
    refine own_step (fun _ k => XT.acmpNo X1.here hx rfl (hb hby d2_4) rfl rfl rfl (XT.aa_eq_f (fun q => h4 (Value.ref.inj q))) k) ?_
    show own_Fin _ _ _ _ _ _ _ T1 (mkF m 7 #[.val (.ref a)] [])
    refine own_step (fun _ k => XT.iconstV X1.here hx rfl (1 : Int32) (hb hby d2_7) (by decide) k) ?_
    show own_Fin _ _ _ _ _ _ _ T1 (mkF m 8 #[.val (.ref a)] [(.int (1 : Int32))])
    refine own_step (fun _ k => XS.goto X1.here hx rfl (pc0 := 8) (pc' := 12) rfl (hb hby d2_8) (by decide) (by decide) k) ?_
    show own_Fin _ _ _ _ _ _ _ T1 (mkF m 12 #[.val (.ref a)] [(.int (1 : Int32))])
    exact own_retZ X1 hx hrt hlk (hb hby d2_12) (Or.inr rfl) ⟨by simp [h4], rfl, e1⟩ (Nat.le_refl _) (Nat.le_refl _)
theorem ef_0 (m : MethodId) (x0 : Int32) : entryFrame m #[(.int x0)] maxLocals = mkF m 0 #[.val (.int x0), .unset, .unset, .unset, .unset] [] := by first | (simp [entryFrame, mkF, argsToLocals, Value.category, maxLocals]; done) | rfl
set_option maxRecDepth 65536 in
set_option maxHeartbeats 40000000 in
theorem rm0 (l : Launch) (Z : State) (a0 : Array Value) (hw : ∀ d ∈ tables_1, d.before a0 Z = true) (ws : List Jvm.Cond) (h0 : Heap) (p1 : Int32) (s0 s1 s2 s3 : Addr) (S0 : Sta Z h0 "com/example/rootbound/rootbound/engine/ChildCollection$Kind" "LIST" "Lcom/example/rootbound/rootbound/engine/ChildCollection$Kind;" (.ref s0)) (E0 : Exa Z h0 s0 "com/example/rootbound/rootbound/engine/ChildCollection$Kind") (S1 : Sta Z h0 "com/example/rootbound/rootbound/engine/ChildCollection$Kind" "SET" "Lcom/example/rootbound/rootbound/engine/ChildCollection$Kind;" (.ref s1)) (E1 : Exa Z h0 s1 "com/example/rootbound/rootbound/engine/ChildCollection$Kind") (S2 : Sta Z h0 "com/example/rootbound/rootbound/engine/ChildCollection$Kind" "MAP" "Lcom/example/rootbound/rootbound/engine/ChildCollection$Kind;" (.ref s2)) (E2 : Exa Z h0 s2 "com/example/rootbound/rootbound/engine/ChildCollection$Kind") (S3 : Sta Z h0 "com/example/rootbound/rootbound/engine/ChildCollection$Kind" "ONE" "Lcom/example/rootbound/rootbound/engine/ChildCollection$Kind;" (.ref s3)) (E3 : Exa Z h0 s3 "com/example/rootbound/rootbound/engine/ChildCollection$Kind") (d10 : s1 ≠ s0) (d12 : s1 ≠ s2) (d30 : s3 ≠ s0) (d32 : s3 ≠ s2) (d01 : s0 ≠ s1) (d21 : s2 ≠ s1) :
    own_Met l Z x code maxLocals ret ws room_1 #[(.int p1)] h0 (own_Q0 h0 (.int 1)) := by
  refine own_body (y := x) pn_com_example_rootbound_rootbound_engine_KindIsKeyedPinLaw ?_
  intro p e s m below meth c s₁ hx hby hml hZ hown hnm hrt hlk X0 e0
  replace hown : s.vm.findClass "com/example/rootbound/rootbound/engine/KindIsKeyedPinLaw" = some m.cls := hown
  replace hml : c.maxLocals = 5 := hml
  rw [ef_0]
  show own_Fin _ _ _ _ _ _ _ s₁ (mkF m 0 #[.val (.int p1), .unset, .unset, .unset, .unset] [])
  refine own_step (fun _ k => XS.iloadN X0.here hx rfl (hb hby at_0) rfl k) ?_
  show own_Fin _ _ _ _ _ _ _ s₁ (mkF m 1 #[.val (.int p1), .unset, .unset, .unset, .unset] [(.int p1)])
  refine own_step (fun _ k => XT.iconstV X0.here hx rfl (3 : Int32) (hb hby at_1) (by decide) k) ?_
  show own_Fin _ _ _ _ _ _ _ s₁ (mkF m 2 #[.val (.int p1), .unset, .unset, .unset, .unset] [(.int (3 : Int32)), (.int p1)])
  refine own_step (fun _ k => XS.iand X0.here hx rfl (hb hby at_2) rfl k) ?_
  show own_Fin _ _ _ _ _ _ _ s₁ (mkF m 3 #[.val (.int p1), .unset, .unset, .unset, .unset] [(.int (p1 &&& (3 : Int32)))])
  refine own_step (fun _ k => XS.istoreN X0.here hx rfl (hb hby at_3) rfl (l' := #[.val (.int p1), .val (.int (p1 &&& (3 : Int32))), .unset, .unset, .unset]) rfl k) ?_
  show own_Fin _ _ _ _ _ _ _ s₁ (mkF m 4 #[.val (.int p1), .val (.int (p1 &&& (3 : Int32))), .unset, .unset, .unset] [])
  refine own_step (fun _ k => XS.iloadN X0.here hx rfl (hb hby at_4) rfl k) ?_
  show own_Fin _ _ _ _ _ _ _ s₁ (mkF m 5 #[.val (.int p1), .val (.int (p1 &&& (3 : Int32))), .unset, .unset, .unset] [(.int (p1 &&& (3 : Int32)))])
  by_cases h5 : (p1 &&& (3 : Int32)) = 0
  · skip
    refine own_step (fun _ k => XS.ifNo X0.here hx rfl (hb hby at_5) rfl (XT.i0_ne_f h5) k) ?_
    show own_Fin _ _ _ _ _ _ _ s₁ (mkF m 8 #[.val (.int p1), .val (.int (p1 &&& (3 : Int32))), .unset, .unset, .unset] [])
    refine own_getS X0 hx hZ hown (hw _ (List.mem_of_getElem? (i := 0) rfl)) e0 S0 (hb hby at_8) ?_
    intro T1 X1 e1
    show own_Fin _ _ _ _ _ _ _ T1 (mkF m 11 #[.val (.int p1), .val (.int (p1 &&& (3 : Int32))), .unset, .unset, .unset] [(.ref s0)])
    refine own_step (fun _ k => XS.astoreN X1.here hx rfl (hb hby at_11) rfl rfl (l' := #[.val (.int p1), .val (.int (p1 &&& (3 : Int32))), .val (.ref s0), .unset, .unset]) rfl k) ?_
    show own_Fin _ _ _ _ _ _ _ T1 (mkF m 12 #[.val (.int p1), .val (.int (p1 &&& (3 : Int32))), .val (.ref s0), .unset, .unset] [])
    refine own_step (fun _ k => XT.iconstV X1.here hx rfl (1 : Int32) (hb hby at_12) (by decide) k) ?_
    show own_Fin _ _ _ _ _ _ _ T1 (mkF m 13 #[.val (.int p1), .val (.int (p1 &&& (3 : Int32))), .val (.ref s0), .unset, .unset] [(.int (1 : Int32))])
    refine own_step (fun _ k => XS.istoreN X1.here hx rfl (hb hby at_13) rfl (l' := #[.val (.int p1), .val (.int (p1 &&& (3 : Int32))), .val (.ref s0), .val (.int (1 : Int32)), .unset]) rfl k) ?_
    show own_Fin _ _ _ _ _ _ _ T1 (mkF m 14 #[.val (.int p1), .val (.int (p1 &&& (3 : Int32))), .val (.ref s0), .val (.int (1 : Int32)), .unset] [])
    refine own_step (fun _ k => XS.goto X1.here hx rfl (pc0 := 14) (pc' := 51) rfl (hb hby at_14) (by decide) (by decide) k) ?_
    show own_Fin _ _ _ _ _ _ _ T1 (mkF m 51 #[.val (.int p1), .val (.int (p1 &&& (3 : Int32))), .val (.ref s0), .val (.int (1 : Int32)), .unset] [])
    refine own_step (fun _ k => XS.aloadN X1.here hx rfl (hb hby at_51) rfl rfl k) ?_
    show own_Fin _ _ _ _ _ _ _ T1 (mkF m 52 #[.val (.int p1), .val (.int (p1 &&& (3 : Int32))), .val (.ref s0), .val (.int (1 : Int32)), .unset] [(.ref s0)])
    have M := rm1 l Z a0 hw h0 s0 s0 s2 S0 S2
    rw [if_pos (by simp)] at M
    refine own_callV0 X1 hx hZ (argsL := []) (rest := []) hown (hw _ (List.mem_of_getElem? (i := 3) rfl)) (hw _ (List.mem_of_getElem? (i := 4) rfl)) (hw _ (List.mem_of_getElem? (i := 6) rfl)) (hw _ (List.mem_of_getElem? (i := 5) rfl)) (hw _ (List.mem_of_getElem? (i := 7) rfl)) (hw _ (List.mem_of_getElem? (i := 1) rfl)) (by decide) E0 M e1 0 (Nat.le_of_eq rfl) (by decide) (by decide) (Nat.le_refl _) (Nat.le_refl _) (by rw [hml]; rfl) pd___Z rfl rfl (hb hby at_52) ?_
    intro T2 X2 e2
    show own_Fin _ _ _ _ _ _ _ T2 (mkF m 55 #[.val (.int p1), .val (.int (p1 &&& (3 : Int32))), .val (.ref s0), .val (.int (1 : Int32)), .unset] [(.int (1 : Int32))])
    refine own_step (fun _ k => XS.istore X2.here hx rfl (hb hby at_55) rfl (l' := #[.val (.int p1), .val (.int (p1 &&& (3 : Int32))), .val (.ref s0), .val (.int (1 : Int32)), .val (.int (1 : Int32))]) rfl k) ?_
    show own_Fin _ _ _ _ _ _ _ T2 (mkF m 57 #[.val (.int p1), .val (.int (p1 &&& (3 : Int32))), .val (.ref s0), .val (.int (1 : Int32)), .val (.int (1 : Int32))] [])
    refine own_step (fun _ k => XS.iload X2.here hx rfl (hb hby at_57) rfl k) ?_
    show own_Fin _ _ _ _ _ _ _ T2 (mkF m 59 #[.val (.int p1), .val (.int (p1 &&& (3 : Int32))), .val (.ref s0), .val (.int (1 : Int32)), .val (.int (1 : Int32))] [(.int (1 : Int32))])
    refine own_step (fun _ k => XS.iloadN X2.here hx rfl (hb hby at_59) rfl k) ?_
    show own_Fin _ _ _ _ _ _ _ T2 (mkF m 60 #[.val (.int p1), .val (.int (p1 &&& (3 : Int32))), .val (.ref s0), .val (.int (1 : Int32)), .val (.int (1 : Int32))] [(.int (1 : Int32)), (.int (1 : Int32))])
    refine own_step (fun _ k => XS.icmpNo X2.here hx rfl (hb hby at_60) rfl (XT.ii_ne_f (by decide)) k) ?_
    show own_Fin _ _ _ _ _ _ _ T2 (mkF m 63 #[.val (.int p1), .val (.int (p1 &&& (3 : Int32))), .val (.ref s0), .val (.int (1 : Int32)), .val (.int (1 : Int32))] [])
    refine own_step (fun _ k => XS.iload X2.here hx rfl (hb hby at_63) rfl k) ?_
    show own_Fin _ _ _ _ _ _ _ T2 (mkF m 65 #[.val (.int p1), .val (.int (p1 &&& (3 : Int32))), .val (.ref s0), .val (.int (1 : Int32)), .val (.int (1 : Int32))] [(.int (1 : Int32))])
    refine own_step (fun _ k => XS.ifNo X2.here hx rfl (hb hby at_65) rfl (XT.i0_eq_f (by decide)) k) ?_
    show own_Fin _ _ _ _ _ _ _ T2 (mkF m 68 #[.val (.int p1), .val (.int (p1 &&& (3 : Int32))), .val (.ref s0), .val (.int (1 : Int32)), .val (.int (1 : Int32))] [])
    refine own_step (fun _ k => XS.aloadN X2.here hx rfl (hb hby at_68) rfl rfl k) ?_
    show own_Fin _ _ _ _ _ _ _ T2 (mkF m 69 #[.val (.int p1), .val (.int (p1 &&& (3 : Int32))), .val (.ref s0), .val (.int (1 : Int32)), .val (.int (1 : Int32))] [(.ref s0)])
    have M2 := rm2 l Z a0 hw h0 s0 s1 S1
    rw [if_neg d01] at M2
    refine own_callV0 X2 hx hZ (argsL := []) (rest := []) hown (hw _ (List.mem_of_getElem? (i := 9) rfl)) (hw _ (List.mem_of_getElem? (i := 10) rfl)) (hw _ (List.mem_of_getElem? (i := 12) rfl)) (hw _ (List.mem_of_getElem? (i := 11) rfl)) (hw _ (List.mem_of_getElem? (i := 13) rfl)) (hw _ (List.mem_of_getElem? (i := 1) rfl)) (by decide) E0 M2 e2 0 (Nat.le_of_eq rfl) (by decide) (by decide) (Nat.le_refl _) (Nat.le_refl _) (by rw [hml]; rfl) pd___Z rfl rfl (hb hby at_69) ?_
    intro T3 X3 e3
    show own_Fin _ _ _ _ _ _ _ T3 (mkF m 72 #[.val (.int p1), .val (.int (p1 &&& (3 : Int32))), .val (.ref s0), .val (.int (1 : Int32)), .val (.int (1 : Int32))] [(.int (1 : Int32))])
    refine own_step (fun _ k => XS.ifNo X3.here hx rfl (hb hby at_72) rfl (XT.i0_eq_f (by decide)) k) ?_
    show own_Fin _ _ _ _ _ _ _ T3 (mkF m 75 #[.val (.int p1), .val (.int (p1 &&& (3 : Int32))), .val (.ref s0), .val (.int (1 : Int32)), .val (.int (1 : Int32))] [])
    refine own_step (fun _ k => XT.iconstV X3.here hx rfl (1 : Int32) (hb hby at_75) (by decide) k) ?_
    show own_Fin _ _ _ _ _ _ _ T3 (mkF m 76 #[.val (.int p1), .val (.int (p1 &&& (3 : Int32))), .val (.ref s0), .val (.int (1 : Int32)), .val (.int (1 : Int32))] [(.int (1 : Int32))])
    refine own_step (fun _ k => XS.goto X3.here hx rfl (pc0 := 76) (pc' := 80) rfl (hb hby at_76) (by decide) (by decide) k) ?_
    show own_Fin _ _ _ _ _ _ _ T3 (mkF m 80 #[.val (.int p1), .val (.int (p1 &&& (3 : Int32))), .val (.ref s0), .val (.int (1 : Int32)), .val (.int (1 : Int32))] [(.int (1 : Int32))])
    exact own_retZ X3 hx hrt hlk (hb hby at_80) (Or.inr rfl) ⟨rfl, rfl, e3⟩ (Nat.le_refl _) (Nat.le_refl _)
  · skip
    refine own_step (fun _ k => XS.ifYes X0.here hx rfl (pc0 := 5) (pc' := 17) rfl (hb hby at_5) rfl (XT.i0_ne_t h5) (by decide) (by decide) k) ?_
    show own_Fin _ _ _ _ _ _ _ s₁ (mkF m 17 #[.val (.int p1), .val (.int (p1 &&& (3 : Int32))), .unset, .unset, .unset] [])
    refine own_step (fun _ k => XS.iloadN X0.here hx rfl (hb hby at_17) rfl k) ?_
    show own_Fin _ _ _ _ _ _ _ s₁ (mkF m 18 #[.val (.int p1), .val (.int (p1 &&& (3 : Int32))), .unset, .unset, .unset] [(.int (p1 &&& (3 : Int32)))])
    refine own_step (fun _ k => XT.iconstV X0.here hx rfl (1 : Int32) (hb hby at_18) (by decide) k) ?_
    show own_Fin _ _ _ _ _ _ _ s₁ (mkF m 19 #[.val (.int p1), .val (.int (p1 &&& (3 : Int32))), .unset, .unset, .unset] [(.int (1 : Int32)), (.int (p1 &&& (3 : Int32)))])
    by_cases h19 : (p1 &&& (3 : Int32)) = (1 : Int32)
    · skip
      refine own_step (fun _ k => XS.icmpNo X0.here hx rfl (hb hby at_19) rfl (XT.ii_ne_f h19) k) ?_
      show own_Fin _ _ _ _ _ _ _ s₁ (mkF m 22 #[.val (.int p1), .val (.int (p1 &&& (3 : Int32))), .unset, .unset, .unset] [])
      refine own_getS X0 hx hZ hown (hw _ (List.mem_of_getElem? (i := 21) rfl)) e0 S1 (hb hby at_22) ?_
      intro T4 X4 e4
      show own_Fin _ _ _ _ _ _ _ T4 (mkF m 25 #[.val (.int p1), .val (.int (p1 &&& (3 : Int32))), .unset, .unset, .unset] [(.ref s1)])
      refine own_step (fun _ k => XS.astoreN X4.here hx rfl (hb hby at_25) rfl rfl (l' := #[.val (.int p1), .val (.int (p1 &&& (3 : Int32))), .val (.ref s1), .unset, .unset]) rfl k) ?_
      show own_Fin _ _ _ _ _ _ _ T4 (mkF m 26 #[.val (.int p1), .val (.int (p1 &&& (3 : Int32))), .val (.ref s1), .unset, .unset] [])
      refine own_step (fun _ k => XT.iconstV X4.here hx rfl (0 : Int32) (hb hby at_26) (by decide) k) ?_
      show own_Fin _ _ _ _ _ _ _ T4 (mkF m 27 #[.val (.int p1), .val (.int (p1 &&& (3 : Int32))), .val (.ref s1), .unset, .unset] [(.int (0 : Int32))])
      refine own_step (fun _ k => XS.istoreN X4.here hx rfl (hb hby at_27) rfl (l' := #[.val (.int p1), .val (.int (p1 &&& (3 : Int32))), .val (.ref s1), .val (.int (0 : Int32)), .unset]) rfl k) ?_
      show own_Fin _ _ _ _ _ _ _ T4 (mkF m 28 #[.val (.int p1), .val (.int (p1 &&& (3 : Int32))), .val (.ref s1), .val (.int (0 : Int32)), .unset] [])
      refine own_step (fun _ k => XS.goto X4.here hx rfl (pc0 := 28) (pc' := 51) rfl (hb hby at_28) (by decide) (by decide) k) ?_
      show own_Fin _ _ _ _ _ _ _ T4 (mkF m 51 #[.val (.int p1), .val (.int (p1 &&& (3 : Int32))), .val (.ref s1), .val (.int (0 : Int32)), .unset] [])
      refine own_step (fun _ k => XS.aloadN X4.here hx rfl (hb hby at_51) rfl rfl k) ?_
      show own_Fin _ _ _ _ _ _ _ T4 (mkF m 52 #[.val (.int p1), .val (.int (p1 &&& (3 : Int32))), .val (.ref s1), .val (.int (0 : Int32)), .unset] [(.ref s1)])
      have M := rm1 l Z a0 hw h0 s1 s0 s2 S0 S2
      rw [if_neg (by simp [d10, d12])] at M
      refine own_callV0 X4 hx hZ (argsL := []) (rest := []) hown (hw _ (List.mem_of_getElem? (i := 3) rfl)) (hw _ (List.mem_of_getElem? (i := 4) rfl)) (hw _ (List.mem_of_getElem? (i := 6) rfl)) (hw _ (List.mem_of_getElem? (i := 5) rfl)) (hw _ (List.mem_of_getElem? (i := 7) rfl)) (hw _ (List.mem_of_getElem? (i := 1) rfl)) (by decide) E1 M e4 0 (Nat.le_of_eq rfl) (by decide) (by decide) (Nat.le_refl _) (Nat.le_refl _) (by rw [hml]; rfl) pd___Z rfl rfl (hb hby at_52) ?_
      intro T5 X5 e5
      show own_Fin _ _ _ _ _ _ _ T5 (mkF m 55 #[.val (.int p1), .val (.int (p1 &&& (3 : Int32))), .val (.ref s1), .val (.int (0 : Int32)), .unset] [(.int (0 : Int32))])
      refine own_step (fun _ k => XS.istore X5.here hx rfl (hb hby at_55) rfl (l' := #[.val (.int p1), .val (.int (p1 &&& (3 : Int32))), .val (.ref s1), .val (.int (0 : Int32)), .val (.int (0 : Int32))]) rfl k) ?_
      show own_Fin _ _ _ _ _ _ _ T5 (mkF m 57 #[.val (.int p1), .val (.int (p1 &&& (3 : Int32))), .val (.ref s1), .val (.int (0 : Int32)), .val (.int (0 : Int32))] [])
      refine own_step (fun _ k => XS.iload X5.here hx rfl (hb hby at_57) rfl k) ?_
      show own_Fin _ _ _ _ _ _ _ T5 (mkF m 59 #[.val (.int p1), .val (.int (p1 &&& (3 : Int32))), .val (.ref s1), .val (.int (0 : Int32)), .val (.int (0 : Int32))] [(.int (0 : Int32))])
      refine own_step (fun _ k => XS.iloadN X5.here hx rfl (hb hby at_59) rfl k) ?_
      show own_Fin _ _ _ _ _ _ _ T5 (mkF m 60 #[.val (.int p1), .val (.int (p1 &&& (3 : Int32))), .val (.ref s1), .val (.int (0 : Int32)), .val (.int (0 : Int32))] [(.int (0 : Int32)), (.int (0 : Int32))])
      refine own_step (fun _ k => XS.icmpNo X5.here hx rfl (hb hby at_60) rfl (XT.ii_ne_f (by decide)) k) ?_
      show own_Fin _ _ _ _ _ _ _ T5 (mkF m 63 #[.val (.int p1), .val (.int (p1 &&& (3 : Int32))), .val (.ref s1), .val (.int (0 : Int32)), .val (.int (0 : Int32))] [])
      refine own_step (fun _ k => XS.iload X5.here hx rfl (hb hby at_63) rfl k) ?_
      show own_Fin _ _ _ _ _ _ _ T5 (mkF m 65 #[.val (.int p1), .val (.int (p1 &&& (3 : Int32))), .val (.ref s1), .val (.int (0 : Int32)), .val (.int (0 : Int32))] [(.int (0 : Int32))])
      refine own_step (fun _ k => XS.ifYes X5.here hx rfl (pc0 := 65) (pc' := 75) rfl (hb hby at_65) rfl (XT.i0_eq_t (by decide)) (by decide) (by decide) k) ?_
      show own_Fin _ _ _ _ _ _ _ T5 (mkF m 75 #[.val (.int p1), .val (.int (p1 &&& (3 : Int32))), .val (.ref s1), .val (.int (0 : Int32)), .val (.int (0 : Int32))] [])
      refine own_step (fun _ k => XT.iconstV X5.here hx rfl (1 : Int32) (hb hby at_75) (by decide) k) ?_
      show own_Fin _ _ _ _ _ _ _ T5 (mkF m 76 #[.val (.int p1), .val (.int (p1 &&& (3 : Int32))), .val (.ref s1), .val (.int (0 : Int32)), .val (.int (0 : Int32))] [(.int (1 : Int32))])
      refine own_step (fun _ k => XS.goto X5.here hx rfl (pc0 := 76) (pc' := 80) rfl (hb hby at_76) (by decide) (by decide) k) ?_
      show own_Fin _ _ _ _ _ _ _ T5 (mkF m 80 #[.val (.int p1), .val (.int (p1 &&& (3 : Int32))), .val (.ref s1), .val (.int (0 : Int32)), .val (.int (0 : Int32))] [(.int (1 : Int32))])
      exact own_retZ X5 hx hrt hlk (hb hby at_80) (Or.inr rfl) ⟨rfl, rfl, e5⟩ (Nat.le_refl _) (Nat.le_refl _)
    · skip
      refine own_step (fun _ k => XS.icmpYes X0.here hx rfl (pc0 := 19) (pc' := 31) rfl (hb hby at_19) rfl (XT.ii_ne_t h19) (by decide) (by decide) k) ?_
      show own_Fin _ _ _ _ _ _ _ s₁ (mkF m 31 #[.val (.int p1), .val (.int (p1 &&& (3 : Int32))), .unset, .unset, .unset] [])
      refine own_step (fun _ k => XS.iloadN X0.here hx rfl (hb hby at_31) rfl k) ?_
      show own_Fin _ _ _ _ _ _ _ s₁ (mkF m 32 #[.val (.int p1), .val (.int (p1 &&& (3 : Int32))), .unset, .unset, .unset] [(.int (p1 &&& (3 : Int32)))])
      refine own_step (fun _ k => XT.iconstV X0.here hx rfl (2 : Int32) (hb hby at_32) (by decide) k) ?_
      show own_Fin _ _ _ _ _ _ _ s₁ (mkF m 33 #[.val (.int p1), .val (.int (p1 &&& (3 : Int32))), .unset, .unset, .unset] [(.int (2 : Int32)), (.int (p1 &&& (3 : Int32)))])
      by_cases h33 : (p1 &&& (3 : Int32)) = (2 : Int32)
      · skip
        refine own_step (fun _ k => XS.icmpNo X0.here hx rfl (hb hby at_33) rfl (XT.ii_ne_f h33) k) ?_
        show own_Fin _ _ _ _ _ _ _ s₁ (mkF m 36 #[.val (.int p1), .val (.int (p1 &&& (3 : Int32))), .unset, .unset, .unset] [])
        refine own_getS X0 hx hZ hown (hw _ (List.mem_of_getElem? (i := 20) rfl)) e0 S2 (hb hby at_36) ?_
        intro T6 X6 e6
        show own_Fin _ _ _ _ _ _ _ T6 (mkF m 39 #[.val (.int p1), .val (.int (p1 &&& (3 : Int32))), .unset, .unset, .unset] [(.ref s2)])
        refine own_step (fun _ k => XS.astoreN X6.here hx rfl (hb hby at_39) rfl rfl (l' := #[.val (.int p1), .val (.int (p1 &&& (3 : Int32))), .val (.ref s2), .unset, .unset]) rfl k) ?_
        show own_Fin _ _ _ _ _ _ _ T6 (mkF m 40 #[.val (.int p1), .val (.int (p1 &&& (3 : Int32))), .val (.ref s2), .unset, .unset] [])
        refine own_step (fun _ k => XT.iconstV X6.here hx rfl (1 : Int32) (hb hby at_40) (by decide) k) ?_
        show own_Fin _ _ _ _ _ _ _ T6 (mkF m 41 #[.val (.int p1), .val (.int (p1 &&& (3 : Int32))), .val (.ref s2), .unset, .unset] [(.int (1 : Int32))])
        refine own_step (fun _ k => XS.istoreN X6.here hx rfl (hb hby at_41) rfl (l' := #[.val (.int p1), .val (.int (p1 &&& (3 : Int32))), .val (.ref s2), .val (.int (1 : Int32)), .unset]) rfl k) ?_
        show own_Fin _ _ _ _ _ _ _ T6 (mkF m 42 #[.val (.int p1), .val (.int (p1 &&& (3 : Int32))), .val (.ref s2), .val (.int (1 : Int32)), .unset] [])
        refine own_step (fun _ k => XS.goto X6.here hx rfl (pc0 := 42) (pc' := 51) rfl (hb hby at_42) (by decide) (by decide) k) ?_
        show own_Fin _ _ _ _ _ _ _ T6 (mkF m 51 #[.val (.int p1), .val (.int (p1 &&& (3 : Int32))), .val (.ref s2), .val (.int (1 : Int32)), .unset] [])
        refine own_step (fun _ k => XS.aloadN X6.here hx rfl (hb hby at_51) rfl rfl k) ?_
        show own_Fin _ _ _ _ _ _ _ T6 (mkF m 52 #[.val (.int p1), .val (.int (p1 &&& (3 : Int32))), .val (.ref s2), .val (.int (1 : Int32)), .unset] [(.ref s2)])
        have M := rm1 l Z a0 hw h0 s2 s0 s2 S0 S2
        rw [if_pos (by simp)] at M
        refine own_callV0 X6 hx hZ (argsL := []) (rest := []) hown (hw _ (List.mem_of_getElem? (i := 3) rfl)) (hw _ (List.mem_of_getElem? (i := 4) rfl)) (hw _ (List.mem_of_getElem? (i := 6) rfl)) (hw _ (List.mem_of_getElem? (i := 5) rfl)) (hw _ (List.mem_of_getElem? (i := 7) rfl)) (hw _ (List.mem_of_getElem? (i := 1) rfl)) (by decide) E2 M e6 0 (Nat.le_of_eq rfl) (by decide) (by decide) (Nat.le_refl _) (Nat.le_refl _) (by rw [hml]; rfl) pd___Z rfl rfl (hb hby at_52) ?_
        intro T7 X7 e7
        show own_Fin _ _ _ _ _ _ _ T7 (mkF m 55 #[.val (.int p1), .val (.int (p1 &&& (3 : Int32))), .val (.ref s2), .val (.int (1 : Int32)), .unset] [(.int (1 : Int32))])
        refine own_step (fun _ k => XS.istore X7.here hx rfl (hb hby at_55) rfl (l' := #[.val (.int p1), .val (.int (p1 &&& (3 : Int32))), .val (.ref s2), .val (.int (1 : Int32)), .val (.int (1 : Int32))]) rfl k) ?_
        show own_Fin _ _ _ _ _ _ _ T7 (mkF m 57 #[.val (.int p1), .val (.int (p1 &&& (3 : Int32))), .val (.ref s2), .val (.int (1 : Int32)), .val (.int (1 : Int32))] [])
        refine own_step (fun _ k => XS.iload X7.here hx rfl (hb hby at_57) rfl k) ?_
        show own_Fin _ _ _ _ _ _ _ T7 (mkF m 59 #[.val (.int p1), .val (.int (p1 &&& (3 : Int32))), .val (.ref s2), .val (.int (1 : Int32)), .val (.int (1 : Int32))] [(.int (1 : Int32))])
        refine own_step (fun _ k => XS.iloadN X7.here hx rfl (hb hby at_59) rfl k) ?_
        show own_Fin _ _ _ _ _ _ _ T7 (mkF m 60 #[.val (.int p1), .val (.int (p1 &&& (3 : Int32))), .val (.ref s2), .val (.int (1 : Int32)), .val (.int (1 : Int32))] [(.int (1 : Int32)), (.int (1 : Int32))])
        refine own_step (fun _ k => XS.icmpNo X7.here hx rfl (hb hby at_60) rfl (XT.ii_ne_f (by decide)) k) ?_
        show own_Fin _ _ _ _ _ _ _ T7 (mkF m 63 #[.val (.int p1), .val (.int (p1 &&& (3 : Int32))), .val (.ref s2), .val (.int (1 : Int32)), .val (.int (1 : Int32))] [])
        refine own_step (fun _ k => XS.iload X7.here hx rfl (hb hby at_63) rfl k) ?_
        show own_Fin _ _ _ _ _ _ _ T7 (mkF m 65 #[.val (.int p1), .val (.int (p1 &&& (3 : Int32))), .val (.ref s2), .val (.int (1 : Int32)), .val (.int (1 : Int32))] [(.int (1 : Int32))])
        refine own_step (fun _ k => XS.ifNo X7.here hx rfl (hb hby at_65) rfl (XT.i0_eq_f (by decide)) k) ?_
        show own_Fin _ _ _ _ _ _ _ T7 (mkF m 68 #[.val (.int p1), .val (.int (p1 &&& (3 : Int32))), .val (.ref s2), .val (.int (1 : Int32)), .val (.int (1 : Int32))] [])
        refine own_step (fun _ k => XS.aloadN X7.here hx rfl (hb hby at_68) rfl rfl k) ?_
        show own_Fin _ _ _ _ _ _ _ T7 (mkF m 69 #[.val (.int p1), .val (.int (p1 &&& (3 : Int32))), .val (.ref s2), .val (.int (1 : Int32)), .val (.int (1 : Int32))] [(.ref s2)])
        have M2 := rm2 l Z a0 hw h0 s2 s1 S1
        rw [if_neg d21] at M2
        refine own_callV0 X7 hx hZ (argsL := []) (rest := []) hown (hw _ (List.mem_of_getElem? (i := 9) rfl)) (hw _ (List.mem_of_getElem? (i := 10) rfl)) (hw _ (List.mem_of_getElem? (i := 12) rfl)) (hw _ (List.mem_of_getElem? (i := 11) rfl)) (hw _ (List.mem_of_getElem? (i := 13) rfl)) (hw _ (List.mem_of_getElem? (i := 1) rfl)) (by decide) E2 M2 e7 0 (Nat.le_of_eq rfl) (by decide) (by decide) (Nat.le_refl _) (Nat.le_refl _) (by rw [hml]; rfl) pd___Z rfl rfl (hb hby at_69) ?_
        intro T8 X8 e8
        show own_Fin _ _ _ _ _ _ _ T8 (mkF m 72 #[.val (.int p1), .val (.int (p1 &&& (3 : Int32))), .val (.ref s2), .val (.int (1 : Int32)), .val (.int (1 : Int32))] [(.int (1 : Int32))])
        refine own_step (fun _ k => XS.ifNo X8.here hx rfl (hb hby at_72) rfl (XT.i0_eq_f (by decide)) k) ?_
        show own_Fin _ _ _ _ _ _ _ T8 (mkF m 75 #[.val (.int p1), .val (.int (p1 &&& (3 : Int32))), .val (.ref s2), .val (.int (1 : Int32)), .val (.int (1 : Int32))] [])
        refine own_step (fun _ k => XT.iconstV X8.here hx rfl (1 : Int32) (hb hby at_75) (by decide) k) ?_
        show own_Fin _ _ _ _ _ _ _ T8 (mkF m 76 #[.val (.int p1), .val (.int (p1 &&& (3 : Int32))), .val (.ref s2), .val (.int (1 : Int32)), .val (.int (1 : Int32))] [(.int (1 : Int32))])
        refine own_step (fun _ k => XS.goto X8.here hx rfl (pc0 := 76) (pc' := 80) rfl (hb hby at_76) (by decide) (by decide) k) ?_
        show own_Fin _ _ _ _ _ _ _ T8 (mkF m 80 #[.val (.int p1), .val (.int (p1 &&& (3 : Int32))), .val (.ref s2), .val (.int (1 : Int32)), .val (.int (1 : Int32))] [(.int (1 : Int32))])
        exact own_retZ X8 hx hrt hlk (hb hby at_80) (Or.inr rfl) ⟨rfl, rfl, e8⟩ (Nat.le_refl _) (Nat.le_refl _)
      · skip
        refine own_step (fun _ k => XS.icmpYes X0.here hx rfl (pc0 := 33) (pc' := 45) rfl (hb hby at_33) rfl (XT.ii_ne_t h33) (by decide) (by decide) k) ?_
        show own_Fin _ _ _ _ _ _ _ s₁ (mkF m 45 #[.val (.int p1), .val (.int (p1 &&& (3 : Int32))), .unset, .unset, .unset] [])
        refine own_getS X0 hx hZ hown (hw _ (List.mem_of_getElem? (i := 16) rfl)) e0 S3 (hb hby at_45) ?_
        intro T9 X9 e9
        show own_Fin _ _ _ _ _ _ _ T9 (mkF m 48 #[.val (.int p1), .val (.int (p1 &&& (3 : Int32))), .unset, .unset, .unset] [(.ref s3)])
        refine own_step (fun _ k => XS.astoreN X9.here hx rfl (hb hby at_48) rfl rfl (l' := #[.val (.int p1), .val (.int (p1 &&& (3 : Int32))), .val (.ref s3), .unset, .unset]) rfl k) ?_
        show own_Fin _ _ _ _ _ _ _ T9 (mkF m 49 #[.val (.int p1), .val (.int (p1 &&& (3 : Int32))), .val (.ref s3), .unset, .unset] [])
        refine own_step (fun _ k => XT.iconstV X9.here hx rfl (0 : Int32) (hb hby at_49) (by decide) k) ?_
        show own_Fin _ _ _ _ _ _ _ T9 (mkF m 50 #[.val (.int p1), .val (.int (p1 &&& (3 : Int32))), .val (.ref s3), .unset, .unset] [(.int (0 : Int32))])
        refine own_step (fun _ k => XS.istoreN X9.here hx rfl (hb hby at_50) rfl (l' := #[.val (.int p1), .val (.int (p1 &&& (3 : Int32))), .val (.ref s3), .val (.int (0 : Int32)), .unset]) rfl k) ?_
        show own_Fin _ _ _ _ _ _ _ T9 (mkF m 51 #[.val (.int p1), .val (.int (p1 &&& (3 : Int32))), .val (.ref s3), .val (.int (0 : Int32)), .unset] [])
        refine own_step (fun _ k => XS.aloadN X9.here hx rfl (hb hby at_51) rfl rfl k) ?_
        show own_Fin _ _ _ _ _ _ _ T9 (mkF m 52 #[.val (.int p1), .val (.int (p1 &&& (3 : Int32))), .val (.ref s3), .val (.int (0 : Int32)), .unset] [(.ref s3)])
        have M := rm1 l Z a0 hw h0 s3 s0 s2 S0 S2
        rw [if_neg (by simp [d30, d32])] at M
        refine own_callV0 X9 hx hZ (argsL := []) (rest := []) hown (hw _ (List.mem_of_getElem? (i := 3) rfl)) (hw _ (List.mem_of_getElem? (i := 4) rfl)) (hw _ (List.mem_of_getElem? (i := 6) rfl)) (hw _ (List.mem_of_getElem? (i := 5) rfl)) (hw _ (List.mem_of_getElem? (i := 7) rfl)) (hw _ (List.mem_of_getElem? (i := 1) rfl)) (by decide) E3 M e9 0 (Nat.le_of_eq rfl) (by decide) (by decide) (Nat.le_refl _) (Nat.le_refl _) (by rw [hml]; rfl) pd___Z rfl rfl (hb hby at_52) ?_
        intro T10 X10 e10
        show own_Fin _ _ _ _ _ _ _ T10 (mkF m 55 #[.val (.int p1), .val (.int (p1 &&& (3 : Int32))), .val (.ref s3), .val (.int (0 : Int32)), .unset] [(.int (0 : Int32))])
        refine own_step (fun _ k => XS.istore X10.here hx rfl (hb hby at_55) rfl (l' := #[.val (.int p1), .val (.int (p1 &&& (3 : Int32))), .val (.ref s3), .val (.int (0 : Int32)), .val (.int (0 : Int32))]) rfl k) ?_
        show own_Fin _ _ _ _ _ _ _ T10 (mkF m 57 #[.val (.int p1), .val (.int (p1 &&& (3 : Int32))), .val (.ref s3), .val (.int (0 : Int32)), .val (.int (0 : Int32))] [])
        refine own_step (fun _ k => XS.iload X10.here hx rfl (hb hby at_57) rfl k) ?_
        show own_Fin _ _ _ _ _ _ _ T10 (mkF m 59 #[.val (.int p1), .val (.int (p1 &&& (3 : Int32))), .val (.ref s3), .val (.int (0 : Int32)), .val (.int (0 : Int32))] [(.int (0 : Int32))])
        refine own_step (fun _ k => XS.iloadN X10.here hx rfl (hb hby at_59) rfl k) ?_
        show own_Fin _ _ _ _ _ _ _ T10 (mkF m 60 #[.val (.int p1), .val (.int (p1 &&& (3 : Int32))), .val (.ref s3), .val (.int (0 : Int32)), .val (.int (0 : Int32))] [(.int (0 : Int32)), (.int (0 : Int32))])
        refine own_step (fun _ k => XS.icmpNo X10.here hx rfl (hb hby at_60) rfl (XT.ii_ne_f (by decide)) k) ?_
        show own_Fin _ _ _ _ _ _ _ T10 (mkF m 63 #[.val (.int p1), .val (.int (p1 &&& (3 : Int32))), .val (.ref s3), .val (.int (0 : Int32)), .val (.int (0 : Int32))] [])
        refine own_step (fun _ k => XS.iload X10.here hx rfl (hb hby at_63) rfl k) ?_
        show own_Fin _ _ _ _ _ _ _ T10 (mkF m 65 #[.val (.int p1), .val (.int (p1 &&& (3 : Int32))), .val (.ref s3), .val (.int (0 : Int32)), .val (.int (0 : Int32))] [(.int (0 : Int32))])
        refine own_step (fun _ k => XS.ifYes X10.here hx rfl (pc0 := 65) (pc' := 75) rfl (hb hby at_65) rfl (XT.i0_eq_t (by decide)) (by decide) (by decide) k) ?_
        show own_Fin _ _ _ _ _ _ _ T10 (mkF m 75 #[.val (.int p1), .val (.int (p1 &&& (3 : Int32))), .val (.ref s3), .val (.int (0 : Int32)), .val (.int (0 : Int32))] [])
        refine own_step (fun _ k => XT.iconstV X10.here hx rfl (1 : Int32) (hb hby at_75) (by decide) k) ?_
        show own_Fin _ _ _ _ _ _ _ T10 (mkF m 76 #[.val (.int p1), .val (.int (p1 &&& (3 : Int32))), .val (.ref s3), .val (.int (0 : Int32)), .val (.int (0 : Int32))] [(.int (1 : Int32))])
        refine own_step (fun _ k => XS.goto X10.here hx rfl (pc0 := 76) (pc' := 80) rfl (hb hby at_76) (by decide) (by decide) k) ?_
        show own_Fin _ _ _ _ _ _ _ T10 (mkF m 80 #[.val (.int p1), .val (.int (p1 &&& (3 : Int32))), .val (.ref s3), .val (.int (0 : Int32)), .val (.int (0 : Int32))] [(.int (1 : Int32))])
        exact own_retZ X10 hx hrt hlk (hb hby at_80) (Or.inr rfl) ⟨rfl, rfl, e10⟩ (Nat.le_refl _) (Nat.le_refl _)
set_option maxRecDepth 65536 in
set_option maxHeartbeats 40000000 in
theorem comes_1 {Post : Tables → Env → Array Value → State → Outcome → State → Prop} (hpost : ∀ tb e args s v u, (limb_1_1.after args s (.returned v) u = true ∧ limb_1_2.after args s (.returned v) u = true ∧ True) → FrameEnd s (.returned v) u (Jvm.fieldLocs frame_1_writes args s ++ Jvm.arrayLocs frame_1_arrays args s ++ Jvm.staticLocs frame_1_statics s) 0 0 → Post tb e args s (.returned v) u) :
    ArmFor flags0 classFile x code maxLocals ret World_1 tables_1 room_1 Calls_1 rest_1 Pre_1 Post := by
  intro l hfl _ _ p e ha hc hk s m args below hf hA hF happ hP
  obtain ⟨hcalls, hrest, hpre⟩ := hP
  obtain ⟨-, -, -, hnamed, -, -, -, hat⟩ := (Spec.applies_iff hf).mp happ
  obtain ⟨hg, hn⟩ := and_e (Cond.before_iff.mp (show (Jvm.Cond.and given_1 narrow_1).before args s = true from hpre))
  obtain ⟨hg0, hg1⟩ := and_e hg
  obtain ⟨w0, rfl⟩ : ∃ w0 : Value, args = #[w0] := by
    have hs : args.size = 1 := by simpa [Cond.value, given_1] using hg0
    obtain ⟨L⟩ := args
    match L, hs with
    | [w0], _ => exact ⟨w0, rfl⟩
  have hw := fun d (hd : d ∈ tables_1) => atoms_spec (ws := Jvm.Cond.code x code maxLocals ret :: tables_1) hat d (List.mem_cons_of_mem _ hd)
  have hfit : Fit s := fun {y c} hc i hi => by
    obtain ⟨ha, rfl⟩ := Array.getElem?_eq_some_iff.mp hc
    have q := List.all_eq_true.mp ((Array.all_eq_true_iff_forall_mem.mp hF) _ (Array.getElem_mem ha)) i (List.mem_range.mpr hi)
    simpa [Array.getElem?_eq_getElem hi] using q
  obtain ⟨i0, ei0⟩ := is_v hg1
  obtain rfl : w0 = (.int i0) := Option.some.inj ei0
  obtain ⟨c0, hn1⟩ := and_e hn
  obtain ⟨c1, hn2⟩ := and_e hn1
  obtain ⟨c2, hn3⟩ := and_e hn2
  obtain ⟨c3, hn4⟩ := and_e hn3
  obtain ⟨c4, hn5⟩ := and_e hn4
  obtain ⟨c5, hn6⟩ := and_e hn5
  obtain ⟨c6, hn7⟩ := and_e hn6
  have c7 := hn7
  obtain ⟨s0, v0⟩ := exa_v c0
  have S0 := Sta.start v0 (Or.inr ⟨(hw _ (List.mem_of_getElem? (i := 1) rfl)), (hw _ (List.mem_of_getElem? (i := 2) rfl))⟩)
  have E0 := Exa.start v0 c0
  have F0 := own_fldw v0 c2
  obtain ⟨s1, v1⟩ := exa_v c1
  have S1 := Sta.start v1 (Or.inr ⟨(hw _ (List.mem_of_getElem? (i := 1) rfl)), (hw _ (List.mem_of_getElem? (i := 15) rfl))⟩)
  have E1 := Exa.start v1 c1
  have F1 := own_fldw v1 c3
  obtain ⟨s2, v2⟩ := exa_v c6
  have S2 := Sta.start v2 (Or.inr ⟨(hw _ (List.mem_of_getElem? (i := 1) rfl)), (hw _ (List.mem_of_getElem? (i := 19) rfl))⟩)
  have E2 := Exa.start v2 c6
  have F2 := own_fldw v2 c7
  obtain ⟨s3, v3⟩ := exa_v c4
  have S3 := Sta.start v3 (Or.inr ⟨(hw _ (List.mem_of_getElem? (i := 1) rfl)), (hw _ (List.mem_of_getElem? (i := 17) rfl))⟩)
  have E3 := Exa.start v3 c4
  have F3 := own_fldw v3 c5
  obtain ⟨n, o, r1, r2, r3, _, L, rfl, ⟨rfl, rfl, hq0⟩, hq⟩ := rm0 l s _ hw tables_1 s.heap i0 s0 s1 s2 s3 S0 E0 S1 E1 S2 E2 S3 E3 (own_ne F1 F0 (by decide)) (own_ne F1 F2 (by decide)) (own_ne F3 F0 (by decide)) (own_ne F3 F2 (by decide)) (own_ne F0 F1 (by decide)) (own_ne F2 F1 (by decide)) p e ha hc hk s m _ below hf ((Spec.applies_iff_loose hf).mp happ).1 ⟨rfl, State.Warmed39.refl s, rfl⟩ trivial
  refine ⟨n, _, r1, r2, r3, hpost _ _ _ _ _ _ ⟨Cond.after_iff.mpr rfl, Cond.after_iff.mpr (eq_i res_at (Term.int_eval (1)) rfl), trivial⟩ ⟨hq.1, hq.2.1, (hq.2.2.sift fun y hy => nomatch hy).mono (by decide) (by decide)⟩⟩
theorem main_1_1 : Claimed_1_1 := comes_1 fun _ _ _ _ _ _ h hF => ⟨h.1, hF⟩
theorem main_1_2 : Claimed_1_2 := comes_1 fun _ _ _ _ _ _ h hF => ⟨h.2.1, hF⟩
end Jvm.Pilot.@@N@@
namespace Jvm.Pilot.@@N@@
open Jvm Jvm.ClassFile Sem Op Lib Jvm.Free Jvm.Stand Jvm.Pilot.@@N@@.Jvm.D
/-! MADE BY PROGRAM (witnessworld.py) out of the Statement's table words and the real class files: 12 classes; the members and pool entries that the words name. The judged class is class 1, her method 1. -/
namespace start1
open Jvm.ClassFile
def u (s : String) : CpInfo := .utf8 (stringToUtf16 s)
/-- a pool by its gaps: so many unusable entries, then the entry; so many at the end -/
def gap : Nat → List CpInfo → List CpInfo
  | 0, r => r
  | n + 1, r => .unusable :: gap n r
def poolList (es : List (Nat × CpInfo)) (last : Nat) : List CpInfo := es.foldr (fun e r => gap e.1 (e.2 :: r)) (gap last [])
def pool (es : List (Nat × CpInfo)) (last : Nat) : Array CpInfo := ⟨poolList es last⟩
def fileOf (pool : Array CpInfo) (this : Nat) (attrs : Array Attribute := #[]) (ms : Array MethodInfo := #[]) (fl : Nat := 33) (sup : Nat := 0) (ifs : Array Nat := #[]) (fds : Array FieldInfo := #[]) : ClassFile where
  minorVersion := 0
  majorVersion := 65
  constantPool := pool
  accessFlags := fl
  thisClass := this
  superClass := sup
  interfaces := ifs
  fields := fds
  methods := ms
  attributes := attrs
def plain (name : String) (sup : Option ClassId) : Class where
  name := name
  kind := .ordinary
  loader := none
  accessFlags := 33
  super := sup
  interfaces := #[]
  cf := none
  fields := #[]
  methods := #[]
  instanceTypes := #[]
  staticTypes := #[]
  resolved := #[]
  callSites := []
  init := .initialized
  statics := none
  mirror := none

def pool0 : Array CpInfo := pool [(5, u "<init>"), (0, u "()V"), (1, .class_ 10), (1, u "java/lang/Object")] 113

def k0m0 : Method := { name := "<init>", desc := "()V", sig := { parameters := [], returnType := none }, accessFlags := 1, code := none }
/-- java/lang/Object -/
def k0 : Class := { plain "java/lang/Object" none with
  accessFlags := 33
  interfaces := #[]
  cf := some (fileOf pool0 8 #[] #[{ accessFlags := 1, nameIndex := 5, descriptorIndex := 6, attributes := #[] }] 33 0 #[] #[])
  fields := #[]
  methods := #[k0m0]
  instanceTypes := #[]
  staticTypes := #[]
  resolved := Array.replicate 124 none
  statics := none }

def pool1 : Array CpInfo := pool [(2, .class_ 4), (1, u "java/lang/Object"), (0, u "<init>"), (0, u "()V"), (0, .fieldref 8 9), (0, .class_ 10), (0, .nameAndType 11 12), (0, u "com/example/rootbound/rootbound/engine/ChildCollection$Kind"), (0, u "LIST"), (0, u "Lcom/example/rootbound/rootbound/engine/ChildCollection$Kind;"), (0, .fieldref 8 14), (0, .nameAndType 15 12), (0, u "SET"), (0, .fieldref 8 17), (0, .nameAndType 18 12), (0, u "MAP"), (0, .fieldref 8 20), (0, .nameAndType 21 12), (0, u "ONE"), (0, .methodref 8 23), (0, .nameAndType 24 25), (0, u "isKeyed"), (0, u "()Z"), (0, .methodref 8 27), (0, .nameAndType 28 25), (0, u "placesElements"), (0, .class_ 30), (0, u "com/example/rootbound/rootbound/engine/KindIsKeyedPinLaw"), (2, u "law"), (0, u "(I)Z")] 7

def k1m0 : Method := { name := "<init>", desc := "()V", sig := { parameters := [], returnType := none }, accessFlags := 2, code := none }
def k1c1 : Code := { maxStack := 2, maxLocals := 5, code := code, exceptionTable := #[], attributes := #[] }
def k1m1 : Method := { name := "law", desc := "(I)Z", sig := { parameters := [.int], returnType := some .boolean }, accessFlags := 9, code := some k1c1 }
/-- com/example/rootbound/rootbound/engine/KindIsKeyedPinLaw -/
def k1 : Class := { plain "com/example/rootbound/rootbound/engine/KindIsKeyedPinLaw" (some 0) with
  accessFlags := 49
  interfaces := #[]
  cf := some (fileOf pool1 29 #[] #[{ accessFlags := 2, nameIndex := 5, descriptorIndex := 6, attributes := #[] }, { accessFlags := 9, nameIndex := 33, descriptorIndex := 34, attributes := #[] }] 49 2 #[] #[])
  fields := #[]
  methods := #[k1m0, k1m1]
  instanceTypes := #[]
  staticTypes := #[]
  resolved := Array.replicate 42 none
  statics := none }

def pool2 : Array CpInfo := pool [(1, .class_ 2), (0, u "java/lang/constant/Constable"), (0, .class_ 4), (0, u "java/lang/Object")] 6

/-- java/lang/constant/Constable -/
def k2 : Class := { plain "java/lang/constant/Constable" (some 0) with
  accessFlags := 1537
  interfaces := #[]
  cf := some (fileOf pool2 1 #[] #[] 1537 3 #[] #[])
  fields := #[]
  methods := #[]
  instanceTypes := #[]
  staticTypes := #[]
  resolved := Array.replicate 11 none
  statics := none }

def pool3 : Array CpInfo := pool [(1, .class_ 2), (0, u "java/lang/Comparable"), (0, .class_ 4), (0, u "java/lang/Object")] 7

/-- java/lang/Comparable -/
def k3 : Class := { plain "java/lang/Comparable" (some 0) with
  accessFlags := 1537
  interfaces := #[]
  cf := some (fileOf pool3 1 #[] #[] 1537 3 #[] #[])
  fields := #[]
  methods := #[]
  instanceTypes := #[]
  staticTypes := #[]
  resolved := Array.replicate 12 none
  statics := none }

def pool4 : Array CpInfo := pool [(1, .class_ 2), (0, u "java/io/Serializable"), (0, .class_ 4), (0, u "java/lang/Object")] 2

/-- java/io/Serializable -/
def k4 : Class := { plain "java/io/Serializable" (some 0) with
  accessFlags := 1537
  interfaces := #[]
  cf := some (fileOf pool4 1 #[] #[] 1537 3 #[] #[])
  fields := #[]
  methods := #[]
  instanceTypes := #[]
  staticTypes := #[]
  resolved := Array.replicate 7 none
  statics := none }

def pool5 : Array CpInfo := pool [(2, .class_ 4), (1, u "java/lang/Enum"), (0, u "name"), (0, u "Ljava/lang/String;"), (2, u "ordinal"), (0, u "I"), (1, .class_ 14), (1, u "java/lang/Object"), (4, u "hash"), (86, .class_ 108), (1, u "java/lang/Enum$EnumDesc"), (2, .class_ 112), (0, u "java/lang/constant/Constable"), (0, .class_ 114), (0, u "java/lang/Comparable"), (0, .class_ 116), (0, u "java/io/Serializable")] 87

/-- java/lang/Enum -/
def k5 : Class := { plain "java/lang/Enum" (some 0) with
  accessFlags := 1057
  interfaces := #[2, 3, 4]
  cf := some (fileOf pool5 2 #[.nestMembers #[106]] #[] 1057 12 #[111, 113, 115] #[{ accessFlags := 18, nameIndex := 5, descriptorIndex := 6, attributes := #[] }, { accessFlags := 18, nameIndex := 9, descriptorIndex := 10, attributes := #[] }, { accessFlags := 2, nameIndex := 19, descriptorIndex := 10, attributes := #[] }])
  fields := #[{ name := "name", type := (.object "java/lang/String"), accessFlags := 18, slot := 0, constantValue := 0 }, { name := "ordinal", type := .int, accessFlags := 18, slot := 1, constantValue := 0 }, { name := "hash", type := .int, accessFlags := 2, slot := 2, constantValue := 0 }]
  methods := #[]
  instanceTypes := #[(.object "java/lang/String"), .int, .int]
  staticTypes := #[]
  resolved := Array.replicate 204 none
  statics := none }

def pool6 : Array CpInfo := pool [(1, .class_ 2), (0, u "com/example/rootbound/rootbound/engine/ChildCollection$Kind"), (0, .fieldref 1 4), (0, .nameAndType 5 6), (0, u "LIST"), (0, u "Lcom/example/rootbound/rootbound/engine/ChildCollection$Kind;"), (0, .fieldref 1 8), (0, .nameAndType 9 6), (0, u "SET"), (0, .fieldref 1 11), (0, .nameAndType 12 6), (0, u "MAP"), (2, u "ONE"), (2, u "$VALUES"), (0, u "[Lcom/example/rootbound/rootbound/engine/ChildCollection$Kind;"), (6, .class_ 28), (1, u "java/lang/Enum"), (8, u "declared"), (0, u "Ljava/lang/Class;"), (2, u "noun"), (0, u "Ljava/lang/String;"), (22, .class_ 67), (1, u "com/example/rootbound/rootbound/engine/ChildCollection"), (46, u "isKeyed"), (0, u "()Z"), (0, u "placesElements")] 8

def k6c0 : Code := { maxStack := 2, maxLocals := 1, code := prog_36_method_9_code, exceptionTable := #[], attributes := #[] }
def k6m0 : Method := { name := "isKeyed", desc := "()Z", sig := { parameters := [], returnType := some .boolean }, accessFlags := 0, code := some k6c0 }
def k6c1 : Code := { maxStack := 2, maxLocals := 1, code := prog_36_method_10_code, exceptionTable := #[], attributes := #[] }
def k6m1 : Method := { name := "placesElements", desc := "()Z", sig := { parameters := [], returnType := some .boolean }, accessFlags := 0, code := some k6c1 }
/-- com/example/rootbound/rootbound/engine/ChildCollection$Kind -/
def k6 : Class := { plain "com/example/rootbound/rootbound/engine/ChildCollection$Kind" (some 5) with
  accessFlags := 16432
  interfaces := #[]
  cf := some (fileOf pool6 1 #[.nestHost 65] #[{ accessFlags := 0, nameIndex := 114, descriptorIndex := 115, attributes := #[] }, { accessFlags := 0, nameIndex := 116, descriptorIndex := 115, attributes := #[] }] 16432 26 #[] #[{ accessFlags := 16409, nameIndex := 5, descriptorIndex := 6, attributes := #[] }, { accessFlags := 16409, nameIndex := 9, descriptorIndex := 6, attributes := #[] }, { accessFlags := 16409, nameIndex := 12, descriptorIndex := 6, attributes := #[] }, { accessFlags := 16409, nameIndex := 15, descriptorIndex := 6, attributes := #[] }, { accessFlags := 18, nameIndex := 37, descriptorIndex := 38, attributes := #[] }, { accessFlags := 18, nameIndex := 41, descriptorIndex := 42, attributes := #[] }, { accessFlags := 4122, nameIndex := 18, descriptorIndex := 19, attributes := #[] }])
  fields := #[{ name := "LIST", type := (.object "com/example/rootbound/rootbound/engine/ChildCollection$Kind"), accessFlags := 16409, slot := 0, constantValue := 0 }, { name := "SET", type := (.object "com/example/rootbound/rootbound/engine/ChildCollection$Kind"), accessFlags := 16409, slot := 1, constantValue := 0 }, { name := "MAP", type := (.object "com/example/rootbound/rootbound/engine/ChildCollection$Kind"), accessFlags := 16409, slot := 2, constantValue := 0 }, { name := "ONE", type := (.object "com/example/rootbound/rootbound/engine/ChildCollection$Kind"), accessFlags := 16409, slot := 3, constantValue := 0 }, { name := "declared", type := (.object "java/lang/Class"), accessFlags := 18, slot := 3, constantValue := 0 }, { name := "noun", type := (.object "java/lang/String"), accessFlags := 18, slot := 4, constantValue := 0 }, { name := "$VALUES", type := (.array (.object "com/example/rootbound/rootbound/engine/ChildCollection$Kind")), accessFlags := 4122, slot := 4, constantValue := 0 }]
  methods := #[k6m0, k6m1]
  instanceTypes := #[(.object "java/lang/String"), .int, .int, (.object "java/lang/Class"), (.object "java/lang/String")]
  staticTypes := #[(.object "com/example/rootbound/rootbound/engine/ChildCollection$Kind"), (.object "com/example/rootbound/rootbound/engine/ChildCollection$Kind"), (.object "com/example/rootbound/rootbound/engine/ChildCollection$Kind"), (.object "com/example/rootbound/rootbound/engine/ChildCollection$Kind"), (.array (.object "com/example/rootbound/rootbound/engine/ChildCollection$Kind"))]
  resolved := Array.replicate 125 none
  statics := some 0 }

def pool7 : Array CpInfo := pool [(1, u "java/lang/Cloneable"), (0, .class_ 1), (0, u "java/lang/Object"), (0, .class_ 3)] 3

/-- java/lang/Cloneable -/
def k7 : Class := { plain "java/lang/Cloneable" (some 0) with
  accessFlags := 1537
  interfaces := #[]
  cf := some (fileOf pool7 2 #[] #[] 1537 4 #[] #[])
  fields := #[]
  methods := #[]
  instanceTypes := #[]
  staticTypes := #[]
  resolved := Array.replicate 8 none
  statics := none }

/-- the primitive byte -/
def k8 : Class := { plain "byte" none with kind := .primitive 'B', accessFlags := 0x411 }
/-- [B -/
def k9 : Class := { plain "[B" (some 0) with kind := .array 8 .byte, interfaces := #[7, 4], accessFlags := 1041 }

/-- the primitive int -/
def k10 : Class := { plain "int" none with kind := .primitive 'I', accessFlags := 0x411 }
/-- [I -/
def k11 : Class := { plain "[I" (some 0) with kind := .array 10 .int, interfaces := #[7, 4], accessFlags := 1041 }

def heap : Heap := #[{ cls := 6, slots := #[.ref 1, .ref 2, .ref 3, .ref 4, .null], vm := .statics 6 },
  { cls := 6, slots := #[.null, .int 0, .int 0, .null, .null], vm := .none },
  { cls := 6, slots := #[.null, .int 1, .int 0, .null, .null], vm := .none },
  { cls := 6, slots := #[.null, .int 2, .int 0, .null, .null], vm := .none },
  { cls := 6, slots := #[.null, .int 3, .int 0, .null, .null], vm := .none }]
def classes : Array Class := #[k0, k1, k2, k3, k4, k5, k6, k7, k8, k9, k10, k11]
def interned : List (Array UInt16 × Addr) := []
def slotsUsed : Nat := 25
def theMethod : MethodId := ⟨1, 1⟩
def args0 : Array Value := #[.int 5]
def aboutOver (below : List Frame) : State where
  vm := { classes := classes, interned := interned.toArray }
  heap := heap
  slotsUsed := slotsUsed
  threads := #[{ frames := .invoking theMethod args0 :: below }]
def below0 : List Frame := [.native { method := ⟨0, 0⟩, args := #[] }]
def about1 : State := aboutOver below0
def p0 : Program := .bare "" "" ""
def e0 : Env := launch0.env 0 0 0
theorem w_frames : about1.frames = Frame.invoking theMethod args0 :: below0 := rfl
set_option maxRecDepth 65536 in
theorem w_args : argsFit about1.vm theMethod args0 = true := by decide +kernel
set_option maxRecDepth 65536 in
theorem w_heap : heapFits about1 = true := by decide +kernel
set_option maxRecDepth 65536 in
theorem w_runnable : about1.curStatus? = some .runnable := by decide +kernel
set_option maxRecDepth 65536 in
theorem w_alone : about1.alone = true := by decide +kernel
set_option maxRecDepth 65536 in
theorem w_named : about1.methodNamed? x = some theMethod := by decide +kernel
set_option maxRecDepth 65536 in
theorem w_hears : about1.hears theMethod below0 = true := by decide +kernel
set_option maxRecDepth 65536 in
theorem w_ripe : about1.ripe theMethod args0 below0 = true := by decide +kernel
theorem w_running : about1.status = .running := rfl
set_option maxRecDepth 65536 in
theorem w_room : about1.hasRoom e0.platform room_1 = true :=
  launch0.hasRoom_least _ room_1 (by decide +kernel) (by decide +kernel) (by decide +kernel) (by decide +kernel) (by decide +kernel) (by decide +kernel)
theorem allAtoms_all (ts : List Jvm.Cond) (a : Array Jvm.Value) (st : Jvm.State) : (allAtoms ts).before a st = ts.all (fun c => c.before a st) := by
  induction ts with
  | nil => rfl
  | cons c t ih =>
    show (Jvm.Cond.and c (allAtoms t)).before a st = _
    rw [Jvm.Cond.before_and, ih, List.all_cons]
def words1 : List Jvm.Cond := Jvm.Cond.code x code maxLocals ret :: tables_1
/-- a 'code' word, met by the world's own term for the bytes: nothing is compared byte by byte -/
theorem code_word {y : MethodName} {bytes : ByteArray} {mx : Nat} {rt : Option FieldType} {a : Array Value} {s : State} {m : MethodId} {meth : Method} {c : Code} (h1 : s.methodNamed? y = some m) (h2 : s.vm.method? m = some meth) (h3 : meth.code = some c) (h4 : c.code = bytes)
    (h5 : (c.maxLocals == mx && c.exceptionTable.isEmpty && decide (c.maxStack ≤ mostOperands) && decide (meth.sig.returnType = rt) && !meth.locks && decide (parseMethodDescriptor y.desc = some meth.sig)) = true) : (Jvm.Cond.code y bytes mx rt).before a s = true := by
  simp only [Bool.and_eq_true, beq_iff_eq, Bool.not_eq_true', decide_eq_true_eq] at h5
  obtain ⟨⟨⟨⟨⟨g1, g2⟩, g3⟩, g4⟩, g5⟩, g6⟩ := h5
  simp [Cond.before, Cond.holds, Cond.value, h1, h2, h3, h4, g1, g2, g3, g4, g5, g6]
def isCode : Jvm.Cond → Bool
  | .code _ _ _ _ => true
  | _ => false
theorem all_split {L : List Jvm.Cond} {P : Jvm.Cond → Bool} (h1 : L.all (fun c => isCode c || P c) = true) (h2 : ∀ c ∈ L.filter isCode, P c = true) : L.all P = true := by
  refine List.all_eq_true.mpr fun c hc => ?_
  have h := List.all_eq_true.mp h1 c hc
  rcases Bool.eq_false_or_eq_true (isCode c) with hi | hi
  · exact h2 c (List.mem_filter.mpr ⟨hc, hi⟩)
  · simpa [hi] using h
set_option maxRecDepth 65536 in
theorem w_c0 : (Jvm.Cond.code x code maxLocals ret).before args0 about1 = true := code_word (m := ⟨1, 1⟩) (meth := k1m1) (c := k1c1) (by decide +kernel) rfl rfl rfl (by decide +kernel)
set_option maxRecDepth 65536 in
theorem w_c1 : (Jvm.Cond.code ({ cls := "com/example/rootbound/rootbound/engine/ChildCollection$Kind", name := "isKeyed", desc := "()Z" } : Jvm.MethodName) prog_36_method_9_code (1 : Nat) (Option.some Jvm.ClassFile.FieldType.boolean)).before args0 about1 = true := code_word (m := ⟨6, 0⟩) (meth := k6m0) (c := k6c0) (by decide +kernel) rfl rfl rfl (by decide +kernel)
set_option maxRecDepth 65536 in
theorem w_c2 : (Jvm.Cond.code ({ cls := "com/example/rootbound/rootbound/engine/ChildCollection$Kind", name := "placesElements", desc := "()Z" } : Jvm.MethodName) prog_36_method_10_code (1 : Nat) (Option.some Jvm.ClassFile.FieldType.boolean)).before args0 about1 = true := code_word (m := ⟨6, 1⟩) (meth := k6m1) (c := k6c1) (by decide +kernel) rfl rfl rfl (by decide +kernel)
def codes1 : List Jvm.Cond := [Jvm.Cond.code x code maxLocals ret, Jvm.Cond.code ({ cls := "com/example/rootbound/rootbound/engine/ChildCollection$Kind", name := "isKeyed", desc := "()Z" } : Jvm.MethodName) prog_36_method_9_code (1 : Nat) (Option.some Jvm.ClassFile.FieldType.boolean), Jvm.Cond.code ({ cls := "com/example/rootbound/rootbound/engine/ChildCollection$Kind", name := "placesElements", desc := "()Z" } : Jvm.MethodName) prog_36_method_10_code (1 : Nat) (Option.some Jvm.ClassFile.FieldType.boolean)]
set_option maxRecDepth 65536 in
theorem codes_eq : words1.filter isCode = codes1 := rfl
theorem w_codes : ∀ c ∈ words1.filter isCode, c.before args0 about1 = true := by
  rw [codes_eq]
  intro c hc
  simp only [codes1, List.mem_cons, List.not_mem_nil, or_false] at hc
  rcases hc with rfl | rfl | rfl
  · exact w_c0
  · exact w_c1
  · exact w_c2
set_option maxRecDepth 65536 in
theorem w_t1 : words1.all (fun c => isCode c || c.before args0 about1) = true := by decide +kernel
theorem w_tables : (allAtoms (Jvm.Cond.code x code maxLocals ret :: tables_1)).before args0 about1 = true := by
  rw [allAtoms_all]
  show words1.all (fun c => c.before args0 about1) = true
  refine all_split ?_ w_codes
  rw [w_t1]
set_option maxRecDepth 65536 in
theorem w_case : (Jvm.Cond.and given_1 narrow_1).before args0 about1 = true := by decide +kernel
theorem w_applies : (headSpec (Jvm.Cond.code x code maxLocals ret :: tables_1) room_1).applies x e0.platform about1 = true :=
  (Spec.applies_iff w_frames).mpr ⟨w_running, w_runnable, w_alone, w_named, w_hears, w_ripe, w_room, w_tables⟩
theorem atStart : AtStart classFile x code maxLocals ret World_1 tables_1 room_1 Calls_1 rest_1 Pre_1 launch0 p0 e0 about1 theMethod args0 below0 :=
  ⟨lists_1, trivial, launch0.admits_env _ _ _, launch0.least_env, fairChoices_fair.cas, fairChoices_fair.clock, w_frames, w_args, w_heap, w_applies, trivial, trivial, w_case⟩
end start1
theorem witness_1 : WitnessClaimed_1 := ⟨start1.p0, start1.e0, start1.about1, start1.theMethod, start1.args0, start1.below0, start1.atStart⟩
end Jvm.Pilot.@@N@@
