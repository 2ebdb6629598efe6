import JvmDerived
import JvmDerived.Pilot.@@N@@Statement
import JvmDerived.Pilot.@@N@@Code
set_option linter.unusedVariables false
set_option linter.unusedSimpArgs false
namespace Jvm.Pilot.@@N@@
open Jvm Jvm.ClassFile Sem Op Lib Jvm.Free Jvm.Stand Jvm.LawKit Jvm.RoadKit Bundle Jvm.Pilot.@@N@@.Jvm.D
section Own
variable {p : Program} {l : Launch} {e : Env} {R : Room} {s : State} {m : MethodId} {args : Array Value} {below : List Frame} {meth : Method} {c : Code} {T T' : State} {locs : List Loc} {cells slots : Nat} {Z : State} {a0 : Array Value} {h : Heap} {K N : Nat} {Q : Option Value → Heap → List Loc → Prop}
/-- from the state T with the frame g on top the invocation comes to its end, and Q holds of what it leaves -/
def own_Fin (p : Program) (e : Env) (s : State) (below : List Frame) (K N : Nat) (Q : Option Value → Heap → List Loc → Prop) (T : State) (g : JFrame) : Prop :=
  ∃ s₂ o, Steps p.tables e below (T.setTop g) s₂ ∧ s₂.status = .running ∧ Ended s₂ below o ∧ ∃ v L, o = .returned v ∧ Q v s₂.heap L ∧ FrameEnd s o s₂ L K N
/-- a contract of this family: called with as' at the heap h the method returns, and Q holds -/
abbrev own_Met (l : Launch) (Z : State) (y : MethodName) (bytes : ByteArray) (maxL : Nat) (ret : Option FieldType) (ws : List Jvm.Cond) (rm : Room) (as' : Array Value) (h : Heap) (Q : Option Value → Heap → List Loc → Prop) : Prop :=
  MetFree l y (head1 (Jvm.Cond.code y bytes maxL ret :: ws) rm) (fun a U => a = as' ∧ Z.Warmed39 U.vm ∧ U.heap = h) (fun _ _ _ _ _ => True) (fun _ U o U' => ∃ v L, o = .returned v ∧ Q v U'.heap L ∧ FrameEnd U o U' L rm.cells rm.slots)
/-- a method that writes nothing and makes nothing: it returns w -/
def own_Q0 (h : Heap) (w : Value) (v : Option Value) (h' : Heap) (L : List Loc) : Prop := v = some w ∧ L = [] ∧ h' = h
abbrev own_Pure (l : Launch) (Z : State) (y : MethodName) (bytes : ByteArray) (maxL : Nat) (ret : Option FieldType) (fr lo : Nat) (as' : Array Value) (h : Heap) (w : Value) : Prop :=
  own_Met l Z y bytes maxL ret [] ({ frames := fr, cells := 0, slots := 0, locals := lo } : Room) as' h (own_Q0 h w)
theorem own_step {g g' : JFrame} (st : ∀ t, Steps p.tables e below (T'.setTop g') t → Steps p.tables e below (T.setTop g) t) (H : own_Fin p e s below K N Q T' g') : own_Fin p e s below K N Q T g := by
  obtain ⟨s2, o, h1, r⟩ := H
  exact ⟨s2, o, st _ h1, r⟩
theorem own_body {y : MethodName} {bytes : ByteArray} {maxL : Nat} {ret : Option FieldType} {ws : List Jvm.Cond} {rm : Room} {as' : Array Value} (hpn : plainName y.cls = true)
    (F : ∀ (p : Program) (e : Env) (s : State) (m : MethodId) (below : List Frame) (meth : Method) (c : Code) (s₁ : State), p.tables.exec = Jvm.exec → c.code = bytes → c.maxLocals = maxL → Z.Warmed39 s.vm → s.vm.findClass y.cls = some m.cls → meth.name = y.name → meth.sig.returnType = ret → meth.locks = false →
      Stand p l e rm s m as' below meth c s₁ [] 0 0 → s₁.heap = h → own_Fin p e s below rm.cells rm.slots Q s₁ (entryFrame m as' maxL)) : own_Met l Z y bytes maxL ret ws rm as' h Q := by
  refine MetFree.of_bodySF (plainFor_of_name hpn) hisR ?_
  intro p e s m args below meth c s₁ Bd hml0 hP hK
  obtain ⟨rfl, hZ, hh⟩ := hP
  exact F p e s m below meth c s₁ Bd.exec Bd.bytes hml0 hZ (findClass_of_methodNamed Bd.named) (name_of_methodNamed Bd.named Bd.method).1 Bd.returns Bd.notSynchronized (Stand.of_body Bd) (by rw [← hh, Bd.state]; rfl)
theorem own_end (X : Stand p l e R s m args below meth c T locs cells slots) {v : Option Value} (hv : meth.sig.returnType = none → v = none) (hlk : meth.locks = false) {g : JFrame}
    (st : ∀ fs, (∀ (f : JFrame) (acts : List Action), f.method = m → f.locked = none → f.entered = [] → (doReturn e (T.setTop f) acts v).1 = T.setFrames fs) → Steps p.tables e below (T.setTop g) (T.setFrames fs))
    (hQ : Q v T.heap locs) (hk : cells ≤ K) (hn : slots ≤ N) : own_Fin p e s below K N Q T g := by
  obtain ⟨fs, hr, hrun, hended, hW, hsame⟩ := X.leave (v := v) hv hlk
  exact ⟨_, _, st fs hr, hrun, hended, _, _, rfl, hQ, ⟨_, rfl⟩, hW, hsame.mono hk hn⟩
theorem own_retZ (X : Stand p l e R s m args below meth c T locs cells slots) (hx : p.tables.exec = Jvm.exec) (hret : meth.sig.returnType = some .boolean) (hlk : meth.locks = false) {pc : Nat} {Ls : Array Slot} {z : Int32} {rest : List Value} (hd : decode c.code pc = .ok (.ireturn, 1)) (hz : z = 0 ∨ z = 1)
    (hQ : Q (some (.int z)) T.heap locs) (hk : cells ≤ K) (hn : slots ≤ N) : own_Fin p e s below K N Q T (mkF m pc Ls (.int z :: rest)) := by
  refine own_end X (v := some (.int z)) (fun q => by rw [hret] at q; cases q) hlk (fun fs hr => ?_) hQ hk hn
  have hnar : nar .boolean z = z := by rcases hz with rfl | rfl <;> rfl
  exact retN X hx (t := .boolean) hret (Or.inl rfl) hd (by rw [hnar]; exact hr)
theorem own_retA (X : Stand p l e R s m args below meth c T locs cells slots) (hx : p.tables.exec = Jvm.exec) {t : FieldType} (hret : meth.sig.returnType = some t) (ht : t.isReference = true) (hlk : meth.locks = false) {pc : Nat} {Ls : Array Slot} {w : Value} {rest : List Value} (hd : decode c.code pc = .ok (.areturn, 1)) (hw : w.isRef = true)
    (hQ : Q (some w) T.heap locs) (hk : cells ≤ K) (hn : slots ≤ N) : own_Fin p e s below K N Q T (mkF m pc Ls (w :: rest)) := by
  refine own_end X (v := some w) (fun q => by rw [hret] at q; cases q) hlk (fun fs hr => ?_) hQ hk hn
  refine retOut X hx (i := .areturn) hret ?_ (Or.inr (Or.inr (Or.inr (Or.inr ⟨rfl, ht, hw⟩)))) hd hr
  rcases ref_cases hw with rfl | ⟨a, rfl⟩ <;> cases t <;> first | rfl | (cases ht; done)
theorem own_getS (X : Stand p l e R s m args below meth c T locs cells slots) (hx : p.tables.exec = Jvm.exec) (hZ : Z.Warmed39 s.vm) {own O n d : String} {index : Nat} (hown : s.vm.findClass own = some m.cls) (w : (Jvm.Cond.fieldLink own index O n d).before a0 Z = true) (eT : T.heap = h) {v : Value} (F : Sta Z h O n d v)
    {pc : Nat} {Ls : Array Slot} {st : List Value} (hd : decode c.code pc = .ok (.getstatic index, 3)) (H : ∀ T', Stand p l e R s m args below meth c T' locs cells slots → T'.heap = h → own_Fin p e s below K N Q T' (mkF m (pc + 3) Ls (v :: st))) : own_Fin p e s below K N Q T (mkF m pc Ls st) := by
  obtain ⟨T', X', e', st'⟩ := getS (host := "") X hx hZ hown w Via.refl eT F (g := mkF m pc Ls st) rfl hd
  exact own_step st' (H T' X' e')
theorem own_getF (X : Stand p l e R s m args below meth c T locs cells slots) (hx : p.tables.exec = Jvm.exec) (hZ : Z.Warmed39 s.vm) {own O n d : String} {index : Nat} (hown : s.vm.findClass own = some m.cls) (w : (Jvm.Cond.fieldLink own index O n d).before a0 Z = true) (eT : T.heap = h) {a : Addr} {v : Value} (F : Fld Z h a O n d v)
    {pc : Nat} {Ls : Array Slot} {st : List Value} (hd : decode c.code pc = .ok (.getfield index, 3)) (H : ∀ T', Stand p l e R s m args below meth c T' locs cells slots → T'.heap = h → own_Fin p e s below K N Q T' (mkF m (pc + 3) Ls (v :: st))) : own_Fin p e s below K N Q T (mkF m pc Ls (.ref a :: st)) := by
  obtain ⟨T', X', e', st'⟩ := getF (host := "") X hx hZ hown (Or.inl w) Via.refl eT F (g := mkF m pc Ls (.ref a :: st)) rfl rfl hd
  exact own_step st' (H T' X' e')
/-- a static method by its contract -/
theorem own_callS (X : Stand p l e R s m args below meth c T locs cells slots) (hx : p.tables.exec = Jvm.exec) (hZ : Z.Warmed39 s.vm) {own : String} {index : Nat} {y : MethodName} {bytes : ByteArray} {maxL : Nat} {ret : Option FieldType} {rm : Room} {Q' : Option Value → Heap → List Loc → Prop} {argsL rest : List Value}
    (hown : s.vm.findClass own = some m.cls) (w1 : (Jvm.Cond.methodLink own index y).before a0 Z = true) (w2 : (Jvm.Cond.static y).before a0 Z = true) (w3 : (Jvm.Cond.initialized y.cls).before a0 Z = true) (w4 : (Jvm.Cond.code y bytes maxL ret).before a0 Z = true)
    (hy : y.cls ≠ "java/lang/invoke/MethodHandle" ∧ y.cls ≠ "java/lang/invoke/VarHandle") (M : own_Met l Z y bytes maxL ret [] rm argsL.toArray h Q') (eT : T.heap = h) (W : Nat) (hW : (rest.map fun v => v.category).sum ≤ W) (hf : rm.frames + 1 ≤ R.frames) (hl : W + (maxL + 11) + rm.locals ≤ R.locals) (hc : cells + rm.cells ≤ R.cells) (hs : slots + rm.slots ≤ R.slots)
    {pc : Nat} {Ls : Array Slot} {st : List Value} (hml : c.maxLocals = Ls.size) {ps : List FieldType} {r : Option FieldType} (hsig : parseMethodDescriptor y.desc = some ⟨ps, r⟩) (hlen : argsL.length = ps.length) (hst : st = argsL.reverse ++ rest) (hd : decode c.code pc = .ok (.invokestatic index, 3))
    (H : ∀ T' L v, Stand p l e R s m args below meth c T' (locs ++ L) (cells + rm.cells) (slots + rm.slots) → Q' v T'.heap L → own_Fin p e s below K N Q T' (mkF m (pc + 3) Ls (v.toList ++ rest))) : own_Fin p e s below K N Q T (mkF m pc Ls st) := by
  obtain ⟨v, _, ⟨T', L', k', n'⟩, -, X', ⟨Lc, hQ, l', y', z'⟩, st'⟩ := Jvm.LawKit.callS X hx (y := y) hown (mvT hZ w1) (mvT hZ w2) (mvT hZ w3) (mvT hZ w4) hy (backOf (W := W) M hZ w4 w3 hf hl) (g := mkF m pc Ls st) rfl (by rw [hml]) (argsL := argsL) (rest := rest) (lenOf hsig hlen) hst (by show 2 * 0 + _ ≤ _; omega) hd (fun _ _ => ⟨rfl, eT, hc, hs⟩)
  dsimp only [Pt.U, Pt.locs, Pt.cells, Pt.slots] at X' l' y' z' st' hQ
  subst l' y' z'
  exact own_step st' (H T' Lc v X' hQ)
/-- an instance method by its contract, the receiver exactly of the class C -/
theorem own_callV (X : Stand p l e R s m args below meth c T locs cells slots) (hx : p.tables.exec = Jvm.exec) (hZ : Z.Warmed39 s.vm) {own C : String} {index : Nat} {y : MethodName} {bytes : ByteArray} {maxL : Nat} {ret : Option FieldType} {rm : Room} {Q' : Option Value → Heap → List Loc → Prop} {b : Addr} {argsL rest : List Value}
    (hown : s.vm.findClass own = some m.cls) (w1 : (Jvm.Cond.methodLink own index y).before a0 Z = true) (w2 : (Jvm.Cond.declares y).before a0 Z = true) (w3 : (Jvm.Cond.selects C y y).before a0 Z = true) (w4 : (Jvm.Cond.instanceMethod y).before a0 Z = true) (w5 : (Jvm.Cond.code y bytes maxL ret).before a0 Z = true) (w6 : (Jvm.Cond.initialized y.cls).before a0 Z = true)
    (hy : y.cls ≠ "java/lang/invoke/MethodHandle" ∧ y.cls ≠ "java/lang/invoke/VarHandle") (E : Exa Z h b C) (M : own_Met l Z y bytes maxL ret [] rm (.ref b :: argsL).toArray h Q') (eT : T.heap = h) (W : Nat) (hW : (rest.map fun v => v.category).sum ≤ W) (hf : rm.frames + 1 ≤ R.frames) (hl : W + (maxL + 11) + rm.locals ≤ R.locals) (hc : cells + rm.cells ≤ R.cells) (hs : slots + rm.slots ≤ R.slots)
    {pc : Nat} {Ls : Array Slot} {st : List Value} (hml : c.maxLocals = Ls.size) {ps : List FieldType} {r : Option FieldType} (hsig : parseMethodDescriptor y.desc = some ⟨ps, r⟩) (hlen : argsL.length = ps.length) (hst : st = argsL.reverse ++ .ref b :: rest) (hd : decode c.code pc = .ok (.invokevirtual index, 3))
    (H : ∀ T' L v, Stand p l e R s m args below meth c T' (locs ++ L) (cells + rm.cells) (slots + rm.slots) → Q' v T'.heap L → own_Fin p e s below K N Q T' (mkF m (pc + 3) Ls (v.toList ++ rest))) : own_Fin p e s below K N Q T (mkF m pc Ls st) := by
  obtain ⟨cq, kq, q1, q2, q3⟩ := isOf hZ eT E
  obtain ⟨v, _, ⟨T', L', k', n'⟩, -, X', ⟨Lc, hQ, l', y', z'⟩, st'⟩ := X.virtualBack hx (y := y) (z := y) hown (mvT hZ w1) (mvT hZ w2) (notFace_of_selects (args := #[]) (mvT hZ w3)) (mvT hZ w3) (mvT hZ w4) hy (backOf (W := W) M hZ w5 w6 hf hl) q1 q3 (g := mkF m pc Ls st) rfl (by rw [hml]) (Steps.refl _) (argsL := argsL) (rest := rest) (lenOf hsig hlen) hst (by show 2 * 0 + _ ≤ _; omega) hd (fun _ _ => ⟨rfl, eT, hc, hs⟩)
  dsimp only [Pt.U, Pt.locs, Pt.cells, Pt.slots] at X' l' y' z' st' hQ
  subst l' y' z'
  exact own_step (fun _ k => st'.trans k) (H T' Lc v X' hQ)
theorem own_callS0 (X : Stand p l e R s m args below meth c T locs cells slots) (hx : p.tables.exec = Jvm.exec) (hZ : Z.Warmed39 s.vm) {own : String} {index : Nat} {y : MethodName} {bytes : ByteArray} {maxL : Nat} {ret : Option FieldType} {fr lo : Nat} {w : Value} {argsL rest : List Value}
    (hown : s.vm.findClass own = some m.cls) (w1 : (Jvm.Cond.methodLink own index y).before a0 Z = true) (w2 : (Jvm.Cond.static y).before a0 Z = true) (w3 : (Jvm.Cond.initialized y.cls).before a0 Z = true) (w4 : (Jvm.Cond.code y bytes maxL ret).before a0 Z = true)
    (hy : y.cls ≠ "java/lang/invoke/MethodHandle" ∧ y.cls ≠ "java/lang/invoke/VarHandle") (M : own_Pure l Z y bytes maxL ret fr lo argsL.toArray h w) (eT : T.heap = h) (W : Nat) (hW : (rest.map fun v => v.category).sum ≤ W) (hf : fr + 1 ≤ R.frames) (hl : W + (maxL + 11) + lo ≤ R.locals) (hc : cells ≤ R.cells) (hs : slots ≤ R.slots)
    {pc : Nat} {Ls : Array Slot} {st : List Value} (hml : c.maxLocals = Ls.size) {ps : List FieldType} {r : Option FieldType} (hsig : parseMethodDescriptor y.desc = some ⟨ps, r⟩) (hlen : argsL.length = ps.length) (hst : st = argsL.reverse ++ rest) (hd : decode c.code pc = .ok (.invokestatic index, 3))
    (H : ∀ T', Stand p l e R s m args below meth c T' locs cells slots → T'.heap = h → own_Fin p e s below K N Q T' (mkF m (pc + 3) Ls (w :: rest))) : own_Fin p e s below K N Q T (mkF m pc Ls st) := by
  refine own_callS X hx hZ hown w1 w2 w3 w4 hy M eT W hW hf hl hc hs hml hsig hlen hst hd ?_
  rintro T' L v X' ⟨rfl, rfl, q⟩
  rw [List.append_nil] at X'
  exact H T' X' q
theorem own_callV0 (X : Stand p l e R s m args below meth c T locs cells slots) (hx : p.tables.exec = Jvm.exec) (hZ : Z.Warmed39 s.vm) {own C : String} {index : Nat} {y : MethodName} {bytes : ByteArray} {maxL : Nat} {ret : Option FieldType} {fr lo : Nat} {w : Value} {b : Addr} {argsL rest : List Value}
    (hown : s.vm.findClass own = some m.cls) (w1 : (Jvm.Cond.methodLink own index y).before a0 Z = true) (w2 : (Jvm.Cond.declares y).before a0 Z = true) (w3 : (Jvm.Cond.selects C y y).before a0 Z = true) (w4 : (Jvm.Cond.instanceMethod y).before a0 Z = true) (w5 : (Jvm.Cond.code y bytes maxL ret).before a0 Z = true) (w6 : (Jvm.Cond.initialized y.cls).before a0 Z = true)
    (hy : y.cls ≠ "java/lang/invoke/MethodHandle" ∧ y.cls ≠ "java/lang/invoke/VarHandle") (E : Exa Z h b C) (M : own_Pure l Z y bytes maxL ret fr lo (.ref b :: argsL).toArray h w) (eT : T.heap = h) (W : Nat) (hW : (rest.map fun v => v.category).sum ≤ W) (hf : fr + 1 ≤ R.frames) (hl : W + (maxL + 11) + lo ≤ R.locals) (hc : cells ≤ R.cells) (hs : slots ≤ R.slots)
    {pc : Nat} {Ls : Array Slot} {st : List Value} (hml : c.maxLocals = Ls.size) {ps : List FieldType} {r : Option FieldType} (hsig : parseMethodDescriptor y.desc = some ⟨ps, r⟩) (hlen : argsL.length = ps.length) (hst : st = argsL.reverse ++ .ref b :: rest) (hd : decode c.code pc = .ok (.invokevirtual index, 3))
    (H : ∀ T', Stand p l e R s m args below meth c T' locs cells slots → T'.heap = h → own_Fin p e s below K N Q T' (mkF m (pc + 3) Ls (w :: rest))) : own_Fin p e s below K N Q T (mkF m pc Ls st) := by
  refine own_callV X hx hZ hown w1 w2 w3 w4 w5 w6 hy E M eT W hW hf hl hc hs hml hsig hlen hst hd ?_
  rintro T' L v X' ⟨rfl, rfl, q⟩
  rw [List.append_nil] at X'
  exact H T' X' q
end Own
section OwnFacts
variable {Z : State} {h : Heap} {a b : Addr} {C n d : String} {v w : Value} {args : Array Value} {s : State} {t : Term}
theorem own_fld_uni (F : Fld Z h a C n d v) (G : Fld Z h a C n d w) : v = w := by
  obtain ⟨cell, cf, k, i, f, h1, h2, h3, h4, h5, h6, h7⟩ := F
  obtain ⟨cell', cf', k', i', f', g1, g2, g3, g4, g5, g6, g7⟩ := G
  cases h1.symm.trans g1
  cases h2.symm.trans g2
  exact Option.some.inj (h7.symm.trans g7)
theorem own_ne {j k : Int32} (F : Fld Z h a C n d (.int j)) (G : Fld Z h b C n d (.int k)) (hn : j ≠ k) : a ≠ b := fun e => by
  subst e; exact hn (Value.int.inj (own_fld_uni F G))
theorem own_eqi {k : Int32} (q : (Jvm.Cond.eq t (Term.int k)).value args s none s [] = some true) : t.eval args s none [] s = some (.int k) := by
  simp only [Jvm.Cond.value, Term.eval] at q
  cases ht : t.eval args s none [] s with
  | none => simp [ht] at q
  | some x => cases x <;> simp [ht] at q ⊢; exact q
theorem own_fldw {k : Int32} (ev : t.eval args s none [] s = some (.ref a)) (q : (Jvm.Cond.eq (Term.field t C n d) (Term.int k)).value args s none s [] = some true) : Fld s s.heap a C n d (.int k) :=
  Fld.start ((fld_at ev).symm.trans (own_eqi q))
end OwnFacts
section OwnRanges
/-- lo ≤ c ≤ hi, as the code asks it -/
def own_in (c lo hi : Int32) : Bool := !decide (c < lo) && !decide (hi < c)
def own_inR (c : Int32) : List Int32 → Bool
  | lo :: hi :: r => own_in c lo hi || own_inR c r
  | _ => false
theorem own_succ32 {k : Nat} : Int32.ofNat k + (1 : Int32) = Int32.ofNat (k + 1) := by rw [Int32.ofNat_add]; rfl
theorem own_succ2 {j : Nat} : Int32.ofNat (2 * j) + (2 : Int32) = Int32.ofNat (2 * (j + 1)) := by rw [Nat.mul_add, Int32.ofNat_add]; rfl
theorem own_n32 {k : Nat} (q : k < 2 ^ 31) : (Int32.ofNat k).toNatClampNeg = k := Int32.toNatClampNeg_ofNat_of_lt q
theorem own_lt32 {a b : Nat} (hb : b < 2 ^ 31) (q : a < b) : Int32.ofNat a < Int32.ofNat b := (Int32.ofNat_lt_ofNat (by omega) hb).mpr q
theorem own_nlt32 {a b : Nat} (ha : a < 2 ^ 31) (q : b ≤ a) : ¬ Int32.ofNat a < Int32.ofNat b := fun h' => by have := (Int32.ofNat_lt_ofNat ha (by omega)).mp h'; omega
theorem own_nneg {k : Nat} (q : k < 2 ^ 31) : ¬ Int32.ofNat k < 0 := own_nlt32 (b := 0) q (Nat.zero_le _)
theorem own_pair {cl : Cell} {xs : List Int32} {n j : Nat} (hxs : cl.slots.toList = xs.map Value.int) (hlen : xs.length = 2 * n) (hj : j < n) : ∃ lo hi, xs.drop (2 * j) = lo :: hi :: xs.drop (2 * (j + 1)) ∧ cl.slots[2 * j]? = some (.int lo) ∧ cl.slots[2 * j + 1]? = some (.int hi) := by
  have h1 : 2 * j < xs.length := by omega
  have h2 : 2 * j + 1 < xs.length := by omega
  refine ⟨xs[2 * j], xs[2 * j + 1], ?_, ?_, ?_⟩
  · rw [List.drop_eq_getElem_cons h1, List.drop_eq_getElem_cons h2]; rfl
  · rw [← Array.getElem?_toList, hxs, List.getElem?_map, List.getElem?_eq_getElem h1]; rfl
  · rw [← Array.getElem?_toList, hxs, List.getElem?_map, List.getElem?_eq_getElem h2]; rfl
theorem own_size {cl : Cell} {xs : List Int32} {n : Nat} (hxs : cl.slots.toList = xs.map Value.int) (hlen : xs.length = 2 * n) : cl.slots.size = 2 * n := by
  rw [← Array.length_toList, hxs, List.length_map, hlen]
/-- the array's places from k on hold the list's ints -/
def own_Match (slots : Array Value) : Nat → List Int32 → Prop
  | _, [] => True
  | k, x :: r => slots[k]? = some (.int x) ∧ own_Match slots (k + 1) r
theorem own_match_at {slots : Array Value} : ∀ (xs : List Int32) (k i : Nat) (hi : i < xs.length), own_Match slots k xs → slots[k + i]? = some (.int xs[i])
  | x :: r, k, 0, _, M => M.1
  | x :: r, k, i + 1, hi, M => by
    have := own_match_at r (k + 1) i (Nat.lt_of_succ_lt_succ hi) M.2
    rw [show k + (i + 1) = k + 1 + i by omega]; exact this
theorem own_list {slots : Array Value} {xs : List Int32} (hs : slots.size = xs.length) (M : own_Match slots 0 xs) : slots.toList = xs.map Value.int := by
  apply List.ext_getElem?
  intro i
  rw [Array.getElem?_toList]
  by_cases hi : i < xs.length
  · have := own_match_at xs 0 i hi M
    rw [Nat.zero_add] at this
    rw [this, List.getElem?_map, List.getElem?_eq_getElem hi]; rfl
  · rw [List.getElem?_map, List.getElem?_eq_none (by omega), Array.getElem?_eq_none (by omega)]; rfl
theorem own_len {args : Array Value} {s : State} {t : Term} {a : Addr} {cl : Cell} {ty : FieldType} {k : Int32} {j : Nat} (hk : k.toNatClampNeg = j) (ev : t.eval args s none [] s = some (.ref a)) (A : Arr s s.heap a cl ty) (q : (Term.length t).eval args s none [] s = some (.int k)) : cl.slots.size = j := by
  have hA : s.arrayAt? a = some cl := Arr.fin (Vm.Alike.refl _) A
  by_cases hl : cl.slots.size < 2 ^ 31
  · rw [len_f ev hA hl] at q
    have e := Value.int.inj (Option.some.inj q)
    rw [← hk, ← e]; exact (own_n32 hl).symm
  · exfalso
    simp [Term.eval, ev, hA] at q
    omega
theorem own_elem {args : Array Value} {s : State} {t : Term} {a : Addr} {cl : Cell} {ty : FieldType} {k : Int32} {j : Nat} {v : Value} (hk : k.toNatClampNeg = j) (ev : t.eval args s none [] s = some (.ref a)) (A : Arr s s.heap a cl ty) (q : (Term.elem t (Term.int k)).eval args s none [] s = some v) : cl.slots[j]? = some v := by
  have e := (elem_in q ev (Term.int_eval k) A.1).2
  rwa [hk] at e
theorem own_alenA {p : Program} {l : Launch} {e : Env} {R : Room} {s : State} {m : MethodId} {args : Array Value} {below : List Frame} {meth : Method} {c : Code} {T : State} {locs : List Loc} {cells slots : Nat} {Z : State} {h : Heap} {K N : Nat} {Q : Option Value → Heap → List Loc → Prop} {a : Addr} {cl : Cell} {ty : FieldType}
    (X : Stand p l e R s m args below meth c T locs cells slots) (hx : p.tables.exec = Jvm.exec) (hZ : Z.Warmed39 s.vm) (eT : T.heap = h) (A : Arr Z h a cl ty) {pc : Nat} {Ls : Array Slot} {st : List Value} {z : Int32} (hz : cl.slots.size.toInt32 = z) (hd : decode c.code pc = .ok (.arraylength, 1)) (H : own_Fin p e s below K N Q T (mkF m (pc + 1) Ls (.int z :: st))) : own_Fin p e s below K N Q T (mkF m pc Ls (.ref a :: st)) := by
  subst hz
  exact own_step (fun _ k => Stand.arraylength X hx (by rw [eT]; exact A.1) (State.isArrayOf_alike hZ.alike A.2.1) (g := mkF m pc Ls (.ref a :: st)) rfl rfl hd _ k) H
theorem own_ildA {p : Program} {l : Launch} {e : Env} {R : Room} {s : State} {m : MethodId} {args : Array Value} {below : List Frame} {meth : Method} {c : Code} {T : State} {locs : List Loc} {cells slots : Nat} {Z : State} {h : Heap} {K N : Nat} {Q : Option Value → Heap → List Loc → Prop} {a : Addr} {cl : Cell}
    (X : Stand p l e R s m args below meth c T locs cells slots) (hx : p.tables.exec = Jvm.exec) (hZ : Z.Warmed39 s.vm) (eT : T.heap = h) (A : Arr Z h a cl .int) {j : Int32} {v : Value} (hin : ¬ (j < 0 ∨ cl.slots.size ≤ j.toNatClampNeg)) (hv : cl.slots[j.toNatClampNeg]? = some v)
    {pc : Nat} {Ls : Array Slot} {st : List Value} (hd : decode c.code pc = .ok (.iaload, 1)) (H : own_Fin p e s below K N Q T (mkF m (pc + 1) Ls (v :: st))) : own_Fin p e s below K N Q T (mkF m pc Ls (.int j :: .ref a :: st)) :=
  own_step (fun _ k => Stand.iaload X hx (by rw [eT]; exact A.1) (State.isArrayOf_alike hZ.alike A.2.1) A.2.2 hin hv (g := mkF m pc Ls (.int j :: .ref a :: st)) rfl rfl hd _ k) H
end OwnRanges
theorem pn_com_example_wiazka_wiazka_XmlNames : plainName "com/example/wiazka/wiazka/XmlNames" = true := by first | (simp [plainName, overriddenIn]; done) | decide +kernel
theorem pn_com_example_wiazka_wiazka_XmlNamesIsNameCharPinLaw : plainName "com/example/wiazka/wiazka/XmlNamesIsNameCharPinLaw" = true := by first | (simp [plainName, overriddenIn]; done) | decide +kernel
theorem pd__I_Z : parseMethodDescriptor "(I)Z" = some ⟨[.int], (some .boolean)⟩ := by decide +kernel
theorem pd__III_Z : parseMethodDescriptor "(III)Z" = some ⟨[.int, .int, .int], (some .boolean)⟩ := by decide +kernel
def own_NS : List Int32 := [192, 214, 216, 246, 248, 767, 880, 893, 895, 8191, 8204, 8205, 8304, 8591, 11264, 12271, 12289, 55295, 63744, 64975, 65008, 65533, 65536, 983039]
def own_ref (c : Int32) : Bool :=
  if c < 0 then false
  else if c < 128 then own_in c 45 46 || own_in c 48 58 || own_in c 65 90 || decide (c = 95) || own_in c 97 122
  else decide (c = 183) || own_in c 192 214 || own_in c 216 246 || own_in c 248 893 || own_in c 895 8191 || own_in c 8204 8205 || own_in c 8255 8256 || own_in c 8304 8591 || own_in c 11264 12271 || own_in c 12289 55295 || own_in c 63744 64975 || own_in c 65008 65533 || own_in c 65536 983039
def own_ns (c : Int32) : Bool := if c < 128 then own_in c 97 122 || own_in c 65 90 || decide (c = 95) || decide (c = 58) else own_inR c own_NS
def own_nc (c : Int32) : Bool := own_ns c || own_in c 48 57 || decide (c = 45) || decide (c = 46) || decide (c = 183) || own_in c 768 879 || decide (c = 8255) || decide (c = 8256)
theorem own_law (c : Int32) : own_nc c = own_ref c := by
  have e : ∀ k : Int32, (c < k) = (c.toInt < k.toInt) := fun k => propext Int32.lt_iff_toInt_lt
  have e' : ∀ k : Int32, (k < c) = (k.toInt < c.toInt) := fun k => propext Int32.lt_iff_toInt_lt
  have e2 : ∀ k : Int32, (c = k) = (c.toInt = k.toInt) := fun k => propext Int32.toInt_inj.symm
  rw [Bool.eq_iff_iff]
  simp only [own_nc, own_ns, own_NS, own_inR, own_in, own_ref, e, e', e2]
  generalize c.toInt = z
  simp only [Int32.reduceToInt]
  clear e e' e2
  by_cases h1 : z < 128
  · by_cases h0 : z < 0
    · simp only [h1, h0, if_true, if_false, Bool.or_eq_true, Bool.and_eq_true, Bool.not_eq_true', decide_eq_false_iff_not, decide_eq_true_eq, Bool.false_eq_true, or_false]; constructor <;> intro h <;> (repeat' (refine Or.elim h ?_ ?_ <;> clear h <;> intro h)) <;> first | exact False.elim h | omega
    · simp only [h1, h0, if_true, if_false, Bool.or_eq_true, Bool.and_eq_true, Bool.not_eq_true', decide_eq_false_iff_not, decide_eq_true_eq, Bool.false_eq_true, or_false]; constructor <;> intro h <;> (repeat' (refine Or.elim h ?_ ?_ <;> clear h <;> intro h)) <;> first | exact False.elim h | omega
  · have h0 : ¬ z < 0 := by omega
    simp only [h1, h0, if_true, if_false, Bool.or_eq_true, Bool.and_eq_true, Bool.not_eq_true', decide_eq_false_iff_not, decide_eq_true_eq, Bool.false_eq_true, or_false]; constructor <;> intro h <;> (repeat' (refine Or.elim h ?_ ?_ <;> clear h <;> intro h)) <;> first | exact False.elim h | omega
theorem ef_4 (m : MethodId) (x0 x1 x2 : Int32) : entryFrame m #[(.int x0), (.int x1), (.int x2)] 3 = mkF m 0 #[.val (.int x0), .val (.int x1), .val (.int x2)] [] := by first | (simp [entryFrame, mkF, argsToLocals, Value.category]; done) | rfl
theorem d4_0 : decode method_3_code 0 = .ok (.iload_n 0, 1) := by decide +kernel
theorem d4_1 : decode method_3_code 1 = .ok (.iload_n 1, 1) := by decide +kernel
theorem d4_2 : decode method_3_code 2 = .ok (.if_icmp .lt 12, 3) := by decide +kernel
theorem d4_5 : decode method_3_code 5 = .ok (.iload_n 0, 1) := by decide +kernel
theorem d4_6 : decode method_3_code 6 = .ok (.iload_n 2, 1) := by decide +kernel
theorem d4_7 : decode method_3_code 7 = .ok (.if_icmp .gt 7, 3) := by decide +kernel
theorem d4_10 : decode method_3_code 10 = .ok (.iconst 1, 1) := by decide +kernel
theorem d4_11 : decode method_3_code 11 = .ok (.goto 4, 3) := by decide +kernel
theorem d4_14 : decode method_3_code 14 = .ok (.iconst 0, 1) := by decide +kernel
theorem d4_15 : decode method_3_code 15 = .ok (.ireturn, 1) := by decide +kernel
set_option maxRecDepth 65536 in
set_option maxHeartbeats 40000000 in
theorem rm4 (l : Launch) (Z : State) (a0 : Array Value) (hw : ∀ d ∈ tables_1, d.before a0 Z = true) (h0 : Heap) (c1 lo hi : Int32)  :
    own_Pure l Z (⟨"com/example/wiazka/wiazka/XmlNamesIsNameCharPinLaw", "in", "(III)Z"⟩ : MethodName) method_3_code 3 (some .boolean) 0 0 #[(.int c1), (.int lo), (.int hi)] h0 (.int (if own_in c1 lo hi = true then 1 else 0)) := by
  refine own_body pn_com_example_wiazka_wiazka_XmlNamesIsNameCharPinLaw ?_
  intro p e s m below meth c s₁ hx hby hml hZ hown hnm hrt hlk X0 e0
  rw [ef_4]
  show own_Fin _ _ _ _ _ _ _ s₁ (mkF m 0 #[.val (.int c1), .val (.int lo), .val (.int hi)] [])
  refine own_step (fun _ k => XS.iloadN X0.here hx rfl (hb hby d4_0) rfl k) ?_
  show own_Fin _ _ _ _ _ _ _ s₁ (mkF m 1 #[.val (.int c1), .val (.int lo), .val (.int hi)] [(.int c1)])
  refine own_step (fun _ k => XS.iloadN X0.here hx rfl (hb hby d4_1) rfl k) ?_
  show own_Fin _ _ _ _ _ _ _ s₁ (mkF m 2 #[.val (.int c1), .val (.int lo), .val (.int hi)] [(.int lo), (.int c1)])
  by_cases h2 : c1 < lo
  · skip
    refine own_step (fun _ k => XS.icmpYes X0.here hx rfl (pc0 := 2) (pc' := 14) rfl (hb hby d4_2) rfl (XT.ii_lt_t h2) (by decide) (by decide) k) ?_
    show own_Fin _ _ _ _ _ _ _ s₁ (mkF m 14 #[.val (.int c1), .val (.int lo), .val (.int hi)] [])
    refine own_step (fun _ k => XT.iconstV X0.here hx rfl (0 : Int32) (hb hby d4_14) (by decide) k) ?_
    show own_Fin _ _ _ _ _ _ _ s₁ (mkF m 15 #[.val (.int c1), .val (.int lo), .val (.int hi)] [(.int (0 : Int32))])
    exact own_retZ X0 hx hrt hlk (hb hby d4_15) (Or.inl rfl) ⟨by simp [own_in, h2], rfl, e0⟩ (Nat.le_refl _) (Nat.le_refl _)
  · skip
    refine own_step (fun _ k => XS.icmpNo X0.here hx rfl (hb hby d4_2) rfl (XT.ii_lt_f h2) k) ?_
    show own_Fin _ _ _ _ _ _ _ s₁ (mkF m 5 #[.val (.int c1), .val (.int lo), .val (.int hi)] [])
    refine own_step (fun _ k => XS.iloadN X0.here hx rfl (hb hby d4_5) rfl k) ?_
    show own_Fin _ _ _ _ _ _ _ s₁ (mkF m 6 #[.val (.int c1), .val (.int lo), .val (.int hi)] [(.int c1)])
    refine own_step (fun _ k => XS.iloadN X0.here hx rfl (hb hby d4_6) rfl k) ?_
    show own_Fin _ _ _ _ _ _ _ s₁ (mkF m 7 #[.val (.int c1), .val (.int lo), .val (.int hi)] [(.int hi), (.int c1)])
    by_cases h7 : hi < c1
    · skip
      refine own_step (fun _ k => XS.icmpYes X0.here hx rfl (pc0 := 7) (pc' := 14) rfl (hb hby d4_7) rfl (XT.ii_gt_t h7) (by decide) (by decide) k) ?_
      show own_Fin _ _ _ _ _ _ _ s₁ (mkF m 14 #[.val (.int c1), .val (.int lo), .val (.int hi)] [])
      refine own_step (fun _ k => XT.iconstV X0.here hx rfl (0 : Int32) (hb hby d4_14) (by decide) k) ?_
      show own_Fin _ _ _ _ _ _ _ s₁ (mkF m 15 #[.val (.int c1), .val (.int lo), .val (.int hi)] [(.int (0 : Int32))])
      exact own_retZ X0 hx hrt hlk (hb hby d4_15) (Or.inl rfl) ⟨by simp [own_in, h2, h7], rfl, e0⟩ (Nat.le_refl _) (Nat.le_refl _)
    · skip
      refine own_step (fun _ k => XS.icmpNo X0.here hx rfl (hb hby d4_7) rfl (XT.ii_gt_f h7) k) ?_
      show own_Fin _ _ _ _ _ _ _ s₁ (mkF m 10 #[.val (.int c1), .val (.int lo), .val (.int hi)] [])
      refine own_step (fun _ k => XT.iconstV X0.here hx rfl (1 : Int32) (hb hby d4_10) (by decide) k) ?_
      show own_Fin _ _ _ _ _ _ _ s₁ (mkF m 11 #[.val (.int c1), .val (.int lo), .val (.int hi)] [(.int (1 : Int32))])
      refine own_step (fun _ k => XS.goto X0.here hx rfl (pc0 := 11) (pc' := 15) rfl (hb hby d4_11) (by decide) (by decide) k) ?_
      show own_Fin _ _ _ _ _ _ _ s₁ (mkF m 15 #[.val (.int c1), .val (.int lo), .val (.int hi)] [(.int (1 : Int32))])
      exact own_retZ X0 hx hrt hlk (hb hby d4_15) (Or.inr rfl) ⟨by simp [own_in, h2, h7], rfl, e0⟩ (Nat.le_refl _) (Nat.le_refl _)
theorem ef_1 (m : MethodId) (x0 : Int32) : entryFrame m #[(.int x0)] 1 = mkF m 0 #[.val (.int x0)] [] := by first | (simp [entryFrame, mkF, argsToLocals, Value.category]; done) | rfl
theorem d3_0 : decode method_4_code 0 = .ok (.iload_n 0, 1) := by decide +kernel
theorem d3_1 : decode method_4_code 1 = .ok (.ifCond .ge 5, 3) := by decide +kernel
theorem d3_4 : decode method_4_code 4 = .ok (.iconst 0, 1) := by decide +kernel
theorem d3_5 : decode method_4_code 5 = .ok (.ireturn, 1) := by decide +kernel
theorem d3_6 : decode method_4_code 6 = .ok (.iload_n 0, 1) := by decide +kernel
theorem d3_7 : decode method_4_code 7 = .ok (.sipush 128, 3) := by decide +kernel
theorem d3_10 : decode method_4_code 10 = .ok (.if_icmp .ge 59, 3) := by decide +kernel
theorem d3_13 : decode method_4_code 13 = .ok (.iload_n 0, 1) := by decide +kernel
theorem d3_14 : decode method_4_code 14 = .ok (.bipush 45, 2) := by decide +kernel
theorem d3_16 : decode method_4_code 16 = .ok (.bipush 46, 2) := by decide +kernel
theorem d3_18 : decode method_4_code 18 = .ok (.invokestatic 20, 3) := by decide +kernel
theorem d3_21 : decode method_4_code 21 = .ok (.ifCond .ne 42, 3) := by decide +kernel
theorem d3_24 : decode method_4_code 24 = .ok (.iload_n 0, 1) := by decide +kernel
theorem d3_25 : decode method_4_code 25 = .ok (.bipush 48, 2) := by decide +kernel
theorem d3_27 : decode method_4_code 27 = .ok (.bipush 58, 2) := by decide +kernel
theorem d3_29 : decode method_4_code 29 = .ok (.invokestatic 20, 3) := by decide +kernel
theorem d3_32 : decode method_4_code 32 = .ok (.ifCond .ne 31, 3) := by decide +kernel
theorem d3_35 : decode method_4_code 35 = .ok (.iload_n 0, 1) := by decide +kernel
theorem d3_36 : decode method_4_code 36 = .ok (.bipush 65, 2) := by decide +kernel
theorem d3_38 : decode method_4_code 38 = .ok (.bipush 90, 2) := by decide +kernel
theorem d3_40 : decode method_4_code 40 = .ok (.invokestatic 20, 3) := by decide +kernel
theorem d3_43 : decode method_4_code 43 = .ok (.ifCond .ne 20, 3) := by decide +kernel
theorem d3_46 : decode method_4_code 46 = .ok (.iload_n 0, 1) := by decide +kernel
theorem d3_47 : decode method_4_code 47 = .ok (.bipush 95, 2) := by decide +kernel
theorem d3_49 : decode method_4_code 49 = .ok (.if_icmp .eq 14, 3) := by decide +kernel
theorem d3_52 : decode method_4_code 52 = .ok (.iload_n 0, 1) := by decide +kernel
theorem d3_53 : decode method_4_code 53 = .ok (.bipush 97, 2) := by decide +kernel
theorem d3_55 : decode method_4_code 55 = .ok (.bipush 122, 2) := by decide +kernel
theorem d3_57 : decode method_4_code 57 = .ok (.invokestatic 20, 3) := by decide +kernel
theorem d3_60 : decode method_4_code 60 = .ok (.ifCond .eq 7, 3) := by decide +kernel
theorem d3_63 : decode method_4_code 63 = .ok (.iconst 1, 1) := by decide +kernel
theorem d3_64 : decode method_4_code 64 = .ok (.goto 4, 3) := by decide +kernel
theorem d3_67 : decode method_4_code 67 = .ok (.iconst 0, 1) := by decide +kernel
theorem d3_68 : decode method_4_code 68 = .ok (.ireturn, 1) := by decide +kernel
theorem d3_69 : decode method_4_code 69 = .ok (.iload_n 0, 1) := by decide +kernel
theorem d3_70 : decode method_4_code 70 = .ok (.sipush 183, 3) := by decide +kernel
theorem d3_73 : decode method_4_code 73 = .ok (.if_icmp .eq 152, 3) := by decide +kernel
theorem d3_76 : decode method_4_code 76 = .ok (.iload_n 0, 1) := by decide +kernel
theorem d3_77 : decode method_4_code 77 = .ok (.sipush 192, 3) := by decide +kernel
theorem d3_80 : decode method_4_code 80 = .ok (.sipush 214, 3) := by decide +kernel
theorem d3_83 : decode method_4_code 83 = .ok (.invokestatic 20, 3) := by decide +kernel
theorem d3_86 : decode method_4_code 86 = .ok (.ifCond .ne 139, 3) := by decide +kernel
theorem d3_89 : decode method_4_code 89 = .ok (.iload_n 0, 1) := by decide +kernel
theorem d3_90 : decode method_4_code 90 = .ok (.sipush 216, 3) := by decide +kernel
theorem d3_93 : decode method_4_code 93 = .ok (.sipush 246, 3) := by decide +kernel
theorem d3_96 : decode method_4_code 96 = .ok (.invokestatic 20, 3) := by decide +kernel
theorem d3_99 : decode method_4_code 99 = .ok (.ifCond .ne 126, 3) := by decide +kernel
theorem d3_102 : decode method_4_code 102 = .ok (.iload_n 0, 1) := by decide +kernel
theorem d3_103 : decode method_4_code 103 = .ok (.sipush 248, 3) := by decide +kernel
theorem d3_106 : decode method_4_code 106 = .ok (.sipush 893, 3) := by decide +kernel
theorem d3_109 : decode method_4_code 109 = .ok (.invokestatic 20, 3) := by decide +kernel
theorem d3_112 : decode method_4_code 112 = .ok (.ifCond .ne 113, 3) := by decide +kernel
theorem d3_115 : decode method_4_code 115 = .ok (.iload_n 0, 1) := by decide +kernel
theorem d3_116 : decode method_4_code 116 = .ok (.sipush 895, 3) := by decide +kernel
theorem d3_119 : decode method_4_code 119 = .ok (.sipush 8191, 3) := by decide +kernel
theorem d3_122 : decode method_4_code 122 = .ok (.invokestatic 20, 3) := by decide +kernel
theorem d3_125 : decode method_4_code 125 = .ok (.ifCond .ne 100, 3) := by decide +kernel
theorem d3_128 : decode method_4_code 128 = .ok (.iload_n 0, 1) := by decide +kernel
theorem d3_129 : decode method_4_code 129 = .ok (.sipush 8204, 3) := by decide +kernel
theorem d3_132 : decode method_4_code 132 = .ok (.sipush 8205, 3) := by decide +kernel
theorem d3_135 : decode method_4_code 135 = .ok (.invokestatic 20, 3) := by decide +kernel
theorem d3_138 : decode method_4_code 138 = .ok (.ifCond .ne 87, 3) := by decide +kernel
theorem d3_141 : decode method_4_code 141 = .ok (.iload_n 0, 1) := by decide +kernel
theorem d3_142 : decode method_4_code 142 = .ok (.sipush 8255, 3) := by decide +kernel
theorem d3_145 : decode method_4_code 145 = .ok (.sipush 8256, 3) := by decide +kernel
theorem d3_148 : decode method_4_code 148 = .ok (.invokestatic 20, 3) := by decide +kernel
theorem d3_151 : decode method_4_code 151 = .ok (.ifCond .ne 74, 3) := by decide +kernel
theorem d3_154 : decode method_4_code 154 = .ok (.iload_n 0, 1) := by decide +kernel
theorem d3_155 : decode method_4_code 155 = .ok (.sipush 8304, 3) := by decide +kernel
theorem d3_158 : decode method_4_code 158 = .ok (.sipush 8591, 3) := by decide +kernel
theorem d3_161 : decode method_4_code 161 = .ok (.invokestatic 20, 3) := by decide +kernel
theorem d3_164 : decode method_4_code 164 = .ok (.ifCond .ne 61, 3) := by decide +kernel
theorem d3_167 : decode method_4_code 167 = .ok (.iload_n 0, 1) := by decide +kernel
theorem d3_168 : decode method_4_code 168 = .ok (.sipush 11264, 3) := by decide +kernel
theorem d3_171 : decode method_4_code 171 = .ok (.sipush 12271, 3) := by decide +kernel
theorem d3_174 : decode method_4_code 174 = .ok (.invokestatic 20, 3) := by decide +kernel
theorem d3_177 : decode method_4_code 177 = .ok (.ifCond .ne 48, 3) := by decide +kernel
theorem d3_180 : decode method_4_code 180 = .ok (.iload_n 0, 1) := by decide +kernel
theorem d3_181 : decode method_4_code 181 = .ok (.sipush 12289, 3) := by decide +kernel
theorem d3_184 : decode method_4_code 184 = .ok (.ldc 24, 2) := by decide +kernel
theorem d3_186 : decode method_4_code 186 = .ok (.invokestatic 20, 3) := by decide +kernel
theorem d3_189 : decode method_4_code 189 = .ok (.ifCond .ne 36, 3) := by decide +kernel
theorem d3_192 : decode method_4_code 192 = .ok (.iload_n 0, 1) := by decide +kernel
theorem d3_193 : decode method_4_code 193 = .ok (.ldc 25, 2) := by decide +kernel
theorem d3_195 : decode method_4_code 195 = .ok (.ldc 26, 2) := by decide +kernel
theorem d3_197 : decode method_4_code 197 = .ok (.invokestatic 20, 3) := by decide +kernel
theorem d3_200 : decode method_4_code 200 = .ok (.ifCond .ne 25, 3) := by decide +kernel
theorem d3_203 : decode method_4_code 203 = .ok (.iload_n 0, 1) := by decide +kernel
theorem d3_204 : decode method_4_code 204 = .ok (.ldc 27, 2) := by decide +kernel
theorem d3_206 : decode method_4_code 206 = .ok (.ldc 28, 2) := by decide +kernel
theorem d3_208 : decode method_4_code 208 = .ok (.invokestatic 20, 3) := by decide +kernel
theorem d3_211 : decode method_4_code 211 = .ok (.ifCond .ne 14, 3) := by decide +kernel
theorem d3_214 : decode method_4_code 214 = .ok (.iload_n 0, 1) := by decide +kernel
theorem d3_215 : decode method_4_code 215 = .ok (.ldc 29, 2) := by decide +kernel
theorem d3_217 : decode method_4_code 217 = .ok (.ldc 30, 2) := by decide +kernel
theorem d3_219 : decode method_4_code 219 = .ok (.invokestatic 20, 3) := by decide +kernel
theorem d3_222 : decode method_4_code 222 = .ok (.ifCond .eq 7, 3) := by decide +kernel
theorem d3_225 : decode method_4_code 225 = .ok (.iconst 1, 1) := by decide +kernel
theorem d3_226 : decode method_4_code 226 = .ok (.goto 4, 3) := by decide +kernel
theorem d3_229 : decode method_4_code 229 = .ok (.iconst 0, 1) := by decide +kernel
theorem d3_230 : decode method_4_code 230 = .ok (.ireturn, 1) := by decide +kernel
set_option maxRecDepth 65536 in
set_option maxHeartbeats 40000000 in
theorem rm3 (l : Launch) (Z : State) (a0 : Array Value) (hw : ∀ d ∈ tables_1, d.before a0 Z = true) (h0 : Heap) (c1 : Int32)  :
    own_Pure l Z (⟨"com/example/wiazka/wiazka/XmlNamesIsNameCharPinLaw", "ref", "(I)Z"⟩ : MethodName) method_4_code 1 (some .boolean) 1 14 #[(.int c1)] h0 (.int (if own_ref c1 = true then 1 else 0)) := by
  refine own_body pn_com_example_wiazka_wiazka_XmlNamesIsNameCharPinLaw ?_
  intro p e s m below meth c s₁ hx hby hml hZ hown hnm hrt hlk X0 e0
  rw [ef_1]
  show own_Fin _ _ _ _ _ _ _ s₁ (mkF m 0 #[.val (.int c1)] [])
  refine own_step (fun _ k => XS.iloadN X0.here hx rfl (hb hby d3_0) rfl k) ?_
  show own_Fin _ _ _ _ _ _ _ s₁ (mkF m 1 #[.val (.int c1)] [(.int c1)])
  by_cases h1 : c1 < 0
  · skip
    refine own_step (fun _ k => XS.ifNo X0.here hx rfl (hb hby d3_1) rfl (XT.i0_ge_f h1) k) ?_
    show own_Fin _ _ _ _ _ _ _ s₁ (mkF m 4 #[.val (.int c1)] [])
    refine own_step (fun _ k => XT.iconstV X0.here hx rfl (0 : Int32) (hb hby d3_4) (by decide) k) ?_
    show own_Fin _ _ _ _ _ _ _ s₁ (mkF m 5 #[.val (.int c1)] [(.int (0 : Int32))])
    exact own_retZ X0 hx hrt hlk (hb hby d3_5) (Or.inl rfl) ⟨by simp [own_ref, h1], rfl, e0⟩ (Nat.le_refl _) (Nat.le_refl _)
  · skip
    refine own_step (fun _ k => XS.ifYes X0.here hx rfl (pc0 := 1) (pc' := 6) rfl (hb hby d3_1) rfl (XT.i0_ge_t h1) (by decide) (by decide) k) ?_
    show own_Fin _ _ _ _ _ _ _ s₁ (mkF m 6 #[.val (.int c1)] [])
    refine own_step (fun _ k => XS.iloadN X0.here hx rfl (hb hby d3_6) rfl k) ?_
    show own_Fin _ _ _ _ _ _ _ s₁ (mkF m 7 #[.val (.int c1)] [(.int c1)])
    refine own_step (fun _ k => XT.sipushV X0.here hx rfl (128 : Int32) (hb hby d3_7) (by decide) k) ?_
    show own_Fin _ _ _ _ _ _ _ s₁ (mkF m 10 #[.val (.int c1)] [(.int (128 : Int32)), (.int c1)])
    by_cases h10 : c1 < (128 : Int32)
    · skip
      refine own_step (fun _ k => XS.icmpNo X0.here hx rfl (hb hby d3_10) rfl (XT.ii_ge_f h10) k) ?_
      show own_Fin _ _ _ _ _ _ _ s₁ (mkF m 13 #[.val (.int c1)] [])
      refine own_step (fun _ k => XS.iloadN X0.here hx rfl (hb hby d3_13) rfl k) ?_
      show own_Fin _ _ _ _ _ _ _ s₁ (mkF m 14 #[.val (.int c1)] [(.int c1)])
      refine own_step (fun _ k => XT.bipushV X0.here hx rfl (45 : Int32) (hb hby d3_14) (by decide) k) ?_
      show own_Fin _ _ _ _ _ _ _ s₁ (mkF m 16 #[.val (.int c1)] [(.int (45 : Int32)), (.int c1)])
      refine own_step (fun _ k => XT.bipushV X0.here hx rfl (46 : Int32) (hb hby d3_16) (by decide) k) ?_
      show own_Fin _ _ _ _ _ _ _ s₁ (mkF m 18 #[.val (.int c1)] [(.int (46 : Int32)), (.int (45 : Int32)), (.int c1)])
      refine own_callS0 X0 hx hZ (argsL := [(.int c1), (.int (45 : Int32)), (.int (46 : Int32))]) (rest := []) hown (hw _ (List.mem_of_getElem? (i := 13) rfl)) (hw _ (List.mem_of_getElem? (i := 14) rfl)) (hw _ (List.mem_of_getElem? (i := 11) rfl)) (hw _ (List.mem_of_getElem? (i := 15) rfl)) (by decide) (rm4 l Z a0 hw h0 c1 (45 : Int32) (46 : Int32)) e0 0 (Nat.le_of_eq rfl) (by decide) (by decide) (Nat.le_refl _) (Nat.le_refl _) (by rw [hml]; rfl) pd__III_Z rfl rfl (hb hby d3_18) ?_
      intro T1 X1 e1
      show own_Fin _ _ _ _ _ _ _ T1 (mkF m 21 #[.val (.int c1)] [(.int (if own_in c1 (45 : Int32) (46 : Int32) = true then (1 : Int32) else 0))])
      by_cases k21 : own_in c1 (45 : Int32) (46 : Int32) = true
      · rw [if_pos k21]
        show own_Fin _ _ _ _ _ _ _ T1 (mkF m 21 #[.val (.int c1)] [(.int (1 : Int32))])
        refine own_step (fun _ k => XS.ifYes X1.here hx rfl (pc0 := 21) (pc' := 63) rfl (hb hby d3_21) rfl (XT.i0_ne_t (by decide)) (by decide) (by decide) k) ?_
        show own_Fin _ _ _ _ _ _ _ T1 (mkF m 63 #[.val (.int c1)] [])
        refine own_step (fun _ k => XT.iconstV X1.here hx rfl (1 : Int32) (hb hby d3_63) (by decide) k) ?_
        show own_Fin _ _ _ _ _ _ _ T1 (mkF m 64 #[.val (.int c1)] [(.int (1 : Int32))])
        refine own_step (fun _ k => XS.goto X1.here hx rfl (pc0 := 64) (pc' := 68) rfl (hb hby d3_64) (by decide) (by decide) k) ?_
        show own_Fin _ _ _ _ _ _ _ T1 (mkF m 68 #[.val (.int c1)] [(.int (1 : Int32))])
        exact own_retZ X1 hx hrt hlk (hb hby d3_68) (Or.inr rfl) ⟨by simp [own_ref, h1, h10, k21], rfl, e1⟩ (Nat.le_refl _) (Nat.le_refl _)
      · rw [if_neg k21]
        show own_Fin _ _ _ _ _ _ _ T1 (mkF m 21 #[.val (.int c1)] [(.int (0 : Int32))])
        refine own_step (fun _ k => XS.ifNo X1.here hx rfl (hb hby d3_21) rfl (XT.i0_ne_f (by decide)) k) ?_
        show own_Fin _ _ _ _ _ _ _ T1 (mkF m 24 #[.val (.int c1)] [])
        refine own_step (fun _ k => XS.iloadN X1.here hx rfl (hb hby d3_24) rfl k) ?_
        show own_Fin _ _ _ _ _ _ _ T1 (mkF m 25 #[.val (.int c1)] [(.int c1)])
        refine own_step (fun _ k => XT.bipushV X1.here hx rfl (48 : Int32) (hb hby d3_25) (by decide) k) ?_
        show own_Fin _ _ _ _ _ _ _ T1 (mkF m 27 #[.val (.int c1)] [(.int (48 : Int32)), (.int c1)])
        refine own_step (fun _ k => XT.bipushV X1.here hx rfl (58 : Int32) (hb hby d3_27) (by decide) k) ?_
        show own_Fin _ _ _ _ _ _ _ T1 (mkF m 29 #[.val (.int c1)] [(.int (58 : Int32)), (.int (48 : Int32)), (.int c1)])
        refine own_callS0 X1 hx hZ (argsL := [(.int c1), (.int (48 : Int32)), (.int (58 : Int32))]) (rest := []) hown (hw _ (List.mem_of_getElem? (i := 13) rfl)) (hw _ (List.mem_of_getElem? (i := 14) rfl)) (hw _ (List.mem_of_getElem? (i := 11) rfl)) (hw _ (List.mem_of_getElem? (i := 15) rfl)) (by decide) (rm4 l Z a0 hw h0 c1 (48 : Int32) (58 : Int32)) e1 0 (Nat.le_of_eq rfl) (by decide) (by decide) (Nat.le_refl _) (Nat.le_refl _) (by rw [hml]; rfl) pd__III_Z rfl rfl (hb hby d3_29) ?_
        intro T2 X2 e2
        show own_Fin _ _ _ _ _ _ _ T2 (mkF m 32 #[.val (.int c1)] [(.int (if own_in c1 (48 : Int32) (58 : Int32) = true then (1 : Int32) else 0))])
        by_cases k32 : own_in c1 (48 : Int32) (58 : Int32) = true
        · rw [if_pos k32]
          show own_Fin _ _ _ _ _ _ _ T2 (mkF m 32 #[.val (.int c1)] [(.int (1 : Int32))])
          refine own_step (fun _ k => XS.ifYes X2.here hx rfl (pc0 := 32) (pc' := 63) rfl (hb hby d3_32) rfl (XT.i0_ne_t (by decide)) (by decide) (by decide) k) ?_
          show own_Fin _ _ _ _ _ _ _ T2 (mkF m 63 #[.val (.int c1)] [])
          refine own_step (fun _ k => XT.iconstV X2.here hx rfl (1 : Int32) (hb hby d3_63) (by decide) k) ?_
          show own_Fin _ _ _ _ _ _ _ T2 (mkF m 64 #[.val (.int c1)] [(.int (1 : Int32))])
          refine own_step (fun _ k => XS.goto X2.here hx rfl (pc0 := 64) (pc' := 68) rfl (hb hby d3_64) (by decide) (by decide) k) ?_
          show own_Fin _ _ _ _ _ _ _ T2 (mkF m 68 #[.val (.int c1)] [(.int (1 : Int32))])
          exact own_retZ X2 hx hrt hlk (hb hby d3_68) (Or.inr rfl) ⟨by simp [own_ref, h1, h10, k21, k32], rfl, e2⟩ (Nat.le_refl _) (Nat.le_refl _)
        · rw [if_neg k32]
          show own_Fin _ _ _ _ _ _ _ T2 (mkF m 32 #[.val (.int c1)] [(.int (0 : Int32))])
          refine own_step (fun _ k => XS.ifNo X2.here hx rfl (hb hby d3_32) rfl (XT.i0_ne_f (by decide)) k) ?_
          show own_Fin _ _ _ _ _ _ _ T2 (mkF m 35 #[.val (.int c1)] [])
          refine own_step (fun _ k => XS.iloadN X2.here hx rfl (hb hby d3_35) rfl k) ?_
          show own_Fin _ _ _ _ _ _ _ T2 (mkF m 36 #[.val (.int c1)] [(.int c1)])
          refine own_step (fun _ k => XT.bipushV X2.here hx rfl (65 : Int32) (hb hby d3_36) (by decide) k) ?_
          show own_Fin _ _ _ _ _ _ _ T2 (mkF m 38 #[.val (.int c1)] [(.int (65 : Int32)), (.int c1)])
          refine own_step (fun _ k => XT.bipushV X2.here hx rfl (90 : Int32) (hb hby d3_38) (by decide) k) ?_
          show own_Fin _ _ _ _ _ _ _ T2 (mkF m 40 #[.val (.int c1)] [(.int (90 : Int32)), (.int (65 : Int32)), (.int c1)])
          refine own_callS0 X2 hx hZ (argsL := [(.int c1), (.int (65 : Int32)), (.int (90 : Int32))]) (rest := []) hown (hw _ (List.mem_of_getElem? (i := 13) rfl)) (hw _ (List.mem_of_getElem? (i := 14) rfl)) (hw _ (List.mem_of_getElem? (i := 11) rfl)) (hw _ (List.mem_of_getElem? (i := 15) rfl)) (by decide) (rm4 l Z a0 hw h0 c1 (65 : Int32) (90 : Int32)) e2 0 (Nat.le_of_eq rfl) (by decide) (by decide) (Nat.le_refl _) (Nat.le_refl _) (by rw [hml]; rfl) pd__III_Z rfl rfl (hb hby d3_40) ?_
          intro T3 X3 e3
          show own_Fin _ _ _ _ _ _ _ T3 (mkF m 43 #[.val (.int c1)] [(.int (if own_in c1 (65 : Int32) (90 : Int32) = true then (1 : Int32) else 0))])
          by_cases k43 : own_in c1 (65 : Int32) (90 : Int32) = true
          · rw [if_pos k43]
            show own_Fin _ _ _ _ _ _ _ T3 (mkF m 43 #[.val (.int c1)] [(.int (1 : Int32))])
            refine own_step (fun _ k => XS.ifYes X3.here hx rfl (pc0 := 43) (pc' := 63) rfl (hb hby d3_43) rfl (XT.i0_ne_t (by decide)) (by decide) (by decide) k) ?_
            show own_Fin _ _ _ _ _ _ _ T3 (mkF m 63 #[.val (.int c1)] [])
            refine own_step (fun _ k => XT.iconstV X3.here hx rfl (1 : Int32) (hb hby d3_63) (by decide) k) ?_
            show own_Fin _ _ _ _ _ _ _ T3 (mkF m 64 #[.val (.int c1)] [(.int (1 : Int32))])
            refine own_step (fun _ k => XS.goto X3.here hx rfl (pc0 := 64) (pc' := 68) rfl (hb hby d3_64) (by decide) (by decide) k) ?_
            show own_Fin _ _ _ _ _ _ _ T3 (mkF m 68 #[.val (.int c1)] [(.int (1 : Int32))])
            exact own_retZ X3 hx hrt hlk (hb hby d3_68) (Or.inr rfl) ⟨by simp [own_ref, h1, h10, k21, k32, k43], rfl, e3⟩ (Nat.le_refl _) (Nat.le_refl _)
          · rw [if_neg k43]
            show own_Fin _ _ _ _ _ _ _ T3 (mkF m 43 #[.val (.int c1)] [(.int (0 : Int32))])
            refine own_step (fun _ k => XS.ifNo X3.here hx rfl (hb hby d3_43) rfl (XT.i0_ne_f (by decide)) k) ?_
            show own_Fin _ _ _ _ _ _ _ T3 (mkF m 46 #[.val (.int c1)] [])
            refine own_step (fun _ k => XS.iloadN X3.here hx rfl (hb hby d3_46) rfl k) ?_
            show own_Fin _ _ _ _ _ _ _ T3 (mkF m 47 #[.val (.int c1)] [(.int c1)])
            refine own_step (fun _ k => XT.bipushV X3.here hx rfl (95 : Int32) (hb hby d3_47) (by decide) k) ?_
            show own_Fin _ _ _ _ _ _ _ T3 (mkF m 49 #[.val (.int c1)] [(.int (95 : Int32)), (.int c1)])
            by_cases h49 : c1 = (95 : Int32)
            · skip
              refine own_step (fun _ k => XS.icmpYes X3.here hx rfl (pc0 := 49) (pc' := 63) rfl (hb hby d3_49) rfl (XT.ii_eq_t h49) (by decide) (by decide) k) ?_
              show own_Fin _ _ _ _ _ _ _ T3 (mkF m 63 #[.val (.int c1)] [])
              refine own_step (fun _ k => XT.iconstV X3.here hx rfl (1 : Int32) (hb hby d3_63) (by decide) k) ?_
              show own_Fin _ _ _ _ _ _ _ T3 (mkF m 64 #[.val (.int c1)] [(.int (1 : Int32))])
              refine own_step (fun _ k => XS.goto X3.here hx rfl (pc0 := 64) (pc' := 68) rfl (hb hby d3_64) (by decide) (by decide) k) ?_
              show own_Fin _ _ _ _ _ _ _ T3 (mkF m 68 #[.val (.int c1)] [(.int (1 : Int32))])
              exact own_retZ X3 hx hrt hlk (hb hby d3_68) (Or.inr rfl) ⟨by simp [own_ref, h1, h10, k21, k32, k43, h49], rfl, e3⟩ (Nat.le_refl _) (Nat.le_refl _)
            · skip
              refine own_step (fun _ k => XS.icmpNo X3.here hx rfl (hb hby d3_49) rfl (XT.ii_eq_f h49) k) ?_
              show own_Fin _ _ _ _ _ _ _ T3 (mkF m 52 #[.val (.int c1)] [])
              refine own_step (fun _ k => XS.iloadN X3.here hx rfl (hb hby d3_52) rfl k) ?_
              show own_Fin _ _ _ _ _ _ _ T3 (mkF m 53 #[.val (.int c1)] [(.int c1)])
              refine own_step (fun _ k => XT.bipushV X3.here hx rfl (97 : Int32) (hb hby d3_53) (by decide) k) ?_
              show own_Fin _ _ _ _ _ _ _ T3 (mkF m 55 #[.val (.int c1)] [(.int (97 : Int32)), (.int c1)])
              refine own_step (fun _ k => XT.bipushV X3.here hx rfl (122 : Int32) (hb hby d3_55) (by decide) k) ?_
              show own_Fin _ _ _ _ _ _ _ T3 (mkF m 57 #[.val (.int c1)] [(.int (122 : Int32)), (.int (97 : Int32)), (.int c1)])
              refine own_callS0 X3 hx hZ (argsL := [(.int c1), (.int (97 : Int32)), (.int (122 : Int32))]) (rest := []) hown (hw _ (List.mem_of_getElem? (i := 13) rfl)) (hw _ (List.mem_of_getElem? (i := 14) rfl)) (hw _ (List.mem_of_getElem? (i := 11) rfl)) (hw _ (List.mem_of_getElem? (i := 15) rfl)) (by decide) (rm4 l Z a0 hw h0 c1 (97 : Int32) (122 : Int32)) e3 0 (Nat.le_of_eq rfl) (by decide) (by decide) (Nat.le_refl _) (Nat.le_refl _) (by rw [hml]; rfl) pd__III_Z rfl rfl (hb hby d3_57) ?_
              intro T4 X4 e4
              show own_Fin _ _ _ _ _ _ _ T4 (mkF m 60 #[.val (.int c1)] [(.int (if own_in c1 (97 : Int32) (122 : Int32) = true then (1 : Int32) else 0))])
              by_cases k60 : own_in c1 (97 : Int32) (122 : Int32) = true
              · rw [if_pos k60]
                show own_Fin _ _ _ _ _ _ _ T4 (mkF m 60 #[.val (.int c1)] [(.int (1 : Int32))])
                refine own_step (fun _ k => XS.ifNo X4.here hx rfl (hb hby d3_60) rfl (XT.i0_eq_f (by decide)) k) ?_
                show own_Fin _ _ _ _ _ _ _ T4 (mkF m 63 #[.val (.int c1)] [])
                refine own_step (fun _ k => XT.iconstV X4.here hx rfl (1 : Int32) (hb hby d3_63) (by decide) k) ?_
                show own_Fin _ _ _ _ _ _ _ T4 (mkF m 64 #[.val (.int c1)] [(.int (1 : Int32))])
                refine own_step (fun _ k => XS.goto X4.here hx rfl (pc0 := 64) (pc' := 68) rfl (hb hby d3_64) (by decide) (by decide) k) ?_
                show own_Fin _ _ _ _ _ _ _ T4 (mkF m 68 #[.val (.int c1)] [(.int (1 : Int32))])
                exact own_retZ X4 hx hrt hlk (hb hby d3_68) (Or.inr rfl) ⟨by simp [own_ref, h1, h10, k21, k32, k43, h49, k60], rfl, e4⟩ (Nat.le_refl _) (Nat.le_refl _)
              · rw [if_neg k60]
                show own_Fin _ _ _ _ _ _ _ T4 (mkF m 60 #[.val (.int c1)] [(.int (0 : Int32))])
                refine own_step (fun _ k => XS.ifYes X4.here hx rfl (pc0 := 60) (pc' := 67) rfl (hb hby d3_60) rfl (XT.i0_eq_t (by decide)) (by decide) (by decide) k) ?_
                show own_Fin _ _ _ _ _ _ _ T4 (mkF m 67 #[.val (.int c1)] [])
                refine own_step (fun _ k => XT.iconstV X4.here hx rfl (0 : Int32) (hb hby d3_67) (by decide) k) ?_
                show own_Fin _ _ _ _ _ _ _ T4 (mkF m 68 #[.val (.int c1)] [(.int (0 : Int32))])
                exact own_retZ X4 hx hrt hlk (hb hby d3_68) (Or.inl rfl) ⟨by simp [own_ref, h1, h10, k21, k32, k43, h49, k60], rfl, e4⟩ (Nat.le_refl _) (Nat.le_refl _)
    · skip
      refine own_step (fun _ k => XS.icmpYes X0.here hx rfl (pc0 := 10) (pc' := 69) rfl (hb hby d3_10) rfl (XT.ii_ge_t h10) (by decide) (by decide) k) ?_
      show own_Fin _ _ _ _ _ _ _ s₁ (mkF m 69 #[.val (.int c1)] [])
      refine own_step (fun _ k => XS.iloadN X0.here hx rfl (hb hby d3_69) rfl k) ?_
      show own_Fin _ _ _ _ _ _ _ s₁ (mkF m 70 #[.val (.int c1)] [(.int c1)])
      refine own_step (fun _ k => XT.sipushV X0.here hx rfl (183 : Int32) (hb hby d3_70) (by decide) k) ?_
      show own_Fin _ _ _ _ _ _ _ s₁ (mkF m 73 #[.val (.int c1)] [(.int (183 : Int32)), (.int c1)])
      by_cases h73 : c1 = (183 : Int32)
      · skip
        refine own_step (fun _ k => XS.icmpYes X0.here hx rfl (pc0 := 73) (pc' := 225) rfl (hb hby d3_73) rfl (XT.ii_eq_t h73) (by decide) (by decide) k) ?_
        show own_Fin _ _ _ _ _ _ _ s₁ (mkF m 225 #[.val (.int c1)] [])
        refine own_step (fun _ k => XT.iconstV X0.here hx rfl (1 : Int32) (hb hby d3_225) (by decide) k) ?_
        show own_Fin _ _ _ _ _ _ _ s₁ (mkF m 226 #[.val (.int c1)] [(.int (1 : Int32))])
        refine own_step (fun _ k => XS.goto X0.here hx rfl (pc0 := 226) (pc' := 230) rfl (hb hby d3_226) (by decide) (by decide) k) ?_
        show own_Fin _ _ _ _ _ _ _ s₁ (mkF m 230 #[.val (.int c1)] [(.int (1 : Int32))])
        exact own_retZ X0 hx hrt hlk (hb hby d3_230) (Or.inr rfl) ⟨by simp [own_ref, h1, h10, h73], rfl, e0⟩ (Nat.le_refl _) (Nat.le_refl _)
      · skip
        refine own_step (fun _ k => XS.icmpNo X0.here hx rfl (hb hby d3_73) rfl (XT.ii_eq_f h73) k) ?_
        show own_Fin _ _ _ _ _ _ _ s₁ (mkF m 76 #[.val (.int c1)] [])
        refine own_step (fun _ k => XS.iloadN X0.here hx rfl (hb hby d3_76) rfl k) ?_
        show own_Fin _ _ _ _ _ _ _ s₁ (mkF m 77 #[.val (.int c1)] [(.int c1)])
        refine own_step (fun _ k => XT.sipushV X0.here hx rfl (192 : Int32) (hb hby d3_77) (by decide) k) ?_
        show own_Fin _ _ _ _ _ _ _ s₁ (mkF m 80 #[.val (.int c1)] [(.int (192 : Int32)), (.int c1)])
        refine own_step (fun _ k => XT.sipushV X0.here hx rfl (214 : Int32) (hb hby d3_80) (by decide) k) ?_
        show own_Fin _ _ _ _ _ _ _ s₁ (mkF m 83 #[.val (.int c1)] [(.int (214 : Int32)), (.int (192 : Int32)), (.int c1)])
        refine own_callS0 X0 hx hZ (argsL := [(.int c1), (.int (192 : Int32)), (.int (214 : Int32))]) (rest := []) hown (hw _ (List.mem_of_getElem? (i := 13) rfl)) (hw _ (List.mem_of_getElem? (i := 14) rfl)) (hw _ (List.mem_of_getElem? (i := 11) rfl)) (hw _ (List.mem_of_getElem? (i := 15) rfl)) (by decide) (rm4 l Z a0 hw h0 c1 (192 : Int32) (214 : Int32)) e0 0 (Nat.le_of_eq rfl) (by decide) (by decide) (Nat.le_refl _) (Nat.le_refl _) (by rw [hml]; rfl) pd__III_Z rfl rfl (hb hby d3_83) ?_
        intro T5 X5 e5
        show own_Fin _ _ _ _ _ _ _ T5 (mkF m 86 #[.val (.int c1)] [(.int (if own_in c1 (192 : Int32) (214 : Int32) = true then (1 : Int32) else 0))])
        by_cases k86 : own_in c1 (192 : Int32) (214 : Int32) = true
        · rw [if_pos k86]
          show own_Fin _ _ _ _ _ _ _ T5 (mkF m 86 #[.val (.int c1)] [(.int (1 : Int32))])
          refine own_step (fun _ k => XS.ifYes X5.here hx rfl (pc0 := 86) (pc' := 225) rfl (hb hby d3_86) rfl (XT.i0_ne_t (by decide)) (by decide) (by decide) k) ?_
          show own_Fin _ _ _ _ _ _ _ T5 (mkF m 225 #[.val (.int c1)] [])
          refine own_step (fun _ k => XT.iconstV X5.here hx rfl (1 : Int32) (hb hby d3_225) (by decide) k) ?_
          show own_Fin _ _ _ _ _ _ _ T5 (mkF m 226 #[.val (.int c1)] [(.int (1 : Int32))])
          refine own_step (fun _ k => XS.goto X5.here hx rfl (pc0 := 226) (pc' := 230) rfl (hb hby d3_226) (by decide) (by decide) k) ?_
          show own_Fin _ _ _ _ _ _ _ T5 (mkF m 230 #[.val (.int c1)] [(.int (1 : Int32))])
          exact own_retZ X5 hx hrt hlk (hb hby d3_230) (Or.inr rfl) ⟨by simp [own_ref, h1, h10, h73, k86], rfl, e5⟩ (Nat.le_refl _) (Nat.le_refl _)
        · rw [if_neg k86]
          show own_Fin _ _ _ _ _ _ _ T5 (mkF m 86 #[.val (.int c1)] [(.int (0 : Int32))])
          refine own_step (fun _ k => XS.ifNo X5.here hx rfl (hb hby d3_86) rfl (XT.i0_ne_f (by decide)) k) ?_
          show own_Fin _ _ _ _ _ _ _ T5 (mkF m 89 #[.val (.int c1)] [])
          refine own_step (fun _ k => XS.iloadN X5.here hx rfl (hb hby d3_89) rfl k) ?_
          show own_Fin _ _ _ _ _ _ _ T5 (mkF m 90 #[.val (.int c1)] [(.int c1)])
          refine own_step (fun _ k => XT.sipushV X5.here hx rfl (216 : Int32) (hb hby d3_90) (by decide) k) ?_
          show own_Fin _ _ _ _ _ _ _ T5 (mkF m 93 #[.val (.int c1)] [(.int (216 : Int32)), (.int c1)])
          refine own_step (fun _ k => XT.sipushV X5.here hx rfl (246 : Int32) (hb hby d3_93) (by decide) k) ?_
          show own_Fin _ _ _ _ _ _ _ T5 (mkF m 96 #[.val (.int c1)] [(.int (246 : Int32)), (.int (216 : Int32)), (.int c1)])
          refine own_callS0 X5 hx hZ (argsL := [(.int c1), (.int (216 : Int32)), (.int (246 : Int32))]) (rest := []) hown (hw _ (List.mem_of_getElem? (i := 13) rfl)) (hw _ (List.mem_of_getElem? (i := 14) rfl)) (hw _ (List.mem_of_getElem? (i := 11) rfl)) (hw _ (List.mem_of_getElem? (i := 15) rfl)) (by decide) (rm4 l Z a0 hw h0 c1 (216 : Int32) (246 : Int32)) e5 0 (Nat.le_of_eq rfl) (by decide) (by decide) (Nat.le_refl _) (Nat.le_refl _) (by rw [hml]; rfl) pd__III_Z rfl rfl (hb hby d3_96) ?_
          intro T6 X6 e6
          show own_Fin _ _ _ _ _ _ _ T6 (mkF m 99 #[.val (.int c1)] [(.int (if own_in c1 (216 : Int32) (246 : Int32) = true then (1 : Int32) else 0))])
          by_cases k99 : own_in c1 (216 : Int32) (246 : Int32) = true
          · rw [if_pos k99]
            show own_Fin _ _ _ _ _ _ _ T6 (mkF m 99 #[.val (.int c1)] [(.int (1 : Int32))])
            refine own_step (fun _ k => XS.ifYes X6.here hx rfl (pc0 := 99) (pc' := 225) rfl (hb hby d3_99) rfl (XT.i0_ne_t (by decide)) (by decide) (by decide) k) ?_
            show own_Fin _ _ _ _ _ _ _ T6 (mkF m 225 #[.val (.int c1)] [])
            refine own_step (fun _ k => XT.iconstV X6.here hx rfl (1 : Int32) (hb hby d3_225) (by decide) k) ?_
            show own_Fin _ _ _ _ _ _ _ T6 (mkF m 226 #[.val (.int c1)] [(.int (1 : Int32))])
            refine own_step (fun _ k => XS.goto X6.here hx rfl (pc0 := 226) (pc' := 230) rfl (hb hby d3_226) (by decide) (by decide) k) ?_
            show own_Fin _ _ _ _ _ _ _ T6 (mkF m 230 #[.val (.int c1)] [(.int (1 : Int32))])
            exact own_retZ X6 hx hrt hlk (hb hby d3_230) (Or.inr rfl) ⟨by simp [own_ref, h1, h10, h73, k86, k99], rfl, e6⟩ (Nat.le_refl _) (Nat.le_refl _)
          · rw [if_neg k99]
            show own_Fin _ _ _ _ _ _ _ T6 (mkF m 99 #[.val (.int c1)] [(.int (0 : Int32))])
            refine own_step (fun _ k => XS.ifNo X6.here hx rfl (hb hby d3_99) rfl (XT.i0_ne_f (by decide)) k) ?_
            show own_Fin _ _ _ _ _ _ _ T6 (mkF m 102 #[.val (.int c1)] [])
            refine own_step (fun _ k => XS.iloadN X6.here hx rfl (hb hby d3_102) rfl k) ?_
            show own_Fin _ _ _ _ _ _ _ T6 (mkF m 103 #[.val (.int c1)] [(.int c1)])
            refine own_step (fun _ k => XT.sipushV X6.here hx rfl (248 : Int32) (hb hby d3_103) (by decide) k) ?_
            show own_Fin _ _ _ _ _ _ _ T6 (mkF m 106 #[.val (.int c1)] [(.int (248 : Int32)), (.int c1)])
            refine own_step (fun _ k => XT.sipushV X6.here hx rfl (893 : Int32) (hb hby d3_106) (by decide) k) ?_
            show own_Fin _ _ _ _ _ _ _ T6 (mkF m 109 #[.val (.int c1)] [(.int (893 : Int32)), (.int (248 : Int32)), (.int c1)])
            refine own_callS0 X6 hx hZ (argsL := [(.int c1), (.int (248 : Int32)), (.int (893 : Int32))]) (rest := []) hown (hw _ (List.mem_of_getElem? (i := 13) rfl)) (hw _ (List.mem_of_getElem? (i := 14) rfl)) (hw _ (List.mem_of_getElem? (i := 11) rfl)) (hw _ (List.mem_of_getElem? (i := 15) rfl)) (by decide) (rm4 l Z a0 hw h0 c1 (248 : Int32) (893 : Int32)) e6 0 (Nat.le_of_eq rfl) (by decide) (by decide) (Nat.le_refl _) (Nat.le_refl _) (by rw [hml]; rfl) pd__III_Z rfl rfl (hb hby d3_109) ?_
            intro T7 X7 e7
            show own_Fin _ _ _ _ _ _ _ T7 (mkF m 112 #[.val (.int c1)] [(.int (if own_in c1 (248 : Int32) (893 : Int32) = true then (1 : Int32) else 0))])
            by_cases k112 : own_in c1 (248 : Int32) (893 : Int32) = true
            · rw [if_pos k112]
              show own_Fin _ _ _ _ _ _ _ T7 (mkF m 112 #[.val (.int c1)] [(.int (1 : Int32))])
              refine own_step (fun _ k => XS.ifYes X7.here hx rfl (pc0 := 112) (pc' := 225) rfl (hb hby d3_112) rfl (XT.i0_ne_t (by decide)) (by decide) (by decide) k) ?_
              show own_Fin _ _ _ _ _ _ _ T7 (mkF m 225 #[.val (.int c1)] [])
              refine own_step (fun _ k => XT.iconstV X7.here hx rfl (1 : Int32) (hb hby d3_225) (by decide) k) ?_
              show own_Fin _ _ _ _ _ _ _ T7 (mkF m 226 #[.val (.int c1)] [(.int (1 : Int32))])
              refine own_step (fun _ k => XS.goto X7.here hx rfl (pc0 := 226) (pc' := 230) rfl (hb hby d3_226) (by decide) (by decide) k) ?_
              show own_Fin _ _ _ _ _ _ _ T7 (mkF m 230 #[.val (.int c1)] [(.int (1 : Int32))])
              exact own_retZ X7 hx hrt hlk (hb hby d3_230) (Or.inr rfl) ⟨by simp [own_ref, h1, h10, h73, k86, k99, k112], rfl, e7⟩ (Nat.le_refl _) (Nat.le_refl _)
            · rw [if_neg k112]
              show own_Fin _ _ _ _ _ _ _ T7 (mkF m 112 #[.val (.int c1)] [(.int (0 : Int32))])
              refine own_step (fun _ k => XS.ifNo X7.here hx rfl (hb hby d3_112) rfl (XT.i0_ne_f (by decide)) k) ?_
              show own_Fin _ _ _ _ _ _ _ T7 (mkF m 115 #[.val (.int c1)] [])
              refine own_step (fun _ k => XS.iloadN X7.here hx rfl (hb hby d3_115) rfl k) ?_
              show own_Fin _ _ _ _ _ _ _ T7 (mkF m 116 #[.val (.int c1)] [(.int c1)])
              refine own_step (fun _ k => XT.sipushV X7.here hx rfl (895 : Int32) (hb hby d3_116) (by decide) k) ?_
              show own_Fin _ _ _ _ _ _ _ T7 (mkF m 119 #[.val (.int c1)] [(.int (895 : Int32)), (.int c1)])
              refine own_step (fun _ k => XT.sipushV X7.here hx rfl (8191 : Int32) (hb hby d3_119) (by decide) k) ?_
              show own_Fin _ _ _ _ _ _ _ T7 (mkF m 122 #[.val (.int c1)] [(.int (8191 : Int32)), (.int (895 : Int32)), (.int c1)])
              refine own_callS0 X7 hx hZ (argsL := [(.int c1), (.int (895 : Int32)), (.int (8191 : Int32))]) (rest := []) hown (hw _ (List.mem_of_getElem? (i := 13) rfl)) (hw _ (List.mem_of_getElem? (i := 14) rfl)) (hw _ (List.mem_of_getElem? (i := 11) rfl)) (hw _ (List.mem_of_getElem? (i := 15) rfl)) (by decide) (rm4 l Z a0 hw h0 c1 (895 : Int32) (8191 : Int32)) e7 0 (Nat.le_of_eq rfl) (by decide) (by decide) (Nat.le_refl _) (Nat.le_refl _) (by rw [hml]; rfl) pd__III_Z rfl rfl (hb hby d3_122) ?_
              intro T8 X8 e8
              show own_Fin _ _ _ _ _ _ _ T8 (mkF m 125 #[.val (.int c1)] [(.int (if own_in c1 (895 : Int32) (8191 : Int32) = true then (1 : Int32) else 0))])
              by_cases k125 : own_in c1 (895 : Int32) (8191 : Int32) = true
              · rw [if_pos k125]
                show own_Fin _ _ _ _ _ _ _ T8 (mkF m 125 #[.val (.int c1)] [(.int (1 : Int32))])
                refine own_step (fun _ k => XS.ifYes X8.here hx rfl (pc0 := 125) (pc' := 225) rfl (hb hby d3_125) rfl (XT.i0_ne_t (by decide)) (by decide) (by decide) k) ?_
                show own_Fin _ _ _ _ _ _ _ T8 (mkF m 225 #[.val (.int c1)] [])
                refine own_step (fun _ k => XT.iconstV X8.here hx rfl (1 : Int32) (hb hby d3_225) (by decide) k) ?_
                show own_Fin _ _ _ _ _ _ _ T8 (mkF m 226 #[.val (.int c1)] [(.int (1 : Int32))])
                refine own_step (fun _ k => XS.goto X8.here hx rfl (pc0 := 226) (pc' := 230) rfl (hb hby d3_226) (by decide) (by decide) k) ?_
                show own_Fin _ _ _ _ _ _ _ T8 (mkF m 230 #[.val (.int c1)] [(.int (1 : Int32))])
                exact own_retZ X8 hx hrt hlk (hb hby d3_230) (Or.inr rfl) ⟨by simp [own_ref, h1, h10, h73, k86, k99, k112, k125], rfl, e8⟩ (Nat.le_refl _) (Nat.le_refl _)
              · rw [if_neg k125]
                show own_Fin _ _ _ _ _ _ _ T8 (mkF m 125 #[.val (.int c1)] [(.int (0 : Int32))])
                refine own_step (fun _ k => XS.ifNo X8.here hx rfl (hb hby d3_125) rfl (XT.i0_ne_f (by decide)) k) ?_
                show own_Fin _ _ _ _ _ _ _ T8 (mkF m 128 #[.val (.int c1)] [])
                refine own_step (fun _ k => XS.iloadN X8.here hx rfl (hb hby d3_128) rfl k) ?_
                show own_Fin _ _ _ _ _ _ _ T8 (mkF m 129 #[.val (.int c1)] [(.int c1)])
                refine own_step (fun _ k => XT.sipushV X8.here hx rfl (8204 : Int32) (hb hby d3_129) (by decide) k) ?_
                show own_Fin _ _ _ _ _ _ _ T8 (mkF m 132 #[.val (.int c1)] [(.int (8204 : Int32)), (.int c1)])
                refine own_step (fun _ k => XT.sipushV X8.here hx rfl (8205 : Int32) (hb hby d3_132) (by decide) k) ?_
                show own_Fin _ _ _ _ _ _ _ T8 (mkF m 135 #[.val (.int c1)] [(.int (8205 : Int32)), (.int (8204 : Int32)), (.int c1)])
                refine own_callS0 X8 hx hZ (argsL := [(.int c1), (.int (8204 : Int32)), (.int (8205 : Int32))]) (rest := []) hown (hw _ (List.mem_of_getElem? (i := 13) rfl)) (hw _ (List.mem_of_getElem? (i := 14) rfl)) (hw _ (List.mem_of_getElem? (i := 11) rfl)) (hw _ (List.mem_of_getElem? (i := 15) rfl)) (by decide) (rm4 l Z a0 hw h0 c1 (8204 : Int32) (8205 : Int32)) e8 0 (Nat.le_of_eq rfl) (by decide) (by decide) (Nat.le_refl _) (Nat.le_refl _) (by rw [hml]; rfl) pd__III_Z rfl rfl (hb hby d3_135) ?_
                intro T9 X9 e9
                show own_Fin _ _ _ _ _ _ _ T9 (mkF m 138 #[.val (.int c1)] [(.int (if own_in c1 (8204 : Int32) (8205 : Int32) = true then (1 : Int32) else 0))])
                by_cases k138 : own_in c1 (8204 : Int32) (8205 : Int32) = true
                · rw [if_pos k138]
                  show own_Fin _ _ _ _ _ _ _ T9 (mkF m 138 #[.val (.int c1)] [(.int (1 : Int32))])
                  refine own_step (fun _ k => XS.ifYes X9.here hx rfl (pc0 := 138) (pc' := 225) rfl (hb hby d3_138) rfl (XT.i0_ne_t (by decide)) (by decide) (by decide) k) ?_
                  show own_Fin _ _ _ _ _ _ _ T9 (mkF m 225 #[.val (.int c1)] [])
                  refine own_step (fun _ k => XT.iconstV X9.here hx rfl (1 : Int32) (hb hby d3_225) (by decide) k) ?_
                  show own_Fin _ _ _ _ _ _ _ T9 (mkF m 226 #[.val (.int c1)] [(.int (1 : Int32))])
                  refine own_step (fun _ k => XS.goto X9.here hx rfl (pc0 := 226) (pc' := 230) rfl (hb hby d3_226) (by decide) (by decide) k) ?_
                  show own_Fin _ _ _ _ _ _ _ T9 (mkF m 230 #[.val (.int c1)] [(.int (1 : Int32))])
                  exact own_retZ X9 hx hrt hlk (hb hby d3_230) (Or.inr rfl) ⟨by simp [own_ref, h1, h10, h73, k86, k99, k112, k125, k138], rfl, e9⟩ (Nat.le_refl _) (Nat.le_refl _)
                · rw [if_neg k138]
                  show own_Fin _ _ _ _ _ _ _ T9 (mkF m 138 #[.val (.int c1)] [(.int (0 : Int32))])
                  refine own_step (fun _ k => XS.ifNo X9.here hx rfl (hb hby d3_138) rfl (XT.i0_ne_f (by decide)) k) ?_
                  show own_Fin _ _ _ _ _ _ _ T9 (mkF m 141 #[.val (.int c1)] [])
                  refine own_step (fun _ k => XS.iloadN X9.here hx rfl (hb hby d3_141) rfl k) ?_
                  show own_Fin _ _ _ _ _ _ _ T9 (mkF m 142 #[.val (.int c1)] [(.int c1)])
                  refine own_step (fun _ k => XT.sipushV X9.here hx rfl (8255 : Int32) (hb hby d3_142) (by decide) k) ?_
                  show own_Fin _ _ _ _ _ _ _ T9 (mkF m 145 #[.val (.int c1)] [(.int (8255 : Int32)), (.int c1)])
                  refine own_step (fun _ k => XT.sipushV X9.here hx rfl (8256 : Int32) (hb hby d3_145) (by decide) k) ?_
                  show own_Fin _ _ _ _ _ _ _ T9 (mkF m 148 #[.val (.int c1)] [(.int (8256 : Int32)), (.int (8255 : Int32)), (.int c1)])
                  refine own_callS0 X9 hx hZ (argsL := [(.int c1), (.int (8255 : Int32)), (.int (8256 : Int32))]) (rest := []) hown (hw _ (List.mem_of_getElem? (i := 13) rfl)) (hw _ (List.mem_of_getElem? (i := 14) rfl)) (hw _ (List.mem_of_getElem? (i := 11) rfl)) (hw _ (List.mem_of_getElem? (i := 15) rfl)) (by decide) (rm4 l Z a0 hw h0 c1 (8255 : Int32) (8256 : Int32)) e9 0 (Nat.le_of_eq rfl) (by decide) (by decide) (Nat.le_refl _) (Nat.le_refl _) (by rw [hml]; rfl) pd__III_Z rfl rfl (hb hby d3_148) ?_
                  intro T10 X10 e10
                  show own_Fin _ _ _ _ _ _ _ T10 (mkF m 151 #[.val (.int c1)] [(.int (if own_in c1 (8255 : Int32) (8256 : Int32) = true then (1 : Int32) else 0))])
                  by_cases k151 : own_in c1 (8255 : Int32) (8256 : Int32) = true
                  · rw [if_pos k151]
                    show own_Fin _ _ _ _ _ _ _ T10 (mkF m 151 #[.val (.int c1)] [(.int (1 : Int32))])
                    refine own_step (fun _ k => XS.ifYes X10.here hx rfl (pc0 := 151) (pc' := 225) rfl (hb hby d3_151) rfl (XT.i0_ne_t (by decide)) (by decide) (by decide) k) ?_
                    show own_Fin _ _ _ _ _ _ _ T10 (mkF m 225 #[.val (.int c1)] [])
                    refine own_step (fun _ k => XT.iconstV X10.here hx rfl (1 : Int32) (hb hby d3_225) (by decide) k) ?_
                    show own_Fin _ _ _ _ _ _ _ T10 (mkF m 226 #[.val (.int c1)] [(.int (1 : Int32))])
                    refine own_step (fun _ k => XS.goto X10.here hx rfl (pc0 := 226) (pc' := 230) rfl (hb hby d3_226) (by decide) (by decide) k) ?_
                    show own_Fin _ _ _ _ _ _ _ T10 (mkF m 230 #[.val (.int c1)] [(.int (1 : Int32))])
                    exact own_retZ X10 hx hrt hlk (hb hby d3_230) (Or.inr rfl) ⟨by simp [own_ref, h1, h10, h73, k86, k99, k112, k125, k138, k151], rfl, e10⟩ (Nat.le_refl _) (Nat.le_refl _)
                  · rw [if_neg k151]
                    show own_Fin _ _ _ _ _ _ _ T10 (mkF m 151 #[.val (.int c1)] [(.int (0 : Int32))])
                    refine own_step (fun _ k => XS.ifNo X10.here hx rfl (hb hby d3_151) rfl (XT.i0_ne_f (by decide)) k) ?_
                    show own_Fin _ _ _ _ _ _ _ T10 (mkF m 154 #[.val (.int c1)] [])
                    refine own_step (fun _ k => XS.iloadN X10.here hx rfl (hb hby d3_154) rfl k) ?_
                    show own_Fin _ _ _ _ _ _ _ T10 (mkF m 155 #[.val (.int c1)] [(.int c1)])
                    refine own_step (fun _ k => XT.sipushV X10.here hx rfl (8304 : Int32) (hb hby d3_155) (by decide) k) ?_
                    show own_Fin _ _ _ _ _ _ _ T10 (mkF m 158 #[.val (.int c1)] [(.int (8304 : Int32)), (.int c1)])
                    refine own_step (fun _ k => XT.sipushV X10.here hx rfl (8591 : Int32) (hb hby d3_158) (by decide) k) ?_
                    show own_Fin _ _ _ _ _ _ _ T10 (mkF m 161 #[.val (.int c1)] [(.int (8591 : Int32)), (.int (8304 : Int32)), (.int c1)])
                    refine own_callS0 X10 hx hZ (argsL := [(.int c1), (.int (8304 : Int32)), (.int (8591 : Int32))]) (rest := []) hown (hw _ (List.mem_of_getElem? (i := 13) rfl)) (hw _ (List.mem_of_getElem? (i := 14) rfl)) (hw _ (List.mem_of_getElem? (i := 11) rfl)) (hw _ (List.mem_of_getElem? (i := 15) rfl)) (by decide) (rm4 l Z a0 hw h0 c1 (8304 : Int32) (8591 : Int32)) e10 0 (Nat.le_of_eq rfl) (by decide) (by decide) (Nat.le_refl _) (Nat.le_refl _) (by rw [hml]; rfl) pd__III_Z rfl rfl (hb hby d3_161) ?_
                    intro T11 X11 e11
                    show own_Fin _ _ _ _ _ _ _ T11 (mkF m 164 #[.val (.int c1)] [(.int (if own_in c1 (8304 : Int32) (8591 : Int32) = true then (1 : Int32) else 0))])
                    by_cases k164 : own_in c1 (8304 : Int32) (8591 : Int32) = true
                    · rw [if_pos k164]
                      show own_Fin _ _ _ _ _ _ _ T11 (mkF m 164 #[.val (.int c1)] [(.int (1 : Int32))])
                      refine own_step (fun _ k => XS.ifYes X11.here hx rfl (pc0 := 164) (pc' := 225) rfl (hb hby d3_164) rfl (XT.i0_ne_t (by decide)) (by decide) (by decide) k) ?_
                      show own_Fin _ _ _ _ _ _ _ T11 (mkF m 225 #[.val (.int c1)] [])
                      refine own_step (fun _ k => XT.iconstV X11.here hx rfl (1 : Int32) (hb hby d3_225) (by decide) k) ?_
                      show own_Fin _ _ _ _ _ _ _ T11 (mkF m 226 #[.val (.int c1)] [(.int (1 : Int32))])
                      refine own_step (fun _ k => XS.goto X11.here hx rfl (pc0 := 226) (pc' := 230) rfl (hb hby d3_226) (by decide) (by decide) k) ?_
                      show own_Fin _ _ _ _ _ _ _ T11 (mkF m 230 #[.val (.int c1)] [(.int (1 : Int32))])
                      exact own_retZ X11 hx hrt hlk (hb hby d3_230) (Or.inr rfl) ⟨by simp [own_ref, h1, h10, h73, k86, k99, k112, k125, k138, k151, k164], rfl, e11⟩ (Nat.le_refl _) (Nat.le_refl _)
                    · rw [if_neg k164]
                      show own_Fin _ _ _ _ _ _ _ T11 (mkF m 164 #[.val (.int c1)] [(.int (0 : Int32))])
                      refine own_step (fun _ k => XS.ifNo X11.here hx rfl (hb hby d3_164) rfl (XT.i0_ne_f (by decide)) k) ?_
                      show own_Fin _ _ _ _ _ _ _ T11 (mkF m 167 #[.val (.int c1)] [])
                      refine own_step (fun _ k => XS.iloadN X11.here hx rfl (hb hby d3_167) rfl k) ?_
                      show own_Fin _ _ _ _ _ _ _ T11 (mkF m 168 #[.val (.int c1)] [(.int c1)])
                      refine own_step (fun _ k => XT.sipushV X11.here hx rfl (11264 : Int32) (hb hby d3_168) (by decide) k) ?_
                      show own_Fin _ _ _ _ _ _ _ T11 (mkF m 171 #[.val (.int c1)] [(.int (11264 : Int32)), (.int c1)])
                      refine own_step (fun _ k => XT.sipushV X11.here hx rfl (12271 : Int32) (hb hby d3_171) (by decide) k) ?_
                      show own_Fin _ _ _ _ _ _ _ T11 (mkF m 174 #[.val (.int c1)] [(.int (12271 : Int32)), (.int (11264 : Int32)), (.int c1)])
                      refine own_callS0 X11 hx hZ (argsL := [(.int c1), (.int (11264 : Int32)), (.int (12271 : Int32))]) (rest := []) hown (hw _ (List.mem_of_getElem? (i := 13) rfl)) (hw _ (List.mem_of_getElem? (i := 14) rfl)) (hw _ (List.mem_of_getElem? (i := 11) rfl)) (hw _ (List.mem_of_getElem? (i := 15) rfl)) (by decide) (rm4 l Z a0 hw h0 c1 (11264 : Int32) (12271 : Int32)) e11 0 (Nat.le_of_eq rfl) (by decide) (by decide) (Nat.le_refl _) (Nat.le_refl _) (by rw [hml]; rfl) pd__III_Z rfl rfl (hb hby d3_174) ?_
                      intro T12 X12 e12
                      show own_Fin _ _ _ _ _ _ _ T12 (mkF m 177 #[.val (.int c1)] [(.int (if own_in c1 (11264 : Int32) (12271 : Int32) = true then (1 : Int32) else 0))])
                      by_cases k177 : own_in c1 (11264 : Int32) (12271 : Int32) = true
                      · rw [if_pos k177]
                        show own_Fin _ _ _ _ _ _ _ T12 (mkF m 177 #[.val (.int c1)] [(.int (1 : Int32))])
                        refine own_step (fun _ k => XS.ifYes X12.here hx rfl (pc0 := 177) (pc' := 225) rfl (hb hby d3_177) rfl (XT.i0_ne_t (by decide)) (by decide) (by decide) k) ?_
                        show own_Fin _ _ _ _ _ _ _ T12 (mkF m 225 #[.val (.int c1)] [])
                        refine own_step (fun _ k => XT.iconstV X12.here hx rfl (1 : Int32) (hb hby d3_225) (by decide) k) ?_
                        show own_Fin _ _ _ _ _ _ _ T12 (mkF m 226 #[.val (.int c1)] [(.int (1 : Int32))])
                        refine own_step (fun _ k => XS.goto X12.here hx rfl (pc0 := 226) (pc' := 230) rfl (hb hby d3_226) (by decide) (by decide) k) ?_
                        show own_Fin _ _ _ _ _ _ _ T12 (mkF m 230 #[.val (.int c1)] [(.int (1 : Int32))])
                        exact own_retZ X12 hx hrt hlk (hb hby d3_230) (Or.inr rfl) ⟨by simp [own_ref, h1, h10, h73, k86, k99, k112, k125, k138, k151, k164, k177], rfl, e12⟩ (Nat.le_refl _) (Nat.le_refl _)
                      · rw [if_neg k177]
                        show own_Fin _ _ _ _ _ _ _ T12 (mkF m 177 #[.val (.int c1)] [(.int (0 : Int32))])
                        refine own_step (fun _ k => XS.ifNo X12.here hx rfl (hb hby d3_177) rfl (XT.i0_ne_f (by decide)) k) ?_
                        show own_Fin _ _ _ _ _ _ _ T12 (mkF m 180 #[.val (.int c1)] [])
                        refine own_step (fun _ k => XS.iloadN X12.here hx rfl (hb hby d3_180) rfl k) ?_
                        show own_Fin _ _ _ _ _ _ _ T12 (mkF m 181 #[.val (.int c1)] [(.int c1)])
                        refine own_step (fun _ k => XT.sipushV X12.here hx rfl (12289 : Int32) (hb hby d3_181) (by decide) k) ?_
                        show own_Fin _ _ _ _ _ _ _ T12 (mkF m 184 #[.val (.int c1)] [(.int (12289 : Int32)), (.int c1)])
                        refine own_step (fun _ k => Stand.ldcI X12 hx (v := (55295 : Int32)) hown (mvT hZ (hw _ (List.mem_of_getElem? (i := 18) rfl))) rfl (hb hby d3_184) k) ?_
                        show own_Fin _ _ _ _ _ _ _ T12 (mkF m 186 #[.val (.int c1)] [(.int (55295 : Int32)), (.int (12289 : Int32)), (.int c1)])
                        refine own_callS0 X12 hx hZ (argsL := [(.int c1), (.int (12289 : Int32)), (.int (55295 : Int32))]) (rest := []) hown (hw _ (List.mem_of_getElem? (i := 13) rfl)) (hw _ (List.mem_of_getElem? (i := 14) rfl)) (hw _ (List.mem_of_getElem? (i := 11) rfl)) (hw _ (List.mem_of_getElem? (i := 15) rfl)) (by decide) (rm4 l Z a0 hw h0 c1 (12289 : Int32) (55295 : Int32)) e12 0 (Nat.le_of_eq rfl) (by decide) (by decide) (Nat.le_refl _) (Nat.le_refl _) (by rw [hml]; rfl) pd__III_Z rfl rfl (hb hby d3_186) ?_
                        intro T13 X13 e13
                        show own_Fin _ _ _ _ _ _ _ T13 (mkF m 189 #[.val (.int c1)] [(.int (if own_in c1 (12289 : Int32) (55295 : Int32) = true then (1 : Int32) else 0))])
                        by_cases k189 : own_in c1 (12289 : Int32) (55295 : Int32) = true
                        · rw [if_pos k189]
                          show own_Fin _ _ _ _ _ _ _ T13 (mkF m 189 #[.val (.int c1)] [(.int (1 : Int32))])
                          refine own_step (fun _ k => XS.ifYes X13.here hx rfl (pc0 := 189) (pc' := 225) rfl (hb hby d3_189) rfl (XT.i0_ne_t (by decide)) (by decide) (by decide) k) ?_
                          show own_Fin _ _ _ _ _ _ _ T13 (mkF m 225 #[.val (.int c1)] [])
                          refine own_step (fun _ k => XT.iconstV X13.here hx rfl (1 : Int32) (hb hby d3_225) (by decide) k) ?_
                          show own_Fin _ _ _ _ _ _ _ T13 (mkF m 226 #[.val (.int c1)] [(.int (1 : Int32))])
                          refine own_step (fun _ k => XS.goto X13.here hx rfl (pc0 := 226) (pc' := 230) rfl (hb hby d3_226) (by decide) (by decide) k) ?_
                          show own_Fin _ _ _ _ _ _ _ T13 (mkF m 230 #[.val (.int c1)] [(.int (1 : Int32))])
                          exact own_retZ X13 hx hrt hlk (hb hby d3_230) (Or.inr rfl) ⟨by simp [own_ref, h1, h10, h73, k86, k99, k112, k125, k138, k151, k164, k177, k189], rfl, e13⟩ (Nat.le_refl _) (Nat.le_refl _)
                        · rw [if_neg k189]
                          show own_Fin _ _ _ _ _ _ _ T13 (mkF m 189 #[.val (.int c1)] [(.int (0 : Int32))])
                          refine own_step (fun _ k => XS.ifNo X13.here hx rfl (hb hby d3_189) rfl (XT.i0_ne_f (by decide)) k) ?_
                          show own_Fin _ _ _ _ _ _ _ T13 (mkF m 192 #[.val (.int c1)] [])
                          refine own_step (fun _ k => XS.iloadN X13.here hx rfl (hb hby d3_192) rfl k) ?_
                          show own_Fin _ _ _ _ _ _ _ T13 (mkF m 193 #[.val (.int c1)] [(.int c1)])
                          refine own_step (fun _ k => Stand.ldcI X13 hx (v := (63744 : Int32)) hown (mvT hZ (hw _ (List.mem_of_getElem? (i := 19) rfl))) rfl (hb hby d3_193) k) ?_
                          show own_Fin _ _ _ _ _ _ _ T13 (mkF m 195 #[.val (.int c1)] [(.int (63744 : Int32)), (.int c1)])
                          refine own_step (fun _ k => Stand.ldcI X13 hx (v := (64975 : Int32)) hown (mvT hZ (hw _ (List.mem_of_getElem? (i := 20) rfl))) rfl (hb hby d3_195) k) ?_
                          show own_Fin _ _ _ _ _ _ _ T13 (mkF m 197 #[.val (.int c1)] [(.int (64975 : Int32)), (.int (63744 : Int32)), (.int c1)])
                          refine own_callS0 X13 hx hZ (argsL := [(.int c1), (.int (63744 : Int32)), (.int (64975 : Int32))]) (rest := []) hown (hw _ (List.mem_of_getElem? (i := 13) rfl)) (hw _ (List.mem_of_getElem? (i := 14) rfl)) (hw _ (List.mem_of_getElem? (i := 11) rfl)) (hw _ (List.mem_of_getElem? (i := 15) rfl)) (by decide) (rm4 l Z a0 hw h0 c1 (63744 : Int32) (64975 : Int32)) e13 0 (Nat.le_of_eq rfl) (by decide) (by decide) (Nat.le_refl _) (Nat.le_refl _) (by rw [hml]; rfl) pd__III_Z rfl rfl (hb hby d3_197) ?_
                          intro T14 X14 e14
                          show own_Fin _ _ _ _ _ _ _ T14 (mkF m 200 #[.val (.int c1)] [(.int (if own_in c1 (63744 : Int32) (64975 : Int32) = true then (1 : Int32) else 0))])
                          by_cases k200 : own_in c1 (63744 : Int32) (64975 : Int32) = true
                          · rw [if_pos k200]
                            show own_Fin _ _ _ _ _ _ _ T14 (mkF m 200 #[.val (.int c1)] [(.int (1 : Int32))])
                            refine own_step (fun _ k => XS.ifYes X14.here hx rfl (pc0 := 200) (pc' := 225) rfl (hb hby d3_200) rfl (XT.i0_ne_t (by decide)) (by decide) (by decide) k) ?_
                            show own_Fin _ _ _ _ _ _ _ T14 (mkF m 225 #[.val (.int c1)] [])
                            refine own_step (fun _ k => XT.iconstV X14.here hx rfl (1 : Int32) (hb hby d3_225) (by decide) k) ?_
                            show own_Fin _ _ _ _ _ _ _ T14 (mkF m 226 #[.val (.int c1)] [(.int (1 : Int32))])
                            refine own_step (fun _ k => XS.goto X14.here hx rfl (pc0 := 226) (pc' := 230) rfl (hb hby d3_226) (by decide) (by decide) k) ?_
                            show own_Fin _ _ _ _ _ _ _ T14 (mkF m 230 #[.val (.int c1)] [(.int (1 : Int32))])
                            exact own_retZ X14 hx hrt hlk (hb hby d3_230) (Or.inr rfl) ⟨by simp [own_ref, h1, h10, h73, k86, k99, k112, k125, k138, k151, k164, k177, k189, k200], rfl, e14⟩ (Nat.le_refl _) (Nat.le_refl _)
                          · rw [if_neg k200]
                            show own_Fin _ _ _ _ _ _ _ T14 (mkF m 200 #[.val (.int c1)] [(.int (0 : Int32))])
                            refine own_step (fun _ k => XS.ifNo X14.here hx rfl (hb hby d3_200) rfl (XT.i0_ne_f (by decide)) k) ?_
                            show own_Fin _ _ _ _ _ _ _ T14 (mkF m 203 #[.val (.int c1)] [])
                            refine own_step (fun _ k => XS.iloadN X14.here hx rfl (hb hby d3_203) rfl k) ?_
                            show own_Fin _ _ _ _ _ _ _ T14 (mkF m 204 #[.val (.int c1)] [(.int c1)])
                            refine own_step (fun _ k => Stand.ldcI X14 hx (v := (65008 : Int32)) hown (mvT hZ (hw _ (List.mem_of_getElem? (i := 21) rfl))) rfl (hb hby d3_204) k) ?_
                            show own_Fin _ _ _ _ _ _ _ T14 (mkF m 206 #[.val (.int c1)] [(.int (65008 : Int32)), (.int c1)])
                            refine own_step (fun _ k => Stand.ldcI X14 hx (v := (65533 : Int32)) hown (mvT hZ (hw _ (List.mem_of_getElem? (i := 22) rfl))) rfl (hb hby d3_206) k) ?_
                            show own_Fin _ _ _ _ _ _ _ T14 (mkF m 208 #[.val (.int c1)] [(.int (65533 : Int32)), (.int (65008 : Int32)), (.int c1)])
                            refine own_callS0 X14 hx hZ (argsL := [(.int c1), (.int (65008 : Int32)), (.int (65533 : Int32))]) (rest := []) hown (hw _ (List.mem_of_getElem? (i := 13) rfl)) (hw _ (List.mem_of_getElem? (i := 14) rfl)) (hw _ (List.mem_of_getElem? (i := 11) rfl)) (hw _ (List.mem_of_getElem? (i := 15) rfl)) (by decide) (rm4 l Z a0 hw h0 c1 (65008 : Int32) (65533 : Int32)) e14 0 (Nat.le_of_eq rfl) (by decide) (by decide) (Nat.le_refl _) (Nat.le_refl _) (by rw [hml]; rfl) pd__III_Z rfl rfl (hb hby d3_208) ?_
                            intro T15 X15 e15
                            show own_Fin _ _ _ _ _ _ _ T15 (mkF m 211 #[.val (.int c1)] [(.int (if own_in c1 (65008 : Int32) (65533 : Int32) = true then (1 : Int32) else 0))])
                            by_cases k211 : own_in c1 (65008 : Int32) (65533 : Int32) = true
                            · rw [if_pos k211]
                              show own_Fin _ _ _ _ _ _ _ T15 (mkF m 211 #[.val (.int c1)] [(.int (1 : Int32))])
                              refine own_step (fun _ k => XS.ifYes X15.here hx rfl (pc0 := 211) (pc' := 225) rfl (hb hby d3_211) rfl (XT.i0_ne_t (by decide)) (by decide) (by decide) k) ?_
                              show own_Fin _ _ _ _ _ _ _ T15 (mkF m 225 #[.val (.int c1)] [])
                              refine own_step (fun _ k => XT.iconstV X15.here hx rfl (1 : Int32) (hb hby d3_225) (by decide) k) ?_
                              show own_Fin _ _ _ _ _ _ _ T15 (mkF m 226 #[.val (.int c1)] [(.int (1 : Int32))])
                              refine own_step (fun _ k => XS.goto X15.here hx rfl (pc0 := 226) (pc' := 230) rfl (hb hby d3_226) (by decide) (by decide) k) ?_
                              show own_Fin _ _ _ _ _ _ _ T15 (mkF m 230 #[.val (.int c1)] [(.int (1 : Int32))])
                              exact own_retZ X15 hx hrt hlk (hb hby d3_230) (Or.inr rfl) ⟨by simp [own_ref, h1, h10, h73, k86, k99, k112, k125, k138, k151, k164, k177, k189, k200, k211], rfl, e15⟩ (Nat.le_refl _) (Nat.le_refl _)
                            · rw [if_neg k211]
                              show own_Fin _ _ _ _ _ _ _ T15 (mkF m 211 #[.val (.int c1)] [(.int (0 : Int32))])
                              refine own_step (fun _ k => XS.ifNo X15.here hx rfl (hb hby d3_211) rfl (XT.i0_ne_f (by decide)) k) ?_
                              show own_Fin _ _ _ _ _ _ _ T15 (mkF m 214 #[.val (.int c1)] [])
                              refine own_step (fun _ k => XS.iloadN X15.here hx rfl (hb hby d3_214) rfl k) ?_
                              show own_Fin _ _ _ _ _ _ _ T15 (mkF m 215 #[.val (.int c1)] [(.int c1)])
                              refine own_step (fun _ k => Stand.ldcI X15 hx (v := (65536 : Int32)) hown (mvT hZ (hw _ (List.mem_of_getElem? (i := 23) rfl))) rfl (hb hby d3_215) k) ?_
                              show own_Fin _ _ _ _ _ _ _ T15 (mkF m 217 #[.val (.int c1)] [(.int (65536 : Int32)), (.int c1)])
                              refine own_step (fun _ k => Stand.ldcI X15 hx (v := (983039 : Int32)) hown (mvT hZ (hw _ (List.mem_of_getElem? (i := 24) rfl))) rfl (hb hby d3_217) k) ?_
                              show own_Fin _ _ _ _ _ _ _ T15 (mkF m 219 #[.val (.int c1)] [(.int (983039 : Int32)), (.int (65536 : Int32)), (.int c1)])
                              refine own_callS0 X15 hx hZ (argsL := [(.int c1), (.int (65536 : Int32)), (.int (983039 : Int32))]) (rest := []) hown (hw _ (List.mem_of_getElem? (i := 13) rfl)) (hw _ (List.mem_of_getElem? (i := 14) rfl)) (hw _ (List.mem_of_getElem? (i := 11) rfl)) (hw _ (List.mem_of_getElem? (i := 15) rfl)) (by decide) (rm4 l Z a0 hw h0 c1 (65536 : Int32) (983039 : Int32)) e15 0 (Nat.le_of_eq rfl) (by decide) (by decide) (Nat.le_refl _) (Nat.le_refl _) (by rw [hml]; rfl) pd__III_Z rfl rfl (hb hby d3_219) ?_
                              intro T16 X16 e16
                              show own_Fin _ _ _ _ _ _ _ T16 (mkF m 222 #[.val (.int c1)] [(.int (if own_in c1 (65536 : Int32) (983039 : Int32) = true then (1 : Int32) else 0))])
                              by_cases k222 : own_in c1 (65536 : Int32) (983039 : Int32) = true
                              · rw [if_pos k222]
                                show own_Fin _ _ _ _ _ _ _ T16 (mkF m 222 #[.val (.int c1)] [(.int (1 : Int32))])
                                refine own_step (fun _ k => XS.ifNo X16.here hx rfl (hb hby d3_222) rfl (XT.i0_eq_f (by decide)) k) ?_
                                show own_Fin _ _ _ _ _ _ _ T16 (mkF m 225 #[.val (.int c1)] [])
                                refine own_step (fun _ k => XT.iconstV X16.here hx rfl (1 : Int32) (hb hby d3_225) (by decide) k) ?_
                                show own_Fin _ _ _ _ _ _ _ T16 (mkF m 226 #[.val (.int c1)] [(.int (1 : Int32))])
                                refine own_step (fun _ k => XS.goto X16.here hx rfl (pc0 := 226) (pc' := 230) rfl (hb hby d3_226) (by decide) (by decide) k) ?_
                                show own_Fin _ _ _ _ _ _ _ T16 (mkF m 230 #[.val (.int c1)] [(.int (1 : Int32))])
                                exact own_retZ X16 hx hrt hlk (hb hby d3_230) (Or.inr rfl) ⟨by simp [own_ref, h1, h10, h73, k86, k99, k112, k125, k138, k151, k164, k177, k189, k200, k211, k222], rfl, e16⟩ (Nat.le_refl _) (Nat.le_refl _)
                              · rw [if_neg k222]
                                show own_Fin _ _ _ _ _ _ _ T16 (mkF m 222 #[.val (.int c1)] [(.int (0 : Int32))])
                                refine own_step (fun _ k => XS.ifYes X16.here hx rfl (pc0 := 222) (pc' := 229) rfl (hb hby d3_222) rfl (XT.i0_eq_t (by decide)) (by decide) (by decide) k) ?_
                                show own_Fin _ _ _ _ _ _ _ T16 (mkF m 229 #[.val (.int c1)] [])
                                refine own_step (fun _ k => XT.iconstV X16.here hx rfl (0 : Int32) (hb hby d3_229) (by decide) k) ?_
                                show own_Fin _ _ _ _ _ _ _ T16 (mkF m 230 #[.val (.int c1)] [(.int (0 : Int32))])
                                exact own_retZ X16 hx hrt hlk (hb hby d3_230) (Or.inl rfl) ⟨by simp [own_ref, h1, h10, h73, k86, k99, k112, k125, k138, k151, k164, k177, k189, k200, k211, k222], rfl, e16⟩ (Nat.le_refl _) (Nat.le_refl _)
theorem ef_2 (m : MethodId) (x0 : Int32) : entryFrame m #[(.int x0)] 2 = mkF m 0 #[.val (.int x0), .unset] [] := by first | (simp [entryFrame, mkF, argsToLocals, Value.category]; done) | rfl
theorem d2_0 : decode prog_38_method_6_code 0 = .ok (.iload_n 0, 1) := by decide +kernel
theorem d2_1 : decode prog_38_method_6_code 1 = .ok (.sipush 128, 3) := by decide +kernel
theorem d2_4 : decode prog_38_method_6_code 4 = .ok (.if_icmp .ge 45, 3) := by decide +kernel
theorem d2_7 : decode prog_38_method_6_code 7 = .ok (.iload_n 0, 1) := by decide +kernel
theorem d2_8 : decode prog_38_method_6_code 8 = .ok (.bipush 97, 2) := by decide +kernel
theorem d2_10 : decode prog_38_method_6_code 10 = .ok (.if_icmp .lt 9, 3) := by decide +kernel
theorem d2_13 : decode prog_38_method_6_code 13 = .ok (.iload_n 0, 1) := by decide +kernel
theorem d2_14 : decode prog_38_method_6_code 14 = .ok (.bipush 122, 2) := by decide +kernel
theorem d2_16 : decode prog_38_method_6_code 16 = .ok (.if_icmp .le 27, 3) := by decide +kernel
theorem d2_19 : decode prog_38_method_6_code 19 = .ok (.iload_n 0, 1) := by decide +kernel
theorem d2_20 : decode prog_38_method_6_code 20 = .ok (.bipush 65, 2) := by decide +kernel
theorem d2_22 : decode prog_38_method_6_code 22 = .ok (.if_icmp .lt 9, 3) := by decide +kernel
theorem d2_25 : decode prog_38_method_6_code 25 = .ok (.iload_n 0, 1) := by decide +kernel
theorem d2_26 : decode prog_38_method_6_code 26 = .ok (.bipush 90, 2) := by decide +kernel
theorem d2_28 : decode prog_38_method_6_code 28 = .ok (.if_icmp .le 15, 3) := by decide +kernel
theorem d2_31 : decode prog_38_method_6_code 31 = .ok (.iload_n 0, 1) := by decide +kernel
theorem d2_32 : decode prog_38_method_6_code 32 = .ok (.bipush 95, 2) := by decide +kernel
theorem d2_34 : decode prog_38_method_6_code 34 = .ok (.if_icmp .eq 9, 3) := by decide +kernel
theorem d2_37 : decode prog_38_method_6_code 37 = .ok (.iload_n 0, 1) := by decide +kernel
theorem d2_38 : decode prog_38_method_6_code 38 = .ok (.bipush 58, 2) := by decide +kernel
theorem d2_40 : decode prog_38_method_6_code 40 = .ok (.if_icmp .ne 7, 3) := by decide +kernel
theorem d2_43 : decode prog_38_method_6_code 43 = .ok (.iconst 1, 1) := by decide +kernel
theorem d2_44 : decode prog_38_method_6_code 44 = .ok (.goto 4, 3) := by decide +kernel
theorem d2_47 : decode prog_38_method_6_code 47 = .ok (.iconst 0, 1) := by decide +kernel
theorem d2_48 : decode prog_38_method_6_code 48 = .ok (.ireturn, 1) := by decide +kernel
theorem d2_49 : decode prog_38_method_6_code 49 = .ok (.iconst 0, 1) := by decide +kernel
theorem d2_50 : decode prog_38_method_6_code 50 = .ok (.istore_n 1, 1) := by decide +kernel
theorem d2_51 : decode prog_38_method_6_code 51 = .ok (.iload_n 1, 1) := by decide +kernel
theorem d2_52 : decode prog_38_method_6_code 52 = .ok (.getstatic 55, 3) := by decide +kernel
theorem d2_55 : decode prog_38_method_6_code 55 = .ok (.arraylength, 1) := by decide +kernel
theorem d2_56 : decode prog_38_method_6_code 56 = .ok (.if_icmp .ge 31, 3) := by decide +kernel
theorem d2_59 : decode prog_38_method_6_code 59 = .ok (.iload_n 0, 1) := by decide +kernel
theorem d2_60 : decode prog_38_method_6_code 60 = .ok (.getstatic 55, 3) := by decide +kernel
theorem d2_63 : decode prog_38_method_6_code 63 = .ok (.iload_n 1, 1) := by decide +kernel
theorem d2_64 : decode prog_38_method_6_code 64 = .ok (.iaload, 1) := by decide +kernel
theorem d2_65 : decode prog_38_method_6_code 65 = .ok (.if_icmp .lt 16, 3) := by decide +kernel
theorem d2_68 : decode prog_38_method_6_code 68 = .ok (.iload_n 0, 1) := by decide +kernel
theorem d2_69 : decode prog_38_method_6_code 69 = .ok (.getstatic 55, 3) := by decide +kernel
theorem d2_72 : decode prog_38_method_6_code 72 = .ok (.iload_n 1, 1) := by decide +kernel
theorem d2_73 : decode prog_38_method_6_code 73 = .ok (.iconst 1, 1) := by decide +kernel
theorem d2_74 : decode prog_38_method_6_code 74 = .ok (.iadd, 1) := by decide +kernel
theorem d2_75 : decode prog_38_method_6_code 75 = .ok (.iaload, 1) := by decide +kernel
theorem d2_76 : decode prog_38_method_6_code 76 = .ok (.if_icmp .gt 5, 3) := by decide +kernel
theorem d2_79 : decode prog_38_method_6_code 79 = .ok (.iconst 1, 1) := by decide +kernel
theorem d2_80 : decode prog_38_method_6_code 80 = .ok (.ireturn, 1) := by decide +kernel
theorem d2_81 : decode prog_38_method_6_code 81 = .ok (.iinc 1 2, 3) := by decide +kernel
theorem d2_84 : decode prog_38_method_6_code 84 = .ok (.goto (-33), 3) := by decide +kernel
theorem d2_87 : decode prog_38_method_6_code 87 = .ok (.iconst 0, 1) := by decide +kernel
theorem d2_88 : decode prog_38_method_6_code 88 = .ok (.ireturn, 1) := by decide +kernel
set_option maxRecDepth 65536 in
set_option maxHeartbeats 40000000 in
theorem rm2 (l : Launch) (Z : State) (a0 : Array Value) (hw : ∀ d ∈ tables_1, d.before a0 Z = true) (h0 : Heap) (c1 : Int32) (a1 : Addr) (cl1 : Cell) (S1 : Sta Z h0 "com/example/wiazka/wiazka/XmlNames" "NAME_START_RANGES" "[I" (.ref a1)) (A1 : Arr Z h0 a1 cl1 .int) (hx1 : cl1.slots.toList = own_NS.map Value.int) :
    own_Pure l Z (⟨"com/example/wiazka/wiazka/XmlNames", "isNameStartChar", "(I)Z"⟩ : MethodName) prog_38_method_6_code 2 (some .boolean) 0 0 #[(.int c1)] h0 (.int (if own_ns c1 = true then 1 else 0)) := by
  refine own_body pn_com_example_wiazka_wiazka_XmlNames ?_
  intro p e s m below meth c s₁ hx hby hml hZ hown hnm hrt hlk X0 e0
  have hlen : own_NS.length = 2 * 12 := rfl
  have hsz : cl1.slots.size.toInt32 = Int32.ofNat (2 * 12) := by rw [own_size hx1 hlen]
  have loop : ∀ (k j : Nat), j + k = 12 → ∀ T, Stand p l e ({ frames := 0, cells := 0, slots := 0, locals := 0 } : Room) s m #[(.int c1)] below meth c T [] 0 0 → T.heap = h0 → own_ns c1 = own_inR c1 (own_NS.drop (2 * j)) → own_Fin p e s below 0 0 (own_Q0 h0 (.int (if own_ns c1 = true then 1 else 0))) T (mkF m 51 #[.val (.int c1), .val (.int (Int32.ofNat (2 * j)))] []) := by
    intro k
    induction k with
    | zero =>
      intro j hj T XJ eT hr
      have hd0 : own_NS.drop (2 * j) = [] := List.drop_eq_nil_of_le (by rw [hlen]; omega)
      have hF : own_ns c1 = false := by rw [hr, hd0]; rfl
      show own_Fin _ _ _ _ _ _ _ T (mkF m 51 #[.val (.int c1), .val (.int (Int32.ofNat (2 * j)))] [])
      refine own_step (fun _ k => XS.iloadN XJ.here hx rfl (hb hby d2_51) rfl k) ?_
      show own_Fin _ _ _ _ _ _ _ T (mkF m 52 #[.val (.int c1), .val (.int (Int32.ofNat (2 * j)))] [(.int (Int32.ofNat (2 * j)))])
      refine own_getS XJ hx hZ hown (hw _ (List.mem_of_getElem? (i := 16) rfl)) eT S1 (hb hby d2_52) ?_
      intro T1 X1 e1
      show own_Fin _ _ _ _ _ _ _ T1 (mkF m 55 #[.val (.int c1), .val (.int (Int32.ofNat (2 * j)))] [(.ref a1), (.int (Int32.ofNat (2 * j)))])
      refine own_alenA X1 hx hZ e1 A1 hsz (hb hby d2_55) ?_
      show own_Fin _ _ _ _ _ _ _ T1 (mkF m 56 #[.val (.int c1), .val (.int (Int32.ofNat (2 * j)))] [(.int (Int32.ofNat (2 * 12))), (.int (Int32.ofNat (2 * j)))])
      refine own_step (fun _ k => XS.icmpYes X1.here hx rfl (pc0 := 56) (pc' := 87) rfl (hb hby d2_56) rfl (XT.ii_ge_t (own_nlt32 (by omega) (by omega))) (by decide) (by decide) k) ?_
      show own_Fin _ _ _ _ _ _ _ T1 (mkF m 87 #[.val (.int c1), .val (.int (Int32.ofNat (2 * j)))] [])
      refine own_step (fun _ k => XT.iconstV X1.here hx rfl (0 : Int32) (hb hby d2_87) (by decide) k) ?_
      show own_Fin _ _ _ _ _ _ _ T1 (mkF m 88 #[.val (.int c1), .val (.int (Int32.ofNat (2 * j)))] [(.int (0 : Int32))])
      exact own_retZ X1 hx hrt hlk (hb hby d2_88) (Or.inl rfl) ⟨by simp [hF], rfl, e1⟩ (Nat.le_refl _) (Nat.le_refl _)
    | succ k ih =>
      intro j hj T XJ eT hr
      obtain ⟨lo, hi, hdr, hlo, hhi⟩ := own_pair hx1 hlen (show j < 12 by omega)
      have hz1 : (Int32.ofNat (2 * j)).toNatClampNeg = 2 * j := own_n32 (by omega)
      have hz2 : (Int32.ofNat (2 * j) + (1 : Int32)).toNatClampNeg = 2 * j + 1 := by rw [own_succ32]; exact own_n32 (by omega)
      have hin1 : ¬ (Int32.ofNat (2 * j) < 0 ∨ cl1.slots.size ≤ (Int32.ofNat (2 * j)).toNatClampNeg) := by rw [hz1, own_size hx1 hlen]; exact fun q => q.elim (own_nneg (by omega)) (by omega)
      have hin2 : ¬ (Int32.ofNat (2 * j) + (1 : Int32) < 0 ∨ cl1.slots.size ≤ (Int32.ofNat (2 * j) + (1 : Int32)).toNatClampNeg) := by rw [hz2, own_size hx1 hlen]; exact fun q => q.elim (by rw [own_succ32]; exact own_nneg (by omega)) (by omega)
      have hinc : Int32.ofNat (2 * j) + (2 : Int32) = Int32.ofNat (2 * (j + 1)) := own_succ2
      rw [hdr] at hr
      show own_Fin _ _ _ _ _ _ _ T (mkF m 51 #[.val (.int c1), .val (.int (Int32.ofNat (2 * j)))] [])
      refine own_step (fun _ k => XS.iloadN XJ.here hx rfl (hb hby d2_51) rfl k) ?_
      show own_Fin _ _ _ _ _ _ _ T (mkF m 52 #[.val (.int c1), .val (.int (Int32.ofNat (2 * j)))] [(.int (Int32.ofNat (2 * j)))])
      refine own_getS XJ hx hZ hown (hw _ (List.mem_of_getElem? (i := 16) rfl)) eT S1 (hb hby d2_52) ?_
      intro T1 X1 e1
      show own_Fin _ _ _ _ _ _ _ T1 (mkF m 55 #[.val (.int c1), .val (.int (Int32.ofNat (2 * j)))] [(.ref a1), (.int (Int32.ofNat (2 * j)))])
      refine own_alenA X1 hx hZ e1 A1 hsz (hb hby d2_55) ?_
      show own_Fin _ _ _ _ _ _ _ T1 (mkF m 56 #[.val (.int c1), .val (.int (Int32.ofNat (2 * j)))] [(.int (Int32.ofNat (2 * 12))), (.int (Int32.ofNat (2 * j)))])
      refine own_step (fun _ k => XS.icmpNo X1.here hx rfl (hb hby d2_56) rfl (XT.ii_ge_f (own_lt32 (by omega) (by omega))) k) ?_
      show own_Fin _ _ _ _ _ _ _ T1 (mkF m 59 #[.val (.int c1), .val (.int (Int32.ofNat (2 * j)))] [])
      refine own_step (fun _ k => XS.iloadN X1.here hx rfl (hb hby d2_59) rfl k) ?_
      show own_Fin _ _ _ _ _ _ _ T1 (mkF m 60 #[.val (.int c1), .val (.int (Int32.ofNat (2 * j)))] [(.int c1)])
      refine own_getS X1 hx hZ hown (hw _ (List.mem_of_getElem? (i := 16) rfl)) e1 S1 (hb hby d2_60) ?_
      intro T2 X2 e2
      show own_Fin _ _ _ _ _ _ _ T2 (mkF m 63 #[.val (.int c1), .val (.int (Int32.ofNat (2 * j)))] [(.ref a1), (.int c1)])
      refine own_step (fun _ k => XS.iloadN X2.here hx rfl (hb hby d2_63) rfl k) ?_
      show own_Fin _ _ _ _ _ _ _ T2 (mkF m 64 #[.val (.int c1), .val (.int (Int32.ofNat (2 * j)))] [(.int (Int32.ofNat (2 * j))), (.ref a1), (.int c1)])
      refine own_ildA X2 hx hZ e2 A1 (v := (.int lo)) hin1 (by rw [hz1]; exact hlo) (hb hby d2_64) ?_
      show own_Fin _ _ _ _ _ _ _ T2 (mkF m 65 #[.val (.int c1), .val (.int (Int32.ofNat (2 * j)))] [(.int lo), (.int c1)])
      by_cases h65 : c1 < lo
      · skip
        refine own_step (fun _ k => XS.icmpYes X2.here hx rfl (pc0 := 65) (pc' := 81) rfl (hb hby d2_65) rfl (XT.ii_lt_t h65) (by decide) (by decide) k) ?_
        show own_Fin _ _ _ _ _ _ _ T2 (mkF m 81 #[.val (.int c1), .val (.int (Int32.ofNat (2 * j)))] [])
        refine own_step (fun _ k => XT.iincV X2.here hx rfl (2 : Int32) (hb hby d2_81) (by decide) rfl (l' := #[.val (.int c1), .val (.int (Int32.ofNat (2 * j) + (2 : Int32)))]) rfl k) ?_
        show own_Fin _ _ _ _ _ _ _ T2 (mkF m 84 #[.val (.int c1), .val (.int (Int32.ofNat (2 * j) + (2 : Int32)))] [])
        rw [hinc]
        show own_Fin _ _ _ _ _ _ _ T2 (mkF m 84 #[.val (.int c1), .val (.int (Int32.ofNat (2 * (j + 1))))] [])
        refine own_step (fun _ k => XS.goto X2.here hx rfl (pc0 := 84) (pc' := 51) rfl (hb hby d2_84) (by decide) (by decide) k) ?_
        show own_Fin _ _ _ _ _ _ _ T2 (mkF m 51 #[.val (.int c1), .val (.int (Int32.ofNat (2 * (j + 1))))] [])
        exact ih (j + 1) (by omega) _ X2 e2 (by rw [hr]; simp [own_inR, own_in, h65])
      · skip
        refine own_step (fun _ k => XS.icmpNo X2.here hx rfl (hb hby d2_65) rfl (XT.ii_lt_f h65) k) ?_
        show own_Fin _ _ _ _ _ _ _ T2 (mkF m 68 #[.val (.int c1), .val (.int (Int32.ofNat (2 * j)))] [])
        refine own_step (fun _ k => XS.iloadN X2.here hx rfl (hb hby d2_68) rfl k) ?_
        show own_Fin _ _ _ _ _ _ _ T2 (mkF m 69 #[.val (.int c1), .val (.int (Int32.ofNat (2 * j)))] [(.int c1)])
        refine own_getS X2 hx hZ hown (hw _ (List.mem_of_getElem? (i := 16) rfl)) e2 S1 (hb hby d2_69) ?_
        intro T3 X3 e3
        show own_Fin _ _ _ _ _ _ _ T3 (mkF m 72 #[.val (.int c1), .val (.int (Int32.ofNat (2 * j)))] [(.ref a1), (.int c1)])
        refine own_step (fun _ k => XS.iloadN X3.here hx rfl (hb hby d2_72) rfl k) ?_
        show own_Fin _ _ _ _ _ _ _ T3 (mkF m 73 #[.val (.int c1), .val (.int (Int32.ofNat (2 * j)))] [(.int (Int32.ofNat (2 * j))), (.ref a1), (.int c1)])
        refine own_step (fun _ k => XT.iconstV X3.here hx rfl (1 : Int32) (hb hby d2_73) (by decide) k) ?_
        show own_Fin _ _ _ _ _ _ _ T3 (mkF m 74 #[.val (.int c1), .val (.int (Int32.ofNat (2 * j)))] [(.int (1 : Int32)), (.int (Int32.ofNat (2 * j))), (.ref a1), (.int c1)])
        refine own_step (fun _ k => XS.iadd X3.here hx rfl (hb hby d2_74) rfl k) ?_
        show own_Fin _ _ _ _ _ _ _ T3 (mkF m 75 #[.val (.int c1), .val (.int (Int32.ofNat (2 * j)))] [(.int ((Int32.ofNat (2 * j)) + (1 : Int32))), (.ref a1), (.int c1)])
        refine own_ildA X3 hx hZ e3 A1 (v := (.int hi)) hin2 (by rw [hz2]; exact hhi) (hb hby d2_75) ?_
        show own_Fin _ _ _ _ _ _ _ T3 (mkF m 76 #[.val (.int c1), .val (.int (Int32.ofNat (2 * j)))] [(.int hi), (.int c1)])
        by_cases h76 : hi < c1
        · skip
          refine own_step (fun _ k => XS.icmpYes X3.here hx rfl (pc0 := 76) (pc' := 81) rfl (hb hby d2_76) rfl (XT.ii_gt_t h76) (by decide) (by decide) k) ?_
          show own_Fin _ _ _ _ _ _ _ T3 (mkF m 81 #[.val (.int c1), .val (.int (Int32.ofNat (2 * j)))] [])
          refine own_step (fun _ k => XT.iincV X3.here hx rfl (2 : Int32) (hb hby d2_81) (by decide) rfl (l' := #[.val (.int c1), .val (.int (Int32.ofNat (2 * j) + (2 : Int32)))]) rfl k) ?_
          show own_Fin _ _ _ _ _ _ _ T3 (mkF m 84 #[.val (.int c1), .val (.int (Int32.ofNat (2 * j) + (2 : Int32)))] [])
          rw [hinc]
          show own_Fin _ _ _ _ _ _ _ T3 (mkF m 84 #[.val (.int c1), .val (.int (Int32.ofNat (2 * (j + 1))))] [])
          refine own_step (fun _ k => XS.goto X3.here hx rfl (pc0 := 84) (pc' := 51) rfl (hb hby d2_84) (by decide) (by decide) k) ?_
          show own_Fin _ _ _ _ _ _ _ T3 (mkF m 51 #[.val (.int c1), .val (.int (Int32.ofNat (2 * (j + 1))))] [])
          exact ih (j + 1) (by omega) _ X3 e3 (by rw [hr]; simp [own_inR, own_in, h65, h76])
        · skip
          refine own_step (fun _ k => XS.icmpNo X3.here hx rfl (hb hby d2_76) rfl (XT.ii_gt_f h76) k) ?_
          show own_Fin _ _ _ _ _ _ _ T3 (mkF m 79 #[.val (.int c1), .val (.int (Int32.ofNat (2 * j)))] [])
          refine own_step (fun _ k => XT.iconstV X3.here hx rfl (1 : Int32) (hb hby d2_79) (by decide) k) ?_
          show own_Fin _ _ _ _ _ _ _ T3 (mkF m 80 #[.val (.int c1), .val (.int (Int32.ofNat (2 * j)))] [(.int (1 : Int32))])
          exact own_retZ X3 hx hrt hlk (hb hby d2_80) (Or.inr rfl) ⟨by simp [hr, own_inR, own_in, h65, h76], rfl, e3⟩ (Nat.le_refl _) (Nat.le_refl _)
  rw [ef_2]
  show own_Fin _ _ _ _ _ _ _ s₁ (mkF m 0 #[.val (.int c1), .unset] [])
  refine own_step (fun _ k => XS.iloadN X0.here hx rfl (hb hby d2_0) rfl k) ?_
  show own_Fin _ _ _ _ _ _ _ s₁ (mkF m 1 #[.val (.int c1), .unset] [(.int c1)])
  refine own_step (fun _ k => XT.sipushV X0.here hx rfl (128 : Int32) (hb hby d2_1) (by decide) k) ?_
  show own_Fin _ _ _ _ _ _ _ s₁ (mkF m 4 #[.val (.int c1), .unset] [(.int (128 : Int32)), (.int c1)])
  by_cases h4 : c1 < (128 : Int32)
  · skip
    refine own_step (fun _ k => XS.icmpNo X0.here hx rfl (hb hby d2_4) rfl (XT.ii_ge_f h4) k) ?_
    show own_Fin _ _ _ _ _ _ _ s₁ (mkF m 7 #[.val (.int c1), .unset] [])
    refine own_step (fun _ k => XS.iloadN X0.here hx rfl (hb hby d2_7) rfl k) ?_
    show own_Fin _ _ _ _ _ _ _ s₁ (mkF m 8 #[.val (.int c1), .unset] [(.int c1)])
    refine own_step (fun _ k => XT.bipushV X0.here hx rfl (97 : Int32) (hb hby d2_8) (by decide) k) ?_
    show own_Fin _ _ _ _ _ _ _ s₁ (mkF m 10 #[.val (.int c1), .unset] [(.int (97 : Int32)), (.int c1)])
    by_cases h10 : c1 < (97 : Int32)
    · skip
      refine own_step (fun _ k => XS.icmpYes X0.here hx rfl (pc0 := 10) (pc' := 19) rfl (hb hby d2_10) rfl (XT.ii_lt_t h10) (by decide) (by decide) k) ?_
      show own_Fin _ _ _ _ _ _ _ s₁ (mkF m 19 #[.val (.int c1), .unset] [])
      refine own_step (fun _ k => XS.iloadN X0.here hx rfl (hb hby d2_19) rfl k) ?_
      show own_Fin _ _ _ _ _ _ _ s₁ (mkF m 20 #[.val (.int c1), .unset] [(.int c1)])
      refine own_step (fun _ k => XT.bipushV X0.here hx rfl (65 : Int32) (hb hby d2_20) (by decide) k) ?_
      show own_Fin _ _ _ _ _ _ _ s₁ (mkF m 22 #[.val (.int c1), .unset] [(.int (65 : Int32)), (.int c1)])
      by_cases h22 : c1 < (65 : Int32)
      · skip
        refine own_step (fun _ k => XS.icmpYes X0.here hx rfl (pc0 := 22) (pc' := 31) rfl (hb hby d2_22) rfl (XT.ii_lt_t h22) (by decide) (by decide) k) ?_
        show own_Fin _ _ _ _ _ _ _ s₁ (mkF m 31 #[.val (.int c1), .unset] [])
        refine own_step (fun _ k => XS.iloadN X0.here hx rfl (hb hby d2_31) rfl k) ?_
        show own_Fin _ _ _ _ _ _ _ s₁ (mkF m 32 #[.val (.int c1), .unset] [(.int c1)])
        refine own_step (fun _ k => XT.bipushV X0.here hx rfl (95 : Int32) (hb hby d2_32) (by decide) k) ?_
        show own_Fin _ _ _ _ _ _ _ s₁ (mkF m 34 #[.val (.int c1), .unset] [(.int (95 : Int32)), (.int c1)])
        by_cases h34 : c1 = (95 : Int32)
        · skip
          refine own_step (fun _ k => XS.icmpYes X0.here hx rfl (pc0 := 34) (pc' := 43) rfl (hb hby d2_34) rfl (XT.ii_eq_t h34) (by decide) (by decide) k) ?_
          show own_Fin _ _ _ _ _ _ _ s₁ (mkF m 43 #[.val (.int c1), .unset] [])
          refine own_step (fun _ k => XT.iconstV X0.here hx rfl (1 : Int32) (hb hby d2_43) (by decide) k) ?_
          show own_Fin _ _ _ _ _ _ _ s₁ (mkF m 44 #[.val (.int c1), .unset] [(.int (1 : Int32))])
          refine own_step (fun _ k => XS.goto X0.here hx rfl (pc0 := 44) (pc' := 48) rfl (hb hby d2_44) (by decide) (by decide) k) ?_
          show own_Fin _ _ _ _ _ _ _ s₁ (mkF m 48 #[.val (.int c1), .unset] [(.int (1 : Int32))])
          exact own_retZ X0 hx hrt hlk (hb hby d2_48) (Or.inr rfl) ⟨by simp [own_ns, own_in, h4, h10, h22, h34], rfl, e0⟩ (Nat.le_refl _) (Nat.le_refl _)
        · skip
          refine own_step (fun _ k => XS.icmpNo X0.here hx rfl (hb hby d2_34) rfl (XT.ii_eq_f h34) k) ?_
          show own_Fin _ _ _ _ _ _ _ s₁ (mkF m 37 #[.val (.int c1), .unset] [])
          refine own_step (fun _ k => XS.iloadN X0.here hx rfl (hb hby d2_37) rfl k) ?_
          show own_Fin _ _ _ _ _ _ _ s₁ (mkF m 38 #[.val (.int c1), .unset] [(.int c1)])
          refine own_step (fun _ k => XT.bipushV X0.here hx rfl (58 : Int32) (hb hby d2_38) (by decide) k) ?_
          show own_Fin _ _ _ _ _ _ _ s₁ (mkF m 40 #[.val (.int c1), .unset] [(.int (58 : Int32)), (.int c1)])
          by_cases h40 : c1 = (58 : Int32)
          · skip
            refine own_step (fun _ k => XS.icmpNo X0.here hx rfl (hb hby d2_40) rfl (XT.ii_ne_f h40) k) ?_
            show own_Fin _ _ _ _ _ _ _ s₁ (mkF m 43 #[.val (.int c1), .unset] [])
            refine own_step (fun _ k => XT.iconstV X0.here hx rfl (1 : Int32) (hb hby d2_43) (by decide) k) ?_
            show own_Fin _ _ _ _ _ _ _ s₁ (mkF m 44 #[.val (.int c1), .unset] [(.int (1 : Int32))])
            refine own_step (fun _ k => XS.goto X0.here hx rfl (pc0 := 44) (pc' := 48) rfl (hb hby d2_44) (by decide) (by decide) k) ?_
            show own_Fin _ _ _ _ _ _ _ s₁ (mkF m 48 #[.val (.int c1), .unset] [(.int (1 : Int32))])
            exact own_retZ X0 hx hrt hlk (hb hby d2_48) (Or.inr rfl) ⟨by simp [own_ns, own_in, h4, h10, h22, h34, h40], rfl, e0⟩ (Nat.le_refl _) (Nat.le_refl _)
          · skip
            refine own_step (fun _ k => XS.icmpYes X0.here hx rfl (pc0 := 40) (pc' := 47) rfl (hb hby d2_40) rfl (XT.ii_ne_t h40) (by decide) (by decide) k) ?_
            show own_Fin _ _ _ _ _ _ _ s₁ (mkF m 47 #[.val (.int c1), .unset] [])
            refine own_step (fun _ k => XT.iconstV X0.here hx rfl (0 : Int32) (hb hby d2_47) (by decide) k) ?_
            show own_Fin _ _ _ _ _ _ _ s₁ (mkF m 48 #[.val (.int c1), .unset] [(.int (0 : Int32))])
            exact own_retZ X0 hx hrt hlk (hb hby d2_48) (Or.inl rfl) ⟨by simp [own_ns, own_in, h4, h10, h22, h34, h40], rfl, e0⟩ (Nat.le_refl _) (Nat.le_refl _)
      · skip
        refine own_step (fun _ k => XS.icmpNo X0.here hx rfl (hb hby d2_22) rfl (XT.ii_lt_f h22) k) ?_
        show own_Fin _ _ _ _ _ _ _ s₁ (mkF m 25 #[.val (.int c1), .unset] [])
        refine own_step (fun _ k => XS.iloadN X0.here hx rfl (hb hby d2_25) rfl k) ?_
        show own_Fin _ _ _ _ _ _ _ s₁ (mkF m 26 #[.val (.int c1), .unset] [(.int c1)])
        refine own_step (fun _ k => XT.bipushV X0.here hx rfl (90 : Int32) (hb hby d2_26) (by decide) k) ?_
        show own_Fin _ _ _ _ _ _ _ s₁ (mkF m 28 #[.val (.int c1), .unset] [(.int (90 : Int32)), (.int c1)])
        by_cases h28 : (90 : Int32) < c1
        · skip
          refine own_step (fun _ k => XS.icmpNo X0.here hx rfl (hb hby d2_28) rfl (XT.ii_le_f h28) k) ?_
          show own_Fin _ _ _ _ _ _ _ s₁ (mkF m 31 #[.val (.int c1), .unset] [])
          refine own_step (fun _ k => XS.iloadN X0.here hx rfl (hb hby d2_31) rfl k) ?_
          show own_Fin _ _ _ _ _ _ _ s₁ (mkF m 32 #[.val (.int c1), .unset] [(.int c1)])
          refine own_step (fun _ k => XT.bipushV X0.here hx rfl (95 : Int32) (hb hby d2_32) (by decide) k) ?_
          show own_Fin _ _ _ _ _ _ _ s₁ (mkF m 34 #[.val (.int c1), .unset] [(.int (95 : Int32)), (.int c1)])
          by_cases h34 : c1 = (95 : Int32)
          · skip
            refine own_step (fun _ k => XS.icmpYes X0.here hx rfl (pc0 := 34) (pc' := 43) rfl (hb hby d2_34) rfl (XT.ii_eq_t h34) (by decide) (by decide) k) ?_
            show own_Fin _ _ _ _ _ _ _ s₁ (mkF m 43 #[.val (.int c1), .unset] [])
            refine own_step (fun _ k => XT.iconstV X0.here hx rfl (1 : Int32) (hb hby d2_43) (by decide) k) ?_
            show own_Fin _ _ _ _ _ _ _ s₁ (mkF m 44 #[.val (.int c1), .unset] [(.int (1 : Int32))])
            refine own_step (fun _ k => XS.goto X0.here hx rfl (pc0 := 44) (pc' := 48) rfl (hb hby d2_44) (by decide) (by decide) k) ?_
            show own_Fin _ _ _ _ _ _ _ s₁ (mkF m 48 #[.val (.int c1), .unset] [(.int (1 : Int32))])
            exact own_retZ X0 hx hrt hlk (hb hby d2_48) (Or.inr rfl) ⟨by simp [own_ns, own_in, h4, h10, h22, h28, h34], rfl, e0⟩ (Nat.le_refl _) (Nat.le_refl _)
          · skip
            refine own_step (fun _ k => XS.icmpNo X0.here hx rfl (hb hby d2_34) rfl (XT.ii_eq_f h34) k) ?_
            show own_Fin _ _ _ _ _ _ _ s₁ (mkF m 37 #[.val (.int c1), .unset] [])
            refine own_step (fun _ k => XS.iloadN X0.here hx rfl (hb hby d2_37) rfl k) ?_
            show own_Fin _ _ _ _ _ _ _ s₁ (mkF m 38 #[.val (.int c1), .unset] [(.int c1)])
            refine own_step (fun _ k => XT.bipushV X0.here hx rfl (58 : Int32) (hb hby d2_38) (by decide) k) ?_
            show own_Fin _ _ _ _ _ _ _ s₁ (mkF m 40 #[.val (.int c1), .unset] [(.int (58 : Int32)), (.int c1)])
            by_cases h40 : c1 = (58 : Int32)
            · skip
              refine own_step (fun _ k => XS.icmpNo X0.here hx rfl (hb hby d2_40) rfl (XT.ii_ne_f h40) k) ?_
              show own_Fin _ _ _ _ _ _ _ s₁ (mkF m 43 #[.val (.int c1), .unset] [])
              refine own_step (fun _ k => XT.iconstV X0.here hx rfl (1 : Int32) (hb hby d2_43) (by decide) k) ?_
              show own_Fin _ _ _ _ _ _ _ s₁ (mkF m 44 #[.val (.int c1), .unset] [(.int (1 : Int32))])
              refine own_step (fun _ k => XS.goto X0.here hx rfl (pc0 := 44) (pc' := 48) rfl (hb hby d2_44) (by decide) (by decide) k) ?_
              show own_Fin _ _ _ _ _ _ _ s₁ (mkF m 48 #[.val (.int c1), .unset] [(.int (1 : Int32))])
              exact own_retZ X0 hx hrt hlk (hb hby d2_48) (Or.inr rfl) ⟨by simp [own_ns, own_in, h4, h10, h22, h28, h34, h40], rfl, e0⟩ (Nat.le_refl _) (Nat.le_refl _)
            · skip
              refine own_step (fun _ k => XS.icmpYes X0.here hx rfl (pc0 := 40) (pc' := 47) rfl (hb hby d2_40) rfl (XT.ii_ne_t h40) (by decide) (by decide) k) ?_
              show own_Fin _ _ _ _ _ _ _ s₁ (mkF m 47 #[.val (.int c1), .unset] [])
              refine own_step (fun _ k => XT.iconstV X0.here hx rfl (0 : Int32) (hb hby d2_47) (by decide) k) ?_
              show own_Fin _ _ _ _ _ _ _ s₁ (mkF m 48 #[.val (.int c1), .unset] [(.int (0 : Int32))])
              exact own_retZ X0 hx hrt hlk (hb hby d2_48) (Or.inl rfl) ⟨by simp [own_ns, own_in, h4, h10, h22, h28, h34, h40], rfl, e0⟩ (Nat.le_refl _) (Nat.le_refl _)
        · skip
          refine own_step (fun _ k => XS.icmpYes X0.here hx rfl (pc0 := 28) (pc' := 43) rfl (hb hby d2_28) rfl (XT.ii_le_t h28) (by decide) (by decide) k) ?_
          show own_Fin _ _ _ _ _ _ _ s₁ (mkF m 43 #[.val (.int c1), .unset] [])
          refine own_step (fun _ k => XT.iconstV X0.here hx rfl (1 : Int32) (hb hby d2_43) (by decide) k) ?_
          show own_Fin _ _ _ _ _ _ _ s₁ (mkF m 44 #[.val (.int c1), .unset] [(.int (1 : Int32))])
          refine own_step (fun _ k => XS.goto X0.here hx rfl (pc0 := 44) (pc' := 48) rfl (hb hby d2_44) (by decide) (by decide) k) ?_
          show own_Fin _ _ _ _ _ _ _ s₁ (mkF m 48 #[.val (.int c1), .unset] [(.int (1 : Int32))])
          exact own_retZ X0 hx hrt hlk (hb hby d2_48) (Or.inr rfl) ⟨by simp [own_ns, own_in, h4, h10, h22, h28], rfl, e0⟩ (Nat.le_refl _) (Nat.le_refl _)
    · skip
      refine own_step (fun _ k => XS.icmpNo X0.here hx rfl (hb hby d2_10) rfl (XT.ii_lt_f h10) k) ?_
      show own_Fin _ _ _ _ _ _ _ s₁ (mkF m 13 #[.val (.int c1), .unset] [])
      refine own_step (fun _ k => XS.iloadN X0.here hx rfl (hb hby d2_13) rfl k) ?_
      show own_Fin _ _ _ _ _ _ _ s₁ (mkF m 14 #[.val (.int c1), .unset] [(.int c1)])
      refine own_step (fun _ k => XT.bipushV X0.here hx rfl (122 : Int32) (hb hby d2_14) (by decide) k) ?_
      show own_Fin _ _ _ _ _ _ _ s₁ (mkF m 16 #[.val (.int c1), .unset] [(.int (122 : Int32)), (.int c1)])
      by_cases h16 : (122 : Int32) < c1
      · skip
        refine own_step (fun _ k => XS.icmpNo X0.here hx rfl (hb hby d2_16) rfl (XT.ii_le_f h16) k) ?_
        show own_Fin _ _ _ _ _ _ _ s₁ (mkF m 19 #[.val (.int c1), .unset] [])
        refine own_step (fun _ k => XS.iloadN X0.here hx rfl (hb hby d2_19) rfl k) ?_
        show own_Fin _ _ _ _ _ _ _ s₁ (mkF m 20 #[.val (.int c1), .unset] [(.int c1)])
        refine own_step (fun _ k => XT.bipushV X0.here hx rfl (65 : Int32) (hb hby d2_20) (by decide) k) ?_
        show own_Fin _ _ _ _ _ _ _ s₁ (mkF m 22 #[.val (.int c1), .unset] [(.int (65 : Int32)), (.int c1)])
        by_cases h22 : c1 < (65 : Int32)
        · skip
          refine own_step (fun _ k => XS.icmpYes X0.here hx rfl (pc0 := 22) (pc' := 31) rfl (hb hby d2_22) rfl (XT.ii_lt_t h22) (by decide) (by decide) k) ?_
          show own_Fin _ _ _ _ _ _ _ s₁ (mkF m 31 #[.val (.int c1), .unset] [])
          refine own_step (fun _ k => XS.iloadN X0.here hx rfl (hb hby d2_31) rfl k) ?_
          show own_Fin _ _ _ _ _ _ _ s₁ (mkF m 32 #[.val (.int c1), .unset] [(.int c1)])
          refine own_step (fun _ k => XT.bipushV X0.here hx rfl (95 : Int32) (hb hby d2_32) (by decide) k) ?_
          show own_Fin _ _ _ _ _ _ _ s₁ (mkF m 34 #[.val (.int c1), .unset] [(.int (95 : Int32)), (.int c1)])
          by_cases h34 : c1 = (95 : Int32)
          · skip
            refine own_step (fun _ k => XS.icmpYes X0.here hx rfl (pc0 := 34) (pc' := 43) rfl (hb hby d2_34) rfl (XT.ii_eq_t h34) (by decide) (by decide) k) ?_
            show own_Fin _ _ _ _ _ _ _ s₁ (mkF m 43 #[.val (.int c1), .unset] [])
            refine own_step (fun _ k => XT.iconstV X0.here hx rfl (1 : Int32) (hb hby d2_43) (by decide) k) ?_
            show own_Fin _ _ _ _ _ _ _ s₁ (mkF m 44 #[.val (.int c1), .unset] [(.int (1 : Int32))])
            refine own_step (fun _ k => XS.goto X0.here hx rfl (pc0 := 44) (pc' := 48) rfl (hb hby d2_44) (by decide) (by decide) k) ?_
            show own_Fin _ _ _ _ _ _ _ s₁ (mkF m 48 #[.val (.int c1), .unset] [(.int (1 : Int32))])
            exact own_retZ X0 hx hrt hlk (hb hby d2_48) (Or.inr rfl) ⟨by simp [own_ns, own_in, h4, h10, h16, h22, h34], rfl, e0⟩ (Nat.le_refl _) (Nat.le_refl _)
          · skip
            refine own_step (fun _ k => XS.icmpNo X0.here hx rfl (hb hby d2_34) rfl (XT.ii_eq_f h34) k) ?_
            show own_Fin _ _ _ _ _ _ _ s₁ (mkF m 37 #[.val (.int c1), .unset] [])
            refine own_step (fun _ k => XS.iloadN X0.here hx rfl (hb hby d2_37) rfl k) ?_
            show own_Fin _ _ _ _ _ _ _ s₁ (mkF m 38 #[.val (.int c1), .unset] [(.int c1)])
            refine own_step (fun _ k => XT.bipushV X0.here hx rfl (58 : Int32) (hb hby d2_38) (by decide) k) ?_
            show own_Fin _ _ _ _ _ _ _ s₁ (mkF m 40 #[.val (.int c1), .unset] [(.int (58 : Int32)), (.int c1)])
            by_cases h40 : c1 = (58 : Int32)
            · skip
              refine own_step (fun _ k => XS.icmpNo X0.here hx rfl (hb hby d2_40) rfl (XT.ii_ne_f h40) k) ?_
              show own_Fin _ _ _ _ _ _ _ s₁ (mkF m 43 #[.val (.int c1), .unset] [])
              refine own_step (fun _ k => XT.iconstV X0.here hx rfl (1 : Int32) (hb hby d2_43) (by decide) k) ?_
              show own_Fin _ _ _ _ _ _ _ s₁ (mkF m 44 #[.val (.int c1), .unset] [(.int (1 : Int32))])
              refine own_step (fun _ k => XS.goto X0.here hx rfl (pc0 := 44) (pc' := 48) rfl (hb hby d2_44) (by decide) (by decide) k) ?_
              show own_Fin _ _ _ _ _ _ _ s₁ (mkF m 48 #[.val (.int c1), .unset] [(.int (1 : Int32))])
              exact own_retZ X0 hx hrt hlk (hb hby d2_48) (Or.inr rfl) ⟨by simp [own_ns, own_in, h4, h10, h16, h22, h34, h40], rfl, e0⟩ (Nat.le_refl _) (Nat.le_refl _)
            · skip
              refine own_step (fun _ k => XS.icmpYes X0.here hx rfl (pc0 := 40) (pc' := 47) rfl (hb hby d2_40) rfl (XT.ii_ne_t h40) (by decide) (by decide) k) ?_
              show own_Fin _ _ _ _ _ _ _ s₁ (mkF m 47 #[.val (.int c1), .unset] [])
              refine own_step (fun _ k => XT.iconstV X0.here hx rfl (0 : Int32) (hb hby d2_47) (by decide) k) ?_
              show own_Fin _ _ _ _ _ _ _ s₁ (mkF m 48 #[.val (.int c1), .unset] [(.int (0 : Int32))])
              exact own_retZ X0 hx hrt hlk (hb hby d2_48) (Or.inl rfl) ⟨by simp [own_ns, own_in, h4, h10, h16, h22, h34, h40], rfl, e0⟩ (Nat.le_refl _) (Nat.le_refl _)
        · skip
          refine own_step (fun _ k => XS.icmpNo X0.here hx rfl (hb hby d2_22) rfl (XT.ii_lt_f h22) k) ?_
          show own_Fin _ _ _ _ _ _ _ s₁ (mkF m 25 #[.val (.int c1), .unset] [])
          refine own_step (fun _ k => XS.iloadN X0.here hx rfl (hb hby d2_25) rfl k) ?_
          show own_Fin _ _ _ _ _ _ _ s₁ (mkF m 26 #[.val (.int c1), .unset] [(.int c1)])
          refine own_step (fun _ k => XT.bipushV X0.here hx rfl (90 : Int32) (hb hby d2_26) (by decide) k) ?_
          show own_Fin _ _ _ _ _ _ _ s₁ (mkF m 28 #[.val (.int c1), .unset] [(.int (90 : Int32)), (.int c1)])
          by_cases h28 : (90 : Int32) < c1
          · skip
            refine own_step (fun _ k => XS.icmpNo X0.here hx rfl (hb hby d2_28) rfl (XT.ii_le_f h28) k) ?_
            show own_Fin _ _ _ _ _ _ _ s₁ (mkF m 31 #[.val (.int c1), .unset] [])
            refine own_step (fun _ k => XS.iloadN X0.here hx rfl (hb hby d2_31) rfl k) ?_
            show own_Fin _ _ _ _ _ _ _ s₁ (mkF m 32 #[.val (.int c1), .unset] [(.int c1)])
            refine own_step (fun _ k => XT.bipushV X0.here hx rfl (95 : Int32) (hb hby d2_32) (by decide) k) ?_
            show own_Fin _ _ _ _ _ _ _ s₁ (mkF m 34 #[.val (.int c1), .unset] [(.int (95 : Int32)), (.int c1)])
            by_cases h34 : c1 = (95 : Int32)
            · skip
              refine own_step (fun _ k => XS.icmpYes X0.here hx rfl (pc0 := 34) (pc' := 43) rfl (hb hby d2_34) rfl (XT.ii_eq_t h34) (by decide) (by decide) k) ?_
              show own_Fin _ _ _ _ _ _ _ s₁ (mkF m 43 #[.val (.int c1), .unset] [])
              refine own_step (fun _ k => XT.iconstV X0.here hx rfl (1 : Int32) (hb hby d2_43) (by decide) k) ?_
              show own_Fin _ _ _ _ _ _ _ s₁ (mkF m 44 #[.val (.int c1), .unset] [(.int (1 : Int32))])
              refine own_step (fun _ k => XS.goto X0.here hx rfl (pc0 := 44) (pc' := 48) rfl (hb hby d2_44) (by decide) (by decide) k) ?_
              show own_Fin _ _ _ _ _ _ _ s₁ (mkF m 48 #[.val (.int c1), .unset] [(.int (1 : Int32))])
              exact own_retZ X0 hx hrt hlk (hb hby d2_48) (Or.inr rfl) ⟨by simp [own_ns, own_in, h4, h10, h16, h22, h28, h34], rfl, e0⟩ (Nat.le_refl _) (Nat.le_refl _)
            · skip
              refine own_step (fun _ k => XS.icmpNo X0.here hx rfl (hb hby d2_34) rfl (XT.ii_eq_f h34) k) ?_
              show own_Fin _ _ _ _ _ _ _ s₁ (mkF m 37 #[.val (.int c1), .unset] [])
              refine own_step (fun _ k => XS.iloadN X0.here hx rfl (hb hby d2_37) rfl k) ?_
              show own_Fin _ _ _ _ _ _ _ s₁ (mkF m 38 #[.val (.int c1), .unset] [(.int c1)])
              refine own_step (fun _ k => XT.bipushV X0.here hx rfl (58 : Int32) (hb hby d2_38) (by decide) k) ?_
              show own_Fin _ _ _ _ _ _ _ s₁ (mkF m 40 #[.val (.int c1), .unset] [(.int (58 : Int32)), (.int c1)])
              by_cases h40 : c1 = (58 : Int32)
              · skip
                refine own_step (fun _ k => XS.icmpNo X0.here hx rfl (hb hby d2_40) rfl (XT.ii_ne_f h40) k) ?_
                show own_Fin _ _ _ _ _ _ _ s₁ (mkF m 43 #[.val (.int c1), .unset] [])
                refine own_step (fun _ k => XT.iconstV X0.here hx rfl (1 : Int32) (hb hby d2_43) (by decide) k) ?_
                show own_Fin _ _ _ _ _ _ _ s₁ (mkF m 44 #[.val (.int c1), .unset] [(.int (1 : Int32))])
                refine own_step (fun _ k => XS.goto X0.here hx rfl (pc0 := 44) (pc' := 48) rfl (hb hby d2_44) (by decide) (by decide) k) ?_
                show own_Fin _ _ _ _ _ _ _ s₁ (mkF m 48 #[.val (.int c1), .unset] [(.int (1 : Int32))])
                exact own_retZ X0 hx hrt hlk (hb hby d2_48) (Or.inr rfl) ⟨by simp [own_ns, own_in, h4, h10, h16, h22, h28, h34, h40], rfl, e0⟩ (Nat.le_refl _) (Nat.le_refl _)
              · skip
                refine own_step (fun _ k => XS.icmpYes X0.here hx rfl (pc0 := 40) (pc' := 47) rfl (hb hby d2_40) rfl (XT.ii_ne_t h40) (by decide) (by decide) k) ?_
                show own_Fin _ _ _ _ _ _ _ s₁ (mkF m 47 #[.val (.int c1), .unset] [])
                refine own_step (fun _ k => XT.iconstV X0.here hx rfl (0 : Int32) (hb hby d2_47) (by decide) k) ?_
                show own_Fin _ _ _ _ _ _ _ s₁ (mkF m 48 #[.val (.int c1), .unset] [(.int (0 : Int32))])
                exact own_retZ X0 hx hrt hlk (hb hby d2_48) (Or.inl rfl) ⟨by simp [own_ns, own_in, h4, h10, h16, h22, h28, h34, h40], rfl, e0⟩ (Nat.le_refl _) (Nat.le_refl _)
          · skip
            refine own_step (fun _ k => XS.icmpYes X0.here hx rfl (pc0 := 28) (pc' := 43) rfl (hb hby d2_28) rfl (XT.ii_le_t h28) (by decide) (by decide) k) ?_
            show own_Fin _ _ _ _ _ _ _ s₁ (mkF m 43 #[.val (.int c1), .unset] [])
            refine own_step (fun _ k => XT.iconstV X0.here hx rfl (1 : Int32) (hb hby d2_43) (by decide) k) ?_
            show own_Fin _ _ _ _ _ _ _ s₁ (mkF m 44 #[.val (.int c1), .unset] [(.int (1 : Int32))])
            refine own_step (fun _ k => XS.goto X0.here hx rfl (pc0 := 44) (pc' := 48) rfl (hb hby d2_44) (by decide) (by decide) k) ?_
            show own_Fin _ _ _ _ _ _ _ s₁ (mkF m 48 #[.val (.int c1), .unset] [(.int (1 : Int32))])
            exact own_retZ X0 hx hrt hlk (hb hby d2_48) (Or.inr rfl) ⟨by simp [own_ns, own_in, h4, h10, h16, h22, h28], rfl, e0⟩ (Nat.le_refl _) (Nat.le_refl _)
      · skip
        refine own_step (fun _ k => XS.icmpYes X0.here hx rfl (pc0 := 16) (pc' := 43) rfl (hb hby d2_16) rfl (XT.ii_le_t h16) (by decide) (by decide) k) ?_
        show own_Fin _ _ _ _ _ _ _ s₁ (mkF m 43 #[.val (.int c1), .unset] [])
        refine own_step (fun _ k => XT.iconstV X0.here hx rfl (1 : Int32) (hb hby d2_43) (by decide) k) ?_
        show own_Fin _ _ _ _ _ _ _ s₁ (mkF m 44 #[.val (.int c1), .unset] [(.int (1 : Int32))])
        refine own_step (fun _ k => XS.goto X0.here hx rfl (pc0 := 44) (pc' := 48) rfl (hb hby d2_44) (by decide) (by decide) k) ?_
        show own_Fin _ _ _ _ _ _ _ s₁ (mkF m 48 #[.val (.int c1), .unset] [(.int (1 : Int32))])
        exact own_retZ X0 hx hrt hlk (hb hby d2_48) (Or.inr rfl) ⟨by simp [own_ns, own_in, h4, h10, h16], rfl, e0⟩ (Nat.le_refl _) (Nat.le_refl _)
  · skip
    refine own_step (fun _ k => XS.icmpYes X0.here hx rfl (pc0 := 4) (pc' := 49) rfl (hb hby d2_4) rfl (XT.ii_ge_t h4) (by decide) (by decide) k) ?_
    show own_Fin _ _ _ _ _ _ _ s₁ (mkF m 49 #[.val (.int c1), .unset] [])
    refine own_step (fun _ k => XT.iconstV X0.here hx rfl (0 : Int32) (hb hby d2_49) (by decide) k) ?_
    show own_Fin _ _ _ _ _ _ _ s₁ (mkF m 50 #[.val (.int c1), .unset] [(.int (0 : Int32))])
    refine own_step (fun _ k => XS.istoreN X0.here hx rfl (hb hby d2_50) rfl (l' := #[.val (.int c1), .val (.int (0 : Int32))]) rfl k) ?_
    show own_Fin _ _ _ _ _ _ _ s₁ (mkF m 51 #[.val (.int c1), .val (.int (0 : Int32))] [])
    exact loop 12 0 (by omega) _ X0 e0 (by unfold own_ns; rw [if_neg h4]; rfl)
theorem d1_0 : decode prog_38_method_7_code 0 = .ok (.iload_n 0, 1) := by decide +kernel
theorem d1_1 : decode prog_38_method_7_code 1 = .ok (.invokestatic 17, 3) := by decide +kernel
theorem d1_4 : decode prog_38_method_7_code 4 = .ok (.ifCond .ne 62, 3) := by decide +kernel
theorem d1_7 : decode prog_38_method_7_code 7 = .ok (.iload_n 0, 1) := by decide +kernel
theorem d1_8 : decode prog_38_method_7_code 8 = .ok (.bipush 48, 2) := by decide +kernel
theorem d1_10 : decode prog_38_method_7_code 10 = .ok (.if_icmp .lt 9, 3) := by decide +kernel
theorem d1_13 : decode prog_38_method_7_code 13 = .ok (.iload_n 0, 1) := by decide +kernel
theorem d1_14 : decode prog_38_method_7_code 14 = .ok (.bipush 57, 2) := by decide +kernel
theorem d1_16 : decode prog_38_method_7_code 16 = .ok (.if_icmp .le 50, 3) := by decide +kernel
theorem d1_19 : decode prog_38_method_7_code 19 = .ok (.iload_n 0, 1) := by decide +kernel
theorem d1_20 : decode prog_38_method_7_code 20 = .ok (.bipush 45, 2) := by decide +kernel
theorem d1_22 : decode prog_38_method_7_code 22 = .ok (.if_icmp .eq 44, 3) := by decide +kernel
theorem d1_25 : decode prog_38_method_7_code 25 = .ok (.iload_n 0, 1) := by decide +kernel
theorem d1_26 : decode prog_38_method_7_code 26 = .ok (.bipush 46, 2) := by decide +kernel
theorem d1_28 : decode prog_38_method_7_code 28 = .ok (.if_icmp .eq 38, 3) := by decide +kernel
theorem d1_31 : decode prog_38_method_7_code 31 = .ok (.iload_n 0, 1) := by decide +kernel
theorem d1_32 : decode prog_38_method_7_code 32 = .ok (.sipush 183, 3) := by decide +kernel
theorem d1_35 : decode prog_38_method_7_code 35 = .ok (.if_icmp .eq 31, 3) := by decide +kernel
theorem d1_38 : decode prog_38_method_7_code 38 = .ok (.iload_n 0, 1) := by decide +kernel
theorem d1_39 : decode prog_38_method_7_code 39 = .ok (.sipush 768, 3) := by decide +kernel
theorem d1_42 : decode prog_38_method_7_code 42 = .ok (.if_icmp .lt 10, 3) := by decide +kernel
theorem d1_45 : decode prog_38_method_7_code 45 = .ok (.iload_n 0, 1) := by decide +kernel
theorem d1_46 : decode prog_38_method_7_code 46 = .ok (.sipush 879, 3) := by decide +kernel
theorem d1_49 : decode prog_38_method_7_code 49 = .ok (.if_icmp .le 17, 3) := by decide +kernel
theorem d1_52 : decode prog_38_method_7_code 52 = .ok (.iload_n 0, 1) := by decide +kernel
theorem d1_53 : decode prog_38_method_7_code 53 = .ok (.sipush 8255, 3) := by decide +kernel
theorem d1_56 : decode prog_38_method_7_code 56 = .ok (.if_icmp .eq 10, 3) := by decide +kernel
theorem d1_59 : decode prog_38_method_7_code 59 = .ok (.iload_n 0, 1) := by decide +kernel
theorem d1_60 : decode prog_38_method_7_code 60 = .ok (.sipush 8256, 3) := by decide +kernel
theorem d1_63 : decode prog_38_method_7_code 63 = .ok (.if_icmp .ne 7, 3) := by decide +kernel
theorem d1_66 : decode prog_38_method_7_code 66 = .ok (.iconst 1, 1) := by decide +kernel
theorem d1_67 : decode prog_38_method_7_code 67 = .ok (.goto 4, 3) := by decide +kernel
theorem d1_70 : decode prog_38_method_7_code 70 = .ok (.iconst 0, 1) := by decide +kernel
theorem d1_71 : decode prog_38_method_7_code 71 = .ok (.ireturn, 1) := by decide +kernel
set_option maxRecDepth 65536 in
set_option maxHeartbeats 40000000 in
theorem rm1 (l : Launch) (Z : State) (a0 : Array Value) (hw : ∀ d ∈ tables_1, d.before a0 Z = true) (h0 : Heap) (c1 : Int32) (a1 : Addr) (cl1 : Cell) (S1 : Sta Z h0 "com/example/wiazka/wiazka/XmlNames" "NAME_START_RANGES" "[I" (.ref a1)) (A1 : Arr Z h0 a1 cl1 .int) (hx1 : cl1.slots.toList = own_NS.map Value.int) :
    own_Pure l Z (⟨"com/example/wiazka/wiazka/XmlNames", "isNameChar", "(I)Z"⟩ : MethodName) prog_38_method_7_code 1 (some .boolean) 1 13 #[(.int c1)] h0 (.int (if own_nc c1 = true then 1 else 0)) := by
  refine own_body pn_com_example_wiazka_wiazka_XmlNames ?_
  intro p e s m below meth c s₁ hx hby hml hZ hown hnm hrt hlk X0 e0
  rw [ef_1]
  show own_Fin _ _ _ _ _ _ _ s₁ (mkF m 0 #[.val (.int c1)] [])
  refine own_step (fun _ k => XS.iloadN X0.here hx rfl (hb hby d1_0) rfl k) ?_
  show own_Fin _ _ _ _ _ _ _ s₁ (mkF m 1 #[.val (.int c1)] [(.int c1)])
  refine own_callS0 X0 hx hZ (argsL := [(.int c1)]) (rest := []) hown (hw _ (List.mem_of_getElem? (i := 6) rfl)) (hw _ (List.mem_of_getElem? (i := 7) rfl)) (hw _ (List.mem_of_getElem? (i := 4) rfl)) (hw _ (List.mem_of_getElem? (i := 8) rfl)) (by decide) (rm2 l Z a0 hw h0 c1 a1 cl1 S1 A1 hx1) e0 0 (Nat.le_of_eq rfl) (by decide) (by decide) (Nat.le_refl _) (Nat.le_refl _) (by rw [hml]; rfl) pd__I_Z rfl rfl (hb hby d1_1) ?_
  intro T1 X1 e1
  show own_Fin _ _ _ _ _ _ _ T1 (mkF m 4 #[.val (.int c1)] [(.int (if own_ns c1 = true then (1 : Int32) else 0))])
  by_cases k4 : own_ns c1 = true
  · rw [if_pos k4]
    show own_Fin _ _ _ _ _ _ _ T1 (mkF m 4 #[.val (.int c1)] [(.int (1 : Int32))])
    refine own_step (fun _ k => XS.ifYes X1.here hx rfl (pc0 := 4) (pc' := 66) rfl (hb hby d1_4) rfl (XT.i0_ne_t (by decide)) (by decide) (by decide) k) ?_
    show own_Fin _ _ _ _ _ _ _ T1 (mkF m 66 #[.val (.int c1)] [])
    refine own_step (fun _ k => XT.iconstV X1.here hx rfl (1 : Int32) (hb hby d1_66) (by decide) k) ?_
    show own_Fin _ _ _ _ _ _ _ T1 (mkF m 67 #[.val (.int c1)] [(.int (1 : Int32))])
    refine own_step (fun _ k => XS.goto X1.here hx rfl (pc0 := 67) (pc' := 71) rfl (hb hby d1_67) (by decide) (by decide) k) ?_
    show own_Fin _ _ _ _ _ _ _ T1 (mkF m 71 #[.val (.int c1)] [(.int (1 : Int32))])
    exact own_retZ X1 hx hrt hlk (hb hby d1_71) (Or.inr rfl) ⟨by simp [own_nc, own_in, k4], rfl, e1⟩ (Nat.le_refl _) (Nat.le_refl _)
  · rw [if_neg k4]
    show own_Fin _ _ _ _ _ _ _ T1 (mkF m 4 #[.val (.int c1)] [(.int (0 : Int32))])
    refine own_step (fun _ k => XS.ifNo X1.here hx rfl (hb hby d1_4) rfl (XT.i0_ne_f (by decide)) k) ?_
    show own_Fin _ _ _ _ _ _ _ T1 (mkF m 7 #[.val (.int c1)] [])
    refine own_step (fun _ k => XS.iloadN X1.here hx rfl (hb hby d1_7) rfl k) ?_
    show own_Fin _ _ _ _ _ _ _ T1 (mkF m 8 #[.val (.int c1)] [(.int c1)])
    refine own_step (fun _ k => XT.bipushV X1.here hx rfl (48 : Int32) (hb hby d1_8) (by decide) k) ?_
    show own_Fin _ _ _ _ _ _ _ T1 (mkF m 10 #[.val (.int c1)] [(.int (48 : Int32)), (.int c1)])
    by_cases h10 : c1 < (48 : Int32)
    · skip
      refine own_step (fun _ k => XS.icmpYes X1.here hx rfl (pc0 := 10) (pc' := 19) rfl (hb hby d1_10) rfl (XT.ii_lt_t h10) (by decide) (by decide) k) ?_
      show own_Fin _ _ _ _ _ _ _ T1 (mkF m 19 #[.val (.int c1)] [])
      refine own_step (fun _ k => XS.iloadN X1.here hx rfl (hb hby d1_19) rfl k) ?_
      show own_Fin _ _ _ _ _ _ _ T1 (mkF m 20 #[.val (.int c1)] [(.int c1)])
      refine own_step (fun _ k => XT.bipushV X1.here hx rfl (45 : Int32) (hb hby d1_20) (by decide) k) ?_
      show own_Fin _ _ _ _ _ _ _ T1 (mkF m 22 #[.val (.int c1)] [(.int (45 : Int32)), (.int c1)])
      by_cases h22 : c1 = (45 : Int32)
      · skip
        refine own_step (fun _ k => XS.icmpYes X1.here hx rfl (pc0 := 22) (pc' := 66) rfl (hb hby d1_22) rfl (XT.ii_eq_t h22) (by decide) (by decide) k) ?_
        show own_Fin _ _ _ _ _ _ _ T1 (mkF m 66 #[.val (.int c1)] [])
        refine own_step (fun _ k => XT.iconstV X1.here hx rfl (1 : Int32) (hb hby d1_66) (by decide) k) ?_
        show own_Fin _ _ _ _ _ _ _ T1 (mkF m 67 #[.val (.int c1)] [(.int (1 : Int32))])
        refine own_step (fun _ k => XS.goto X1.here hx rfl (pc0 := 67) (pc' := 71) rfl (hb hby d1_67) (by decide) (by decide) k) ?_
        show own_Fin _ _ _ _ _ _ _ T1 (mkF m 71 #[.val (.int c1)] [(.int (1 : Int32))])
        exact own_retZ X1 hx hrt hlk (hb hby d1_71) (Or.inr rfl) ⟨by simp [own_nc, own_in, k4, h10, h22], rfl, e1⟩ (Nat.le_refl _) (Nat.le_refl _)
      · skip
        refine own_step (fun _ k => XS.icmpNo X1.here hx rfl (hb hby d1_22) rfl (XT.ii_eq_f h22) k) ?_
        show own_Fin _ _ _ _ _ _ _ T1 (mkF m 25 #[.val (.int c1)] [])
        refine own_step (fun _ k => XS.iloadN X1.here hx rfl (hb hby d1_25) rfl k) ?_
        show own_Fin _ _ _ _ _ _ _ T1 (mkF m 26 #[.val (.int c1)] [(.int c1)])
        refine own_step (fun _ k => XT.bipushV X1.here hx rfl (46 : Int32) (hb hby d1_26) (by decide) k) ?_
        show own_Fin _ _ _ _ _ _ _ T1 (mkF m 28 #[.val (.int c1)] [(.int (46 : Int32)), (.int c1)])
        by_cases h28 : c1 = (46 : Int32)
        · skip
          refine own_step (fun _ k => XS.icmpYes X1.here hx rfl (pc0 := 28) (pc' := 66) rfl (hb hby d1_28) rfl (XT.ii_eq_t h28) (by decide) (by decide) k) ?_
          show own_Fin _ _ _ _ _ _ _ T1 (mkF m 66 #[.val (.int c1)] [])
          refine own_step (fun _ k => XT.iconstV X1.here hx rfl (1 : Int32) (hb hby d1_66) (by decide) k) ?_
          show own_Fin _ _ _ _ _ _ _ T1 (mkF m 67 #[.val (.int c1)] [(.int (1 : Int32))])
          refine own_step (fun _ k => XS.goto X1.here hx rfl (pc0 := 67) (pc' := 71) rfl (hb hby d1_67) (by decide) (by decide) k) ?_
          show own_Fin _ _ _ _ _ _ _ T1 (mkF m 71 #[.val (.int c1)] [(.int (1 : Int32))])
          exact own_retZ X1 hx hrt hlk (hb hby d1_71) (Or.inr rfl) ⟨by simp [own_nc, own_in, k4, h10, h22, h28], rfl, e1⟩ (Nat.le_refl _) (Nat.le_refl _)
        · skip
          refine own_step (fun _ k => XS.icmpNo X1.here hx rfl (hb hby d1_28) rfl (XT.ii_eq_f h28) k) ?_
          show own_Fin _ _ _ _ _ _ _ T1 (mkF m 31 #[.val (.int c1)] [])
          refine own_step (fun _ k => XS.iloadN X1.here hx rfl (hb hby d1_31) rfl k) ?_
          show own_Fin _ _ _ _ _ _ _ T1 (mkF m 32 #[.val (.int c1)] [(.int c1)])
          refine own_step (fun _ k => XT.sipushV X1.here hx rfl (183 : Int32) (hb hby d1_32) (by decide) k) ?_
          show own_Fin _ _ _ _ _ _ _ T1 (mkF m 35 #[.val (.int c1)] [(.int (183 : Int32)), (.int c1)])
          by_cases h35 : c1 = (183 : Int32)
          · skip
            refine own_step (fun _ k => XS.icmpYes X1.here hx rfl (pc0 := 35) (pc' := 66) rfl (hb hby d1_35) rfl (XT.ii_eq_t h35) (by decide) (by decide) k) ?_
            show own_Fin _ _ _ _ _ _ _ T1 (mkF m 66 #[.val (.int c1)] [])
            refine own_step (fun _ k => XT.iconstV X1.here hx rfl (1 : Int32) (hb hby d1_66) (by decide) k) ?_
            show own_Fin _ _ _ _ _ _ _ T1 (mkF m 67 #[.val (.int c1)] [(.int (1 : Int32))])
            refine own_step (fun _ k => XS.goto X1.here hx rfl (pc0 := 67) (pc' := 71) rfl (hb hby d1_67) (by decide) (by decide) k) ?_
            show own_Fin _ _ _ _ _ _ _ T1 (mkF m 71 #[.val (.int c1)] [(.int (1 : Int32))])
            exact own_retZ X1 hx hrt hlk (hb hby d1_71) (Or.inr rfl) ⟨by simp [own_nc, own_in, k4, h10, h22, h28, h35], rfl, e1⟩ (Nat.le_refl _) (Nat.le_refl _)
          · skip
            refine own_step (fun _ k => XS.icmpNo X1.here hx rfl (hb hby d1_35) rfl (XT.ii_eq_f h35) k) ?_
            show own_Fin _ _ _ _ _ _ _ T1 (mkF m 38 #[.val (.int c1)] [])
            refine own_step (fun _ k => XS.iloadN X1.here hx rfl (hb hby d1_38) rfl k) ?_
            show own_Fin _ _ _ _ _ _ _ T1 (mkF m 39 #[.val (.int c1)] [(.int c1)])
            refine own_step (fun _ k => XT.sipushV X1.here hx rfl (768 : Int32) (hb hby d1_39) (by decide) k) ?_
            show own_Fin _ _ _ _ _ _ _ T1 (mkF m 42 #[.val (.int c1)] [(.int (768 : Int32)), (.int c1)])
            by_cases h42 : c1 < (768 : Int32)
            · skip
              refine own_step (fun _ k => XS.icmpYes X1.here hx rfl (pc0 := 42) (pc' := 52) rfl (hb hby d1_42) rfl (XT.ii_lt_t h42) (by decide) (by decide) k) ?_
              show own_Fin _ _ _ _ _ _ _ T1 (mkF m 52 #[.val (.int c1)] [])
              refine own_step (fun _ k => XS.iloadN X1.here hx rfl (hb hby d1_52) rfl k) ?_
              show own_Fin _ _ _ _ _ _ _ T1 (mkF m 53 #[.val (.int c1)] [(.int c1)])
              refine own_step (fun _ k => XT.sipushV X1.here hx rfl (8255 : Int32) (hb hby d1_53) (by decide) k) ?_
              show own_Fin _ _ _ _ _ _ _ T1 (mkF m 56 #[.val (.int c1)] [(.int (8255 : Int32)), (.int c1)])
              by_cases h56 : c1 = (8255 : Int32)
              · skip
                refine own_step (fun _ k => XS.icmpYes X1.here hx rfl (pc0 := 56) (pc' := 66) rfl (hb hby d1_56) rfl (XT.ii_eq_t h56) (by decide) (by decide) k) ?_
                show own_Fin _ _ _ _ _ _ _ T1 (mkF m 66 #[.val (.int c1)] [])
                refine own_step (fun _ k => XT.iconstV X1.here hx rfl (1 : Int32) (hb hby d1_66) (by decide) k) ?_
                show own_Fin _ _ _ _ _ _ _ T1 (mkF m 67 #[.val (.int c1)] [(.int (1 : Int32))])
                refine own_step (fun _ k => XS.goto X1.here hx rfl (pc0 := 67) (pc' := 71) rfl (hb hby d1_67) (by decide) (by decide) k) ?_
                show own_Fin _ _ _ _ _ _ _ T1 (mkF m 71 #[.val (.int c1)] [(.int (1 : Int32))])
                exact own_retZ X1 hx hrt hlk (hb hby d1_71) (Or.inr rfl) ⟨by simp [own_nc, own_in, k4, h10, h22, h28, h35, h42, h56], rfl, e1⟩ (Nat.le_refl _) (Nat.le_refl _)
              · skip
                refine own_step (fun _ k => XS.icmpNo X1.here hx rfl (hb hby d1_56) rfl (XT.ii_eq_f h56) k) ?_
                show own_Fin _ _ _ _ _ _ _ T1 (mkF m 59 #[.val (.int c1)] [])
                refine own_step (fun _ k => XS.iloadN X1.here hx rfl (hb hby d1_59) rfl k) ?_
                show own_Fin _ _ _ _ _ _ _ T1 (mkF m 60 #[.val (.int c1)] [(.int c1)])
                refine own_step (fun _ k => XT.sipushV X1.here hx rfl (8256 : Int32) (hb hby d1_60) (by decide) k) ?_
                show own_Fin _ _ _ _ _ _ _ T1 (mkF m 63 #[.val (.int c1)] [(.int (8256 : Int32)), (.int c1)])
                by_cases h63 : c1 = (8256 : Int32)
                · skip
                  refine own_step (fun _ k => XS.icmpNo X1.here hx rfl (hb hby d1_63) rfl (XT.ii_ne_f h63) k) ?_
                  show own_Fin _ _ _ _ _ _ _ T1 (mkF m 66 #[.val (.int c1)] [])
                  refine own_step (fun _ k => XT.iconstV X1.here hx rfl (1 : Int32) (hb hby d1_66) (by decide) k) ?_
                  show own_Fin _ _ _ _ _ _ _ T1 (mkF m 67 #[.val (.int c1)] [(.int (1 : Int32))])
                  refine own_step (fun _ k => XS.goto X1.here hx rfl (pc0 := 67) (pc' := 71) rfl (hb hby d1_67) (by decide) (by decide) k) ?_
                  show own_Fin _ _ _ _ _ _ _ T1 (mkF m 71 #[.val (.int c1)] [(.int (1 : Int32))])
                  exact own_retZ X1 hx hrt hlk (hb hby d1_71) (Or.inr rfl) ⟨by simp [own_nc, own_in, k4, h10, h22, h28, h35, h42, h56, h63], rfl, e1⟩ (Nat.le_refl _) (Nat.le_refl _)
                · skip
                  refine own_step (fun _ k => XS.icmpYes X1.here hx rfl (pc0 := 63) (pc' := 70) rfl (hb hby d1_63) rfl (XT.ii_ne_t h63) (by decide) (by decide) k) ?_
                  show own_Fin _ _ _ _ _ _ _ T1 (mkF m 70 #[.val (.int c1)] [])
                  refine own_step (fun _ k => XT.iconstV X1.here hx rfl (0 : Int32) (hb hby d1_70) (by decide) k) ?_
                  show own_Fin _ _ _ _ _ _ _ T1 (mkF m 71 #[.val (.int c1)] [(.int (0 : Int32))])
                  exact own_retZ X1 hx hrt hlk (hb hby d1_71) (Or.inl rfl) ⟨by simp [own_nc, own_in, k4, h10, h22, h28, h35, h42, h56, h63], rfl, e1⟩ (Nat.le_refl _) (Nat.le_refl _)
            · skip
              refine own_step (fun _ k => XS.icmpNo X1.here hx rfl (hb hby d1_42) rfl (XT.ii_lt_f h42) k) ?_
              show own_Fin _ _ _ _ _ _ _ T1 (mkF m 45 #[.val (.int c1)] [])
              refine own_step (fun _ k => XS.iloadN X1.here hx rfl (hb hby d1_45) rfl k) ?_
              show own_Fin _ _ _ _ _ _ _ T1 (mkF m 46 #[.val (.int c1)] [(.int c1)])
              refine own_step (fun _ k => XT.sipushV X1.here hx rfl (879 : Int32) (hb hby d1_46) (by decide) k) ?_
              show own_Fin _ _ _ _ _ _ _ T1 (mkF m 49 #[.val (.int c1)] [(.int (879 : Int32)), (.int c1)])
              by_cases h49 : (879 : Int32) < c1
              · skip
                refine own_step (fun _ k => XS.icmpNo X1.here hx rfl (hb hby d1_49) rfl (XT.ii_le_f h49) k) ?_
                show own_Fin _ _ _ _ _ _ _ T1 (mkF m 52 #[.val (.int c1)] [])
                refine own_step (fun _ k => XS.iloadN X1.here hx rfl (hb hby d1_52) rfl k) ?_
                show own_Fin _ _ _ _ _ _ _ T1 (mkF m 53 #[.val (.int c1)] [(.int c1)])
                refine own_step (fun _ k => XT.sipushV X1.here hx rfl (8255 : Int32) (hb hby d1_53) (by decide) k) ?_
                show own_Fin _ _ _ _ _ _ _ T1 (mkF m 56 #[.val (.int c1)] [(.int (8255 : Int32)), (.int c1)])
                by_cases h56 : c1 = (8255 : Int32)
                · skip
                  refine own_step (fun _ k => XS.icmpYes X1.here hx rfl (pc0 := 56) (pc' := 66) rfl (hb hby d1_56) rfl (XT.ii_eq_t h56) (by decide) (by decide) k) ?_
                  show own_Fin _ _ _ _ _ _ _ T1 (mkF m 66 #[.val (.int c1)] [])
                  refine own_step (fun _ k => XT.iconstV X1.here hx rfl (1 : Int32) (hb hby d1_66) (by decide) k) ?_
                  show own_Fin _ _ _ _ _ _ _ T1 (mkF m 67 #[.val (.int c1)] [(.int (1 : Int32))])
                  refine own_step (fun _ k => XS.goto X1.here hx rfl (pc0 := 67) (pc' := 71) rfl (hb hby d1_67) (by decide) (by decide) k) ?_
                  show own_Fin _ _ _ _ _ _ _ T1 (mkF m 71 #[.val (.int c1)] [(.int (1 : Int32))])
                  exact own_retZ X1 hx hrt hlk (hb hby d1_71) (Or.inr rfl) ⟨by simp [own_nc, own_in, k4, h10, h22, h28, h35, h42, h49, h56], rfl, e1⟩ (Nat.le_refl _) (Nat.le_refl _)
                · skip
                  refine own_step (fun _ k => XS.icmpNo X1.here hx rfl (hb hby d1_56) rfl (XT.ii_eq_f h56) k) ?_
                  show own_Fin _ _ _ _ _ _ _ T1 (mkF m 59 #[.val (.int c1)] [])
                  refine own_step (fun _ k => XS.iloadN X1.here hx rfl (hb hby d1_59) rfl k) ?_
                  show own_Fin _ _ _ _ _ _ _ T1 (mkF m 60 #[.val (.int c1)] [(.int c1)])
                  refine own_step (fun _ k => XT.sipushV X1.here hx rfl (8256 : Int32) (hb hby d1_60) (by decide) k) ?_
                  show own_Fin _ _ _ _ _ _ _ T1 (mkF m 63 #[.val (.int c1)] [(.int (8256 : Int32)), (.int c1)])
                  by_cases h63 : c1 = (8256 : Int32)
                  · skip
                    refine own_step (fun _ k => XS.icmpNo X1.here hx rfl (hb hby d1_63) rfl (XT.ii_ne_f h63) k) ?_
                    show own_Fin _ _ _ _ _ _ _ T1 (mkF m 66 #[.val (.int c1)] [])
                    refine own_step (fun _ k => XT.iconstV X1.here hx rfl (1 : Int32) (hb hby d1_66) (by decide) k) ?_
                    show own_Fin _ _ _ _ _ _ _ T1 (mkF m 67 #[.val (.int c1)] [(.int (1 : Int32))])
                    refine own_step (fun _ k => XS.goto X1.here hx rfl (pc0 := 67) (pc' := 71) rfl (hb hby d1_67) (by decide) (by decide) k) ?_
                    show own_Fin _ _ _ _ _ _ _ T1 (mkF m 71 #[.val (.int c1)] [(.int (1 : Int32))])
                    exact own_retZ X1 hx hrt hlk (hb hby d1_71) (Or.inr rfl) ⟨by simp [own_nc, own_in, k4, h10, h22, h28, h35, h42, h49, h56, h63], rfl, e1⟩ (Nat.le_refl _) (Nat.le_refl _)
                  · skip
                    refine own_step (fun _ k => XS.icmpYes X1.here hx rfl (pc0 := 63) (pc' := 70) rfl (hb hby d1_63) rfl (XT.ii_ne_t h63) (by decide) (by decide) k) ?_
                    show own_Fin _ _ _ _ _ _ _ T1 (mkF m 70 #[.val (.int c1)] [])
                    refine own_step (fun _ k => XT.iconstV X1.here hx rfl (0 : Int32) (hb hby d1_70) (by decide) k) ?_
                    show own_Fin _ _ _ _ _ _ _ T1 (mkF m 71 #[.val (.int c1)] [(.int (0 : Int32))])
                    exact own_retZ X1 hx hrt hlk (hb hby d1_71) (Or.inl rfl) ⟨by simp [own_nc, own_in, k4, h10, h22, h28, h35, h42, h49, h56, h63], rfl, e1⟩ (Nat.le_refl _) (Nat.le_refl _)
              · skip
                refine own_step (fun _ k => XS.icmpYes X1.here hx rfl (pc0 := 49) (pc' := 66) rfl (hb hby d1_49) rfl (XT.ii_le_t h49) (by decide) (by decide) k) ?_
                show own_Fin _ _ _ _ _ _ _ T1 (mkF m 66 #[.val (.int c1)] [])
                refine own_step (fun _ k => XT.iconstV X1.here hx rfl (1 : Int32) (hb hby d1_66) (by decide) k) ?_
                show own_Fin _ _ _ _ _ _ _ T1 (mkF m 67 #[.val (.int c1)] [(.int (1 : Int32))])
                refine own_step (fun _ k => XS.goto X1.here hx rfl (pc0 := 67) (pc' := 71) rfl (hb hby d1_67) (by decide) (by decide) k) ?_
                show own_Fin _ _ _ _ _ _ _ T1 (mkF m 71 #[.val (.int c1)] [(.int (1 : Int32))])
                exact own_retZ X1 hx hrt hlk (hb hby d1_71) (Or.inr rfl) ⟨by simp [own_nc, own_in, k4, h10, h22, h28, h35, h42, h49], rfl, e1⟩ (Nat.le_refl _) (Nat.le_refl _)
    · skip
      refine own_step (fun _ k => XS.icmpNo X1.here hx rfl (hb hby d1_10) rfl (XT.ii_lt_f h10) k) ?_
      show own_Fin _ _ _ _ _ _ _ T1 (mkF m 13 #[.val (.int c1)] [])
      refine own_step (fun _ k => XS.iloadN X1.here hx rfl (hb hby d1_13) rfl k) ?_
      show own_Fin _ _ _ _ _ _ _ T1 (mkF m 14 #[.val (.int c1)] [(.int c1)])
      refine own_step (fun _ k => XT.bipushV X1.here hx rfl (57 : Int32) (hb hby d1_14) (by decide) k) ?_
      show own_Fin _ _ _ _ _ _ _ T1 (mkF m 16 #[.val (.int c1)] [(.int (57 : Int32)), (.int c1)])
      by_cases h16 : (57 : Int32) < c1
      · skip
        refine own_step (fun _ k => XS.icmpNo X1.here hx rfl (hb hby d1_16) rfl (XT.ii_le_f h16) k) ?_
        show own_Fin _ _ _ _ _ _ _ T1 (mkF m 19 #[.val (.int c1)] [])
        refine own_step (fun _ k => XS.iloadN X1.here hx rfl (hb hby d1_19) rfl k) ?_
        show own_Fin _ _ _ _ _ _ _ T1 (mkF m 20 #[.val (.int c1)] [(.int c1)])
        refine own_step (fun _ k => XT.bipushV X1.here hx rfl (45 : Int32) (hb hby d1_20) (by decide) k) ?_
        show own_Fin _ _ _ _ _ _ _ T1 (mkF m 22 #[.val (.int c1)] [(.int (45 : Int32)), (.int c1)])
        by_cases h22 : c1 = (45 : Int32)
        · skip
          refine own_step (fun _ k => XS.icmpYes X1.here hx rfl (pc0 := 22) (pc' := 66) rfl (hb hby d1_22) rfl (XT.ii_eq_t h22) (by decide) (by decide) k) ?_
          show own_Fin _ _ _ _ _ _ _ T1 (mkF m 66 #[.val (.int c1)] [])
          refine own_step (fun _ k => XT.iconstV X1.here hx rfl (1 : Int32) (hb hby d1_66) (by decide) k) ?_
          show own_Fin _ _ _ _ _ _ _ T1 (mkF m 67 #[.val (.int c1)] [(.int (1 : Int32))])
          refine own_step (fun _ k => XS.goto X1.here hx rfl (pc0 := 67) (pc' := 71) rfl (hb hby d1_67) (by decide) (by decide) k) ?_
          show own_Fin _ _ _ _ _ _ _ T1 (mkF m 71 #[.val (.int c1)] [(.int (1 : Int32))])
          exact own_retZ X1 hx hrt hlk (hb hby d1_71) (Or.inr rfl) ⟨by simp [own_nc, own_in, k4, h10, h16, h22], rfl, e1⟩ (Nat.le_refl _) (Nat.le_refl _)
        · skip
          refine own_step (fun _ k => XS.icmpNo X1.here hx rfl (hb hby d1_22) rfl (XT.ii_eq_f h22) k) ?_
          show own_Fin _ _ _ _ _ _ _ T1 (mkF m 25 #[.val (.int c1)] [])
          refine own_step (fun _ k => XS.iloadN X1.here hx rfl (hb hby d1_25) rfl k) ?_
          show own_Fin _ _ _ _ _ _ _ T1 (mkF m 26 #[.val (.int c1)] [(.int c1)])
          refine own_step (fun _ k => XT.bipushV X1.here hx rfl (46 : Int32) (hb hby d1_26) (by decide) k) ?_
          show own_Fin _ _ _ _ _ _ _ T1 (mkF m 28 #[.val (.int c1)] [(.int (46 : Int32)), (.int c1)])
          by_cases h28 : c1 = (46 : Int32)
          · skip
            refine own_step (fun _ k => XS.icmpYes X1.here hx rfl (pc0 := 28) (pc' := 66) rfl (hb hby d1_28) rfl (XT.ii_eq_t h28) (by decide) (by decide) k) ?_
            show own_Fin _ _ _ _ _ _ _ T1 (mkF m 66 #[.val (.int c1)] [])
            refine own_step (fun _ k => XT.iconstV X1.here hx rfl (1 : Int32) (hb hby d1_66) (by decide) k) ?_
            show own_Fin _ _ _ _ _ _ _ T1 (mkF m 67 #[.val (.int c1)] [(.int (1 : Int32))])
            refine own_step (fun _ k => XS.goto X1.here hx rfl (pc0 := 67) (pc' := 71) rfl (hb hby d1_67) (by decide) (by decide) k) ?_
            show own_Fin _ _ _ _ _ _ _ T1 (mkF m 71 #[.val (.int c1)] [(.int (1 : Int32))])
            exact own_retZ X1 hx hrt hlk (hb hby d1_71) (Or.inr rfl) ⟨by simp [own_nc, own_in, k4, h10, h16, h22, h28], rfl, e1⟩ (Nat.le_refl _) (Nat.le_refl _)
          · skip
            refine own_step (fun _ k => XS.icmpNo X1.here hx rfl (hb hby d1_28) rfl (XT.ii_eq_f h28) k) ?_
            show own_Fin _ _ _ _ _ _ _ T1 (mkF m 31 #[.val (.int c1)] [])
            refine own_step (fun _ k => XS.iloadN X1.here hx rfl (hb hby d1_31) rfl k) ?_
            show own_Fin _ _ _ _ _ _ _ T1 (mkF m 32 #[.val (.int c1)] [(.int c1)])
            refine own_step (fun _ k => XT.sipushV X1.here hx rfl (183 : Int32) (hb hby d1_32) (by decide) k) ?_
            show own_Fin _ _ _ _ _ _ _ T1 (mkF m 35 #[.val (.int c1)] [(.int (183 : Int32)), (.int c1)])
            by_cases h35 : c1 = (183 : Int32)
            · skip
              refine own_step (fun _ k => XS.icmpYes X1.here hx rfl (pc0 := 35) (pc' := 66) rfl (hb hby d1_35) rfl (XT.ii_eq_t h35) (by decide) (by decide) k) ?_
              show own_Fin _ _ _ _ _ _ _ T1 (mkF m 66 #[.val (.int c1)] [])
              refine own_step (fun _ k => XT.iconstV X1.here hx rfl (1 : Int32) (hb hby d1_66) (by decide) k) ?_
              show own_Fin _ _ _ _ _ _ _ T1 (mkF m 67 #[.val (.int c1)] [(.int (1 : Int32))])
              refine own_step (fun _ k => XS.goto X1.here hx rfl (pc0 := 67) (pc' := 71) rfl (hb hby d1_67) (by decide) (by decide) k) ?_
              show own_Fin _ _ _ _ _ _ _ T1 (mkF m 71 #[.val (.int c1)] [(.int (1 : Int32))])
              exact own_retZ X1 hx hrt hlk (hb hby d1_71) (Or.inr rfl) ⟨by simp [own_nc, own_in, k4, h10, h16, h22, h28, h35], rfl, e1⟩ (Nat.le_refl _) (Nat.le_refl _)
            · skip
              refine own_step (fun _ k => XS.icmpNo X1.here hx rfl (hb hby d1_35) rfl (XT.ii_eq_f h35) k) ?_
              show own_Fin _ _ _ _ _ _ _ T1 (mkF m 38 #[.val (.int c1)] [])
              refine own_step (fun _ k => XS.iloadN X1.here hx rfl (hb hby d1_38) rfl k) ?_
              show own_Fin _ _ _ _ _ _ _ T1 (mkF m 39 #[.val (.int c1)] [(.int c1)])
              refine own_step (fun _ k => XT.sipushV X1.here hx rfl (768 : Int32) (hb hby d1_39) (by decide) k) ?_
              show own_Fin _ _ _ _ _ _ _ T1 (mkF m 42 #[.val (.int c1)] [(.int (768 : Int32)), (.int c1)])
              by_cases h42 : c1 < (768 : Int32)
              · skip
                refine own_step (fun _ k => XS.icmpYes X1.here hx rfl (pc0 := 42) (pc' := 52) rfl (hb hby d1_42) rfl (XT.ii_lt_t h42) (by decide) (by decide) k) ?_
                show own_Fin _ _ _ _ _ _ _ T1 (mkF m 52 #[.val (.int c1)] [])
                refine own_step (fun _ k => XS.iloadN X1.here hx rfl (hb hby d1_52) rfl k) ?_
                show own_Fin _ _ _ _ _ _ _ T1 (mkF m 53 #[.val (.int c1)] [(.int c1)])
                refine own_step (fun _ k => XT.sipushV X1.here hx rfl (8255 : Int32) (hb hby d1_53) (by decide) k) ?_
                show own_Fin _ _ _ _ _ _ _ T1 (mkF m 56 #[.val (.int c1)] [(.int (8255 : Int32)), (.int c1)])
                by_cases h56 : c1 = (8255 : Int32)
                · skip
                  refine own_step (fun _ k => XS.icmpYes X1.here hx rfl (pc0 := 56) (pc' := 66) rfl (hb hby d1_56) rfl (XT.ii_eq_t h56) (by decide) (by decide) k) ?_
                  show own_Fin _ _ _ _ _ _ _ T1 (mkF m 66 #[.val (.int c1)] [])
                  refine own_step (fun _ k => XT.iconstV X1.here hx rfl (1 : Int32) (hb hby d1_66) (by decide) k) ?_
                  show own_Fin _ _ _ _ _ _ _ T1 (mkF m 67 #[.val (.int c1)] [(.int (1 : Int32))])
                  refine own_step (fun _ k => XS.goto X1.here hx rfl (pc0 := 67) (pc' := 71) rfl (hb hby d1_67) (by decide) (by decide) k) ?_
                  show own_Fin _ _ _ _ _ _ _ T1 (mkF m 71 #[.val (.int c1)] [(.int (1 : Int32))])
                  exact own_retZ X1 hx hrt hlk (hb hby d1_71) (Or.inr rfl) ⟨by simp [own_nc, own_in, k4, h10, h16, h22, h28, h35, h42, h56], rfl, e1⟩ (Nat.le_refl _) (Nat.le_refl _)
                · skip
                  refine own_step (fun _ k => XS.icmpNo X1.here hx rfl (hb hby d1_56) rfl (XT.ii_eq_f h56) k) ?_
                  show own_Fin _ _ _ _ _ _ _ T1 (mkF m 59 #[.val (.int c1)] [])
                  refine own_step (fun _ k => XS.iloadN X1.here hx rfl (hb hby d1_59) rfl k) ?_
                  show own_Fin _ _ _ _ _ _ _ T1 (mkF m 60 #[.val (.int c1)] [(.int c1)])
                  refine own_step (fun _ k => XT.sipushV X1.here hx rfl (8256 : Int32) (hb hby d1_60) (by decide) k) ?_
                  show own_Fin _ _ _ _ _ _ _ T1 (mkF m 63 #[.val (.int c1)] [(.int (8256 : Int32)), (.int c1)])
                  by_cases h63 : c1 = (8256 : Int32)
                  · skip
                    refine own_step (fun _ k => XS.icmpNo X1.here hx rfl (hb hby d1_63) rfl (XT.ii_ne_f h63) k) ?_
                    show own_Fin _ _ _ _ _ _ _ T1 (mkF m 66 #[.val (.int c1)] [])
                    refine own_step (fun _ k => XT.iconstV X1.here hx rfl (1 : Int32) (hb hby d1_66) (by decide) k) ?_
                    show own_Fin _ _ _ _ _ _ _ T1 (mkF m 67 #[.val (.int c1)] [(.int (1 : Int32))])
                    refine own_step (fun _ k => XS.goto X1.here hx rfl (pc0 := 67) (pc' := 71) rfl (hb hby d1_67) (by decide) (by decide) k) ?_
                    show own_Fin _ _ _ _ _ _ _ T1 (mkF m 71 #[.val (.int c1)] [(.int (1 : Int32))])
                    exact own_retZ X1 hx hrt hlk (hb hby d1_71) (Or.inr rfl) ⟨by simp [own_nc, own_in, k4, h10, h16, h22, h28, h35, h42, h56, h63], rfl, e1⟩ (Nat.le_refl _) (Nat.le_refl _)
                  · skip
                    refine own_step (fun _ k => XS.icmpYes X1.here hx rfl (pc0 := 63) (pc' := 70) rfl (hb hby d1_63) rfl (XT.ii_ne_t h63) (by decide) (by decide) k) ?_
                    show own_Fin _ _ _ _ _ _ _ T1 (mkF m 70 #[.val (.int c1)] [])
                    refine own_step (fun _ k => XT.iconstV X1.here hx rfl (0 : Int32) (hb hby d1_70) (by decide) k) ?_
                    show own_Fin _ _ _ _ _ _ _ T1 (mkF m 71 #[.val (.int c1)] [(.int (0 : Int32))])
                    exact own_retZ X1 hx hrt hlk (hb hby d1_71) (Or.inl rfl) ⟨by simp [own_nc, own_in, k4, h10, h16, h22, h28, h35, h42, h56, h63], rfl, e1⟩ (Nat.le_refl _) (Nat.le_refl _)
              · skip
                refine own_step (fun _ k => XS.icmpNo X1.here hx rfl (hb hby d1_42) rfl (XT.ii_lt_f h42) k) ?_
                show own_Fin _ _ _ _ _ _ _ T1 (mkF m 45 #[.val (.int c1)] [])
                refine own_step (fun _ k => XS.iloadN X1.here hx rfl (hb hby d1_45) rfl k) ?_
                show own_Fin _ _ _ _ _ _ _ T1 (mkF m 46 #[.val (.int c1)] [(.int c1)])
                refine own_step (fun _ k => XT.sipushV X1.here hx rfl (879 : Int32) (hb hby d1_46) (by decide) k) ?_
                show own_Fin _ _ _ _ _ _ _ T1 (mkF m 49 #[.val (.int c1)] [(.int (879 : Int32)), (.int c1)])
                by_cases h49 : (879 : Int32) < c1
                · skip
                  refine own_step (fun _ k => XS.icmpNo X1.here hx rfl (hb hby d1_49) rfl (XT.ii_le_f h49) k) ?_
                  show own_Fin _ _ _ _ _ _ _ T1 (mkF m 52 #[.val (.int c1)] [])
                  refine own_step (fun _ k => XS.iloadN X1.here hx rfl (hb hby d1_52) rfl k) ?_
                  show own_Fin _ _ _ _ _ _ _ T1 (mkF m 53 #[.val (.int c1)] [(.int c1)])
                  refine own_step (fun _ k => XT.sipushV X1.here hx rfl (8255 : Int32) (hb hby d1_53) (by decide) k) ?_
                  show own_Fin _ _ _ _ _ _ _ T1 (mkF m 56 #[.val (.int c1)] [(.int (8255 : Int32)), (.int c1)])
                  by_cases h56 : c1 = (8255 : Int32)
                  · skip
                    refine own_step (fun _ k => XS.icmpYes X1.here hx rfl (pc0 := 56) (pc' := 66) rfl (hb hby d1_56) rfl (XT.ii_eq_t h56) (by decide) (by decide) k) ?_
                    show own_Fin _ _ _ _ _ _ _ T1 (mkF m 66 #[.val (.int c1)] [])
                    refine own_step (fun _ k => XT.iconstV X1.here hx rfl (1 : Int32) (hb hby d1_66) (by decide) k) ?_
                    show own_Fin _ _ _ _ _ _ _ T1 (mkF m 67 #[.val (.int c1)] [(.int (1 : Int32))])
                    refine own_step (fun _ k => XS.goto X1.here hx rfl (pc0 := 67) (pc' := 71) rfl (hb hby d1_67) (by decide) (by decide) k) ?_
                    show own_Fin _ _ _ _ _ _ _ T1 (mkF m 71 #[.val (.int c1)] [(.int (1 : Int32))])
                    exact own_retZ X1 hx hrt hlk (hb hby d1_71) (Or.inr rfl) ⟨by simp [own_nc, own_in, k4, h10, h16, h22, h28, h35, h42, h49, h56], rfl, e1⟩ (Nat.le_refl _) (Nat.le_refl _)
                  · skip
                    refine own_step (fun _ k => XS.icmpNo X1.here hx rfl (hb hby d1_56) rfl (XT.ii_eq_f h56) k) ?_
                    show own_Fin _ _ _ _ _ _ _ T1 (mkF m 59 #[.val (.int c1)] [])
                    refine own_step (fun _ k => XS.iloadN X1.here hx rfl (hb hby d1_59) rfl k) ?_
                    show own_Fin _ _ _ _ _ _ _ T1 (mkF m 60 #[.val (.int c1)] [(.int c1)])
                    refine own_step (fun _ k => XT.sipushV X1.here hx rfl (8256 : Int32) (hb hby d1_60) (by decide) k) ?_
                    show own_Fin _ _ _ _ _ _ _ T1 (mkF m 63 #[.val (.int c1)] [(.int (8256 : Int32)), (.int c1)])
                    by_cases h63 : c1 = (8256 : Int32)
                    · skip
                      refine own_step (fun _ k => XS.icmpNo X1.here hx rfl (hb hby d1_63) rfl (XT.ii_ne_f h63) k) ?_
                      show own_Fin _ _ _ _ _ _ _ T1 (mkF m 66 #[.val (.int c1)] [])
                      refine own_step (fun _ k => XT.iconstV X1.here hx rfl (1 : Int32) (hb hby d1_66) (by decide) k) ?_
                      show own_Fin _ _ _ _ _ _ _ T1 (mkF m 67 #[.val (.int c1)] [(.int (1 : Int32))])
                      refine own_step (fun _ k => XS.goto X1.here hx rfl (pc0 := 67) (pc' := 71) rfl (hb hby d1_67) (by decide) (by decide) k) ?_
                      show own_Fin _ _ _ _ _ _ _ T1 (mkF m 71 #[.val (.int c1)] [(.int (1 : Int32))])
                      exact own_retZ X1 hx hrt hlk (hb hby d1_71) (Or.inr rfl) ⟨by simp [own_nc, own_in, k4, h10, h16, h22, h28, h35, h42, h49, h56, h63], rfl, e1⟩ (Nat.le_refl _) (Nat.le_refl _)
                    · skip
                      refine own_step (fun _ k => XS.icmpYes X1.here hx rfl (pc0 := 63) (pc' := 70) rfl (hb hby d1_63) rfl (XT.ii_ne_t h63) (by decide) (by decide) k) ?_
                      show own_Fin _ _ _ _ _ _ _ T1 (mkF m 70 #[.val (.int c1)] [])
                      refine own_step (fun _ k => XT.iconstV X1.here hx rfl (0 : Int32) (hb hby d1_70) (by decide) k) ?_
                      show own_Fin _ _ _ _ _ _ _ T1 (mkF m 71 #[.val (.int c1)] [(.int (0 : Int32))])
                      exact own_retZ X1 hx hrt hlk (hb hby d1_71) (Or.inl rfl) ⟨by simp [own_nc, own_in, k4, h10, h16, h22, h28, h35, h42, h49, h56, h63], rfl, e1⟩ (Nat.le_refl _) (Nat.le_refl _)
                · skip
                  refine own_step (fun _ k => XS.icmpYes X1.here hx rfl (pc0 := 49) (pc' := 66) rfl (hb hby d1_49) rfl (XT.ii_le_t h49) (by decide) (by decide) k) ?_
                  show own_Fin _ _ _ _ _ _ _ T1 (mkF m 66 #[.val (.int c1)] [])
                  refine own_step (fun _ k => XT.iconstV X1.here hx rfl (1 : Int32) (hb hby d1_66) (by decide) k) ?_
                  show own_Fin _ _ _ _ _ _ _ T1 (mkF m 67 #[.val (.int c1)] [(.int (1 : Int32))])
                  refine own_step (fun _ k => XS.goto X1.here hx rfl (pc0 := 67) (pc' := 71) rfl (hb hby d1_67) (by decide) (by decide) k) ?_
                  show own_Fin _ _ _ _ _ _ _ T1 (mkF m 71 #[.val (.int c1)] [(.int (1 : Int32))])
                  exact own_retZ X1 hx hrt hlk (hb hby d1_71) (Or.inr rfl) ⟨by simp [own_nc, own_in, k4, h10, h16, h22, h28, h35, h42, h49], rfl, e1⟩ (Nat.le_refl _) (Nat.le_refl _)
      · skip
        refine own_step (fun _ k => XS.icmpYes X1.here hx rfl (pc0 := 16) (pc' := 66) rfl (hb hby d1_16) rfl (XT.ii_le_t h16) (by decide) (by decide) k) ?_
        show own_Fin _ _ _ _ _ _ _ T1 (mkF m 66 #[.val (.int c1)] [])
        refine own_step (fun _ k => XT.iconstV X1.here hx rfl (1 : Int32) (hb hby d1_66) (by decide) k) ?_
        show own_Fin _ _ _ _ _ _ _ T1 (mkF m 67 #[.val (.int c1)] [(.int (1 : Int32))])
        refine own_step (fun _ k => XS.goto X1.here hx rfl (pc0 := 67) (pc' := 71) rfl (hb hby d1_67) (by decide) (by decide) k) ?_
        show own_Fin _ _ _ _ _ _ _ T1 (mkF m 71 #[.val (.int c1)] [(.int (1 : Int32))])
        exact own_retZ X1 hx hrt hlk (hb hby d1_71) (Or.inr rfl) ⟨by simp [own_nc, own_in, k4, h10, h16], rfl, e1⟩ (Nat.le_refl _) (Nat.le_refl _)
theorem ef_0 (m : MethodId) (x0 : Int32) : entryFrame m #[(.int x0)] maxLocals = mkF m 0 #[.val (.int x0), .unset, .unset, .unset, .unset] [] := by first | (simp [entryFrame, mkF, argsToLocals, Value.category, maxLocals]; done) | rfl
set_option maxRecDepth 65536 in
set_option maxHeartbeats 40000000 in
theorem rm0 (l : Launch) (Z : State) (a0 : Array Value) (hw : ∀ d ∈ tables_1, d.before a0 Z = true) (ws : List Jvm.Cond) (h0 : Heap) (p1 : Int32) (a1 : Addr) (cl1 : Cell) (S1 : Sta Z h0 "com/example/wiazka/wiazka/XmlNames" "NAME_START_RANGES" "[I" (.ref a1)) (A1 : Arr Z h0 a1 cl1 .int) (hx1 : cl1.slots.toList = own_NS.map Value.int) :
    own_Met l Z x code maxLocals ret ws room_1 #[(.int p1)] h0 (own_Q0 h0 (.int 1)) := by
  refine own_body (y := x) pn_com_example_wiazka_wiazka_XmlNamesIsNameCharPinLaw ?_
  intro p e s m below meth c s₁ hx hby hml hZ hown hnm hrt hlk X0 e0
  replace hown : s.vm.findClass "com/example/wiazka/wiazka/XmlNamesIsNameCharPinLaw" = some m.cls := hown
  replace hml : c.maxLocals = 5 := hml
  rw [ef_0]
  show own_Fin _ _ _ _ _ _ _ s₁ (mkF m 0 #[.val (.int p1), .unset, .unset, .unset, .unset] [])
  refine own_step (fun _ k => XS.iloadN X0.here hx rfl (hb hby at_0) rfl k) ?_
  show own_Fin _ _ _ _ _ _ _ s₁ (mkF m 1 #[.val (.int p1), .unset, .unset, .unset, .unset] [(.int p1)])
  refine own_step (fun _ k => XS.istoreN X0.here hx rfl (hb hby at_1) rfl (l' := #[.val (.int p1), .val (.int p1), .unset, .unset, .unset]) rfl k) ?_
  show own_Fin _ _ _ _ _ _ _ s₁ (mkF m 2 #[.val (.int p1), .val (.int p1), .unset, .unset, .unset] [])
  refine own_step (fun _ k => XS.iloadN X0.here hx rfl (hb hby at_2) rfl k) ?_
  show own_Fin _ _ _ _ _ _ _ s₁ (mkF m 3 #[.val (.int p1), .val (.int p1), .unset, .unset, .unset] [(.int p1)])
  refine own_step (fun _ k => XT.sipushV X0.here hx rfl (255 : Int32) (hb hby at_3) (by decide) k) ?_
  show own_Fin _ _ _ _ _ _ _ s₁ (mkF m 6 #[.val (.int p1), .val (.int p1), .unset, .unset, .unset] [(.int (255 : Int32)), (.int p1)])
  refine own_step (fun _ k => XS.iand X0.here hx rfl (hb hby at_6) rfl k) ?_
  show own_Fin _ _ _ _ _ _ _ s₁ (mkF m 7 #[.val (.int p1), .val (.int p1), .unset, .unset, .unset] [(.int (p1 &&& (255 : Int32)))])
  refine own_step (fun _ k => XS.istoreN X0.here hx rfl (hb hby at_7) rfl (l' := #[.val (.int p1), .val (.int p1), .val (.int (p1 &&& (255 : Int32))), .unset, .unset]) rfl k) ?_
  show own_Fin _ _ _ _ _ _ _ s₁ (mkF m 8 #[.val (.int p1), .val (.int p1), .val (.int (p1 &&& (255 : Int32))), .unset, .unset] [])
  refine own_step (fun _ k => XS.iloadN X0.here hx rfl (hb hby at_8) rfl k) ?_
  show own_Fin _ _ _ _ _ _ _ s₁ (mkF m 9 #[.val (.int p1), .val (.int p1), .val (.int (p1 &&& (255 : Int32))), .unset, .unset] [(.int p1)])
  refine own_step (fun _ k => Stand.ldcI X0 hx (v := (65535 : Int32)) hown (mvT hZ (hw _ (List.mem_of_getElem? (i := 0) rfl))) rfl (hb hby at_9) k) ?_
  show own_Fin _ _ _ _ _ _ _ s₁ (mkF m 11 #[.val (.int p1), .val (.int p1), .val (.int (p1 &&& (255 : Int32))), .unset, .unset] [(.int (65535 : Int32)), (.int p1)])
  refine own_step (fun _ k => XS.iand X0.here hx rfl (hb hby at_11) rfl k) ?_
  show own_Fin _ _ _ _ _ _ _ s₁ (mkF m 12 #[.val (.int p1), .val (.int p1), .val (.int (p1 &&& (255 : Int32))), .unset, .unset] [(.int (p1 &&& (65535 : Int32)))])
  refine own_step (fun _ k => XS.istoreN X0.here hx rfl (hb hby at_12) rfl (l' := #[.val (.int p1), .val (.int p1), .val (.int (p1 &&& (255 : Int32))), .val (.int (p1 &&& (65535 : Int32))), .unset]) rfl k) ?_
  show own_Fin _ _ _ _ _ _ _ s₁ (mkF m 13 #[.val (.int p1), .val (.int p1), .val (.int (p1 &&& (255 : Int32))), .val (.int (p1 &&& (65535 : Int32))), .unset] [])
  refine own_step (fun _ k => XS.iloadN X0.here hx rfl (hb hby at_13) rfl k) ?_
  show own_Fin _ _ _ _ _ _ _ s₁ (mkF m 14 #[.val (.int p1), .val (.int p1), .val (.int (p1 &&& (255 : Int32))), .val (.int (p1 &&& (65535 : Int32))), .unset] [(.int p1)])
  refine own_step (fun _ k => Stand.ldcI X0 hx (v := (1048575 : Int32)) hown (mvT hZ (hw _ (List.mem_of_getElem? (i := 1) rfl))) rfl (hb hby at_14) k) ?_
  show own_Fin _ _ _ _ _ _ _ s₁ (mkF m 16 #[.val (.int p1), .val (.int p1), .val (.int (p1 &&& (255 : Int32))), .val (.int (p1 &&& (65535 : Int32))), .unset] [(.int (1048575 : Int32)), (.int p1)])
  refine own_step (fun _ k => XS.iand X0.here hx rfl (hb hby at_16) rfl k) ?_
  show own_Fin _ _ _ _ _ _ _ s₁ (mkF m 17 #[.val (.int p1), .val (.int p1), .val (.int (p1 &&& (255 : Int32))), .val (.int (p1 &&& (65535 : Int32))), .unset] [(.int (p1 &&& (1048575 : Int32)))])
  refine own_step (fun _ k => XS.istore X0.here hx rfl (hb hby at_17) rfl (l' := #[.val (.int p1), .val (.int p1), .val (.int (p1 &&& (255 : Int32))), .val (.int (p1 &&& (65535 : Int32))), .val (.int (p1 &&& (1048575 : Int32)))]) rfl k) ?_
  show own_Fin _ _ _ _ _ _ _ s₁ (mkF m 19 #[.val (.int p1), .val (.int p1), .val (.int (p1 &&& (255 : Int32))), .val (.int (p1 &&& (65535 : Int32))), .val (.int (p1 &&& (1048575 : Int32)))] [])
  refine own_step (fun _ k => XS.iloadN X0.here hx rfl (hb hby at_19) rfl k) ?_
  show own_Fin _ _ _ _ _ _ _ s₁ (mkF m 20 #[.val (.int p1), .val (.int p1), .val (.int (p1 &&& (255 : Int32))), .val (.int (p1 &&& (65535 : Int32))), .val (.int (p1 &&& (1048575 : Int32)))] [(.int p1)])
  have M := rm1 l Z a0 hw h0 p1 a1 cl1 S1 A1 hx1
  rw [own_law] at M
  refine own_callS0 X0 hx hZ (argsL := [(.int p1)]) (rest := []) hown (hw _ (List.mem_of_getElem? (i := 2) rfl)) (hw _ (List.mem_of_getElem? (i := 3) rfl)) (hw _ (List.mem_of_getElem? (i := 4) rfl)) (hw _ (List.mem_of_getElem? (i := 5) rfl)) (by decide) M e0 0 (Nat.le_of_eq rfl) (by decide) (by decide) (Nat.le_refl _) (Nat.le_refl _) (by rw [hml]; rfl) pd__I_Z rfl rfl (hb hby at_20) ?_
  intro T1 X1 e1
  show own_Fin _ _ _ _ _ _ _ T1 (mkF m 23 #[.val (.int p1), .val (.int p1), .val (.int (p1 &&& (255 : Int32))), .val (.int (p1 &&& (65535 : Int32))), .val (.int (p1 &&& (1048575 : Int32)))] [(.int (if own_ref p1 = true then (1 : Int32) else 0))])
  refine own_step (fun _ k => XS.iloadN X1.here hx rfl (hb hby at_23) rfl k) ?_
  show own_Fin _ _ _ _ _ _ _ T1 (mkF m 24 #[.val (.int p1), .val (.int p1), .val (.int (p1 &&& (255 : Int32))), .val (.int (p1 &&& (65535 : Int32))), .val (.int (p1 &&& (1048575 : Int32)))] [(.int p1), (.int (if own_ref p1 = true then (1 : Int32) else 0))])
  refine own_callS0 X1 hx hZ (argsL := [(.int p1)]) (rest := [(.int (if own_ref p1 = true then (1 : Int32) else 0))]) hown (hw _ (List.mem_of_getElem? (i := 9) rfl)) (hw _ (List.mem_of_getElem? (i := 10) rfl)) (hw _ (List.mem_of_getElem? (i := 11) rfl)) (hw _ (List.mem_of_getElem? (i := 12) rfl)) (by decide) (rm3 l Z a0 hw h0 p1) e1 1 (Nat.le_of_eq rfl) (by decide) (by decide) (Nat.le_refl _) (Nat.le_refl _) (by rw [hml]; rfl) pd__I_Z rfl rfl (hb hby at_24) ?_
  intro T2 X2 e2
  show own_Fin _ _ _ _ _ _ _ T2 (mkF m 27 #[.val (.int p1), .val (.int p1), .val (.int (p1 &&& (255 : Int32))), .val (.int (p1 &&& (65535 : Int32))), .val (.int (p1 &&& (1048575 : Int32)))] [(.int (if own_ref p1 = true then (1 : Int32) else 0)), (.int (if own_ref p1 = true then (1 : Int32) else 0))])
  refine own_step (fun _ k => XS.icmpNo X2.here hx rfl (hb hby at_27) rfl (XT.ii_ne_f rfl) k) ?_
  show own_Fin _ _ _ _ _ _ _ T2 (mkF m 30 #[.val (.int p1), .val (.int p1), .val (.int (p1 &&& (255 : Int32))), .val (.int (p1 &&& (65535 : Int32))), .val (.int (p1 &&& (1048575 : Int32)))] [])
  refine own_step (fun _ k => XS.iloadN X2.here hx rfl (hb hby at_30) rfl k) ?_
  show own_Fin _ _ _ _ _ _ _ T2 (mkF m 31 #[.val (.int p1), .val (.int p1), .val (.int (p1 &&& (255 : Int32))), .val (.int (p1 &&& (65535 : Int32))), .val (.int (p1 &&& (1048575 : Int32)))] [(.int (p1 &&& (255 : Int32)))])
  have M := rm1 l Z a0 hw h0 (p1 &&& (255 : Int32)) a1 cl1 S1 A1 hx1
  rw [own_law] at M
  refine own_callS0 X2 hx hZ (argsL := [(.int (p1 &&& (255 : Int32)))]) (rest := []) hown (hw _ (List.mem_of_getElem? (i := 2) rfl)) (hw _ (List.mem_of_getElem? (i := 3) rfl)) (hw _ (List.mem_of_getElem? (i := 4) rfl)) (hw _ (List.mem_of_getElem? (i := 5) rfl)) (by decide) M e2 0 (Nat.le_of_eq rfl) (by decide) (by decide) (Nat.le_refl _) (Nat.le_refl _) (by rw [hml]; rfl) pd__I_Z rfl rfl (hb hby at_31) ?_
  intro T3 X3 e3
  show own_Fin _ _ _ _ _ _ _ T3 (mkF m 34 #[.val (.int p1), .val (.int p1), .val (.int (p1 &&& (255 : Int32))), .val (.int (p1 &&& (65535 : Int32))), .val (.int (p1 &&& (1048575 : Int32)))] [(.int (if own_ref (p1 &&& (255 : Int32)) = true then (1 : Int32) else 0))])
  refine own_step (fun _ k => XS.iloadN X3.here hx rfl (hb hby at_34) rfl k) ?_
  show own_Fin _ _ _ _ _ _ _ T3 (mkF m 35 #[.val (.int p1), .val (.int p1), .val (.int (p1 &&& (255 : Int32))), .val (.int (p1 &&& (65535 : Int32))), .val (.int (p1 &&& (1048575 : Int32)))] [(.int (p1 &&& (255 : Int32))), (.int (if own_ref (p1 &&& (255 : Int32)) = true then (1 : Int32) else 0))])
  refine own_callS0 X3 hx hZ (argsL := [(.int (p1 &&& (255 : Int32)))]) (rest := [(.int (if own_ref (p1 &&& (255 : Int32)) = true then (1 : Int32) else 0))]) hown (hw _ (List.mem_of_getElem? (i := 9) rfl)) (hw _ (List.mem_of_getElem? (i := 10) rfl)) (hw _ (List.mem_of_getElem? (i := 11) rfl)) (hw _ (List.mem_of_getElem? (i := 12) rfl)) (by decide) (rm3 l Z a0 hw h0 (p1 &&& (255 : Int32))) e3 1 (Nat.le_of_eq rfl) (by decide) (by decide) (Nat.le_refl _) (Nat.le_refl _) (by rw [hml]; rfl) pd__I_Z rfl rfl (hb hby at_35) ?_
  intro T4 X4 e4
  show own_Fin _ _ _ _ _ _ _ T4 (mkF m 38 #[.val (.int p1), .val (.int p1), .val (.int (p1 &&& (255 : Int32))), .val (.int (p1 &&& (65535 : Int32))), .val (.int (p1 &&& (1048575 : Int32)))] [(.int (if own_ref (p1 &&& (255 : Int32)) = true then (1 : Int32) else 0)), (.int (if own_ref (p1 &&& (255 : Int32)) = true then (1 : Int32) else 0))])
  refine own_step (fun _ k => XS.icmpNo X4.here hx rfl (hb hby at_38) rfl (XT.ii_ne_f rfl) k) ?_
  show own_Fin _ _ _ _ _ _ _ T4 (mkF m 41 #[.val (.int p1), .val (.int p1), .val (.int (p1 &&& (255 : Int32))), .val (.int (p1 &&& (65535 : Int32))), .val (.int (p1 &&& (1048575 : Int32)))] [])
  refine own_step (fun _ k => XS.iloadN X4.here hx rfl (hb hby at_41) rfl k) ?_
  show own_Fin _ _ _ _ _ _ _ T4 (mkF m 42 #[.val (.int p1), .val (.int p1), .val (.int (p1 &&& (255 : Int32))), .val (.int (p1 &&& (65535 : Int32))), .val (.int (p1 &&& (1048575 : Int32)))] [(.int (p1 &&& (65535 : Int32)))])
  have M := rm1 l Z a0 hw h0 (p1 &&& (65535 : Int32)) a1 cl1 S1 A1 hx1
  rw [own_law] at M
  refine own_callS0 X4 hx hZ (argsL := [(.int (p1 &&& (65535 : Int32)))]) (rest := []) hown (hw _ (List.mem_of_getElem? (i := 2) rfl)) (hw _ (List.mem_of_getElem? (i := 3) rfl)) (hw _ (List.mem_of_getElem? (i := 4) rfl)) (hw _ (List.mem_of_getElem? (i := 5) rfl)) (by decide) M e4 0 (Nat.le_of_eq rfl) (by decide) (by decide) (Nat.le_refl _) (Nat.le_refl _) (by rw [hml]; rfl) pd__I_Z rfl rfl (hb hby at_42) ?_
  intro T5 X5 e5
  show own_Fin _ _ _ _ _ _ _ T5 (mkF m 45 #[.val (.int p1), .val (.int p1), .val (.int (p1 &&& (255 : Int32))), .val (.int (p1 &&& (65535 : Int32))), .val (.int (p1 &&& (1048575 : Int32)))] [(.int (if own_ref (p1 &&& (65535 : Int32)) = true then (1 : Int32) else 0))])
  refine own_step (fun _ k => XS.iloadN X5.here hx rfl (hb hby at_45) rfl k) ?_
  show own_Fin _ _ _ _ _ _ _ T5 (mkF m 46 #[.val (.int p1), .val (.int p1), .val (.int (p1 &&& (255 : Int32))), .val (.int (p1 &&& (65535 : Int32))), .val (.int (p1 &&& (1048575 : Int32)))] [(.int (p1 &&& (65535 : Int32))), (.int (if own_ref (p1 &&& (65535 : Int32)) = true then (1 : Int32) else 0))])
  refine own_callS0 X5 hx hZ (argsL := [(.int (p1 &&& (65535 : Int32)))]) (rest := [(.int (if own_ref (p1 &&& (65535 : Int32)) = true then (1 : Int32) else 0))]) hown (hw _ (List.mem_of_getElem? (i := 9) rfl)) (hw _ (List.mem_of_getElem? (i := 10) rfl)) (hw _ (List.mem_of_getElem? (i := 11) rfl)) (hw _ (List.mem_of_getElem? (i := 12) rfl)) (by decide) (rm3 l Z a0 hw h0 (p1 &&& (65535 : Int32))) e5 1 (Nat.le_of_eq rfl) (by decide) (by decide) (Nat.le_refl _) (Nat.le_refl _) (by rw [hml]; rfl) pd__I_Z rfl rfl (hb hby at_46) ?_
  intro T6 X6 e6
  show own_Fin _ _ _ _ _ _ _ T6 (mkF m 49 #[.val (.int p1), .val (.int p1), .val (.int (p1 &&& (255 : Int32))), .val (.int (p1 &&& (65535 : Int32))), .val (.int (p1 &&& (1048575 : Int32)))] [(.int (if own_ref (p1 &&& (65535 : Int32)) = true then (1 : Int32) else 0)), (.int (if own_ref (p1 &&& (65535 : Int32)) = true then (1 : Int32) else 0))])
  refine own_step (fun _ k => XS.icmpNo X6.here hx rfl (hb hby at_49) rfl (XT.ii_ne_f rfl) k) ?_
  show own_Fin _ _ _ _ _ _ _ T6 (mkF m 52 #[.val (.int p1), .val (.int p1), .val (.int (p1 &&& (255 : Int32))), .val (.int (p1 &&& (65535 : Int32))), .val (.int (p1 &&& (1048575 : Int32)))] [])
  refine own_step (fun _ k => XS.iload X6.here hx rfl (hb hby at_52) rfl k) ?_
  show own_Fin _ _ _ _ _ _ _ T6 (mkF m 54 #[.val (.int p1), .val (.int p1), .val (.int (p1 &&& (255 : Int32))), .val (.int (p1 &&& (65535 : Int32))), .val (.int (p1 &&& (1048575 : Int32)))] [(.int (p1 &&& (1048575 : Int32)))])
  have M := rm1 l Z a0 hw h0 (p1 &&& (1048575 : Int32)) a1 cl1 S1 A1 hx1
  rw [own_law] at M
  refine own_callS0 X6 hx hZ (argsL := [(.int (p1 &&& (1048575 : Int32)))]) (rest := []) hown (hw _ (List.mem_of_getElem? (i := 2) rfl)) (hw _ (List.mem_of_getElem? (i := 3) rfl)) (hw _ (List.mem_of_getElem? (i := 4) rfl)) (hw _ (List.mem_of_getElem? (i := 5) rfl)) (by decide) M e6 0 (Nat.le_of_eq rfl) (by decide) (by decide) (Nat.le_refl _) (Nat.le_refl _) (by rw [hml]; rfl) pd__I_Z rfl rfl (hb hby at_54) ?_
  intro T7 X7 e7
  show own_Fin _ _ _ _ _ _ _ T7 (mkF m 57 #[.val (.int p1), .val (.int p1), .val (.int (p1 &&& (255 : Int32))), .val (.int (p1 &&& (65535 : Int32))), .val (.int (p1 &&& (1048575 : Int32)))] [(.int (if own_ref (p1 &&& (1048575 : Int32)) = true then (1 : Int32) else 0))])
  refine own_step (fun _ k => XS.iload X7.here hx rfl (hb hby at_57) rfl k) ?_
  show own_Fin _ _ _ _ _ _ _ T7 (mkF m 59 #[.val (.int p1), .val (.int p1), .val (.int (p1 &&& (255 : Int32))), .val (.int (p1 &&& (65535 : Int32))), .val (.int (p1 &&& (1048575 : Int32)))] [(.int (p1 &&& (1048575 : Int32))), (.int (if own_ref (p1 &&& (1048575 : Int32)) = true then (1 : Int32) else 0))])
  refine own_callS0 X7 hx hZ (argsL := [(.int (p1 &&& (1048575 : Int32)))]) (rest := [(.int (if own_ref (p1 &&& (1048575 : Int32)) = true then (1 : Int32) else 0))]) hown (hw _ (List.mem_of_getElem? (i := 9) rfl)) (hw _ (List.mem_of_getElem? (i := 10) rfl)) (hw _ (List.mem_of_getElem? (i := 11) rfl)) (hw _ (List.mem_of_getElem? (i := 12) rfl)) (by decide) (rm3 l Z a0 hw h0 (p1 &&& (1048575 : Int32))) e7 1 (Nat.le_of_eq rfl) (by decide) (by decide) (Nat.le_refl _) (Nat.le_refl _) (by rw [hml]; rfl) pd__I_Z rfl rfl (hb hby at_59) ?_
  intro T8 X8 e8
  show own_Fin _ _ _ _ _ _ _ T8 (mkF m 62 #[.val (.int p1), .val (.int p1), .val (.int (p1 &&& (255 : Int32))), .val (.int (p1 &&& (65535 : Int32))), .val (.int (p1 &&& (1048575 : Int32)))] [(.int (if own_ref (p1 &&& (1048575 : Int32)) = true then (1 : Int32) else 0)), (.int (if own_ref (p1 &&& (1048575 : Int32)) = true then (1 : Int32) else 0))])
  refine own_step (fun _ k => XS.icmpNo X8.here hx rfl (hb hby at_62) rfl (XT.ii_ne_f rfl) k) ?_
  show own_Fin _ _ _ _ _ _ _ T8 (mkF m 65 #[.val (.int p1), .val (.int p1), .val (.int (p1 &&& (255 : Int32))), .val (.int (p1 &&& (65535 : Int32))), .val (.int (p1 &&& (1048575 : Int32)))] [])
  refine own_step (fun _ k => XT.iconstV X8.here hx rfl (1 : Int32) (hb hby at_65) (by decide) k) ?_
  show own_Fin _ _ _ _ _ _ _ T8 (mkF m 66 #[.val (.int p1), .val (.int p1), .val (.int (p1 &&& (255 : Int32))), .val (.int (p1 &&& (65535 : Int32))), .val (.int (p1 &&& (1048575 : Int32)))] [(.int (1 : Int32))])
  refine own_step (fun _ k => XS.goto X8.here hx rfl (pc0 := 66) (pc' := 70) rfl (hb hby at_66) (by decide) (by decide) k) ?_
  show own_Fin _ _ _ _ _ _ _ T8 (mkF m 70 #[.val (.int p1), .val (.int p1), .val (.int (p1 &&& (255 : Int32))), .val (.int (p1 &&& (65535 : Int32))), .val (.int (p1 &&& (1048575 : Int32)))] [(.int (1 : Int32))])
  exact own_retZ X8 hx hrt hlk (hb hby at_70) (Or.inr rfl) ⟨rfl, rfl, e8⟩ (Nat.le_refl _) (Nat.le_refl _)
set_option maxRecDepth 65536 in
set_option maxHeartbeats 40000000 in
theorem comes_1 {Post : Tables → Env → Array Value → State → Outcome → State → Prop} (hpost : ∀ tb e args s v u, (limb_1_1.after args s (.returned v) u = true ∧ limb_1_2.after args s (.returned v) u = true ∧ True) → FrameEnd s (.returned v) u (Jvm.fieldLocs frame_1_writes args s ++ Jvm.arrayLocs frame_1_arrays args s ++ Jvm.staticLocs frame_1_statics s) 0 0 → Post tb e args s (.returned v) u) :
    ArmFor flags0 classFile x code maxLocals ret World_1 tables_1 room_1 Calls_1 rest_1 Pre_1 Post := by
  intro l hfl _ _ p e ha hc hk s m args below hf hA hF happ hP
  obtain ⟨hcalls, hrest, hpre⟩ := hP
  obtain ⟨-, -, -, hnamed, -, -, -, hat⟩ := (Spec.applies_iff hf).mp happ
  obtain ⟨hg, hn⟩ := and_e (Cond.before_iff.mp (show (Jvm.Cond.and given_1 narrow_1).before args s = true from hpre))
  obtain ⟨hg0, hg1⟩ := and_e hg
  obtain ⟨w0, rfl⟩ : ∃ w0 : Value, args = #[w0] := by
    have hs : args.size = 1 := by simpa [Cond.value, given_1] using hg0
    obtain ⟨L⟩ := args
    match L, hs with
    | [w0], _ => exact ⟨w0, rfl⟩
  have hw := fun d (hd : d ∈ tables_1) => atoms_spec (ws := Jvm.Cond.code x code maxLocals ret :: tables_1) hat d (List.mem_cons_of_mem _ hd)
  have hfit : Fit s := fun {y c} hc i hi => by
    obtain ⟨ha, rfl⟩ := Array.getElem?_eq_some_iff.mp hc
    have q := List.all_eq_true.mp ((Array.all_eq_true_iff_forall_mem.mp hF) _ (Array.getElem_mem ha)) i (List.mem_range.mpr hi)
    simpa [Array.getElem?_eq_getElem hi] using q
  obtain ⟨i0, ei0⟩ := is_v hg1
  obtain rfl : w0 = (.int i0) := Option.some.inj ei0
  obtain ⟨c0, hn1⟩ := and_e hn
  obtain ⟨c1, hn2⟩ := and_e hn1
  obtain ⟨c2, hn3⟩ := and_e hn2
  obtain ⟨c3, hn4⟩ := and_e hn3
  obtain ⟨c4, hn5⟩ := and_e hn4
  obtain ⟨c5, hn6⟩ := and_e hn5
  obtain ⟨c6, hn7⟩ := and_e hn6
  obtain ⟨c7, hn8⟩ := and_e hn7
  obtain ⟨c8, hn9⟩ := and_e hn8
  obtain ⟨c9, hn10⟩ := and_e hn9
  obtain ⟨c10, hn11⟩ := and_e hn10
  obtain ⟨c11, hn12⟩ := and_e hn11
  obtain ⟨c12, hn13⟩ := and_e hn12
  obtain ⟨c13, hn14⟩ := and_e hn13
  obtain ⟨c14, hn15⟩ := and_e hn14
  obtain ⟨c15, hn16⟩ := and_e hn15
  obtain ⟨c16, hn17⟩ := and_e hn16
  obtain ⟨c17, hn18⟩ := and_e hn17
  obtain ⟨c18, hn19⟩ := and_e hn18
  obtain ⟨c19, hn20⟩ := and_e hn19
  obtain ⟨c20, hn21⟩ := and_e hn20
  obtain ⟨c21, hn22⟩ := and_e hn21
  obtain ⟨c22, hn23⟩ := and_e hn22
  obtain ⟨c23, hn24⟩ := and_e hn23
  obtain ⟨c24, hn25⟩ := and_e hn24
  have c25 := hn25
  obtain ⟨a1, v1⟩ := arr_v c0
  have S1 := Sta.start v1 (Or.inr ⟨(hw _ (List.mem_of_getElem? (i := 4) rfl)), (hw _ (List.mem_of_getElem? (i := 17) rfl))⟩)
  obtain ⟨cl1, A1⟩ := Arr.start v1 c0
  have hx1 : cl1.slots.toList = own_NS.map Value.int := own_list (own_len (by decide) v1 A1 (own_eqi c1)) (And.intro (own_elem (by decide) v1 A1 (own_eqi c2)) (And.intro (own_elem (by decide) v1 A1 (own_eqi c3)) (And.intro (own_elem (by decide) v1 A1 (own_eqi c4)) (And.intro (own_elem (by decide) v1 A1 (own_eqi c5)) (And.intro (own_elem (by decide) v1 A1 (own_eqi c6)) (And.intro (own_elem (by decide) v1 A1 (own_eqi c7)) (And.intro (own_elem (by decide) v1 A1 (own_eqi c8)) (And.intro (own_elem (by decide) v1 A1 (own_eqi c9)) (And.intro (own_elem (by decide) v1 A1 (own_eqi c10)) (And.intro (own_elem (by decide) v1 A1 (own_eqi c11)) (And.intro (own_elem (by decide) v1 A1 (own_eqi c12)) (And.intro (own_elem (by decide) v1 A1 (own_eqi c13)) (And.intro (own_elem (by decide) v1 A1 (own_eqi c14)) (And.intro (own_elem (by decide) v1 A1 (own_eqi c15)) (And.intro (own_elem (by decide) v1 A1 (own_eqi c16)) (And.intro (own_elem (by decide) v1 A1 (own_eqi c17)) (And.intro (own_elem (by decide) v1 A1 (own_eqi c18)) (And.intro (own_elem (by decide) v1 A1 (own_eqi c19)) (And.intro (own_elem (by decide) v1 A1 (own_eqi c20)) (And.intro (own_elem (by decide) v1 A1 (own_eqi c21)) (And.intro (own_elem (by decide) v1 A1 (own_eqi c22)) (And.intro (own_elem (by decide) v1 A1 (own_eqi c23)) (And.intro (own_elem (by decide) v1 A1 (own_eqi c24)) (And.intro (own_elem (by decide) v1 A1 (own_eqi c25)) trivial))))))))))))))))))))))))
  obtain ⟨n, o, r1, r2, r3, _, L, rfl, ⟨rfl, rfl, hq0⟩, hq⟩ := rm0 l s _ hw tables_1 s.heap i0 a1 cl1 S1 A1 hx1 p e ha hc hk s m _ below hf ((Spec.applies_iff_loose hf).mp happ).1 ⟨rfl, State.Warmed39.refl s, rfl⟩ trivial
  refine ⟨n, _, r1, r2, r3, hpost _ _ _ _ _ _ ⟨Cond.after_iff.mpr rfl, Cond.after_iff.mpr (eq_i res_at (Term.int_eval (1)) rfl), trivial⟩ ⟨hq.1, hq.2.1, (hq.2.2.sift fun y hy => nomatch hy).mono (by decide) (by decide)⟩⟩
theorem main_1_1 : Claimed_1_1 := comes_1 fun _ _ _ _ _ _ h hF => ⟨h.1, hF⟩
theorem main_1_2 : Claimed_1_2 := comes_1 fun _ _ _ _ _ _ h hF => ⟨h.2.1, hF⟩
end Jvm.Pilot.@@N@@
namespace Jvm.Pilot.@@N@@
open Jvm Jvm.ClassFile Sem Op Lib Jvm.Free Jvm.Stand Jvm.Pilot.@@N@@.Jvm.D
/-! MADE BY PROGRAM (witnessworld.py) out of the Statement's table words and the real class files: 9 classes; the members and pool entries that the words name. The judged class is class 1, her method 1. -/
namespace start1
open Jvm.ClassFile
def u (s : String) : CpInfo := .utf8 (stringToUtf16 s)
/-- a pool by its gaps: so many unusable entries, then the entry; so many at the end -/
def gap : Nat → List CpInfo → List CpInfo
  | 0, r => r
  | n + 1, r => .unusable :: gap n r
def poolList (es : List (Nat × CpInfo)) (last : Nat) : List CpInfo := es.foldr (fun e r => gap e.1 (e.2 :: r)) (gap last [])
def pool (es : List (Nat × CpInfo)) (last : Nat) : Array CpInfo := ⟨poolList es last⟩
def fileOf (pool : Array CpInfo) (this : Nat) (attrs : Array Attribute := #[]) (ms : Array MethodInfo := #[]) (fl : Nat := 33) (sup : Nat := 0) (ifs : Array Nat := #[]) (fds : Array FieldInfo := #[]) : ClassFile where
  minorVersion := 0
  majorVersion := 65
  constantPool := pool
  accessFlags := fl
  thisClass := this
  superClass := sup
  interfaces := ifs
  fields := fds
  methods := ms
  attributes := attrs
def plain (name : String) (sup : Option ClassId) : Class where
  name := name
  kind := .ordinary
  loader := none
  accessFlags := 33
  super := sup
  interfaces := #[]
  cf := none
  fields := #[]
  methods := #[]
  instanceTypes := #[]
  staticTypes := #[]
  resolved := #[]
  callSites := []
  init := .initialized
  statics := none
  mirror := none

def pool0 : Array CpInfo := pool [(5, u "<init>"), (0, u "()V"), (1, .class_ 10), (1, u "java/lang/Object")] 113

def k0m0 : Method := { name := "<init>", desc := "()V", sig := { parameters := [], returnType := none }, accessFlags := 1, code := none }
/-- java/lang/Object -/
def k0 : Class := { plain "java/lang/Object" none with
  accessFlags := 33
  interfaces := #[]
  cf := some (fileOf pool0 8 #[] #[{ accessFlags := 1, nameIndex := 5, descriptorIndex := 6, attributes := #[] }] 33 0 #[] #[])
  fields := #[]
  methods := #[k0m0]
  instanceTypes := #[]
  staticTypes := #[]
  resolved := Array.replicate 124 none
  statics := none }

def pool1 : Array CpInfo := pool [(2, .class_ 4), (1, u "java/lang/Object"), (0, u "<init>"), (0, u "()V"), (0, .integer 65535), (0, .integer 1048575), (0, .methodref 10 11), (0, .class_ 12), (0, .nameAndType 13 14), (0, u "com/example/wiazka/wiazka/XmlNames"), (0, u "isNameChar"), (0, u "(I)Z"), (0, .methodref 16 17), (0, .class_ 18), (0, .nameAndType 19 14), (0, u "com/example/wiazka/wiazka/XmlNamesIsNameCharPinLaw"), (0, u "ref"), (0, .methodref 16 21), (0, .nameAndType 22 23), (0, u "in"), (0, u "(III)Z"), (0, .integer 55295), (0, .integer 63744), (0, .integer 64975), (0, .integer 65008), (0, .integer 65533), (0, .integer 65536), (0, .integer 983039), (2, u "law")] 3

def k1m0 : Method := { name := "<init>", desc := "()V", sig := { parameters := [], returnType := none }, accessFlags := 2, code := none }
def k1c1 : Code := { maxStack := 2, maxLocals := 5, code := code, exceptionTable := #[], attributes := #[] }
def k1m1 : Method := { name := "law", desc := "(I)Z", sig := { parameters := [.int], returnType := some .boolean }, accessFlags := 9, code := some k1c1 }
def k1c2 : Code := { maxStack := 2, maxLocals := 3, code := method_3_code, exceptionTable := #[], attributes := #[] }
def k1m2 : Method := { name := "in", desc := "(III)Z", sig := { parameters := [.int, .int, .int], returnType := some .boolean }, accessFlags := 10, code := some k1c2 }
def k1c3 : Code := { maxStack := 3, maxLocals := 1, code := method_4_code, exceptionTable := #[], attributes := #[] }
def k1m3 : Method := { name := "ref", desc := "(I)Z", sig := { parameters := [.int], returnType := some .boolean }, accessFlags := 10, code := some k1c3 }
/-- com/example/wiazka/wiazka/XmlNamesIsNameCharPinLaw -/
def k1 : Class := { plain "com/example/wiazka/wiazka/XmlNamesIsNameCharPinLaw" (some 0) with
  accessFlags := 49
  interfaces := #[]
  cf := some (fileOf pool1 16 #[] #[{ accessFlags := 2, nameIndex := 5, descriptorIndex := 6, attributes := #[] }, { accessFlags := 9, nameIndex := 33, descriptorIndex := 14, attributes := #[] }, { accessFlags := 10, nameIndex := 22, descriptorIndex := 23, attributes := #[] }, { accessFlags := 10, nameIndex := 19, descriptorIndex := 14, attributes := #[] }] 49 2 #[] #[])
  fields := #[]
  methods := #[k1m0, k1m1, k1m2, k1m3]
  instanceTypes := #[]
  staticTypes := #[]
  resolved := Array.replicate 37 none
  statics := none }

def pool2 : Array CpInfo := pool [(2, .class_ 4), (1, u "java/lang/Object"), (0, u "<init>"), (0, u "()V"), (10, .methodref 18 19), (0, .class_ 20), (0, .nameAndType 21 22), (0, u "com/example/wiazka/wiazka/XmlNames"), (0, u "isNameStartChar"), (0, u "(I)Z"), (16, u "isNameChar"), (15, .fieldref 18 56), (0, .nameAndType 57 58), (0, u "NAME_START_RANGES"), (0, u "[I")] 14

def k2m0 : Method := { name := "<init>", desc := "()V", sig := { parameters := [], returnType := none }, accessFlags := 2, code := none }
def k2c1 : Code := { maxStack := 4, maxLocals := 2, code := prog_38_method_6_code, exceptionTable := #[], attributes := #[] }
def k2m1 : Method := { name := "isNameStartChar", desc := "(I)Z", sig := { parameters := [.int], returnType := some .boolean }, accessFlags := 8, code := some k2c1 }
def k2c2 : Code := { maxStack := 2, maxLocals := 1, code := prog_38_method_7_code, exceptionTable := #[], attributes := #[] }
def k2m2 : Method := { name := "isNameChar", desc := "(I)Z", sig := { parameters := [.int], returnType := some .boolean }, accessFlags := 8, code := some k2c2 }
/-- com/example/wiazka/wiazka/XmlNames -/
def k2 : Class := { plain "com/example/wiazka/wiazka/XmlNames" (some 0) with
  accessFlags := 32
  interfaces := #[]
  cf := some (fileOf pool2 18 #[] #[{ accessFlags := 2, nameIndex := 5, descriptorIndex := 6, attributes := #[] }, { accessFlags := 8, nameIndex := 21, descriptorIndex := 22, attributes := #[] }, { accessFlags := 8, nameIndex := 39, descriptorIndex := 22, attributes := #[] }] 32 2 #[] #[{ accessFlags := 26, nameIndex := 57, descriptorIndex := 58, attributes := #[] }])
  fields := #[{ name := "NAME_START_RANGES", type := (.array .int), accessFlags := 26, slot := 0, constantValue := 0 }]
  methods := #[k2m0, k2m1, k2m2]
  instanceTypes := #[]
  staticTypes := #[(.array .int)]
  resolved := Array.replicate 73 none
  statics := some 0 }

def pool3 : Array CpInfo := pool [(1, u "java/lang/Cloneable"), (0, .class_ 1), (0, u "java/lang/Object"), (0, .class_ 3)] 3

/-- java/lang/Cloneable -/
def k3 : Class := { plain "java/lang/Cloneable" (some 0) with
  accessFlags := 1537
  interfaces := #[]
  cf := some (fileOf pool3 2 #[] #[] 1537 4 #[] #[])
  fields := #[]
  methods := #[]
  instanceTypes := #[]
  staticTypes := #[]
  resolved := Array.replicate 8 none
  statics := none }

def pool4 : Array CpInfo := pool [(1, u "java/io/Serializable"), (0, .class_ 1), (0, u "java/lang/Object"), (0, .class_ 3)] 3

/-- java/io/Serializable -/
def k4 : Class := { plain "java/io/Serializable" (some 0) with
  accessFlags := 1537
  interfaces := #[]
  cf := some (fileOf pool4 2 #[] #[] 1537 4 #[] #[])
  fields := #[]
  methods := #[]
  instanceTypes := #[]
  staticTypes := #[]
  resolved := Array.replicate 8 none
  statics := none }

/-- the primitive byte -/
def k5 : Class := { plain "byte" none with kind := .primitive 'B', accessFlags := 0x411 }
/-- [B -/
def k6 : Class := { plain "[B" (some 0) with kind := .array 5 .byte, interfaces := #[3, 4], accessFlags := 1041 }

/-- the primitive int -/
def k7 : Class := { plain "int" none with kind := .primitive 'I', accessFlags := 0x411 }
/-- [I -/
def k8 : Class := { plain "[I" (some 0) with kind := .array 7 .int, interfaces := #[3, 4], accessFlags := 1041 }

def heap : Heap := #[{ cls := 2, slots := #[.ref 1], vm := .statics 2 },
  { cls := 8, slots := #[.int 192, .int 214, .int 216, .int 246, .int 248, .int 767, .int 880, .int 893, .int 895, .int 8191, .int 8204, .int 8205, .int 8304, .int 8591, .int 11264, .int 12271, .int 12289, .int 55295, .int 63744, .int 64975, .int 65008, .int 65533, .int 65536, .int 983039], vm := .none }]
def classes : Array Class := #[k0, k1, k2, k3, k4, k5, k6, k7, k8]
def interned : List (Array UInt16 × Addr) := []
def slotsUsed : Nat := 25
def theMethod : MethodId := ⟨1, 1⟩
def args0 : Array Value := #[.int 5]
def aboutOver (below : List Frame) : State where
  vm := { classes := classes, interned := interned.toArray }
  heap := heap
  slotsUsed := slotsUsed
  threads := #[{ frames := .invoking theMethod args0 :: below }]
def below0 : List Frame := [.native { method := ⟨0, 0⟩, args := #[] }]
def about1 : State := aboutOver below0
def p0 : Program := .bare "" "" ""
def e0 : Env := launch0.env 0 0 0
theorem w_frames : about1.frames = Frame.invoking theMethod args0 :: below0 := rfl
set_option maxRecDepth 65536 in
theorem w_args : argsFit about1.vm theMethod args0 = true := by decide +kernel
set_option maxRecDepth 65536 in
theorem w_heap : heapFits about1 = true := by decide +kernel
set_option maxRecDepth 65536 in
theorem w_runnable : about1.curStatus? = some .runnable := by decide +kernel
set_option maxRecDepth 65536 in
theorem w_alone : about1.alone = true := by decide +kernel
set_option maxRecDepth 65536 in
theorem w_named : about1.methodNamed? x = some theMethod := by decide +kernel
set_option maxRecDepth 65536 in
theorem w_hears : about1.hears theMethod below0 = true := by decide +kernel
set_option maxRecDepth 65536 in
theorem w_ripe : about1.ripe theMethod args0 below0 = true := by decide +kernel
theorem w_running : about1.status = .running := rfl
set_option maxRecDepth 65536 in
theorem w_room : about1.hasRoom e0.platform room_1 = true :=
  launch0.hasRoom_least _ room_1 (by decide +kernel) (by decide +kernel) (by decide +kernel) (by decide +kernel) (by decide +kernel) (by decide +kernel)
theorem allAtoms_all (ts : List Jvm.Cond) (a : Array Jvm.Value) (st : Jvm.State) : (allAtoms ts).before a st = ts.all (fun c => c.before a st) := by
  induction ts with
  | nil => rfl
  | cons c t ih =>
    show (Jvm.Cond.and c (allAtoms t)).before a st = _
    rw [Jvm.Cond.before_and, ih, List.all_cons]
def words1 : List Jvm.Cond := Jvm.Cond.code x code maxLocals ret :: tables_1
/-- a 'code' word, met by the world's own term for the bytes: nothing is compared byte by byte -/
theorem code_word {y : MethodName} {bytes : ByteArray} {mx : Nat} {rt : Option FieldType} {a : Array Value} {s : State} {m : MethodId} {meth : Method} {c : Code} (h1 : s.methodNamed? y = some m) (h2 : s.vm.method? m = some meth) (h3 : meth.code = some c) (h4 : c.code = bytes)
    (h5 : (c.maxLocals == mx && c.exceptionTable.isEmpty && decide (c.maxStack ≤ mostOperands) && decide (meth.sig.returnType = rt) && !meth.locks && decide (parseMethodDescriptor y.desc = some meth.sig)) = true) : (Jvm.Cond.code y bytes mx rt).before a s = true := by
  simp only [Bool.and_eq_true, beq_iff_eq, Bool.not_eq_true', decide_eq_true_eq] at h5
  obtain ⟨⟨⟨⟨⟨g1, g2⟩, g3⟩, g4⟩, g5⟩, g6⟩ := h5
  simp [Cond.before, Cond.holds, Cond.value, h1, h2, h3, h4, g1, g2, g3, g4, g5, g6]
def isCode : Jvm.Cond → Bool
  | .code _ _ _ _ => true
  | _ => false
theorem all_split {L : List Jvm.Cond} {P : Jvm.Cond → Bool} (h1 : L.all (fun c => isCode c || P c) = true) (h2 : ∀ c ∈ L.filter isCode, P c = true) : L.all P = true := by
  refine List.all_eq_true.mpr fun c hc => ?_
  have h := List.all_eq_true.mp h1 c hc
  rcases Bool.eq_false_or_eq_true (isCode c) with hi | hi
  · exact h2 c (List.mem_filter.mpr ⟨hc, hi⟩)
  · simpa [hi] using h
set_option maxRecDepth 65536 in
theorem w_c0 : (Jvm.Cond.code x code maxLocals ret).before args0 about1 = true := code_word (m := ⟨1, 1⟩) (meth := k1m1) (c := k1c1) (by decide +kernel) rfl rfl rfl (by decide +kernel)
set_option maxRecDepth 65536 in
theorem w_c1 : (Jvm.Cond.code ({ cls := "com/example/wiazka/wiazka/XmlNames", name := "isNameChar", desc := "(I)Z" } : Jvm.MethodName) prog_38_method_7_code (1 : Nat) (Option.some Jvm.ClassFile.FieldType.boolean)).before args0 about1 = true := code_word (m := ⟨2, 2⟩) (meth := k2m2) (c := k2c2) (by decide +kernel) rfl rfl rfl (by decide +kernel)
set_option maxRecDepth 65536 in
theorem w_c2 : (Jvm.Cond.code ({ cls := "com/example/wiazka/wiazka/XmlNames", name := "isNameStartChar", desc := "(I)Z" } : Jvm.MethodName) prog_38_method_6_code (2 : Nat) (Option.some Jvm.ClassFile.FieldType.boolean)).before args0 about1 = true := code_word (m := ⟨2, 1⟩) (meth := k2m1) (c := k2c1) (by decide +kernel) rfl rfl rfl (by decide +kernel)
set_option maxRecDepth 65536 in
theorem w_c3 : (Jvm.Cond.code ({ cls := "com/example/wiazka/wiazka/XmlNamesIsNameCharPinLaw", name := "ref", desc := "(I)Z" } : Jvm.MethodName) method_4_code (1 : Nat) (Option.some Jvm.ClassFile.FieldType.boolean)).before args0 about1 = true := code_word (m := ⟨1, 3⟩) (meth := k1m3) (c := k1c3) (by decide +kernel) rfl rfl rfl (by decide +kernel)
set_option maxRecDepth 65536 in
theorem w_c4 : (Jvm.Cond.code ({ cls := "com/example/wiazka/wiazka/XmlNamesIsNameCharPinLaw", name := "in", desc := "(III)Z" } : Jvm.MethodName) method_3_code (3 : Nat) (Option.some Jvm.ClassFile.FieldType.boolean)).before args0 about1 = true := code_word (m := ⟨1, 2⟩) (meth := k1m2) (c := k1c2) (by decide +kernel) rfl rfl rfl (by decide +kernel)
def codes1 : List Jvm.Cond := [Jvm.Cond.code x code maxLocals ret, Jvm.Cond.code ({ cls := "com/example/wiazka/wiazka/XmlNames", name := "isNameChar", desc := "(I)Z" } : Jvm.MethodName) prog_38_method_7_code (1 : Nat) (Option.some Jvm.ClassFile.FieldType.boolean), Jvm.Cond.code ({ cls := "com/example/wiazka/wiazka/XmlNames", name := "isNameStartChar", desc := "(I)Z" } : Jvm.MethodName) prog_38_method_6_code (2 : Nat) (Option.some Jvm.ClassFile.FieldType.boolean), Jvm.Cond.code ({ cls := "com/example/wiazka/wiazka/XmlNamesIsNameCharPinLaw", name := "ref", desc := "(I)Z" } : Jvm.MethodName) method_4_code (1 : Nat) (Option.some Jvm.ClassFile.FieldType.boolean), Jvm.Cond.code ({ cls := "com/example/wiazka/wiazka/XmlNamesIsNameCharPinLaw", name := "in", desc := "(III)Z" } : Jvm.MethodName) method_3_code (3 : Nat) (Option.some Jvm.ClassFile.FieldType.boolean)]
set_option maxRecDepth 65536 in
theorem codes_eq : words1.filter isCode = codes1 := rfl
theorem w_codes : ∀ c ∈ words1.filter isCode, c.before args0 about1 = true := by
  rw [codes_eq]
  intro c hc
  simp only [codes1, List.mem_cons, List.not_mem_nil, or_false] at hc
  rcases hc with rfl | rfl | rfl | rfl | rfl
  · exact w_c0
  · exact w_c1
  · exact w_c2
  · exact w_c3
  · exact w_c4
set_option maxRecDepth 65536 in
theorem w_t1 : (words1.take 24).all (fun c => isCode c || c.before args0 about1) = true := by decide +kernel
set_option maxRecDepth 65536 in
theorem w_t2 : (words1.drop 24).all (fun c => isCode c || c.before args0 about1) = true := by decide +kernel
theorem w_tables : (allAtoms (Jvm.Cond.code x code maxLocals ret :: tables_1)).before args0 about1 = true := by
  rw [allAtoms_all]
  show words1.all (fun c => c.before args0 about1) = true
  refine all_split ?_ w_codes
  rw [← List.take_append_drop 24 words1, List.all_append, w_t1, w_t2]
  rfl
set_option maxRecDepth 65536 in
theorem w_case : (Jvm.Cond.and given_1 narrow_1).before args0 about1 = true := by decide +kernel
theorem w_applies : (headSpec (Jvm.Cond.code x code maxLocals ret :: tables_1) room_1).applies x e0.platform about1 = true :=
  (Spec.applies_iff w_frames).mpr ⟨w_running, w_runnable, w_alone, w_named, w_hears, w_ripe, w_room, w_tables⟩
theorem atStart : AtStart classFile x code maxLocals ret World_1 tables_1 room_1 Calls_1 rest_1 Pre_1 launch0 p0 e0 about1 theMethod args0 below0 :=
  ⟨lists_1, trivial, launch0.admits_env _ _ _, launch0.least_env, fairChoices_fair.cas, fairChoices_fair.clock, w_frames, w_args, w_heap, w_applies, trivial, trivial, w_case⟩
end start1
theorem witness_1 : WitnessClaimed_1 := ⟨start1.p0, start1.e0, start1.about1, start1.theMethod, start1.args0, start1.below0, start1.atStart⟩
end Jvm.Pilot.@@N@@
