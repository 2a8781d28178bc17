import JvmDerived
import JvmDerived.Pilot.@@N@@Statement
import JvmDerived.Pilot.@@N@@Code
set_option linter.unusedVariables false
set_option linter.unusedSimpArgs false
namespace Jvm.Pilot.@@N@@
open Jvm Jvm.ClassFile Sem Op Lib Jvm.Free Jvm.Stand Jvm.LawKit Jvm.RoadKit Bundle Jvm.Pilot.@@N@@.Jvm.D
/-! 0. the walk's own layer: a run that comes to its end, step by step -/
def own_Goes (p : Program) (e : Env) (below : List Frame) (A : State) (G : Outcome → State → Prop) : Prop :=
  ∃ s₂ o, Steps p.tables e below A s₂ ∧ s₂.status = .running ∧ Ended s₂ below o ∧ G o s₂
def own_post (s : State) (Q : Option Value → Heap → List Loc → Prop) (rc rs : Nat) : Outcome → State → Prop :=
  fun o U' => ∃ v L, o = .returned v ∧ Q v U'.heap L ∧ FrameEnd s o U' L rc rs
section Own
variable {p : Program} {l : Launch} {e : Env} {R : Room} {s : State} {m : MethodId} {args : Array Value} {below : List Frame} {meth : Method} {c : Code} {T : State} {locs : List Loc} {cells slots : Nat} {G : Outcome → State → Prop} {Q : Option Value → Heap → List Loc → Prop} {rc rs : Nat} {Z : State} {a0 : Array Value} {h : Heap}
theorem own_st {A B : State} (st : ∀ t, Steps p.tables e below B t → Steps p.tables e below A t) (k : own_Goes p e below B G) : own_Goes p e below A G := by
  obtain ⟨s₂, o, h1, h2⟩ := k; exact ⟨s₂, o, st _ h1, h2⟩
theorem own_join {B : State} {K : (Outcome → State → Prop) → Prop} (h1 : K G) (h2 : K G → own_Goes p e below B G) : own_Goes p e below B G := h2 h1
theorem own_ret {S : List Value} {pc : Nat} {Ls : Array Slot} {w : Value} {t : FieldType} (X : Stand p l e R s m args below meth c T locs cells slots) (hlk : meth.locks = false) (hret : meth.sig.returnType = some t)
    (st : ∀ fs, (∀ (f : JFrame) (acts : List Action), f.method = m → f.locked = none → f.entered = [] → (doReturn e (T.setTop f) acts (some w)).1 = T.setFrames fs) → Steps p.tables e below (T.setTop (mkF m pc Ls S)) (T.setFrames fs))
    (hc : cells ≤ rc) (hs : slots ≤ rs) (eT : T.heap = h) (hq : Q (some w) h locs) : own_Goes p e below (T.setTop (mkF m pc Ls S)) (own_post s Q rc rs) := by
  subst eT
  obtain ⟨fs, hr, hrun, hended, hW, hsame⟩ := X.leave (v := some w) (fun h => by rw [hret] at h; cases h) hlk
  exact ⟨_, _, st fs hr, hrun, hended, _, _, rfl, hq, ⟨_, rfl⟩, hW, hsame.mono hc hs⟩
theorem own_retI {rest : List Value} {pc : Nat} {Ls : Array Slot} {z : Int32} (X : Stand p l e R s m args below meth c T locs cells slots) (hx : p.tables.exec = Jvm.exec) (hlk : meth.locks = false) (hret : meth.sig.returnType = some .int) (hd : decode c.code pc = .ok (.ireturn, 1))
    (hc : cells ≤ rc) (hs : slots ≤ rs) (eT : T.heap = h) (hq : Q (some (.int z)) h locs) : own_Goes p e below (T.setTop (mkF m pc Ls (.int z :: rest))) (own_post s Q rc rs) :=
  own_ret X hlk hret (fun fs hr => retOut X hx hret rfl (Or.inl ⟨rfl, Or.inl rfl, z, rfl⟩) hd hr) hc hs eT hq
theorem own_retN {rest : List Value} {pc : Nat} {Ls : Array Slot} {z z' : Int32} {t : FieldType} (X : Stand p l e R s m args below meth c T locs cells slots) (hx : p.tables.exec = Jvm.exec) (hlk : meth.locks = false) (hret : meth.sig.returnType = some t) (ht : t = .boolean ∨ t = .byte ∨ t = .char ∨ t = .short) (hn : nar t z = z') (hd : decode c.code pc = .ok (.ireturn, 1))
    (hc : cells ≤ rc) (hs : slots ≤ rs) (eT : T.heap = h) (hq : Q (some (.int z')) h locs) : own_Goes p e below (T.setTop (mkF m pc Ls (.int z :: rest))) (own_post s Q rc rs) :=
  own_ret X hlk hret (fun fs hr => retN X hx hret ht hd (by rw [hn]; exact hr)) hc hs eT hq
theorem own_retJ {rest : List Value} {pc : Nat} {Ls : Array Slot} {z : Int64} (X : Stand p l e R s m args below meth c T locs cells slots) (hx : p.tables.exec = Jvm.exec) (hlk : meth.locks = false) (hret : meth.sig.returnType = some .long) (hd : decode c.code pc = .ok (.lreturn, 1))
    (hc : cells ≤ rc) (hs : slots ≤ rs) (eT : T.heap = h) (hq : Q (some (.long z)) h locs) : own_Goes p e below (T.setTop (mkF m pc Ls (.long z :: rest))) (own_post s Q rc rs) :=
  own_ret X hlk hret (fun fs hr => retOut X hx hret rfl (Or.inr (Or.inl ⟨rfl, rfl, z, rfl⟩)) hd hr) hc hs eT hq
theorem own_retA {rest : List Value} {pc : Nat} {Ls : Array Slot} {w : Value} {t : FieldType} (X : Stand p l e R s m args below meth c T locs cells slots) (hx : p.tables.exec = Jvm.exec) (hlk : meth.locks = false) (hret : meth.sig.returnType = some t) (ht : t.isReference = true) (hw : w.isRef = true) (hn : narrow t w = w) (hd : decode c.code pc = .ok (.areturn, 1))
    (hc : cells ≤ rc) (hs : slots ≤ rs) (eT : T.heap = h) (hq : Q (some w) h locs) : own_Goes p e below (T.setTop (mkF m pc Ls (w :: rest))) (own_post s Q rc rs) :=
  own_ret X hlk hret (fun fs hr => retOut X hx hret hn (Or.inr (Or.inr (Or.inr (Or.inr ⟨rfl, ht, hw⟩)))) hd hr) hc hs eT hq
theorem own_retV {pc : Nat} {Ls : Array Slot} (X : Stand p l e R s m args below meth c T locs cells slots) (hx : p.tables.exec = Jvm.exec) (hlk : meth.locks = false) (hret : meth.sig.returnType = none) (hd : decode c.code pc = .ok (.return_, 1))
    (hc : cells ≤ rc) (hs : slots ≤ rs) (eT : T.heap = h) (hq : Q none h locs) : own_Goes p e below (T.setTop (mkF m pc Ls [])) (own_post s Q rc rs) := by
  subst eT
  obtain ⟨fs, hr, hrun, hended, hW, hsame⟩ := X.leave (v := none) (fun _ => rfl) hlk
  exact ⟨_, _, X.returnOut hx hret hd hr, hrun, hended, _, _, rfl, hq, ⟨_, rfl⟩, hW, hsame.mono hc hs⟩
/-- what a body's theorem says -/
abbrev own_Ct (l : Launch) (Z : State) (y : MethodName) (bytes : ByteArray) (maxL : Nat) (ret : Option FieldType) (ws : List Jvm.Cond) (rm : Room) (as' : Array Value) (h0 : Heap) (Q : Option Value → Heap → List Loc → Prop) (rc rs : Nat) : Prop :=
  MetFree l y (head1 (Jvm.Cond.code y bytes maxL ret :: ws) rm) (fun a U => a = as' ∧ Z.Warmed39 U.vm ∧ U.heap = h0) (fun _ _ _ _ _ => True) (fun _ U o U' => ∃ v L, o = .returned v ∧ Q v U'.heap L ∧ FrameEnd U o U' L rc rs)
theorem own_met {y : MethodName} {bytes : ByteArray} {maxL : Nat} {ret : Option FieldType} {ws : List Jvm.Cond} {rm : Room} {as' : Array Value} {h0 : Heap} (hp : plainFor y = true)
    (body : ∀ p e s m below meth c s₁, Stand p l e rm s m as' below meth c s₁ [] 0 0 → p.tables.exec = Jvm.exec → c.code = bytes → c.maxLocals = maxL → meth.sig.returnType = ret → meth.locks = false → meth.name = y.name → s.vm.findClass y.cls = some m.cls → Z.Warmed39 s.vm → s₁.heap = h0 →
      own_Goes p e below (s₁.setTop (entryFrame m as' maxL)) (own_post s Q rc rs)) : own_Ct l Z y bytes maxL ret ws rm as' h0 Q rc rs := by
  refine MetFree.of_bodySF hp hisR ?_
  intro p e s m args below meth c s₁ Bd hml0 hP hK
  obtain ⟨rfl, hZ, hh⟩ := hP
  exact body p e s m below meth c s₁ (Stand.of_body Bd) Bd.exec Bd.bytes hml0 Bd.returns Bd.notSynchronized (name_of_methodNamed Bd.named Bd.method).1 (findClass_of_methodNamed Bd.named) hZ (by rw [← hh, Bd.state]; rfl)
theorem own_callS {own : String} {index : Nat} {y : MethodName} {bytes : ByteArray} {maxL : Nat} {ret : Option FieldType} {rm : Room} {argsL rest : List Value} {pc W : Nat} {Ls : Array Slot} (X : Stand p l e R s m args below meth c T locs cells slots) (hx : p.tables.exec = Jvm.exec) (hZ : Z.Warmed39 s.vm) (hown : s.vm.findClass own = some m.cls)
    (w1 : (Jvm.Cond.methodLink own index y).before a0 Z = true) (w2 : (Jvm.Cond.static y).before a0 Z = true) (w3 : (Jvm.Cond.initialized y.cls).before a0 Z = true) (w4 : (Jvm.Cond.code y bytes maxL ret).before a0 Z = true) (hy : y.cls ≠ "java/lang/invoke/MethodHandle" ∧ y.cls ≠ "java/lang/invoke/VarHandle")
    (M : own_Ct l Z y bytes maxL ret [] rm argsL.toArray h Q rm.cells rm.slots) (hf : rm.frames + 1 ≤ R.frames) (hl : W + (maxL + 11) + rm.locals ≤ R.locals) (eT : T.heap = h) (hsize : Ls.size = c.maxLocals)
    (hlen : ∀ sig, parseMethodDescriptor y.desc = some sig → argsL.length = sig.parameters.length) {S : List Value} (hS : S = argsL.reverse ++ rest) (hW : (rest.map fun v => v.category).sum ≤ W) (hd : decode c.code pc = .ok (.invokestatic index, 3)) (hc : cells + rm.cells ≤ R.cells) (hs : slots + rm.slots ≤ R.slots) :
    ∃ v T' h' L, Stand p l e R s m args below meth c T' (locs ++ L) (cells + rm.cells) (slots + rm.slots) ∧ T'.heap = h' ∧ Q v h' L ∧ ∀ t, Steps p.tables e below (T'.setTop (mkF m (pc + 3) Ls (v.toList ++ rest))) t → Steps p.tables e below (T.setTop (mkF m pc Ls S)) t := by
  obtain ⟨v, _, ⟨T4, L4, k4, n4⟩, -, X4, ⟨Lc, hQ, l4, y4, z4⟩, st⟩ := Jvm.LawKit.callS X hx hown (mvT hZ w1) (mvT hZ w2) (mvT hZ w3) (mvT hZ w4) hy (backOf (W := W) M hZ w4 w3 hf hl) (g := mkF m pc Ls S) rfl hsize (argsL := argsL) (rest := rest) hlen hS (by show 2 * 0 + _ ≤ _; omega) hd (fun _ _ => ⟨rfl, eT, hc, hs⟩)
  dsimp only [Pt.U, Pt.locs, Pt.cells, Pt.slots] at X4 l4 y4 z4 st hQ
  subst l4 y4 z4
  exact ⟨v, T4, _, Lc, X4, rfl, hQ, st⟩
theorem own_callV {own C : String} {index : Nat} {y z : MethodName} {bytes : ByteArray} {maxL : Nat} {ret : Option FieldType} {rm : Room} {b : Addr} {argsL rest : List Value} {pc W : Nat} {Ls : Array Slot} (X : Stand p l e R s m args below meth c T locs cells slots) (hx : p.tables.exec = Jvm.exec) (hZ : Z.Warmed39 s.vm) (hown : s.vm.findClass own = some m.cls)
    (w1 : (Jvm.Cond.methodLink own index y).before a0 Z = true) (w2 : (Jvm.Cond.declares y).before a0 Z = true) (w5 : (Jvm.Cond.selects C y z).before a0 Z = true) (w6 : (Jvm.Cond.instanceMethod z).before a0 Z = true) (w3 : (Jvm.Cond.initialized z.cls).before a0 Z = true) (w4 : (Jvm.Cond.code z bytes maxL ret).before a0 Z = true) (hnf : NotFace s y) (hy : y.cls ≠ "java/lang/invoke/MethodHandle" ∧ y.cls ≠ "java/lang/invoke/VarHandle")
    (M : own_Ct l Z z bytes maxL ret [] rm (.ref b :: argsL).toArray h Q rm.cells rm.slots) (hf : rm.frames + 1 ≤ R.frames) (hl : W + (maxL + 11) + rm.locals ≤ R.locals) (eT : T.heap = h) (E : Exa Z h b C) (hsize : Ls.size = c.maxLocals)
    (hlen : ∀ sig, parseMethodDescriptor y.desc = some sig → argsL.length = sig.parameters.length) {S : List Value} (hS : S = argsL.reverse ++ .ref b :: rest) (hW : (rest.map fun v => v.category).sum ≤ W) (hd : decode c.code pc = .ok (.invokevirtual index, 3)) (hc : cells + rm.cells ≤ R.cells) (hs : slots + rm.slots ≤ R.slots) :
    ∃ v T' h' L, Stand p l e R s m args below meth c T' (locs ++ L) (cells + rm.cells) (slots + rm.slots) ∧ T'.heap = h' ∧ Q v h' L ∧ ∀ t, Steps p.tables e below (T'.setTop (mkF m (pc + 3) Ls (v.toList ++ rest))) t → Steps p.tables e below (T.setTop (mkF m pc Ls S)) t := by
  obtain ⟨cq, kq, qa, qb, qc⟩ := isOf hZ eT E
  obtain ⟨v, _, ⟨T4, L4, k4, n4⟩, -, X4, ⟨Lc, hQ, l4, y4, z4⟩, st⟩ := X.virtualBack hx (y := y) (z := z) hown (mvT hZ w1) (mvT hZ w2) hnf (mvT hZ w5) (mvT hZ w6) hy (backOf (W := W) M hZ w4 w3 hf hl) qa qc (g := mkF m pc Ls S) rfl hsize (Steps.refl _) (argsL := argsL) (rest := rest) hlen hS (by show 2 * 0 + _ ≤ _; omega) hd (fun _ _ => ⟨rfl, eT, hc, hs⟩)
  dsimp only [Pt.U, Pt.locs, Pt.cells, Pt.slots] at X4 l4 y4 z4 st hQ
  subst l4 y4 z4
  exact ⟨v, T4, _, Lc, X4, rfl, hQ, fun t k => st.trans k⟩
theorem own_callU {own C owner : String} {index : Nat} {y z : MethodName} {bytes : ByteArray} {maxL : Nat} {ret : Option FieldType} {rm : Room} {b : Addr} {argsL rest : List Value} {pc W : Nat} {Ls : Array Slot} (X : Stand p l e R s m args below meth c T locs cells slots) (hx : p.tables.exec = Jvm.exec) (hZ : Z.Warmed39 s.vm) (hown : s.vm.findClass own = some m.cls)
    (w1 : (Jvm.Cond.methodLink own index y).before a0 Z = true) (w0 : (Jvm.Cond.sameMethod y.cls owner y.name y.desc).before a0 Z = true) (w2 : (Jvm.Cond.declares ⟨owner, y.name, y.desc⟩).before a0 Z = true) (w5 : (Jvm.Cond.selects C y z).before a0 Z = true) (w6 : (Jvm.Cond.instanceMethod z).before a0 Z = true) (w3 : (Jvm.Cond.initialized z.cls).before a0 Z = true) (w4 : (Jvm.Cond.code z bytes maxL ret).before a0 Z = true) (hy : owner ≠ "java/lang/invoke/MethodHandle" ∧ owner ≠ "java/lang/invoke/VarHandle")
    (M : own_Ct l Z z bytes maxL ret [] rm (.ref b :: argsL).toArray h Q rm.cells rm.slots) (hf : rm.frames + 1 ≤ R.frames) (hl : W + (maxL + 11) + rm.locals ≤ R.locals) (eT : T.heap = h) (E : Exa Z h b C) (hsize : Ls.size = c.maxLocals)
    (hlen : ∀ sig, parseMethodDescriptor y.desc = some sig → argsL.length = sig.parameters.length) {S : List Value} (hS : S = argsL.reverse ++ .ref b :: rest) (hW : (rest.map fun v => v.category).sum ≤ W) (hd : decode c.code pc = .ok (.invokevirtual index, 3)) (hc : cells + rm.cells ≤ R.cells) (hs : slots + rm.slots ≤ R.slots) :
    ∃ v T' h' L, Stand p l e R s m args below meth c T' (locs ++ L) (cells + rm.cells) (slots + rm.slots) ∧ T'.heap = h' ∧ Q v h' L ∧ ∀ t, Steps p.tables e below (T'.setTop (mkF m (pc + 3) Ls (v.toList ++ rest))) t → Steps p.tables e below (T.setTop (mkF m pc Ls S)) t := by
  obtain ⟨cq, kq, qa, qb, qc⟩ := isOf hZ eT E
  obtain ⟨v, _, ⟨T4, L4, k4, n4⟩, -, X4, ⟨Lc, hQ, l4, y4, z4⟩, st⟩ := X.virtualBackUp hx (x := y) (y := z) hown (mvT hZ w1) (mvT hZ w0) (mvT hZ w2) hy (mvT hZ w5) (mvT hZ w6) (backOf (W := W) M hZ w4 w3 hf hl) qa qc (g := mkF m pc Ls S) rfl hsize (Steps.refl _) (argsL := argsL) (rest := rest) hlen hS (by show 2 * 0 + _ ≤ _; omega) hd (fun _ _ => ⟨rfl, eT, hc, hs⟩)
  dsimp only [Pt.U, Pt.locs, Pt.cells, Pt.slots] at X4 l4 y4 z4 st hQ
  subst l4 y4 z4
  exact ⟨v, T4, _, Lc, X4, rfl, hQ, fun t k => st.trans k⟩
theorem own_callP {own : String} {index : Nat} {y y' : MethodName} {bytes : ByteArray} {maxL : Nat} {ret : Option FieldType} {rm : Room} {b : Addr} {argsL rest : List Value} {pc W : Nat} {Ls : Array Slot} (X : Stand p l e R s m args below meth c T locs cells slots) (hx : p.tables.exec = Jvm.exec) (hZ : Z.Warmed39 s.vm) (hown : s.vm.findClass own = some m.cls)
    (w1 : (Jvm.Cond.methodLink own index y).before a0 Z = true) (w6 : (Jvm.Cond.instanceMethod y).before a0 Z = true) (w7 : (Jvm.Cond.privateMethod y).before a0 Z = true) (w5 : (Jvm.Cond.selects y.cls y' y').before a0 Z = true) (hy' : y'.cls = y.cls) (w3 : (Jvm.Cond.initialized y.cls).before a0 Z = true) (w4 : (Jvm.Cond.code y bytes maxL ret).before a0 Z = true) (hy : y.cls ≠ "java/lang/invoke/MethodHandle" ∧ y.cls ≠ "java/lang/invoke/VarHandle")
    (M : own_Ct l Z y bytes maxL ret [] rm (.ref b :: argsL).toArray h Q rm.cells rm.slots) (hf : rm.frames + 1 ≤ R.frames) (hl : W + (maxL + 11) + rm.locals ≤ R.locals) (eT : T.heap = h) {C : String} (E : Exa Z h b C) (hsize : Ls.size = c.maxLocals)
    (hlen : ∀ sig, parseMethodDescriptor y.desc = some sig → argsL.length = sig.parameters.length) {S : List Value} (hS : S = argsL.reverse ++ .ref b :: rest) (hW : (rest.map fun v => v.category).sum ≤ W) (hd : decode c.code pc = .ok (.invokevirtual index, 3)) (hc : cells + rm.cells ≤ R.cells) (hs : slots + rm.slots ≤ R.slots) :
    ∃ v T' h' L, Stand p l e R s m args below meth c T' (locs ++ L) (cells + rm.cells) (slots + rm.slots) ∧ T'.heap = h' ∧ Q v h' L ∧ ∀ t, Steps p.tables e below (T'.setTop (mkF m (pc + 3) Ls (v.toList ++ rest))) t → Steps p.tables e below (T.setTop (mkF m pc Ls S)) t := by
  obtain ⟨cq, q1, q2⟩ := E.cell
  have hpv : s.PrivateAt y := Cond.privateMethod_at (mvP hZ w7 (args := #[]))
  have hnf : NotFace s y' := notFace_of_selects (args := #[]) (mvT hZ w5)
  obtain ⟨c2, r2, m2, k1, k2, k3, k4, kP, hkP, hkPi⟩ := Cond.selects_spec (mvT (args := #[]) hZ w5)
  have k5 := findClass_of_methodNamed k3
  rw [hy'] at k5
  obtain ⟨v, _, ⟨T4, L4, k4, n4⟩, -, X4, ⟨Lc, hQ, l4, y4, z4⟩, st⟩ := X.privateBack hx hown (mvT hZ w1) (mvT hZ w6) (selects_self_of_private k5 hkP hkPi hpv (mvT hZ w6) hy) hpv (mvT hZ w4) hy (backOf (W := W) M hZ w4 w3 hf hl) (g := mkF m pc Ls S) rfl hsize (Steps.refl _) (a := b) (by rw [eT]; exact q1) q2 (argsL := argsL) (rest := rest) hlen hS (by show 2 * 0 + _ ≤ _; omega) hd (fun _ _ => ⟨rfl, eT, hc, hs⟩)
  dsimp only [Pt.U, Pt.locs, Pt.cells, Pt.slots] at X4 l4 y4 z4 st hQ
  subst l4 y4 z4
  exact ⟨v, T4, _, Lc, X4, rfl, hQ, fun t k => st.trans k⟩
theorem own_callI {own : String} {index : Nat} {y : MethodName} {bytes : ByteArray} {maxL : Nat} {rm : Room} {b : Addr} {argsL rest : List Value} {pc W : Nat} {Ls : Array Slot} (X : Stand p l e R s m args below meth c T locs cells slots) (hx : p.tables.exec = Jvm.exec) (hZ : Z.Warmed39 s.vm) (hown : s.vm.findClass own = some m.cls) (hi : y.name = "<init>")
    (w1 : (Jvm.Cond.methodLink own index y).before a0 Z = true) (w6 : (Jvm.Cond.instanceMethod y).before a0 Z = true) (w3 : (Jvm.Cond.initialized y.cls).before a0 Z = true) (w4 : (Jvm.Cond.code y bytes maxL none).before a0 Z = true) (hy : y.cls ≠ "java/lang/invoke/MethodHandle" ∧ y.cls ≠ "java/lang/invoke/VarHandle")
    (M : own_Ct l Z y bytes maxL none [] rm (.ref b :: argsL).toArray h Q rm.cells rm.slots) (hf : rm.frames + 1 ≤ R.frames) (hl : W + (maxL + 11) + rm.locals ≤ R.locals) (eT : T.heap = h) (hsize : Ls.size = c.maxLocals)
    (hlen : ∀ sig, parseMethodDescriptor y.desc = some sig → argsL.length = sig.parameters.length) {S : List Value} (hS : S = argsL.reverse ++ .ref b :: rest) (hW : (rest.map fun v => v.category).sum ≤ W) (hd : decode c.code pc = .ok (.invokespecial index, 3)) (hc : cells + rm.cells ≤ R.cells) (hs : slots + rm.slots ≤ R.slots) :
    ∃ v T' h' L, Stand p l e R s m args below meth c T' (locs ++ L) (cells + rm.cells) (slots + rm.slots) ∧ T'.heap = h' ∧ Q v h' L ∧ ∀ t, Steps p.tables e below (T'.setTop (mkF m (pc + 3) Ls (v.toList ++ rest))) t → Steps p.tables e below (T.setTop (mkF m pc Ls S)) t := by
  obtain ⟨v, _, ⟨T4, L4, k4, n4⟩, -, X4, ⟨Lc, hQ, l4, y4, z4⟩, st⟩ := X.specialBack hx hi hown (mvT hZ w1) (mvT hZ w6) (mvT hZ w4) hy (backOf (W := W) M hZ w4 w3 hf hl) (g := mkF m pc Ls S) rfl hsize (Steps.refl _) (a := b) (argsL := argsL) (rest := rest) hlen hS (by show 2 * 0 + _ ≤ _; omega) hd (fun _ _ => ⟨rfl, eT, hc, hs⟩)
  dsimp only [Pt.U, Pt.locs, Pt.cells, Pt.slots] at X4 l4 y4 z4 st hQ
  subst l4 y4 z4
  exact ⟨v, T4, _, Lc, X4, rfl, hQ, fun t k => st.trans k⟩
theorem own_eqI {st : State} {t : Term} {z : Int32} (k : (Jvm.Cond.eq t (Term.int z)).value args st none st [] = some true) : t.eval args st none [] st = some (.int z) := by
  simp only [Jvm.Cond.value, Term.eval] at k
  cases ht : t.eval args st none [] st with
  | none => simp [ht] at k
  | some q => cases q <;> simp [ht] at k ⊢; exact k
theorem own_eqR {st : State} {t u : Term} {b : Addr} (k : (Jvm.Cond.eq t u).value args st none st [] = some true) (hu : u.eval args st none [] st = some (.ref b)) : t.eval args st none [] st = some (.ref b) := by
  simp only [Jvm.Cond.value] at k
  cases ht : t.eval args st none [] st with
  | none => simp [ht] at k
  | some q => cases q <;> simp [ht, hu] at k ⊢; exact k
end Own

theorem pn_com_example_forseti_forseti_core_SavedBytes_Input : plainName "com/example/forseti/forseti/core/SavedBytes$Input" = true := by first | (simp [plainName, overriddenIn]; done) | decide +kernel
theorem pn_com_example_forseti_forseti_core_InputStartWritePinLaw : plainName "com/example/forseti/forseti/core/InputStartWritePinLaw" = true := by first | (simp [plainName, overriddenIn]; done) | decide +kernel
theorem pd__J_V : parseMethodDescriptor "(J)V" = some ⟨[.long], none⟩ := by decide +kernel
theorem pd___V : parseMethodDescriptor "()V" = some ⟨[], none⟩ := by decide +kernel
theorem pd____BI_V : parseMethodDescriptor "([[BI)V" = some ⟨[(.array (.array .byte)), .int], none⟩ := by decide +kernel
theorem pd___I : parseMethodDescriptor "()I" = some ⟨[], some .int⟩ := by decide +kernel
theorem pd___B_V : parseMethodDescriptor "([B)V" = some ⟨[(.array .byte)], none⟩ := by decide +kernel
section Own2
variable {p : Program} {l : Launch} {e : Env} {R : Room} {s : State} {m : MethodId} {args : Array Value} {below : List Frame} {meth : Method} {c : Code} {T : State} {locs : List Loc} {cells slots : Nat} {Z : State} {a0 : Array Value} {h : Heap} {a : Addr} {k : ClassId} {z j : Int32} {vs : List Value} {dv : Value} {pc : Nat} {Ls : Array Slot} {rest : List Value}
theorem own_stJ {x : Int64} (X : Stand p l e R s m args below meth c T locs cells slots) (hx : p.tables.exec = Jvm.exec) (hZ : Z.Warmed39 s.vm) (eT : T.heap = h) (F : Arv Z h a k .long z vs dv) (i : Nat) (hj : j.toNatClampNeg = i) (hz : ¬ j < 0 ∧ j < z) (hi : i < vs.length) (hd : decode c.code pc = .ok (.lastore, 1)) :
    ∃ T' h', Stand p l e R s m args below meth c T' (locs ++ [⟨a, j.toNatClampNeg⟩]) cells slots ∧ T'.heap = h' ∧ Wr h h' a j.toNatClampNeg (.long x) ∧ Arv Z h' a k .long z (vs.set i (.long x)) dv ∧ ∀ t, Steps p.tables e below (T'.setTop (mkF m (pc + 1) Ls rest)) t → Steps p.tables e below (T.setTop (mkF m pc Ls (.long x :: .int j :: .ref a :: rest))) t := by
  obtain ⟨cl, Ar, q, S, N, H, G⟩ := F
  obtain ⟨T', h', X', e', W, st⟩ := stJ X hx hZ eT Ar (j := j) (inb_of S hz) (g := mkF m pc Ls (.long x :: .int j :: .ref a :: rest)) rfl rfl hd
  exact ⟨T', h', X', e', W, Arv.set Ar q S N H G rfl W i hj hi, st⟩
theorem own_stB {x : Int32} (X : Stand p l e R s m args below meth c T locs cells slots) (hx : p.tables.exec = Jvm.exec) (hZ : Z.Warmed39 s.vm) (eT : T.heap = h) (F : Arv Z h a k .byte z vs dv) (i : Nat) (hj : j.toNatClampNeg = i) (hz : ¬ j < 0 ∧ j < z) (hi : i < vs.length) (hd : decode c.code pc = .ok (.bastore, 1)) :
    ∃ T' h', Stand p l e R s m args below meth c T' (locs ++ [⟨a, j.toNatClampNeg⟩]) cells slots ∧ T'.heap = h' ∧ Wr h h' a j.toNatClampNeg (.int x.toInt8.toInt32) ∧ Arv Z h' a k .byte z (vs.set i (.int x.toInt8.toInt32)) dv ∧ ∀ t, Steps p.tables e below (T'.setTop (mkF m (pc + 1) Ls rest)) t → Steps p.tables e below (T.setTop (mkF m pc Ls (.int x :: .int j :: .ref a :: rest))) t := by
  obtain ⟨cl, Ar, q, S, N, H, G⟩ := F
  obtain ⟨T', h', X', e', W, st⟩ := stB X hx hZ eT Ar (j := j) (inb_of S hz) (g := mkF m pc Ls (.int x :: .int j :: .ref a :: rest)) rfl rfl hd
  exact ⟨T', h', X', e', W, Arv.set Ar q S N H G (fits_nar_byte _) W i hj hi, st⟩
theorem own_stR {y : Addr} {ty : FieldType} (X : Stand p l e R s m args below meth c T locs cells slots) (hx : p.tables.exec = Jvm.exec) (hZ : Z.Warmed39 s.vm) (eT : T.heap = h) (F : Arv Z h a k ty z vs dv) (hty : ty.isReference = true) (hfit : fits ty (.ref y) = true) (hst : ∀ cl, Arr Z h a cl ty → cl.cls = k → Sto Z h a (.ref y)) (i : Nat) (hj : j.toNatClampNeg = i) (hz : ¬ j < 0 ∧ j < z) (hi : i < vs.length) (hd : decode c.code pc = .ok (.aastore, 1)) :
    ∃ T' h', Stand p l e R s m args below meth c T' (locs ++ [⟨a, j.toNatClampNeg⟩]) cells slots ∧ T'.heap = h' ∧ Wr h h' a j.toNatClampNeg (.ref y) ∧ Arv Z h' a k ty z (vs.set i (.ref y)) dv ∧ ∀ t, Steps p.tables e below (T'.setTop (mkF m (pc + 1) Ls rest)) t → Steps p.tables e below (T.setTop (mkF m pc Ls (.ref y :: .int j :: .ref a :: rest))) t := by
  obtain ⟨cl, Ar, q, S, N, H, G⟩ := F
  obtain ⟨T', h', X', e', W, st⟩ := stR X hx hZ eT Ar (j := j) (inb_of S hz) hty (hst cl Ar q) (g := mkF m pc Ls (.ref y :: .int j :: .ref a :: rest)) rfl rfl hd
  exact ⟨T', h', X', e', W, Arv.set Ar q S N H G hfit W i hj hi, st⟩
theorem own_ldJ {v : Value} (X : Stand p l e R s m args below meth c T locs cells slots) (hx : p.tables.exec = Jvm.exec) (hZ : Z.Warmed39 s.vm) (eT : T.heap = h) (F : Arv Z h a k .long z vs dv) (hz : ¬ j < 0 ∧ j < z) (hv : vs.getD j.toNatClampNeg dv = v) (hd : decode c.code pc = .ok (.laload, 1)) :
    ∀ t, Steps p.tables e below (T.setTop (mkF m (pc + 1) Ls (v :: rest))) t → Steps p.tables e below (T.setTop (mkF m pc Ls (.int j :: .ref a :: rest))) t := by
  obtain ⟨cl, Ar, q, S, N, H, G⟩ := F
  exact X.laload hx (j := j) (v := v) (by rw [eT]; exact Ar.1) (State.isArrayOf_alike hZ.alike Ar.2.1) Ar.2.2 (inb_of S hz) (H.at (inb_of S hz) hv) (g := mkF m pc Ls (.int j :: .ref a :: rest)) rfl rfl hd
theorem own_ldB {v : Value} (X : Stand p l e R s m args below meth c T locs cells slots) (hx : p.tables.exec = Jvm.exec) (hZ : Z.Warmed39 s.vm) (eT : T.heap = h) (F : Arv Z h a k .byte z vs dv) (hz : ¬ j < 0 ∧ j < z) (hv : vs.getD j.toNatClampNeg dv = v) (hd : decode c.code pc = .ok (.baload, 1)) :
    ∀ t, Steps p.tables e below (T.setTop (mkF m (pc + 1) Ls (v :: rest))) t → Steps p.tables e below (T.setTop (mkF m pc Ls (.int j :: .ref a :: rest))) t := by
  obtain ⟨cl, Ar, q, S, N, H, G⟩ := F
  exact X.baloadBytes hx (j := j) (v := v) (by rw [eT]; exact Ar.1) (State.isArrayOf_alike hZ.alike Ar.2.1) Ar.2.2 (inb_of S hz) (H.at (inb_of S hz) hv) (g := mkF m pc Ls (.int j :: .ref a :: rest)) rfl rfl hd
theorem own_ldR {v : Value} {ty : FieldType} (X : Stand p l e R s m args below meth c T locs cells slots) (hx : p.tables.exec = Jvm.exec) (hZ : Z.Warmed39 s.vm) (eT : T.heap = h) (F : Arv Z h a k ty z vs dv) (hty : ty.isReference = true) (hz : ¬ j < 0 ∧ j < z) (hv : vs.getD j.toNatClampNeg dv = v) (hd : decode c.code pc = .ok (.aaload, 1)) :
    ∀ t, Steps p.tables e below (T.setTop (mkF m (pc + 1) Ls (v :: rest))) t → Steps p.tables e below (T.setTop (mkF m pc Ls (.int j :: .ref a :: rest))) t := by
  obtain ⟨cl, Ar, q, S, N, H, G⟩ := F
  exact X.aaload hx (j := j) (v := v) (by rw [eT]; exact Ar.1) (State.isArrayOf_alike hZ.alike Ar.2.1) hty Ar.2.2 (inb_of S hz) (H.at (inb_of S hz) hv) (g := mkF m pc Ls (.int j :: .ref a :: rest)) rfl rfl hd
theorem own_len {ty : FieldType} (X : Stand p l e R s m args below meth c T locs cells slots) (hx : p.tables.exec = Jvm.exec) (hZ : Z.Warmed39 s.vm) (eT : T.heap = h) (F : Arv Z h a k ty z vs dv) (hd : decode c.code pc = .ok (.arraylength, 1)) :
    ∀ t, Steps p.tables e below (T.setTop (mkF m (pc + 1) Ls (.int z :: rest))) t → Steps p.tables e below (T.setTop (mkF m pc Ls (.ref a :: rest))) t := by
  obtain ⟨cl, Ar, q, S, N, H, G⟩ := F
  intro t kt
  refine X.arraylength hx (by rw [eT]; exact Ar.1) (State.isArrayOf_alike hZ.alike Ar.2.1) (g := mkF m pc Ls (.ref a :: rest)) rfl rfl hd t ?_
  rw [len_of S N]; exact kt
end Own2
/-! the plain law -/
theorem own_b8 (x : Int32) : x.toInt8.toInt32.toInt8.toInt32 = x.toInt8.toInt32 := by simp
theorem own_mod5 (x : Int32) : ∃ c : Int32, ((x &&& (2147483647 : Int32)) % (5 : Int32)) = c ∧ (c = 0 ∨ c = 1 ∨ c = 2 ∨ c = 3 ∨ c = 4) := by
  have e1 : (x &&& (2147483647 : Int32)).toInt = x.toInt % (2 ^ 31 : Nat) := c_mask x _ 31 (by decide) (by decide)
  have e2 := (c_irem (x &&& (2147483647 : Int32)) (5 : Int32) 5 (by decide)).1 (by omega)
  refine ⟨_, rfl, ?_⟩
  generalize ((x &&& (2147483647 : Int32)) % (5 : Int32)) = c at *
  have c0 : (0 : Int32).toInt = 0 := by decide
  have c1 : (1 : Int32).toInt = 1 := by decide
  have c2 : (2 : Int32).toInt = 2 := by decide
  have c3 : (3 : Int32).toInt = 3 := by decide
  have c4 : (4 : Int32).toInt = 4 := by decide
  simp only [← Int32.toInt_inj, c0, c1, c2, c3, c4]; omega

theorem d5_0 : decode prog_77_method_21_code 0 = .ok (.lload_n 1, 1) := by decide +kernel
theorem d5_1 : decode prog_77_method_21_code 1 = .ok (.aload_n 0, 1) := by decide +kernel
theorem d5_2 : decode prog_77_method_21_code 2 = .ok (.getfield 40, 3) := by decide +kernel
theorem d5_5 : decode prog_77_method_21_code 5 = .ok (.aload_n 0, 1) := by decide +kernel
theorem d5_6 : decode prog_77_method_21_code 6 = .ok (.getfield 46, 3) := by decide +kernel
theorem d5_9 : decode prog_77_method_21_code 9 = .ok (.isub, 1) := by decide +kernel
theorem d5_10 : decode prog_77_method_21_code 10 = .ok (.i2l, 1) := by decide +kernel
theorem d5_11 : decode prog_77_method_21_code 11 = .ok (.lcmp, 1) := by decide +kernel
theorem d5_12 : decode prog_77_method_21_code 12 = .ok (.ifCond .le 13, 3) := by decide +kernel
theorem d5_25 : decode prog_77_method_21_code 25 = .ok (.return_, 1) := by decide +kernel
theorem ef_5 (m : MethodId) (a1 : Addr) (q1 : Int64) : entryFrame m #[(.ref a1), (.long q1)] 3 = mkF m 0 #[.val (.ref a1), .val (.long q1), .second] [] := by first | (simp [entryFrame, mkF, argsToLocals, Value.category]; done) | rfl
set_option maxRecDepth 65536 in
set_option maxHeartbeats 40000000 in
theorem rm5 (l : Launch) (Z : State) (a0 : Array Value) (hw : ∀ d ∈ tables_1, d.before a0 Z = true) (ws : List Jvm.Cond) (a1 : Addr) (q1 : Int64) (l1 k1 : Int32) (h0 : Heap) (n0 : Nat) (Z0 : n0 ≤ h0.size) (F1 : Fld Z h0 a1 "com/example/forseti/forseti/core/SavedBytes$Input" "limit" "I" (.int l1)) (F2 : Fld Z h0 a1 "com/example/forseti/forseti/core/SavedBytes$Input" "position" "I" (.int k1)) (hn1 : ¬ ((0 : Int32) < XT.cmpL q1 (l1 - k1).toInt64)) :
    own_Ct l Z (⟨"com/example/forseti/forseti/core/SavedBytes$Input", "need", "(J)V"⟩ : MethodName) prog_77_method_21_code 3 none ws ({ frames := 0, cells := 0, slots := 0, locals := 0 } : Room) #[(.ref a1), (.long q1)] h0 (fun v h L => v = none ∧ L = [] ∧ h = h0) ({ frames := 0, cells := 0, slots := 0, locals := 0 } : Room).cells ({ frames := 0, cells := 0, slots := 0, locals := 0 } : Room).slots := by
  refine own_met (plainFor_of_name pn_com_example_forseti_forseti_core_SavedBytes_Input) (fun p e s m below meth c s₁ X0 hx hby hml hret hlk hnm hown hZ e0 => ?_)
  have hml : c.maxLocals = 3 := hml
  have N0 := Fr.nil n0
  refine own_st (fun _ k => castTop (ef_5 m a1 q1) k) ?_
  show own_Goes p e below (s₁.setTop (mkF m 0 #[.val (.ref a1), .val (.long q1), .second] [])) _
  refine own_st (fun _ k => XT.lloadN X0.here hx rfl (hb hby d5_0) rfl k) ?_
  show own_Goes p e below (s₁.setTop (mkF m 1 #[.val (.ref a1), .val (.long q1), .second] [(.long q1)])) _
  refine own_st (fun _ k => XS.aloadN X0.here hx rfl (hb hby d5_1) rfl rfl k) ?_
  show own_Goes p e below (s₁.setTop (mkF m 2 #[.val (.ref a1), .val (.long q1), .second] [(.ref a1), (.long q1)])) _
  obtain ⟨T101, X101, e101, st101⟩ := getF X0 hx hZ hown (host := "") (Or.inl (hw _ (List.mem_of_getElem? (i := 27) rfl))) Via.refl e0 F1 (g := (mkF m 2 #[.val (.ref a1), .val (.long q1), .second] [(.ref a1), (.long q1)])) rfl rfl (hb hby d5_2)
  refine own_st st101 ?_
  show own_Goes p e below (T101.setTop (mkF m 5 #[.val (.ref a1), .val (.long q1), .second] [(.int l1), (.long q1)])) _
  refine own_st (fun _ k => XS.aloadN X101.here hx rfl (hb hby d5_5) rfl rfl k) ?_
  show own_Goes p e below (T101.setTop (mkF m 6 #[.val (.ref a1), .val (.long q1), .second] [(.ref a1), (.int l1), (.long q1)])) _
  obtain ⟨T102, X102, e102, st102⟩ := getF X101 hx hZ hown (host := "") (Or.inl (hw _ (List.mem_of_getElem? (i := 38) rfl))) Via.refl e101 F2 (g := (mkF m 6 #[.val (.ref a1), .val (.long q1), .second] [(.ref a1), (.int l1), (.long q1)])) rfl rfl (hb hby d5_6)
  refine own_st st102 ?_
  show own_Goes p e below (T102.setTop (mkF m 9 #[.val (.ref a1), .val (.long q1), .second] [(.int k1), (.int l1), (.long q1)])) _
  refine own_st (fun _ k => XS.isub X102.here hx rfl (hb hby d5_9) rfl k) ?_
  show own_Goes p e below (T102.setTop (mkF m 10 #[.val (.ref a1), .val (.long q1), .second] [(.int (l1 - k1)), (.long q1)])) _
  refine own_st (fun _ k => XT.i2l X102.here hx rfl (hb hby d5_10) rfl k) ?_
  show own_Goes p e below (T102.setTop (mkF m 11 #[.val (.ref a1), .val (.long q1), .second] [(.long (l1 - k1).toInt64), (.long q1)])) _
  refine own_st (fun _ k => XT.lcmp X102.here hx rfl (hb hby d5_11) rfl k) ?_
  show own_Goes p e below (T102.setTop (mkF m 12 #[.val (.ref a1), .val (.long q1), .second] [(.int (XT.cmpL q1 (l1 - k1).toInt64))])) _
  refine own_st (fun _ k => XS.ifYes X102.here hx rfl (pc0 := 12) (pc' := 25) rfl (hb hby d5_12) rfl ((if0 _ _).trans (flt hn1).2.2.2) (by decide) (by decide) k) ?_
  show own_Goes p e below (T102.setTop (mkF m 25 #[.val (.ref a1), .val (.long q1), .second] [])) _
  exact own_retV X102 hx hlk hret (hb hby d5_25) (by decide) (by decide) e102 ⟨rfl, rfl, rfl⟩
theorem d6_0 : decode prog_77_method_7_code 0 = .ok (.aload_n 0, 1) := by decide +kernel
theorem d6_1 : decode prog_77_method_7_code 1 = .ok (.getfield 46, 3) := by decide +kernel
theorem d6_4 : decode prog_77_method_7_code 4 = .ok (.aload_n 0, 1) := by decide +kernel
theorem d6_5 : decode prog_77_method_7_code 5 = .ok (.getfield 40, 3) := by decide +kernel
theorem d6_8 : decode prog_77_method_7_code 8 = .ok (.if_icmp .ne 75, 3) := by decide +kernel
theorem d6_11 : decode prog_77_method_7_code 11 = .ok (.aload_n 0, 1) := by decide +kernel
theorem d6_12 : decode prog_77_method_7_code 12 = .ok (.getfield 49, 3) := by decide +kernel
theorem d6_15 : decode prog_77_method_7_code 15 = .ok (.iconst 1, 1) := by decide +kernel
theorem d6_16 : decode prog_77_method_7_code 16 = .ok (.iadd, 1) := by decide +kernel
theorem d6_17 : decode prog_77_method_7_code 17 = .ok (.aload_n 0, 1) := by decide +kernel
theorem d6_18 : decode prog_77_method_7_code 18 = .ok (.getfield 29, 3) := by decide +kernel
theorem d6_21 : decode prog_77_method_7_code 21 = .ok (.arraylength, 1) := by decide +kernel
theorem d6_22 : decode prog_77_method_7_code 22 = .ok (.if_icmp .ge 61, 3) := by decide +kernel
theorem d6_83 : decode prog_77_method_7_code 83 = .ok (.return_, 1) := by decide +kernel
theorem ef_6 (m : MethodId) (a1 : Addr) : entryFrame m #[(.ref a1)] 1 = mkF m 0 #[.val (.ref a1)] [] := by first | (simp [entryFrame, mkF, argsToLocals, Value.category]; done) | rfl
set_option maxRecDepth 65536 in
set_option maxHeartbeats 40000000 in
theorem rm6 (l : Launch) (Z : State) (a0 : Array Value) (hw : ∀ d ∈ tables_1, d.before a0 Z = true) (ws : List Jvm.Cond) (a1 r1 q1 : Addr) (kr : ClassId) (k1 : Int32) (h0 : Heap) (n0 : Nat) (Z0 : n0 ≤ h0.size) (F1 : Fld Z h0 a1 "com/example/forseti/forseti/core/SavedBytes$Input" "limit" "I" (.int (4 : Int32))) (F2 : Fld Z h0 a1 "com/example/forseti/forseti/core/SavedBytes$Input" "position" "I" (.int k1)) (F3 : Fld Z h0 a1 "com/example/forseti/forseti/core/SavedBytes$Input" "piece" "I" (.int (0 : Int32))) (F4 : Fld Z h0 a1 "com/example/forseti/forseti/core/SavedBytes$Input" "pieces" "[[B" (.ref r1)) (V1 : Arv Z h0 r1 kr (.array .byte) (1 : Int32) [(.ref q1)] .null) :
    own_Ct l Z (⟨"com/example/forseti/forseti/core/SavedBytes$Input", "startWrite", "()V"⟩ : MethodName) prog_77_method_7_code 1 none ws ({ frames := 0, cells := 0, slots := 0, locals := 0 } : Room) #[(.ref a1)] h0 (fun v h L => v = none ∧ L = [] ∧ h = h0) ({ frames := 0, cells := 0, slots := 0, locals := 0 } : Room).cells ({ frames := 0, cells := 0, slots := 0, locals := 0 } : Room).slots := by
  refine own_met (plainFor_of_name pn_com_example_forseti_forseti_core_SavedBytes_Input) (fun p e s m below meth c s₁ X0 hx hby hml hret hlk hnm hown hZ e0 => ?_)
  have hml : c.maxLocals = 1 := hml
  have N0 := Fr.nil n0
  refine own_st (fun _ k => castTop (ef_6 m a1) k) ?_
  show own_Goes p e below (s₁.setTop (mkF m 0 #[.val (.ref a1)] [])) _
  refine own_st (fun _ k => XS.aloadN X0.here hx rfl (hb hby d6_0) rfl rfl k) ?_
  show own_Goes p e below (s₁.setTop (mkF m 1 #[.val (.ref a1)] [(.ref a1)])) _
  obtain ⟨T101, X101, e101, st101⟩ := getF X0 hx hZ hown (host := "") (Or.inl (hw _ (List.mem_of_getElem? (i := 38) rfl))) Via.refl e0 F2 (g := (mkF m 1 #[.val (.ref a1)] [(.ref a1)])) rfl rfl (hb hby d6_1)
  refine own_st st101 ?_
  show own_Goes p e below (T101.setTop (mkF m 4 #[.val (.ref a1)] [(.int k1)])) _
  refine own_st (fun _ k => XS.aloadN X101.here hx rfl (hb hby d6_4) rfl rfl k) ?_
  show own_Goes p e below (T101.setTop (mkF m 5 #[.val (.ref a1)] [(.ref a1), (.int k1)])) _
  obtain ⟨T102, X102, e102, st102⟩ := getF X101 hx hZ hown (host := "") (Or.inl (hw _ (List.mem_of_getElem? (i := 27) rfl))) Via.refl e101 F1 (g := (mkF m 5 #[.val (.ref a1)] [(.ref a1), (.int k1)])) rfl rfl (hb hby d6_5)
  refine own_st st102 ?_
  show own_Goes p e below (T102.setTop (mkF m 8 #[.val (.ref a1)] [(.int (4 : Int32)), (.int k1)])) _
  by_cases hc8_103 : k1 = (4 : Int32)
  · refine own_st (fun _ k => XS.icmpNo X102.here hx rfl (hb hby d6_8) rfl (teq hc8_103).2 k) ?_
    show own_Goes p e below (T102.setTop (mkF m 11 #[.val (.ref a1)] [])) _
    refine own_st (fun _ k => XS.aloadN X102.here hx rfl (hb hby d6_11) rfl rfl k) ?_
    show own_Goes p e below (T102.setTop (mkF m 12 #[.val (.ref a1)] [(.ref a1)])) _
    obtain ⟨T104, X104, e104, st104⟩ := getF X102 hx hZ hown (host := "") (Or.inl (hw _ (List.mem_of_getElem? (i := 50) rfl))) Via.refl e102 F3 (g := (mkF m 12 #[.val (.ref a1)] [(.ref a1)])) rfl rfl (hb hby d6_12)
    refine own_st st104 ?_
    show own_Goes p e below (T104.setTop (mkF m 15 #[.val (.ref a1)] [(.int (0 : Int32))])) _
    refine own_st (fun _ k => XS.iconst X104.here hx rfl (hb hby d6_15) k) ?_
    show own_Goes p e below (T104.setTop (mkF m 16 #[.val (.ref a1)] [(.int (1 : Int32)), (.int (0 : Int32))])) _
    refine own_st (fun _ k => XS.iadd X104.here hx rfl (hb hby d6_16) rfl k) ?_
    show own_Goes p e below (T104.setTop (mkF m 17 #[.val (.ref a1)] [(.int ((0 : Int32) + (1 : Int32)))])) _
    refine own_st (fun _ k => XS.aloadN X104.here hx rfl (hb hby d6_17) rfl rfl k) ?_
    show own_Goes p e below (T104.setTop (mkF m 18 #[.val (.ref a1)] [(.ref a1), (.int ((0 : Int32) + (1 : Int32)))])) _
    obtain ⟨T105, X105, e105, st105⟩ := getF X104 hx hZ hown (host := "") (Or.inl (hw _ (List.mem_of_getElem? (i := 21) rfl))) Via.refl e104 F4 (g := (mkF m 18 #[.val (.ref a1)] [(.ref a1), (.int ((0 : Int32) + (1 : Int32)))])) rfl rfl (hb hby d6_18)
    refine own_st st105 ?_
    show own_Goes p e below (T105.setTop (mkF m 21 #[.val (.ref a1)] [(.ref r1), (.int ((0 : Int32) + (1 : Int32)))])) _
    refine own_st (own_len (pc := 21) (Ls := #[.val (.ref a1)]) (rest := [(.int ((0 : Int32) + (1 : Int32)))]) X105 hx hZ e105 V1 (hb hby d6_21)) ?_
    show own_Goes p e below (T105.setTop (mkF m 22 #[.val (.ref a1)] [(.int (1 : Int32)), (.int ((0 : Int32) + (1 : Int32)))])) _
    refine own_st (fun _ k => XS.icmpYes X105.here hx rfl (pc0 := 22) (pc' := 83) rfl (hb hby d6_22) rfl (flt (by decide : ¬ (((0 : Int32) + (1 : Int32)) < (1 : Int32)))).2.1 (by decide) (by decide) k) ?_
    show own_Goes p e below (T105.setTop (mkF m 83 #[.val (.ref a1)] [])) _
    exact own_retV X105 hx hlk hret (hb hby d6_83) (by decide) (by decide) e105 ⟨rfl, rfl, rfl⟩
  · refine own_st (fun _ k => XS.icmpYes X102.here hx rfl (pc0 := 8) (pc' := 83) rfl (hb hby d6_8) rfl (feq hc8_103).2 (by decide) (by decide) k) ?_
    show own_Goes p e below (T102.setTop (mkF m 83 #[.val (.ref a1)] [])) _
    exact own_retV X102 hx hlk hret (hb hby d6_83) (by decide) (by decide) e102 ⟨rfl, rfl, rfl⟩
theorem d7_0 : decode prog_77_method_19_code 0 = .ok (.aload_n 0, 1) := by decide +kernel
theorem d7_1 : decode prog_77_method_19_code 1 = .ok (.getfield 46, 3) := by decide +kernel
theorem d7_4 : decode prog_77_method_19_code 4 = .ok (.aload_n 0, 1) := by decide +kernel
theorem d7_5 : decode prog_77_method_19_code 5 = .ok (.getfield 40, 3) := by decide +kernel
theorem d7_8 : decode prog_77_method_19_code 8 = .ok (.if_icmp .eq 21, 3) := by decide +kernel
theorem d7_29 : decode prog_77_method_19_code 29 = .ok (.return_, 1) := by decide +kernel
theorem ef_7 (m : MethodId) (a1 : Addr) : entryFrame m #[(.ref a1)] 1 = mkF m 0 #[.val (.ref a1)] [] := by first | (simp [entryFrame, mkF, argsToLocals, Value.category]; done) | rfl
set_option maxRecDepth 65536 in
set_option maxHeartbeats 40000000 in
theorem rm7 (l : Launch) (Z : State) (a0 : Array Value) (hw : ∀ d ∈ tables_1, d.before a0 Z = true) (ws : List Jvm.Cond) (a1 : Addr) (h0 : Heap) (n0 : Nat) (Z0 : n0 ≤ h0.size) (F1 : Fld Z h0 a1 "com/example/forseti/forseti/core/SavedBytes$Input" "limit" "I" (.int (4 : Int32))) (F2 : Fld Z h0 a1 "com/example/forseti/forseti/core/SavedBytes$Input" "position" "I" (.int (4 : Int32))) :
    own_Ct l Z (⟨"com/example/forseti/forseti/core/SavedBytes$Input", "end", "()V"⟩ : MethodName) prog_77_method_19_code 1 none ws ({ frames := 0, cells := 0, slots := 0, locals := 0 } : Room) #[(.ref a1)] h0 (fun v h L => v = none ∧ L = [] ∧ h = h0) ({ frames := 0, cells := 0, slots := 0, locals := 0 } : Room).cells ({ frames := 0, cells := 0, slots := 0, locals := 0 } : Room).slots := by
  refine own_met (plainFor_of_name pn_com_example_forseti_forseti_core_SavedBytes_Input) (fun p e s m below meth c s₁ X0 hx hby hml hret hlk hnm hown hZ e0 => ?_)
  have hml : c.maxLocals = 1 := hml
  have N0 := Fr.nil n0
  refine own_st (fun _ k => castTop (ef_7 m a1) k) ?_
  show own_Goes p e below (s₁.setTop (mkF m 0 #[.val (.ref a1)] [])) _
  refine own_st (fun _ k => XS.aloadN X0.here hx rfl (hb hby d7_0) rfl rfl k) ?_
  show own_Goes p e below (s₁.setTop (mkF m 1 #[.val (.ref a1)] [(.ref a1)])) _
  obtain ⟨T101, X101, e101, st101⟩ := getF X0 hx hZ hown (host := "") (Or.inl (hw _ (List.mem_of_getElem? (i := 38) rfl))) Via.refl e0 F2 (g := (mkF m 1 #[.val (.ref a1)] [(.ref a1)])) rfl rfl (hb hby d7_1)
  refine own_st st101 ?_
  show own_Goes p e below (T101.setTop (mkF m 4 #[.val (.ref a1)] [(.int (4 : Int32))])) _
  refine own_st (fun _ k => XS.aloadN X101.here hx rfl (hb hby d7_4) rfl rfl k) ?_
  show own_Goes p e below (T101.setTop (mkF m 5 #[.val (.ref a1)] [(.ref a1), (.int (4 : Int32))])) _
  obtain ⟨T102, X102, e102, st102⟩ := getF X101 hx hZ hown (host := "") (Or.inl (hw _ (List.mem_of_getElem? (i := 27) rfl))) Via.refl e101 F1 (g := (mkF m 5 #[.val (.ref a1)] [(.ref a1), (.int (4 : Int32))])) rfl rfl (hb hby d7_5)
  refine own_st st102 ?_
  show own_Goes p e below (T102.setTop (mkF m 8 #[.val (.ref a1)] [(.int (4 : Int32)), (.int (4 : Int32))])) _
  refine own_st (fun _ k => XS.icmpYes X102.here hx rfl (pc0 := 8) (pc' := 29) rfl (hb hby d7_8) rfl (teq (by decide : (4 : Int32) = (4 : Int32))).1 (by decide) (by decide) k) ?_
  show own_Goes p e below (T102.setTop (mkF m 29 #[.val (.ref a1)] [])) _
  exact own_retV X102 hx hlk hret (hb hby d7_29) (by decide) (by decide) e102 ⟨rfl, rfl, rfl⟩
theorem d3_0 : decode prog_77_method_8_code 0 = .ok (.aload_n 0, 1) := by decide +kernel
theorem d3_1 : decode prog_77_method_8_code 1 = .ok (.lconst 1, 1) := by decide +kernel
theorem d3_2 : decode prog_77_method_8_code 2 = .ok (.invokevirtual 52, 3) := by decide +kernel
theorem d3_5 : decode prog_77_method_8_code 5 = .ok (.aload_n 0, 1) := by decide +kernel
theorem d3_6 : decode prog_77_method_8_code 6 = .ok (.getfield 37, 3) := by decide +kernel
theorem d3_9 : decode prog_77_method_8_code 9 = .ok (.aload_n 0, 1) := by decide +kernel
theorem d3_10 : decode prog_77_method_8_code 10 = .ok (.dup, 1) := by decide +kernel
theorem d3_11 : decode prog_77_method_8_code 11 = .ok (.getfield 46, 3) := by decide +kernel
theorem d3_14 : decode prog_77_method_8_code 14 = .ok (.dup_x1, 1) := by decide +kernel
theorem d3_15 : decode prog_77_method_8_code 15 = .ok (.iconst 1, 1) := by decide +kernel
theorem d3_16 : decode prog_77_method_8_code 16 = .ok (.iadd, 1) := by decide +kernel
theorem d3_17 : decode prog_77_method_8_code 17 = .ok (.putfield 46, 3) := by decide +kernel
theorem d3_20 : decode prog_77_method_8_code 20 = .ok (.baload, 1) := by decide +kernel
theorem d3_21 : decode prog_77_method_8_code 21 = .ok (.ireturn, 1) := by decide +kernel
theorem ef_3 (m : MethodId) (a1 : Addr) : entryFrame m #[(.ref a1)] 1 = mkF m 0 #[.val (.ref a1)] [] := by first | (simp [entryFrame, mkF, argsToLocals, Value.category]; done) | rfl
set_option maxRecDepth 65536 in
set_option maxHeartbeats 40000000 in
theorem rm3 (l : Launch) (Z : State) (a0 : Array Value) (hw : ∀ d ∈ tables_1, d.before a0 Z = true) (ws : List Jvm.Cond) (a1 q1 r1 : Addr) (kq : ClassId) (vs : List Value) (k1 x1 : Int32) (h0 : Heap) (n0 : Nat) (Z0 : n0 ≤ h0.size) (F1 : Fld Z h0 a1 "com/example/forseti/forseti/core/SavedBytes$Input" "bytes" "[B" (.ref q1)) (F2 : Fld Z h0 a1 "com/example/forseti/forseti/core/SavedBytes$Input" "limit" "I" (.int (4 : Int32))) (F3 : Fld Z h0 a1 "com/example/forseti/forseti/core/SavedBytes$Input" "position" "I" (.int k1)) (F4 : Fld Z h0 a1 "com/example/forseti/forseti/core/SavedBytes$Input" "pieces" "[[B" (.ref r1)) (F5 : Fld Z h0 a1 "com/example/forseti/forseti/core/SavedBytes$Input" "piece" "I" (.int (0 : Int32))) (E1 : Exa Z h0 a1 "com/example/forseti/forseti/core/SavedBytes$Input") (V1 : Arv Z h0 q1 kq .byte (4 : Int32) vs (.int (0 : Int32))) (g1 : n0 ≤ a1) (ne1 : q1 ≠ a1) (hz1 : ¬ k1 < 0 ∧ k1 < (4 : Int32)) (hv1 : vs.getD k1.toNatClampNeg (.int (0 : Int32)) = .int x1) (hn1 : ¬ ((0 : Int32) < XT.cmpL (1 : Int64) ((4 : Int32) - k1).toInt64)) :
    own_Ct l Z (⟨"com/example/forseti/forseti/core/SavedBytes$Input", "flag", "()I"⟩ : MethodName) prog_77_method_8_code 1 (some .int) ws ({ frames := 1, cells := 0, slots := 0, locals := 14 } : Room) #[(.ref a1)] h0 (fun v h L => v = some (.int x1) ∧ Fr n0 L ∧ Keep h0 h [a1] ∧ Fld Z h a1 "com/example/forseti/forseti/core/SavedBytes$Input" "bytes" "[B" (.ref q1) ∧ Fld Z h a1 "com/example/forseti/forseti/core/SavedBytes$Input" "limit" "I" (.int (4 : Int32)) ∧ Fld Z h a1 "com/example/forseti/forseti/core/SavedBytes$Input" "position" "I" (.int (k1 + (1 : Int32))) ∧ Fld Z h a1 "com/example/forseti/forseti/core/SavedBytes$Input" "pieces" "[[B" (.ref r1) ∧ Fld Z h a1 "com/example/forseti/forseti/core/SavedBytes$Input" "piece" "I" (.int (0 : Int32))) ({ frames := 1, cells := 0, slots := 0, locals := 14 } : Room).cells ({ frames := 1, cells := 0, slots := 0, locals := 14 } : Room).slots := by
  refine own_met (plainFor_of_name pn_com_example_forseti_forseti_core_SavedBytes_Input) (fun p e s m below meth c s₁ X0 hx hby hml hret hlk hnm hown hZ e0 => ?_)
  have hml : c.maxLocals = 1 := hml
  have N0 := Fr.nil n0
  refine own_st (fun _ k => castTop (ef_3 m a1) k) ?_
  show own_Goes p e below (s₁.setTop (mkF m 0 #[.val (.ref a1)] [])) _
  refine own_st (fun _ k => XS.aloadN X0.here hx rfl (hb hby d3_0) rfl rfl k) ?_
  show own_Goes p e below (s₁.setTop (mkF m 1 #[.val (.ref a1)] [(.ref a1)])) _
  refine own_st (fun _ k => XT.lconst X0.here hx rfl (hb hby d3_1) k) ?_
  show own_Goes p e below (s₁.setTop (mkF m 2 #[.val (.ref a1)] [(.long (1 : Int64)), (.ref a1)])) _
  obtain ⟨_, T101, h101, L101, X101, e101, ⟨rfl, rfl, q101⟩, st101⟩ := own_callP (argsL := [(.long (1 : Int64))]) (rest := []) (pc := 2) (W := 0) (Ls := #[.val (.ref a1)]) (S := [(.long (1 : Int64)), (.ref a1)]) X0 hx hZ hown (hw _ (List.mem_of_getElem? (i := 34) rfl)) (hw _ (List.mem_of_getElem? (i := 35) rfl)) (hw _ (List.mem_of_getElem? (i := 36) rfl)) (hw _ (List.mem_of_getElem? (i := 32) rfl)) rfl (hw _ (List.mem_of_getElem? (i := 4) rfl)) (hw _ (List.mem_of_getElem? (i := 37) rfl)) (by decide) (rm5 l Z a0 hw [] a1 (1 : Int64) (4 : Int32) k1 h0 n0 Z0 F2 F3 hn1) (by decide) (by decide) e0 E1 (by rw [hml]; rfl) (lenOf pd__J_V rfl) rfl (Nat.le_of_eq rfl) (hb hby d3_2) (by decide) (by decide)
  refine own_st st101 ?_
  show own_Goes p e below (T101.setTop (mkF m 5 #[.val (.ref a1)] [])) _
  refine own_st (fun _ k => XS.aloadN X101.here hx rfl (hb hby d3_5) rfl rfl k) ?_
  show own_Goes p e below (T101.setTop (mkF m 6 #[.val (.ref a1)] [(.ref a1)])) _
  obtain ⟨T102, X102, e102, st102⟩ := getF X101 hx hZ hown (host := "") (Or.inl (hw _ (List.mem_of_getElem? (i := 25) rfl))) Via.refl (e101.trans q101) F1 (g := (mkF m 6 #[.val (.ref a1)] [(.ref a1)])) rfl rfl (hb hby d3_6)
  refine own_st st102 ?_
  show own_Goes p e below (T102.setTop (mkF m 9 #[.val (.ref a1)] [(.ref q1)])) _
  refine own_st (fun _ k => XS.aloadN X102.here hx rfl (hb hby d3_9) rfl rfl k) ?_
  show own_Goes p e below (T102.setTop (mkF m 10 #[.val (.ref a1)] [(.ref a1), (.ref q1)])) _
  refine own_st (fun _ k => XS.dup X102.here hx rfl (hb hby d3_10) rfl rfl k) ?_
  show own_Goes p e below (T102.setTop (mkF m 11 #[.val (.ref a1)] [(.ref a1), (.ref a1), (.ref q1)])) _
  obtain ⟨T103, X103, e103, st103⟩ := getF X102 hx hZ hown (host := "") (Or.inl (hw _ (List.mem_of_getElem? (i := 38) rfl))) Via.refl e102 F3 (g := (mkF m 11 #[.val (.ref a1)] [(.ref a1), (.ref a1), (.ref q1)])) rfl rfl (hb hby d3_11)
  refine own_st st103 ?_
  show own_Goes p e below (T103.setTop (mkF m 14 #[.val (.ref a1)] [(.int k1), (.ref a1), (.ref q1)])) _
  refine own_st (fun _ k => XT.dupX1 X103.here hx rfl (hb hby d3_14) rfl rfl rfl k) ?_
  show own_Goes p e below (T103.setTop (mkF m 15 #[.val (.ref a1)] [(.int k1), (.ref a1), (.int k1), (.ref q1)])) _
  refine own_st (fun _ k => XS.iconst X103.here hx rfl (hb hby d3_15) k) ?_
  show own_Goes p e below (T103.setTop (mkF m 16 #[.val (.ref a1)] [(.int (1 : Int32)), (.int k1), (.ref a1), (.int k1), (.ref q1)])) _
  refine own_st (fun _ k => XS.iadd X103.here hx rfl (hb hby d3_16) rfl k) ?_
  show own_Goes p e below (T103.setTop (mkF m 17 #[.val (.ref a1)] [(.int (k1 + (1 : Int32))), (.ref a1), (.int k1), (.ref q1)])) _
  obtain ⟨T104, h104, X104, e104, W104, st104⟩ := putF X103 hx hZ hown (host := "") (Or.inl (hw _ (List.mem_of_getElem? (i := 38) rfl))) Via.refl e103 F3 E1 (Or.inl (hw _ (List.mem_of_getElem? (i := 39) rfl))) (hw _ (List.mem_of_getElem? (i := 3) rfl)) (ty := .int) (by decide) rfl rfl (g := (mkF m 17 #[.val (.ref a1)] [(.int (k1 + (1 : Int32))), (.ref a1), (.int k1), (.ref q1)])) rfl rfl (hb hby d3_17)
  have Fw104 := F3.same W104
  have N104 := Fr.snoc X104 N0 g1
  refine own_st st104 ?_
  show own_Goes p e below (T104.setTop (mkF m 20 #[.val (.ref a1)] [(.int k1), (.ref q1)])) _
  have f105 := (V1.other W104 ne1)
  refine own_st (own_ldB (v := (.int x1)) (pc := 20) (Ls := #[.val (.ref a1)]) (rest := []) (j := k1) X104 hx hZ e104 f105 hz1 hv1 (hb hby d3_20)) ?_
  show own_Goes p e below (T104.setTop (mkF m 21 #[.val (.ref a1)] [(.int x1)])) _
  have f106 := ((Keep.refl h0 [a1]).wr W104 (Or.inl (by simp)))
  have f107 := (F1.other W104 (Or.inr (slot_ne (t := (.array .byte)) (t' := .int) (Or.inl (hw _ (List.mem_of_getElem? (i := 26) rfl))) (Or.inl (hw _ (List.mem_of_getElem? (i := 39) rfl))) (by decide) (by decide) (by decide))))
  have f108 := (F2.other W104 (Or.inr (slot_ne (t := .int) (t' := .int) (Or.inl (hw _ (List.mem_of_getElem? (i := 28) rfl))) (Or.inl (hw _ (List.mem_of_getElem? (i := 39) rfl))) (by decide) (by decide) (by decide))))
  have f109 := (F4.other W104 (Or.inr (slot_ne (t := (.array (.array .byte))) (t' := .int) (Or.inr (hw _ (List.mem_of_getElem? (i := 22) rfl))) (Or.inl (hw _ (List.mem_of_getElem? (i := 39) rfl))) (by decide) (by decide) (by decide))))
  have f110 := (F5.other W104 (Or.inr (slot_ne (t := .int) (t' := .int) (Or.inl (hw _ (List.mem_of_getElem? (i := 51) rfl))) (Or.inl (hw _ (List.mem_of_getElem? (i := 39) rfl))) (by decide) (by decide) (by decide))))
  exact own_retI X104 hx hlk hret (hb hby d3_21) (by decide) (by decide) e104 ⟨rfl, N104, f106, f107, f108, Fw104, f109, f110⟩
theorem d2_0 : decode prog_77_method_4_code 0 = .ok (.aload_n 0, 1) := by decide +kernel
theorem d2_1 : decode prog_77_method_4_code 1 = .ok (.invokespecial 22, 3) := by decide +kernel
theorem d2_4 : decode prog_77_method_4_code 4 = .ok (.aload_n 0, 1) := by decide +kernel
theorem d2_5 : decode prog_77_method_4_code 5 = .ok (.iconst 0, 1) := by decide +kernel
theorem d2_6 : decode prog_77_method_4_code 6 = .ok (.anewarray 27, 3) := by decide +kernel
theorem d2_9 : decode prog_77_method_4_code 9 = .ok (.putfield 14, 3) := by decide +kernel
theorem d2_12 : decode prog_77_method_4_code 12 = .ok (.aload_n 0, 1) := by decide +kernel
theorem d2_13 : decode prog_77_method_4_code 13 = .ok (.aload_n 1, 1) := by decide +kernel
theorem d2_14 : decode prog_77_method_4_code 14 = .ok (.putfield 29, 3) := by decide +kernel
theorem d2_17 : decode prog_77_method_4_code 17 = .ok (.aload_n 0, 1) := by decide +kernel
theorem d2_18 : decode prog_77_method_4_code 18 = .ok (.iload_n 2, 1) := by decide +kernel
theorem d2_19 : decode prog_77_method_4_code 19 = .ok (.putfield 33, 3) := by decide +kernel
theorem d2_22 : decode prog_77_method_4_code 22 = .ok (.aload_n 0, 1) := by decide +kernel
theorem d2_23 : decode prog_77_method_4_code 23 = .ok (.aload_n 1, 1) := by decide +kernel
theorem d2_24 : decode prog_77_method_4_code 24 = .ok (.iconst 0, 1) := by decide +kernel
theorem d2_25 : decode prog_77_method_4_code 25 = .ok (.aaload, 1) := by decide +kernel
theorem d2_26 : decode prog_77_method_4_code 26 = .ok (.putfield 37, 3) := by decide +kernel
theorem d2_29 : decode prog_77_method_4_code 29 = .ok (.aload_n 0, 1) := by decide +kernel
theorem d2_30 : decode prog_77_method_4_code 30 = .ok (.aload_n 1, 1) := by decide +kernel
theorem d2_31 : decode prog_77_method_4_code 31 = .ok (.arraylength, 1) := by decide +kernel
theorem d2_32 : decode prog_77_method_4_code 32 = .ok (.iconst 1, 1) := by decide +kernel
theorem d2_33 : decode prog_77_method_4_code 33 = .ok (.if_icmp .ne 7, 3) := by decide +kernel
theorem d2_36 : decode prog_77_method_4_code 36 = .ok (.iload_n 2, 1) := by decide +kernel
theorem d2_37 : decode prog_77_method_4_code 37 = .ok (.goto 8, 3) := by decide +kernel
theorem d2_45 : decode prog_77_method_4_code 45 = .ok (.putfield 40, 3) := by decide +kernel
theorem d2_48 : decode prog_77_method_4_code 48 = .ok (.return_, 1) := by decide +kernel
theorem ef_2 (m : MethodId) (a1 : Addr) (r1 : Addr) (z1 : Int32) : entryFrame m #[(.ref a1), (.ref r1), (.int z1)] 3 = mkF m 0 #[.val (.ref a1), .val (.ref r1), .val (.int z1)] [] := by first | (simp [entryFrame, mkF, argsToLocals, Value.category]; done) | rfl
set_option maxRecDepth 65536 in
set_option maxHeartbeats 40000000 in
theorem rm2 (l : Launch) (Z : State) (a0 : Array Value) (hw : ∀ d ∈ tables_1, d.before a0 Z = true) (ws : List Jvm.Cond) (a1 r1 : Addr) (z1 : Int32) (q1 : Addr) (kr : ClassId) (h0 : Heap) (n0 : Nat) (Z0 : n0 ≤ h0.size) (D_terms : Fld Z h0 a1 "com/example/forseti/forseti/core/SavedBytes$Input" "terms" "[Ljava/lang/String;" .null) (D_pieces : Fld Z h0 a1 "com/example/forseti/forseti/core/SavedBytes$Input" "pieces" "[[B" .null) (D_lastLimit : Fld Z h0 a1 "com/example/forseti/forseti/core/SavedBytes$Input" "lastLimit" "I" (.int (0 : Int32))) (D_bytes : Fld Z h0 a1 "com/example/forseti/forseti/core/SavedBytes$Input" "bytes" "[B" .null) (D_limit : Fld Z h0 a1 "com/example/forseti/forseti/core/SavedBytes$Input" "limit" "I" (.int (0 : Int32))) (D_position : Fld Z h0 a1 "com/example/forseti/forseti/core/SavedBytes$Input" "position" "I" (.int (0 : Int32))) (D_piece : Fld Z h0 a1 "com/example/forseti/forseti/core/SavedBytes$Input" "piece" "I" (.int (0 : Int32))) (E1 : Exa Z h0 a1 "com/example/forseti/forseti/core/SavedBytes$Input") (V1 : Arv Z h0 r1 kr (.array .byte) (1 : Int32) [(.ref q1)] .null) (g1 : n0 ≤ a1) (ne1 : a1 ≠ r1) :
    own_Ct l Z (⟨"com/example/forseti/forseti/core/SavedBytes$Input", "<init>", "([[BI)V"⟩ : MethodName) prog_77_method_4_code 3 none ws ({ frames := 1, cells := 1, slots := 0, locals := 12 } : Room) #[(.ref a1), (.ref r1), (.int z1)] h0 (fun v h L => v = none ∧ Fr n0 L ∧ Keep h0 h [a1] ∧ Fld Z h a1 "com/example/forseti/forseti/core/SavedBytes$Input" "bytes" "[B" (.ref q1) ∧ Fld Z h a1 "com/example/forseti/forseti/core/SavedBytes$Input" "limit" "I" (.int z1) ∧ Fld Z h a1 "com/example/forseti/forseti/core/SavedBytes$Input" "position" "I" (.int (0 : Int32)) ∧ Fld Z h a1 "com/example/forseti/forseti/core/SavedBytes$Input" "pieces" "[[B" (.ref r1) ∧ Fld Z h a1 "com/example/forseti/forseti/core/SavedBytes$Input" "piece" "I" (.int (0 : Int32))) ({ frames := 1, cells := 1, slots := 0, locals := 12 } : Room).cells ({ frames := 1, cells := 1, slots := 0, locals := 12 } : Room).slots := by
  refine own_met (plainFor_of_name pn_com_example_forseti_forseti_core_SavedBytes_Input) (fun p e s m below meth c s₁ X0 hx hby hml hret hlk hnm hown hZ e0 => ?_)
  have hml : c.maxLocals = 3 := hml
  have N0 := Fr.nil n0
  refine own_st (fun _ k => castTop (ef_2 m a1 r1 z1) k) ?_
  show own_Goes p e below (s₁.setTop (mkF m 0 #[.val (.ref a1), .val (.ref r1), .val (.int z1)] [])) _
  refine own_st (fun _ k => XS.aloadN X0.here hx rfl (hb hby d2_0) rfl rfl k) ?_
  show own_Goes p e below (s₁.setTop (mkF m 1 #[.val (.ref a1), .val (.ref r1), .val (.int z1)] [(.ref a1)])) _
  obtain ⟨T101, X101, e101, st101⟩ := initO X0 hx hZ hown (hw _ (List.mem_of_getElem? (i := 14) rfl)) (hw _ (List.mem_of_getElem? (i := 15) rfl)) (hw _ (List.mem_of_getElem? (i := 16) rfl)) e0 (g := (mkF m 1 #[.val (.ref a1), .val (.ref r1), .val (.int z1)] [(.ref a1)])) rfl (by rw [hml]; rfl) rfl (hb hby d2_1) (by decide) (W := 0) (by show 2 * 0 + _ ≤ _; exact Nat.le_of_eq rfl) (by decide)
  refine own_st st101 ?_
  show own_Goes p e below (T101.setTop (mkF m 4 #[.val (.ref a1), .val (.ref r1), .val (.int z1)] [])) _
  refine own_st (fun _ k => XS.aloadN X101.here hx rfl (hb hby d2_4) rfl rfl k) ?_
  show own_Goes p e below (T101.setTop (mkF m 5 #[.val (.ref a1), .val (.ref r1), .val (.int z1)] [(.ref a1)])) _
  refine own_st (fun _ k => XS.iconst X101.here hx rfl (hb hby d2_5) k) ?_
  show own_Goes p e below (T101.setTop (mkF m 6 #[.val (.ref a1), .val (.ref r1), .val (.int z1)] [(.int (0 : Int32)), (.ref a1)])) _
  obtain ⟨T102, h102, k102, X102, e102, E102, A102, O102, st102⟩ := newR X101 hx hZ hown (hw _ (List.mem_of_getElem? (i := 17) rfl)) (hw _ (List.mem_of_getElem? (i := 18) rfl)) e101 (g := (mkF m 6 #[.val (.ref a1), .val (.ref r1), .val (.int z1)] [(.int (0 : Int32)), (.ref a1)])) rfl (hb hby d2_6) rfl (by decide) (cap := 0) (by decide) (by decide) (by decide) (by decide)
  obtain ⟨b102, g102⟩ : ∃ z, z = h0.size := ⟨_, rfl⟩
  rw [← g102] at A102 st102
  have g_b102 : n0 ≤ b102 := Nat.le_trans Z0 (Nat.le_of_eq g102.symm)
  have sz_b102 : h0.size ≤ b102 := Nat.le_trans (Keep.refl h0 [a1]).1 (Nat.le_of_eq g102.symm)
  have ne_a1_b102 : a1 ≠ b102 := by rw [g102]; exact Nat.ne_of_lt (E1).lt
  have ne_r1_b102 : r1 ≠ b102 := by rw [g102]; exact Nat.ne_of_lt (V1).lt
  have V_b102 : Arv Z h102 b102 k102 (.object "java/lang/String") (0 : Int32) [] .null := Arv.pad (Arv.new A102 (by decide)) (pad_rep [] _ 0)
  refine own_st st102 ?_
  show own_Goes p e below (T102.setTop (mkF m 9 #[.val (.ref a1), .val (.ref r1), .val (.int z1)] [(.ref b102), (.ref a1)])) _
  have f103 := (D_terms.ext E102)
  have f104 := (E1.ext E102)
  obtain ⟨T105, h105, X105, e105, W105, st105⟩ := putF X102 hx hZ hown (host := "") (Or.inl (hw _ (List.mem_of_getElem? (i := 19) rfl))) Via.refl e102 f103 f104 (Or.inl (hw _ (List.mem_of_getElem? (i := 20) rfl))) (hw _ (List.mem_of_getElem? (i := 3) rfl)) (ty := (.array (.object "java/lang/String"))) (by decide) rfl rfl (g := (mkF m 9 #[.val (.ref a1), .val (.ref r1), .val (.int z1)] [(.ref b102), (.ref a1)])) rfl rfl (hb hby d2_9)
  have Fw105 := f103.same W105
  have N105 := Fr.snoc X105 N0 g1
  refine own_st st105 ?_
  show own_Goes p e below (T105.setTop (mkF m 12 #[.val (.ref a1), .val (.ref r1), .val (.int z1)] [])) _
  refine own_st (fun _ k => XS.aloadN X105.here hx rfl (hb hby d2_12) rfl rfl k) ?_
  show own_Goes p e below (T105.setTop (mkF m 13 #[.val (.ref a1), .val (.ref r1), .val (.int z1)] [(.ref a1)])) _
  refine own_st (fun _ k => XS.aloadN X105.here hx rfl (hb hby d2_13) rfl rfl k) ?_
  show own_Goes p e below (T105.setTop (mkF m 14 #[.val (.ref a1), .val (.ref r1), .val (.int z1)] [(.ref r1), (.ref a1)])) _
  have f106 := ((D_pieces.ext E102).other W105 (Or.inr (slot_ne (t := (.array (.array .byte))) (t' := (.array (.object "java/lang/String"))) (Or.inr (hw _ (List.mem_of_getElem? (i := 22) rfl))) (Or.inl (hw _ (List.mem_of_getElem? (i := 20) rfl))) (by decide) (by decide) (by decide))))
  have f107 := (f104.wr W105)
  obtain ⟨T108, h108, X108, e108, W108, st108⟩ := putF X105 hx hZ hown (host := "") (Or.inl (hw _ (List.mem_of_getElem? (i := 21) rfl))) Via.refl e105 f106 f107 (Or.inr ⟨(hw _ (List.mem_of_getElem? (i := 22) rfl)), rfl, hnm⟩) (hw _ (List.mem_of_getElem? (i := 3) rfl)) (ty := (.array (.array .byte))) (by decide) rfl rfl (g := (mkF m 14 #[.val (.ref a1), .val (.ref r1), .val (.int z1)] [(.ref r1), (.ref a1)])) rfl rfl (hb hby d2_14)
  have Fw108 := f106.same W108
  have N108 := Fr.snoc X108 N105 g1
  refine own_st st108 ?_
  show own_Goes p e below (T108.setTop (mkF m 17 #[.val (.ref a1), .val (.ref r1), .val (.int z1)] [])) _
  refine own_st (fun _ k => XS.aloadN X108.here hx rfl (hb hby d2_17) rfl rfl k) ?_
  show own_Goes p e below (T108.setTop (mkF m 18 #[.val (.ref a1), .val (.ref r1), .val (.int z1)] [(.ref a1)])) _
  refine own_st (fun _ k => XS.iloadN X108.here hx rfl (hb hby d2_18) rfl k) ?_
  show own_Goes p e below (T108.setTop (mkF m 19 #[.val (.ref a1), .val (.ref r1), .val (.int z1)] [(.int z1), (.ref a1)])) _
  have f109 := (((D_lastLimit.ext E102).other W105 (Or.inr (slot_ne (t := .int) (t' := (.array (.object "java/lang/String"))) (Or.inr (hw _ (List.mem_of_getElem? (i := 24) rfl))) (Or.inl (hw _ (List.mem_of_getElem? (i := 20) rfl))) (by decide) (by decide) (by decide)))).other W108 (Or.inr (slot_ne (t := .int) (t' := (.array (.array .byte))) (Or.inr (hw _ (List.mem_of_getElem? (i := 24) rfl))) (Or.inr (hw _ (List.mem_of_getElem? (i := 22) rfl))) (by decide) (by decide) (by decide))))
  have f110 := (f107.wr W108)
  obtain ⟨T111, h111, X111, e111, W111, st111⟩ := putF X108 hx hZ hown (host := "") (Or.inl (hw _ (List.mem_of_getElem? (i := 23) rfl))) Via.refl e108 f109 f110 (Or.inr ⟨(hw _ (List.mem_of_getElem? (i := 24) rfl)), rfl, hnm⟩) (hw _ (List.mem_of_getElem? (i := 3) rfl)) (ty := .int) (by decide) rfl rfl (g := (mkF m 19 #[.val (.ref a1), .val (.ref r1), .val (.int z1)] [(.int z1), (.ref a1)])) rfl rfl (hb hby d2_19)
  have Fw111 := f109.same W111
  have N111 := Fr.snoc X111 N108 g1
  refine own_st st111 ?_
  show own_Goes p e below (T111.setTop (mkF m 22 #[.val (.ref a1), .val (.ref r1), .val (.int z1)] [])) _
  refine own_st (fun _ k => XS.aloadN X111.here hx rfl (hb hby d2_22) rfl rfl k) ?_
  show own_Goes p e below (T111.setTop (mkF m 23 #[.val (.ref a1), .val (.ref r1), .val (.int z1)] [(.ref a1)])) _
  refine own_st (fun _ k => XS.aloadN X111.here hx rfl (hb hby d2_23) rfl rfl k) ?_
  show own_Goes p e below (T111.setTop (mkF m 24 #[.val (.ref a1), .val (.ref r1), .val (.int z1)] [(.ref r1), (.ref a1)])) _
  refine own_st (fun _ k => XS.iconst X111.here hx rfl (hb hby d2_24) k) ?_
  show own_Goes p e below (T111.setTop (mkF m 25 #[.val (.ref a1), .val (.ref r1), .val (.int z1)] [(.int (0 : Int32)), (.ref r1), (.ref a1)])) _
  have f112 := ((((V1.ext E102).other W105 (Ne.symm ne1)).other W108 (Ne.symm ne1)).other W111 (Ne.symm ne1))
  refine own_st (own_ldR (v := (.ref q1)) (pc := 25) (Ls := #[.val (.ref a1), .val (.ref r1), .val (.int z1)]) (rest := [(.ref a1)]) (j := (0 : Int32)) X111 hx hZ e111 f112 rfl (by decide) rfl (hb hby d2_25)) ?_
  show own_Goes p e below (T111.setTop (mkF m 26 #[.val (.ref a1), .val (.ref r1), .val (.int z1)] [(.ref q1), (.ref a1)])) _
  have f113 := ((((D_bytes.ext E102).other W105 (Or.inr (slot_ne (t := (.array .byte)) (t' := (.array (.object "java/lang/String"))) (Or.inl (hw _ (List.mem_of_getElem? (i := 26) rfl))) (Or.inl (hw _ (List.mem_of_getElem? (i := 20) rfl))) (by decide) (by decide) (by decide)))).other W108 (Or.inr (slot_ne (t := (.array .byte)) (t' := (.array (.array .byte))) (Or.inl (hw _ (List.mem_of_getElem? (i := 26) rfl))) (Or.inr (hw _ (List.mem_of_getElem? (i := 22) rfl))) (by decide) (by decide) (by decide)))).other W111 (Or.inr (slot_ne (t := (.array .byte)) (t' := .int) (Or.inl (hw _ (List.mem_of_getElem? (i := 26) rfl))) (Or.inr (hw _ (List.mem_of_getElem? (i := 24) rfl))) (by decide) (by decide) (by decide))))
  have f114 := (f110.wr W111)
  obtain ⟨T115, h115, X115, e115, W115, st115⟩ := putF X111 hx hZ hown (host := "") (Or.inl (hw _ (List.mem_of_getElem? (i := 25) rfl))) Via.refl e111 f113 f114 (Or.inl (hw _ (List.mem_of_getElem? (i := 26) rfl))) (hw _ (List.mem_of_getElem? (i := 3) rfl)) (ty := (.array .byte)) (by decide) rfl rfl (g := (mkF m 26 #[.val (.ref a1), .val (.ref r1), .val (.int z1)] [(.ref q1), (.ref a1)])) rfl rfl (hb hby d2_26)
  have Fw115 := f113.same W115
  have N115 := Fr.snoc X115 N111 g1
  refine own_st st115 ?_
  show own_Goes p e below (T115.setTop (mkF m 29 #[.val (.ref a1), .val (.ref r1), .val (.int z1)] [])) _
  refine own_st (fun _ k => XS.aloadN X115.here hx rfl (hb hby d2_29) rfl rfl k) ?_
  show own_Goes p e below (T115.setTop (mkF m 30 #[.val (.ref a1), .val (.ref r1), .val (.int z1)] [(.ref a1)])) _
  refine own_st (fun _ k => XS.aloadN X115.here hx rfl (hb hby d2_30) rfl rfl k) ?_
  show own_Goes p e below (T115.setTop (mkF m 31 #[.val (.ref a1), .val (.ref r1), .val (.int z1)] [(.ref r1), (.ref a1)])) _
  have f116 := (f112.other W115 (Ne.symm ne1))
  refine own_st (own_len (pc := 31) (Ls := #[.val (.ref a1), .val (.ref r1), .val (.int z1)]) (rest := [(.ref a1)]) X115 hx hZ e115 f116 (hb hby d2_31)) ?_
  show own_Goes p e below (T115.setTop (mkF m 32 #[.val (.ref a1), .val (.ref r1), .val (.int z1)] [(.int (1 : Int32)), (.ref a1)])) _
  refine own_st (fun _ k => XS.iconst X115.here hx rfl (hb hby d2_32) k) ?_
  show own_Goes p e below (T115.setTop (mkF m 33 #[.val (.ref a1), .val (.ref r1), .val (.int z1)] [(.int (1 : Int32)), (.int (1 : Int32)), (.ref a1)])) _
  refine own_st (fun _ k => XS.icmpNo X115.here hx rfl (hb hby d2_33) rfl (teq (by decide : (1 : Int32) = (1 : Int32))).2 k) ?_
  show own_Goes p e below (T115.setTop (mkF m 36 #[.val (.ref a1), .val (.ref r1), .val (.int z1)] [(.ref a1)])) _
  refine own_st (fun _ k => XS.iloadN X115.here hx rfl (hb hby d2_36) rfl k) ?_
  show own_Goes p e below (T115.setTop (mkF m 37 #[.val (.ref a1), .val (.ref r1), .val (.int z1)] [(.int z1), (.ref a1)])) _
  refine own_st (fun _ k => XS.goto X115.here hx rfl (pc0 := 37) (pc' := 45) rfl (hb hby d2_37) (by decide) (by decide) k) ?_
  show own_Goes p e below (T115.setTop (mkF m 45 #[.val (.ref a1), .val (.ref r1), .val (.int z1)] [(.int z1), (.ref a1)])) _
  have f117 := (((((D_limit.ext E102).other W105 (Or.inr (slot_ne (t := .int) (t' := (.array (.object "java/lang/String"))) (Or.inl (hw _ (List.mem_of_getElem? (i := 28) rfl))) (Or.inl (hw _ (List.mem_of_getElem? (i := 20) rfl))) (by decide) (by decide) (by decide)))).other W108 (Or.inr (slot_ne (t := .int) (t' := (.array (.array .byte))) (Or.inl (hw _ (List.mem_of_getElem? (i := 28) rfl))) (Or.inr (hw _ (List.mem_of_getElem? (i := 22) rfl))) (by decide) (by decide) (by decide)))).other W111 (Or.inr (slot_ne (t := .int) (t' := .int) (Or.inl (hw _ (List.mem_of_getElem? (i := 28) rfl))) (Or.inr (hw _ (List.mem_of_getElem? (i := 24) rfl))) (by decide) (by decide) (by decide)))).other W115 (Or.inr (slot_ne (t := .int) (t' := (.array .byte)) (Or.inl (hw _ (List.mem_of_getElem? (i := 28) rfl))) (Or.inl (hw _ (List.mem_of_getElem? (i := 26) rfl))) (by decide) (by decide) (by decide))))
  have f118 := (f114.wr W115)
  obtain ⟨T119, h119, X119, e119, W119, st119⟩ := putF X115 hx hZ hown (host := "") (Or.inl (hw _ (List.mem_of_getElem? (i := 27) rfl))) Via.refl e115 f117 f118 (Or.inl (hw _ (List.mem_of_getElem? (i := 28) rfl))) (hw _ (List.mem_of_getElem? (i := 3) rfl)) (ty := .int) (by decide) rfl rfl (g := (mkF m 45 #[.val (.ref a1), .val (.ref r1), .val (.int z1)] [(.int z1), (.ref a1)])) rfl rfl (hb hby d2_45)
  have Fw119 := f117.same W119
  have N119 := Fr.snoc X119 N115 g1
  refine own_st st119 ?_
  show own_Goes p e below (T119.setTop (mkF m 48 #[.val (.ref a1), .val (.ref r1), .val (.int z1)] [])) _
  have f120 := (((((((Keep.refl h0 [a1]).ext E102).wr W105 (Or.inl (by simp))).wr W108 (Or.inl (by simp))).wr W111 (Or.inl (by simp))).wr W115 (Or.inl (by simp))).wr W119 (Or.inl (by simp)))
  have f121 := (Fw115.other W119 (Or.inr (slot_ne (t := (.array .byte)) (t' := .int) (Or.inl (hw _ (List.mem_of_getElem? (i := 26) rfl))) (Or.inl (hw _ (List.mem_of_getElem? (i := 28) rfl))) (by decide) (by decide) (by decide))))
  have f122 := ((((((D_position.ext E102).other W105 (Or.inr (slot_ne (t := .int) (t' := (.array (.object "java/lang/String"))) (Or.inl (hw _ (List.mem_of_getElem? (i := 39) rfl))) (Or.inl (hw _ (List.mem_of_getElem? (i := 20) rfl))) (by decide) (by decide) (by decide)))).other W108 (Or.inr (slot_ne (t := .int) (t' := (.array (.array .byte))) (Or.inl (hw _ (List.mem_of_getElem? (i := 39) rfl))) (Or.inr (hw _ (List.mem_of_getElem? (i := 22) rfl))) (by decide) (by decide) (by decide)))).other W111 (Or.inr (slot_ne (t := .int) (t' := .int) (Or.inl (hw _ (List.mem_of_getElem? (i := 39) rfl))) (Or.inr (hw _ (List.mem_of_getElem? (i := 24) rfl))) (by decide) (by decide) (by decide)))).other W115 (Or.inr (slot_ne (t := .int) (t' := (.array .byte)) (Or.inl (hw _ (List.mem_of_getElem? (i := 39) rfl))) (Or.inl (hw _ (List.mem_of_getElem? (i := 26) rfl))) (by decide) (by decide) (by decide)))).other W119 (Or.inr (slot_ne (t := .int) (t' := .int) (Or.inl (hw _ (List.mem_of_getElem? (i := 39) rfl))) (Or.inl (hw _ (List.mem_of_getElem? (i := 28) rfl))) (by decide) (by decide) (by decide))))
  have f123 := (((Fw108.other W111 (Or.inr (slot_ne (t := (.array (.array .byte))) (t' := .int) (Or.inr (hw _ (List.mem_of_getElem? (i := 22) rfl))) (Or.inr (hw _ (List.mem_of_getElem? (i := 24) rfl))) (by decide) (by decide) (by decide)))).other W115 (Or.inr (slot_ne (t := (.array (.array .byte))) (t' := (.array .byte)) (Or.inr (hw _ (List.mem_of_getElem? (i := 22) rfl))) (Or.inl (hw _ (List.mem_of_getElem? (i := 26) rfl))) (by decide) (by decide) (by decide)))).other W119 (Or.inr (slot_ne (t := (.array (.array .byte))) (t' := .int) (Or.inr (hw _ (List.mem_of_getElem? (i := 22) rfl))) (Or.inl (hw _ (List.mem_of_getElem? (i := 28) rfl))) (by decide) (by decide) (by decide))))
  have f124 := ((((((D_piece.ext E102).other W105 (Or.inr (slot_ne (t := .int) (t' := (.array (.object "java/lang/String"))) (Or.inl (hw _ (List.mem_of_getElem? (i := 51) rfl))) (Or.inl (hw _ (List.mem_of_getElem? (i := 20) rfl))) (by decide) (by decide) (by decide)))).other W108 (Or.inr (slot_ne (t := .int) (t' := (.array (.array .byte))) (Or.inl (hw _ (List.mem_of_getElem? (i := 51) rfl))) (Or.inr (hw _ (List.mem_of_getElem? (i := 22) rfl))) (by decide) (by decide) (by decide)))).other W111 (Or.inr (slot_ne (t := .int) (t' := .int) (Or.inl (hw _ (List.mem_of_getElem? (i := 51) rfl))) (Or.inr (hw _ (List.mem_of_getElem? (i := 24) rfl))) (by decide) (by decide) (by decide)))).other W115 (Or.inr (slot_ne (t := .int) (t' := (.array .byte)) (Or.inl (hw _ (List.mem_of_getElem? (i := 51) rfl))) (Or.inl (hw _ (List.mem_of_getElem? (i := 26) rfl))) (by decide) (by decide) (by decide)))).other W119 (Or.inr (slot_ne (t := .int) (t' := .int) (Or.inl (hw _ (List.mem_of_getElem? (i := 51) rfl))) (Or.inl (hw _ (List.mem_of_getElem? (i := 28) rfl))) (by decide) (by decide) (by decide))))
  exact own_retV X119 hx hlk hret (hb hby d2_48) (by decide) (by decide) e119 ⟨rfl, N119, f120, f121, Fw119, f122, f123, f124⟩
theorem d1_0 : decode prog_77_method_1_code 0 = .ok (.aload_n 0, 1) := by decide +kernel
theorem d1_1 : decode prog_77_method_1_code 1 = .ok (.iconst 1, 1) := by decide +kernel
theorem d1_2 : decode prog_77_method_1_code 2 = .ok (.anewarray 3, 3) := by decide +kernel
theorem d1_5 : decode prog_77_method_1_code 5 = .ok (.dup, 1) := by decide +kernel
theorem d1_6 : decode prog_77_method_1_code 6 = .ok (.iconst 0, 1) := by decide +kernel
theorem d1_7 : decode prog_77_method_1_code 7 = .ok (.aload_n 1, 1) := by decide +kernel
theorem d1_8 : decode prog_77_method_1_code 8 = .ok (.aastore, 1) := by decide +kernel
theorem d1_9 : decode prog_77_method_1_code 9 = .ok (.aload_n 1, 1) := by decide +kernel
theorem d1_10 : decode prog_77_method_1_code 10 = .ok (.arraylength, 1) := by decide +kernel
theorem d1_11 : decode prog_77_method_1_code 11 = .ok (.invokespecial 5, 3) := by decide +kernel
theorem d1_14 : decode prog_77_method_1_code 14 = .ok (.return_, 1) := by decide +kernel
theorem ef_1 (m : MethodId) (a1 : Addr) (q1 : Addr) : entryFrame m #[(.ref a1), (.ref q1)] 2 = mkF m 0 #[.val (.ref a1), .val (.ref q1)] [] := by first | (simp [entryFrame, mkF, argsToLocals, Value.category]; done) | rfl
set_option maxRecDepth 65536 in
set_option maxHeartbeats 40000000 in
theorem rm1 (l : Launch) (Z : State) (a0 : Array Value) (hw : ∀ d ∈ tables_1, d.before a0 Z = true) (ws : List Jvm.Cond) (a1 q1 : Addr) (kq : ClassId) (vs : List Value) (h0 : Heap) (n0 : Nat) (Z0 : n0 ≤ h0.size) (D_terms : Fld Z h0 a1 "com/example/forseti/forseti/core/SavedBytes$Input" "terms" "[Ljava/lang/String;" .null) (D_pieces : Fld Z h0 a1 "com/example/forseti/forseti/core/SavedBytes$Input" "pieces" "[[B" .null) (D_lastLimit : Fld Z h0 a1 "com/example/forseti/forseti/core/SavedBytes$Input" "lastLimit" "I" (.int (0 : Int32))) (D_bytes : Fld Z h0 a1 "com/example/forseti/forseti/core/SavedBytes$Input" "bytes" "[B" .null) (D_limit : Fld Z h0 a1 "com/example/forseti/forseti/core/SavedBytes$Input" "limit" "I" (.int (0 : Int32))) (D_position : Fld Z h0 a1 "com/example/forseti/forseti/core/SavedBytes$Input" "position" "I" (.int (0 : Int32))) (D_piece : Fld Z h0 a1 "com/example/forseti/forseti/core/SavedBytes$Input" "piece" "I" (.int (0 : Int32))) (E1 : Exa Z h0 a1 "com/example/forseti/forseti/core/SavedBytes$Input") (V1 : Arv Z h0 q1 kq .byte (4 : Int32) vs (.int (0 : Int32))) (E2 : Exa Z h0 q1 "[B") (g1 : n0 ≤ a1) (ne1 : q1 ≠ a1) :
    own_Ct l Z (⟨"com/example/forseti/forseti/core/SavedBytes$Input", "<init>", "([B)V"⟩ : MethodName) prog_77_method_1_code 2 none ws ({ frames := 2, cells := 2, slots := 1, locals := 26 } : Room) #[(.ref a1), (.ref q1)] h0 (fun v h L => v = none ∧ Fr n0 L ∧ Keep h0 h [a1] ∧ ∃ (r1 : Addr) (kr : ClassId), a1 ≠ r1 ∧ Arv Z h r1 kr (.array .byte) (1 : Int32) [(.ref q1)] .null ∧ Fld Z h a1 "com/example/forseti/forseti/core/SavedBytes$Input" "bytes" "[B" (.ref q1) ∧ Fld Z h a1 "com/example/forseti/forseti/core/SavedBytes$Input" "limit" "I" (.int (4 : Int32)) ∧ Fld Z h a1 "com/example/forseti/forseti/core/SavedBytes$Input" "position" "I" (.int (0 : Int32)) ∧ Fld Z h a1 "com/example/forseti/forseti/core/SavedBytes$Input" "pieces" "[[B" (.ref r1) ∧ Fld Z h a1 "com/example/forseti/forseti/core/SavedBytes$Input" "piece" "I" (.int (0 : Int32))) ({ frames := 2, cells := 2, slots := 1, locals := 26 } : Room).cells ({ frames := 2, cells := 2, slots := 1, locals := 26 } : Room).slots := by
  refine own_met (plainFor_of_name pn_com_example_forseti_forseti_core_SavedBytes_Input) (fun p e s m below meth c s₁ X0 hx hby hml hret hlk hnm hown hZ e0 => ?_)
  have hml : c.maxLocals = 2 := hml
  have N0 := Fr.nil n0
  refine own_st (fun _ k => castTop (ef_1 m a1 q1) k) ?_
  show own_Goes p e below (s₁.setTop (mkF m 0 #[.val (.ref a1), .val (.ref q1)] [])) _
  refine own_st (fun _ k => XS.aloadN X0.here hx rfl (hb hby d1_0) rfl rfl k) ?_
  show own_Goes p e below (s₁.setTop (mkF m 1 #[.val (.ref a1), .val (.ref q1)] [(.ref a1)])) _
  refine own_st (fun _ k => XS.iconst X0.here hx rfl (hb hby d1_1) k) ?_
  show own_Goes p e below (s₁.setTop (mkF m 2 #[.val (.ref a1), .val (.ref q1)] [(.int (1 : Int32)), (.ref a1)])) _
  obtain ⟨T101, h101, k101, X101, e101, E101, A101, -, O101, st101⟩ := newRA X0 hx hZ hown (ty := .byte) (by first | rfl | decide +kernel) (hw _ (List.mem_of_getElem? (i := 8) rfl)) (hw _ (List.mem_of_getElem? (i := 9) rfl)) e0 (g := (mkF m 2 #[.val (.ref a1), .val (.ref q1)] [(.int (1 : Int32)), (.ref a1)])) rfl (hb hby d1_2) rfl (by decide) (cap := 1) (by decide) (by decide) (by decide) (by decide) (ad := "[[B") (by first | rfl | decide +kernel)
  obtain ⟨b101, g101⟩ : ∃ z, z = h0.size := ⟨_, rfl⟩
  rw [← g101] at A101 st101
  have g_b101 : n0 ≤ b101 := Nat.le_trans Z0 (Nat.le_of_eq g101.symm)
  have sz_b101 : h0.size ≤ b101 := Nat.le_trans (Keep.refl h0 [a1]).1 (Nat.le_of_eq g101.symm)
  have ne_a1_b101 : a1 ≠ b101 := by rw [g101]; exact Nat.ne_of_lt (E1).lt
  have ne_q1_b101 : q1 ≠ b101 := by rw [g101]; exact Nat.ne_of_lt (V1).lt
  have V_b101 : Arv Z h101 b101 k101 (.array .byte) (1 : Int32) [.null] .null := Arv.pad (Arv.new A101 (by decide)) (pad_rep [] _ 1)
  refine own_st st101 ?_
  show own_Goes p e below (T101.setTop (mkF m 5 #[.val (.ref a1), .val (.ref q1)] [(.ref b101), (.ref a1)])) _
  refine own_st (fun _ k => XS.dup X101.here hx rfl (hb hby d1_5) rfl rfl k) ?_
  show own_Goes p e below (T101.setTop (mkF m 6 #[.val (.ref a1), .val (.ref q1)] [(.ref b101), (.ref b101), (.ref a1)])) _
  refine own_st (fun _ k => XS.iconst X101.here hx rfl (hb hby d1_6) k) ?_
  show own_Goes p e below (T101.setTop (mkF m 7 #[.val (.ref a1), .val (.ref q1)] [(.int (0 : Int32)), (.ref b101), (.ref b101), (.ref a1)])) _
  refine own_st (fun _ k => XS.aloadN X101.here hx rfl (hb hby d1_7) rfl rfl k) ?_
  show own_Goes p e below (T101.setTop (mkF m 8 #[.val (.ref a1), .val (.ref q1)] [(.ref q1), (.int (0 : Int32)), (.ref b101), (.ref b101), (.ref a1)])) _
  have f103 := (E2.ext E101)
  obtain ⟨T102, h102, X102, e102, W102, V102, st102⟩ := own_stR (y := q1) (pc := 8) (Ls := #[.val (.ref a1), .val (.ref q1)]) (rest := [(.ref b101), (.ref a1)]) (j := (0 : Int32)) X101 hx hZ e101 V_b101 rfl rfl (fun cl Ar hq0 => Sto.ofVA Ar hq0 O101 (Ins.self f103)) 0 (by decide) (by decide) (Nat.le_of_ble_eq_true rfl) (hb hby d1_8)
  have V102 : Arv Z h102 b101 k101 (.array .byte) (1 : Int32) [(.ref q1)] .null := V102
  have N102 := Fr.snoc X102 N0 g_b101
  refine own_st st102 ?_
  show own_Goes p e below (T102.setTop (mkF m 9 #[.val (.ref a1), .val (.ref q1)] [(.ref b101), (.ref a1)])) _
  refine own_st (fun _ k => XS.aloadN X102.here hx rfl (hb hby d1_9) rfl rfl k) ?_
  show own_Goes p e below (T102.setTop (mkF m 10 #[.val (.ref a1), .val (.ref q1)] [(.ref q1), (.ref b101), (.ref a1)])) _
  have f104 := ((V1.ext E101).other W102 ne_q1_b101)
  refine own_st (own_len (pc := 10) (Ls := #[.val (.ref a1), .val (.ref q1)]) (rest := [(.ref b101), (.ref a1)]) X102 hx hZ e102 f104 (hb hby d1_10)) ?_
  show own_Goes p e below (T102.setTop (mkF m 11 #[.val (.ref a1), .val (.ref q1)] [(.int (4 : Int32)), (.ref b101), (.ref a1)])) _
  have f106 := (Nat.le_trans (Nat.le_trans Z0 E101.1) (Nat.le_of_eq W102.size.symm))
  have f107 := ((D_terms.ext E101).other W102 (Or.inl ne_a1_b101))
  have f108 := ((D_pieces.ext E101).other W102 (Or.inl ne_a1_b101))
  have f109 := ((D_lastLimit.ext E101).other W102 (Or.inl ne_a1_b101))
  have f110 := ((D_bytes.ext E101).other W102 (Or.inl ne_a1_b101))
  have f111 := ((D_limit.ext E101).other W102 (Or.inl ne_a1_b101))
  have f112 := ((D_position.ext E101).other W102 (Or.inl ne_a1_b101))
  have f113 := ((D_piece.ext E101).other W102 (Or.inl ne_a1_b101))
  have f114 := ((E1.ext E101).wr W102)
  obtain ⟨_, T105, h105, L105, X105, e105, ⟨rfl, N105q, K105, F105_bytes, F105_limit, F105_position, F105_pieces, F105_piece⟩, st105⟩ := own_callI (argsL := [(.ref b101), (.int (4 : Int32))]) (rest := []) (pc := 11) (W := 0) (Ls := #[.val (.ref a1), .val (.ref q1)]) (S := [(.int (4 : Int32)), (.ref b101), (.ref a1)]) X102 hx hZ hown rfl (hw _ (List.mem_of_getElem? (i := 11) rfl)) (hw _ (List.mem_of_getElem? (i := 12) rfl)) (hw _ (List.mem_of_getElem? (i := 4) rfl)) (hw _ (List.mem_of_getElem? (i := 13) rfl)) (by decide) (rm2 l Z a0 hw [] a1 b101 (4 : Int32) q1 k101 h102 n0 f106 f107 f108 f109 f110 f111 f112 f113 f114 V102 g1 ne_a1_b101) (by decide) (by decide) e102 (by rw [hml]; rfl) (lenOf pd____BI_V rfl) rfl (Nat.le_of_eq rfl) (hb hby d1_11) (by decide) (by decide)
  refine own_st st105 ?_
  have N105 := Fr.app N102 N105q
  show own_Goes p e below (T105.setTop (mkF m 14 #[.val (.ref a1), .val (.ref q1)] [])) _
  have f115 := ((((Keep.refl h0 [a1]).ext E101).wr W102 (Or.inr sz_b101)).trans K105 (allS (Or.inl (by simp)) all0))
  have f116 := (V102.keep K105 (ninS (Ne.symm ne_a1_b101) nin0))
  exact own_retV X105 hx hlk hret (hb hby d1_14) (by decide) (by decide) e105 ⟨rfl, N105, f115, b101, k101, ne_a1_b101, f116, F105_bytes, F105_limit, F105_position, F105_pieces, F105_piece⟩
theorem ef_0 (m : MethodId) (p1 : Int32) (p2 : Int32) (p3 : Int32) : entryFrame m #[(.int p1), (.int p2), (.int p3)] maxLocals = mkF m 0 #[.val (.int p1), .val (.int p2), .val (.int p3), .unset, .unset, .unset, .unset, .unset, .unset, .unset, .unset] [] := by first | (simp [entryFrame, mkF, argsToLocals, Value.category, maxLocals]; done) | rfl
set_option maxRecDepth 65536 in
set_option maxHeartbeats 40000000 in
theorem rm0 (l : Launch) (Z : State) (a0 : Array Value) (hw : ∀ d ∈ tables_1, d.before a0 Z = true) (ws : List Jvm.Cond) (p1 p2 p3 : Int32) (h0 : Heap) (n0 : Nat) (Z0 : n0 ≤ h0.size)  :
    own_Ct l Z x code maxLocals ret ws room_1 #[(.int p1), (.int p2), (.int p3)] h0 (fun v h L => v = some (.int (1 : Int32)) ∧ Fr n0 L) 4 14 := by
  refine own_met (plainFor_of_name pn_com_example_forseti_forseti_core_InputStartWritePinLaw) (fun p e s m below meth c s₁ X0 hx hby hml hret hlk hnm hown hZ e0 => ?_)
  have hml : c.maxLocals = 11 := hml
  have N0 := Fr.nil n0
  refine own_st (fun _ k => castTop (ef_0 m p1 p2 p3) k) ?_
  show own_Goes p e below (s₁.setTop (mkF m 0 #[.val (.int p1), .val (.int p2), .val (.int p3), .unset, .unset, .unset, .unset, .unset, .unset, .unset, .unset] [])) _
  refine own_st (fun _ k => XS.iloadN X0.here hx rfl (hb hby at_0) rfl k) ?_
  show own_Goes p e below (s₁.setTop (mkF m 1 #[.val (.int p1), .val (.int p2), .val (.int p3), .unset, .unset, .unset, .unset, .unset, .unset, .unset, .unset] [(.int p1)])) _
  refine own_st (fun _ k => XT.i2b X0.here hx rfl (hb hby at_1) rfl k) ?_
  show own_Goes p e below (s₁.setTop (mkF m 2 #[.val (.int p1), .val (.int p2), .val (.int p3), .unset, .unset, .unset, .unset, .unset, .unset, .unset, .unset] [(.int p1.toInt8.toInt32)])) _
  obtain ⟨v0, he_v0, hf_v0⟩ : ∃ z : Int32, p1.toInt8.toInt32 = z ∧ z.toInt8.toInt32 = z := ⟨_, rfl, own_b8 _⟩
  rw [he_v0]
  show own_Goes p e below (s₁.setTop (mkF m 2 #[.val (.int p1), .val (.int p2), .val (.int p3), .unset, .unset, .unset, .unset, .unset, .unset, .unset, .unset] [(.int v0)])) _
  refine own_st (fun _ k => XS.istoreN X0.here hx rfl (hb hby at_2) rfl (l' := #[.val (.int p1), .val (.int p2), .val (.int p3), .val (.int v0), .unset, .unset, .unset, .unset, .unset, .unset, .unset]) rfl k) ?_
  show own_Goes p e below (s₁.setTop (mkF m 3 #[.val (.int p1), .val (.int p2), .val (.int p3), .val (.int v0), .unset, .unset, .unset, .unset, .unset, .unset, .unset] [])) _
  refine own_st (fun _ k => XS.iloadN X0.here hx rfl (hb hby at_3) rfl k) ?_
  show own_Goes p e below (s₁.setTop (mkF m 4 #[.val (.int p1), .val (.int p2), .val (.int p3), .val (.int v0), .unset, .unset, .unset, .unset, .unset, .unset, .unset] [(.int p1)])) _
  refine own_st (fun _ k => XS.bipush X0.here hx rfl (hb hby at_4) k) ?_
  show own_Goes p e below (s₁.setTop (mkF m 6 #[.val (.int p1), .val (.int p2), .val (.int p3), .val (.int v0), .unset, .unset, .unset, .unset, .unset, .unset, .unset] [(.int (8 : Int32)), (.int p1)])) _
  refine own_st (fun _ k => XT.iushr X0.here hx rfl (hb hby at_6) rfl k) ?_
  show own_Goes p e below (s₁.setTop (mkF m 7 #[.val (.int p1), .val (.int p2), .val (.int p3), .val (.int v0), .unset, .unset, .unset, .unset, .unset, .unset, .unset] [(.int (XT.ushr p1 (8 : Int32)))])) _
  refine own_st (fun _ k => XT.i2b X0.here hx rfl (hb hby at_7) rfl k) ?_
  show own_Goes p e below (s₁.setTop (mkF m 8 #[.val (.int p1), .val (.int p2), .val (.int p3), .val (.int v0), .unset, .unset, .unset, .unset, .unset, .unset, .unset] [(.int (XT.ushr p1 (8 : Int32)).toInt8.toInt32)])) _
  obtain ⟨v1, he_v1, hf_v1⟩ : ∃ z : Int32, (XT.ushr p1 (8 : Int32)).toInt8.toInt32 = z ∧ z.toInt8.toInt32 = z := ⟨_, rfl, own_b8 _⟩
  rw [he_v1]
  show own_Goes p e below (s₁.setTop (mkF m 8 #[.val (.int p1), .val (.int p2), .val (.int p3), .val (.int v0), .unset, .unset, .unset, .unset, .unset, .unset, .unset] [(.int v1)])) _
  refine own_st (fun _ k => XS.istore X0.here hx rfl (hb hby at_8) rfl (l' := #[.val (.int p1), .val (.int p2), .val (.int p3), .val (.int v0), .val (.int v1), .unset, .unset, .unset, .unset, .unset, .unset]) rfl k) ?_
  show own_Goes p e below (s₁.setTop (mkF m 10 #[.val (.int p1), .val (.int p2), .val (.int p3), .val (.int v0), .val (.int v1), .unset, .unset, .unset, .unset, .unset, .unset] [])) _
  refine own_st (fun _ k => XS.iloadN X0.here hx rfl (hb hby at_10) rfl k) ?_
  show own_Goes p e below (s₁.setTop (mkF m 11 #[.val (.int p1), .val (.int p2), .val (.int p3), .val (.int v0), .val (.int v1), .unset, .unset, .unset, .unset, .unset, .unset] [(.int p1)])) _
  refine own_st (fun _ k => XS.bipush X0.here hx rfl (hb hby at_11) k) ?_
  show own_Goes p e below (s₁.setTop (mkF m 13 #[.val (.int p1), .val (.int p2), .val (.int p3), .val (.int v0), .val (.int v1), .unset, .unset, .unset, .unset, .unset, .unset] [(.int (16 : Int32)), (.int p1)])) _
  refine own_st (fun _ k => XT.iushr X0.here hx rfl (hb hby at_13) rfl k) ?_
  show own_Goes p e below (s₁.setTop (mkF m 14 #[.val (.int p1), .val (.int p2), .val (.int p3), .val (.int v0), .val (.int v1), .unset, .unset, .unset, .unset, .unset, .unset] [(.int (XT.ushr p1 (16 : Int32)))])) _
  refine own_st (fun _ k => XT.i2b X0.here hx rfl (hb hby at_14) rfl k) ?_
  show own_Goes p e below (s₁.setTop (mkF m 15 #[.val (.int p1), .val (.int p2), .val (.int p3), .val (.int v0), .val (.int v1), .unset, .unset, .unset, .unset, .unset, .unset] [(.int (XT.ushr p1 (16 : Int32)).toInt8.toInt32)])) _
  obtain ⟨v2, he_v2, hf_v2⟩ : ∃ z : Int32, (XT.ushr p1 (16 : Int32)).toInt8.toInt32 = z ∧ z.toInt8.toInt32 = z := ⟨_, rfl, own_b8 _⟩
  rw [he_v2]
  show own_Goes p e below (s₁.setTop (mkF m 15 #[.val (.int p1), .val (.int p2), .val (.int p3), .val (.int v0), .val (.int v1), .unset, .unset, .unset, .unset, .unset, .unset] [(.int v2)])) _
  refine own_st (fun _ k => XS.istore X0.here hx rfl (hb hby at_15) rfl (l' := #[.val (.int p1), .val (.int p2), .val (.int p3), .val (.int v0), .val (.int v1), .val (.int v2), .unset, .unset, .unset, .unset, .unset]) rfl k) ?_
  show own_Goes p e below (s₁.setTop (mkF m 17 #[.val (.int p1), .val (.int p2), .val (.int p3), .val (.int v0), .val (.int v1), .val (.int v2), .unset, .unset, .unset, .unset, .unset] [])) _
  refine own_st (fun _ k => XS.iloadN X0.here hx rfl (hb hby at_17) rfl k) ?_
  show own_Goes p e below (s₁.setTop (mkF m 18 #[.val (.int p1), .val (.int p2), .val (.int p3), .val (.int v0), .val (.int v1), .val (.int v2), .unset, .unset, .unset, .unset, .unset] [(.int p1)])) _
  refine own_st (fun _ k => XS.bipush X0.here hx rfl (hb hby at_18) k) ?_
  show own_Goes p e below (s₁.setTop (mkF m 20 #[.val (.int p1), .val (.int p2), .val (.int p3), .val (.int v0), .val (.int v1), .val (.int v2), .unset, .unset, .unset, .unset, .unset] [(.int (24 : Int32)), (.int p1)])) _
  refine own_st (fun _ k => XT.iushr X0.here hx rfl (hb hby at_20) rfl k) ?_
  show own_Goes p e below (s₁.setTop (mkF m 21 #[.val (.int p1), .val (.int p2), .val (.int p3), .val (.int v0), .val (.int v1), .val (.int v2), .unset, .unset, .unset, .unset, .unset] [(.int (XT.ushr p1 (24 : Int32)))])) _
  refine own_st (fun _ k => XT.i2b X0.here hx rfl (hb hby at_21) rfl k) ?_
  show own_Goes p e below (s₁.setTop (mkF m 22 #[.val (.int p1), .val (.int p2), .val (.int p3), .val (.int v0), .val (.int v1), .val (.int v2), .unset, .unset, .unset, .unset, .unset] [(.int (XT.ushr p1 (24 : Int32)).toInt8.toInt32)])) _
  obtain ⟨v3, he_v3, hf_v3⟩ : ∃ z : Int32, (XT.ushr p1 (24 : Int32)).toInt8.toInt32 = z ∧ z.toInt8.toInt32 = z := ⟨_, rfl, own_b8 _⟩
  rw [he_v3]
  show own_Goes p e below (s₁.setTop (mkF m 22 #[.val (.int p1), .val (.int p2), .val (.int p3), .val (.int v0), .val (.int v1), .val (.int v2), .unset, .unset, .unset, .unset, .unset] [(.int v3)])) _
  refine own_st (fun _ k => XS.istore X0.here hx rfl (hb hby at_22) rfl (l' := #[.val (.int p1), .val (.int p2), .val (.int p3), .val (.int v0), .val (.int v1), .val (.int v2), .val (.int v3), .unset, .unset, .unset, .unset]) rfl k) ?_
  show own_Goes p e below (s₁.setTop (mkF m 24 #[.val (.int p1), .val (.int p2), .val (.int p3), .val (.int v0), .val (.int v1), .val (.int v2), .val (.int v3), .unset, .unset, .unset, .unset] [])) _
  refine own_st (fun _ k => XS.iconst X0.here hx rfl (hb hby at_24) k) ?_
  show own_Goes p e below (s₁.setTop (mkF m 25 #[.val (.int p1), .val (.int p2), .val (.int p3), .val (.int v0), .val (.int v1), .val (.int v2), .val (.int v3), .unset, .unset, .unset, .unset] [(.int (4 : Int32))])) _
  obtain ⟨T101, h101, k101, X101, e101, E101, A101, B101, st101⟩ := newPE X0 hx hZ (hw _ (List.mem_of_getElem? (i := 0) rfl)) e0 (g := (mkF m 25 #[.val (.int p1), .val (.int p2), .val (.int p3), .val (.int v0), .val (.int v1), .val (.int v2), .val (.int v3), .unset, .unset, .unset, .unset] [(.int (4 : Int32))])) rfl (hb hby at_25) rfl (by decide) (cap := 4) (by decide) (by decide) (by decide) (by decide) (ad := "[B") (by first | rfl | decide +kernel)
  obtain ⟨b101, g101⟩ : ∃ z, z = h0.size := ⟨_, rfl⟩
  rw [← g101] at A101 B101 st101
  have g_b101 : n0 ≤ b101 := Nat.le_trans Z0 (Nat.le_of_eq g101.symm)
  have V_b101 : Arv Z h101 b101 k101 .byte (4 : Int32) [(.int (0 : Int32)), (.int (0 : Int32)), (.int (0 : Int32)), (.int (0 : Int32))] (.int (0 : Int32)) := Arv.pad (Arv.new A101 (by decide)) (pad_rep [] _ 4)
  refine own_st st101 ?_
  show own_Goes p e below (T101.setTop (mkF m 27 #[.val (.int p1), .val (.int p2), .val (.int p3), .val (.int v0), .val (.int v1), .val (.int v2), .val (.int v3), .unset, .unset, .unset, .unset] [(.ref b101)])) _
  refine own_st (fun _ k => XS.dup X101.here hx rfl (hb hby at_27) rfl rfl k) ?_
  show own_Goes p e below (T101.setTop (mkF m 28 #[.val (.int p1), .val (.int p2), .val (.int p3), .val (.int v0), .val (.int v1), .val (.int v2), .val (.int v3), .unset, .unset, .unset, .unset] [(.ref b101), (.ref b101)])) _
  refine own_st (fun _ k => XS.iconst X101.here hx rfl (hb hby at_28) k) ?_
  show own_Goes p e below (T101.setTop (mkF m 29 #[.val (.int p1), .val (.int p2), .val (.int p3), .val (.int v0), .val (.int v1), .val (.int v2), .val (.int v3), .unset, .unset, .unset, .unset] [(.int (0 : Int32)), (.ref b101), (.ref b101)])) _
  refine own_st (fun _ k => XS.iloadN X101.here hx rfl (hb hby at_29) rfl k) ?_
  show own_Goes p e below (T101.setTop (mkF m 30 #[.val (.int p1), .val (.int p2), .val (.int p3), .val (.int v0), .val (.int v1), .val (.int v2), .val (.int v3), .unset, .unset, .unset, .unset] [(.int v0), (.int (0 : Int32)), (.ref b101), (.ref b101)])) _
  obtain ⟨T102, h102, X102, e102, W102, V102, st102⟩ := own_stB (x := v0) (pc := 30) (Ls := #[.val (.int p1), .val (.int p2), .val (.int p3), .val (.int v0), .val (.int v1), .val (.int v2), .val (.int v3), .unset, .unset, .unset, .unset]) (rest := [(.ref b101)]) (j := (0 : Int32)) X101 hx hZ e101 V_b101 0 (by decide) (by decide) (Nat.le_of_ble_eq_true rfl) (hb hby at_30)
  rw [hf_v0] at V102
  have V102 : Arv Z h102 b101 k101 .byte (4 : Int32) [(.int v0), (.int (0 : Int32)), (.int (0 : Int32)), (.int (0 : Int32))] (.int (0 : Int32)) := V102
  have N102 := Fr.snoc X102 N0 g_b101
  refine own_st st102 ?_
  show own_Goes p e below (T102.setTop (mkF m 31 #[.val (.int p1), .val (.int p2), .val (.int p3), .val (.int v0), .val (.int v1), .val (.int v2), .val (.int v3), .unset, .unset, .unset, .unset] [(.ref b101)])) _
  refine own_st (fun _ k => XS.dup X102.here hx rfl (hb hby at_31) rfl rfl k) ?_
  show own_Goes p e below (T102.setTop (mkF m 32 #[.val (.int p1), .val (.int p2), .val (.int p3), .val (.int v0), .val (.int v1), .val (.int v2), .val (.int v3), .unset, .unset, .unset, .unset] [(.ref b101), (.ref b101)])) _
  refine own_st (fun _ k => XS.iconst X102.here hx rfl (hb hby at_32) k) ?_
  show own_Goes p e below (T102.setTop (mkF m 33 #[.val (.int p1), .val (.int p2), .val (.int p3), .val (.int v0), .val (.int v1), .val (.int v2), .val (.int v3), .unset, .unset, .unset, .unset] [(.int (1 : Int32)), (.ref b101), (.ref b101)])) _
  refine own_st (fun _ k => XS.iload X102.here hx rfl (hb hby at_33) rfl k) ?_
  show own_Goes p e below (T102.setTop (mkF m 35 #[.val (.int p1), .val (.int p2), .val (.int p3), .val (.int v0), .val (.int v1), .val (.int v2), .val (.int v3), .unset, .unset, .unset, .unset] [(.int v1), (.int (1 : Int32)), (.ref b101), (.ref b101)])) _
  obtain ⟨T103, h103, X103, e103, W103, V103, st103⟩ := own_stB (x := v1) (pc := 35) (Ls := #[.val (.int p1), .val (.int p2), .val (.int p3), .val (.int v0), .val (.int v1), .val (.int v2), .val (.int v3), .unset, .unset, .unset, .unset]) (rest := [(.ref b101)]) (j := (1 : Int32)) X102 hx hZ e102 V102 1 (by decide) (by decide) (Nat.le_of_ble_eq_true rfl) (hb hby at_35)
  rw [hf_v1] at V103
  have V103 : Arv Z h103 b101 k101 .byte (4 : Int32) [(.int v0), (.int v1), (.int (0 : Int32)), (.int (0 : Int32))] (.int (0 : Int32)) := V103
  have N103 := Fr.snoc X103 N102 g_b101
  refine own_st st103 ?_
  show own_Goes p e below (T103.setTop (mkF m 36 #[.val (.int p1), .val (.int p2), .val (.int p3), .val (.int v0), .val (.int v1), .val (.int v2), .val (.int v3), .unset, .unset, .unset, .unset] [(.ref b101)])) _
  refine own_st (fun _ k => XS.dup X103.here hx rfl (hb hby at_36) rfl rfl k) ?_
  show own_Goes p e below (T103.setTop (mkF m 37 #[.val (.int p1), .val (.int p2), .val (.int p3), .val (.int v0), .val (.int v1), .val (.int v2), .val (.int v3), .unset, .unset, .unset, .unset] [(.ref b101), (.ref b101)])) _
  refine own_st (fun _ k => XS.iconst X103.here hx rfl (hb hby at_37) k) ?_
  show own_Goes p e below (T103.setTop (mkF m 38 #[.val (.int p1), .val (.int p2), .val (.int p3), .val (.int v0), .val (.int v1), .val (.int v2), .val (.int v3), .unset, .unset, .unset, .unset] [(.int (2 : Int32)), (.ref b101), (.ref b101)])) _
  refine own_st (fun _ k => XS.iload X103.here hx rfl (hb hby at_38) rfl k) ?_
  show own_Goes p e below (T103.setTop (mkF m 40 #[.val (.int p1), .val (.int p2), .val (.int p3), .val (.int v0), .val (.int v1), .val (.int v2), .val (.int v3), .unset, .unset, .unset, .unset] [(.int v2), (.int (2 : Int32)), (.ref b101), (.ref b101)])) _
  obtain ⟨T104, h104, X104, e104, W104, V104, st104⟩ := own_stB (x := v2) (pc := 40) (Ls := #[.val (.int p1), .val (.int p2), .val (.int p3), .val (.int v0), .val (.int v1), .val (.int v2), .val (.int v3), .unset, .unset, .unset, .unset]) (rest := [(.ref b101)]) (j := (2 : Int32)) X103 hx hZ e103 V103 2 (by decide) (by decide) (Nat.le_of_ble_eq_true rfl) (hb hby at_40)
  rw [hf_v2] at V104
  have V104 : Arv Z h104 b101 k101 .byte (4 : Int32) [(.int v0), (.int v1), (.int v2), (.int (0 : Int32))] (.int (0 : Int32)) := V104
  have N104 := Fr.snoc X104 N103 g_b101
  refine own_st st104 ?_
  show own_Goes p e below (T104.setTop (mkF m 41 #[.val (.int p1), .val (.int p2), .val (.int p3), .val (.int v0), .val (.int v1), .val (.int v2), .val (.int v3), .unset, .unset, .unset, .unset] [(.ref b101)])) _
  refine own_st (fun _ k => XS.dup X104.here hx rfl (hb hby at_41) rfl rfl k) ?_
  show own_Goes p e below (T104.setTop (mkF m 42 #[.val (.int p1), .val (.int p2), .val (.int p3), .val (.int v0), .val (.int v1), .val (.int v2), .val (.int v3), .unset, .unset, .unset, .unset] [(.ref b101), (.ref b101)])) _
  refine own_st (fun _ k => XS.iconst X104.here hx rfl (hb hby at_42) k) ?_
  show own_Goes p e below (T104.setTop (mkF m 43 #[.val (.int p1), .val (.int p2), .val (.int p3), .val (.int v0), .val (.int v1), .val (.int v2), .val (.int v3), .unset, .unset, .unset, .unset] [(.int (3 : Int32)), (.ref b101), (.ref b101)])) _
  refine own_st (fun _ k => XS.iload X104.here hx rfl (hb hby at_43) rfl k) ?_
  show own_Goes p e below (T104.setTop (mkF m 45 #[.val (.int p1), .val (.int p2), .val (.int p3), .val (.int v0), .val (.int v1), .val (.int v2), .val (.int v3), .unset, .unset, .unset, .unset] [(.int v3), (.int (3 : Int32)), (.ref b101), (.ref b101)])) _
  obtain ⟨T105, h105, X105, e105, W105, V105, st105⟩ := own_stB (x := v3) (pc := 45) (Ls := #[.val (.int p1), .val (.int p2), .val (.int p3), .val (.int v0), .val (.int v1), .val (.int v2), .val (.int v3), .unset, .unset, .unset, .unset]) (rest := [(.ref b101)]) (j := (3 : Int32)) X104 hx hZ e104 V104 3 (by decide) (by decide) (Nat.le_of_ble_eq_true rfl) (hb hby at_45)
  rw [hf_v3] at V105
  have V105 : Arv Z h105 b101 k101 .byte (4 : Int32) [(.int v0), (.int v1), (.int v2), (.int v3)] (.int (0 : Int32)) := V105
  have N105 := Fr.snoc X105 N104 g_b101
  refine own_st st105 ?_
  show own_Goes p e below (T105.setTop (mkF m 46 #[.val (.int p1), .val (.int p2), .val (.int p3), .val (.int v0), .val (.int v1), .val (.int v2), .val (.int v3), .unset, .unset, .unset, .unset] [(.ref b101)])) _
  refine own_st (fun _ k => XS.astore X105.here hx rfl (hb hby at_46) rfl rfl (l' := #[.val (.int p1), .val (.int p2), .val (.int p3), .val (.int v0), .val (.int v1), .val (.int v2), .val (.int v3), .val (.ref b101), .unset, .unset, .unset]) rfl k) ?_
  show own_Goes p e below (T105.setTop (mkF m 48 #[.val (.int p1), .val (.int p2), .val (.int p3), .val (.int v0), .val (.int v1), .val (.int v2), .val (.int v3), .val (.ref b101), .unset, .unset, .unset] [])) _
  refine own_st (fun _ k => XS.iloadN X105.here hx rfl (hb hby at_48) rfl k) ?_
  show own_Goes p e below (T105.setTop (mkF m 49 #[.val (.int p1), .val (.int p2), .val (.int p3), .val (.int v0), .val (.int v1), .val (.int v2), .val (.int v3), .val (.ref b101), .unset, .unset, .unset] [(.int p2)])) _
  refine own_st (X105.ldcInt hx hown (mvT hZ (hw _ (List.mem_of_getElem? (i := 1) rfl))) (g := (mkF m 49 #[.val (.int p1), .val (.int p2), .val (.int p3), .val (.int v0), .val (.int v1), .val (.int v2), .val (.int v3), .val (.ref b101), .unset, .unset, .unset] [(.int p2)])) rfl (hb hby at_49)) ?_
  show own_Goes p e below (T105.setTop (mkF m 51 #[.val (.int p1), .val (.int p2), .val (.int p3), .val (.int v0), .val (.int v1), .val (.int v2), .val (.int v3), .val (.ref b101), .unset, .unset, .unset] [(.int (2147483647 : Int32)), (.int p2)])) _
  refine own_st (fun _ k => XS.iand X105.here hx rfl (hb hby at_51) rfl k) ?_
  show own_Goes p e below (T105.setTop (mkF m 52 #[.val (.int p1), .val (.int p2), .val (.int p3), .val (.int v0), .val (.int v1), .val (.int v2), .val (.int v3), .val (.ref b101), .unset, .unset, .unset] [(.int (p2 &&& (2147483647 : Int32)))])) _
  refine own_st (fun _ k => XS.iconst X105.here hx rfl (hb hby at_52) k) ?_
  show own_Goes p e below (T105.setTop (mkF m 53 #[.val (.int p1), .val (.int p2), .val (.int p3), .val (.int v0), .val (.int v1), .val (.int v2), .val (.int v3), .val (.ref b101), .unset, .unset, .unset] [(.int (5 : Int32)), (.int (p2 &&& (2147483647 : Int32)))])) _
  refine own_st (fun _ k => iremM X105 hx rfl (hb hby at_53) rfl (by decide) k) ?_
  show own_Goes p e below (T105.setTop (mkF m 54 #[.val (.int p1), .val (.int p2), .val (.int p3), .val (.int v0), .val (.int v1), .val (.int v2), .val (.int v3), .val (.ref b101), .unset, .unset, .unset] [(.int ((p2 &&& (2147483647 : Int32)) % (5 : Int32)))])) _
  obtain ⟨k0, hk0, hv0⟩ := own_mod5 p2
  rw [hk0]
  show own_Goes p e below (T105.setTop (mkF m 54 #[.val (.int p1), .val (.int p2), .val (.int p3), .val (.int v0), .val (.int v1), .val (.int v2), .val (.int v3), .val (.ref b101), .unset, .unset, .unset] [(.int k0)])) _
  refine own_st (fun _ k => XS.istore X105.here hx rfl (hb hby at_54) rfl (l' := #[.val (.int p1), .val (.int p2), .val (.int p3), .val (.int v0), .val (.int v1), .val (.int v2), .val (.int v3), .val (.ref b101), .val (.int k0), .unset, .unset]) rfl k) ?_
  show own_Goes p e below (T105.setTop (mkF m 56 #[.val (.int p1), .val (.int p2), .val (.int p3), .val (.int v0), .val (.int v1), .val (.int v2), .val (.int v3), .val (.ref b101), .val (.int k0), .unset, .unset] [])) _
  have f106 := (Nat.le_trans (Nat.le_trans (Nat.le_trans (Nat.le_trans (Nat.le_trans Z0 E101.1) (Nat.le_of_eq W102.size.symm)) (Nat.le_of_eq W103.size.symm)) (Nat.le_of_eq W104.size.symm)) (Nat.le_of_eq W105.size.symm))
  obtain ⟨T107, h107, X107, e107, E107, A107, D107, -, st107⟩ := newO X105 hx hZ hown (hw _ (List.mem_of_getElem? (i := 2) rfl)) (hw _ (List.mem_of_getElem? (i := 3) rfl)) (hw _ (List.mem_of_getElem? (i := 4) rfl)) e105 (g := (mkF m 56 #[.val (.int p1), .val (.int p2), .val (.int p3), .val (.int v0), .val (.int v1), .val (.int v2), .val (.int v3), .val (.ref b101), .val (.int k0), .unset, .unset] [])) rfl (hb hby at_56) (by decide) (by decide)
  obtain ⟨b107, g107⟩ : ∃ z, z = h105.size := ⟨_, rfl⟩
  rw [← g107] at A107 D107 st107
  have g_b107 : n0 ≤ b107 := Nat.le_trans f106 (Nat.le_of_eq g107.symm)
  have ne_b101_b107 : b101 ≠ b107 := by rw [g107]; exact Nat.ne_of_lt (V105).lt
  have F_terms_b107 : Fld Z h107 b107 "com/example/forseti/forseti/core/SavedBytes$Input" "terms" "[Ljava/lang/String;" .null := D107 (Or.inl (hw _ (List.mem_of_getElem? (i := 20) rfl))) (ty := (.array (.object "java/lang/String"))) (by decide)
  have F_pieces_b107 : Fld Z h107 b107 "com/example/forseti/forseti/core/SavedBytes$Input" "pieces" "[[B" .null := D107 (Or.inr (hw _ (List.mem_of_getElem? (i := 22) rfl))) (ty := (.array (.array .byte))) (by decide)
  have F_lastLimit_b107 : Fld Z h107 b107 "com/example/forseti/forseti/core/SavedBytes$Input" "lastLimit" "I" (.int (0 : Int32)) := D107 (Or.inr (hw _ (List.mem_of_getElem? (i := 24) rfl))) (ty := .int) (by decide)
  have F_bytes_b107 : Fld Z h107 b107 "com/example/forseti/forseti/core/SavedBytes$Input" "bytes" "[B" .null := D107 (Or.inl (hw _ (List.mem_of_getElem? (i := 26) rfl))) (ty := (.array .byte)) (by decide)
  have F_limit_b107 : Fld Z h107 b107 "com/example/forseti/forseti/core/SavedBytes$Input" "limit" "I" (.int (0 : Int32)) := D107 (Or.inl (hw _ (List.mem_of_getElem? (i := 28) rfl))) (ty := .int) (by decide)
  have F_position_b107 : Fld Z h107 b107 "com/example/forseti/forseti/core/SavedBytes$Input" "position" "I" (.int (0 : Int32)) := D107 (Or.inl (hw _ (List.mem_of_getElem? (i := 39) rfl))) (ty := .int) (by decide)
  have F_piece_b107 : Fld Z h107 b107 "com/example/forseti/forseti/core/SavedBytes$Input" "piece" "I" (.int (0 : Int32)) := D107 (Or.inl (hw _ (List.mem_of_getElem? (i := 51) rfl))) (ty := .int) (by decide)
  refine own_st st107 ?_
  show own_Goes p e below (T107.setTop (mkF m 59 #[.val (.int p1), .val (.int p2), .val (.int p3), .val (.int v0), .val (.int v1), .val (.int v2), .val (.int v3), .val (.ref b101), .val (.int k0), .unset, .unset] [(.ref b107)])) _
  refine own_st (fun _ k => XS.dup X107.here hx rfl (hb hby at_59) rfl rfl k) ?_
  show own_Goes p e below (T107.setTop (mkF m 60 #[.val (.int p1), .val (.int p2), .val (.int p3), .val (.int v0), .val (.int v1), .val (.int v2), .val (.int v3), .val (.ref b101), .val (.int k0), .unset, .unset] [(.ref b107), (.ref b107)])) _
  refine own_st (fun _ k => XS.aload X107.here hx rfl (hb hby at_60) rfl rfl k) ?_
  show own_Goes p e below (T107.setTop (mkF m 62 #[.val (.int p1), .val (.int p2), .val (.int p3), .val (.int v0), .val (.int v1), .val (.int v2), .val (.int v3), .val (.ref b101), .val (.int k0), .unset, .unset] [(.ref b101), (.ref b107), (.ref b107)])) _
  have f109 := (Nat.le_trans f106 E107.1)
  have f110 := (V105.ext E107)
  have f111 := (((((B101.wr W102).wr W103).wr W104).wr W105).ext E107)
  obtain ⟨_, T108, h108, L108, X108, e108, ⟨rfl, N108q, K108, r1, kr, ner, Vr, F108_bytes, F108_limit, F108_position, F108_pieces, F108_piece⟩, st108⟩ := own_callI (argsL := [(.ref b101)]) (rest := [(.ref b107)]) (pc := 62) (W := 1) (Ls := #[.val (.int p1), .val (.int p2), .val (.int p3), .val (.int v0), .val (.int v1), .val (.int v2), .val (.int v3), .val (.ref b101), .val (.int k0), .unset, .unset]) (S := [(.ref b101), (.ref b107), (.ref b107)]) X107 hx hZ hown rfl (hw _ (List.mem_of_getElem? (i := 5) rfl)) (hw _ (List.mem_of_getElem? (i := 6) rfl)) (hw _ (List.mem_of_getElem? (i := 4) rfl)) (hw _ (List.mem_of_getElem? (i := 7) rfl)) (by decide) (rm1 l Z a0 hw [] b107 b101 k101 [(.int v0), (.int v1), (.int v2), (.int v3)] h107 n0 f109 F_terms_b107 F_pieces_b107 F_lastLimit_b107 F_bytes_b107 F_limit_b107 F_position_b107 F_piece_b107 A107 f110 f111 g_b107 ne_b101_b107) (by decide) (by decide) e107 (by rw [hml]; rfl) (lenOf pd___B_V rfl) rfl (Nat.le_of_eq rfl) (hb hby at_62) (by decide) (by decide)
  refine own_st st108 ?_
  have N108 := Fr.app N105 N108q
  show own_Goes p e below (T108.setTop (mkF m 65 #[.val (.int p1), .val (.int p2), .val (.int p3), .val (.int v0), .val (.int v1), .val (.int v2), .val (.int v3), .val (.ref b101), .val (.int k0), .unset, .unset] [(.ref b107)])) _
  refine own_st (fun _ k => XS.astore X108.here hx rfl (hb hby at_65) rfl rfl (l' := #[.val (.int p1), .val (.int p2), .val (.int p3), .val (.int v0), .val (.int v1), .val (.int v2), .val (.int v3), .val (.ref b101), .val (.int k0), .val (.ref b107), .unset]) rfl k) ?_
  show own_Goes p e below (T108.setTop (mkF m 67 #[.val (.int p1), .val (.int p2), .val (.int p3), .val (.int v0), .val (.int v1), .val (.int v2), .val (.int v3), .val (.ref b101), .val (.int k0), .val (.ref b107), .unset] [])) _
  refine own_st (fun _ k => XS.iconst X108.here hx rfl (hb hby at_67) k) ?_
  show own_Goes p e below (T108.setTop (mkF m 68 #[.val (.int p1), .val (.int p2), .val (.int p3), .val (.int v0), .val (.int v1), .val (.int v2), .val (.int v3), .val (.ref b101), .val (.int k0), .val (.ref b107), .unset] [(.int (1 : Int32))])) _
  refine own_st (fun _ k => XS.istore X108.here hx rfl (hb hby at_68) rfl (l' := #[.val (.int p1), .val (.int p2), .val (.int p3), .val (.int v0), .val (.int v1), .val (.int v2), .val (.int v3), .val (.ref b101), .val (.int k0), .val (.ref b107), .val (.int (1 : Int32))]) rfl k) ?_
  show own_Goes p e below (T108.setTop (mkF m 70 #[.val (.int p1), .val (.int p2), .val (.int p3), .val (.int v0), .val (.int v1), .val (.int v2), .val (.int v3), .val (.ref b101), .val (.int k0), .val (.ref b107), .val (.int (1 : Int32))] [])) _
  rcases hv0 with rfl | rfl | rfl | rfl | rfl
  · show own_Goes p e below (T108.setTop (mkF m 70 #[.val (.int p1), .val (.int p2), .val (.int p3), .val (.int v0), .val (.int v1), .val (.int v2), .val (.int v3), .val (.ref b101), .val (.int (0 : Int32)), .val (.ref b107), .val (.int (1 : Int32))] [])) _
    refine own_st (fun _ k => XS.iload X108.here hx rfl (hb hby at_70) rfl k) ?_
    show own_Goes p e below (T108.setTop (mkF m 72 #[.val (.int p1), .val (.int p2), .val (.int p3), .val (.int v0), .val (.int v1), .val (.int v2), .val (.int v3), .val (.ref b101), .val (.int (0 : Int32)), .val (.ref b107), .val (.int (1 : Int32))] [(.int (0 : Int32))])) _
    refine own_st (fun _ k => XS.iconst X108.here hx rfl (hb hby at_72) k) ?_
    show own_Goes p e below (T108.setTop (mkF m 73 #[.val (.int p1), .val (.int p2), .val (.int p3), .val (.int v0), .val (.int v1), .val (.int v2), .val (.int v3), .val (.ref b101), .val (.int (0 : Int32)), .val (.ref b107), .val (.int (1 : Int32))] [(.int (1 : Int32)), (.int (0 : Int32))])) _
    refine own_st (fun _ k => XS.icmpYes X108.here hx rfl (pc0 := 73) (pc' := 88) rfl (hb hby at_73) rfl (tlt (by decide : (0 : Int32) < (1 : Int32))).1 (by decide) (by decide) k) ?_
    show own_Goes p e below (T108.setTop (mkF m 88 #[.val (.int p1), .val (.int p2), .val (.int p3), .val (.int v0), .val (.int v1), .val (.int v2), .val (.int v3), .val (.ref b101), .val (.int (0 : Int32)), .val (.ref b107), .val (.int (1 : Int32))] [])) _
    refine own_st (fun _ k => XS.iload X108.here hx rfl (hb hby at_88) rfl k) ?_
    show own_Goes p e below (T108.setTop (mkF m 90 #[.val (.int p1), .val (.int p2), .val (.int p3), .val (.int v0), .val (.int v1), .val (.int v2), .val (.int v3), .val (.ref b101), .val (.int (0 : Int32)), .val (.ref b107), .val (.int (1 : Int32))] [(.int (0 : Int32))])) _
    refine own_st (fun _ k => XS.iconst X108.here hx rfl (hb hby at_90) k) ?_
    show own_Goes p e below (T108.setTop (mkF m 91 #[.val (.int p1), .val (.int p2), .val (.int p3), .val (.int v0), .val (.int v1), .val (.int v2), .val (.int v3), .val (.ref b101), .val (.int (0 : Int32)), .val (.ref b107), .val (.int (1 : Int32))] [(.int (2 : Int32)), (.int (0 : Int32))])) _
    refine own_st (fun _ k => XS.icmpYes X108.here hx rfl (pc0 := 91) (pc' := 107) rfl (hb hby at_91) rfl (tlt (by decide : (0 : Int32) < (2 : Int32))).1 (by decide) (by decide) k) ?_
    show own_Goes p e below (T108.setTop (mkF m 107 #[.val (.int p1), .val (.int p2), .val (.int p3), .val (.int v0), .val (.int v1), .val (.int v2), .val (.int v3), .val (.ref b101), .val (.int (0 : Int32)), .val (.ref b107), .val (.int (1 : Int32))] [])) _
    refine own_st (fun _ k => XS.iload X108.here hx rfl (hb hby at_107) rfl k) ?_
    show own_Goes p e below (T108.setTop (mkF m 109 #[.val (.int p1), .val (.int p2), .val (.int p3), .val (.int v0), .val (.int v1), .val (.int v2), .val (.int v3), .val (.ref b101), .val (.int (0 : Int32)), .val (.ref b107), .val (.int (1 : Int32))] [(.int (0 : Int32))])) _
    refine own_st (fun _ k => XS.iconst X108.here hx rfl (hb hby at_109) k) ?_
    show own_Goes p e below (T108.setTop (mkF m 110 #[.val (.int p1), .val (.int p2), .val (.int p3), .val (.int v0), .val (.int v1), .val (.int v2), .val (.int v3), .val (.ref b101), .val (.int (0 : Int32)), .val (.ref b107), .val (.int (1 : Int32))] [(.int (3 : Int32)), (.int (0 : Int32))])) _
    refine own_st (fun _ k => XS.icmpYes X108.here hx rfl (pc0 := 110) (pc' := 126) rfl (hb hby at_110) rfl (tlt (by decide : (0 : Int32) < (3 : Int32))).1 (by decide) (by decide) k) ?_
    show own_Goes p e below (T108.setTop (mkF m 126 #[.val (.int p1), .val (.int p2), .val (.int p3), .val (.int v0), .val (.int v1), .val (.int v2), .val (.int v3), .val (.ref b101), .val (.int (0 : Int32)), .val (.ref b107), .val (.int (1 : Int32))] [])) _
    refine own_st (fun _ k => XS.iload X108.here hx rfl (hb hby at_126) rfl k) ?_
    show own_Goes p e below (T108.setTop (mkF m 128 #[.val (.int p1), .val (.int p2), .val (.int p3), .val (.int v0), .val (.int v1), .val (.int v2), .val (.int v3), .val (.ref b101), .val (.int (0 : Int32)), .val (.ref b107), .val (.int (1 : Int32))] [(.int (0 : Int32))])) _
    refine own_st (fun _ k => XS.iconst X108.here hx rfl (hb hby at_128) k) ?_
    show own_Goes p e below (T108.setTop (mkF m 129 #[.val (.int p1), .val (.int p2), .val (.int p3), .val (.int v0), .val (.int v1), .val (.int v2), .val (.int v3), .val (.ref b101), .val (.int (0 : Int32)), .val (.ref b107), .val (.int (1 : Int32))] [(.int (4 : Int32)), (.int (0 : Int32))])) _
    refine own_st (fun _ k => XS.icmpYes X108.here hx rfl (pc0 := 129) (pc' := 145) rfl (hb hby at_129) rfl (tlt (by decide : (0 : Int32) < (4 : Int32))).1 (by decide) (by decide) k) ?_
    show own_Goes p e below (T108.setTop (mkF m 145 #[.val (.int p1), .val (.int p2), .val (.int p3), .val (.int v0), .val (.int v1), .val (.int v2), .val (.int v3), .val (.ref b101), .val (.int (0 : Int32)), .val (.ref b107), .val (.int (1 : Int32))] [])) _
    refine own_st (fun _ k => XS.aload X108.here hx rfl (hb hby at_145) rfl rfl k) ?_
    show own_Goes p e below (T108.setTop (mkF m 147 #[.val (.int p1), .val (.int p2), .val (.int p3), .val (.int v0), .val (.int v1), .val (.int v2), .val (.int v3), .val (.ref b101), .val (.int (0 : Int32)), .val (.ref b107), .val (.int (1 : Int32))] [(.ref b107)])) _
    have f113 := (Nat.le_trans f109 K108.1)
    have f114 := (A107.keep K108)
    obtain ⟨_, T112, h112, L112, X112, e112, ⟨rfl, rfl, q112⟩, st112⟩ := own_callV (argsL := []) (rest := []) (pc := 147) (W := 0) (Ls := #[.val (.int p1), .val (.int p2), .val (.int p3), .val (.int v0), .val (.int v1), .val (.int v2), .val (.int v3), .val (.ref b101), .val (.int (0 : Int32)), .val (.ref b107), .val (.int (1 : Int32))]) (S := [(.ref b107)]) X108 hx hZ hown (hw _ (List.mem_of_getElem? (i := 40) rfl)) (hw _ (List.mem_of_getElem? (i := 41) rfl)) (hw _ (List.mem_of_getElem? (i := 43) rfl)) (hw _ (List.mem_of_getElem? (i := 42) rfl)) (hw _ (List.mem_of_getElem? (i := 4) rfl)) (hw _ (List.mem_of_getElem? (i := 44) rfl)) (notFace_of_selects (args := #[]) (mvT hZ (hw _ (List.mem_of_getElem? (i := 43) rfl)))) (by decide) (rm6 l Z a0 hw [] b107 r1 b101 kr (0 : Int32) h108 n0 f113 F108_limit F108_position F108_piece F108_pieces Vr) (by decide) (by decide) e108 f114 (by rw [hml]; rfl) (lenOf pd___V rfl) rfl (Nat.le_of_eq rfl) (hb hby at_147) (by decide) (by decide)
    refine own_st st112 ?_
    have N112 := Fr.app N108 (Fr.nil n0)
    show own_Goes p e below (T112.setTop (mkF m 150 #[.val (.int p1), .val (.int p2), .val (.int p3), .val (.int v0), .val (.int v1), .val (.int v2), .val (.int v3), .val (.ref b101), .val (.int (0 : Int32)), .val (.ref b107), .val (.int (1 : Int32))] [])) _
    refine own_st (fun _ k => XS.iloadN X112.here hx rfl (hb hby at_150) rfl k) ?_
    show own_Goes p e below (T112.setTop (mkF m 151 #[.val (.int p1), .val (.int p2), .val (.int p3), .val (.int v0), .val (.int v1), .val (.int v2), .val (.int v3), .val (.ref b101), .val (.int (0 : Int32)), .val (.ref b107), .val (.int (1 : Int32))] [(.int p3)])) _
    refine own_st (fun _ k => XS.iconst X112.here hx rfl (hb hby at_151) k) ?_
    show own_Goes p e below (T112.setTop (mkF m 152 #[.val (.int p1), .val (.int p2), .val (.int p3), .val (.int v0), .val (.int v1), .val (.int v2), .val (.int v3), .val (.ref b101), .val (.int (0 : Int32)), .val (.ref b107), .val (.int (1 : Int32))] [(.int (1 : Int32)), (.int p3)])) _
    refine own_st (fun _ k => XS.iand X112.here hx rfl (hb hby at_152) rfl k) ?_
    show own_Goes p e below (T112.setTop (mkF m 153 #[.val (.int p1), .val (.int p2), .val (.int p3), .val (.int v0), .val (.int v1), .val (.int v2), .val (.int v3), .val (.ref b101), .val (.int (0 : Int32)), .val (.ref b107), .val (.int (1 : Int32))] [(.int (p3 &&& (1 : Int32)))])) _
    by_cases hc153_115 : (p3 &&& (1 : Int32)) = (0 : Int32)
    · refine own_st (fun _ k => XS.ifYes X112.here hx rfl (pc0 := 153) (pc' := 161) rfl (hb hby at_153) rfl ((if0 _ _).trans (teq hc153_115).1) (by decide) (by decide) k) ?_
      show own_Goes p e below (T112.setTop (mkF m 161 #[.val (.int p1), .val (.int p2), .val (.int p3), .val (.int v0), .val (.int v1), .val (.int v2), .val (.int v3), .val (.ref b101), .val (.int (0 : Int32)), .val (.ref b107), .val (.int (1 : Int32))] [])) _
      refine own_st (fun _ k => XS.iload X112.here hx rfl (hb hby at_161) rfl k) ?_
      show own_Goes p e below (T112.setTop (mkF m 163 #[.val (.int p1), .val (.int p2), .val (.int p3), .val (.int v0), .val (.int v1), .val (.int v2), .val (.int v3), .val (.ref b101), .val (.int (0 : Int32)), .val (.ref b107), .val (.int (1 : Int32))] [(.int (0 : Int32))])) _
      refine own_st (fun _ k => XS.iconst X112.here hx rfl (hb hby at_163) k) ?_
      show own_Goes p e below (T112.setTop (mkF m 164 #[.val (.int p1), .val (.int p2), .val (.int p3), .val (.int v0), .val (.int v1), .val (.int v2), .val (.int v3), .val (.ref b101), .val (.int (0 : Int32)), .val (.ref b107), .val (.int (1 : Int32))] [(.int (1 : Int32)), (.int (0 : Int32))])) _
      refine own_st (fun _ k => XS.icmpNo X112.here hx rfl (hb hby at_164) rfl (tlt (by decide : (0 : Int32) < (1 : Int32))).2.1 k) ?_
      show own_Goes p e below (T112.setTop (mkF m 167 #[.val (.int p1), .val (.int p2), .val (.int p3), .val (.int v0), .val (.int v1), .val (.int v2), .val (.int v3), .val (.ref b101), .val (.int (0 : Int32)), .val (.ref b107), .val (.int (1 : Int32))] [])) _
      refine own_st (fun _ k => XS.aload X112.here hx rfl (hb hby at_167) rfl rfl k) ?_
      show own_Goes p e below (T112.setTop (mkF m 169 #[.val (.int p1), .val (.int p2), .val (.int p3), .val (.int v0), .val (.int v1), .val (.int v2), .val (.int v3), .val (.ref b101), .val (.int (0 : Int32)), .val (.ref b107), .val (.int (1 : Int32))] [(.ref b107)])) _
      have f117 := (f110.keep K108 (ninS ne_b101_b107 nin0))
      obtain ⟨_, T116, h116, L116, X116, e116, ⟨rfl, N116q, K116, F116_bytes, F116_limit, F116_position, F116_pieces, F116_piece⟩, st116⟩ := own_callV (argsL := []) (rest := []) (pc := 169) (W := 0) (Ls := #[.val (.int p1), .val (.int p2), .val (.int p3), .val (.int v0), .val (.int v1), .val (.int v2), .val (.int v3), .val (.ref b101), .val (.int (0 : Int32)), .val (.ref b107), .val (.int (1 : Int32))]) (S := [(.ref b107)]) X112 hx hZ hown (hw _ (List.mem_of_getElem? (i := 29) rfl)) (hw _ (List.mem_of_getElem? (i := 30) rfl)) (hw _ (List.mem_of_getElem? (i := 32) rfl)) (hw _ (List.mem_of_getElem? (i := 31) rfl)) (hw _ (List.mem_of_getElem? (i := 4) rfl)) (hw _ (List.mem_of_getElem? (i := 33) rfl)) (notFace_of_selects (args := #[]) (mvT hZ (hw _ (List.mem_of_getElem? (i := 32) rfl)))) (by decide) (rm3 l Z a0 hw [] b107 b101 r1 k101 [(.int v0), (.int v1), (.int v2), (.int v3)] (0 : Int32) v0 h108 n0 f113 F108_bytes F108_limit F108_position F108_pieces F108_piece f114 f117 g_b107 ne_b101_b107 (by decide) rfl (by decide)) (by decide) (by decide) (e112.trans q112) f114 (by rw [hml]; rfl) (lenOf pd___I rfl) rfl (Nat.le_of_eq rfl) (hb hby at_169) (by decide) (by decide)
      refine own_st st116 ?_
      have N116 := Fr.app N112 N116q
      rw [show (0 : Int32) + (1 : Int32) = (1 : Int32) from by decide] at F116_position
      show own_Goes p e below (T116.setTop (mkF m 172 #[.val (.int p1), .val (.int p2), .val (.int p3), .val (.int v0), .val (.int v1), .val (.int v2), .val (.int v3), .val (.ref b101), .val (.int (0 : Int32)), .val (.ref b107), .val (.int (1 : Int32))] [(.int v0)])) _
      refine own_st (fun _ k => XS.iloadN X116.here hx rfl (hb hby at_172) rfl k) ?_
      show own_Goes p e below (T116.setTop (mkF m 173 #[.val (.int p1), .val (.int p2), .val (.int p3), .val (.int v0), .val (.int v1), .val (.int v2), .val (.int v3), .val (.ref b101), .val (.int (0 : Int32)), .val (.ref b107), .val (.int (1 : Int32))] [(.int v0), (.int v0)])) _
      refine own_st (fun _ k => XS.icmpYes X116.here hx rfl (pc0 := 173) (pc' := 179) rfl (hb hby at_173) rfl (teq (rfl : v0 = v0)).1 (by decide) (by decide) k) ?_
      show own_Goes p e below (T116.setTop (mkF m 179 #[.val (.int p1), .val (.int p2), .val (.int p3), .val (.int v0), .val (.int v1), .val (.int v2), .val (.int v3), .val (.ref b101), .val (.int (0 : Int32)), .val (.ref b107), .val (.int (1 : Int32))] [])) _
      refine own_st (fun _ k => XS.iload X116.here hx rfl (hb hby at_179) rfl k) ?_
      show own_Goes p e below (T116.setTop (mkF m 181 #[.val (.int p1), .val (.int p2), .val (.int p3), .val (.int v0), .val (.int v1), .val (.int v2), .val (.int v3), .val (.ref b101), .val (.int (0 : Int32)), .val (.ref b107), .val (.int (1 : Int32))] [(.int (0 : Int32))])) _
      refine own_st (fun _ k => XS.iconst X116.here hx rfl (hb hby at_181) k) ?_
      show own_Goes p e below (T116.setTop (mkF m 182 #[.val (.int p1), .val (.int p2), .val (.int p3), .val (.int v0), .val (.int v1), .val (.int v2), .val (.int v3), .val (.ref b101), .val (.int (0 : Int32)), .val (.ref b107), .val (.int (1 : Int32))] [(.int (2 : Int32)), (.int (0 : Int32))])) _
      refine own_st (fun _ k => XS.icmpNo X116.here hx rfl (hb hby at_182) rfl (tlt (by decide : (0 : Int32) < (2 : Int32))).2.1 k) ?_
      show own_Goes p e below (T116.setTop (mkF m 185 #[.val (.int p1), .val (.int p2), .val (.int p3), .val (.int v0), .val (.int v1), .val (.int v2), .val (.int v3), .val (.ref b101), .val (.int (0 : Int32)), .val (.ref b107), .val (.int (1 : Int32))] [])) _
      refine own_st (fun _ k => XS.aload X116.here hx rfl (hb hby at_185) rfl rfl k) ?_
      show own_Goes p e below (T116.setTop (mkF m 187 #[.val (.int p1), .val (.int p2), .val (.int p3), .val (.int v0), .val (.int v1), .val (.int v2), .val (.int v3), .val (.ref b101), .val (.int (0 : Int32)), .val (.ref b107), .val (.int (1 : Int32))] [(.ref b107)])) _
      have f119 := (Nat.le_trans f113 K116.1)
      have f120 := (f114.keep K116)
      have f121 := (f117.keep K116 (ninS ne_b101_b107 nin0))
      obtain ⟨_, T118, h118, L118, X118, e118, ⟨rfl, N118q, K118, F118_bytes, F118_limit, F118_position, F118_pieces, F118_piece⟩, st118⟩ := own_callV (argsL := []) (rest := []) (pc := 187) (W := 0) (Ls := #[.val (.int p1), .val (.int p2), .val (.int p3), .val (.int v0), .val (.int v1), .val (.int v2), .val (.int v3), .val (.ref b101), .val (.int (0 : Int32)), .val (.ref b107), .val (.int (1 : Int32))]) (S := [(.ref b107)]) X116 hx hZ hown (hw _ (List.mem_of_getElem? (i := 29) rfl)) (hw _ (List.mem_of_getElem? (i := 30) rfl)) (hw _ (List.mem_of_getElem? (i := 32) rfl)) (hw _ (List.mem_of_getElem? (i := 31) rfl)) (hw _ (List.mem_of_getElem? (i := 4) rfl)) (hw _ (List.mem_of_getElem? (i := 33) rfl)) (notFace_of_selects (args := #[]) (mvT hZ (hw _ (List.mem_of_getElem? (i := 32) rfl)))) (by decide) (rm3 l Z a0 hw [] b107 b101 r1 k101 [(.int v0), (.int v1), (.int v2), (.int v3)] (1 : Int32) v1 h116 n0 f119 F116_bytes F116_limit F116_position F116_pieces F116_piece f120 f121 g_b107 ne_b101_b107 (by decide) rfl (by decide)) (by decide) (by decide) e116 f120 (by rw [hml]; rfl) (lenOf pd___I rfl) rfl (Nat.le_of_eq rfl) (hb hby at_187) (by decide) (by decide)
      refine own_st st118 ?_
      have N118 := Fr.app N116 N118q
      rw [show (1 : Int32) + (1 : Int32) = (2 : Int32) from by decide] at F118_position
      show own_Goes p e below (T118.setTop (mkF m 190 #[.val (.int p1), .val (.int p2), .val (.int p3), .val (.int v0), .val (.int v1), .val (.int v2), .val (.int v3), .val (.ref b101), .val (.int (0 : Int32)), .val (.ref b107), .val (.int (1 : Int32))] [(.int v1)])) _
      refine own_st (fun _ k => XS.iload X118.here hx rfl (hb hby at_190) rfl k) ?_
      show own_Goes p e below (T118.setTop (mkF m 192 #[.val (.int p1), .val (.int p2), .val (.int p3), .val (.int v0), .val (.int v1), .val (.int v2), .val (.int v3), .val (.ref b101), .val (.int (0 : Int32)), .val (.ref b107), .val (.int (1 : Int32))] [(.int v1), (.int v1)])) _
      refine own_st (fun _ k => XS.icmpYes X118.here hx rfl (pc0 := 192) (pc' := 198) rfl (hb hby at_192) rfl (teq (rfl : v1 = v1)).1 (by decide) (by decide) k) ?_
      show own_Goes p e below (T118.setTop (mkF m 198 #[.val (.int p1), .val (.int p2), .val (.int p3), .val (.int v0), .val (.int v1), .val (.int v2), .val (.int v3), .val (.ref b101), .val (.int (0 : Int32)), .val (.ref b107), .val (.int (1 : Int32))] [])) _
      refine own_st (fun _ k => XS.iload X118.here hx rfl (hb hby at_198) rfl k) ?_
      show own_Goes p e below (T118.setTop (mkF m 200 #[.val (.int p1), .val (.int p2), .val (.int p3), .val (.int v0), .val (.int v1), .val (.int v2), .val (.int v3), .val (.ref b101), .val (.int (0 : Int32)), .val (.ref b107), .val (.int (1 : Int32))] [(.int (0 : Int32))])) _
      refine own_st (fun _ k => XS.iconst X118.here hx rfl (hb hby at_200) k) ?_
      show own_Goes p e below (T118.setTop (mkF m 201 #[.val (.int p1), .val (.int p2), .val (.int p3), .val (.int v0), .val (.int v1), .val (.int v2), .val (.int v3), .val (.ref b101), .val (.int (0 : Int32)), .val (.ref b107), .val (.int (1 : Int32))] [(.int (3 : Int32)), (.int (0 : Int32))])) _
      refine own_st (fun _ k => XS.icmpNo X118.here hx rfl (hb hby at_201) rfl (tlt (by decide : (0 : Int32) < (3 : Int32))).2.1 k) ?_
      show own_Goes p e below (T118.setTop (mkF m 204 #[.val (.int p1), .val (.int p2), .val (.int p3), .val (.int v0), .val (.int v1), .val (.int v2), .val (.int v3), .val (.ref b101), .val (.int (0 : Int32)), .val (.ref b107), .val (.int (1 : Int32))] [])) _
      refine own_st (fun _ k => XS.aload X118.here hx rfl (hb hby at_204) rfl rfl k) ?_
      show own_Goes p e below (T118.setTop (mkF m 206 #[.val (.int p1), .val (.int p2), .val (.int p3), .val (.int v0), .val (.int v1), .val (.int v2), .val (.int v3), .val (.ref b101), .val (.int (0 : Int32)), .val (.ref b107), .val (.int (1 : Int32))] [(.ref b107)])) _
      have f123 := (Nat.le_trans f119 K118.1)
      have f124 := (f120.keep K118)
      have f125 := (f121.keep K118 (ninS ne_b101_b107 nin0))
      obtain ⟨_, T122, h122, L122, X122, e122, ⟨rfl, N122q, K122, F122_bytes, F122_limit, F122_position, F122_pieces, F122_piece⟩, st122⟩ := own_callV (argsL := []) (rest := []) (pc := 206) (W := 0) (Ls := #[.val (.int p1), .val (.int p2), .val (.int p3), .val (.int v0), .val (.int v1), .val (.int v2), .val (.int v3), .val (.ref b101), .val (.int (0 : Int32)), .val (.ref b107), .val (.int (1 : Int32))]) (S := [(.ref b107)]) X118 hx hZ hown (hw _ (List.mem_of_getElem? (i := 29) rfl)) (hw _ (List.mem_of_getElem? (i := 30) rfl)) (hw _ (List.mem_of_getElem? (i := 32) rfl)) (hw _ (List.mem_of_getElem? (i := 31) rfl)) (hw _ (List.mem_of_getElem? (i := 4) rfl)) (hw _ (List.mem_of_getElem? (i := 33) rfl)) (notFace_of_selects (args := #[]) (mvT hZ (hw _ (List.mem_of_getElem? (i := 32) rfl)))) (by decide) (rm3 l Z a0 hw [] b107 b101 r1 k101 [(.int v0), (.int v1), (.int v2), (.int v3)] (2 : Int32) v2 h118 n0 f123 F118_bytes F118_limit F118_position F118_pieces F118_piece f124 f125 g_b107 ne_b101_b107 (by decide) rfl (by decide)) (by decide) (by decide) e118 f124 (by rw [hml]; rfl) (lenOf pd___I rfl) rfl (Nat.le_of_eq rfl) (hb hby at_206) (by decide) (by decide)
      refine own_st st122 ?_
      have N122 := Fr.app N118 N122q
      rw [show (2 : Int32) + (1 : Int32) = (3 : Int32) from by decide] at F122_position
      show own_Goes p e below (T122.setTop (mkF m 209 #[.val (.int p1), .val (.int p2), .val (.int p3), .val (.int v0), .val (.int v1), .val (.int v2), .val (.int v3), .val (.ref b101), .val (.int (0 : Int32)), .val (.ref b107), .val (.int (1 : Int32))] [(.int v2)])) _
      refine own_st (fun _ k => XS.iload X122.here hx rfl (hb hby at_209) rfl k) ?_
      show own_Goes p e below (T122.setTop (mkF m 211 #[.val (.int p1), .val (.int p2), .val (.int p3), .val (.int v0), .val (.int v1), .val (.int v2), .val (.int v3), .val (.ref b101), .val (.int (0 : Int32)), .val (.ref b107), .val (.int (1 : Int32))] [(.int v2), (.int v2)])) _
      refine own_st (fun _ k => XS.icmpYes X122.here hx rfl (pc0 := 211) (pc' := 217) rfl (hb hby at_211) rfl (teq (rfl : v2 = v2)).1 (by decide) (by decide) k) ?_
      show own_Goes p e below (T122.setTop (mkF m 217 #[.val (.int p1), .val (.int p2), .val (.int p3), .val (.int v0), .val (.int v1), .val (.int v2), .val (.int v3), .val (.ref b101), .val (.int (0 : Int32)), .val (.ref b107), .val (.int (1 : Int32))] [])) _
      refine own_st (fun _ k => XS.iload X122.here hx rfl (hb hby at_217) rfl k) ?_
      show own_Goes p e below (T122.setTop (mkF m 219 #[.val (.int p1), .val (.int p2), .val (.int p3), .val (.int v0), .val (.int v1), .val (.int v2), .val (.int v3), .val (.ref b101), .val (.int (0 : Int32)), .val (.ref b107), .val (.int (1 : Int32))] [(.int (0 : Int32))])) _
      refine own_st (fun _ k => XS.iconst X122.here hx rfl (hb hby at_219) k) ?_
      show own_Goes p e below (T122.setTop (mkF m 220 #[.val (.int p1), .val (.int p2), .val (.int p3), .val (.int v0), .val (.int v1), .val (.int v2), .val (.int v3), .val (.ref b101), .val (.int (0 : Int32)), .val (.ref b107), .val (.int (1 : Int32))] [(.int (4 : Int32)), (.int (0 : Int32))])) _
      refine own_st (fun _ k => XS.icmpNo X122.here hx rfl (hb hby at_220) rfl (tlt (by decide : (0 : Int32) < (4 : Int32))).2.1 k) ?_
      show own_Goes p e below (T122.setTop (mkF m 223 #[.val (.int p1), .val (.int p2), .val (.int p3), .val (.int v0), .val (.int v1), .val (.int v2), .val (.int v3), .val (.ref b101), .val (.int (0 : Int32)), .val (.ref b107), .val (.int (1 : Int32))] [])) _
      refine own_st (fun _ k => XS.aload X122.here hx rfl (hb hby at_223) rfl rfl k) ?_
      show own_Goes p e below (T122.setTop (mkF m 225 #[.val (.int p1), .val (.int p2), .val (.int p3), .val (.int v0), .val (.int v1), .val (.int v2), .val (.int v3), .val (.ref b101), .val (.int (0 : Int32)), .val (.ref b107), .val (.int (1 : Int32))] [(.ref b107)])) _
      have f127 := (Nat.le_trans f123 K122.1)
      have f128 := (f124.keep K122)
      have f129 := (f125.keep K122 (ninS ne_b101_b107 nin0))
      obtain ⟨_, T126, h126, L126, X126, e126, ⟨rfl, N126q, K126, F126_bytes, F126_limit, F126_position, F126_pieces, F126_piece⟩, st126⟩ := own_callV (argsL := []) (rest := []) (pc := 225) (W := 0) (Ls := #[.val (.int p1), .val (.int p2), .val (.int p3), .val (.int v0), .val (.int v1), .val (.int v2), .val (.int v3), .val (.ref b101), .val (.int (0 : Int32)), .val (.ref b107), .val (.int (1 : Int32))]) (S := [(.ref b107)]) X122 hx hZ hown (hw _ (List.mem_of_getElem? (i := 29) rfl)) (hw _ (List.mem_of_getElem? (i := 30) rfl)) (hw _ (List.mem_of_getElem? (i := 32) rfl)) (hw _ (List.mem_of_getElem? (i := 31) rfl)) (hw _ (List.mem_of_getElem? (i := 4) rfl)) (hw _ (List.mem_of_getElem? (i := 33) rfl)) (notFace_of_selects (args := #[]) (mvT hZ (hw _ (List.mem_of_getElem? (i := 32) rfl)))) (by decide) (rm3 l Z a0 hw [] b107 b101 r1 k101 [(.int v0), (.int v1), (.int v2), (.int v3)] (3 : Int32) v3 h122 n0 f127 F122_bytes F122_limit F122_position F122_pieces F122_piece f128 f129 g_b107 ne_b101_b107 (by decide) rfl (by decide)) (by decide) (by decide) e122 f128 (by rw [hml]; rfl) (lenOf pd___I rfl) rfl (Nat.le_of_eq rfl) (hb hby at_225) (by decide) (by decide)
      refine own_st st126 ?_
      have N126 := Fr.app N122 N126q
      rw [show (3 : Int32) + (1 : Int32) = (4 : Int32) from by decide] at F126_position
      show own_Goes p e below (T126.setTop (mkF m 228 #[.val (.int p1), .val (.int p2), .val (.int p3), .val (.int v0), .val (.int v1), .val (.int v2), .val (.int v3), .val (.ref b101), .val (.int (0 : Int32)), .val (.ref b107), .val (.int (1 : Int32))] [(.int v3)])) _
      refine own_st (fun _ k => XS.iload X126.here hx rfl (hb hby at_228) rfl k) ?_
      show own_Goes p e below (T126.setTop (mkF m 230 #[.val (.int p1), .val (.int p2), .val (.int p3), .val (.int v0), .val (.int v1), .val (.int v2), .val (.int v3), .val (.ref b101), .val (.int (0 : Int32)), .val (.ref b107), .val (.int (1 : Int32))] [(.int v3), (.int v3)])) _
      refine own_st (fun _ k => XS.icmpYes X126.here hx rfl (pc0 := 230) (pc' := 236) rfl (hb hby at_230) rfl (teq (rfl : v3 = v3)).1 (by decide) (by decide) k) ?_
      show own_Goes p e below (T126.setTop (mkF m 236 #[.val (.int p1), .val (.int p2), .val (.int p3), .val (.int v0), .val (.int v1), .val (.int v2), .val (.int v3), .val (.ref b101), .val (.int (0 : Int32)), .val (.ref b107), .val (.int (1 : Int32))] [])) _
      refine own_st (fun _ k => XS.aload X126.here hx rfl (hb hby at_236) rfl rfl k) ?_
      show own_Goes p e below (T126.setTop (mkF m 238 #[.val (.int p1), .val (.int p2), .val (.int p3), .val (.int v0), .val (.int v1), .val (.int v2), .val (.int v3), .val (.ref b101), .val (.int (0 : Int32)), .val (.ref b107), .val (.int (1 : Int32))] [(.ref b107)])) _
      have f131 := (Nat.le_trans f127 K126.1)
      have f132 := (f128.keep K126)
      obtain ⟨_, T130, h130, L130, X130, e130, ⟨rfl, rfl, q130⟩, st130⟩ := own_callV (argsL := []) (rest := []) (pc := 238) (W := 0) (Ls := #[.val (.int p1), .val (.int p2), .val (.int p3), .val (.int v0), .val (.int v1), .val (.int v2), .val (.int v3), .val (.ref b101), .val (.int (0 : Int32)), .val (.ref b107), .val (.int (1 : Int32))]) (S := [(.ref b107)]) X126 hx hZ hown (hw _ (List.mem_of_getElem? (i := 45) rfl)) (hw _ (List.mem_of_getElem? (i := 46) rfl)) (hw _ (List.mem_of_getElem? (i := 48) rfl)) (hw _ (List.mem_of_getElem? (i := 47) rfl)) (hw _ (List.mem_of_getElem? (i := 4) rfl)) (hw _ (List.mem_of_getElem? (i := 49) rfl)) (notFace_of_selects (args := #[]) (mvT hZ (hw _ (List.mem_of_getElem? (i := 48) rfl)))) (by decide) (rm7 l Z a0 hw [] b107 h126 n0 f131 F126_limit F126_position) (by decide) (by decide) e126 f132 (by rw [hml]; rfl) (lenOf pd___V rfl) rfl (Nat.le_of_eq rfl) (hb hby at_238) (by decide) (by decide)
      refine own_st st130 ?_
      have N130 := Fr.app N126 (Fr.nil n0)
      show own_Goes p e below (T130.setTop (mkF m 241 #[.val (.int p1), .val (.int p2), .val (.int p3), .val (.int v0), .val (.int v1), .val (.int v2), .val (.int v3), .val (.ref b101), .val (.int (0 : Int32)), .val (.ref b107), .val (.int (1 : Int32))] [])) _
      refine own_st (fun _ k => XS.iload X130.here hx rfl (hb hby at_241) rfl k) ?_
      show own_Goes p e below (T130.setTop (mkF m 243 #[.val (.int p1), .val (.int p2), .val (.int p3), .val (.int v0), .val (.int v1), .val (.int v2), .val (.int v3), .val (.ref b101), .val (.int (0 : Int32)), .val (.ref b107), .val (.int (1 : Int32))] [(.int (1 : Int32))])) _
      exact own_retN (t := .boolean) (z' := (1 : Int32)) X130 hx hlk hret (by simp) (by decide) (hb hby at_243) (by decide) (by decide) (e130.trans q130) ⟨rfl, N130⟩
    · refine own_st (fun _ k => XS.ifNo X112.here hx rfl (hb hby at_153) rfl ((if0 _ _).trans (feq hc153_115).1) k) ?_
      show own_Goes p e below (T112.setTop (mkF m 156 #[.val (.int p1), .val (.int p2), .val (.int p3), .val (.int v0), .val (.int v1), .val (.int v2), .val (.int v3), .val (.ref b101), .val (.int (0 : Int32)), .val (.ref b107), .val (.int (1 : Int32))] [])) _
      refine own_st (fun _ k => XS.aload X112.here hx rfl (hb hby at_156) rfl rfl k) ?_
      show own_Goes p e below (T112.setTop (mkF m 158 #[.val (.int p1), .val (.int p2), .val (.int p3), .val (.int v0), .val (.int v1), .val (.int v2), .val (.int v3), .val (.ref b101), .val (.int (0 : Int32)), .val (.ref b107), .val (.int (1 : Int32))] [(.ref b107)])) _
      obtain ⟨_, T133, h133, L133, X133, e133, ⟨rfl, rfl, q133⟩, st133⟩ := own_callV (argsL := []) (rest := []) (pc := 158) (W := 0) (Ls := #[.val (.int p1), .val (.int p2), .val (.int p3), .val (.int v0), .val (.int v1), .val (.int v2), .val (.int v3), .val (.ref b101), .val (.int (0 : Int32)), .val (.ref b107), .val (.int (1 : Int32))]) (S := [(.ref b107)]) X112 hx hZ hown (hw _ (List.mem_of_getElem? (i := 40) rfl)) (hw _ (List.mem_of_getElem? (i := 41) rfl)) (hw _ (List.mem_of_getElem? (i := 43) rfl)) (hw _ (List.mem_of_getElem? (i := 42) rfl)) (hw _ (List.mem_of_getElem? (i := 4) rfl)) (hw _ (List.mem_of_getElem? (i := 44) rfl)) (notFace_of_selects (args := #[]) (mvT hZ (hw _ (List.mem_of_getElem? (i := 43) rfl)))) (by decide) (rm6 l Z a0 hw [] b107 r1 b101 kr (0 : Int32) h108 n0 f113 F108_limit F108_position F108_piece F108_pieces Vr) (by decide) (by decide) (e112.trans q112) f114 (by rw [hml]; rfl) (lenOf pd___V rfl) rfl (Nat.le_of_eq rfl) (hb hby at_158) (by decide) (by decide)
      refine own_st st133 ?_
      have N133 := Fr.app N112 (Fr.nil n0)
      show own_Goes p e below (T133.setTop (mkF m 161 #[.val (.int p1), .val (.int p2), .val (.int p3), .val (.int v0), .val (.int v1), .val (.int v2), .val (.int v3), .val (.ref b101), .val (.int (0 : Int32)), .val (.ref b107), .val (.int (1 : Int32))] [])) _
      refine own_st (fun _ k => XS.iload X133.here hx rfl (hb hby at_161) rfl k) ?_
      show own_Goes p e below (T133.setTop (mkF m 163 #[.val (.int p1), .val (.int p2), .val (.int p3), .val (.int v0), .val (.int v1), .val (.int v2), .val (.int v3), .val (.ref b101), .val (.int (0 : Int32)), .val (.ref b107), .val (.int (1 : Int32))] [(.int (0 : Int32))])) _
      refine own_st (fun _ k => XS.iconst X133.here hx rfl (hb hby at_163) k) ?_
      show own_Goes p e below (T133.setTop (mkF m 164 #[.val (.int p1), .val (.int p2), .val (.int p3), .val (.int v0), .val (.int v1), .val (.int v2), .val (.int v3), .val (.ref b101), .val (.int (0 : Int32)), .val (.ref b107), .val (.int (1 : Int32))] [(.int (1 : Int32)), (.int (0 : Int32))])) _
      refine own_st (fun _ k => XS.icmpNo X133.here hx rfl (hb hby at_164) rfl (tlt (by decide : (0 : Int32) < (1 : Int32))).2.1 k) ?_
      show own_Goes p e below (T133.setTop (mkF m 167 #[.val (.int p1), .val (.int p2), .val (.int p3), .val (.int v0), .val (.int v1), .val (.int v2), .val (.int v3), .val (.ref b101), .val (.int (0 : Int32)), .val (.ref b107), .val (.int (1 : Int32))] [])) _
      refine own_st (fun _ k => XS.aload X133.here hx rfl (hb hby at_167) rfl rfl k) ?_
      show own_Goes p e below (T133.setTop (mkF m 169 #[.val (.int p1), .val (.int p2), .val (.int p3), .val (.int v0), .val (.int v1), .val (.int v2), .val (.int v3), .val (.ref b101), .val (.int (0 : Int32)), .val (.ref b107), .val (.int (1 : Int32))] [(.ref b107)])) _
      have f135 := (f110.keep K108 (ninS ne_b101_b107 nin0))
      obtain ⟨_, T134, h134, L134, X134, e134, ⟨rfl, N134q, K134, F134_bytes, F134_limit, F134_position, F134_pieces, F134_piece⟩, st134⟩ := own_callV (argsL := []) (rest := []) (pc := 169) (W := 0) (Ls := #[.val (.int p1), .val (.int p2), .val (.int p3), .val (.int v0), .val (.int v1), .val (.int v2), .val (.int v3), .val (.ref b101), .val (.int (0 : Int32)), .val (.ref b107), .val (.int (1 : Int32))]) (S := [(.ref b107)]) X133 hx hZ hown (hw _ (List.mem_of_getElem? (i := 29) rfl)) (hw _ (List.mem_of_getElem? (i := 30) rfl)) (hw _ (List.mem_of_getElem? (i := 32) rfl)) (hw _ (List.mem_of_getElem? (i := 31) rfl)) (hw _ (List.mem_of_getElem? (i := 4) rfl)) (hw _ (List.mem_of_getElem? (i := 33) rfl)) (notFace_of_selects (args := #[]) (mvT hZ (hw _ (List.mem_of_getElem? (i := 32) rfl)))) (by decide) (rm3 l Z a0 hw [] b107 b101 r1 k101 [(.int v0), (.int v1), (.int v2), (.int v3)] (0 : Int32) v0 h108 n0 f113 F108_bytes F108_limit F108_position F108_pieces F108_piece f114 f135 g_b107 ne_b101_b107 (by decide) rfl (by decide)) (by decide) (by decide) (e133.trans q133) f114 (by rw [hml]; rfl) (lenOf pd___I rfl) rfl (Nat.le_of_eq rfl) (hb hby at_169) (by decide) (by decide)
      refine own_st st134 ?_
      have N134 := Fr.app N133 N134q
      rw [show (0 : Int32) + (1 : Int32) = (1 : Int32) from by decide] at F134_position
      show own_Goes p e below (T134.setTop (mkF m 172 #[.val (.int p1), .val (.int p2), .val (.int p3), .val (.int v0), .val (.int v1), .val (.int v2), .val (.int v3), .val (.ref b101), .val (.int (0 : Int32)), .val (.ref b107), .val (.int (1 : Int32))] [(.int v0)])) _
      refine own_st (fun _ k => XS.iloadN X134.here hx rfl (hb hby at_172) rfl k) ?_
      show own_Goes p e below (T134.setTop (mkF m 173 #[.val (.int p1), .val (.int p2), .val (.int p3), .val (.int v0), .val (.int v1), .val (.int v2), .val (.int v3), .val (.ref b101), .val (.int (0 : Int32)), .val (.ref b107), .val (.int (1 : Int32))] [(.int v0), (.int v0)])) _
      refine own_st (fun _ k => XS.icmpYes X134.here hx rfl (pc0 := 173) (pc' := 179) rfl (hb hby at_173) rfl (teq (rfl : v0 = v0)).1 (by decide) (by decide) k) ?_
      show own_Goes p e below (T134.setTop (mkF m 179 #[.val (.int p1), .val (.int p2), .val (.int p3), .val (.int v0), .val (.int v1), .val (.int v2), .val (.int v3), .val (.ref b101), .val (.int (0 : Int32)), .val (.ref b107), .val (.int (1 : Int32))] [])) _
      refine own_st (fun _ k => XS.iload X134.here hx rfl (hb hby at_179) rfl k) ?_
      show own_Goes p e below (T134.setTop (mkF m 181 #[.val (.int p1), .val (.int p2), .val (.int p3), .val (.int v0), .val (.int v1), .val (.int v2), .val (.int v3), .val (.ref b101), .val (.int (0 : Int32)), .val (.ref b107), .val (.int (1 : Int32))] [(.int (0 : Int32))])) _
      refine own_st (fun _ k => XS.iconst X134.here hx rfl (hb hby at_181) k) ?_
      show own_Goes p e below (T134.setTop (mkF m 182 #[.val (.int p1), .val (.int p2), .val (.int p3), .val (.int v0), .val (.int v1), .val (.int v2), .val (.int v3), .val (.ref b101), .val (.int (0 : Int32)), .val (.ref b107), .val (.int (1 : Int32))] [(.int (2 : Int32)), (.int (0 : Int32))])) _
      refine own_st (fun _ k => XS.icmpNo X134.here hx rfl (hb hby at_182) rfl (tlt (by decide : (0 : Int32) < (2 : Int32))).2.1 k) ?_
      show own_Goes p e below (T134.setTop (mkF m 185 #[.val (.int p1), .val (.int p2), .val (.int p3), .val (.int v0), .val (.int v1), .val (.int v2), .val (.int v3), .val (.ref b101), .val (.int (0 : Int32)), .val (.ref b107), .val (.int (1 : Int32))] [])) _
      refine own_st (fun _ k => XS.aload X134.here hx rfl (hb hby at_185) rfl rfl k) ?_
      show own_Goes p e below (T134.setTop (mkF m 187 #[.val (.int p1), .val (.int p2), .val (.int p3), .val (.int v0), .val (.int v1), .val (.int v2), .val (.int v3), .val (.ref b101), .val (.int (0 : Int32)), .val (.ref b107), .val (.int (1 : Int32))] [(.ref b107)])) _
      have f137 := (Nat.le_trans f113 K134.1)
      have f138 := (f114.keep K134)
      have f139 := (f135.keep K134 (ninS ne_b101_b107 nin0))
      obtain ⟨_, T136, h136, L136, X136, e136, ⟨rfl, N136q, K136, F136_bytes, F136_limit, F136_position, F136_pieces, F136_piece⟩, st136⟩ := own_callV (argsL := []) (rest := []) (pc := 187) (W := 0) (Ls := #[.val (.int p1), .val (.int p2), .val (.int p3), .val (.int v0), .val (.int v1), .val (.int v2), .val (.int v3), .val (.ref b101), .val (.int (0 : Int32)), .val (.ref b107), .val (.int (1 : Int32))]) (S := [(.ref b107)]) X134 hx hZ hown (hw _ (List.mem_of_getElem? (i := 29) rfl)) (hw _ (List.mem_of_getElem? (i := 30) rfl)) (hw _ (List.mem_of_getElem? (i := 32) rfl)) (hw _ (List.mem_of_getElem? (i := 31) rfl)) (hw _ (List.mem_of_getElem? (i := 4) rfl)) (hw _ (List.mem_of_getElem? (i := 33) rfl)) (notFace_of_selects (args := #[]) (mvT hZ (hw _ (List.mem_of_getElem? (i := 32) rfl)))) (by decide) (rm3 l Z a0 hw [] b107 b101 r1 k101 [(.int v0), (.int v1), (.int v2), (.int v3)] (1 : Int32) v1 h134 n0 f137 F134_bytes F134_limit F134_position F134_pieces F134_piece f138 f139 g_b107 ne_b101_b107 (by decide) rfl (by decide)) (by decide) (by decide) e134 f138 (by rw [hml]; rfl) (lenOf pd___I rfl) rfl (Nat.le_of_eq rfl) (hb hby at_187) (by decide) (by decide)
      refine own_st st136 ?_
      have N136 := Fr.app N134 N136q
      rw [show (1 : Int32) + (1 : Int32) = (2 : Int32) from by decide] at F136_position
      show own_Goes p e below (T136.setTop (mkF m 190 #[.val (.int p1), .val (.int p2), .val (.int p3), .val (.int v0), .val (.int v1), .val (.int v2), .val (.int v3), .val (.ref b101), .val (.int (0 : Int32)), .val (.ref b107), .val (.int (1 : Int32))] [(.int v1)])) _
      refine own_st (fun _ k => XS.iload X136.here hx rfl (hb hby at_190) rfl k) ?_
      show own_Goes p e below (T136.setTop (mkF m 192 #[.val (.int p1), .val (.int p2), .val (.int p3), .val (.int v0), .val (.int v1), .val (.int v2), .val (.int v3), .val (.ref b101), .val (.int (0 : Int32)), .val (.ref b107), .val (.int (1 : Int32))] [(.int v1), (.int v1)])) _
      refine own_st (fun _ k => XS.icmpYes X136.here hx rfl (pc0 := 192) (pc' := 198) rfl (hb hby at_192) rfl (teq (rfl : v1 = v1)).1 (by decide) (by decide) k) ?_
      show own_Goes p e below (T136.setTop (mkF m 198 #[.val (.int p1), .val (.int p2), .val (.int p3), .val (.int v0), .val (.int v1), .val (.int v2), .val (.int v3), .val (.ref b101), .val (.int (0 : Int32)), .val (.ref b107), .val (.int (1 : Int32))] [])) _
      refine own_st (fun _ k => XS.iload X136.here hx rfl (hb hby at_198) rfl k) ?_
      show own_Goes p e below (T136.setTop (mkF m 200 #[.val (.int p1), .val (.int p2), .val (.int p3), .val (.int v0), .val (.int v1), .val (.int v2), .val (.int v3), .val (.ref b101), .val (.int (0 : Int32)), .val (.ref b107), .val (.int (1 : Int32))] [(.int (0 : Int32))])) _
      refine own_st (fun _ k => XS.iconst X136.here hx rfl (hb hby at_200) k) ?_
      show own_Goes p e below (T136.setTop (mkF m 201 #[.val (.int p1), .val (.int p2), .val (.int p3), .val (.int v0), .val (.int v1), .val (.int v2), .val (.int v3), .val (.ref b101), .val (.int (0 : Int32)), .val (.ref b107), .val (.int (1 : Int32))] [(.int (3 : Int32)), (.int (0 : Int32))])) _
      refine own_st (fun _ k => XS.icmpNo X136.here hx rfl (hb hby at_201) rfl (tlt (by decide : (0 : Int32) < (3 : Int32))).2.1 k) ?_
      show own_Goes p e below (T136.setTop (mkF m 204 #[.val (.int p1), .val (.int p2), .val (.int p3), .val (.int v0), .val (.int v1), .val (.int v2), .val (.int v3), .val (.ref b101), .val (.int (0 : Int32)), .val (.ref b107), .val (.int (1 : Int32))] [])) _
      refine own_st (fun _ k => XS.aload X136.here hx rfl (hb hby at_204) rfl rfl k) ?_
      show own_Goes p e below (T136.setTop (mkF m 206 #[.val (.int p1), .val (.int p2), .val (.int p3), .val (.int v0), .val (.int v1), .val (.int v2), .val (.int v3), .val (.ref b101), .val (.int (0 : Int32)), .val (.ref b107), .val (.int (1 : Int32))] [(.ref b107)])) _
      have f141 := (Nat.le_trans f137 K136.1)
      have f142 := (f138.keep K136)
      have f143 := (f139.keep K136 (ninS ne_b101_b107 nin0))
      obtain ⟨_, T140, h140, L140, X140, e140, ⟨rfl, N140q, K140, F140_bytes, F140_limit, F140_position, F140_pieces, F140_piece⟩, st140⟩ := own_callV (argsL := []) (rest := []) (pc := 206) (W := 0) (Ls := #[.val (.int p1), .val (.int p2), .val (.int p3), .val (.int v0), .val (.int v1), .val (.int v2), .val (.int v3), .val (.ref b101), .val (.int (0 : Int32)), .val (.ref b107), .val (.int (1 : Int32))]) (S := [(.ref b107)]) X136 hx hZ hown (hw _ (List.mem_of_getElem? (i := 29) rfl)) (hw _ (List.mem_of_getElem? (i := 30) rfl)) (hw _ (List.mem_of_getElem? (i := 32) rfl)) (hw _ (List.mem_of_getElem? (i := 31) rfl)) (hw _ (List.mem_of_getElem? (i := 4) rfl)) (hw _ (List.mem_of_getElem? (i := 33) rfl)) (notFace_of_selects (args := #[]) (mvT hZ (hw _ (List.mem_of_getElem? (i := 32) rfl)))) (by decide) (rm3 l Z a0 hw [] b107 b101 r1 k101 [(.int v0), (.int v1), (.int v2), (.int v3)] (2 : Int32) v2 h136 n0 f141 F136_bytes F136_limit F136_position F136_pieces F136_piece f142 f143 g_b107 ne_b101_b107 (by decide) rfl (by decide)) (by decide) (by decide) e136 f142 (by rw [hml]; rfl) (lenOf pd___I rfl) rfl (Nat.le_of_eq rfl) (hb hby at_206) (by decide) (by decide)
      refine own_st st140 ?_
      have N140 := Fr.app N136 N140q
      rw [show (2 : Int32) + (1 : Int32) = (3 : Int32) from by decide] at F140_position
      show own_Goes p e below (T140.setTop (mkF m 209 #[.val (.int p1), .val (.int p2), .val (.int p3), .val (.int v0), .val (.int v1), .val (.int v2), .val (.int v3), .val (.ref b101), .val (.int (0 : Int32)), .val (.ref b107), .val (.int (1 : Int32))] [(.int v2)])) _
      refine own_st (fun _ k => XS.iload X140.here hx rfl (hb hby at_209) rfl k) ?_
      show own_Goes p e below (T140.setTop (mkF m 211 #[.val (.int p1), .val (.int p2), .val (.int p3), .val (.int v0), .val (.int v1), .val (.int v2), .val (.int v3), .val (.ref b101), .val (.int (0 : Int32)), .val (.ref b107), .val (.int (1 : Int32))] [(.int v2), (.int v2)])) _
      refine own_st (fun _ k => XS.icmpYes X140.here hx rfl (pc0 := 211) (pc' := 217) rfl (hb hby at_211) rfl (teq (rfl : v2 = v2)).1 (by decide) (by decide) k) ?_
      show own_Goes p e below (T140.setTop (mkF m 217 #[.val (.int p1), .val (.int p2), .val (.int p3), .val (.int v0), .val (.int v1), .val (.int v2), .val (.int v3), .val (.ref b101), .val (.int (0 : Int32)), .val (.ref b107), .val (.int (1 : Int32))] [])) _
      refine own_st (fun _ k => XS.iload X140.here hx rfl (hb hby at_217) rfl k) ?_
      show own_Goes p e below (T140.setTop (mkF m 219 #[.val (.int p1), .val (.int p2), .val (.int p3), .val (.int v0), .val (.int v1), .val (.int v2), .val (.int v3), .val (.ref b101), .val (.int (0 : Int32)), .val (.ref b107), .val (.int (1 : Int32))] [(.int (0 : Int32))])) _
      refine own_st (fun _ k => XS.iconst X140.here hx rfl (hb hby at_219) k) ?_
      show own_Goes p e below (T140.setTop (mkF m 220 #[.val (.int p1), .val (.int p2), .val (.int p3), .val (.int v0), .val (.int v1), .val (.int v2), .val (.int v3), .val (.ref b101), .val (.int (0 : Int32)), .val (.ref b107), .val (.int (1 : Int32))] [(.int (4 : Int32)), (.int (0 : Int32))])) _
      refine own_st (fun _ k => XS.icmpNo X140.here hx rfl (hb hby at_220) rfl (tlt (by decide : (0 : Int32) < (4 : Int32))).2.1 k) ?_
      show own_Goes p e below (T140.setTop (mkF m 223 #[.val (.int p1), .val (.int p2), .val (.int p3), .val (.int v0), .val (.int v1), .val (.int v2), .val (.int v3), .val (.ref b101), .val (.int (0 : Int32)), .val (.ref b107), .val (.int (1 : Int32))] [])) _
      refine own_st (fun _ k => XS.aload X140.here hx rfl (hb hby at_223) rfl rfl k) ?_
      show own_Goes p e below (T140.setTop (mkF m 225 #[.val (.int p1), .val (.int p2), .val (.int p3), .val (.int v0), .val (.int v1), .val (.int v2), .val (.int v3), .val (.ref b101), .val (.int (0 : Int32)), .val (.ref b107), .val (.int (1 : Int32))] [(.ref b107)])) _
      have f145 := (Nat.le_trans f141 K140.1)
      have f146 := (f142.keep K140)
      have f147 := (f143.keep K140 (ninS ne_b101_b107 nin0))
      obtain ⟨_, T144, h144, L144, X144, e144, ⟨rfl, N144q, K144, F144_bytes, F144_limit, F144_position, F144_pieces, F144_piece⟩, st144⟩ := own_callV (argsL := []) (rest := []) (pc := 225) (W := 0) (Ls := #[.val (.int p1), .val (.int p2), .val (.int p3), .val (.int v0), .val (.int v1), .val (.int v2), .val (.int v3), .val (.ref b101), .val (.int (0 : Int32)), .val (.ref b107), .val (.int (1 : Int32))]) (S := [(.ref b107)]) X140 hx hZ hown (hw _ (List.mem_of_getElem? (i := 29) rfl)) (hw _ (List.mem_of_getElem? (i := 30) rfl)) (hw _ (List.mem_of_getElem? (i := 32) rfl)) (hw _ (List.mem_of_getElem? (i := 31) rfl)) (hw _ (List.mem_of_getElem? (i := 4) rfl)) (hw _ (List.mem_of_getElem? (i := 33) rfl)) (notFace_of_selects (args := #[]) (mvT hZ (hw _ (List.mem_of_getElem? (i := 32) rfl)))) (by decide) (rm3 l Z a0 hw [] b107 b101 r1 k101 [(.int v0), (.int v1), (.int v2), (.int v3)] (3 : Int32) v3 h140 n0 f145 F140_bytes F140_limit F140_position F140_pieces F140_piece f146 f147 g_b107 ne_b101_b107 (by decide) rfl (by decide)) (by decide) (by decide) e140 f146 (by rw [hml]; rfl) (lenOf pd___I rfl) rfl (Nat.le_of_eq rfl) (hb hby at_225) (by decide) (by decide)
      refine own_st st144 ?_
      have N144 := Fr.app N140 N144q
      rw [show (3 : Int32) + (1 : Int32) = (4 : Int32) from by decide] at F144_position
      show own_Goes p e below (T144.setTop (mkF m 228 #[.val (.int p1), .val (.int p2), .val (.int p3), .val (.int v0), .val (.int v1), .val (.int v2), .val (.int v3), .val (.ref b101), .val (.int (0 : Int32)), .val (.ref b107), .val (.int (1 : Int32))] [(.int v3)])) _
      refine own_st (fun _ k => XS.iload X144.here hx rfl (hb hby at_228) rfl k) ?_
      show own_Goes p e below (T144.setTop (mkF m 230 #[.val (.int p1), .val (.int p2), .val (.int p3), .val (.int v0), .val (.int v1), .val (.int v2), .val (.int v3), .val (.ref b101), .val (.int (0 : Int32)), .val (.ref b107), .val (.int (1 : Int32))] [(.int v3), (.int v3)])) _
      refine own_st (fun _ k => XS.icmpYes X144.here hx rfl (pc0 := 230) (pc' := 236) rfl (hb hby at_230) rfl (teq (rfl : v3 = v3)).1 (by decide) (by decide) k) ?_
      show own_Goes p e below (T144.setTop (mkF m 236 #[.val (.int p1), .val (.int p2), .val (.int p3), .val (.int v0), .val (.int v1), .val (.int v2), .val (.int v3), .val (.ref b101), .val (.int (0 : Int32)), .val (.ref b107), .val (.int (1 : Int32))] [])) _
      refine own_st (fun _ k => XS.aload X144.here hx rfl (hb hby at_236) rfl rfl k) ?_
      show own_Goes p e below (T144.setTop (mkF m 238 #[.val (.int p1), .val (.int p2), .val (.int p3), .val (.int v0), .val (.int v1), .val (.int v2), .val (.int v3), .val (.ref b101), .val (.int (0 : Int32)), .val (.ref b107), .val (.int (1 : Int32))] [(.ref b107)])) _
      have f149 := (Nat.le_trans f145 K144.1)
      have f150 := (f146.keep K144)
      obtain ⟨_, T148, h148, L148, X148, e148, ⟨rfl, rfl, q148⟩, st148⟩ := own_callV (argsL := []) (rest := []) (pc := 238) (W := 0) (Ls := #[.val (.int p1), .val (.int p2), .val (.int p3), .val (.int v0), .val (.int v1), .val (.int v2), .val (.int v3), .val (.ref b101), .val (.int (0 : Int32)), .val (.ref b107), .val (.int (1 : Int32))]) (S := [(.ref b107)]) X144 hx hZ hown (hw _ (List.mem_of_getElem? (i := 45) rfl)) (hw _ (List.mem_of_getElem? (i := 46) rfl)) (hw _ (List.mem_of_getElem? (i := 48) rfl)) (hw _ (List.mem_of_getElem? (i := 47) rfl)) (hw _ (List.mem_of_getElem? (i := 4) rfl)) (hw _ (List.mem_of_getElem? (i := 49) rfl)) (notFace_of_selects (args := #[]) (mvT hZ (hw _ (List.mem_of_getElem? (i := 48) rfl)))) (by decide) (rm7 l Z a0 hw [] b107 h144 n0 f149 F144_limit F144_position) (by decide) (by decide) e144 f150 (by rw [hml]; rfl) (lenOf pd___V rfl) rfl (Nat.le_of_eq rfl) (hb hby at_238) (by decide) (by decide)
      refine own_st st148 ?_
      have N148 := Fr.app N144 (Fr.nil n0)
      show own_Goes p e below (T148.setTop (mkF m 241 #[.val (.int p1), .val (.int p2), .val (.int p3), .val (.int v0), .val (.int v1), .val (.int v2), .val (.int v3), .val (.ref b101), .val (.int (0 : Int32)), .val (.ref b107), .val (.int (1 : Int32))] [])) _
      refine own_st (fun _ k => XS.iload X148.here hx rfl (hb hby at_241) rfl k) ?_
      show own_Goes p e below (T148.setTop (mkF m 243 #[.val (.int p1), .val (.int p2), .val (.int p3), .val (.int v0), .val (.int v1), .val (.int v2), .val (.int v3), .val (.ref b101), .val (.int (0 : Int32)), .val (.ref b107), .val (.int (1 : Int32))] [(.int (1 : Int32))])) _
      exact own_retN (t := .boolean) (z' := (1 : Int32)) X148 hx hlk hret (by simp) (by decide) (hb hby at_243) (by decide) (by decide) (e148.trans q148) ⟨rfl, N148⟩
  · show own_Goes p e below (T108.setTop (mkF m 70 #[.val (.int p1), .val (.int p2), .val (.int p3), .val (.int v0), .val (.int v1), .val (.int v2), .val (.int v3), .val (.ref b101), .val (.int (1 : Int32)), .val (.ref b107), .val (.int (1 : Int32))] [])) _
    refine own_st (fun _ k => XS.iload X108.here hx rfl (hb hby at_70) rfl k) ?_
    show own_Goes p e below (T108.setTop (mkF m 72 #[.val (.int p1), .val (.int p2), .val (.int p3), .val (.int v0), .val (.int v1), .val (.int v2), .val (.int v3), .val (.ref b101), .val (.int (1 : Int32)), .val (.ref b107), .val (.int (1 : Int32))] [(.int (1 : Int32))])) _
    refine own_st (fun _ k => XS.iconst X108.here hx rfl (hb hby at_72) k) ?_
    show own_Goes p e below (T108.setTop (mkF m 73 #[.val (.int p1), .val (.int p2), .val (.int p3), .val (.int v0), .val (.int v1), .val (.int v2), .val (.int v3), .val (.ref b101), .val (.int (1 : Int32)), .val (.ref b107), .val (.int (1 : Int32))] [(.int (1 : Int32)), (.int (1 : Int32))])) _
    refine own_st (fun _ k => XS.icmpNo X108.here hx rfl (hb hby at_73) rfl (flt (by decide : ¬ ((1 : Int32) < (1 : Int32)))).1 k) ?_
    show own_Goes p e below (T108.setTop (mkF m 76 #[.val (.int p1), .val (.int p2), .val (.int p3), .val (.int v0), .val (.int v1), .val (.int v2), .val (.int v3), .val (.ref b101), .val (.int (1 : Int32)), .val (.ref b107), .val (.int (1 : Int32))] [])) _
    refine own_st (fun _ k => XS.aload X108.here hx rfl (hb hby at_76) rfl rfl k) ?_
    show own_Goes p e below (T108.setTop (mkF m 78 #[.val (.int p1), .val (.int p2), .val (.int p3), .val (.int v0), .val (.int v1), .val (.int v2), .val (.int v3), .val (.ref b101), .val (.int (1 : Int32)), .val (.ref b107), .val (.int (1 : Int32))] [(.ref b107)])) _
    have f152 := (Nat.le_trans f109 K108.1)
    have f153 := (A107.keep K108)
    have f154 := (f110.keep K108 (ninS ne_b101_b107 nin0))
    obtain ⟨_, T151, h151, L151, X151, e151, ⟨rfl, N151q, K151, F151_bytes, F151_limit, F151_position, F151_pieces, F151_piece⟩, st151⟩ := own_callV (argsL := []) (rest := []) (pc := 78) (W := 0) (Ls := #[.val (.int p1), .val (.int p2), .val (.int p3), .val (.int v0), .val (.int v1), .val (.int v2), .val (.int v3), .val (.ref b101), .val (.int (1 : Int32)), .val (.ref b107), .val (.int (1 : Int32))]) (S := [(.ref b107)]) X108 hx hZ hown (hw _ (List.mem_of_getElem? (i := 29) rfl)) (hw _ (List.mem_of_getElem? (i := 30) rfl)) (hw _ (List.mem_of_getElem? (i := 32) rfl)) (hw _ (List.mem_of_getElem? (i := 31) rfl)) (hw _ (List.mem_of_getElem? (i := 4) rfl)) (hw _ (List.mem_of_getElem? (i := 33) rfl)) (notFace_of_selects (args := #[]) (mvT hZ (hw _ (List.mem_of_getElem? (i := 32) rfl)))) (by decide) (rm3 l Z a0 hw [] b107 b101 r1 k101 [(.int v0), (.int v1), (.int v2), (.int v3)] (0 : Int32) v0 h108 n0 f152 F108_bytes F108_limit F108_position F108_pieces F108_piece f153 f154 g_b107 ne_b101_b107 (by decide) rfl (by decide)) (by decide) (by decide) e108 f153 (by rw [hml]; rfl) (lenOf pd___I rfl) rfl (Nat.le_of_eq rfl) (hb hby at_78) (by decide) (by decide)
    refine own_st st151 ?_
    have N151 := Fr.app N108 N151q
    rw [show (0 : Int32) + (1 : Int32) = (1 : Int32) from by decide] at F151_position
    show own_Goes p e below (T151.setTop (mkF m 81 #[.val (.int p1), .val (.int p2), .val (.int p3), .val (.int v0), .val (.int v1), .val (.int v2), .val (.int v3), .val (.ref b101), .val (.int (1 : Int32)), .val (.ref b107), .val (.int (1 : Int32))] [(.int v0)])) _
    refine own_st (fun _ k => XS.iloadN X151.here hx rfl (hb hby at_81) rfl k) ?_
    show own_Goes p e below (T151.setTop (mkF m 82 #[.val (.int p1), .val (.int p2), .val (.int p3), .val (.int v0), .val (.int v1), .val (.int v2), .val (.int v3), .val (.ref b101), .val (.int (1 : Int32)), .val (.ref b107), .val (.int (1 : Int32))] [(.int v0), (.int v0)])) _
    refine own_st (fun _ k => XS.icmpYes X151.here hx rfl (pc0 := 82) (pc' := 88) rfl (hb hby at_82) rfl (teq (rfl : v0 = v0)).1 (by decide) (by decide) k) ?_
    show own_Goes p e below (T151.setTop (mkF m 88 #[.val (.int p1), .val (.int p2), .val (.int p3), .val (.int v0), .val (.int v1), .val (.int v2), .val (.int v3), .val (.ref b101), .val (.int (1 : Int32)), .val (.ref b107), .val (.int (1 : Int32))] [])) _
    refine own_st (fun _ k => XS.iload X151.here hx rfl (hb hby at_88) rfl k) ?_
    show own_Goes p e below (T151.setTop (mkF m 90 #[.val (.int p1), .val (.int p2), .val (.int p3), .val (.int v0), .val (.int v1), .val (.int v2), .val (.int v3), .val (.ref b101), .val (.int (1 : Int32)), .val (.ref b107), .val (.int (1 : Int32))] [(.int (1 : Int32))])) _
    refine own_st (fun _ k => XS.iconst X151.here hx rfl (hb hby at_90) k) ?_
    show own_Goes p e below (T151.setTop (mkF m 91 #[.val (.int p1), .val (.int p2), .val (.int p3), .val (.int v0), .val (.int v1), .val (.int v2), .val (.int v3), .val (.ref b101), .val (.int (1 : Int32)), .val (.ref b107), .val (.int (1 : Int32))] [(.int (2 : Int32)), (.int (1 : Int32))])) _
    refine own_st (fun _ k => XS.icmpYes X151.here hx rfl (pc0 := 91) (pc' := 107) rfl (hb hby at_91) rfl (tlt (by decide : (1 : Int32) < (2 : Int32))).1 (by decide) (by decide) k) ?_
    show own_Goes p e below (T151.setTop (mkF m 107 #[.val (.int p1), .val (.int p2), .val (.int p3), .val (.int v0), .val (.int v1), .val (.int v2), .val (.int v3), .val (.ref b101), .val (.int (1 : Int32)), .val (.ref b107), .val (.int (1 : Int32))] [])) _
    refine own_st (fun _ k => XS.iload X151.here hx rfl (hb hby at_107) rfl k) ?_
    show own_Goes p e below (T151.setTop (mkF m 109 #[.val (.int p1), .val (.int p2), .val (.int p3), .val (.int v0), .val (.int v1), .val (.int v2), .val (.int v3), .val (.ref b101), .val (.int (1 : Int32)), .val (.ref b107), .val (.int (1 : Int32))] [(.int (1 : Int32))])) _
    refine own_st (fun _ k => XS.iconst X151.here hx rfl (hb hby at_109) k) ?_
    show own_Goes p e below (T151.setTop (mkF m 110 #[.val (.int p1), .val (.int p2), .val (.int p3), .val (.int v0), .val (.int v1), .val (.int v2), .val (.int v3), .val (.ref b101), .val (.int (1 : Int32)), .val (.ref b107), .val (.int (1 : Int32))] [(.int (3 : Int32)), (.int (1 : Int32))])) _
    refine own_st (fun _ k => XS.icmpYes X151.here hx rfl (pc0 := 110) (pc' := 126) rfl (hb hby at_110) rfl (tlt (by decide : (1 : Int32) < (3 : Int32))).1 (by decide) (by decide) k) ?_
    show own_Goes p e below (T151.setTop (mkF m 126 #[.val (.int p1), .val (.int p2), .val (.int p3), .val (.int v0), .val (.int v1), .val (.int v2), .val (.int v3), .val (.ref b101), .val (.int (1 : Int32)), .val (.ref b107), .val (.int (1 : Int32))] [])) _
    refine own_st (fun _ k => XS.iload X151.here hx rfl (hb hby at_126) rfl k) ?_
    show own_Goes p e below (T151.setTop (mkF m 128 #[.val (.int p1), .val (.int p2), .val (.int p3), .val (.int v0), .val (.int v1), .val (.int v2), .val (.int v3), .val (.ref b101), .val (.int (1 : Int32)), .val (.ref b107), .val (.int (1 : Int32))] [(.int (1 : Int32))])) _
    refine own_st (fun _ k => XS.iconst X151.here hx rfl (hb hby at_128) k) ?_
    show own_Goes p e below (T151.setTop (mkF m 129 #[.val (.int p1), .val (.int p2), .val (.int p3), .val (.int v0), .val (.int v1), .val (.int v2), .val (.int v3), .val (.ref b101), .val (.int (1 : Int32)), .val (.ref b107), .val (.int (1 : Int32))] [(.int (4 : Int32)), (.int (1 : Int32))])) _
    refine own_st (fun _ k => XS.icmpYes X151.here hx rfl (pc0 := 129) (pc' := 145) rfl (hb hby at_129) rfl (tlt (by decide : (1 : Int32) < (4 : Int32))).1 (by decide) (by decide) k) ?_
    show own_Goes p e below (T151.setTop (mkF m 145 #[.val (.int p1), .val (.int p2), .val (.int p3), .val (.int v0), .val (.int v1), .val (.int v2), .val (.int v3), .val (.ref b101), .val (.int (1 : Int32)), .val (.ref b107), .val (.int (1 : Int32))] [])) _
    refine own_st (fun _ k => XS.aload X151.here hx rfl (hb hby at_145) rfl rfl k) ?_
    show own_Goes p e below (T151.setTop (mkF m 147 #[.val (.int p1), .val (.int p2), .val (.int p3), .val (.int v0), .val (.int v1), .val (.int v2), .val (.int v3), .val (.ref b101), .val (.int (1 : Int32)), .val (.ref b107), .val (.int (1 : Int32))] [(.ref b107)])) _
    have f156 := (Nat.le_trans f152 K151.1)
    have f157 := (Vr.keep K151 (ninS (Ne.symm ner) nin0))
    have f158 := (f153.keep K151)
    obtain ⟨_, T155, h155, L155, X155, e155, ⟨rfl, rfl, q155⟩, st155⟩ := own_callV (argsL := []) (rest := []) (pc := 147) (W := 0) (Ls := #[.val (.int p1), .val (.int p2), .val (.int p3), .val (.int v0), .val (.int v1), .val (.int v2), .val (.int v3), .val (.ref b101), .val (.int (1 : Int32)), .val (.ref b107), .val (.int (1 : Int32))]) (S := [(.ref b107)]) X151 hx hZ hown (hw _ (List.mem_of_getElem? (i := 40) rfl)) (hw _ (List.mem_of_getElem? (i := 41) rfl)) (hw _ (List.mem_of_getElem? (i := 43) rfl)) (hw _ (List.mem_of_getElem? (i := 42) rfl)) (hw _ (List.mem_of_getElem? (i := 4) rfl)) (hw _ (List.mem_of_getElem? (i := 44) rfl)) (notFace_of_selects (args := #[]) (mvT hZ (hw _ (List.mem_of_getElem? (i := 43) rfl)))) (by decide) (rm6 l Z a0 hw [] b107 r1 b101 kr (1 : Int32) h151 n0 f156 F151_limit F151_position F151_piece F151_pieces f157) (by decide) (by decide) e151 f158 (by rw [hml]; rfl) (lenOf pd___V rfl) rfl (Nat.le_of_eq rfl) (hb hby at_147) (by decide) (by decide)
    refine own_st st155 ?_
    have N155 := Fr.app N151 (Fr.nil n0)
    show own_Goes p e below (T155.setTop (mkF m 150 #[.val (.int p1), .val (.int p2), .val (.int p3), .val (.int v0), .val (.int v1), .val (.int v2), .val (.int v3), .val (.ref b101), .val (.int (1 : Int32)), .val (.ref b107), .val (.int (1 : Int32))] [])) _
    refine own_st (fun _ k => XS.iloadN X155.here hx rfl (hb hby at_150) rfl k) ?_
    show own_Goes p e below (T155.setTop (mkF m 151 #[.val (.int p1), .val (.int p2), .val (.int p3), .val (.int v0), .val (.int v1), .val (.int v2), .val (.int v3), .val (.ref b101), .val (.int (1 : Int32)), .val (.ref b107), .val (.int (1 : Int32))] [(.int p3)])) _
    refine own_st (fun _ k => XS.iconst X155.here hx rfl (hb hby at_151) k) ?_
    show own_Goes p e below (T155.setTop (mkF m 152 #[.val (.int p1), .val (.int p2), .val (.int p3), .val (.int v0), .val (.int v1), .val (.int v2), .val (.int v3), .val (.ref b101), .val (.int (1 : Int32)), .val (.ref b107), .val (.int (1 : Int32))] [(.int (1 : Int32)), (.int p3)])) _
    refine own_st (fun _ k => XS.iand X155.here hx rfl (hb hby at_152) rfl k) ?_
    show own_Goes p e below (T155.setTop (mkF m 153 #[.val (.int p1), .val (.int p2), .val (.int p3), .val (.int v0), .val (.int v1), .val (.int v2), .val (.int v3), .val (.ref b101), .val (.int (1 : Int32)), .val (.ref b107), .val (.int (1 : Int32))] [(.int (p3 &&& (1 : Int32)))])) _
    by_cases hc153_159 : (p3 &&& (1 : Int32)) = (0 : Int32)
    · refine own_st (fun _ k => XS.ifYes X155.here hx rfl (pc0 := 153) (pc' := 161) rfl (hb hby at_153) rfl ((if0 _ _).trans (teq hc153_159).1) (by decide) (by decide) k) ?_
      show own_Goes p e below (T155.setTop (mkF m 161 #[.val (.int p1), .val (.int p2), .val (.int p3), .val (.int v0), .val (.int v1), .val (.int v2), .val (.int v3), .val (.ref b101), .val (.int (1 : Int32)), .val (.ref b107), .val (.int (1 : Int32))] [])) _
      refine own_st (fun _ k => XS.iload X155.here hx rfl (hb hby at_161) rfl k) ?_
      show own_Goes p e below (T155.setTop (mkF m 163 #[.val (.int p1), .val (.int p2), .val (.int p3), .val (.int v0), .val (.int v1), .val (.int v2), .val (.int v3), .val (.ref b101), .val (.int (1 : Int32)), .val (.ref b107), .val (.int (1 : Int32))] [(.int (1 : Int32))])) _
      refine own_st (fun _ k => XS.iconst X155.here hx rfl (hb hby at_163) k) ?_
      show own_Goes p e below (T155.setTop (mkF m 164 #[.val (.int p1), .val (.int p2), .val (.int p3), .val (.int v0), .val (.int v1), .val (.int v2), .val (.int v3), .val (.ref b101), .val (.int (1 : Int32)), .val (.ref b107), .val (.int (1 : Int32))] [(.int (1 : Int32)), (.int (1 : Int32))])) _
      refine own_st (fun _ k => XS.icmpYes X155.here hx rfl (pc0 := 164) (pc' := 179) rfl (hb hby at_164) rfl (flt (by decide : ¬ ((1 : Int32) < (1 : Int32)))).2.1 (by decide) (by decide) k) ?_
      show own_Goes p e below (T155.setTop (mkF m 179 #[.val (.int p1), .val (.int p2), .val (.int p3), .val (.int v0), .val (.int v1), .val (.int v2), .val (.int v3), .val (.ref b101), .val (.int (1 : Int32)), .val (.ref b107), .val (.int (1 : Int32))] [])) _
      refine own_st (fun _ k => XS.iload X155.here hx rfl (hb hby at_179) rfl k) ?_
      show own_Goes p e below (T155.setTop (mkF m 181 #[.val (.int p1), .val (.int p2), .val (.int p3), .val (.int v0), .val (.int v1), .val (.int v2), .val (.int v3), .val (.ref b101), .val (.int (1 : Int32)), .val (.ref b107), .val (.int (1 : Int32))] [(.int (1 : Int32))])) _
      refine own_st (fun _ k => XS.iconst X155.here hx rfl (hb hby at_181) k) ?_
      show own_Goes p e below (T155.setTop (mkF m 182 #[.val (.int p1), .val (.int p2), .val (.int p3), .val (.int v0), .val (.int v1), .val (.int v2), .val (.int v3), .val (.ref b101), .val (.int (1 : Int32)), .val (.ref b107), .val (.int (1 : Int32))] [(.int (2 : Int32)), (.int (1 : Int32))])) _
      refine own_st (fun _ k => XS.icmpNo X155.here hx rfl (hb hby at_182) rfl (tlt (by decide : (1 : Int32) < (2 : Int32))).2.1 k) ?_
      show own_Goes p e below (T155.setTop (mkF m 185 #[.val (.int p1), .val (.int p2), .val (.int p3), .val (.int v0), .val (.int v1), .val (.int v2), .val (.int v3), .val (.ref b101), .val (.int (1 : Int32)), .val (.ref b107), .val (.int (1 : Int32))] [])) _
      refine own_st (fun _ k => XS.aload X155.here hx rfl (hb hby at_185) rfl rfl k) ?_
      show own_Goes p e below (T155.setTop (mkF m 187 #[.val (.int p1), .val (.int p2), .val (.int p3), .val (.int v0), .val (.int v1), .val (.int v2), .val (.int v3), .val (.ref b101), .val (.int (1 : Int32)), .val (.ref b107), .val (.int (1 : Int32))] [(.ref b107)])) _
      have f161 := (f154.keep K151 (ninS ne_b101_b107 nin0))
      obtain ⟨_, T160, h160, L160, X160, e160, ⟨rfl, N160q, K160, F160_bytes, F160_limit, F160_position, F160_pieces, F160_piece⟩, st160⟩ := own_callV (argsL := []) (rest := []) (pc := 187) (W := 0) (Ls := #[.val (.int p1), .val (.int p2), .val (.int p3), .val (.int v0), .val (.int v1), .val (.int v2), .val (.int v3), .val (.ref b101), .val (.int (1 : Int32)), .val (.ref b107), .val (.int (1 : Int32))]) (S := [(.ref b107)]) X155 hx hZ hown (hw _ (List.mem_of_getElem? (i := 29) rfl)) (hw _ (List.mem_of_getElem? (i := 30) rfl)) (hw _ (List.mem_of_getElem? (i := 32) rfl)) (hw _ (List.mem_of_getElem? (i := 31) rfl)) (hw _ (List.mem_of_getElem? (i := 4) rfl)) (hw _ (List.mem_of_getElem? (i := 33) rfl)) (notFace_of_selects (args := #[]) (mvT hZ (hw _ (List.mem_of_getElem? (i := 32) rfl)))) (by decide) (rm3 l Z a0 hw [] b107 b101 r1 k101 [(.int v0), (.int v1), (.int v2), (.int v3)] (1 : Int32) v1 h151 n0 f156 F151_bytes F151_limit F151_position F151_pieces F151_piece f158 f161 g_b107 ne_b101_b107 (by decide) rfl (by decide)) (by decide) (by decide) (e155.trans q155) f158 (by rw [hml]; rfl) (lenOf pd___I rfl) rfl (Nat.le_of_eq rfl) (hb hby at_187) (by decide) (by decide)
      refine own_st st160 ?_
      have N160 := Fr.app N155 N160q
      rw [show (1 : Int32) + (1 : Int32) = (2 : Int32) from by decide] at F160_position
      show own_Goes p e below (T160.setTop (mkF m 190 #[.val (.int p1), .val (.int p2), .val (.int p3), .val (.int v0), .val (.int v1), .val (.int v2), .val (.int v3), .val (.ref b101), .val (.int (1 : Int32)), .val (.ref b107), .val (.int (1 : Int32))] [(.int v1)])) _
      refine own_st (fun _ k => XS.iload X160.here hx rfl (hb hby at_190) rfl k) ?_
      show own_Goes p e below (T160.setTop (mkF m 192 #[.val (.int p1), .val (.int p2), .val (.int p3), .val (.int v0), .val (.int v1), .val (.int v2), .val (.int v3), .val (.ref b101), .val (.int (1 : Int32)), .val (.ref b107), .val (.int (1 : Int32))] [(.int v1), (.int v1)])) _
      refine own_st (fun _ k => XS.icmpYes X160.here hx rfl (pc0 := 192) (pc' := 198) rfl (hb hby at_192) rfl (teq (rfl : v1 = v1)).1 (by decide) (by decide) k) ?_
      show own_Goes p e below (T160.setTop (mkF m 198 #[.val (.int p1), .val (.int p2), .val (.int p3), .val (.int v0), .val (.int v1), .val (.int v2), .val (.int v3), .val (.ref b101), .val (.int (1 : Int32)), .val (.ref b107), .val (.int (1 : Int32))] [])) _
      refine own_st (fun _ k => XS.iload X160.here hx rfl (hb hby at_198) rfl k) ?_
      show own_Goes p e below (T160.setTop (mkF m 200 #[.val (.int p1), .val (.int p2), .val (.int p3), .val (.int v0), .val (.int v1), .val (.int v2), .val (.int v3), .val (.ref b101), .val (.int (1 : Int32)), .val (.ref b107), .val (.int (1 : Int32))] [(.int (1 : Int32))])) _
      refine own_st (fun _ k => XS.iconst X160.here hx rfl (hb hby at_200) k) ?_
      show own_Goes p e below (T160.setTop (mkF m 201 #[.val (.int p1), .val (.int p2), .val (.int p3), .val (.int v0), .val (.int v1), .val (.int v2), .val (.int v3), .val (.ref b101), .val (.int (1 : Int32)), .val (.ref b107), .val (.int (1 : Int32))] [(.int (3 : Int32)), (.int (1 : Int32))])) _
      refine own_st (fun _ k => XS.icmpNo X160.here hx rfl (hb hby at_201) rfl (tlt (by decide : (1 : Int32) < (3 : Int32))).2.1 k) ?_
      show own_Goes p e below (T160.setTop (mkF m 204 #[.val (.int p1), .val (.int p2), .val (.int p3), .val (.int v0), .val (.int v1), .val (.int v2), .val (.int v3), .val (.ref b101), .val (.int (1 : Int32)), .val (.ref b107), .val (.int (1 : Int32))] [])) _
      refine own_st (fun _ k => XS.aload X160.here hx rfl (hb hby at_204) rfl rfl k) ?_
      show own_Goes p e below (T160.setTop (mkF m 206 #[.val (.int p1), .val (.int p2), .val (.int p3), .val (.int v0), .val (.int v1), .val (.int v2), .val (.int v3), .val (.ref b101), .val (.int (1 : Int32)), .val (.ref b107), .val (.int (1 : Int32))] [(.ref b107)])) _
      have f163 := (Nat.le_trans f156 K160.1)
      have f164 := (f158.keep K160)
      have f165 := (f161.keep K160 (ninS ne_b101_b107 nin0))
      obtain ⟨_, T162, h162, L162, X162, e162, ⟨rfl, N162q, K162, F162_bytes, F162_limit, F162_position, F162_pieces, F162_piece⟩, st162⟩ := own_callV (argsL := []) (rest := []) (pc := 206) (W := 0) (Ls := #[.val (.int p1), .val (.int p2), .val (.int p3), .val (.int v0), .val (.int v1), .val (.int v2), .val (.int v3), .val (.ref b101), .val (.int (1 : Int32)), .val (.ref b107), .val (.int (1 : Int32))]) (S := [(.ref b107)]) X160 hx hZ hown (hw _ (List.mem_of_getElem? (i := 29) rfl)) (hw _ (List.mem_of_getElem? (i := 30) rfl)) (hw _ (List.mem_of_getElem? (i := 32) rfl)) (hw _ (List.mem_of_getElem? (i := 31) rfl)) (hw _ (List.mem_of_getElem? (i := 4) rfl)) (hw _ (List.mem_of_getElem? (i := 33) rfl)) (notFace_of_selects (args := #[]) (mvT hZ (hw _ (List.mem_of_getElem? (i := 32) rfl)))) (by decide) (rm3 l Z a0 hw [] b107 b101 r1 k101 [(.int v0), (.int v1), (.int v2), (.int v3)] (2 : Int32) v2 h160 n0 f163 F160_bytes F160_limit F160_position F160_pieces F160_piece f164 f165 g_b107 ne_b101_b107 (by decide) rfl (by decide)) (by decide) (by decide) e160 f164 (by rw [hml]; rfl) (lenOf pd___I rfl) rfl (Nat.le_of_eq rfl) (hb hby at_206) (by decide) (by decide)
      refine own_st st162 ?_
      have N162 := Fr.app N160 N162q
      rw [show (2 : Int32) + (1 : Int32) = (3 : Int32) from by decide] at F162_position
      show own_Goes p e below (T162.setTop (mkF m 209 #[.val (.int p1), .val (.int p2), .val (.int p3), .val (.int v0), .val (.int v1), .val (.int v2), .val (.int v3), .val (.ref b101), .val (.int (1 : Int32)), .val (.ref b107), .val (.int (1 : Int32))] [(.int v2)])) _
      refine own_st (fun _ k => XS.iload X162.here hx rfl (hb hby at_209) rfl k) ?_
      show own_Goes p e below (T162.setTop (mkF m 211 #[.val (.int p1), .val (.int p2), .val (.int p3), .val (.int v0), .val (.int v1), .val (.int v2), .val (.int v3), .val (.ref b101), .val (.int (1 : Int32)), .val (.ref b107), .val (.int (1 : Int32))] [(.int v2), (.int v2)])) _
      refine own_st (fun _ k => XS.icmpYes X162.here hx rfl (pc0 := 211) (pc' := 217) rfl (hb hby at_211) rfl (teq (rfl : v2 = v2)).1 (by decide) (by decide) k) ?_
      show own_Goes p e below (T162.setTop (mkF m 217 #[.val (.int p1), .val (.int p2), .val (.int p3), .val (.int v0), .val (.int v1), .val (.int v2), .val (.int v3), .val (.ref b101), .val (.int (1 : Int32)), .val (.ref b107), .val (.int (1 : Int32))] [])) _
      refine own_st (fun _ k => XS.iload X162.here hx rfl (hb hby at_217) rfl k) ?_
      show own_Goes p e below (T162.setTop (mkF m 219 #[.val (.int p1), .val (.int p2), .val (.int p3), .val (.int v0), .val (.int v1), .val (.int v2), .val (.int v3), .val (.ref b101), .val (.int (1 : Int32)), .val (.ref b107), .val (.int (1 : Int32))] [(.int (1 : Int32))])) _
      refine own_st (fun _ k => XS.iconst X162.here hx rfl (hb hby at_219) k) ?_
      show own_Goes p e below (T162.setTop (mkF m 220 #[.val (.int p1), .val (.int p2), .val (.int p3), .val (.int v0), .val (.int v1), .val (.int v2), .val (.int v3), .val (.ref b101), .val (.int (1 : Int32)), .val (.ref b107), .val (.int (1 : Int32))] [(.int (4 : Int32)), (.int (1 : Int32))])) _
      refine own_st (fun _ k => XS.icmpNo X162.here hx rfl (hb hby at_220) rfl (tlt (by decide : (1 : Int32) < (4 : Int32))).2.1 k) ?_
      show own_Goes p e below (T162.setTop (mkF m 223 #[.val (.int p1), .val (.int p2), .val (.int p3), .val (.int v0), .val (.int v1), .val (.int v2), .val (.int v3), .val (.ref b101), .val (.int (1 : Int32)), .val (.ref b107), .val (.int (1 : Int32))] [])) _
      refine own_st (fun _ k => XS.aload X162.here hx rfl (hb hby at_223) rfl rfl k) ?_
      show own_Goes p e below (T162.setTop (mkF m 225 #[.val (.int p1), .val (.int p2), .val (.int p3), .val (.int v0), .val (.int v1), .val (.int v2), .val (.int v3), .val (.ref b101), .val (.int (1 : Int32)), .val (.ref b107), .val (.int (1 : Int32))] [(.ref b107)])) _
      have f167 := (Nat.le_trans f163 K162.1)
      have f168 := (f164.keep K162)
      have f169 := (f165.keep K162 (ninS ne_b101_b107 nin0))
      obtain ⟨_, T166, h166, L166, X166, e166, ⟨rfl, N166q, K166, F166_bytes, F166_limit, F166_position, F166_pieces, F166_piece⟩, st166⟩ := own_callV (argsL := []) (rest := []) (pc := 225) (W := 0) (Ls := #[.val (.int p1), .val (.int p2), .val (.int p3), .val (.int v0), .val (.int v1), .val (.int v2), .val (.int v3), .val (.ref b101), .val (.int (1 : Int32)), .val (.ref b107), .val (.int (1 : Int32))]) (S := [(.ref b107)]) X162 hx hZ hown (hw _ (List.mem_of_getElem? (i := 29) rfl)) (hw _ (List.mem_of_getElem? (i := 30) rfl)) (hw _ (List.mem_of_getElem? (i := 32) rfl)) (hw _ (List.mem_of_getElem? (i := 31) rfl)) (hw _ (List.mem_of_getElem? (i := 4) rfl)) (hw _ (List.mem_of_getElem? (i := 33) rfl)) (notFace_of_selects (args := #[]) (mvT hZ (hw _ (List.mem_of_getElem? (i := 32) rfl)))) (by decide) (rm3 l Z a0 hw [] b107 b101 r1 k101 [(.int v0), (.int v1), (.int v2), (.int v3)] (3 : Int32) v3 h162 n0 f167 F162_bytes F162_limit F162_position F162_pieces F162_piece f168 f169 g_b107 ne_b101_b107 (by decide) rfl (by decide)) (by decide) (by decide) e162 f168 (by rw [hml]; rfl) (lenOf pd___I rfl) rfl (Nat.le_of_eq rfl) (hb hby at_225) (by decide) (by decide)
      refine own_st st166 ?_
      have N166 := Fr.app N162 N166q
      rw [show (3 : Int32) + (1 : Int32) = (4 : Int32) from by decide] at F166_position
      show own_Goes p e below (T166.setTop (mkF m 228 #[.val (.int p1), .val (.int p2), .val (.int p3), .val (.int v0), .val (.int v1), .val (.int v2), .val (.int v3), .val (.ref b101), .val (.int (1 : Int32)), .val (.ref b107), .val (.int (1 : Int32))] [(.int v3)])) _
      refine own_st (fun _ k => XS.iload X166.here hx rfl (hb hby at_228) rfl k) ?_
      show own_Goes p e below (T166.setTop (mkF m 230 #[.val (.int p1), .val (.int p2), .val (.int p3), .val (.int v0), .val (.int v1), .val (.int v2), .val (.int v3), .val (.ref b101), .val (.int (1 : Int32)), .val (.ref b107), .val (.int (1 : Int32))] [(.int v3), (.int v3)])) _
      refine own_st (fun _ k => XS.icmpYes X166.here hx rfl (pc0 := 230) (pc' := 236) rfl (hb hby at_230) rfl (teq (rfl : v3 = v3)).1 (by decide) (by decide) k) ?_
      show own_Goes p e below (T166.setTop (mkF m 236 #[.val (.int p1), .val (.int p2), .val (.int p3), .val (.int v0), .val (.int v1), .val (.int v2), .val (.int v3), .val (.ref b101), .val (.int (1 : Int32)), .val (.ref b107), .val (.int (1 : Int32))] [])) _
      refine own_st (fun _ k => XS.aload X166.here hx rfl (hb hby at_236) rfl rfl k) ?_
      show own_Goes p e below (T166.setTop (mkF m 238 #[.val (.int p1), .val (.int p2), .val (.int p3), .val (.int v0), .val (.int v1), .val (.int v2), .val (.int v3), .val (.ref b101), .val (.int (1 : Int32)), .val (.ref b107), .val (.int (1 : Int32))] [(.ref b107)])) _
      have f171 := (Nat.le_trans f167 K166.1)
      have f172 := (f168.keep K166)
      obtain ⟨_, T170, h170, L170, X170, e170, ⟨rfl, rfl, q170⟩, st170⟩ := own_callV (argsL := []) (rest := []) (pc := 238) (W := 0) (Ls := #[.val (.int p1), .val (.int p2), .val (.int p3), .val (.int v0), .val (.int v1), .val (.int v2), .val (.int v3), .val (.ref b101), .val (.int (1 : Int32)), .val (.ref b107), .val (.int (1 : Int32))]) (S := [(.ref b107)]) X166 hx hZ hown (hw _ (List.mem_of_getElem? (i := 45) rfl)) (hw _ (List.mem_of_getElem? (i := 46) rfl)) (hw _ (List.mem_of_getElem? (i := 48) rfl)) (hw _ (List.mem_of_getElem? (i := 47) rfl)) (hw _ (List.mem_of_getElem? (i := 4) rfl)) (hw _ (List.mem_of_getElem? (i := 49) rfl)) (notFace_of_selects (args := #[]) (mvT hZ (hw _ (List.mem_of_getElem? (i := 48) rfl)))) (by decide) (rm7 l Z a0 hw [] b107 h166 n0 f171 F166_limit F166_position) (by decide) (by decide) e166 f172 (by rw [hml]; rfl) (lenOf pd___V rfl) rfl (Nat.le_of_eq rfl) (hb hby at_238) (by decide) (by decide)
      refine own_st st170 ?_
      have N170 := Fr.app N166 (Fr.nil n0)
      show own_Goes p e below (T170.setTop (mkF m 241 #[.val (.int p1), .val (.int p2), .val (.int p3), .val (.int v0), .val (.int v1), .val (.int v2), .val (.int v3), .val (.ref b101), .val (.int (1 : Int32)), .val (.ref b107), .val (.int (1 : Int32))] [])) _
      refine own_st (fun _ k => XS.iload X170.here hx rfl (hb hby at_241) rfl k) ?_
      show own_Goes p e below (T170.setTop (mkF m 243 #[.val (.int p1), .val (.int p2), .val (.int p3), .val (.int v0), .val (.int v1), .val (.int v2), .val (.int v3), .val (.ref b101), .val (.int (1 : Int32)), .val (.ref b107), .val (.int (1 : Int32))] [(.int (1 : Int32))])) _
      exact own_retN (t := .boolean) (z' := (1 : Int32)) X170 hx hlk hret (by simp) (by decide) (hb hby at_243) (by decide) (by decide) (e170.trans q170) ⟨rfl, N170⟩
    · refine own_st (fun _ k => XS.ifNo X155.here hx rfl (hb hby at_153) rfl ((if0 _ _).trans (feq hc153_159).1) k) ?_
      show own_Goes p e below (T155.setTop (mkF m 156 #[.val (.int p1), .val (.int p2), .val (.int p3), .val (.int v0), .val (.int v1), .val (.int v2), .val (.int v3), .val (.ref b101), .val (.int (1 : Int32)), .val (.ref b107), .val (.int (1 : Int32))] [])) _
      refine own_st (fun _ k => XS.aload X155.here hx rfl (hb hby at_156) rfl rfl k) ?_
      show own_Goes p e below (T155.setTop (mkF m 158 #[.val (.int p1), .val (.int p2), .val (.int p3), .val (.int v0), .val (.int v1), .val (.int v2), .val (.int v3), .val (.ref b101), .val (.int (1 : Int32)), .val (.ref b107), .val (.int (1 : Int32))] [(.ref b107)])) _
      obtain ⟨_, T173, h173, L173, X173, e173, ⟨rfl, rfl, q173⟩, st173⟩ := own_callV (argsL := []) (rest := []) (pc := 158) (W := 0) (Ls := #[.val (.int p1), .val (.int p2), .val (.int p3), .val (.int v0), .val (.int v1), .val (.int v2), .val (.int v3), .val (.ref b101), .val (.int (1 : Int32)), .val (.ref b107), .val (.int (1 : Int32))]) (S := [(.ref b107)]) X155 hx hZ hown (hw _ (List.mem_of_getElem? (i := 40) rfl)) (hw _ (List.mem_of_getElem? (i := 41) rfl)) (hw _ (List.mem_of_getElem? (i := 43) rfl)) (hw _ (List.mem_of_getElem? (i := 42) rfl)) (hw _ (List.mem_of_getElem? (i := 4) rfl)) (hw _ (List.mem_of_getElem? (i := 44) rfl)) (notFace_of_selects (args := #[]) (mvT hZ (hw _ (List.mem_of_getElem? (i := 43) rfl)))) (by decide) (rm6 l Z a0 hw [] b107 r1 b101 kr (1 : Int32) h151 n0 f156 F151_limit F151_position F151_piece F151_pieces f157) (by decide) (by decide) (e155.trans q155) f158 (by rw [hml]; rfl) (lenOf pd___V rfl) rfl (Nat.le_of_eq rfl) (hb hby at_158) (by decide) (by decide)
      refine own_st st173 ?_
      have N173 := Fr.app N155 (Fr.nil n0)
      show own_Goes p e below (T173.setTop (mkF m 161 #[.val (.int p1), .val (.int p2), .val (.int p3), .val (.int v0), .val (.int v1), .val (.int v2), .val (.int v3), .val (.ref b101), .val (.int (1 : Int32)), .val (.ref b107), .val (.int (1 : Int32))] [])) _
      refine own_st (fun _ k => XS.iload X173.here hx rfl (hb hby at_161) rfl k) ?_
      show own_Goes p e below (T173.setTop (mkF m 163 #[.val (.int p1), .val (.int p2), .val (.int p3), .val (.int v0), .val (.int v1), .val (.int v2), .val (.int v3), .val (.ref b101), .val (.int (1 : Int32)), .val (.ref b107), .val (.int (1 : Int32))] [(.int (1 : Int32))])) _
      refine own_st (fun _ k => XS.iconst X173.here hx rfl (hb hby at_163) k) ?_
      show own_Goes p e below (T173.setTop (mkF m 164 #[.val (.int p1), .val (.int p2), .val (.int p3), .val (.int v0), .val (.int v1), .val (.int v2), .val (.int v3), .val (.ref b101), .val (.int (1 : Int32)), .val (.ref b107), .val (.int (1 : Int32))] [(.int (1 : Int32)), (.int (1 : Int32))])) _
      refine own_st (fun _ k => XS.icmpYes X173.here hx rfl (pc0 := 164) (pc' := 179) rfl (hb hby at_164) rfl (flt (by decide : ¬ ((1 : Int32) < (1 : Int32)))).2.1 (by decide) (by decide) k) ?_
      show own_Goes p e below (T173.setTop (mkF m 179 #[.val (.int p1), .val (.int p2), .val (.int p3), .val (.int v0), .val (.int v1), .val (.int v2), .val (.int v3), .val (.ref b101), .val (.int (1 : Int32)), .val (.ref b107), .val (.int (1 : Int32))] [])) _
      refine own_st (fun _ k => XS.iload X173.here hx rfl (hb hby at_179) rfl k) ?_
      show own_Goes p e below (T173.setTop (mkF m 181 #[.val (.int p1), .val (.int p2), .val (.int p3), .val (.int v0), .val (.int v1), .val (.int v2), .val (.int v3), .val (.ref b101), .val (.int (1 : Int32)), .val (.ref b107), .val (.int (1 : Int32))] [(.int (1 : Int32))])) _
      refine own_st (fun _ k => XS.iconst X173.here hx rfl (hb hby at_181) k) ?_
      show own_Goes p e below (T173.setTop (mkF m 182 #[.val (.int p1), .val (.int p2), .val (.int p3), .val (.int v0), .val (.int v1), .val (.int v2), .val (.int v3), .val (.ref b101), .val (.int (1 : Int32)), .val (.ref b107), .val (.int (1 : Int32))] [(.int (2 : Int32)), (.int (1 : Int32))])) _
      refine own_st (fun _ k => XS.icmpNo X173.here hx rfl (hb hby at_182) rfl (tlt (by decide : (1 : Int32) < (2 : Int32))).2.1 k) ?_
      show own_Goes p e below (T173.setTop (mkF m 185 #[.val (.int p1), .val (.int p2), .val (.int p3), .val (.int v0), .val (.int v1), .val (.int v2), .val (.int v3), .val (.ref b101), .val (.int (1 : Int32)), .val (.ref b107), .val (.int (1 : Int32))] [])) _
      refine own_st (fun _ k => XS.aload X173.here hx rfl (hb hby at_185) rfl rfl k) ?_
      show own_Goes p e below (T173.setTop (mkF m 187 #[.val (.int p1), .val (.int p2), .val (.int p3), .val (.int v0), .val (.int v1), .val (.int v2), .val (.int v3), .val (.ref b101), .val (.int (1 : Int32)), .val (.ref b107), .val (.int (1 : Int32))] [(.ref b107)])) _
      have f175 := (f154.keep K151 (ninS ne_b101_b107 nin0))
      obtain ⟨_, T174, h174, L174, X174, e174, ⟨rfl, N174q, K174, F174_bytes, F174_limit, F174_position, F174_pieces, F174_piece⟩, st174⟩ := own_callV (argsL := []) (rest := []) (pc := 187) (W := 0) (Ls := #[.val (.int p1), .val (.int p2), .val (.int p3), .val (.int v0), .val (.int v1), .val (.int v2), .val (.int v3), .val (.ref b101), .val (.int (1 : Int32)), .val (.ref b107), .val (.int (1 : Int32))]) (S := [(.ref b107)]) X173 hx hZ hown (hw _ (List.mem_of_getElem? (i := 29) rfl)) (hw _ (List.mem_of_getElem? (i := 30) rfl)) (hw _ (List.mem_of_getElem? (i := 32) rfl)) (hw _ (List.mem_of_getElem? (i := 31) rfl)) (hw _ (List.mem_of_getElem? (i := 4) rfl)) (hw _ (List.mem_of_getElem? (i := 33) rfl)) (notFace_of_selects (args := #[]) (mvT hZ (hw _ (List.mem_of_getElem? (i := 32) rfl)))) (by decide) (rm3 l Z a0 hw [] b107 b101 r1 k101 [(.int v0), (.int v1), (.int v2), (.int v3)] (1 : Int32) v1 h151 n0 f156 F151_bytes F151_limit F151_position F151_pieces F151_piece f158 f175 g_b107 ne_b101_b107 (by decide) rfl (by decide)) (by decide) (by decide) (e173.trans q173) f158 (by rw [hml]; rfl) (lenOf pd___I rfl) rfl (Nat.le_of_eq rfl) (hb hby at_187) (by decide) (by decide)
      refine own_st st174 ?_
      have N174 := Fr.app N173 N174q
      rw [show (1 : Int32) + (1 : Int32) = (2 : Int32) from by decide] at F174_position
      show own_Goes p e below (T174.setTop (mkF m 190 #[.val (.int p1), .val (.int p2), .val (.int p3), .val (.int v0), .val (.int v1), .val (.int v2), .val (.int v3), .val (.ref b101), .val (.int (1 : Int32)), .val (.ref b107), .val (.int (1 : Int32))] [(.int v1)])) _
      refine own_st (fun _ k => XS.iload X174.here hx rfl (hb hby at_190) rfl k) ?_
      show own_Goes p e below (T174.setTop (mkF m 192 #[.val (.int p1), .val (.int p2), .val (.int p3), .val (.int v0), .val (.int v1), .val (.int v2), .val (.int v3), .val (.ref b101), .val (.int (1 : Int32)), .val (.ref b107), .val (.int (1 : Int32))] [(.int v1), (.int v1)])) _
      refine own_st (fun _ k => XS.icmpYes X174.here hx rfl (pc0 := 192) (pc' := 198) rfl (hb hby at_192) rfl (teq (rfl : v1 = v1)).1 (by decide) (by decide) k) ?_
      show own_Goes p e below (T174.setTop (mkF m 198 #[.val (.int p1), .val (.int p2), .val (.int p3), .val (.int v0), .val (.int v1), .val (.int v2), .val (.int v3), .val (.ref b101), .val (.int (1 : Int32)), .val (.ref b107), .val (.int (1 : Int32))] [])) _
      refine own_st (fun _ k => XS.iload X174.here hx rfl (hb hby at_198) rfl k) ?_
      show own_Goes p e below (T174.setTop (mkF m 200 #[.val (.int p1), .val (.int p2), .val (.int p3), .val (.int v0), .val (.int v1), .val (.int v2), .val (.int v3), .val (.ref b101), .val (.int (1 : Int32)), .val (.ref b107), .val (.int (1 : Int32))] [(.int (1 : Int32))])) _
      refine own_st (fun _ k => XS.iconst X174.here hx rfl (hb hby at_200) k) ?_
      show own_Goes p e below (T174.setTop (mkF m 201 #[.val (.int p1), .val (.int p2), .val (.int p3), .val (.int v0), .val (.int v1), .val (.int v2), .val (.int v3), .val (.ref b101), .val (.int (1 : Int32)), .val (.ref b107), .val (.int (1 : Int32))] [(.int (3 : Int32)), (.int (1 : Int32))])) _
      refine own_st (fun _ k => XS.icmpNo X174.here hx rfl (hb hby at_201) rfl (tlt (by decide : (1 : Int32) < (3 : Int32))).2.1 k) ?_
      show own_Goes p e below (T174.setTop (mkF m 204 #[.val (.int p1), .val (.int p2), .val (.int p3), .val (.int v0), .val (.int v1), .val (.int v2), .val (.int v3), .val (.ref b101), .val (.int (1 : Int32)), .val (.ref b107), .val (.int (1 : Int32))] [])) _
      refine own_st (fun _ k => XS.aload X174.here hx rfl (hb hby at_204) rfl rfl k) ?_
      show own_Goes p e below (T174.setTop (mkF m 206 #[.val (.int p1), .val (.int p2), .val (.int p3), .val (.int v0), .val (.int v1), .val (.int v2), .val (.int v3), .val (.ref b101), .val (.int (1 : Int32)), .val (.ref b107), .val (.int (1 : Int32))] [(.ref b107)])) _
      have f177 := (Nat.le_trans f156 K174.1)
      have f178 := (f158.keep K174)
      have f179 := (f175.keep K174 (ninS ne_b101_b107 nin0))
      obtain ⟨_, T176, h176, L176, X176, e176, ⟨rfl, N176q, K176, F176_bytes, F176_limit, F176_position, F176_pieces, F176_piece⟩, st176⟩ := own_callV (argsL := []) (rest := []) (pc := 206) (W := 0) (Ls := #[.val (.int p1), .val (.int p2), .val (.int p3), .val (.int v0), .val (.int v1), .val (.int v2), .val (.int v3), .val (.ref b101), .val (.int (1 : Int32)), .val (.ref b107), .val (.int (1 : Int32))]) (S := [(.ref b107)]) X174 hx hZ hown (hw _ (List.mem_of_getElem? (i := 29) rfl)) (hw _ (List.mem_of_getElem? (i := 30) rfl)) (hw _ (List.mem_of_getElem? (i := 32) rfl)) (hw _ (List.mem_of_getElem? (i := 31) rfl)) (hw _ (List.mem_of_getElem? (i := 4) rfl)) (hw _ (List.mem_of_getElem? (i := 33) rfl)) (notFace_of_selects (args := #[]) (mvT hZ (hw _ (List.mem_of_getElem? (i := 32) rfl)))) (by decide) (rm3 l Z a0 hw [] b107 b101 r1 k101 [(.int v0), (.int v1), (.int v2), (.int v3)] (2 : Int32) v2 h174 n0 f177 F174_bytes F174_limit F174_position F174_pieces F174_piece f178 f179 g_b107 ne_b101_b107 (by decide) rfl (by decide)) (by decide) (by decide) e174 f178 (by rw [hml]; rfl) (lenOf pd___I rfl) rfl (Nat.le_of_eq rfl) (hb hby at_206) (by decide) (by decide)
      refine own_st st176 ?_
      have N176 := Fr.app N174 N176q
      rw [show (2 : Int32) + (1 : Int32) = (3 : Int32) from by decide] at F176_position
      show own_Goes p e below (T176.setTop (mkF m 209 #[.val (.int p1), .val (.int p2), .val (.int p3), .val (.int v0), .val (.int v1), .val (.int v2), .val (.int v3), .val (.ref b101), .val (.int (1 : Int32)), .val (.ref b107), .val (.int (1 : Int32))] [(.int v2)])) _
      refine own_st (fun _ k => XS.iload X176.here hx rfl (hb hby at_209) rfl k) ?_
      show own_Goes p e below (T176.setTop (mkF m 211 #[.val (.int p1), .val (.int p2), .val (.int p3), .val (.int v0), .val (.int v1), .val (.int v2), .val (.int v3), .val (.ref b101), .val (.int (1 : Int32)), .val (.ref b107), .val (.int (1 : Int32))] [(.int v2), (.int v2)])) _
      refine own_st (fun _ k => XS.icmpYes X176.here hx rfl (pc0 := 211) (pc' := 217) rfl (hb hby at_211) rfl (teq (rfl : v2 = v2)).1 (by decide) (by decide) k) ?_
      show own_Goes p e below (T176.setTop (mkF m 217 #[.val (.int p1), .val (.int p2), .val (.int p3), .val (.int v0), .val (.int v1), .val (.int v2), .val (.int v3), .val (.ref b101), .val (.int (1 : Int32)), .val (.ref b107), .val (.int (1 : Int32))] [])) _
      refine own_st (fun _ k => XS.iload X176.here hx rfl (hb hby at_217) rfl k) ?_
      show own_Goes p e below (T176.setTop (mkF m 219 #[.val (.int p1), .val (.int p2), .val (.int p3), .val (.int v0), .val (.int v1), .val (.int v2), .val (.int v3), .val (.ref b101), .val (.int (1 : Int32)), .val (.ref b107), .val (.int (1 : Int32))] [(.int (1 : Int32))])) _
      refine own_st (fun _ k => XS.iconst X176.here hx rfl (hb hby at_219) k) ?_
      show own_Goes p e below (T176.setTop (mkF m 220 #[.val (.int p1), .val (.int p2), .val (.int p3), .val (.int v0), .val (.int v1), .val (.int v2), .val (.int v3), .val (.ref b101), .val (.int (1 : Int32)), .val (.ref b107), .val (.int (1 : Int32))] [(.int (4 : Int32)), (.int (1 : Int32))])) _
      refine own_st (fun _ k => XS.icmpNo X176.here hx rfl (hb hby at_220) rfl (tlt (by decide : (1 : Int32) < (4 : Int32))).2.1 k) ?_
      show own_Goes p e below (T176.setTop (mkF m 223 #[.val (.int p1), .val (.int p2), .val (.int p3), .val (.int v0), .val (.int v1), .val (.int v2), .val (.int v3), .val (.ref b101), .val (.int (1 : Int32)), .val (.ref b107), .val (.int (1 : Int32))] [])) _
      refine own_st (fun _ k => XS.aload X176.here hx rfl (hb hby at_223) rfl rfl k) ?_
      show own_Goes p e below (T176.setTop (mkF m 225 #[.val (.int p1), .val (.int p2), .val (.int p3), .val (.int v0), .val (.int v1), .val (.int v2), .val (.int v3), .val (.ref b101), .val (.int (1 : Int32)), .val (.ref b107), .val (.int (1 : Int32))] [(.ref b107)])) _
      have f181 := (Nat.le_trans f177 K176.1)
      have f182 := (f178.keep K176)
      have f183 := (f179.keep K176 (ninS ne_b101_b107 nin0))
      obtain ⟨_, T180, h180, L180, X180, e180, ⟨rfl, N180q, K180, F180_bytes, F180_limit, F180_position, F180_pieces, F180_piece⟩, st180⟩ := own_callV (argsL := []) (rest := []) (pc := 225) (W := 0) (Ls := #[.val (.int p1), .val (.int p2), .val (.int p3), .val (.int v0), .val (.int v1), .val (.int v2), .val (.int v3), .val (.ref b101), .val (.int (1 : Int32)), .val (.ref b107), .val (.int (1 : Int32))]) (S := [(.ref b107)]) X176 hx hZ hown (hw _ (List.mem_of_getElem? (i := 29) rfl)) (hw _ (List.mem_of_getElem? (i := 30) rfl)) (hw _ (List.mem_of_getElem? (i := 32) rfl)) (hw _ (List.mem_of_getElem? (i := 31) rfl)) (hw _ (List.mem_of_getElem? (i := 4) rfl)) (hw _ (List.mem_of_getElem? (i := 33) rfl)) (notFace_of_selects (args := #[]) (mvT hZ (hw _ (List.mem_of_getElem? (i := 32) rfl)))) (by decide) (rm3 l Z a0 hw [] b107 b101 r1 k101 [(.int v0), (.int v1), (.int v2), (.int v3)] (3 : Int32) v3 h176 n0 f181 F176_bytes F176_limit F176_position F176_pieces F176_piece f182 f183 g_b107 ne_b101_b107 (by decide) rfl (by decide)) (by decide) (by decide) e176 f182 (by rw [hml]; rfl) (lenOf pd___I rfl) rfl (Nat.le_of_eq rfl) (hb hby at_225) (by decide) (by decide)
      refine own_st st180 ?_
      have N180 := Fr.app N176 N180q
      rw [show (3 : Int32) + (1 : Int32) = (4 : Int32) from by decide] at F180_position
      show own_Goes p e below (T180.setTop (mkF m 228 #[.val (.int p1), .val (.int p2), .val (.int p3), .val (.int v0), .val (.int v1), .val (.int v2), .val (.int v3), .val (.ref b101), .val (.int (1 : Int32)), .val (.ref b107), .val (.int (1 : Int32))] [(.int v3)])) _
      refine own_st (fun _ k => XS.iload X180.here hx rfl (hb hby at_228) rfl k) ?_
      show own_Goes p e below (T180.setTop (mkF m 230 #[.val (.int p1), .val (.int p2), .val (.int p3), .val (.int v0), .val (.int v1), .val (.int v2), .val (.int v3), .val (.ref b101), .val (.int (1 : Int32)), .val (.ref b107), .val (.int (1 : Int32))] [(.int v3), (.int v3)])) _
      refine own_st (fun _ k => XS.icmpYes X180.here hx rfl (pc0 := 230) (pc' := 236) rfl (hb hby at_230) rfl (teq (rfl : v3 = v3)).1 (by decide) (by decide) k) ?_
      show own_Goes p e below (T180.setTop (mkF m 236 #[.val (.int p1), .val (.int p2), .val (.int p3), .val (.int v0), .val (.int v1), .val (.int v2), .val (.int v3), .val (.ref b101), .val (.int (1 : Int32)), .val (.ref b107), .val (.int (1 : Int32))] [])) _
      refine own_st (fun _ k => XS.aload X180.here hx rfl (hb hby at_236) rfl rfl k) ?_
      show own_Goes p e below (T180.setTop (mkF m 238 #[.val (.int p1), .val (.int p2), .val (.int p3), .val (.int v0), .val (.int v1), .val (.int v2), .val (.int v3), .val (.ref b101), .val (.int (1 : Int32)), .val (.ref b107), .val (.int (1 : Int32))] [(.ref b107)])) _
      have f185 := (Nat.le_trans f181 K180.1)
      have f186 := (f182.keep K180)
      obtain ⟨_, T184, h184, L184, X184, e184, ⟨rfl, rfl, q184⟩, st184⟩ := own_callV (argsL := []) (rest := []) (pc := 238) (W := 0) (Ls := #[.val (.int p1), .val (.int p2), .val (.int p3), .val (.int v0), .val (.int v1), .val (.int v2), .val (.int v3), .val (.ref b101), .val (.int (1 : Int32)), .val (.ref b107), .val (.int (1 : Int32))]) (S := [(.ref b107)]) X180 hx hZ hown (hw _ (List.mem_of_getElem? (i := 45) rfl)) (hw _ (List.mem_of_getElem? (i := 46) rfl)) (hw _ (List.mem_of_getElem? (i := 48) rfl)) (hw _ (List.mem_of_getElem? (i := 47) rfl)) (hw _ (List.mem_of_getElem? (i := 4) rfl)) (hw _ (List.mem_of_getElem? (i := 49) rfl)) (notFace_of_selects (args := #[]) (mvT hZ (hw _ (List.mem_of_getElem? (i := 48) rfl)))) (by decide) (rm7 l Z a0 hw [] b107 h180 n0 f185 F180_limit F180_position) (by decide) (by decide) e180 f186 (by rw [hml]; rfl) (lenOf pd___V rfl) rfl (Nat.le_of_eq rfl) (hb hby at_238) (by decide) (by decide)
      refine own_st st184 ?_
      have N184 := Fr.app N180 (Fr.nil n0)
      show own_Goes p e below (T184.setTop (mkF m 241 #[.val (.int p1), .val (.int p2), .val (.int p3), .val (.int v0), .val (.int v1), .val (.int v2), .val (.int v3), .val (.ref b101), .val (.int (1 : Int32)), .val (.ref b107), .val (.int (1 : Int32))] [])) _
      refine own_st (fun _ k => XS.iload X184.here hx rfl (hb hby at_241) rfl k) ?_
      show own_Goes p e below (T184.setTop (mkF m 243 #[.val (.int p1), .val (.int p2), .val (.int p3), .val (.int v0), .val (.int v1), .val (.int v2), .val (.int v3), .val (.ref b101), .val (.int (1 : Int32)), .val (.ref b107), .val (.int (1 : Int32))] [(.int (1 : Int32))])) _
      exact own_retN (t := .boolean) (z' := (1 : Int32)) X184 hx hlk hret (by simp) (by decide) (hb hby at_243) (by decide) (by decide) (e184.trans q184) ⟨rfl, N184⟩
  · show own_Goes p e below (T108.setTop (mkF m 70 #[.val (.int p1), .val (.int p2), .val (.int p3), .val (.int v0), .val (.int v1), .val (.int v2), .val (.int v3), .val (.ref b101), .val (.int (2 : Int32)), .val (.ref b107), .val (.int (1 : Int32))] [])) _
    refine own_st (fun _ k => XS.iload X108.here hx rfl (hb hby at_70) rfl k) ?_
    show own_Goes p e below (T108.setTop (mkF m 72 #[.val (.int p1), .val (.int p2), .val (.int p3), .val (.int v0), .val (.int v1), .val (.int v2), .val (.int v3), .val (.ref b101), .val (.int (2 : Int32)), .val (.ref b107), .val (.int (1 : Int32))] [(.int (2 : Int32))])) _
    refine own_st (fun _ k => XS.iconst X108.here hx rfl (hb hby at_72) k) ?_
    show own_Goes p e below (T108.setTop (mkF m 73 #[.val (.int p1), .val (.int p2), .val (.int p3), .val (.int v0), .val (.int v1), .val (.int v2), .val (.int v3), .val (.ref b101), .val (.int (2 : Int32)), .val (.ref b107), .val (.int (1 : Int32))] [(.int (1 : Int32)), (.int (2 : Int32))])) _
    refine own_st (fun _ k => XS.icmpNo X108.here hx rfl (hb hby at_73) rfl (flt (by decide : ¬ ((2 : Int32) < (1 : Int32)))).1 k) ?_
    show own_Goes p e below (T108.setTop (mkF m 76 #[.val (.int p1), .val (.int p2), .val (.int p3), .val (.int v0), .val (.int v1), .val (.int v2), .val (.int v3), .val (.ref b101), .val (.int (2 : Int32)), .val (.ref b107), .val (.int (1 : Int32))] [])) _
    refine own_st (fun _ k => XS.aload X108.here hx rfl (hb hby at_76) rfl rfl k) ?_
    show own_Goes p e below (T108.setTop (mkF m 78 #[.val (.int p1), .val (.int p2), .val (.int p3), .val (.int v0), .val (.int v1), .val (.int v2), .val (.int v3), .val (.ref b101), .val (.int (2 : Int32)), .val (.ref b107), .val (.int (1 : Int32))] [(.ref b107)])) _
    have f188 := (Nat.le_trans f109 K108.1)
    have f189 := (A107.keep K108)
    have f190 := (f110.keep K108 (ninS ne_b101_b107 nin0))
    obtain ⟨_, T187, h187, L187, X187, e187, ⟨rfl, N187q, K187, F187_bytes, F187_limit, F187_position, F187_pieces, F187_piece⟩, st187⟩ := own_callV (argsL := []) (rest := []) (pc := 78) (W := 0) (Ls := #[.val (.int p1), .val (.int p2), .val (.int p3), .val (.int v0), .val (.int v1), .val (.int v2), .val (.int v3), .val (.ref b101), .val (.int (2 : Int32)), .val (.ref b107), .val (.int (1 : Int32))]) (S := [(.ref b107)]) X108 hx hZ hown (hw _ (List.mem_of_getElem? (i := 29) rfl)) (hw _ (List.mem_of_getElem? (i := 30) rfl)) (hw _ (List.mem_of_getElem? (i := 32) rfl)) (hw _ (List.mem_of_getElem? (i := 31) rfl)) (hw _ (List.mem_of_getElem? (i := 4) rfl)) (hw _ (List.mem_of_getElem? (i := 33) rfl)) (notFace_of_selects (args := #[]) (mvT hZ (hw _ (List.mem_of_getElem? (i := 32) rfl)))) (by decide) (rm3 l Z a0 hw [] b107 b101 r1 k101 [(.int v0), (.int v1), (.int v2), (.int v3)] (0 : Int32) v0 h108 n0 f188 F108_bytes F108_limit F108_position F108_pieces F108_piece f189 f190 g_b107 ne_b101_b107 (by decide) rfl (by decide)) (by decide) (by decide) e108 f189 (by rw [hml]; rfl) (lenOf pd___I rfl) rfl (Nat.le_of_eq rfl) (hb hby at_78) (by decide) (by decide)
    refine own_st st187 ?_
    have N187 := Fr.app N108 N187q
    rw [show (0 : Int32) + (1 : Int32) = (1 : Int32) from by decide] at F187_position
    show own_Goes p e below (T187.setTop (mkF m 81 #[.val (.int p1), .val (.int p2), .val (.int p3), .val (.int v0), .val (.int v1), .val (.int v2), .val (.int v3), .val (.ref b101), .val (.int (2 : Int32)), .val (.ref b107), .val (.int (1 : Int32))] [(.int v0)])) _
    refine own_st (fun _ k => XS.iloadN X187.here hx rfl (hb hby at_81) rfl k) ?_
    show own_Goes p e below (T187.setTop (mkF m 82 #[.val (.int p1), .val (.int p2), .val (.int p3), .val (.int v0), .val (.int v1), .val (.int v2), .val (.int v3), .val (.ref b101), .val (.int (2 : Int32)), .val (.ref b107), .val (.int (1 : Int32))] [(.int v0), (.int v0)])) _
    refine own_st (fun _ k => XS.icmpYes X187.here hx rfl (pc0 := 82) (pc' := 88) rfl (hb hby at_82) rfl (teq (rfl : v0 = v0)).1 (by decide) (by decide) k) ?_
    show own_Goes p e below (T187.setTop (mkF m 88 #[.val (.int p1), .val (.int p2), .val (.int p3), .val (.int v0), .val (.int v1), .val (.int v2), .val (.int v3), .val (.ref b101), .val (.int (2 : Int32)), .val (.ref b107), .val (.int (1 : Int32))] [])) _
    refine own_st (fun _ k => XS.iload X187.here hx rfl (hb hby at_88) rfl k) ?_
    show own_Goes p e below (T187.setTop (mkF m 90 #[.val (.int p1), .val (.int p2), .val (.int p3), .val (.int v0), .val (.int v1), .val (.int v2), .val (.int v3), .val (.ref b101), .val (.int (2 : Int32)), .val (.ref b107), .val (.int (1 : Int32))] [(.int (2 : Int32))])) _
    refine own_st (fun _ k => XS.iconst X187.here hx rfl (hb hby at_90) k) ?_
    show own_Goes p e below (T187.setTop (mkF m 91 #[.val (.int p1), .val (.int p2), .val (.int p3), .val (.int v0), .val (.int v1), .val (.int v2), .val (.int v3), .val (.ref b101), .val (.int (2 : Int32)), .val (.ref b107), .val (.int (1 : Int32))] [(.int (2 : Int32)), (.int (2 : Int32))])) _
    refine own_st (fun _ k => XS.icmpNo X187.here hx rfl (hb hby at_91) rfl (flt (by decide : ¬ ((2 : Int32) < (2 : Int32)))).1 k) ?_
    show own_Goes p e below (T187.setTop (mkF m 94 #[.val (.int p1), .val (.int p2), .val (.int p3), .val (.int v0), .val (.int v1), .val (.int v2), .val (.int v3), .val (.ref b101), .val (.int (2 : Int32)), .val (.ref b107), .val (.int (1 : Int32))] [])) _
    refine own_st (fun _ k => XS.aload X187.here hx rfl (hb hby at_94) rfl rfl k) ?_
    show own_Goes p e below (T187.setTop (mkF m 96 #[.val (.int p1), .val (.int p2), .val (.int p3), .val (.int v0), .val (.int v1), .val (.int v2), .val (.int v3), .val (.ref b101), .val (.int (2 : Int32)), .val (.ref b107), .val (.int (1 : Int32))] [(.ref b107)])) _
    have f192 := (Nat.le_trans f188 K187.1)
    have f193 := (f189.keep K187)
    have f194 := (f190.keep K187 (ninS ne_b101_b107 nin0))
    obtain ⟨_, T191, h191, L191, X191, e191, ⟨rfl, N191q, K191, F191_bytes, F191_limit, F191_position, F191_pieces, F191_piece⟩, st191⟩ := own_callV (argsL := []) (rest := []) (pc := 96) (W := 0) (Ls := #[.val (.int p1), .val (.int p2), .val (.int p3), .val (.int v0), .val (.int v1), .val (.int v2), .val (.int v3), .val (.ref b101), .val (.int (2 : Int32)), .val (.ref b107), .val (.int (1 : Int32))]) (S := [(.ref b107)]) X187 hx hZ hown (hw _ (List.mem_of_getElem? (i := 29) rfl)) (hw _ (List.mem_of_getElem? (i := 30) rfl)) (hw _ (List.mem_of_getElem? (i := 32) rfl)) (hw _ (List.mem_of_getElem? (i := 31) rfl)) (hw _ (List.mem_of_getElem? (i := 4) rfl)) (hw _ (List.mem_of_getElem? (i := 33) rfl)) (notFace_of_selects (args := #[]) (mvT hZ (hw _ (List.mem_of_getElem? (i := 32) rfl)))) (by decide) (rm3 l Z a0 hw [] b107 b101 r1 k101 [(.int v0), (.int v1), (.int v2), (.int v3)] (1 : Int32) v1 h187 n0 f192 F187_bytes F187_limit F187_position F187_pieces F187_piece f193 f194 g_b107 ne_b101_b107 (by decide) rfl (by decide)) (by decide) (by decide) e187 f193 (by rw [hml]; rfl) (lenOf pd___I rfl) rfl (Nat.le_of_eq rfl) (hb hby at_96) (by decide) (by decide)
    refine own_st st191 ?_
    have N191 := Fr.app N187 N191q
    rw [show (1 : Int32) + (1 : Int32) = (2 : Int32) from by decide] at F191_position
    show own_Goes p e below (T191.setTop (mkF m 99 #[.val (.int p1), .val (.int p2), .val (.int p3), .val (.int v0), .val (.int v1), .val (.int v2), .val (.int v3), .val (.ref b101), .val (.int (2 : Int32)), .val (.ref b107), .val (.int (1 : Int32))] [(.int v1)])) _
    refine own_st (fun _ k => XS.iload X191.here hx rfl (hb hby at_99) rfl k) ?_
    show own_Goes p e below (T191.setTop (mkF m 101 #[.val (.int p1), .val (.int p2), .val (.int p3), .val (.int v0), .val (.int v1), .val (.int v2), .val (.int v3), .val (.ref b101), .val (.int (2 : Int32)), .val (.ref b107), .val (.int (1 : Int32))] [(.int v1), (.int v1)])) _
    refine own_st (fun _ k => XS.icmpYes X191.here hx rfl (pc0 := 101) (pc' := 107) rfl (hb hby at_101) rfl (teq (rfl : v1 = v1)).1 (by decide) (by decide) k) ?_
    show own_Goes p e below (T191.setTop (mkF m 107 #[.val (.int p1), .val (.int p2), .val (.int p3), .val (.int v0), .val (.int v1), .val (.int v2), .val (.int v3), .val (.ref b101), .val (.int (2 : Int32)), .val (.ref b107), .val (.int (1 : Int32))] [])) _
    refine own_st (fun _ k => XS.iload X191.here hx rfl (hb hby at_107) rfl k) ?_
    show own_Goes p e below (T191.setTop (mkF m 109 #[.val (.int p1), .val (.int p2), .val (.int p3), .val (.int v0), .val (.int v1), .val (.int v2), .val (.int v3), .val (.ref b101), .val (.int (2 : Int32)), .val (.ref b107), .val (.int (1 : Int32))] [(.int (2 : Int32))])) _
    refine own_st (fun _ k => XS.iconst X191.here hx rfl (hb hby at_109) k) ?_
    show own_Goes p e below (T191.setTop (mkF m 110 #[.val (.int p1), .val (.int p2), .val (.int p3), .val (.int v0), .val (.int v1), .val (.int v2), .val (.int v3), .val (.ref b101), .val (.int (2 : Int32)), .val (.ref b107), .val (.int (1 : Int32))] [(.int (3 : Int32)), (.int (2 : Int32))])) _
    refine own_st (fun _ k => XS.icmpYes X191.here hx rfl (pc0 := 110) (pc' := 126) rfl (hb hby at_110) rfl (tlt (by decide : (2 : Int32) < (3 : Int32))).1 (by decide) (by decide) k) ?_
    show own_Goes p e below (T191.setTop (mkF m 126 #[.val (.int p1), .val (.int p2), .val (.int p3), .val (.int v0), .val (.int v1), .val (.int v2), .val (.int v3), .val (.ref b101), .val (.int (2 : Int32)), .val (.ref b107), .val (.int (1 : Int32))] [])) _
    refine own_st (fun _ k => XS.iload X191.here hx rfl (hb hby at_126) rfl k) ?_
    show own_Goes p e below (T191.setTop (mkF m 128 #[.val (.int p1), .val (.int p2), .val (.int p3), .val (.int v0), .val (.int v1), .val (.int v2), .val (.int v3), .val (.ref b101), .val (.int (2 : Int32)), .val (.ref b107), .val (.int (1 : Int32))] [(.int (2 : Int32))])) _
    refine own_st (fun _ k => XS.iconst X191.here hx rfl (hb hby at_128) k) ?_
    show own_Goes p e below (T191.setTop (mkF m 129 #[.val (.int p1), .val (.int p2), .val (.int p3), .val (.int v0), .val (.int v1), .val (.int v2), .val (.int v3), .val (.ref b101), .val (.int (2 : Int32)), .val (.ref b107), .val (.int (1 : Int32))] [(.int (4 : Int32)), (.int (2 : Int32))])) _
    refine own_st (fun _ k => XS.icmpYes X191.here hx rfl (pc0 := 129) (pc' := 145) rfl (hb hby at_129) rfl (tlt (by decide : (2 : Int32) < (4 : Int32))).1 (by decide) (by decide) k) ?_
    show own_Goes p e below (T191.setTop (mkF m 145 #[.val (.int p1), .val (.int p2), .val (.int p3), .val (.int v0), .val (.int v1), .val (.int v2), .val (.int v3), .val (.ref b101), .val (.int (2 : Int32)), .val (.ref b107), .val (.int (1 : Int32))] [])) _
    refine own_st (fun _ k => XS.aload X191.here hx rfl (hb hby at_145) rfl rfl k) ?_
    show own_Goes p e below (T191.setTop (mkF m 147 #[.val (.int p1), .val (.int p2), .val (.int p3), .val (.int v0), .val (.int v1), .val (.int v2), .val (.int v3), .val (.ref b101), .val (.int (2 : Int32)), .val (.ref b107), .val (.int (1 : Int32))] [(.ref b107)])) _
    have f196 := (Nat.le_trans f192 K191.1)
    have f197 := ((Vr.keep K187 (ninS (Ne.symm ner) nin0)).keep K191 (ninS (Ne.symm ner) nin0))
    have f198 := (f193.keep K191)
    obtain ⟨_, T195, h195, L195, X195, e195, ⟨rfl, rfl, q195⟩, st195⟩ := own_callV (argsL := []) (rest := []) (pc := 147) (W := 0) (Ls := #[.val (.int p1), .val (.int p2), .val (.int p3), .val (.int v0), .val (.int v1), .val (.int v2), .val (.int v3), .val (.ref b101), .val (.int (2 : Int32)), .val (.ref b107), .val (.int (1 : Int32))]) (S := [(.ref b107)]) X191 hx hZ hown (hw _ (List.mem_of_getElem? (i := 40) rfl)) (hw _ (List.mem_of_getElem? (i := 41) rfl)) (hw _ (List.mem_of_getElem? (i := 43) rfl)) (hw _ (List.mem_of_getElem? (i := 42) rfl)) (hw _ (List.mem_of_getElem? (i := 4) rfl)) (hw _ (List.mem_of_getElem? (i := 44) rfl)) (notFace_of_selects (args := #[]) (mvT hZ (hw _ (List.mem_of_getElem? (i := 43) rfl)))) (by decide) (rm6 l Z a0 hw [] b107 r1 b101 kr (2 : Int32) h191 n0 f196 F191_limit F191_position F191_piece F191_pieces f197) (by decide) (by decide) e191 f198 (by rw [hml]; rfl) (lenOf pd___V rfl) rfl (Nat.le_of_eq rfl) (hb hby at_147) (by decide) (by decide)
    refine own_st st195 ?_
    have N195 := Fr.app N191 (Fr.nil n0)
    show own_Goes p e below (T195.setTop (mkF m 150 #[.val (.int p1), .val (.int p2), .val (.int p3), .val (.int v0), .val (.int v1), .val (.int v2), .val (.int v3), .val (.ref b101), .val (.int (2 : Int32)), .val (.ref b107), .val (.int (1 : Int32))] [])) _
    refine own_st (fun _ k => XS.iloadN X195.here hx rfl (hb hby at_150) rfl k) ?_
    show own_Goes p e below (T195.setTop (mkF m 151 #[.val (.int p1), .val (.int p2), .val (.int p3), .val (.int v0), .val (.int v1), .val (.int v2), .val (.int v3), .val (.ref b101), .val (.int (2 : Int32)), .val (.ref b107), .val (.int (1 : Int32))] [(.int p3)])) _
    refine own_st (fun _ k => XS.iconst X195.here hx rfl (hb hby at_151) k) ?_
    show own_Goes p e below (T195.setTop (mkF m 152 #[.val (.int p1), .val (.int p2), .val (.int p3), .val (.int v0), .val (.int v1), .val (.int v2), .val (.int v3), .val (.ref b101), .val (.int (2 : Int32)), .val (.ref b107), .val (.int (1 : Int32))] [(.int (1 : Int32)), (.int p3)])) _
    refine own_st (fun _ k => XS.iand X195.here hx rfl (hb hby at_152) rfl k) ?_
    show own_Goes p e below (T195.setTop (mkF m 153 #[.val (.int p1), .val (.int p2), .val (.int p3), .val (.int v0), .val (.int v1), .val (.int v2), .val (.int v3), .val (.ref b101), .val (.int (2 : Int32)), .val (.ref b107), .val (.int (1 : Int32))] [(.int (p3 &&& (1 : Int32)))])) _
    by_cases hc153_199 : (p3 &&& (1 : Int32)) = (0 : Int32)
    · refine own_st (fun _ k => XS.ifYes X195.here hx rfl (pc0 := 153) (pc' := 161) rfl (hb hby at_153) rfl ((if0 _ _).trans (teq hc153_199).1) (by decide) (by decide) k) ?_
      show own_Goes p e below (T195.setTop (mkF m 161 #[.val (.int p1), .val (.int p2), .val (.int p3), .val (.int v0), .val (.int v1), .val (.int v2), .val (.int v3), .val (.ref b101), .val (.int (2 : Int32)), .val (.ref b107), .val (.int (1 : Int32))] [])) _
      refine own_st (fun _ k => XS.iload X195.here hx rfl (hb hby at_161) rfl k) ?_
      show own_Goes p e below (T195.setTop (mkF m 163 #[.val (.int p1), .val (.int p2), .val (.int p3), .val (.int v0), .val (.int v1), .val (.int v2), .val (.int v3), .val (.ref b101), .val (.int (2 : Int32)), .val (.ref b107), .val (.int (1 : Int32))] [(.int (2 : Int32))])) _
      refine own_st (fun _ k => XS.iconst X195.here hx rfl (hb hby at_163) k) ?_
      show own_Goes p e below (T195.setTop (mkF m 164 #[.val (.int p1), .val (.int p2), .val (.int p3), .val (.int v0), .val (.int v1), .val (.int v2), .val (.int v3), .val (.ref b101), .val (.int (2 : Int32)), .val (.ref b107), .val (.int (1 : Int32))] [(.int (1 : Int32)), (.int (2 : Int32))])) _
      refine own_st (fun _ k => XS.icmpYes X195.here hx rfl (pc0 := 164) (pc' := 179) rfl (hb hby at_164) rfl (flt (by decide : ¬ ((2 : Int32) < (1 : Int32)))).2.1 (by decide) (by decide) k) ?_
      show own_Goes p e below (T195.setTop (mkF m 179 #[.val (.int p1), .val (.int p2), .val (.int p3), .val (.int v0), .val (.int v1), .val (.int v2), .val (.int v3), .val (.ref b101), .val (.int (2 : Int32)), .val (.ref b107), .val (.int (1 : Int32))] [])) _
      refine own_st (fun _ k => XS.iload X195.here hx rfl (hb hby at_179) rfl k) ?_
      show own_Goes p e below (T195.setTop (mkF m 181 #[.val (.int p1), .val (.int p2), .val (.int p3), .val (.int v0), .val (.int v1), .val (.int v2), .val (.int v3), .val (.ref b101), .val (.int (2 : Int32)), .val (.ref b107), .val (.int (1 : Int32))] [(.int (2 : Int32))])) _
      refine own_st (fun _ k => XS.iconst X195.here hx rfl (hb hby at_181) k) ?_
      show own_Goes p e below (T195.setTop (mkF m 182 #[.val (.int p1), .val (.int p2), .val (.int p3), .val (.int v0), .val (.int v1), .val (.int v2), .val (.int v3), .val (.ref b101), .val (.int (2 : Int32)), .val (.ref b107), .val (.int (1 : Int32))] [(.int (2 : Int32)), (.int (2 : Int32))])) _
      refine own_st (fun _ k => XS.icmpYes X195.here hx rfl (pc0 := 182) (pc' := 198) rfl (hb hby at_182) rfl (flt (by decide : ¬ ((2 : Int32) < (2 : Int32)))).2.1 (by decide) (by decide) k) ?_
      show own_Goes p e below (T195.setTop (mkF m 198 #[.val (.int p1), .val (.int p2), .val (.int p3), .val (.int v0), .val (.int v1), .val (.int v2), .val (.int v3), .val (.ref b101), .val (.int (2 : Int32)), .val (.ref b107), .val (.int (1 : Int32))] [])) _
      refine own_st (fun _ k => XS.iload X195.here hx rfl (hb hby at_198) rfl k) ?_
      show own_Goes p e below (T195.setTop (mkF m 200 #[.val (.int p1), .val (.int p2), .val (.int p3), .val (.int v0), .val (.int v1), .val (.int v2), .val (.int v3), .val (.ref b101), .val (.int (2 : Int32)), .val (.ref b107), .val (.int (1 : Int32))] [(.int (2 : Int32))])) _
      refine own_st (fun _ k => XS.iconst X195.here hx rfl (hb hby at_200) k) ?_
      show own_Goes p e below (T195.setTop (mkF m 201 #[.val (.int p1), .val (.int p2), .val (.int p3), .val (.int v0), .val (.int v1), .val (.int v2), .val (.int v3), .val (.ref b101), .val (.int (2 : Int32)), .val (.ref b107), .val (.int (1 : Int32))] [(.int (3 : Int32)), (.int (2 : Int32))])) _
      refine own_st (fun _ k => XS.icmpNo X195.here hx rfl (hb hby at_201) rfl (tlt (by decide : (2 : Int32) < (3 : Int32))).2.1 k) ?_
      show own_Goes p e below (T195.setTop (mkF m 204 #[.val (.int p1), .val (.int p2), .val (.int p3), .val (.int v0), .val (.int v1), .val (.int v2), .val (.int v3), .val (.ref b101), .val (.int (2 : Int32)), .val (.ref b107), .val (.int (1 : Int32))] [])) _
      refine own_st (fun _ k => XS.aload X195.here hx rfl (hb hby at_204) rfl rfl k) ?_
      show own_Goes p e below (T195.setTop (mkF m 206 #[.val (.int p1), .val (.int p2), .val (.int p3), .val (.int v0), .val (.int v1), .val (.int v2), .val (.int v3), .val (.ref b101), .val (.int (2 : Int32)), .val (.ref b107), .val (.int (1 : Int32))] [(.ref b107)])) _
      have f201 := (f194.keep K191 (ninS ne_b101_b107 nin0))
      obtain ⟨_, T200, h200, L200, X200, e200, ⟨rfl, N200q, K200, F200_bytes, F200_limit, F200_position, F200_pieces, F200_piece⟩, st200⟩ := own_callV (argsL := []) (rest := []) (pc := 206) (W := 0) (Ls := #[.val (.int p1), .val (.int p2), .val (.int p3), .val (.int v0), .val (.int v1), .val (.int v2), .val (.int v3), .val (.ref b101), .val (.int (2 : Int32)), .val (.ref b107), .val (.int (1 : Int32))]) (S := [(.ref b107)]) X195 hx hZ hown (hw _ (List.mem_of_getElem? (i := 29) rfl)) (hw _ (List.mem_of_getElem? (i := 30) rfl)) (hw _ (List.mem_of_getElem? (i := 32) rfl)) (hw _ (List.mem_of_getElem? (i := 31) rfl)) (hw _ (List.mem_of_getElem? (i := 4) rfl)) (hw _ (List.mem_of_getElem? (i := 33) rfl)) (notFace_of_selects (args := #[]) (mvT hZ (hw _ (List.mem_of_getElem? (i := 32) rfl)))) (by decide) (rm3 l Z a0 hw [] b107 b101 r1 k101 [(.int v0), (.int v1), (.int v2), (.int v3)] (2 : Int32) v2 h191 n0 f196 F191_bytes F191_limit F191_position F191_pieces F191_piece f198 f201 g_b107 ne_b101_b107 (by decide) rfl (by decide)) (by decide) (by decide) (e195.trans q195) f198 (by rw [hml]; rfl) (lenOf pd___I rfl) rfl (Nat.le_of_eq rfl) (hb hby at_206) (by decide) (by decide)
      refine own_st st200 ?_
      have N200 := Fr.app N195 N200q
      rw [show (2 : Int32) + (1 : Int32) = (3 : Int32) from by decide] at F200_position
      show own_Goes p e below (T200.setTop (mkF m 209 #[.val (.int p1), .val (.int p2), .val (.int p3), .val (.int v0), .val (.int v1), .val (.int v2), .val (.int v3), .val (.ref b101), .val (.int (2 : Int32)), .val (.ref b107), .val (.int (1 : Int32))] [(.int v2)])) _
      refine own_st (fun _ k => XS.iload X200.here hx rfl (hb hby at_209) rfl k) ?_
      show own_Goes p e below (T200.setTop (mkF m 211 #[.val (.int p1), .val (.int p2), .val (.int p3), .val (.int v0), .val (.int v1), .val (.int v2), .val (.int v3), .val (.ref b101), .val (.int (2 : Int32)), .val (.ref b107), .val (.int (1 : Int32))] [(.int v2), (.int v2)])) _
      refine own_st (fun _ k => XS.icmpYes X200.here hx rfl (pc0 := 211) (pc' := 217) rfl (hb hby at_211) rfl (teq (rfl : v2 = v2)).1 (by decide) (by decide) k) ?_
      show own_Goes p e below (T200.setTop (mkF m 217 #[.val (.int p1), .val (.int p2), .val (.int p3), .val (.int v0), .val (.int v1), .val (.int v2), .val (.int v3), .val (.ref b101), .val (.int (2 : Int32)), .val (.ref b107), .val (.int (1 : Int32))] [])) _
      refine own_st (fun _ k => XS.iload X200.here hx rfl (hb hby at_217) rfl k) ?_
      show own_Goes p e below (T200.setTop (mkF m 219 #[.val (.int p1), .val (.int p2), .val (.int p3), .val (.int v0), .val (.int v1), .val (.int v2), .val (.int v3), .val (.ref b101), .val (.int (2 : Int32)), .val (.ref b107), .val (.int (1 : Int32))] [(.int (2 : Int32))])) _
      refine own_st (fun _ k => XS.iconst X200.here hx rfl (hb hby at_219) k) ?_
      show own_Goes p e below (T200.setTop (mkF m 220 #[.val (.int p1), .val (.int p2), .val (.int p3), .val (.int v0), .val (.int v1), .val (.int v2), .val (.int v3), .val (.ref b101), .val (.int (2 : Int32)), .val (.ref b107), .val (.int (1 : Int32))] [(.int (4 : Int32)), (.int (2 : Int32))])) _
      refine own_st (fun _ k => XS.icmpNo X200.here hx rfl (hb hby at_220) rfl (tlt (by decide : (2 : Int32) < (4 : Int32))).2.1 k) ?_
      show own_Goes p e below (T200.setTop (mkF m 223 #[.val (.int p1), .val (.int p2), .val (.int p3), .val (.int v0), .val (.int v1), .val (.int v2), .val (.int v3), .val (.ref b101), .val (.int (2 : Int32)), .val (.ref b107), .val (.int (1 : Int32))] [])) _
      refine own_st (fun _ k => XS.aload X200.here hx rfl (hb hby at_223) rfl rfl k) ?_
      show own_Goes p e below (T200.setTop (mkF m 225 #[.val (.int p1), .val (.int p2), .val (.int p3), .val (.int v0), .val (.int v1), .val (.int v2), .val (.int v3), .val (.ref b101), .val (.int (2 : Int32)), .val (.ref b107), .val (.int (1 : Int32))] [(.ref b107)])) _
      have f203 := (Nat.le_trans f196 K200.1)
      have f204 := (f198.keep K200)
      have f205 := (f201.keep K200 (ninS ne_b101_b107 nin0))
      obtain ⟨_, T202, h202, L202, X202, e202, ⟨rfl, N202q, K202, F202_bytes, F202_limit, F202_position, F202_pieces, F202_piece⟩, st202⟩ := own_callV (argsL := []) (rest := []) (pc := 225) (W := 0) (Ls := #[.val (.int p1), .val (.int p2), .val (.int p3), .val (.int v0), .val (.int v1), .val (.int v2), .val (.int v3), .val (.ref b101), .val (.int (2 : Int32)), .val (.ref b107), .val (.int (1 : Int32))]) (S := [(.ref b107)]) X200 hx hZ hown (hw _ (List.mem_of_getElem? (i := 29) rfl)) (hw _ (List.mem_of_getElem? (i := 30) rfl)) (hw _ (List.mem_of_getElem? (i := 32) rfl)) (hw _ (List.mem_of_getElem? (i := 31) rfl)) (hw _ (List.mem_of_getElem? (i := 4) rfl)) (hw _ (List.mem_of_getElem? (i := 33) rfl)) (notFace_of_selects (args := #[]) (mvT hZ (hw _ (List.mem_of_getElem? (i := 32) rfl)))) (by decide) (rm3 l Z a0 hw [] b107 b101 r1 k101 [(.int v0), (.int v1), (.int v2), (.int v3)] (3 : Int32) v3 h200 n0 f203 F200_bytes F200_limit F200_position F200_pieces F200_piece f204 f205 g_b107 ne_b101_b107 (by decide) rfl (by decide)) (by decide) (by decide) e200 f204 (by rw [hml]; rfl) (lenOf pd___I rfl) rfl (Nat.le_of_eq rfl) (hb hby at_225) (by decide) (by decide)
      refine own_st st202 ?_
      have N202 := Fr.app N200 N202q
      rw [show (3 : Int32) + (1 : Int32) = (4 : Int32) from by decide] at F202_position
      show own_Goes p e below (T202.setTop (mkF m 228 #[.val (.int p1), .val (.int p2), .val (.int p3), .val (.int v0), .val (.int v1), .val (.int v2), .val (.int v3), .val (.ref b101), .val (.int (2 : Int32)), .val (.ref b107), .val (.int (1 : Int32))] [(.int v3)])) _
      refine own_st (fun _ k => XS.iload X202.here hx rfl (hb hby at_228) rfl k) ?_
      show own_Goes p e below (T202.setTop (mkF m 230 #[.val (.int p1), .val (.int p2), .val (.int p3), .val (.int v0), .val (.int v1), .val (.int v2), .val (.int v3), .val (.ref b101), .val (.int (2 : Int32)), .val (.ref b107), .val (.int (1 : Int32))] [(.int v3), (.int v3)])) _
      refine own_st (fun _ k => XS.icmpYes X202.here hx rfl (pc0 := 230) (pc' := 236) rfl (hb hby at_230) rfl (teq (rfl : v3 = v3)).1 (by decide) (by decide) k) ?_
      show own_Goes p e below (T202.setTop (mkF m 236 #[.val (.int p1), .val (.int p2), .val (.int p3), .val (.int v0), .val (.int v1), .val (.int v2), .val (.int v3), .val (.ref b101), .val (.int (2 : Int32)), .val (.ref b107), .val (.int (1 : Int32))] [])) _
      refine own_st (fun _ k => XS.aload X202.here hx rfl (hb hby at_236) rfl rfl k) ?_
      show own_Goes p e below (T202.setTop (mkF m 238 #[.val (.int p1), .val (.int p2), .val (.int p3), .val (.int v0), .val (.int v1), .val (.int v2), .val (.int v3), .val (.ref b101), .val (.int (2 : Int32)), .val (.ref b107), .val (.int (1 : Int32))] [(.ref b107)])) _
      have f207 := (Nat.le_trans f203 K202.1)
      have f208 := (f204.keep K202)
      obtain ⟨_, T206, h206, L206, X206, e206, ⟨rfl, rfl, q206⟩, st206⟩ := own_callV (argsL := []) (rest := []) (pc := 238) (W := 0) (Ls := #[.val (.int p1), .val (.int p2), .val (.int p3), .val (.int v0), .val (.int v1), .val (.int v2), .val (.int v3), .val (.ref b101), .val (.int (2 : Int32)), .val (.ref b107), .val (.int (1 : Int32))]) (S := [(.ref b107)]) X202 hx hZ hown (hw _ (List.mem_of_getElem? (i := 45) rfl)) (hw _ (List.mem_of_getElem? (i := 46) rfl)) (hw _ (List.mem_of_getElem? (i := 48) rfl)) (hw _ (List.mem_of_getElem? (i := 47) rfl)) (hw _ (List.mem_of_getElem? (i := 4) rfl)) (hw _ (List.mem_of_getElem? (i := 49) rfl)) (notFace_of_selects (args := #[]) (mvT hZ (hw _ (List.mem_of_getElem? (i := 48) rfl)))) (by decide) (rm7 l Z a0 hw [] b107 h202 n0 f207 F202_limit F202_position) (by decide) (by decide) e202 f208 (by rw [hml]; rfl) (lenOf pd___V rfl) rfl (Nat.le_of_eq rfl) (hb hby at_238) (by decide) (by decide)
      refine own_st st206 ?_
      have N206 := Fr.app N202 (Fr.nil n0)
      show own_Goes p e below (T206.setTop (mkF m 241 #[.val (.int p1), .val (.int p2), .val (.int p3), .val (.int v0), .val (.int v1), .val (.int v2), .val (.int v3), .val (.ref b101), .val (.int (2 : Int32)), .val (.ref b107), .val (.int (1 : Int32))] [])) _
      refine own_st (fun _ k => XS.iload X206.here hx rfl (hb hby at_241) rfl k) ?_
      show own_Goes p e below (T206.setTop (mkF m 243 #[.val (.int p1), .val (.int p2), .val (.int p3), .val (.int v0), .val (.int v1), .val (.int v2), .val (.int v3), .val (.ref b101), .val (.int (2 : Int32)), .val (.ref b107), .val (.int (1 : Int32))] [(.int (1 : Int32))])) _
      exact own_retN (t := .boolean) (z' := (1 : Int32)) X206 hx hlk hret (by simp) (by decide) (hb hby at_243) (by decide) (by decide) (e206.trans q206) ⟨rfl, N206⟩
    · refine own_st (fun _ k => XS.ifNo X195.here hx rfl (hb hby at_153) rfl ((if0 _ _).trans (feq hc153_199).1) k) ?_
      show own_Goes p e below (T195.setTop (mkF m 156 #[.val (.int p1), .val (.int p2), .val (.int p3), .val (.int v0), .val (.int v1), .val (.int v2), .val (.int v3), .val (.ref b101), .val (.int (2 : Int32)), .val (.ref b107), .val (.int (1 : Int32))] [])) _
      refine own_st (fun _ k => XS.aload X195.here hx rfl (hb hby at_156) rfl rfl k) ?_
      show own_Goes p e below (T195.setTop (mkF m 158 #[.val (.int p1), .val (.int p2), .val (.int p3), .val (.int v0), .val (.int v1), .val (.int v2), .val (.int v3), .val (.ref b101), .val (.int (2 : Int32)), .val (.ref b107), .val (.int (1 : Int32))] [(.ref b107)])) _
      obtain ⟨_, T209, h209, L209, X209, e209, ⟨rfl, rfl, q209⟩, st209⟩ := own_callV (argsL := []) (rest := []) (pc := 158) (W := 0) (Ls := #[.val (.int p1), .val (.int p2), .val (.int p3), .val (.int v0), .val (.int v1), .val (.int v2), .val (.int v3), .val (.ref b101), .val (.int (2 : Int32)), .val (.ref b107), .val (.int (1 : Int32))]) (S := [(.ref b107)]) X195 hx hZ hown (hw _ (List.mem_of_getElem? (i := 40) rfl)) (hw _ (List.mem_of_getElem? (i := 41) rfl)) (hw _ (List.mem_of_getElem? (i := 43) rfl)) (hw _ (List.mem_of_getElem? (i := 42) rfl)) (hw _ (List.mem_of_getElem? (i := 4) rfl)) (hw _ (List.mem_of_getElem? (i := 44) rfl)) (notFace_of_selects (args := #[]) (mvT hZ (hw _ (List.mem_of_getElem? (i := 43) rfl)))) (by decide) (rm6 l Z a0 hw [] b107 r1 b101 kr (2 : Int32) h191 n0 f196 F191_limit F191_position F191_piece F191_pieces f197) (by decide) (by decide) (e195.trans q195) f198 (by rw [hml]; rfl) (lenOf pd___V rfl) rfl (Nat.le_of_eq rfl) (hb hby at_158) (by decide) (by decide)
      refine own_st st209 ?_
      have N209 := Fr.app N195 (Fr.nil n0)
      show own_Goes p e below (T209.setTop (mkF m 161 #[.val (.int p1), .val (.int p2), .val (.int p3), .val (.int v0), .val (.int v1), .val (.int v2), .val (.int v3), .val (.ref b101), .val (.int (2 : Int32)), .val (.ref b107), .val (.int (1 : Int32))] [])) _
      refine own_st (fun _ k => XS.iload X209.here hx rfl (hb hby at_161) rfl k) ?_
      show own_Goes p e below (T209.setTop (mkF m 163 #[.val (.int p1), .val (.int p2), .val (.int p3), .val (.int v0), .val (.int v1), .val (.int v2), .val (.int v3), .val (.ref b101), .val (.int (2 : Int32)), .val (.ref b107), .val (.int (1 : Int32))] [(.int (2 : Int32))])) _
      refine own_st (fun _ k => XS.iconst X209.here hx rfl (hb hby at_163) k) ?_
      show own_Goes p e below (T209.setTop (mkF m 164 #[.val (.int p1), .val (.int p2), .val (.int p3), .val (.int v0), .val (.int v1), .val (.int v2), .val (.int v3), .val (.ref b101), .val (.int (2 : Int32)), .val (.ref b107), .val (.int (1 : Int32))] [(.int (1 : Int32)), (.int (2 : Int32))])) _
      refine own_st (fun _ k => XS.icmpYes X209.here hx rfl (pc0 := 164) (pc' := 179) rfl (hb hby at_164) rfl (flt (by decide : ¬ ((2 : Int32) < (1 : Int32)))).2.1 (by decide) (by decide) k) ?_
      show own_Goes p e below (T209.setTop (mkF m 179 #[.val (.int p1), .val (.int p2), .val (.int p3), .val (.int v0), .val (.int v1), .val (.int v2), .val (.int v3), .val (.ref b101), .val (.int (2 : Int32)), .val (.ref b107), .val (.int (1 : Int32))] [])) _
      refine own_st (fun _ k => XS.iload X209.here hx rfl (hb hby at_179) rfl k) ?_
      show own_Goes p e below (T209.setTop (mkF m 181 #[.val (.int p1), .val (.int p2), .val (.int p3), .val (.int v0), .val (.int v1), .val (.int v2), .val (.int v3), .val (.ref b101), .val (.int (2 : Int32)), .val (.ref b107), .val (.int (1 : Int32))] [(.int (2 : Int32))])) _
      refine own_st (fun _ k => XS.iconst X209.here hx rfl (hb hby at_181) k) ?_
      show own_Goes p e below (T209.setTop (mkF m 182 #[.val (.int p1), .val (.int p2), .val (.int p3), .val (.int v0), .val (.int v1), .val (.int v2), .val (.int v3), .val (.ref b101), .val (.int (2 : Int32)), .val (.ref b107), .val (.int (1 : Int32))] [(.int (2 : Int32)), (.int (2 : Int32))])) _
      refine own_st (fun _ k => XS.icmpYes X209.here hx rfl (pc0 := 182) (pc' := 198) rfl (hb hby at_182) rfl (flt (by decide : ¬ ((2 : Int32) < (2 : Int32)))).2.1 (by decide) (by decide) k) ?_
      show own_Goes p e below (T209.setTop (mkF m 198 #[.val (.int p1), .val (.int p2), .val (.int p3), .val (.int v0), .val (.int v1), .val (.int v2), .val (.int v3), .val (.ref b101), .val (.int (2 : Int32)), .val (.ref b107), .val (.int (1 : Int32))] [])) _
      refine own_st (fun _ k => XS.iload X209.here hx rfl (hb hby at_198) rfl k) ?_
      show own_Goes p e below (T209.setTop (mkF m 200 #[.val (.int p1), .val (.int p2), .val (.int p3), .val (.int v0), .val (.int v1), .val (.int v2), .val (.int v3), .val (.ref b101), .val (.int (2 : Int32)), .val (.ref b107), .val (.int (1 : Int32))] [(.int (2 : Int32))])) _
      refine own_st (fun _ k => XS.iconst X209.here hx rfl (hb hby at_200) k) ?_
      show own_Goes p e below (T209.setTop (mkF m 201 #[.val (.int p1), .val (.int p2), .val (.int p3), .val (.int v0), .val (.int v1), .val (.int v2), .val (.int v3), .val (.ref b101), .val (.int (2 : Int32)), .val (.ref b107), .val (.int (1 : Int32))] [(.int (3 : Int32)), (.int (2 : Int32))])) _
      refine own_st (fun _ k => XS.icmpNo X209.here hx rfl (hb hby at_201) rfl (tlt (by decide : (2 : Int32) < (3 : Int32))).2.1 k) ?_
      show own_Goes p e below (T209.setTop (mkF m 204 #[.val (.int p1), .val (.int p2), .val (.int p3), .val (.int v0), .val (.int v1), .val (.int v2), .val (.int v3), .val (.ref b101), .val (.int (2 : Int32)), .val (.ref b107), .val (.int (1 : Int32))] [])) _
      refine own_st (fun _ k => XS.aload X209.here hx rfl (hb hby at_204) rfl rfl k) ?_
      show own_Goes p e below (T209.setTop (mkF m 206 #[.val (.int p1), .val (.int p2), .val (.int p3), .val (.int v0), .val (.int v1), .val (.int v2), .val (.int v3), .val (.ref b101), .val (.int (2 : Int32)), .val (.ref b107), .val (.int (1 : Int32))] [(.ref b107)])) _
      have f211 := (f194.keep K191 (ninS ne_b101_b107 nin0))
      obtain ⟨_, T210, h210, L210, X210, e210, ⟨rfl, N210q, K210, F210_bytes, F210_limit, F210_position, F210_pieces, F210_piece⟩, st210⟩ := own_callV (argsL := []) (rest := []) (pc := 206) (W := 0) (Ls := #[.val (.int p1), .val (.int p2), .val (.int p3), .val (.int v0), .val (.int v1), .val (.int v2), .val (.int v3), .val (.ref b101), .val (.int (2 : Int32)), .val (.ref b107), .val (.int (1 : Int32))]) (S := [(.ref b107)]) X209 hx hZ hown (hw _ (List.mem_of_getElem? (i := 29) rfl)) (hw _ (List.mem_of_getElem? (i := 30) rfl)) (hw _ (List.mem_of_getElem? (i := 32) rfl)) (hw _ (List.mem_of_getElem? (i := 31) rfl)) (hw _ (List.mem_of_getElem? (i := 4) rfl)) (hw _ (List.mem_of_getElem? (i := 33) rfl)) (notFace_of_selects (args := #[]) (mvT hZ (hw _ (List.mem_of_getElem? (i := 32) rfl)))) (by decide) (rm3 l Z a0 hw [] b107 b101 r1 k101 [(.int v0), (.int v1), (.int v2), (.int v3)] (2 : Int32) v2 h191 n0 f196 F191_bytes F191_limit F191_position F191_pieces F191_piece f198 f211 g_b107 ne_b101_b107 (by decide) rfl (by decide)) (by decide) (by decide) (e209.trans q209) f198 (by rw [hml]; rfl) (lenOf pd___I rfl) rfl (Nat.le_of_eq rfl) (hb hby at_206) (by decide) (by decide)
      refine own_st st210 ?_
      have N210 := Fr.app N209 N210q
      rw [show (2 : Int32) + (1 : Int32) = (3 : Int32) from by decide] at F210_position
      show own_Goes p e below (T210.setTop (mkF m 209 #[.val (.int p1), .val (.int p2), .val (.int p3), .val (.int v0), .val (.int v1), .val (.int v2), .val (.int v3), .val (.ref b101), .val (.int (2 : Int32)), .val (.ref b107), .val (.int (1 : Int32))] [(.int v2)])) _
      refine own_st (fun _ k => XS.iload X210.here hx rfl (hb hby at_209) rfl k) ?_
      show own_Goes p e below (T210.setTop (mkF m 211 #[.val (.int p1), .val (.int p2), .val (.int p3), .val (.int v0), .val (.int v1), .val (.int v2), .val (.int v3), .val (.ref b101), .val (.int (2 : Int32)), .val (.ref b107), .val (.int (1 : Int32))] [(.int v2), (.int v2)])) _
      refine own_st (fun _ k => XS.icmpYes X210.here hx rfl (pc0 := 211) (pc' := 217) rfl (hb hby at_211) rfl (teq (rfl : v2 = v2)).1 (by decide) (by decide) k) ?_
      show own_Goes p e below (T210.setTop (mkF m 217 #[.val (.int p1), .val (.int p2), .val (.int p3), .val (.int v0), .val (.int v1), .val (.int v2), .val (.int v3), .val (.ref b101), .val (.int (2 : Int32)), .val (.ref b107), .val (.int (1 : Int32))] [])) _
      refine own_st (fun _ k => XS.iload X210.here hx rfl (hb hby at_217) rfl k) ?_
      show own_Goes p e below (T210.setTop (mkF m 219 #[.val (.int p1), .val (.int p2), .val (.int p3), .val (.int v0), .val (.int v1), .val (.int v2), .val (.int v3), .val (.ref b101), .val (.int (2 : Int32)), .val (.ref b107), .val (.int (1 : Int32))] [(.int (2 : Int32))])) _
      refine own_st (fun _ k => XS.iconst X210.here hx rfl (hb hby at_219) k) ?_
      show own_Goes p e below (T210.setTop (mkF m 220 #[.val (.int p1), .val (.int p2), .val (.int p3), .val (.int v0), .val (.int v1), .val (.int v2), .val (.int v3), .val (.ref b101), .val (.int (2 : Int32)), .val (.ref b107), .val (.int (1 : Int32))] [(.int (4 : Int32)), (.int (2 : Int32))])) _
      refine own_st (fun _ k => XS.icmpNo X210.here hx rfl (hb hby at_220) rfl (tlt (by decide : (2 : Int32) < (4 : Int32))).2.1 k) ?_
      show own_Goes p e below (T210.setTop (mkF m 223 #[.val (.int p1), .val (.int p2), .val (.int p3), .val (.int v0), .val (.int v1), .val (.int v2), .val (.int v3), .val (.ref b101), .val (.int (2 : Int32)), .val (.ref b107), .val (.int (1 : Int32))] [])) _
      refine own_st (fun _ k => XS.aload X210.here hx rfl (hb hby at_223) rfl rfl k) ?_
      show own_Goes p e below (T210.setTop (mkF m 225 #[.val (.int p1), .val (.int p2), .val (.int p3), .val (.int v0), .val (.int v1), .val (.int v2), .val (.int v3), .val (.ref b101), .val (.int (2 : Int32)), .val (.ref b107), .val (.int (1 : Int32))] [(.ref b107)])) _
      have f213 := (Nat.le_trans f196 K210.1)
      have f214 := (f198.keep K210)
      have f215 := (f211.keep K210 (ninS ne_b101_b107 nin0))
      obtain ⟨_, T212, h212, L212, X212, e212, ⟨rfl, N212q, K212, F212_bytes, F212_limit, F212_position, F212_pieces, F212_piece⟩, st212⟩ := own_callV (argsL := []) (rest := []) (pc := 225) (W := 0) (Ls := #[.val (.int p1), .val (.int p2), .val (.int p3), .val (.int v0), .val (.int v1), .val (.int v2), .val (.int v3), .val (.ref b101), .val (.int (2 : Int32)), .val (.ref b107), .val (.int (1 : Int32))]) (S := [(.ref b107)]) X210 hx hZ hown (hw _ (List.mem_of_getElem? (i := 29) rfl)) (hw _ (List.mem_of_getElem? (i := 30) rfl)) (hw _ (List.mem_of_getElem? (i := 32) rfl)) (hw _ (List.mem_of_getElem? (i := 31) rfl)) (hw _ (List.mem_of_getElem? (i := 4) rfl)) (hw _ (List.mem_of_getElem? (i := 33) rfl)) (notFace_of_selects (args := #[]) (mvT hZ (hw _ (List.mem_of_getElem? (i := 32) rfl)))) (by decide) (rm3 l Z a0 hw [] b107 b101 r1 k101 [(.int v0), (.int v1), (.int v2), (.int v3)] (3 : Int32) v3 h210 n0 f213 F210_bytes F210_limit F210_position F210_pieces F210_piece f214 f215 g_b107 ne_b101_b107 (by decide) rfl (by decide)) (by decide) (by decide) e210 f214 (by rw [hml]; rfl) (lenOf pd___I rfl) rfl (Nat.le_of_eq rfl) (hb hby at_225) (by decide) (by decide)
      refine own_st st212 ?_
      have N212 := Fr.app N210 N212q
      rw [show (3 : Int32) + (1 : Int32) = (4 : Int32) from by decide] at F212_position
      show own_Goes p e below (T212.setTop (mkF m 228 #[.val (.int p1), .val (.int p2), .val (.int p3), .val (.int v0), .val (.int v1), .val (.int v2), .val (.int v3), .val (.ref b101), .val (.int (2 : Int32)), .val (.ref b107), .val (.int (1 : Int32))] [(.int v3)])) _
      refine own_st (fun _ k => XS.iload X212.here hx rfl (hb hby at_228) rfl k) ?_
      show own_Goes p e below (T212.setTop (mkF m 230 #[.val (.int p1), .val (.int p2), .val (.int p3), .val (.int v0), .val (.int v1), .val (.int v2), .val (.int v3), .val (.ref b101), .val (.int (2 : Int32)), .val (.ref b107), .val (.int (1 : Int32))] [(.int v3), (.int v3)])) _
      refine own_st (fun _ k => XS.icmpYes X212.here hx rfl (pc0 := 230) (pc' := 236) rfl (hb hby at_230) rfl (teq (rfl : v3 = v3)).1 (by decide) (by decide) k) ?_
      show own_Goes p e below (T212.setTop (mkF m 236 #[.val (.int p1), .val (.int p2), .val (.int p3), .val (.int v0), .val (.int v1), .val (.int v2), .val (.int v3), .val (.ref b101), .val (.int (2 : Int32)), .val (.ref b107), .val (.int (1 : Int32))] [])) _
      refine own_st (fun _ k => XS.aload X212.here hx rfl (hb hby at_236) rfl rfl k) ?_
      show own_Goes p e below (T212.setTop (mkF m 238 #[.val (.int p1), .val (.int p2), .val (.int p3), .val (.int v0), .val (.int v1), .val (.int v2), .val (.int v3), .val (.ref b101), .val (.int (2 : Int32)), .val (.ref b107), .val (.int (1 : Int32))] [(.ref b107)])) _
      have f217 := (Nat.le_trans f213 K212.1)
      have f218 := (f214.keep K212)
      obtain ⟨_, T216, h216, L216, X216, e216, ⟨rfl, rfl, q216⟩, st216⟩ := own_callV (argsL := []) (rest := []) (pc := 238) (W := 0) (Ls := #[.val (.int p1), .val (.int p2), .val (.int p3), .val (.int v0), .val (.int v1), .val (.int v2), .val (.int v3), .val (.ref b101), .val (.int (2 : Int32)), .val (.ref b107), .val (.int (1 : Int32))]) (S := [(.ref b107)]) X212 hx hZ hown (hw _ (List.mem_of_getElem? (i := 45) rfl)) (hw _ (List.mem_of_getElem? (i := 46) rfl)) (hw _ (List.mem_of_getElem? (i := 48) rfl)) (hw _ (List.mem_of_getElem? (i := 47) rfl)) (hw _ (List.mem_of_getElem? (i := 4) rfl)) (hw _ (List.mem_of_getElem? (i := 49) rfl)) (notFace_of_selects (args := #[]) (mvT hZ (hw _ (List.mem_of_getElem? (i := 48) rfl)))) (by decide) (rm7 l Z a0 hw [] b107 h212 n0 f217 F212_limit F212_position) (by decide) (by decide) e212 f218 (by rw [hml]; rfl) (lenOf pd___V rfl) rfl (Nat.le_of_eq rfl) (hb hby at_238) (by decide) (by decide)
      refine own_st st216 ?_
      have N216 := Fr.app N212 (Fr.nil n0)
      show own_Goes p e below (T216.setTop (mkF m 241 #[.val (.int p1), .val (.int p2), .val (.int p3), .val (.int v0), .val (.int v1), .val (.int v2), .val (.int v3), .val (.ref b101), .val (.int (2 : Int32)), .val (.ref b107), .val (.int (1 : Int32))] [])) _
      refine own_st (fun _ k => XS.iload X216.here hx rfl (hb hby at_241) rfl k) ?_
      show own_Goes p e below (T216.setTop (mkF m 243 #[.val (.int p1), .val (.int p2), .val (.int p3), .val (.int v0), .val (.int v1), .val (.int v2), .val (.int v3), .val (.ref b101), .val (.int (2 : Int32)), .val (.ref b107), .val (.int (1 : Int32))] [(.int (1 : Int32))])) _
      exact own_retN (t := .boolean) (z' := (1 : Int32)) X216 hx hlk hret (by simp) (by decide) (hb hby at_243) (by decide) (by decide) (e216.trans q216) ⟨rfl, N216⟩
  · show own_Goes p e below (T108.setTop (mkF m 70 #[.val (.int p1), .val (.int p2), .val (.int p3), .val (.int v0), .val (.int v1), .val (.int v2), .val (.int v3), .val (.ref b101), .val (.int (3 : Int32)), .val (.ref b107), .val (.int (1 : Int32))] [])) _
    refine own_st (fun _ k => XS.iload X108.here hx rfl (hb hby at_70) rfl k) ?_
    show own_Goes p e below (T108.setTop (mkF m 72 #[.val (.int p1), .val (.int p2), .val (.int p3), .val (.int v0), .val (.int v1), .val (.int v2), .val (.int v3), .val (.ref b101), .val (.int (3 : Int32)), .val (.ref b107), .val (.int (1 : Int32))] [(.int (3 : Int32))])) _
    refine own_st (fun _ k => XS.iconst X108.here hx rfl (hb hby at_72) k) ?_
    show own_Goes p e below (T108.setTop (mkF m 73 #[.val (.int p1), .val (.int p2), .val (.int p3), .val (.int v0), .val (.int v1), .val (.int v2), .val (.int v3), .val (.ref b101), .val (.int (3 : Int32)), .val (.ref b107), .val (.int (1 : Int32))] [(.int (1 : Int32)), (.int (3 : Int32))])) _
    refine own_st (fun _ k => XS.icmpNo X108.here hx rfl (hb hby at_73) rfl (flt (by decide : ¬ ((3 : Int32) < (1 : Int32)))).1 k) ?_
    show own_Goes p e below (T108.setTop (mkF m 76 #[.val (.int p1), .val (.int p2), .val (.int p3), .val (.int v0), .val (.int v1), .val (.int v2), .val (.int v3), .val (.ref b101), .val (.int (3 : Int32)), .val (.ref b107), .val (.int (1 : Int32))] [])) _
    refine own_st (fun _ k => XS.aload X108.here hx rfl (hb hby at_76) rfl rfl k) ?_
    show own_Goes p e below (T108.setTop (mkF m 78 #[.val (.int p1), .val (.int p2), .val (.int p3), .val (.int v0), .val (.int v1), .val (.int v2), .val (.int v3), .val (.ref b101), .val (.int (3 : Int32)), .val (.ref b107), .val (.int (1 : Int32))] [(.ref b107)])) _
    have f220 := (Nat.le_trans f109 K108.1)
    have f221 := (A107.keep K108)
    have f222 := (f110.keep K108 (ninS ne_b101_b107 nin0))
    obtain ⟨_, T219, h219, L219, X219, e219, ⟨rfl, N219q, K219, F219_bytes, F219_limit, F219_position, F219_pieces, F219_piece⟩, st219⟩ := own_callV (argsL := []) (rest := []) (pc := 78) (W := 0) (Ls := #[.val (.int p1), .val (.int p2), .val (.int p3), .val (.int v0), .val (.int v1), .val (.int v2), .val (.int v3), .val (.ref b101), .val (.int (3 : Int32)), .val (.ref b107), .val (.int (1 : Int32))]) (S := [(.ref b107)]) X108 hx hZ hown (hw _ (List.mem_of_getElem? (i := 29) rfl)) (hw _ (List.mem_of_getElem? (i := 30) rfl)) (hw _ (List.mem_of_getElem? (i := 32) rfl)) (hw _ (List.mem_of_getElem? (i := 31) rfl)) (hw _ (List.mem_of_getElem? (i := 4) rfl)) (hw _ (List.mem_of_getElem? (i := 33) rfl)) (notFace_of_selects (args := #[]) (mvT hZ (hw _ (List.mem_of_getElem? (i := 32) rfl)))) (by decide) (rm3 l Z a0 hw [] b107 b101 r1 k101 [(.int v0), (.int v1), (.int v2), (.int v3)] (0 : Int32) v0 h108 n0 f220 F108_bytes F108_limit F108_position F108_pieces F108_piece f221 f222 g_b107 ne_b101_b107 (by decide) rfl (by decide)) (by decide) (by decide) e108 f221 (by rw [hml]; rfl) (lenOf pd___I rfl) rfl (Nat.le_of_eq rfl) (hb hby at_78) (by decide) (by decide)
    refine own_st st219 ?_
    have N219 := Fr.app N108 N219q
    rw [show (0 : Int32) + (1 : Int32) = (1 : Int32) from by decide] at F219_position
    show own_Goes p e below (T219.setTop (mkF m 81 #[.val (.int p1), .val (.int p2), .val (.int p3), .val (.int v0), .val (.int v1), .val (.int v2), .val (.int v3), .val (.ref b101), .val (.int (3 : Int32)), .val (.ref b107), .val (.int (1 : Int32))] [(.int v0)])) _
    refine own_st (fun _ k => XS.iloadN X219.here hx rfl (hb hby at_81) rfl k) ?_
    show own_Goes p e below (T219.setTop (mkF m 82 #[.val (.int p1), .val (.int p2), .val (.int p3), .val (.int v0), .val (.int v1), .val (.int v2), .val (.int v3), .val (.ref b101), .val (.int (3 : Int32)), .val (.ref b107), .val (.int (1 : Int32))] [(.int v0), (.int v0)])) _
    refine own_st (fun _ k => XS.icmpYes X219.here hx rfl (pc0 := 82) (pc' := 88) rfl (hb hby at_82) rfl (teq (rfl : v0 = v0)).1 (by decide) (by decide) k) ?_
    show own_Goes p e below (T219.setTop (mkF m 88 #[.val (.int p1), .val (.int p2), .val (.int p3), .val (.int v0), .val (.int v1), .val (.int v2), .val (.int v3), .val (.ref b101), .val (.int (3 : Int32)), .val (.ref b107), .val (.int (1 : Int32))] [])) _
    refine own_st (fun _ k => XS.iload X219.here hx rfl (hb hby at_88) rfl k) ?_
    show own_Goes p e below (T219.setTop (mkF m 90 #[.val (.int p1), .val (.int p2), .val (.int p3), .val (.int v0), .val (.int v1), .val (.int v2), .val (.int v3), .val (.ref b101), .val (.int (3 : Int32)), .val (.ref b107), .val (.int (1 : Int32))] [(.int (3 : Int32))])) _
    refine own_st (fun _ k => XS.iconst X219.here hx rfl (hb hby at_90) k) ?_
    show own_Goes p e below (T219.setTop (mkF m 91 #[.val (.int p1), .val (.int p2), .val (.int p3), .val (.int v0), .val (.int v1), .val (.int v2), .val (.int v3), .val (.ref b101), .val (.int (3 : Int32)), .val (.ref b107), .val (.int (1 : Int32))] [(.int (2 : Int32)), (.int (3 : Int32))])) _
    refine own_st (fun _ k => XS.icmpNo X219.here hx rfl (hb hby at_91) rfl (flt (by decide : ¬ ((3 : Int32) < (2 : Int32)))).1 k) ?_
    show own_Goes p e below (T219.setTop (mkF m 94 #[.val (.int p1), .val (.int p2), .val (.int p3), .val (.int v0), .val (.int v1), .val (.int v2), .val (.int v3), .val (.ref b101), .val (.int (3 : Int32)), .val (.ref b107), .val (.int (1 : Int32))] [])) _
    refine own_st (fun _ k => XS.aload X219.here hx rfl (hb hby at_94) rfl rfl k) ?_
    show own_Goes p e below (T219.setTop (mkF m 96 #[.val (.int p1), .val (.int p2), .val (.int p3), .val (.int v0), .val (.int v1), .val (.int v2), .val (.int v3), .val (.ref b101), .val (.int (3 : Int32)), .val (.ref b107), .val (.int (1 : Int32))] [(.ref b107)])) _
    have f224 := (Nat.le_trans f220 K219.1)
    have f225 := (f221.keep K219)
    have f226 := (f222.keep K219 (ninS ne_b101_b107 nin0))
    obtain ⟨_, T223, h223, L223, X223, e223, ⟨rfl, N223q, K223, F223_bytes, F223_limit, F223_position, F223_pieces, F223_piece⟩, st223⟩ := own_callV (argsL := []) (rest := []) (pc := 96) (W := 0) (Ls := #[.val (.int p1), .val (.int p2), .val (.int p3), .val (.int v0), .val (.int v1), .val (.int v2), .val (.int v3), .val (.ref b101), .val (.int (3 : Int32)), .val (.ref b107), .val (.int (1 : Int32))]) (S := [(.ref b107)]) X219 hx hZ hown (hw _ (List.mem_of_getElem? (i := 29) rfl)) (hw _ (List.mem_of_getElem? (i := 30) rfl)) (hw _ (List.mem_of_getElem? (i := 32) rfl)) (hw _ (List.mem_of_getElem? (i := 31) rfl)) (hw _ (List.mem_of_getElem? (i := 4) rfl)) (hw _ (List.mem_of_getElem? (i := 33) rfl)) (notFace_of_selects (args := #[]) (mvT hZ (hw _ (List.mem_of_getElem? (i := 32) rfl)))) (by decide) (rm3 l Z a0 hw [] b107 b101 r1 k101 [(.int v0), (.int v1), (.int v2), (.int v3)] (1 : Int32) v1 h219 n0 f224 F219_bytes F219_limit F219_position F219_pieces F219_piece f225 f226 g_b107 ne_b101_b107 (by decide) rfl (by decide)) (by decide) (by decide) e219 f225 (by rw [hml]; rfl) (lenOf pd___I rfl) rfl (Nat.le_of_eq rfl) (hb hby at_96) (by decide) (by decide)
    refine own_st st223 ?_
    have N223 := Fr.app N219 N223q
    rw [show (1 : Int32) + (1 : Int32) = (2 : Int32) from by decide] at F223_position
    show own_Goes p e below (T223.setTop (mkF m 99 #[.val (.int p1), .val (.int p2), .val (.int p3), .val (.int v0), .val (.int v1), .val (.int v2), .val (.int v3), .val (.ref b101), .val (.int (3 : Int32)), .val (.ref b107), .val (.int (1 : Int32))] [(.int v1)])) _
    refine own_st (fun _ k => XS.iload X223.here hx rfl (hb hby at_99) rfl k) ?_
    show own_Goes p e below (T223.setTop (mkF m 101 #[.val (.int p1), .val (.int p2), .val (.int p3), .val (.int v0), .val (.int v1), .val (.int v2), .val (.int v3), .val (.ref b101), .val (.int (3 : Int32)), .val (.ref b107), .val (.int (1 : Int32))] [(.int v1), (.int v1)])) _
    refine own_st (fun _ k => XS.icmpYes X223.here hx rfl (pc0 := 101) (pc' := 107) rfl (hb hby at_101) rfl (teq (rfl : v1 = v1)).1 (by decide) (by decide) k) ?_
    show own_Goes p e below (T223.setTop (mkF m 107 #[.val (.int p1), .val (.int p2), .val (.int p3), .val (.int v0), .val (.int v1), .val (.int v2), .val (.int v3), .val (.ref b101), .val (.int (3 : Int32)), .val (.ref b107), .val (.int (1 : Int32))] [])) _
    refine own_st (fun _ k => XS.iload X223.here hx rfl (hb hby at_107) rfl k) ?_
    show own_Goes p e below (T223.setTop (mkF m 109 #[.val (.int p1), .val (.int p2), .val (.int p3), .val (.int v0), .val (.int v1), .val (.int v2), .val (.int v3), .val (.ref b101), .val (.int (3 : Int32)), .val (.ref b107), .val (.int (1 : Int32))] [(.int (3 : Int32))])) _
    refine own_st (fun _ k => XS.iconst X223.here hx rfl (hb hby at_109) k) ?_
    show own_Goes p e below (T223.setTop (mkF m 110 #[.val (.int p1), .val (.int p2), .val (.int p3), .val (.int v0), .val (.int v1), .val (.int v2), .val (.int v3), .val (.ref b101), .val (.int (3 : Int32)), .val (.ref b107), .val (.int (1 : Int32))] [(.int (3 : Int32)), (.int (3 : Int32))])) _
    refine own_st (fun _ k => XS.icmpNo X223.here hx rfl (hb hby at_110) rfl (flt (by decide : ¬ ((3 : Int32) < (3 : Int32)))).1 k) ?_
    show own_Goes p e below (T223.setTop (mkF m 113 #[.val (.int p1), .val (.int p2), .val (.int p3), .val (.int v0), .val (.int v1), .val (.int v2), .val (.int v3), .val (.ref b101), .val (.int (3 : Int32)), .val (.ref b107), .val (.int (1 : Int32))] [])) _
    refine own_st (fun _ k => XS.aload X223.here hx rfl (hb hby at_113) rfl rfl k) ?_
    show own_Goes p e below (T223.setTop (mkF m 115 #[.val (.int p1), .val (.int p2), .val (.int p3), .val (.int v0), .val (.int v1), .val (.int v2), .val (.int v3), .val (.ref b101), .val (.int (3 : Int32)), .val (.ref b107), .val (.int (1 : Int32))] [(.ref b107)])) _
    have f228 := (Nat.le_trans f224 K223.1)
    have f229 := (f225.keep K223)
    have f230 := (f226.keep K223 (ninS ne_b101_b107 nin0))
    obtain ⟨_, T227, h227, L227, X227, e227, ⟨rfl, N227q, K227, F227_bytes, F227_limit, F227_position, F227_pieces, F227_piece⟩, st227⟩ := own_callV (argsL := []) (rest := []) (pc := 115) (W := 0) (Ls := #[.val (.int p1), .val (.int p2), .val (.int p3), .val (.int v0), .val (.int v1), .val (.int v2), .val (.int v3), .val (.ref b101), .val (.int (3 : Int32)), .val (.ref b107), .val (.int (1 : Int32))]) (S := [(.ref b107)]) X223 hx hZ hown (hw _ (List.mem_of_getElem? (i := 29) rfl)) (hw _ (List.mem_of_getElem? (i := 30) rfl)) (hw _ (List.mem_of_getElem? (i := 32) rfl)) (hw _ (List.mem_of_getElem? (i := 31) rfl)) (hw _ (List.mem_of_getElem? (i := 4) rfl)) (hw _ (List.mem_of_getElem? (i := 33) rfl)) (notFace_of_selects (args := #[]) (mvT hZ (hw _ (List.mem_of_getElem? (i := 32) rfl)))) (by decide) (rm3 l Z a0 hw [] b107 b101 r1 k101 [(.int v0), (.int v1), (.int v2), (.int v3)] (2 : Int32) v2 h223 n0 f228 F223_bytes F223_limit F223_position F223_pieces F223_piece f229 f230 g_b107 ne_b101_b107 (by decide) rfl (by decide)) (by decide) (by decide) e223 f229 (by rw [hml]; rfl) (lenOf pd___I rfl) rfl (Nat.le_of_eq rfl) (hb hby at_115) (by decide) (by decide)
    refine own_st st227 ?_
    have N227 := Fr.app N223 N227q
    rw [show (2 : Int32) + (1 : Int32) = (3 : Int32) from by decide] at F227_position
    show own_Goes p e below (T227.setTop (mkF m 118 #[.val (.int p1), .val (.int p2), .val (.int p3), .val (.int v0), .val (.int v1), .val (.int v2), .val (.int v3), .val (.ref b101), .val (.int (3 : Int32)), .val (.ref b107), .val (.int (1 : Int32))] [(.int v2)])) _
    refine own_st (fun _ k => XS.iload X227.here hx rfl (hb hby at_118) rfl k) ?_
    show own_Goes p e below (T227.setTop (mkF m 120 #[.val (.int p1), .val (.int p2), .val (.int p3), .val (.int v0), .val (.int v1), .val (.int v2), .val (.int v3), .val (.ref b101), .val (.int (3 : Int32)), .val (.ref b107), .val (.int (1 : Int32))] [(.int v2), (.int v2)])) _
    refine own_st (fun _ k => XS.icmpYes X227.here hx rfl (pc0 := 120) (pc' := 126) rfl (hb hby at_120) rfl (teq (rfl : v2 = v2)).1 (by decide) (by decide) k) ?_
    show own_Goes p e below (T227.setTop (mkF m 126 #[.val (.int p1), .val (.int p2), .val (.int p3), .val (.int v0), .val (.int v1), .val (.int v2), .val (.int v3), .val (.ref b101), .val (.int (3 : Int32)), .val (.ref b107), .val (.int (1 : Int32))] [])) _
    refine own_st (fun _ k => XS.iload X227.here hx rfl (hb hby at_126) rfl k) ?_
    show own_Goes p e below (T227.setTop (mkF m 128 #[.val (.int p1), .val (.int p2), .val (.int p3), .val (.int v0), .val (.int v1), .val (.int v2), .val (.int v3), .val (.ref b101), .val (.int (3 : Int32)), .val (.ref b107), .val (.int (1 : Int32))] [(.int (3 : Int32))])) _
    refine own_st (fun _ k => XS.iconst X227.here hx rfl (hb hby at_128) k) ?_
    show own_Goes p e below (T227.setTop (mkF m 129 #[.val (.int p1), .val (.int p2), .val (.int p3), .val (.int v0), .val (.int v1), .val (.int v2), .val (.int v3), .val (.ref b101), .val (.int (3 : Int32)), .val (.ref b107), .val (.int (1 : Int32))] [(.int (4 : Int32)), (.int (3 : Int32))])) _
    refine own_st (fun _ k => XS.icmpYes X227.here hx rfl (pc0 := 129) (pc' := 145) rfl (hb hby at_129) rfl (tlt (by decide : (3 : Int32) < (4 : Int32))).1 (by decide) (by decide) k) ?_
    show own_Goes p e below (T227.setTop (mkF m 145 #[.val (.int p1), .val (.int p2), .val (.int p3), .val (.int v0), .val (.int v1), .val (.int v2), .val (.int v3), .val (.ref b101), .val (.int (3 : Int32)), .val (.ref b107), .val (.int (1 : Int32))] [])) _
    refine own_st (fun _ k => XS.aload X227.here hx rfl (hb hby at_145) rfl rfl k) ?_
    show own_Goes p e below (T227.setTop (mkF m 147 #[.val (.int p1), .val (.int p2), .val (.int p3), .val (.int v0), .val (.int v1), .val (.int v2), .val (.int v3), .val (.ref b101), .val (.int (3 : Int32)), .val (.ref b107), .val (.int (1 : Int32))] [(.ref b107)])) _
    have f232 := (Nat.le_trans f228 K227.1)
    have f233 := (((Vr.keep K219 (ninS (Ne.symm ner) nin0)).keep K223 (ninS (Ne.symm ner) nin0)).keep K227 (ninS (Ne.symm ner) nin0))
    have f234 := (f229.keep K227)
    obtain ⟨_, T231, h231, L231, X231, e231, ⟨rfl, rfl, q231⟩, st231⟩ := own_callV (argsL := []) (rest := []) (pc := 147) (W := 0) (Ls := #[.val (.int p1), .val (.int p2), .val (.int p3), .val (.int v0), .val (.int v1), .val (.int v2), .val (.int v3), .val (.ref b101), .val (.int (3 : Int32)), .val (.ref b107), .val (.int (1 : Int32))]) (S := [(.ref b107)]) X227 hx hZ hown (hw _ (List.mem_of_getElem? (i := 40) rfl)) (hw _ (List.mem_of_getElem? (i := 41) rfl)) (hw _ (List.mem_of_getElem? (i := 43) rfl)) (hw _ (List.mem_of_getElem? (i := 42) rfl)) (hw _ (List.mem_of_getElem? (i := 4) rfl)) (hw _ (List.mem_of_getElem? (i := 44) rfl)) (notFace_of_selects (args := #[]) (mvT hZ (hw _ (List.mem_of_getElem? (i := 43) rfl)))) (by decide) (rm6 l Z a0 hw [] b107 r1 b101 kr (3 : Int32) h227 n0 f232 F227_limit F227_position F227_piece F227_pieces f233) (by decide) (by decide) e227 f234 (by rw [hml]; rfl) (lenOf pd___V rfl) rfl (Nat.le_of_eq rfl) (hb hby at_147) (by decide) (by decide)
    refine own_st st231 ?_
    have N231 := Fr.app N227 (Fr.nil n0)
    show own_Goes p e below (T231.setTop (mkF m 150 #[.val (.int p1), .val (.int p2), .val (.int p3), .val (.int v0), .val (.int v1), .val (.int v2), .val (.int v3), .val (.ref b101), .val (.int (3 : Int32)), .val (.ref b107), .val (.int (1 : Int32))] [])) _
    refine own_st (fun _ k => XS.iloadN X231.here hx rfl (hb hby at_150) rfl k) ?_
    show own_Goes p e below (T231.setTop (mkF m 151 #[.val (.int p1), .val (.int p2), .val (.int p3), .val (.int v0), .val (.int v1), .val (.int v2), .val (.int v3), .val (.ref b101), .val (.int (3 : Int32)), .val (.ref b107), .val (.int (1 : Int32))] [(.int p3)])) _
    refine own_st (fun _ k => XS.iconst X231.here hx rfl (hb hby at_151) k) ?_
    show own_Goes p e below (T231.setTop (mkF m 152 #[.val (.int p1), .val (.int p2), .val (.int p3), .val (.int v0), .val (.int v1), .val (.int v2), .val (.int v3), .val (.ref b101), .val (.int (3 : Int32)), .val (.ref b107), .val (.int (1 : Int32))] [(.int (1 : Int32)), (.int p3)])) _
    refine own_st (fun _ k => XS.iand X231.here hx rfl (hb hby at_152) rfl k) ?_
    show own_Goes p e below (T231.setTop (mkF m 153 #[.val (.int p1), .val (.int p2), .val (.int p3), .val (.int v0), .val (.int v1), .val (.int v2), .val (.int v3), .val (.ref b101), .val (.int (3 : Int32)), .val (.ref b107), .val (.int (1 : Int32))] [(.int (p3 &&& (1 : Int32)))])) _
    by_cases hc153_235 : (p3 &&& (1 : Int32)) = (0 : Int32)
    · refine own_st (fun _ k => XS.ifYes X231.here hx rfl (pc0 := 153) (pc' := 161) rfl (hb hby at_153) rfl ((if0 _ _).trans (teq hc153_235).1) (by decide) (by decide) k) ?_
      show own_Goes p e below (T231.setTop (mkF m 161 #[.val (.int p1), .val (.int p2), .val (.int p3), .val (.int v0), .val (.int v1), .val (.int v2), .val (.int v3), .val (.ref b101), .val (.int (3 : Int32)), .val (.ref b107), .val (.int (1 : Int32))] [])) _
      refine own_st (fun _ k => XS.iload X231.here hx rfl (hb hby at_161) rfl k) ?_
      show own_Goes p e below (T231.setTop (mkF m 163 #[.val (.int p1), .val (.int p2), .val (.int p3), .val (.int v0), .val (.int v1), .val (.int v2), .val (.int v3), .val (.ref b101), .val (.int (3 : Int32)), .val (.ref b107), .val (.int (1 : Int32))] [(.int (3 : Int32))])) _
      refine own_st (fun _ k => XS.iconst X231.here hx rfl (hb hby at_163) k) ?_
      show own_Goes p e below (T231.setTop (mkF m 164 #[.val (.int p1), .val (.int p2), .val (.int p3), .val (.int v0), .val (.int v1), .val (.int v2), .val (.int v3), .val (.ref b101), .val (.int (3 : Int32)), .val (.ref b107), .val (.int (1 : Int32))] [(.int (1 : Int32)), (.int (3 : Int32))])) _
      refine own_st (fun _ k => XS.icmpYes X231.here hx rfl (pc0 := 164) (pc' := 179) rfl (hb hby at_164) rfl (flt (by decide : ¬ ((3 : Int32) < (1 : Int32)))).2.1 (by decide) (by decide) k) ?_
      show own_Goes p e below (T231.setTop (mkF m 179 #[.val (.int p1), .val (.int p2), .val (.int p3), .val (.int v0), .val (.int v1), .val (.int v2), .val (.int v3), .val (.ref b101), .val (.int (3 : Int32)), .val (.ref b107), .val (.int (1 : Int32))] [])) _
      refine own_st (fun _ k => XS.iload X231.here hx rfl (hb hby at_179) rfl k) ?_
      show own_Goes p e below (T231.setTop (mkF m 181 #[.val (.int p1), .val (.int p2), .val (.int p3), .val (.int v0), .val (.int v1), .val (.int v2), .val (.int v3), .val (.ref b101), .val (.int (3 : Int32)), .val (.ref b107), .val (.int (1 : Int32))] [(.int (3 : Int32))])) _
      refine own_st (fun _ k => XS.iconst X231.here hx rfl (hb hby at_181) k) ?_
      show own_Goes p e below (T231.setTop (mkF m 182 #[.val (.int p1), .val (.int p2), .val (.int p3), .val (.int v0), .val (.int v1), .val (.int v2), .val (.int v3), .val (.ref b101), .val (.int (3 : Int32)), .val (.ref b107), .val (.int (1 : Int32))] [(.int (2 : Int32)), (.int (3 : Int32))])) _
      refine own_st (fun _ k => XS.icmpYes X231.here hx rfl (pc0 := 182) (pc' := 198) rfl (hb hby at_182) rfl (flt (by decide : ¬ ((3 : Int32) < (2 : Int32)))).2.1 (by decide) (by decide) k) ?_
      show own_Goes p e below (T231.setTop (mkF m 198 #[.val (.int p1), .val (.int p2), .val (.int p3), .val (.int v0), .val (.int v1), .val (.int v2), .val (.int v3), .val (.ref b101), .val (.int (3 : Int32)), .val (.ref b107), .val (.int (1 : Int32))] [])) _
      refine own_st (fun _ k => XS.iload X231.here hx rfl (hb hby at_198) rfl k) ?_
      show own_Goes p e below (T231.setTop (mkF m 200 #[.val (.int p1), .val (.int p2), .val (.int p3), .val (.int v0), .val (.int v1), .val (.int v2), .val (.int v3), .val (.ref b101), .val (.int (3 : Int32)), .val (.ref b107), .val (.int (1 : Int32))] [(.int (3 : Int32))])) _
      refine own_st (fun _ k => XS.iconst X231.here hx rfl (hb hby at_200) k) ?_
      show own_Goes p e below (T231.setTop (mkF m 201 #[.val (.int p1), .val (.int p2), .val (.int p3), .val (.int v0), .val (.int v1), .val (.int v2), .val (.int v3), .val (.ref b101), .val (.int (3 : Int32)), .val (.ref b107), .val (.int (1 : Int32))] [(.int (3 : Int32)), (.int (3 : Int32))])) _
      refine own_st (fun _ k => XS.icmpYes X231.here hx rfl (pc0 := 201) (pc' := 217) rfl (hb hby at_201) rfl (flt (by decide : ¬ ((3 : Int32) < (3 : Int32)))).2.1 (by decide) (by decide) k) ?_
      show own_Goes p e below (T231.setTop (mkF m 217 #[.val (.int p1), .val (.int p2), .val (.int p3), .val (.int v0), .val (.int v1), .val (.int v2), .val (.int v3), .val (.ref b101), .val (.int (3 : Int32)), .val (.ref b107), .val (.int (1 : Int32))] [])) _
      refine own_st (fun _ k => XS.iload X231.here hx rfl (hb hby at_217) rfl k) ?_
      show own_Goes p e below (T231.setTop (mkF m 219 #[.val (.int p1), .val (.int p2), .val (.int p3), .val (.int v0), .val (.int v1), .val (.int v2), .val (.int v3), .val (.ref b101), .val (.int (3 : Int32)), .val (.ref b107), .val (.int (1 : Int32))] [(.int (3 : Int32))])) _
      refine own_st (fun _ k => XS.iconst X231.here hx rfl (hb hby at_219) k) ?_
      show own_Goes p e below (T231.setTop (mkF m 220 #[.val (.int p1), .val (.int p2), .val (.int p3), .val (.int v0), .val (.int v1), .val (.int v2), .val (.int v3), .val (.ref b101), .val (.int (3 : Int32)), .val (.ref b107), .val (.int (1 : Int32))] [(.int (4 : Int32)), (.int (3 : Int32))])) _
      refine own_st (fun _ k => XS.icmpNo X231.here hx rfl (hb hby at_220) rfl (tlt (by decide : (3 : Int32) < (4 : Int32))).2.1 k) ?_
      show own_Goes p e below (T231.setTop (mkF m 223 #[.val (.int p1), .val (.int p2), .val (.int p3), .val (.int v0), .val (.int v1), .val (.int v2), .val (.int v3), .val (.ref b101), .val (.int (3 : Int32)), .val (.ref b107), .val (.int (1 : Int32))] [])) _
      refine own_st (fun _ k => XS.aload X231.here hx rfl (hb hby at_223) rfl rfl k) ?_
      show own_Goes p e below (T231.setTop (mkF m 225 #[.val (.int p1), .val (.int p2), .val (.int p3), .val (.int v0), .val (.int v1), .val (.int v2), .val (.int v3), .val (.ref b101), .val (.int (3 : Int32)), .val (.ref b107), .val (.int (1 : Int32))] [(.ref b107)])) _
      have f237 := (f230.keep K227 (ninS ne_b101_b107 nin0))
      obtain ⟨_, T236, h236, L236, X236, e236, ⟨rfl, N236q, K236, F236_bytes, F236_limit, F236_position, F236_pieces, F236_piece⟩, st236⟩ := own_callV (argsL := []) (rest := []) (pc := 225) (W := 0) (Ls := #[.val (.int p1), .val (.int p2), .val (.int p3), .val (.int v0), .val (.int v1), .val (.int v2), .val (.int v3), .val (.ref b101), .val (.int (3 : Int32)), .val (.ref b107), .val (.int (1 : Int32))]) (S := [(.ref b107)]) X231 hx hZ hown (hw _ (List.mem_of_getElem? (i := 29) rfl)) (hw _ (List.mem_of_getElem? (i := 30) rfl)) (hw _ (List.mem_of_getElem? (i := 32) rfl)) (hw _ (List.mem_of_getElem? (i := 31) rfl)) (hw _ (List.mem_of_getElem? (i := 4) rfl)) (hw _ (List.mem_of_getElem? (i := 33) rfl)) (notFace_of_selects (args := #[]) (mvT hZ (hw _ (List.mem_of_getElem? (i := 32) rfl)))) (by decide) (rm3 l Z a0 hw [] b107 b101 r1 k101 [(.int v0), (.int v1), (.int v2), (.int v3)] (3 : Int32) v3 h227 n0 f232 F227_bytes F227_limit F227_position F227_pieces F227_piece f234 f237 g_b107 ne_b101_b107 (by decide) rfl (by decide)) (by decide) (by decide) (e231.trans q231) f234 (by rw [hml]; rfl) (lenOf pd___I rfl) rfl (Nat.le_of_eq rfl) (hb hby at_225) (by decide) (by decide)
      refine own_st st236 ?_
      have N236 := Fr.app N231 N236q
      rw [show (3 : Int32) + (1 : Int32) = (4 : Int32) from by decide] at F236_position
      show own_Goes p e below (T236.setTop (mkF m 228 #[.val (.int p1), .val (.int p2), .val (.int p3), .val (.int v0), .val (.int v1), .val (.int v2), .val (.int v3), .val (.ref b101), .val (.int (3 : Int32)), .val (.ref b107), .val (.int (1 : Int32))] [(.int v3)])) _
      refine own_st (fun _ k => XS.iload X236.here hx rfl (hb hby at_228) rfl k) ?_
      show own_Goes p e below (T236.setTop (mkF m 230 #[.val (.int p1), .val (.int p2), .val (.int p3), .val (.int v0), .val (.int v1), .val (.int v2), .val (.int v3), .val (.ref b101), .val (.int (3 : Int32)), .val (.ref b107), .val (.int (1 : Int32))] [(.int v3), (.int v3)])) _
      refine own_st (fun _ k => XS.icmpYes X236.here hx rfl (pc0 := 230) (pc' := 236) rfl (hb hby at_230) rfl (teq (rfl : v3 = v3)).1 (by decide) (by decide) k) ?_
      show own_Goes p e below (T236.setTop (mkF m 236 #[.val (.int p1), .val (.int p2), .val (.int p3), .val (.int v0), .val (.int v1), .val (.int v2), .val (.int v3), .val (.ref b101), .val (.int (3 : Int32)), .val (.ref b107), .val (.int (1 : Int32))] [])) _
      refine own_st (fun _ k => XS.aload X236.here hx rfl (hb hby at_236) rfl rfl k) ?_
      show own_Goes p e below (T236.setTop (mkF m 238 #[.val (.int p1), .val (.int p2), .val (.int p3), .val (.int v0), .val (.int v1), .val (.int v2), .val (.int v3), .val (.ref b101), .val (.int (3 : Int32)), .val (.ref b107), .val (.int (1 : Int32))] [(.ref b107)])) _
      have f239 := (Nat.le_trans f232 K236.1)
      have f240 := (f234.keep K236)
      obtain ⟨_, T238, h238, L238, X238, e238, ⟨rfl, rfl, q238⟩, st238⟩ := own_callV (argsL := []) (rest := []) (pc := 238) (W := 0) (Ls := #[.val (.int p1), .val (.int p2), .val (.int p3), .val (.int v0), .val (.int v1), .val (.int v2), .val (.int v3), .val (.ref b101), .val (.int (3 : Int32)), .val (.ref b107), .val (.int (1 : Int32))]) (S := [(.ref b107)]) X236 hx hZ hown (hw _ (List.mem_of_getElem? (i := 45) rfl)) (hw _ (List.mem_of_getElem? (i := 46) rfl)) (hw _ (List.mem_of_getElem? (i := 48) rfl)) (hw _ (List.mem_of_getElem? (i := 47) rfl)) (hw _ (List.mem_of_getElem? (i := 4) rfl)) (hw _ (List.mem_of_getElem? (i := 49) rfl)) (notFace_of_selects (args := #[]) (mvT hZ (hw _ (List.mem_of_getElem? (i := 48) rfl)))) (by decide) (rm7 l Z a0 hw [] b107 h236 n0 f239 F236_limit F236_position) (by decide) (by decide) e236 f240 (by rw [hml]; rfl) (lenOf pd___V rfl) rfl (Nat.le_of_eq rfl) (hb hby at_238) (by decide) (by decide)
      refine own_st st238 ?_
      have N238 := Fr.app N236 (Fr.nil n0)
      show own_Goes p e below (T238.setTop (mkF m 241 #[.val (.int p1), .val (.int p2), .val (.int p3), .val (.int v0), .val (.int v1), .val (.int v2), .val (.int v3), .val (.ref b101), .val (.int (3 : Int32)), .val (.ref b107), .val (.int (1 : Int32))] [])) _
      refine own_st (fun _ k => XS.iload X238.here hx rfl (hb hby at_241) rfl k) ?_
      show own_Goes p e below (T238.setTop (mkF m 243 #[.val (.int p1), .val (.int p2), .val (.int p3), .val (.int v0), .val (.int v1), .val (.int v2), .val (.int v3), .val (.ref b101), .val (.int (3 : Int32)), .val (.ref b107), .val (.int (1 : Int32))] [(.int (1 : Int32))])) _
      exact own_retN (t := .boolean) (z' := (1 : Int32)) X238 hx hlk hret (by simp) (by decide) (hb hby at_243) (by decide) (by decide) (e238.trans q238) ⟨rfl, N238⟩
    · refine own_st (fun _ k => XS.ifNo X231.here hx rfl (hb hby at_153) rfl ((if0 _ _).trans (feq hc153_235).1) k) ?_
      show own_Goes p e below (T231.setTop (mkF m 156 #[.val (.int p1), .val (.int p2), .val (.int p3), .val (.int v0), .val (.int v1), .val (.int v2), .val (.int v3), .val (.ref b101), .val (.int (3 : Int32)), .val (.ref b107), .val (.int (1 : Int32))] [])) _
      refine own_st (fun _ k => XS.aload X231.here hx rfl (hb hby at_156) rfl rfl k) ?_
      show own_Goes p e below (T231.setTop (mkF m 158 #[.val (.int p1), .val (.int p2), .val (.int p3), .val (.int v0), .val (.int v1), .val (.int v2), .val (.int v3), .val (.ref b101), .val (.int (3 : Int32)), .val (.ref b107), .val (.int (1 : Int32))] [(.ref b107)])) _
      obtain ⟨_, T241, h241, L241, X241, e241, ⟨rfl, rfl, q241⟩, st241⟩ := own_callV (argsL := []) (rest := []) (pc := 158) (W := 0) (Ls := #[.val (.int p1), .val (.int p2), .val (.int p3), .val (.int v0), .val (.int v1), .val (.int v2), .val (.int v3), .val (.ref b101), .val (.int (3 : Int32)), .val (.ref b107), .val (.int (1 : Int32))]) (S := [(.ref b107)]) X231 hx hZ hown (hw _ (List.mem_of_getElem? (i := 40) rfl)) (hw _ (List.mem_of_getElem? (i := 41) rfl)) (hw _ (List.mem_of_getElem? (i := 43) rfl)) (hw _ (List.mem_of_getElem? (i := 42) rfl)) (hw _ (List.mem_of_getElem? (i := 4) rfl)) (hw _ (List.mem_of_getElem? (i := 44) rfl)) (notFace_of_selects (args := #[]) (mvT hZ (hw _ (List.mem_of_getElem? (i := 43) rfl)))) (by decide) (rm6 l Z a0 hw [] b107 r1 b101 kr (3 : Int32) h227 n0 f232 F227_limit F227_position F227_piece F227_pieces f233) (by decide) (by decide) (e231.trans q231) f234 (by rw [hml]; rfl) (lenOf pd___V rfl) rfl (Nat.le_of_eq rfl) (hb hby at_158) (by decide) (by decide)
      refine own_st st241 ?_
      have N241 := Fr.app N231 (Fr.nil n0)
      show own_Goes p e below (T241.setTop (mkF m 161 #[.val (.int p1), .val (.int p2), .val (.int p3), .val (.int v0), .val (.int v1), .val (.int v2), .val (.int v3), .val (.ref b101), .val (.int (3 : Int32)), .val (.ref b107), .val (.int (1 : Int32))] [])) _
      refine own_st (fun _ k => XS.iload X241.here hx rfl (hb hby at_161) rfl k) ?_
      show own_Goes p e below (T241.setTop (mkF m 163 #[.val (.int p1), .val (.int p2), .val (.int p3), .val (.int v0), .val (.int v1), .val (.int v2), .val (.int v3), .val (.ref b101), .val (.int (3 : Int32)), .val (.ref b107), .val (.int (1 : Int32))] [(.int (3 : Int32))])) _
      refine own_st (fun _ k => XS.iconst X241.here hx rfl (hb hby at_163) k) ?_
      show own_Goes p e below (T241.setTop (mkF m 164 #[.val (.int p1), .val (.int p2), .val (.int p3), .val (.int v0), .val (.int v1), .val (.int v2), .val (.int v3), .val (.ref b101), .val (.int (3 : Int32)), .val (.ref b107), .val (.int (1 : Int32))] [(.int (1 : Int32)), (.int (3 : Int32))])) _
      refine own_st (fun _ k => XS.icmpYes X241.here hx rfl (pc0 := 164) (pc' := 179) rfl (hb hby at_164) rfl (flt (by decide : ¬ ((3 : Int32) < (1 : Int32)))).2.1 (by decide) (by decide) k) ?_
      show own_Goes p e below (T241.setTop (mkF m 179 #[.val (.int p1), .val (.int p2), .val (.int p3), .val (.int v0), .val (.int v1), .val (.int v2), .val (.int v3), .val (.ref b101), .val (.int (3 : Int32)), .val (.ref b107), .val (.int (1 : Int32))] [])) _
      refine own_st (fun _ k => XS.iload X241.here hx rfl (hb hby at_179) rfl k) ?_
      show own_Goes p e below (T241.setTop (mkF m 181 #[.val (.int p1), .val (.int p2), .val (.int p3), .val (.int v0), .val (.int v1), .val (.int v2), .val (.int v3), .val (.ref b101), .val (.int (3 : Int32)), .val (.ref b107), .val (.int (1 : Int32))] [(.int (3 : Int32))])) _
      refine own_st (fun _ k => XS.iconst X241.here hx rfl (hb hby at_181) k) ?_
      show own_Goes p e below (T241.setTop (mkF m 182 #[.val (.int p1), .val (.int p2), .val (.int p3), .val (.int v0), .val (.int v1), .val (.int v2), .val (.int v3), .val (.ref b101), .val (.int (3 : Int32)), .val (.ref b107), .val (.int (1 : Int32))] [(.int (2 : Int32)), (.int (3 : Int32))])) _
      refine own_st (fun _ k => XS.icmpYes X241.here hx rfl (pc0 := 182) (pc' := 198) rfl (hb hby at_182) rfl (flt (by decide : ¬ ((3 : Int32) < (2 : Int32)))).2.1 (by decide) (by decide) k) ?_
      show own_Goes p e below (T241.setTop (mkF m 198 #[.val (.int p1), .val (.int p2), .val (.int p3), .val (.int v0), .val (.int v1), .val (.int v2), .val (.int v3), .val (.ref b101), .val (.int (3 : Int32)), .val (.ref b107), .val (.int (1 : Int32))] [])) _
      refine own_st (fun _ k => XS.iload X241.here hx rfl (hb hby at_198) rfl k) ?_
      show own_Goes p e below (T241.setTop (mkF m 200 #[.val (.int p1), .val (.int p2), .val (.int p3), .val (.int v0), .val (.int v1), .val (.int v2), .val (.int v3), .val (.ref b101), .val (.int (3 : Int32)), .val (.ref b107), .val (.int (1 : Int32))] [(.int (3 : Int32))])) _
      refine own_st (fun _ k => XS.iconst X241.here hx rfl (hb hby at_200) k) ?_
      show own_Goes p e below (T241.setTop (mkF m 201 #[.val (.int p1), .val (.int p2), .val (.int p3), .val (.int v0), .val (.int v1), .val (.int v2), .val (.int v3), .val (.ref b101), .val (.int (3 : Int32)), .val (.ref b107), .val (.int (1 : Int32))] [(.int (3 : Int32)), (.int (3 : Int32))])) _
      refine own_st (fun _ k => XS.icmpYes X241.here hx rfl (pc0 := 201) (pc' := 217) rfl (hb hby at_201) rfl (flt (by decide : ¬ ((3 : Int32) < (3 : Int32)))).2.1 (by decide) (by decide) k) ?_
      show own_Goes p e below (T241.setTop (mkF m 217 #[.val (.int p1), .val (.int p2), .val (.int p3), .val (.int v0), .val (.int v1), .val (.int v2), .val (.int v3), .val (.ref b101), .val (.int (3 : Int32)), .val (.ref b107), .val (.int (1 : Int32))] [])) _
      refine own_st (fun _ k => XS.iload X241.here hx rfl (hb hby at_217) rfl k) ?_
      show own_Goes p e below (T241.setTop (mkF m 219 #[.val (.int p1), .val (.int p2), .val (.int p3), .val (.int v0), .val (.int v1), .val (.int v2), .val (.int v3), .val (.ref b101), .val (.int (3 : Int32)), .val (.ref b107), .val (.int (1 : Int32))] [(.int (3 : Int32))])) _
      refine own_st (fun _ k => XS.iconst X241.here hx rfl (hb hby at_219) k) ?_
      show own_Goes p e below (T241.setTop (mkF m 220 #[.val (.int p1), .val (.int p2), .val (.int p3), .val (.int v0), .val (.int v1), .val (.int v2), .val (.int v3), .val (.ref b101), .val (.int (3 : Int32)), .val (.ref b107), .val (.int (1 : Int32))] [(.int (4 : Int32)), (.int (3 : Int32))])) _
      refine own_st (fun _ k => XS.icmpNo X241.here hx rfl (hb hby at_220) rfl (tlt (by decide : (3 : Int32) < (4 : Int32))).2.1 k) ?_
      show own_Goes p e below (T241.setTop (mkF m 223 #[.val (.int p1), .val (.int p2), .val (.int p3), .val (.int v0), .val (.int v1), .val (.int v2), .val (.int v3), .val (.ref b101), .val (.int (3 : Int32)), .val (.ref b107), .val (.int (1 : Int32))] [])) _
      refine own_st (fun _ k => XS.aload X241.here hx rfl (hb hby at_223) rfl rfl k) ?_
      show own_Goes p e below (T241.setTop (mkF m 225 #[.val (.int p1), .val (.int p2), .val (.int p3), .val (.int v0), .val (.int v1), .val (.int v2), .val (.int v3), .val (.ref b101), .val (.int (3 : Int32)), .val (.ref b107), .val (.int (1 : Int32))] [(.ref b107)])) _
      have f243 := (f230.keep K227 (ninS ne_b101_b107 nin0))
      obtain ⟨_, T242, h242, L242, X242, e242, ⟨rfl, N242q, K242, F242_bytes, F242_limit, F242_position, F242_pieces, F242_piece⟩, st242⟩ := own_callV (argsL := []) (rest := []) (pc := 225) (W := 0) (Ls := #[.val (.int p1), .val (.int p2), .val (.int p3), .val (.int v0), .val (.int v1), .val (.int v2), .val (.int v3), .val (.ref b101), .val (.int (3 : Int32)), .val (.ref b107), .val (.int (1 : Int32))]) (S := [(.ref b107)]) X241 hx hZ hown (hw _ (List.mem_of_getElem? (i := 29) rfl)) (hw _ (List.mem_of_getElem? (i := 30) rfl)) (hw _ (List.mem_of_getElem? (i := 32) rfl)) (hw _ (List.mem_of_getElem? (i := 31) rfl)) (hw _ (List.mem_of_getElem? (i := 4) rfl)) (hw _ (List.mem_of_getElem? (i := 33) rfl)) (notFace_of_selects (args := #[]) (mvT hZ (hw _ (List.mem_of_getElem? (i := 32) rfl)))) (by decide) (rm3 l Z a0 hw [] b107 b101 r1 k101 [(.int v0), (.int v1), (.int v2), (.int v3)] (3 : Int32) v3 h227 n0 f232 F227_bytes F227_limit F227_position F227_pieces F227_piece f234 f243 g_b107 ne_b101_b107 (by decide) rfl (by decide)) (by decide) (by decide) (e241.trans q241) f234 (by rw [hml]; rfl) (lenOf pd___I rfl) rfl (Nat.le_of_eq rfl) (hb hby at_225) (by decide) (by decide)
      refine own_st st242 ?_
      have N242 := Fr.app N241 N242q
      rw [show (3 : Int32) + (1 : Int32) = (4 : Int32) from by decide] at F242_position
      show own_Goes p e below (T242.setTop (mkF m 228 #[.val (.int p1), .val (.int p2), .val (.int p3), .val (.int v0), .val (.int v1), .val (.int v2), .val (.int v3), .val (.ref b101), .val (.int (3 : Int32)), .val (.ref b107), .val (.int (1 : Int32))] [(.int v3)])) _
      refine own_st (fun _ k => XS.iload X242.here hx rfl (hb hby at_228) rfl k) ?_
      show own_Goes p e below (T242.setTop (mkF m 230 #[.val (.int p1), .val (.int p2), .val (.int p3), .val (.int v0), .val (.int v1), .val (.int v2), .val (.int v3), .val (.ref b101), .val (.int (3 : Int32)), .val (.ref b107), .val (.int (1 : Int32))] [(.int v3), (.int v3)])) _
      refine own_st (fun _ k => XS.icmpYes X242.here hx rfl (pc0 := 230) (pc' := 236) rfl (hb hby at_230) rfl (teq (rfl : v3 = v3)).1 (by decide) (by decide) k) ?_
      show own_Goes p e below (T242.setTop (mkF m 236 #[.val (.int p1), .val (.int p2), .val (.int p3), .val (.int v0), .val (.int v1), .val (.int v2), .val (.int v3), .val (.ref b101), .val (.int (3 : Int32)), .val (.ref b107), .val (.int (1 : Int32))] [])) _
      refine own_st (fun _ k => XS.aload X242.here hx rfl (hb hby at_236) rfl rfl k) ?_
      show own_Goes p e below (T242.setTop (mkF m 238 #[.val (.int p1), .val (.int p2), .val (.int p3), .val (.int v0), .val (.int v1), .val (.int v2), .val (.int v3), .val (.ref b101), .val (.int (3 : Int32)), .val (.ref b107), .val (.int (1 : Int32))] [(.ref b107)])) _
      have f245 := (Nat.le_trans f232 K242.1)
      have f246 := (f234.keep K242)
      obtain ⟨_, T244, h244, L244, X244, e244, ⟨rfl, rfl, q244⟩, st244⟩ := own_callV (argsL := []) (rest := []) (pc := 238) (W := 0) (Ls := #[.val (.int p1), .val (.int p2), .val (.int p3), .val (.int v0), .val (.int v1), .val (.int v2), .val (.int v3), .val (.ref b101), .val (.int (3 : Int32)), .val (.ref b107), .val (.int (1 : Int32))]) (S := [(.ref b107)]) X242 hx hZ hown (hw _ (List.mem_of_getElem? (i := 45) rfl)) (hw _ (List.mem_of_getElem? (i := 46) rfl)) (hw _ (List.mem_of_getElem? (i := 48) rfl)) (hw _ (List.mem_of_getElem? (i := 47) rfl)) (hw _ (List.mem_of_getElem? (i := 4) rfl)) (hw _ (List.mem_of_getElem? (i := 49) rfl)) (notFace_of_selects (args := #[]) (mvT hZ (hw _ (List.mem_of_getElem? (i := 48) rfl)))) (by decide) (rm7 l Z a0 hw [] b107 h242 n0 f245 F242_limit F242_position) (by decide) (by decide) e242 f246 (by rw [hml]; rfl) (lenOf pd___V rfl) rfl (Nat.le_of_eq rfl) (hb hby at_238) (by decide) (by decide)
      refine own_st st244 ?_
      have N244 := Fr.app N242 (Fr.nil n0)
      show own_Goes p e below (T244.setTop (mkF m 241 #[.val (.int p1), .val (.int p2), .val (.int p3), .val (.int v0), .val (.int v1), .val (.int v2), .val (.int v3), .val (.ref b101), .val (.int (3 : Int32)), .val (.ref b107), .val (.int (1 : Int32))] [])) _
      refine own_st (fun _ k => XS.iload X244.here hx rfl (hb hby at_241) rfl k) ?_
      show own_Goes p e below (T244.setTop (mkF m 243 #[.val (.int p1), .val (.int p2), .val (.int p3), .val (.int v0), .val (.int v1), .val (.int v2), .val (.int v3), .val (.ref b101), .val (.int (3 : Int32)), .val (.ref b107), .val (.int (1 : Int32))] [(.int (1 : Int32))])) _
      exact own_retN (t := .boolean) (z' := (1 : Int32)) X244 hx hlk hret (by simp) (by decide) (hb hby at_243) (by decide) (by decide) (e244.trans q244) ⟨rfl, N244⟩
  · show own_Goes p e below (T108.setTop (mkF m 70 #[.val (.int p1), .val (.int p2), .val (.int p3), .val (.int v0), .val (.int v1), .val (.int v2), .val (.int v3), .val (.ref b101), .val (.int (4 : Int32)), .val (.ref b107), .val (.int (1 : Int32))] [])) _
    refine own_st (fun _ k => XS.iload X108.here hx rfl (hb hby at_70) rfl k) ?_
    show own_Goes p e below (T108.setTop (mkF m 72 #[.val (.int p1), .val (.int p2), .val (.int p3), .val (.int v0), .val (.int v1), .val (.int v2), .val (.int v3), .val (.ref b101), .val (.int (4 : Int32)), .val (.ref b107), .val (.int (1 : Int32))] [(.int (4 : Int32))])) _
    refine own_st (fun _ k => XS.iconst X108.here hx rfl (hb hby at_72) k) ?_
    show own_Goes p e below (T108.setTop (mkF m 73 #[.val (.int p1), .val (.int p2), .val (.int p3), .val (.int v0), .val (.int v1), .val (.int v2), .val (.int v3), .val (.ref b101), .val (.int (4 : Int32)), .val (.ref b107), .val (.int (1 : Int32))] [(.int (1 : Int32)), (.int (4 : Int32))])) _
    refine own_st (fun _ k => XS.icmpNo X108.here hx rfl (hb hby at_73) rfl (flt (by decide : ¬ ((4 : Int32) < (1 : Int32)))).1 k) ?_
    show own_Goes p e below (T108.setTop (mkF m 76 #[.val (.int p1), .val (.int p2), .val (.int p3), .val (.int v0), .val (.int v1), .val (.int v2), .val (.int v3), .val (.ref b101), .val (.int (4 : Int32)), .val (.ref b107), .val (.int (1 : Int32))] [])) _
    refine own_st (fun _ k => XS.aload X108.here hx rfl (hb hby at_76) rfl rfl k) ?_
    show own_Goes p e below (T108.setTop (mkF m 78 #[.val (.int p1), .val (.int p2), .val (.int p3), .val (.int v0), .val (.int v1), .val (.int v2), .val (.int v3), .val (.ref b101), .val (.int (4 : Int32)), .val (.ref b107), .val (.int (1 : Int32))] [(.ref b107)])) _
    have f248 := (Nat.le_trans f109 K108.1)
    have f249 := (A107.keep K108)
    have f250 := (f110.keep K108 (ninS ne_b101_b107 nin0))
    obtain ⟨_, T247, h247, L247, X247, e247, ⟨rfl, N247q, K247, F247_bytes, F247_limit, F247_position, F247_pieces, F247_piece⟩, st247⟩ := own_callV (argsL := []) (rest := []) (pc := 78) (W := 0) (Ls := #[.val (.int p1), .val (.int p2), .val (.int p3), .val (.int v0), .val (.int v1), .val (.int v2), .val (.int v3), .val (.ref b101), .val (.int (4 : Int32)), .val (.ref b107), .val (.int (1 : Int32))]) (S := [(.ref b107)]) X108 hx hZ hown (hw _ (List.mem_of_getElem? (i := 29) rfl)) (hw _ (List.mem_of_getElem? (i := 30) rfl)) (hw _ (List.mem_of_getElem? (i := 32) rfl)) (hw _ (List.mem_of_getElem? (i := 31) rfl)) (hw _ (List.mem_of_getElem? (i := 4) rfl)) (hw _ (List.mem_of_getElem? (i := 33) rfl)) (notFace_of_selects (args := #[]) (mvT hZ (hw _ (List.mem_of_getElem? (i := 32) rfl)))) (by decide) (rm3 l Z a0 hw [] b107 b101 r1 k101 [(.int v0), (.int v1), (.int v2), (.int v3)] (0 : Int32) v0 h108 n0 f248 F108_bytes F108_limit F108_position F108_pieces F108_piece f249 f250 g_b107 ne_b101_b107 (by decide) rfl (by decide)) (by decide) (by decide) e108 f249 (by rw [hml]; rfl) (lenOf pd___I rfl) rfl (Nat.le_of_eq rfl) (hb hby at_78) (by decide) (by decide)
    refine own_st st247 ?_
    have N247 := Fr.app N108 N247q
    rw [show (0 : Int32) + (1 : Int32) = (1 : Int32) from by decide] at F247_position
    show own_Goes p e below (T247.setTop (mkF m 81 #[.val (.int p1), .val (.int p2), .val (.int p3), .val (.int v0), .val (.int v1), .val (.int v2), .val (.int v3), .val (.ref b101), .val (.int (4 : Int32)), .val (.ref b107), .val (.int (1 : Int32))] [(.int v0)])) _
    refine own_st (fun _ k => XS.iloadN X247.here hx rfl (hb hby at_81) rfl k) ?_
    show own_Goes p e below (T247.setTop (mkF m 82 #[.val (.int p1), .val (.int p2), .val (.int p3), .val (.int v0), .val (.int v1), .val (.int v2), .val (.int v3), .val (.ref b101), .val (.int (4 : Int32)), .val (.ref b107), .val (.int (1 : Int32))] [(.int v0), (.int v0)])) _
    refine own_st (fun _ k => XS.icmpYes X247.here hx rfl (pc0 := 82) (pc' := 88) rfl (hb hby at_82) rfl (teq (rfl : v0 = v0)).1 (by decide) (by decide) k) ?_
    show own_Goes p e below (T247.setTop (mkF m 88 #[.val (.int p1), .val (.int p2), .val (.int p3), .val (.int v0), .val (.int v1), .val (.int v2), .val (.int v3), .val (.ref b101), .val (.int (4 : Int32)), .val (.ref b107), .val (.int (1 : Int32))] [])) _
    refine own_st (fun _ k => XS.iload X247.here hx rfl (hb hby at_88) rfl k) ?_
    show own_Goes p e below (T247.setTop (mkF m 90 #[.val (.int p1), .val (.int p2), .val (.int p3), .val (.int v0), .val (.int v1), .val (.int v2), .val (.int v3), .val (.ref b101), .val (.int (4 : Int32)), .val (.ref b107), .val (.int (1 : Int32))] [(.int (4 : Int32))])) _
    refine own_st (fun _ k => XS.iconst X247.here hx rfl (hb hby at_90) k) ?_
    show own_Goes p e below (T247.setTop (mkF m 91 #[.val (.int p1), .val (.int p2), .val (.int p3), .val (.int v0), .val (.int v1), .val (.int v2), .val (.int v3), .val (.ref b101), .val (.int (4 : Int32)), .val (.ref b107), .val (.int (1 : Int32))] [(.int (2 : Int32)), (.int (4 : Int32))])) _
    refine own_st (fun _ k => XS.icmpNo X247.here hx rfl (hb hby at_91) rfl (flt (by decide : ¬ ((4 : Int32) < (2 : Int32)))).1 k) ?_
    show own_Goes p e below (T247.setTop (mkF m 94 #[.val (.int p1), .val (.int p2), .val (.int p3), .val (.int v0), .val (.int v1), .val (.int v2), .val (.int v3), .val (.ref b101), .val (.int (4 : Int32)), .val (.ref b107), .val (.int (1 : Int32))] [])) _
    refine own_st (fun _ k => XS.aload X247.here hx rfl (hb hby at_94) rfl rfl k) ?_
    show own_Goes p e below (T247.setTop (mkF m 96 #[.val (.int p1), .val (.int p2), .val (.int p3), .val (.int v0), .val (.int v1), .val (.int v2), .val (.int v3), .val (.ref b101), .val (.int (4 : Int32)), .val (.ref b107), .val (.int (1 : Int32))] [(.ref b107)])) _
    have f252 := (Nat.le_trans f248 K247.1)
    have f253 := (f249.keep K247)
    have f254 := (f250.keep K247 (ninS ne_b101_b107 nin0))
    obtain ⟨_, T251, h251, L251, X251, e251, ⟨rfl, N251q, K251, F251_bytes, F251_limit, F251_position, F251_pieces, F251_piece⟩, st251⟩ := own_callV (argsL := []) (rest := []) (pc := 96) (W := 0) (Ls := #[.val (.int p1), .val (.int p2), .val (.int p3), .val (.int v0), .val (.int v1), .val (.int v2), .val (.int v3), .val (.ref b101), .val (.int (4 : Int32)), .val (.ref b107), .val (.int (1 : Int32))]) (S := [(.ref b107)]) X247 hx hZ hown (hw _ (List.mem_of_getElem? (i := 29) rfl)) (hw _ (List.mem_of_getElem? (i := 30) rfl)) (hw _ (List.mem_of_getElem? (i := 32) rfl)) (hw _ (List.mem_of_getElem? (i := 31) rfl)) (hw _ (List.mem_of_getElem? (i := 4) rfl)) (hw _ (List.mem_of_getElem? (i := 33) rfl)) (notFace_of_selects (args := #[]) (mvT hZ (hw _ (List.mem_of_getElem? (i := 32) rfl)))) (by decide) (rm3 l Z a0 hw [] b107 b101 r1 k101 [(.int v0), (.int v1), (.int v2), (.int v3)] (1 : Int32) v1 h247 n0 f252 F247_bytes F247_limit F247_position F247_pieces F247_piece f253 f254 g_b107 ne_b101_b107 (by decide) rfl (by decide)) (by decide) (by decide) e247 f253 (by rw [hml]; rfl) (lenOf pd___I rfl) rfl (Nat.le_of_eq rfl) (hb hby at_96) (by decide) (by decide)
    refine own_st st251 ?_
    have N251 := Fr.app N247 N251q
    rw [show (1 : Int32) + (1 : Int32) = (2 : Int32) from by decide] at F251_position
    show own_Goes p e below (T251.setTop (mkF m 99 #[.val (.int p1), .val (.int p2), .val (.int p3), .val (.int v0), .val (.int v1), .val (.int v2), .val (.int v3), .val (.ref b101), .val (.int (4 : Int32)), .val (.ref b107), .val (.int (1 : Int32))] [(.int v1)])) _
    refine own_st (fun _ k => XS.iload X251.here hx rfl (hb hby at_99) rfl k) ?_
    show own_Goes p e below (T251.setTop (mkF m 101 #[.val (.int p1), .val (.int p2), .val (.int p3), .val (.int v0), .val (.int v1), .val (.int v2), .val (.int v3), .val (.ref b101), .val (.int (4 : Int32)), .val (.ref b107), .val (.int (1 : Int32))] [(.int v1), (.int v1)])) _
    refine own_st (fun _ k => XS.icmpYes X251.here hx rfl (pc0 := 101) (pc' := 107) rfl (hb hby at_101) rfl (teq (rfl : v1 = v1)).1 (by decide) (by decide) k) ?_
    show own_Goes p e below (T251.setTop (mkF m 107 #[.val (.int p1), .val (.int p2), .val (.int p3), .val (.int v0), .val (.int v1), .val (.int v2), .val (.int v3), .val (.ref b101), .val (.int (4 : Int32)), .val (.ref b107), .val (.int (1 : Int32))] [])) _
    refine own_st (fun _ k => XS.iload X251.here hx rfl (hb hby at_107) rfl k) ?_
    show own_Goes p e below (T251.setTop (mkF m 109 #[.val (.int p1), .val (.int p2), .val (.int p3), .val (.int v0), .val (.int v1), .val (.int v2), .val (.int v3), .val (.ref b101), .val (.int (4 : Int32)), .val (.ref b107), .val (.int (1 : Int32))] [(.int (4 : Int32))])) _
    refine own_st (fun _ k => XS.iconst X251.here hx rfl (hb hby at_109) k) ?_
    show own_Goes p e below (T251.setTop (mkF m 110 #[.val (.int p1), .val (.int p2), .val (.int p3), .val (.int v0), .val (.int v1), .val (.int v2), .val (.int v3), .val (.ref b101), .val (.int (4 : Int32)), .val (.ref b107), .val (.int (1 : Int32))] [(.int (3 : Int32)), (.int (4 : Int32))])) _
    refine own_st (fun _ k => XS.icmpNo X251.here hx rfl (hb hby at_110) rfl (flt (by decide : ¬ ((4 : Int32) < (3 : Int32)))).1 k) ?_
    show own_Goes p e below (T251.setTop (mkF m 113 #[.val (.int p1), .val (.int p2), .val (.int p3), .val (.int v0), .val (.int v1), .val (.int v2), .val (.int v3), .val (.ref b101), .val (.int (4 : Int32)), .val (.ref b107), .val (.int (1 : Int32))] [])) _
    refine own_st (fun _ k => XS.aload X251.here hx rfl (hb hby at_113) rfl rfl k) ?_
    show own_Goes p e below (T251.setTop (mkF m 115 #[.val (.int p1), .val (.int p2), .val (.int p3), .val (.int v0), .val (.int v1), .val (.int v2), .val (.int v3), .val (.ref b101), .val (.int (4 : Int32)), .val (.ref b107), .val (.int (1 : Int32))] [(.ref b107)])) _
    have f256 := (Nat.le_trans f252 K251.1)
    have f257 := (f253.keep K251)
    have f258 := (f254.keep K251 (ninS ne_b101_b107 nin0))
    obtain ⟨_, T255, h255, L255, X255, e255, ⟨rfl, N255q, K255, F255_bytes, F255_limit, F255_position, F255_pieces, F255_piece⟩, st255⟩ := own_callV (argsL := []) (rest := []) (pc := 115) (W := 0) (Ls := #[.val (.int p1), .val (.int p2), .val (.int p3), .val (.int v0), .val (.int v1), .val (.int v2), .val (.int v3), .val (.ref b101), .val (.int (4 : Int32)), .val (.ref b107), .val (.int (1 : Int32))]) (S := [(.ref b107)]) X251 hx hZ hown (hw _ (List.mem_of_getElem? (i := 29) rfl)) (hw _ (List.mem_of_getElem? (i := 30) rfl)) (hw _ (List.mem_of_getElem? (i := 32) rfl)) (hw _ (List.mem_of_getElem? (i := 31) rfl)) (hw _ (List.mem_of_getElem? (i := 4) rfl)) (hw _ (List.mem_of_getElem? (i := 33) rfl)) (notFace_of_selects (args := #[]) (mvT hZ (hw _ (List.mem_of_getElem? (i := 32) rfl)))) (by decide) (rm3 l Z a0 hw [] b107 b101 r1 k101 [(.int v0), (.int v1), (.int v2), (.int v3)] (2 : Int32) v2 h251 n0 f256 F251_bytes F251_limit F251_position F251_pieces F251_piece f257 f258 g_b107 ne_b101_b107 (by decide) rfl (by decide)) (by decide) (by decide) e251 f257 (by rw [hml]; rfl) (lenOf pd___I rfl) rfl (Nat.le_of_eq rfl) (hb hby at_115) (by decide) (by decide)
    refine own_st st255 ?_
    have N255 := Fr.app N251 N255q
    rw [show (2 : Int32) + (1 : Int32) = (3 : Int32) from by decide] at F255_position
    show own_Goes p e below (T255.setTop (mkF m 118 #[.val (.int p1), .val (.int p2), .val (.int p3), .val (.int v0), .val (.int v1), .val (.int v2), .val (.int v3), .val (.ref b101), .val (.int (4 : Int32)), .val (.ref b107), .val (.int (1 : Int32))] [(.int v2)])) _
    refine own_st (fun _ k => XS.iload X255.here hx rfl (hb hby at_118) rfl k) ?_
    show own_Goes p e below (T255.setTop (mkF m 120 #[.val (.int p1), .val (.int p2), .val (.int p3), .val (.int v0), .val (.int v1), .val (.int v2), .val (.int v3), .val (.ref b101), .val (.int (4 : Int32)), .val (.ref b107), .val (.int (1 : Int32))] [(.int v2), (.int v2)])) _
    refine own_st (fun _ k => XS.icmpYes X255.here hx rfl (pc0 := 120) (pc' := 126) rfl (hb hby at_120) rfl (teq (rfl : v2 = v2)).1 (by decide) (by decide) k) ?_
    show own_Goes p e below (T255.setTop (mkF m 126 #[.val (.int p1), .val (.int p2), .val (.int p3), .val (.int v0), .val (.int v1), .val (.int v2), .val (.int v3), .val (.ref b101), .val (.int (4 : Int32)), .val (.ref b107), .val (.int (1 : Int32))] [])) _
    refine own_st (fun _ k => XS.iload X255.here hx rfl (hb hby at_126) rfl k) ?_
    show own_Goes p e below (T255.setTop (mkF m 128 #[.val (.int p1), .val (.int p2), .val (.int p3), .val (.int v0), .val (.int v1), .val (.int v2), .val (.int v3), .val (.ref b101), .val (.int (4 : Int32)), .val (.ref b107), .val (.int (1 : Int32))] [(.int (4 : Int32))])) _
    refine own_st (fun _ k => XS.iconst X255.here hx rfl (hb hby at_128) k) ?_
    show own_Goes p e below (T255.setTop (mkF m 129 #[.val (.int p1), .val (.int p2), .val (.int p3), .val (.int v0), .val (.int v1), .val (.int v2), .val (.int v3), .val (.ref b101), .val (.int (4 : Int32)), .val (.ref b107), .val (.int (1 : Int32))] [(.int (4 : Int32)), (.int (4 : Int32))])) _
    refine own_st (fun _ k => XS.icmpNo X255.here hx rfl (hb hby at_129) rfl (flt (by decide : ¬ ((4 : Int32) < (4 : Int32)))).1 k) ?_
    show own_Goes p e below (T255.setTop (mkF m 132 #[.val (.int p1), .val (.int p2), .val (.int p3), .val (.int v0), .val (.int v1), .val (.int v2), .val (.int v3), .val (.ref b101), .val (.int (4 : Int32)), .val (.ref b107), .val (.int (1 : Int32))] [])) _
    refine own_st (fun _ k => XS.aload X255.here hx rfl (hb hby at_132) rfl rfl k) ?_
    show own_Goes p e below (T255.setTop (mkF m 134 #[.val (.int p1), .val (.int p2), .val (.int p3), .val (.int v0), .val (.int v1), .val (.int v2), .val (.int v3), .val (.ref b101), .val (.int (4 : Int32)), .val (.ref b107), .val (.int (1 : Int32))] [(.ref b107)])) _
    have f260 := (Nat.le_trans f256 K255.1)
    have f261 := (f257.keep K255)
    have f262 := (f258.keep K255 (ninS ne_b101_b107 nin0))
    obtain ⟨_, T259, h259, L259, X259, e259, ⟨rfl, N259q, K259, F259_bytes, F259_limit, F259_position, F259_pieces, F259_piece⟩, st259⟩ := own_callV (argsL := []) (rest := []) (pc := 134) (W := 0) (Ls := #[.val (.int p1), .val (.int p2), .val (.int p3), .val (.int v0), .val (.int v1), .val (.int v2), .val (.int v3), .val (.ref b101), .val (.int (4 : Int32)), .val (.ref b107), .val (.int (1 : Int32))]) (S := [(.ref b107)]) X255 hx hZ hown (hw _ (List.mem_of_getElem? (i := 29) rfl)) (hw _ (List.mem_of_getElem? (i := 30) rfl)) (hw _ (List.mem_of_getElem? (i := 32) rfl)) (hw _ (List.mem_of_getElem? (i := 31) rfl)) (hw _ (List.mem_of_getElem? (i := 4) rfl)) (hw _ (List.mem_of_getElem? (i := 33) rfl)) (notFace_of_selects (args := #[]) (mvT hZ (hw _ (List.mem_of_getElem? (i := 32) rfl)))) (by decide) (rm3 l Z a0 hw [] b107 b101 r1 k101 [(.int v0), (.int v1), (.int v2), (.int v3)] (3 : Int32) v3 h255 n0 f260 F255_bytes F255_limit F255_position F255_pieces F255_piece f261 f262 g_b107 ne_b101_b107 (by decide) rfl (by decide)) (by decide) (by decide) e255 f261 (by rw [hml]; rfl) (lenOf pd___I rfl) rfl (Nat.le_of_eq rfl) (hb hby at_134) (by decide) (by decide)
    refine own_st st259 ?_
    have N259 := Fr.app N255 N259q
    rw [show (3 : Int32) + (1 : Int32) = (4 : Int32) from by decide] at F259_position
    show own_Goes p e below (T259.setTop (mkF m 137 #[.val (.int p1), .val (.int p2), .val (.int p3), .val (.int v0), .val (.int v1), .val (.int v2), .val (.int v3), .val (.ref b101), .val (.int (4 : Int32)), .val (.ref b107), .val (.int (1 : Int32))] [(.int v3)])) _
    refine own_st (fun _ k => XS.iload X259.here hx rfl (hb hby at_137) rfl k) ?_
    show own_Goes p e below (T259.setTop (mkF m 139 #[.val (.int p1), .val (.int p2), .val (.int p3), .val (.int v0), .val (.int v1), .val (.int v2), .val (.int v3), .val (.ref b101), .val (.int (4 : Int32)), .val (.ref b107), .val (.int (1 : Int32))] [(.int v3), (.int v3)])) _
    refine own_st (fun _ k => XS.icmpYes X259.here hx rfl (pc0 := 139) (pc' := 145) rfl (hb hby at_139) rfl (teq (rfl : v3 = v3)).1 (by decide) (by decide) k) ?_
    show own_Goes p e below (T259.setTop (mkF m 145 #[.val (.int p1), .val (.int p2), .val (.int p3), .val (.int v0), .val (.int v1), .val (.int v2), .val (.int v3), .val (.ref b101), .val (.int (4 : Int32)), .val (.ref b107), .val (.int (1 : Int32))] [])) _
    refine own_st (fun _ k => XS.aload X259.here hx rfl (hb hby at_145) rfl rfl k) ?_
    show own_Goes p e below (T259.setTop (mkF m 147 #[.val (.int p1), .val (.int p2), .val (.int p3), .val (.int v0), .val (.int v1), .val (.int v2), .val (.int v3), .val (.ref b101), .val (.int (4 : Int32)), .val (.ref b107), .val (.int (1 : Int32))] [(.ref b107)])) _
    have f264 := (Nat.le_trans f260 K259.1)
    have f265 := ((((Vr.keep K247 (ninS (Ne.symm ner) nin0)).keep K251 (ninS (Ne.symm ner) nin0)).keep K255 (ninS (Ne.symm ner) nin0)).keep K259 (ninS (Ne.symm ner) nin0))
    have f266 := (f261.keep K259)
    obtain ⟨_, T263, h263, L263, X263, e263, ⟨rfl, rfl, q263⟩, st263⟩ := own_callV (argsL := []) (rest := []) (pc := 147) (W := 0) (Ls := #[.val (.int p1), .val (.int p2), .val (.int p3), .val (.int v0), .val (.int v1), .val (.int v2), .val (.int v3), .val (.ref b101), .val (.int (4 : Int32)), .val (.ref b107), .val (.int (1 : Int32))]) (S := [(.ref b107)]) X259 hx hZ hown (hw _ (List.mem_of_getElem? (i := 40) rfl)) (hw _ (List.mem_of_getElem? (i := 41) rfl)) (hw _ (List.mem_of_getElem? (i := 43) rfl)) (hw _ (List.mem_of_getElem? (i := 42) rfl)) (hw _ (List.mem_of_getElem? (i := 4) rfl)) (hw _ (List.mem_of_getElem? (i := 44) rfl)) (notFace_of_selects (args := #[]) (mvT hZ (hw _ (List.mem_of_getElem? (i := 43) rfl)))) (by decide) (rm6 l Z a0 hw [] b107 r1 b101 kr (4 : Int32) h259 n0 f264 F259_limit F259_position F259_piece F259_pieces f265) (by decide) (by decide) e259 f266 (by rw [hml]; rfl) (lenOf pd___V rfl) rfl (Nat.le_of_eq rfl) (hb hby at_147) (by decide) (by decide)
    refine own_st st263 ?_
    have N263 := Fr.app N259 (Fr.nil n0)
    show own_Goes p e below (T263.setTop (mkF m 150 #[.val (.int p1), .val (.int p2), .val (.int p3), .val (.int v0), .val (.int v1), .val (.int v2), .val (.int v3), .val (.ref b101), .val (.int (4 : Int32)), .val (.ref b107), .val (.int (1 : Int32))] [])) _
    refine own_st (fun _ k => XS.iloadN X263.here hx rfl (hb hby at_150) rfl k) ?_
    show own_Goes p e below (T263.setTop (mkF m 151 #[.val (.int p1), .val (.int p2), .val (.int p3), .val (.int v0), .val (.int v1), .val (.int v2), .val (.int v3), .val (.ref b101), .val (.int (4 : Int32)), .val (.ref b107), .val (.int (1 : Int32))] [(.int p3)])) _
    refine own_st (fun _ k => XS.iconst X263.here hx rfl (hb hby at_151) k) ?_
    show own_Goes p e below (T263.setTop (mkF m 152 #[.val (.int p1), .val (.int p2), .val (.int p3), .val (.int v0), .val (.int v1), .val (.int v2), .val (.int v3), .val (.ref b101), .val (.int (4 : Int32)), .val (.ref b107), .val (.int (1 : Int32))] [(.int (1 : Int32)), (.int p3)])) _
    refine own_st (fun _ k => XS.iand X263.here hx rfl (hb hby at_152) rfl k) ?_
    show own_Goes p e below (T263.setTop (mkF m 153 #[.val (.int p1), .val (.int p2), .val (.int p3), .val (.int v0), .val (.int v1), .val (.int v2), .val (.int v3), .val (.ref b101), .val (.int (4 : Int32)), .val (.ref b107), .val (.int (1 : Int32))] [(.int (p3 &&& (1 : Int32)))])) _
    by_cases hc153_267 : (p3 &&& (1 : Int32)) = (0 : Int32)
    · refine own_st (fun _ k => XS.ifYes X263.here hx rfl (pc0 := 153) (pc' := 161) rfl (hb hby at_153) rfl ((if0 _ _).trans (teq hc153_267).1) (by decide) (by decide) k) ?_
      show own_Goes p e below (T263.setTop (mkF m 161 #[.val (.int p1), .val (.int p2), .val (.int p3), .val (.int v0), .val (.int v1), .val (.int v2), .val (.int v3), .val (.ref b101), .val (.int (4 : Int32)), .val (.ref b107), .val (.int (1 : Int32))] [])) _
      refine own_st (fun _ k => XS.iload X263.here hx rfl (hb hby at_161) rfl k) ?_
      show own_Goes p e below (T263.setTop (mkF m 163 #[.val (.int p1), .val (.int p2), .val (.int p3), .val (.int v0), .val (.int v1), .val (.int v2), .val (.int v3), .val (.ref b101), .val (.int (4 : Int32)), .val (.ref b107), .val (.int (1 : Int32))] [(.int (4 : Int32))])) _
      refine own_st (fun _ k => XS.iconst X263.here hx rfl (hb hby at_163) k) ?_
      show own_Goes p e below (T263.setTop (mkF m 164 #[.val (.int p1), .val (.int p2), .val (.int p3), .val (.int v0), .val (.int v1), .val (.int v2), .val (.int v3), .val (.ref b101), .val (.int (4 : Int32)), .val (.ref b107), .val (.int (1 : Int32))] [(.int (1 : Int32)), (.int (4 : Int32))])) _
      refine own_st (fun _ k => XS.icmpYes X263.here hx rfl (pc0 := 164) (pc' := 179) rfl (hb hby at_164) rfl (flt (by decide : ¬ ((4 : Int32) < (1 : Int32)))).2.1 (by decide) (by decide) k) ?_
      show own_Goes p e below (T263.setTop (mkF m 179 #[.val (.int p1), .val (.int p2), .val (.int p3), .val (.int v0), .val (.int v1), .val (.int v2), .val (.int v3), .val (.ref b101), .val (.int (4 : Int32)), .val (.ref b107), .val (.int (1 : Int32))] [])) _
      refine own_st (fun _ k => XS.iload X263.here hx rfl (hb hby at_179) rfl k) ?_
      show own_Goes p e below (T263.setTop (mkF m 181 #[.val (.int p1), .val (.int p2), .val (.int p3), .val (.int v0), .val (.int v1), .val (.int v2), .val (.int v3), .val (.ref b101), .val (.int (4 : Int32)), .val (.ref b107), .val (.int (1 : Int32))] [(.int (4 : Int32))])) _
      refine own_st (fun _ k => XS.iconst X263.here hx rfl (hb hby at_181) k) ?_
      show own_Goes p e below (T263.setTop (mkF m 182 #[.val (.int p1), .val (.int p2), .val (.int p3), .val (.int v0), .val (.int v1), .val (.int v2), .val (.int v3), .val (.ref b101), .val (.int (4 : Int32)), .val (.ref b107), .val (.int (1 : Int32))] [(.int (2 : Int32)), (.int (4 : Int32))])) _
      refine own_st (fun _ k => XS.icmpYes X263.here hx rfl (pc0 := 182) (pc' := 198) rfl (hb hby at_182) rfl (flt (by decide : ¬ ((4 : Int32) < (2 : Int32)))).2.1 (by decide) (by decide) k) ?_
      show own_Goes p e below (T263.setTop (mkF m 198 #[.val (.int p1), .val (.int p2), .val (.int p3), .val (.int v0), .val (.int v1), .val (.int v2), .val (.int v3), .val (.ref b101), .val (.int (4 : Int32)), .val (.ref b107), .val (.int (1 : Int32))] [])) _
      refine own_st (fun _ k => XS.iload X263.here hx rfl (hb hby at_198) rfl k) ?_
      show own_Goes p e below (T263.setTop (mkF m 200 #[.val (.int p1), .val (.int p2), .val (.int p3), .val (.int v0), .val (.int v1), .val (.int v2), .val (.int v3), .val (.ref b101), .val (.int (4 : Int32)), .val (.ref b107), .val (.int (1 : Int32))] [(.int (4 : Int32))])) _
      refine own_st (fun _ k => XS.iconst X263.here hx rfl (hb hby at_200) k) ?_
      show own_Goes p e below (T263.setTop (mkF m 201 #[.val (.int p1), .val (.int p2), .val (.int p3), .val (.int v0), .val (.int v1), .val (.int v2), .val (.int v3), .val (.ref b101), .val (.int (4 : Int32)), .val (.ref b107), .val (.int (1 : Int32))] [(.int (3 : Int32)), (.int (4 : Int32))])) _
      refine own_st (fun _ k => XS.icmpYes X263.here hx rfl (pc0 := 201) (pc' := 217) rfl (hb hby at_201) rfl (flt (by decide : ¬ ((4 : Int32) < (3 : Int32)))).2.1 (by decide) (by decide) k) ?_
      show own_Goes p e below (T263.setTop (mkF m 217 #[.val (.int p1), .val (.int p2), .val (.int p3), .val (.int v0), .val (.int v1), .val (.int v2), .val (.int v3), .val (.ref b101), .val (.int (4 : Int32)), .val (.ref b107), .val (.int (1 : Int32))] [])) _
      refine own_st (fun _ k => XS.iload X263.here hx rfl (hb hby at_217) rfl k) ?_
      show own_Goes p e below (T263.setTop (mkF m 219 #[.val (.int p1), .val (.int p2), .val (.int p3), .val (.int v0), .val (.int v1), .val (.int v2), .val (.int v3), .val (.ref b101), .val (.int (4 : Int32)), .val (.ref b107), .val (.int (1 : Int32))] [(.int (4 : Int32))])) _
      refine own_st (fun _ k => XS.iconst X263.here hx rfl (hb hby at_219) k) ?_
      show own_Goes p e below (T263.setTop (mkF m 220 #[.val (.int p1), .val (.int p2), .val (.int p3), .val (.int v0), .val (.int v1), .val (.int v2), .val (.int v3), .val (.ref b101), .val (.int (4 : Int32)), .val (.ref b107), .val (.int (1 : Int32))] [(.int (4 : Int32)), (.int (4 : Int32))])) _
      refine own_st (fun _ k => XS.icmpYes X263.here hx rfl (pc0 := 220) (pc' := 236) rfl (hb hby at_220) rfl (flt (by decide : ¬ ((4 : Int32) < (4 : Int32)))).2.1 (by decide) (by decide) k) ?_
      show own_Goes p e below (T263.setTop (mkF m 236 #[.val (.int p1), .val (.int p2), .val (.int p3), .val (.int v0), .val (.int v1), .val (.int v2), .val (.int v3), .val (.ref b101), .val (.int (4 : Int32)), .val (.ref b107), .val (.int (1 : Int32))] [])) _
      refine own_st (fun _ k => XS.aload X263.here hx rfl (hb hby at_236) rfl rfl k) ?_
      show own_Goes p e below (T263.setTop (mkF m 238 #[.val (.int p1), .val (.int p2), .val (.int p3), .val (.int v0), .val (.int v1), .val (.int v2), .val (.int v3), .val (.ref b101), .val (.int (4 : Int32)), .val (.ref b107), .val (.int (1 : Int32))] [(.ref b107)])) _
      obtain ⟨_, T268, h268, L268, X268, e268, ⟨rfl, rfl, q268⟩, st268⟩ := own_callV (argsL := []) (rest := []) (pc := 238) (W := 0) (Ls := #[.val (.int p1), .val (.int p2), .val (.int p3), .val (.int v0), .val (.int v1), .val (.int v2), .val (.int v3), .val (.ref b101), .val (.int (4 : Int32)), .val (.ref b107), .val (.int (1 : Int32))]) (S := [(.ref b107)]) X263 hx hZ hown (hw _ (List.mem_of_getElem? (i := 45) rfl)) (hw _ (List.mem_of_getElem? (i := 46) rfl)) (hw _ (List.mem_of_getElem? (i := 48) rfl)) (hw _ (List.mem_of_getElem? (i := 47) rfl)) (hw _ (List.mem_of_getElem? (i := 4) rfl)) (hw _ (List.mem_of_getElem? (i := 49) rfl)) (notFace_of_selects (args := #[]) (mvT hZ (hw _ (List.mem_of_getElem? (i := 48) rfl)))) (by decide) (rm7 l Z a0 hw [] b107 h259 n0 f264 F259_limit F259_position) (by decide) (by decide) (e263.trans q263) f266 (by rw [hml]; rfl) (lenOf pd___V rfl) rfl (Nat.le_of_eq rfl) (hb hby at_238) (by decide) (by decide)
      refine own_st st268 ?_
      have N268 := Fr.app N263 (Fr.nil n0)
      show own_Goes p e below (T268.setTop (mkF m 241 #[.val (.int p1), .val (.int p2), .val (.int p3), .val (.int v0), .val (.int v1), .val (.int v2), .val (.int v3), .val (.ref b101), .val (.int (4 : Int32)), .val (.ref b107), .val (.int (1 : Int32))] [])) _
      refine own_st (fun _ k => XS.iload X268.here hx rfl (hb hby at_241) rfl k) ?_
      show own_Goes p e below (T268.setTop (mkF m 243 #[.val (.int p1), .val (.int p2), .val (.int p3), .val (.int v0), .val (.int v1), .val (.int v2), .val (.int v3), .val (.ref b101), .val (.int (4 : Int32)), .val (.ref b107), .val (.int (1 : Int32))] [(.int (1 : Int32))])) _
      exact own_retN (t := .boolean) (z' := (1 : Int32)) X268 hx hlk hret (by simp) (by decide) (hb hby at_243) (by decide) (by decide) (e268.trans q268) ⟨rfl, N268⟩
    · refine own_st (fun _ k => XS.ifNo X263.here hx rfl (hb hby at_153) rfl ((if0 _ _).trans (feq hc153_267).1) k) ?_
      show own_Goes p e below (T263.setTop (mkF m 156 #[.val (.int p1), .val (.int p2), .val (.int p3), .val (.int v0), .val (.int v1), .val (.int v2), .val (.int v3), .val (.ref b101), .val (.int (4 : Int32)), .val (.ref b107), .val (.int (1 : Int32))] [])) _
      refine own_st (fun _ k => XS.aload X263.here hx rfl (hb hby at_156) rfl rfl k) ?_
      show own_Goes p e below (T263.setTop (mkF m 158 #[.val (.int p1), .val (.int p2), .val (.int p3), .val (.int v0), .val (.int v1), .val (.int v2), .val (.int v3), .val (.ref b101), .val (.int (4 : Int32)), .val (.ref b107), .val (.int (1 : Int32))] [(.ref b107)])) _
      obtain ⟨_, T269, h269, L269, X269, e269, ⟨rfl, rfl, q269⟩, st269⟩ := own_callV (argsL := []) (rest := []) (pc := 158) (W := 0) (Ls := #[.val (.int p1), .val (.int p2), .val (.int p3), .val (.int v0), .val (.int v1), .val (.int v2), .val (.int v3), .val (.ref b101), .val (.int (4 : Int32)), .val (.ref b107), .val (.int (1 : Int32))]) (S := [(.ref b107)]) X263 hx hZ hown (hw _ (List.mem_of_getElem? (i := 40) rfl)) (hw _ (List.mem_of_getElem? (i := 41) rfl)) (hw _ (List.mem_of_getElem? (i := 43) rfl)) (hw _ (List.mem_of_getElem? (i := 42) rfl)) (hw _ (List.mem_of_getElem? (i := 4) rfl)) (hw _ (List.mem_of_getElem? (i := 44) rfl)) (notFace_of_selects (args := #[]) (mvT hZ (hw _ (List.mem_of_getElem? (i := 43) rfl)))) (by decide) (rm6 l Z a0 hw [] b107 r1 b101 kr (4 : Int32) h259 n0 f264 F259_limit F259_position F259_piece F259_pieces f265) (by decide) (by decide) (e263.trans q263) f266 (by rw [hml]; rfl) (lenOf pd___V rfl) rfl (Nat.le_of_eq rfl) (hb hby at_158) (by decide) (by decide)
      refine own_st st269 ?_
      have N269 := Fr.app N263 (Fr.nil n0)
      show own_Goes p e below (T269.setTop (mkF m 161 #[.val (.int p1), .val (.int p2), .val (.int p3), .val (.int v0), .val (.int v1), .val (.int v2), .val (.int v3), .val (.ref b101), .val (.int (4 : Int32)), .val (.ref b107), .val (.int (1 : Int32))] [])) _
      refine own_st (fun _ k => XS.iload X269.here hx rfl (hb hby at_161) rfl k) ?_
      show own_Goes p e below (T269.setTop (mkF m 163 #[.val (.int p1), .val (.int p2), .val (.int p3), .val (.int v0), .val (.int v1), .val (.int v2), .val (.int v3), .val (.ref b101), .val (.int (4 : Int32)), .val (.ref b107), .val (.int (1 : Int32))] [(.int (4 : Int32))])) _
      refine own_st (fun _ k => XS.iconst X269.here hx rfl (hb hby at_163) k) ?_
      show own_Goes p e below (T269.setTop (mkF m 164 #[.val (.int p1), .val (.int p2), .val (.int p3), .val (.int v0), .val (.int v1), .val (.int v2), .val (.int v3), .val (.ref b101), .val (.int (4 : Int32)), .val (.ref b107), .val (.int (1 : Int32))] [(.int (1 : Int32)), (.int (4 : Int32))])) _
      refine own_st (fun _ k => XS.icmpYes X269.here hx rfl (pc0 := 164) (pc' := 179) rfl (hb hby at_164) rfl (flt (by decide : ¬ ((4 : Int32) < (1 : Int32)))).2.1 (by decide) (by decide) k) ?_
      show own_Goes p e below (T269.setTop (mkF m 179 #[.val (.int p1), .val (.int p2), .val (.int p3), .val (.int v0), .val (.int v1), .val (.int v2), .val (.int v3), .val (.ref b101), .val (.int (4 : Int32)), .val (.ref b107), .val (.int (1 : Int32))] [])) _
      refine own_st (fun _ k => XS.iload X269.here hx rfl (hb hby at_179) rfl k) ?_
      show own_Goes p e below (T269.setTop (mkF m 181 #[.val (.int p1), .val (.int p2), .val (.int p3), .val (.int v0), .val (.int v1), .val (.int v2), .val (.int v3), .val (.ref b101), .val (.int (4 : Int32)), .val (.ref b107), .val (.int (1 : Int32))] [(.int (4 : Int32))])) _
      refine own_st (fun _ k => XS.iconst X269.here hx rfl (hb hby at_181) k) ?_
      show own_Goes p e below (T269.setTop (mkF m 182 #[.val (.int p1), .val (.int p2), .val (.int p3), .val (.int v0), .val (.int v1), .val (.int v2), .val (.int v3), .val (.ref b101), .val (.int (4 : Int32)), .val (.ref b107), .val (.int (1 : Int32))] [(.int (2 : Int32)), (.int (4 : Int32))])) _
      refine own_st (fun _ k => XS.icmpYes X269.here hx rfl (pc0 := 182) (pc' := 198) rfl (hb hby at_182) rfl (flt (by decide : ¬ ((4 : Int32) < (2 : Int32)))).2.1 (by decide) (by decide) k) ?_
      show own_Goes p e below (T269.setTop (mkF m 198 #[.val (.int p1), .val (.int p2), .val (.int p3), .val (.int v0), .val (.int v1), .val (.int v2), .val (.int v3), .val (.ref b101), .val (.int (4 : Int32)), .val (.ref b107), .val (.int (1 : Int32))] [])) _
      refine own_st (fun _ k => XS.iload X269.here hx rfl (hb hby at_198) rfl k) ?_
      show own_Goes p e below (T269.setTop (mkF m 200 #[.val (.int p1), .val (.int p2), .val (.int p3), .val (.int v0), .val (.int v1), .val (.int v2), .val (.int v3), .val (.ref b101), .val (.int (4 : Int32)), .val (.ref b107), .val (.int (1 : Int32))] [(.int (4 : Int32))])) _
      refine own_st (fun _ k => XS.iconst X269.here hx rfl (hb hby at_200) k) ?_
      show own_Goes p e below (T269.setTop (mkF m 201 #[.val (.int p1), .val (.int p2), .val (.int p3), .val (.int v0), .val (.int v1), .val (.int v2), .val (.int v3), .val (.ref b101), .val (.int (4 : Int32)), .val (.ref b107), .val (.int (1 : Int32))] [(.int (3 : Int32)), (.int (4 : Int32))])) _
      refine own_st (fun _ k => XS.icmpYes X269.here hx rfl (pc0 := 201) (pc' := 217) rfl (hb hby at_201) rfl (flt (by decide : ¬ ((4 : Int32) < (3 : Int32)))).2.1 (by decide) (by decide) k) ?_
      show own_Goes p e below (T269.setTop (mkF m 217 #[.val (.int p1), .val (.int p2), .val (.int p3), .val (.int v0), .val (.int v1), .val (.int v2), .val (.int v3), .val (.ref b101), .val (.int (4 : Int32)), .val (.ref b107), .val (.int (1 : Int32))] [])) _
      refine own_st (fun _ k => XS.iload X269.here hx rfl (hb hby at_217) rfl k) ?_
      show own_Goes p e below (T269.setTop (mkF m 219 #[.val (.int p1), .val (.int p2), .val (.int p3), .val (.int v0), .val (.int v1), .val (.int v2), .val (.int v3), .val (.ref b101), .val (.int (4 : Int32)), .val (.ref b107), .val (.int (1 : Int32))] [(.int (4 : Int32))])) _
      refine own_st (fun _ k => XS.iconst X269.here hx rfl (hb hby at_219) k) ?_
      show own_Goes p e below (T269.setTop (mkF m 220 #[.val (.int p1), .val (.int p2), .val (.int p3), .val (.int v0), .val (.int v1), .val (.int v2), .val (.int v3), .val (.ref b101), .val (.int (4 : Int32)), .val (.ref b107), .val (.int (1 : Int32))] [(.int (4 : Int32)), (.int (4 : Int32))])) _
      refine own_st (fun _ k => XS.icmpYes X269.here hx rfl (pc0 := 220) (pc' := 236) rfl (hb hby at_220) rfl (flt (by decide : ¬ ((4 : Int32) < (4 : Int32)))).2.1 (by decide) (by decide) k) ?_
      show own_Goes p e below (T269.setTop (mkF m 236 #[.val (.int p1), .val (.int p2), .val (.int p3), .val (.int v0), .val (.int v1), .val (.int v2), .val (.int v3), .val (.ref b101), .val (.int (4 : Int32)), .val (.ref b107), .val (.int (1 : Int32))] [])) _
      refine own_st (fun _ k => XS.aload X269.here hx rfl (hb hby at_236) rfl rfl k) ?_
      show own_Goes p e below (T269.setTop (mkF m 238 #[.val (.int p1), .val (.int p2), .val (.int p3), .val (.int v0), .val (.int v1), .val (.int v2), .val (.int v3), .val (.ref b101), .val (.int (4 : Int32)), .val (.ref b107), .val (.int (1 : Int32))] [(.ref b107)])) _
      obtain ⟨_, T270, h270, L270, X270, e270, ⟨rfl, rfl, q270⟩, st270⟩ := own_callV (argsL := []) (rest := []) (pc := 238) (W := 0) (Ls := #[.val (.int p1), .val (.int p2), .val (.int p3), .val (.int v0), .val (.int v1), .val (.int v2), .val (.int v3), .val (.ref b101), .val (.int (4 : Int32)), .val (.ref b107), .val (.int (1 : Int32))]) (S := [(.ref b107)]) X269 hx hZ hown (hw _ (List.mem_of_getElem? (i := 45) rfl)) (hw _ (List.mem_of_getElem? (i := 46) rfl)) (hw _ (List.mem_of_getElem? (i := 48) rfl)) (hw _ (List.mem_of_getElem? (i := 47) rfl)) (hw _ (List.mem_of_getElem? (i := 4) rfl)) (hw _ (List.mem_of_getElem? (i := 49) rfl)) (notFace_of_selects (args := #[]) (mvT hZ (hw _ (List.mem_of_getElem? (i := 48) rfl)))) (by decide) (rm7 l Z a0 hw [] b107 h259 n0 f264 F259_limit F259_position) (by decide) (by decide) (e269.trans q269) f266 (by rw [hml]; rfl) (lenOf pd___V rfl) rfl (Nat.le_of_eq rfl) (hb hby at_238) (by decide) (by decide)
      refine own_st st270 ?_
      have N270 := Fr.app N269 (Fr.nil n0)
      show own_Goes p e below (T270.setTop (mkF m 241 #[.val (.int p1), .val (.int p2), .val (.int p3), .val (.int v0), .val (.int v1), .val (.int v2), .val (.int v3), .val (.ref b101), .val (.int (4 : Int32)), .val (.ref b107), .val (.int (1 : Int32))] [])) _
      refine own_st (fun _ k => XS.iload X270.here hx rfl (hb hby at_241) rfl k) ?_
      show own_Goes p e below (T270.setTop (mkF m 243 #[.val (.int p1), .val (.int p2), .val (.int p3), .val (.int v0), .val (.int v1), .val (.int v2), .val (.int v3), .val (.ref b101), .val (.int (4 : Int32)), .val (.ref b107), .val (.int (1 : Int32))] [(.int (1 : Int32))])) _
      exact own_retN (t := .boolean) (z' := (1 : Int32)) X270 hx hlk hret (by simp) (by decide) (hb hby at_243) (by decide) (by decide) (e270.trans q270) ⟨rfl, N270⟩
set_option maxRecDepth 65536 in
set_option maxHeartbeats 40000000 in
theorem comes_1 {Post : Tables → Env → Array Value → State → Outcome → State → Prop} (hpost : ∀ tb e args s v u, (limb_1_1.after args s (.returned v) u = true ∧ limb_1_2.after args s (.returned v) u = true ∧ True) → FrameEnd s (.returned v) u (Jvm.fieldLocs frame_1_writes args s ++ Jvm.arrayLocs frame_1_arrays args s ++ Jvm.staticLocs frame_1_statics s) 16 128 → Post tb e args s (.returned v) u) :
    ArmFor flags0 classFile x code maxLocals ret World_1 tables_1 room_1 Calls_1 rest_1 Pre_1 Post := by
  intro l hfl _ _ p e ha hc hk s m args below hf hA hF happ hP
  obtain ⟨hcalls, hrest, hpre⟩ := hP
  obtain ⟨-, -, -, hnamed, -, -, -, hat⟩ := (Spec.applies_iff hf).mp happ
  obtain ⟨hg, hn⟩ := and_e (Cond.before_iff.mp (show (Jvm.Cond.and given_1 narrow_1).before args s = true from hpre))
  obtain ⟨hcount, g0⟩ := and_e hg
  obtain ⟨q0, g1⟩ := and_e g0
  obtain ⟨q1, g2⟩ := and_e g1
  have q2 := g2
  obtain ⟨w0, w1, w2, rfl⟩ : ∃ w0 w1 w2 : Value, args = #[w0, w1, w2] := by
    have hs : args.size = 3 := by simpa [Cond.value, given_1] using hcount
    obtain ⟨L⟩ := args
    match L, hs with
    | [w0, w1, w2], _ => exact ⟨w0, w1, w2, rfl⟩
  obtain ⟨i0, ei0⟩ := is_v q0
  obtain rfl : w0 = (.int i0) := Option.some.inj ei0
  obtain ⟨i1, ei1⟩ := is_v q1
  obtain rfl : w1 = (.int i1) := Option.some.inj ei1
  obtain ⟨i2, ei2⟩ := is_v q2
  obtain rfl : w2 = (.int i2) := Option.some.inj ei2
  have hw := fun d (hd : d ∈ tables_1) => atoms_spec (ws := Jvm.Cond.code x code maxLocals ret :: tables_1) hat d (List.mem_cons_of_mem _ hd)
  have hfit : Fit s := fun {y c} hc i hi => by
    obtain ⟨ha, rfl⟩ := Array.getElem?_eq_some_iff.mp hc
    have q := List.all_eq_true.mp ((Array.all_eq_true_iff_forall_mem.mp hF) _ (Array.getElem_mem ha)) i (List.mem_range.mpr hi)
    simpa [Array.getElem?_eq_getElem hi] using q
  obtain ⟨n, o, h1, h2, h3, _, L, rfl, ⟨rfl, N⟩, hq⟩ := rm0 l s _ hw tables_1 i0 i1 i2 s.heap s.heap.size (Nat.le_refl _)  p e ha hc hk s m _ below hf ((Spec.applies_iff_loose hf).mp happ).1 ⟨rfl, State.Warmed39.refl s, rfl⟩ trivial
  refine ⟨n, _, h1, h2, h3, hpost _ _ _ _ _ _ ⟨Cond.after_iff.mpr rfl, Cond.after_iff.mpr (eq_i res_at (Term.int_eval (1)) rfl), trivial⟩ ⟨hq.1, hq.2.1, (hq.2.2.sift fun y hy => Or.inr (N y hy)).mono (by decide) (by decide)⟩⟩
theorem main_1_1 : Claimed_1_1 := comes_1 fun _ _ _ _ _ _ h hF => ⟨h.1, hF⟩
theorem main_1_2 : Claimed_1_2 := comes_1 fun _ _ _ _ _ _ h hF => ⟨h.2.1, hF⟩
end Jvm.Pilot.@@N@@
namespace Jvm.Pilot.@@N@@
open Jvm Jvm.ClassFile Sem Op Lib Jvm.Free Jvm.Stand Jvm.Pilot.@@N@@.Jvm.D
/-! MADE BY PROGRAM (witnessworld.py) out of the Statement's table words and the real class files: 15 classes; the members and pool entries that the words name. The judged class is class 1, her method 1. -/
namespace start1
open Jvm.ClassFile
def u (s : String) : CpInfo := .utf8 (stringToUtf16 s)
/-- a pool by its gaps: so many unusable entries, then the entry; so many at the end -/
def gap : Nat → List CpInfo → List CpInfo
  | 0, r => r
  | n + 1, r => .unusable :: gap n r
def poolList (es : List (Nat × CpInfo)) (last : Nat) : List CpInfo := es.foldr (fun e r => gap e.1 (e.2 :: r)) (gap last [])
def pool (es : List (Nat × CpInfo)) (last : Nat) : Array CpInfo := ⟨poolList es last⟩
def fileOf (pool : Array CpInfo) (this : Nat) (attrs : Array Attribute := #[]) (ms : Array MethodInfo := #[]) (fl : Nat := 33) (sup : Nat := 0) (ifs : Array Nat := #[]) (fds : Array FieldInfo := #[]) : ClassFile where
  minorVersion := 0
  majorVersion := 65
  constantPool := pool
  accessFlags := fl
  thisClass := this
  superClass := sup
  interfaces := ifs
  fields := fds
  methods := ms
  attributes := attrs
def plain (name : String) (sup : Option ClassId) : Class where
  name := name
  kind := .ordinary
  loader := none
  accessFlags := 33
  super := sup
  interfaces := #[]
  cf := none
  fields := #[]
  methods := #[]
  instanceTypes := #[]
  staticTypes := #[]
  resolved := #[]
  callSites := []
  init := .initialized
  statics := none
  mirror := none

def pool0 : Array CpInfo := pool [(5, u "<init>"), (0, u "()V"), (1, .class_ 10), (1, u "java/lang/Object")] 113

def k0c0 : Code := { maxStack := 0, maxLocals := 1, code := object_method_1_code, exceptionTable := #[], attributes := #[] }
def k0m0 : Method := { name := "<init>", desc := "()V", sig := { parameters := [], returnType := none }, accessFlags := 1, code := some k0c0 }
/-- java/lang/Object -/
def k0 : Class := { plain "java/lang/Object" none with
  accessFlags := 33
  interfaces := #[]
  cf := some (fileOf pool0 8 #[] #[{ accessFlags := 1, nameIndex := 5, descriptorIndex := 6, attributes := #[] }] 33 0 #[] #[])
  fields := #[]
  methods := #[k0m0]
  instanceTypes := #[]
  staticTypes := #[]
  resolved := Array.replicate 124 none
  statics := none }

def pool1 : Array CpInfo := pool [(2, .class_ 4), (1, u "java/lang/Object"), (0, u "<init>"), (0, u "()V"), (0, .integer 2147483647), (0, .class_ 9), (0, u "com/example/forseti/forseti/core/SavedBytes$Input"), (0, .methodref 8 11), (0, .nameAndType 5 12), (0, u "([B)V"), (0, .methodref 8 14), (0, .nameAndType 15 16), (0, u "flag"), (0, u "()I"), (0, .methodref 8 18), (0, .nameAndType 19 6), (0, u "startWrite"), (0, .methodref 8 21), (0, .nameAndType 22 6), (0, u "end"), (0, .class_ 24), (0, u "com/example/forseti/forseti/core/InputStartWritePinLaw"), (2, u "law"), (0, u "(III)Z")] 9

def k1m0 : Method := { name := "<init>", desc := "()V", sig := { parameters := [], returnType := none }, accessFlags := 1, code := none }
def k1c1 : Code := { maxStack := 4, maxLocals := 11, code := code, exceptionTable := #[], attributes := #[] }
def k1m1 : Method := { name := "law", desc := "(III)Z", sig := { parameters := [.int, .int, .int], returnType := some .boolean }, accessFlags := 9, code := some k1c1 }
/-- com/example/forseti/forseti/core/InputStartWritePinLaw -/
def k1 : Class := { plain "com/example/forseti/forseti/core/InputStartWritePinLaw" (some 0) with
  accessFlags := 49
  interfaces := #[]
  cf := some (fileOf pool1 23 #[] #[{ accessFlags := 1, nameIndex := 5, descriptorIndex := 6, attributes := #[] }, { accessFlags := 9, nameIndex := 27, descriptorIndex := 28, attributes := #[] }] 49 2 #[] #[])
  fields := #[]
  methods := #[k1m0, k1m1]
  instanceTypes := #[]
  staticTypes := #[]
  resolved := Array.replicate 38 none
  statics := none }

def pool2 : Array CpInfo := pool [(1, .class_ 2), (0, u "com/example/forseti/forseti/core/SavedBytes"), (0, .class_ 4), (0, u "[B"), (0, .methodref 6 7), (0, .class_ 8), (0, .nameAndType 9 10), (0, u "com/example/forseti/forseti/core/SavedBytes$Input"), (0, u "<init>"), (0, u "([[BI)V"), (2, u "([B)V"), (0, .fieldref 6 15), (0, .nameAndType 16 17), (0, u "terms"), (0, u "[Ljava/lang/String;"), (2, u "analysesCurrent"), (0, u "Z"), (0, .methodref 23 24), (0, .class_ 25), (0, .nameAndType 9 26), (0, u "java/lang/Object"), (0, u "()V"), (0, .class_ 28), (0, u "java/lang/String"), (0, .fieldref 6 30), (0, .nameAndType 31 32), (0, u "pieces"), (0, u "[[B"), (0, .fieldref 6 34), (0, .nameAndType 35 36), (0, u "lastLimit"), (0, u "I"), (0, .fieldref 6 38), (0, .nameAndType 39 4), (0, u "bytes"), (0, .fieldref 6 41), (0, .nameAndType 42 36), (0, u "limit"), (2, u "vectorsAllDoubles"), (0, .fieldref 6 47), (0, .nameAndType 48 36), (0, u "position"), (0, .fieldref 6 50), (0, .nameAndType 51 36), (0, u "piece"), (0, .methodref 6 53), (0, .nameAndType 54 55), (0, u "need"), (0, u "(J)V"), (4, u "flag"), (0, u "()I"), (100, u "startWrite"), (8, u "end")] 33

def k2c0 : Code := { maxStack := 5, maxLocals := 2, code := prog_77_method_1_code, exceptionTable := #[], attributes := #[] }
def k2m0 : Method := { name := "<init>", desc := "([B)V", sig := { parameters := [(.array .byte)], returnType := none }, accessFlags := 0, code := some k2c0 }
def k2c1 : Code := { maxStack := 3, maxLocals := 3, code := prog_77_method_4_code, exceptionTable := #[], attributes := #[] }
def k2m1 : Method := { name := "<init>", desc := "([[BI)V", sig := { parameters := [(.array (.array .byte)), .int], returnType := none }, accessFlags := 2, code := some k2c1 }
def k2c2 : Code := { maxStack := 3, maxLocals := 1, code := prog_77_method_7_code, exceptionTable := #[], attributes := #[] }
def k2m2 : Method := { name := "startWrite", desc := "()V", sig := { parameters := [], returnType := none }, accessFlags := 0, code := some k2c2 }
def k2c3 : Code := { maxStack := 5, maxLocals := 1, code := prog_77_method_8_code, exceptionTable := #[], attributes := #[] }
def k2m3 : Method := { name := "flag", desc := "()I", sig := { parameters := [], returnType := some .int }, accessFlags := 0, code := some k2c3 }
def k2c4 : Code := { maxStack := 2, maxLocals := 1, code := prog_77_method_19_code, exceptionTable := #[], attributes := #[] }
def k2m4 : Method := { name := "end", desc := "()V", sig := { parameters := [], returnType := none }, accessFlags := 0, code := some k2c4 }
def k2c5 : Code := { maxStack := 4, maxLocals := 3, code := prog_77_method_21_code, exceptionTable := #[], attributes := #[] }
def k2m5 : Method := { name := "need", desc := "(J)V", sig := { parameters := [.long], returnType := none }, accessFlags := 2, code := some k2c5 }
/-- com/example/forseti/forseti/core/SavedBytes$Input -/
def k2 : Class := { plain "com/example/forseti/forseti/core/SavedBytes$Input" (some 0) with
  accessFlags := 32
  interfaces := #[]
  cf := some (fileOf pool2 6 #[.nestHost 1] #[{ accessFlags := 0, nameIndex := 9, descriptorIndex := 13, attributes := #[] }, { accessFlags := 2, nameIndex := 9, descriptorIndex := 10, attributes := #[] }, { accessFlags := 0, nameIndex := 162, descriptorIndex := 26, attributes := #[] }, { accessFlags := 0, nameIndex := 60, descriptorIndex := 61, attributes := #[] }, { accessFlags := 0, nameIndex := 171, descriptorIndex := 26, attributes := #[] }, { accessFlags := 2, nameIndex := 54, descriptorIndex := 55, attributes := #[] }] 32 23 #[] #[{ accessFlags := 18, nameIndex := 31, descriptorIndex := 32, attributes := #[] }, { accessFlags := 18, nameIndex := 35, descriptorIndex := 36, attributes := #[] }, { accessFlags := 2, nameIndex := 51, descriptorIndex := 36, attributes := #[] }, { accessFlags := 2, nameIndex := 39, descriptorIndex := 4, attributes := #[] }, { accessFlags := 2, nameIndex := 42, descriptorIndex := 36, attributes := #[] }, { accessFlags := 2, nameIndex := 48, descriptorIndex := 36, attributes := #[] }, { accessFlags := 2, nameIndex := 16, descriptorIndex := 17, attributes := #[] }, { accessFlags := 2, nameIndex := 20, descriptorIndex := 21, attributes := #[] }, { accessFlags := 2, nameIndex := 45, descriptorIndex := 21, attributes := #[] }])
  fields := #[{ name := "pieces", type := (.array (.array .byte)), accessFlags := 18, slot := 0, constantValue := 0 }, { name := "lastLimit", type := .int, accessFlags := 18, slot := 1, constantValue := 0 }, { name := "piece", type := .int, accessFlags := 2, slot := 2, constantValue := 0 }, { name := "bytes", type := (.array .byte), accessFlags := 2, slot := 3, constantValue := 0 }, { name := "limit", type := .int, accessFlags := 2, slot := 4, constantValue := 0 }, { name := "position", type := .int, accessFlags := 2, slot := 5, constantValue := 0 }, { name := "terms", type := (.array (.object "java/lang/String")), accessFlags := 2, slot := 6, constantValue := 0 }, { name := "analysesCurrent", type := .boolean, accessFlags := 2, slot := 7, constantValue := 0 }, { name := "vectorsAllDoubles", type := .boolean, accessFlags := 2, slot := 8, constantValue := 0 }]
  methods := #[k2m0, k2m1, k2m2, k2m3, k2m4, k2m5]
  instanceTypes := #[(.array (.array .byte)), .int, .int, (.array .byte), .int, .int, (.array (.object "java/lang/String")), .boolean, .boolean]
  staticTypes := #[]
  resolved := Array.replicate 205 none
  statics := none }

def pool3 : Array CpInfo := pool [(1, .class_ 2), (0, u "java/io/Serializable"), (0, .class_ 4), (0, u "java/lang/Object")] 2

/-- java/io/Serializable -/
def k3 : Class := { plain "java/io/Serializable" (some 0) with
  accessFlags := 1537
  interfaces := #[]
  cf := some (fileOf pool3 1 #[] #[] 1537 3 #[] #[])
  fields := #[]
  methods := #[]
  instanceTypes := #[]
  staticTypes := #[]
  resolved := Array.replicate 7 none
  statics := none }

def pool4 : Array CpInfo := pool [(1, .class_ 2), (0, u "java/lang/Comparable"), (0, .class_ 4), (0, u "java/lang/Object")] 7

/-- java/lang/Comparable -/
def k4 : Class := { plain "java/lang/Comparable" (some 0) with
  accessFlags := 1537
  interfaces := #[]
  cf := some (fileOf pool4 1 #[] #[] 1537 3 #[] #[])
  fields := #[]
  methods := #[]
  instanceTypes := #[]
  staticTypes := #[]
  resolved := Array.replicate 12 none
  statics := none }

def pool5 : Array CpInfo := pool [(2, .class_ 4), (1, u "java/lang/CharSequence"), (42, .class_ 48), (0, u "java/lang/CharSequence$1CodePointIterator"), (10, .class_ 60), (0, u "java/lang/CharSequence$1CharIterator"), (5, .class_ 67), (0, u "java/lang/Object")] 63

/-- java/lang/CharSequence -/
def k5 : Class := { plain "java/lang/CharSequence" (some 0) with
  accessFlags := 1537
  interfaces := #[]
  cf := some (fileOf pool5 2 #[.nestMembers #[47, 59]] #[] 1537 66 #[] #[])
  fields := #[]
  methods := #[]
  instanceTypes := #[]
  staticTypes := #[]
  resolved := Array.replicate 131 none
  statics := none }

def pool6 : Array CpInfo := pool [(1, .class_ 2), (0, u "java/lang/constant/Constable"), (0, .class_ 4), (0, u "java/lang/Object")] 6

/-- java/lang/constant/Constable -/
def k6 : Class := { plain "java/lang/constant/Constable" (some 0) with
  accessFlags := 1537
  interfaces := #[]
  cf := some (fileOf pool6 1 #[] #[] 1537 3 #[] #[])
  fields := #[]
  methods := #[]
  instanceTypes := #[]
  staticTypes := #[]
  resolved := Array.replicate 11 none
  statics := none }

def pool7 : Array CpInfo := pool [(1, .class_ 2), (0, u "java/lang/constant/ConstantDesc"), (0, .class_ 4), (0, u "java/lang/Object")] 32

/-- java/lang/constant/ConstantDesc -/
def k7 : Class := { plain "java/lang/constant/ConstantDesc" (some 0) with
  accessFlags := 1537
  interfaces := #[]
  cf := some (fileOf pool7 1 #[] #[] 1537 3 #[] #[])
  fields := #[]
  methods := #[]
  instanceTypes := #[]
  staticTypes := #[]
  resolved := Array.replicate 37 none
  statics := none }

def pool8 : Array CpInfo := pool [(2, .class_ 4), (1, u "java/lang/Object"), (0, u "<init>"), (0, u "()V"), (3, .class_ 12), (1, u "java/lang/String"), (0, u "value"), (0, u "[B"), (2, u "coder"), (0, u "B"), (2, u "hash"), (0, u "I"), (2, u "hashIsZero"), (0, u "Z"), (13, u "COMPACT_STRINGS"), (534, .class_ 576), (0, u "java/lang/CharSequence"), (22, u "CASE_INSENSITIVE_ORDER"), (0, u "Ljava/util/Comparator;"), (500, u "serialPersistentFields"), (0, u "[Ljava/io/ObjectStreamField;"), (0, .class_ 1104), (0, u "java/lang/String$CaseInsensitiveComparator"), (1, .class_ 1107), (0, u "java/io/Serializable"), (0, .class_ 1109), (0, u "java/lang/Comparable"), (0, .class_ 1111), (0, u "java/lang/constant/Constable"), (0, .class_ 1113), (0, u "java/lang/constant/ConstantDesc"), (2, u "serialVersionUID"), (0, u "J"), (3, u "REPL"), (0, u "C"), (2, u "LATIN1"), (1, u "UTF16")] 323

def k8m0 : Method := { name := "<init>", desc := "()V", sig := { parameters := [], returnType := none }, accessFlags := 1, code := none }
/-- java/lang/String -/
def k8 : Class := { plain "java/lang/String" (some 0) with
  accessFlags := 49
  interfaces := #[3, 4, 5, 6, 7]
  cf := some (fileOf pool8 10 #[.nestMembers #[1103]] #[{ accessFlags := 1, nameIndex := 5, descriptorIndex := 6, attributes := #[] }] 49 2 #[1106, 1108, 575, 1110, 1112] #[{ accessFlags := 18, nameIndex := 13, descriptorIndex := 14, attributes := #[] }, { accessFlags := 18, nameIndex := 17, descriptorIndex := 18, attributes := #[] }, { accessFlags := 2, nameIndex := 21, descriptorIndex := 22, attributes := #[] }, { accessFlags := 2, nameIndex := 25, descriptorIndex := 26, attributes := #[] }, { accessFlags := 26, nameIndex := 1116, descriptorIndex := 1117, attributes := #[] }, { accessFlags := 24, nameIndex := 40, descriptorIndex := 26, attributes := #[] }, { accessFlags := 26, nameIndex := 1101, descriptorIndex := 1102, attributes := #[] }, { accessFlags := 26, nameIndex := 1121, descriptorIndex := 1122, attributes := #[] }, { accessFlags := 25, nameIndex := 599, descriptorIndex := 600, attributes := #[] }, { accessFlags := 24, nameIndex := 1125, descriptorIndex := 18, attributes := #[] }, { accessFlags := 24, nameIndex := 1127, descriptorIndex := 18, attributes := #[] }])
  fields := #[{ name := "value", type := (.array .byte), accessFlags := 18, slot := 0, constantValue := 0 }, { name := "coder", type := .byte, accessFlags := 18, slot := 1, constantValue := 0 }, { name := "hash", type := .int, accessFlags := 2, slot := 2, constantValue := 0 }, { name := "hashIsZero", type := .boolean, accessFlags := 2, slot := 3, constantValue := 0 }, { name := "serialVersionUID", type := .long, accessFlags := 26, slot := 0, constantValue := 0 }, { name := "COMPACT_STRINGS", type := .boolean, accessFlags := 24, slot := 1, constantValue := 0 }, { name := "serialPersistentFields", type := (.array (.object "java/io/ObjectStreamField")), accessFlags := 26, slot := 2, constantValue := 0 }, { name := "REPL", type := .char, accessFlags := 26, slot := 3, constantValue := 0 }, { name := "CASE_INSENSITIVE_ORDER", type := (.object "java/util/Comparator"), accessFlags := 25, slot := 4, constantValue := 0 }, { name := "LATIN1", type := .byte, accessFlags := 24, slot := 5, constantValue := 0 }, { name := "UTF16", type := .byte, accessFlags := 24, slot := 6, constantValue := 0 }]
  methods := #[k8m0]
  instanceTypes := #[(.array .byte), .byte, .int, .boolean]
  staticTypes := #[.long, .boolean, (.array (.object "java/io/ObjectStreamField")), .char, (.object "java/util/Comparator"), .byte, .byte]
  resolved := Array.replicate 1451 none
  statics := none }

def pool9 : Array CpInfo := pool [(1, u "java/lang/Cloneable"), (0, .class_ 1), (0, u "java/lang/Object"), (0, .class_ 3)] 3

/-- java/lang/Cloneable -/
def k9 : Class := { plain "java/lang/Cloneable" (some 0) with
  accessFlags := 1537
  interfaces := #[]
  cf := some (fileOf pool9 2 #[] #[] 1537 4 #[] #[])
  fields := #[]
  methods := #[]
  instanceTypes := #[]
  staticTypes := #[]
  resolved := Array.replicate 8 none
  statics := none }

/-- the primitive byte -/
def k10 : Class := { plain "byte" none with kind := .primitive 'B', accessFlags := 0x411 }
/-- [B -/
def k11 : Class := { plain "[B" (some 0) with kind := .array 10 .byte, interfaces := #[9, 3], accessFlags := 1041 }

/-- the primitive int -/
def k12 : Class := { plain "int" none with kind := .primitive 'I', accessFlags := 0x411 }
/-- [I -/
def k13 : Class := { plain "[I" (some 0) with kind := .array 12 .int, interfaces := #[9, 3], accessFlags := 1041 }

/-- [Ljava/lang/String; -/
def k14 : Class := { plain "[Ljava/lang/String;" (some 0) with kind := .array 8 (.object "java/lang/String"), interfaces := #[9, 3], accessFlags := 1041 }

def k15 : Class := { plain "[[B" (some 0) with kind := .array 11 (.array .byte), interfaces := #[9, 3], accessFlags := 1041 }
def heap : Heap := #[]
def classes : Array Class := #[k0, k1, k2, k3, k4, k5, k6, k7, k8, k9, k10, k11, k12, k13, k14, k15]
def interned : List (Array UInt16 × Addr) := []
def slotsUsed : Nat := 0
def theMethod : MethodId := ⟨1, 1⟩
def args0 : Array Value := #[.int 5, .int 7, .int 3]
def aboutOver (below : List Frame) : State where
  vm := { classes := classes, interned := interned.toArray }
  heap := heap
  slotsUsed := slotsUsed
  threads := #[{ frames := .invoking theMethod args0 :: below }]
def below0 : List Frame := [.native { method := ⟨0, 0⟩, args := #[] }]
def about1 : State := aboutOver below0
def p0 : Program := .bare "" "" ""
def e0 : Env := launch0.env 0 0 0
theorem w_frames : about1.frames = Frame.invoking theMethod args0 :: below0 := rfl
set_option maxRecDepth 65536 in
theorem w_args : argsFit about1.vm theMethod args0 = true := by decide +kernel
set_option maxRecDepth 65536 in
theorem w_heap : heapFits about1 = true := by decide +kernel
set_option maxRecDepth 65536 in
theorem w_runnable : about1.curStatus? = some .runnable := by decide +kernel
set_option maxRecDepth 65536 in
theorem w_alone : about1.alone = true := by decide +kernel
set_option maxRecDepth 65536 in
theorem w_named : about1.methodNamed? x = some theMethod := by decide +kernel
set_option maxRecDepth 65536 in
theorem w_hears : about1.hears theMethod below0 = true := by decide +kernel
set_option maxRecDepth 65536 in
theorem w_ripe : about1.ripe theMethod args0 below0 = true := by decide +kernel
theorem w_running : about1.status = .running := rfl
set_option maxRecDepth 65536 in
theorem w_room : about1.hasRoom e0.platform room_1 = true :=
  launch0.hasRoom_least _ room_1 (by decide +kernel) (by decide +kernel) (by decide +kernel) (by decide +kernel) (by decide +kernel) (by decide +kernel)
theorem allAtoms_all (ts : List Jvm.Cond) (a : Array Jvm.Value) (st : Jvm.State) : (allAtoms ts).before a st = ts.all (fun c => c.before a st) := by
  induction ts with
  | nil => rfl
  | cons c t ih =>
    show (Jvm.Cond.and c (allAtoms t)).before a st = _
    rw [Jvm.Cond.before_and, ih, List.all_cons]
def words1 : List Jvm.Cond := Jvm.Cond.code x code maxLocals ret :: tables_1
/-- a 'code' word, met by the world's own term for the bytes: nothing is compared byte by byte -/
theorem code_word {y : MethodName} {bytes : ByteArray} {mx : Nat} {rt : Option FieldType} {a : Array Value} {s : State} {m : MethodId} {meth : Method} {c : Code} (h1 : s.methodNamed? y = some m) (h2 : s.vm.method? m = some meth) (h3 : meth.code = some c) (h4 : c.code = bytes)
    (h5 : (c.maxLocals == mx && c.exceptionTable.isEmpty && decide (c.maxStack ≤ mostOperands) && decide (meth.sig.returnType = rt) && !meth.locks && decide (parseMethodDescriptor y.desc = some meth.sig)) = true) : (Jvm.Cond.code y bytes mx rt).before a s = true := by
  simp only [Bool.and_eq_true, beq_iff_eq, Bool.not_eq_true', decide_eq_true_eq] at h5
  obtain ⟨⟨⟨⟨⟨g1, g2⟩, g3⟩, g4⟩, g5⟩, g6⟩ := h5
  simp [Cond.before, Cond.holds, Cond.value, h1, h2, h3, h4, g1, g2, g3, g4, g5, g6]
def isCode : Jvm.Cond → Bool
  | .code _ _ _ _ => true
  | _ => false
theorem all_split {L : List Jvm.Cond} {P : Jvm.Cond → Bool} (h1 : L.all (fun c => isCode c || P c) = true) (h2 : ∀ c ∈ L.filter isCode, P c = true) : L.all P = true := by
  refine List.all_eq_true.mpr fun c hc => ?_
  have h := List.all_eq_true.mp h1 c hc
  rcases Bool.eq_false_or_eq_true (isCode c) with hi | hi
  · exact h2 c (List.mem_filter.mpr ⟨hc, hi⟩)
  · simpa [hi] using h
set_option maxRecDepth 65536 in
theorem w_c0 : (Jvm.Cond.code x code maxLocals ret).before args0 about1 = true := code_word (m := ⟨1, 1⟩) (meth := k1m1) (c := k1c1) (by decide +kernel) rfl rfl rfl (by decide +kernel)
set_option maxRecDepth 65536 in
theorem w_c1 : (Jvm.Cond.code ({ cls := "com/example/forseti/forseti/core/SavedBytes$Input", name := "<init>", desc := "([B)V" } : Jvm.MethodName) prog_77_method_1_code (2 : Nat) (Option.none : Option Jvm.ClassFile.FieldType)).before args0 about1 = true := code_word (m := ⟨2, 0⟩) (meth := k2m0) (c := k2c0) (by decide +kernel) rfl rfl rfl (by decide +kernel)
set_option maxRecDepth 65536 in
theorem w_c2 : (Jvm.Cond.code ({ cls := "com/example/forseti/forseti/core/SavedBytes$Input", name := "<init>", desc := "([[BI)V" } : Jvm.MethodName) prog_77_method_4_code (3 : Nat) (Option.none : Option Jvm.ClassFile.FieldType)).before args0 about1 = true := code_word (m := ⟨2, 1⟩) (meth := k2m1) (c := k2c1) (by decide +kernel) rfl rfl rfl (by decide +kernel)
set_option maxRecDepth 65536 in
theorem w_c3 : (Jvm.Cond.code ({ cls := "java/lang/Object", name := "<init>", desc := "()V" } : Jvm.MethodName) object_method_1_code (1 : Nat) (Option.none : Option Jvm.ClassFile.FieldType)).before args0 about1 = true := code_word (m := ⟨0, 0⟩) (meth := k0m0) (c := k0c0) (by decide +kernel) rfl rfl rfl (by decide +kernel)
set_option maxRecDepth 65536 in
theorem w_c4 : (Jvm.Cond.code ({ cls := "com/example/forseti/forseti/core/SavedBytes$Input", name := "flag", desc := "()I" } : Jvm.MethodName) prog_77_method_8_code (1 : Nat) (Option.some Jvm.ClassFile.FieldType.int)).before args0 about1 = true := code_word (m := ⟨2, 3⟩) (meth := k2m3) (c := k2c3) (by decide +kernel) rfl rfl rfl (by decide +kernel)
set_option maxRecDepth 65536 in
theorem w_c5 : (Jvm.Cond.code ({ cls := "com/example/forseti/forseti/core/SavedBytes$Input", name := "need", desc := "(J)V" } : Jvm.MethodName) prog_77_method_21_code (3 : Nat) (Option.none : Option Jvm.ClassFile.FieldType)).before args0 about1 = true := code_word (m := ⟨2, 5⟩) (meth := k2m5) (c := k2c5) (by decide +kernel) rfl rfl rfl (by decide +kernel)
set_option maxRecDepth 65536 in
theorem w_c6 : (Jvm.Cond.code ({ cls := "com/example/forseti/forseti/core/SavedBytes$Input", name := "startWrite", desc := "()V" } : Jvm.MethodName) prog_77_method_7_code (1 : Nat) (Option.none : Option Jvm.ClassFile.FieldType)).before args0 about1 = true := code_word (m := ⟨2, 2⟩) (meth := k2m2) (c := k2c2) (by decide +kernel) rfl rfl rfl (by decide +kernel)
set_option maxRecDepth 65536 in
theorem w_c7 : (Jvm.Cond.code ({ cls := "com/example/forseti/forseti/core/SavedBytes$Input", name := "end", desc := "()V" } : Jvm.MethodName) prog_77_method_19_code (1 : Nat) (Option.none : Option Jvm.ClassFile.FieldType)).before args0 about1 = true := code_word (m := ⟨2, 4⟩) (meth := k2m4) (c := k2c4) (by decide +kernel) rfl rfl rfl (by decide +kernel)
def codes1 : List Jvm.Cond := [Jvm.Cond.code x code maxLocals ret, Jvm.Cond.code ({ cls := "com/example/forseti/forseti/core/SavedBytes$Input", name := "<init>", desc := "([B)V" } : Jvm.MethodName) prog_77_method_1_code (2 : Nat) (Option.none : Option Jvm.ClassFile.FieldType), Jvm.Cond.code ({ cls := "com/example/forseti/forseti/core/SavedBytes$Input", name := "<init>", desc := "([[BI)V" } : Jvm.MethodName) prog_77_method_4_code (3 : Nat) (Option.none : Option Jvm.ClassFile.FieldType), Jvm.Cond.code ({ cls := "java/lang/Object", name := "<init>", desc := "()V" } : Jvm.MethodName) object_method_1_code (1 : Nat) (Option.none : Option Jvm.ClassFile.FieldType), Jvm.Cond.code ({ cls := "com/example/forseti/forseti/core/SavedBytes$Input", name := "flag", desc := "()I" } : Jvm.MethodName) prog_77_method_8_code (1 : Nat) (Option.some Jvm.ClassFile.FieldType.int), Jvm.Cond.code ({ cls := "com/example/forseti/forseti/core/SavedBytes$Input", name := "need", desc := "(J)V" } : Jvm.MethodName) prog_77_method_21_code (3 : Nat) (Option.none : Option Jvm.ClassFile.FieldType), Jvm.Cond.code ({ cls := "com/example/forseti/forseti/core/SavedBytes$Input", name := "startWrite", desc := "()V" } : Jvm.MethodName) prog_77_method_7_code (1 : Nat) (Option.none : Option Jvm.ClassFile.FieldType), Jvm.Cond.code ({ cls := "com/example/forseti/forseti/core/SavedBytes$Input", name := "end", desc := "()V" } : Jvm.MethodName) prog_77_method_19_code (1 : Nat) (Option.none : Option Jvm.ClassFile.FieldType)]
set_option maxRecDepth 65536 in
theorem codes_eq : words1.filter isCode = codes1 := rfl
theorem w_codes : ∀ c ∈ words1.filter isCode, c.before args0 about1 = true := by
  rw [codes_eq]
  intro c hc
  simp only [codes1, List.mem_cons, List.not_mem_nil, or_false] at hc
  rcases hc with rfl | rfl | rfl | rfl | rfl | rfl | rfl | rfl
  · exact w_c0
  · exact w_c1
  · exact w_c2
  · exact w_c3
  · exact w_c4
  · exact w_c5
  · exact w_c6
  · exact w_c7
set_option maxRecDepth 65536 in
theorem w_t1 : (words1.take 24).all (fun c => isCode c || c.before args0 about1) = true := by decide +kernel
set_option maxRecDepth 65536 in
theorem w_t2 : ((words1.drop 24).take 24).all (fun c => isCode c || c.before args0 about1) = true := by decide +kernel
set_option maxRecDepth 65536 in
theorem w_t3 : ((words1.drop 24).drop 24).all (fun c => isCode c || c.before args0 about1) = true := by decide +kernel
theorem w_tables : (allAtoms (Jvm.Cond.code x code maxLocals ret :: tables_1)).before args0 about1 = true := by
  rw [allAtoms_all]
  show words1.all (fun c => c.before args0 about1) = true
  refine all_split ?_ w_codes
  rw [← List.take_append_drop 24 words1, List.all_append, w_t1, ← List.take_append_drop 24 (words1.drop 24), List.all_append, w_t2, w_t3]
  rfl
set_option maxRecDepth 65536 in
theorem w_case : (Jvm.Cond.and given_1 narrow_1).before args0 about1 = true := by decide +kernel
theorem w_applies : (headSpec (Jvm.Cond.code x code maxLocals ret :: tables_1) room_1).applies x e0.platform about1 = true :=
  (Spec.applies_iff w_frames).mpr ⟨w_running, w_runnable, w_alone, w_named, w_hears, w_ripe, w_room, w_tables⟩
theorem atStart : AtStart classFile x code maxLocals ret World_1 tables_1 room_1 Calls_1 rest_1 Pre_1 launch0 p0 e0 about1 theMethod args0 below0 :=
  ⟨lists_1, trivial, launch0.admits_env _ _ _, launch0.least_env, fairChoices_fair.cas, fairChoices_fair.clock, w_frames, w_args, w_heap, w_applies, trivial, trivial, w_case⟩
end start1
theorem witness_1 : WitnessClaimed_1 := ⟨start1.p0, start1.e0, start1.about1, start1.theMethod, start1.args0, start1.below0, start1.atStart⟩
end Jvm.Pilot.@@N@@
