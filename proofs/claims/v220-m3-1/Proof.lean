import JvmDerived
import JvmDerived.Pilot.@@N@@Statement
import JvmDerived.Pilot.@@N@@Code
set_option linter.unusedVariables false
set_option linter.unusedSimpArgs false
namespace Jvm.Pilot.@@N@@
open Jvm Jvm.ClassFile Sem Op Lib Jvm.Free Jvm.Stand Jvm.LawKit Jvm.RoadKit Bundle Jvm.Pilot.@@N@@.Jvm.D
/-! 0. the walk's own layer: a run that comes to its end, step by step -/
def own_Goes (p : Program) (e : Env) (below : List Frame) (A : State) (G : Outcome → State → Prop) : Prop :=
  ∃ s₂ o, Steps p.tables e below A s₂ ∧ s₂.status = .running ∧ Ended s₂ below o ∧ G o s₂
def own_post (s : State) (Q : Option Value → Heap → List Loc → Prop) (rc rs : Nat) : Outcome → State → Prop :=
  fun o U' => ∃ v L, o = .returned v ∧ Q v U'.heap L ∧ FrameEnd s o U' L rc rs
section Own
variable {p : Program} {l : Launch} {e : Env} {R : Room} {s : State} {m : MethodId} {args : Array Value} {below : List Frame} {meth : Method} {c : Code} {T : State} {locs : List Loc} {cells slots : Nat} {G : Outcome → State → Prop} {Q : Option Value → Heap → List Loc → Prop} {rc rs : Nat} {Z : State} {a0 : Array Value} {h : Heap}
theorem own_st {A B : State} (st : ∀ t, Steps p.tables e below B t → Steps p.tables e below A t) (k : own_Goes p e below B G) : own_Goes p e below A G := by
  obtain ⟨s₂, o, h1, h2⟩ := k; exact ⟨s₂, o, st _ h1, h2⟩
theorem own_join {B : State} {K : (Outcome → State → Prop) → Prop} (h1 : K G) (h2 : K G → own_Goes p e below B G) : own_Goes p e below B G := h2 h1
theorem own_ret {S : List Value} {pc : Nat} {Ls : Array Slot} {w : Value} {t : FieldType} (X : Stand p l e R s m args below meth c T locs cells slots) (hlk : meth.locks = false) (hret : meth.sig.returnType = some t)
    (st : ∀ fs, (∀ (f : JFrame) (acts : List Action), f.method = m → f.locked = none → f.entered = [] → (doReturn e (T.setTop f) acts (some w)).1 = T.setFrames fs) → Steps p.tables e below (T.setTop (mkF m pc Ls S)) (T.setFrames fs))
    (hc : cells ≤ rc) (hs : slots ≤ rs) (eT : T.heap = h) (hq : Q (some w) h locs) : own_Goes p e below (T.setTop (mkF m pc Ls S)) (own_post s Q rc rs) := by
  subst eT
  obtain ⟨fs, hr, hrun, hended, hW, hsame⟩ := X.leave (v := some w) (fun h => by rw [hret] at h; cases h) hlk
  exact ⟨_, _, st fs hr, hrun, hended, _, _, rfl, hq, ⟨_, rfl⟩, hW, hsame.mono hc hs⟩
theorem own_retI {rest : List Value} {pc : Nat} {Ls : Array Slot} {z : Int32} (X : Stand p l e R s m args below meth c T locs cells slots) (hx : p.tables.exec = Jvm.exec) (hlk : meth.locks = false) (hret : meth.sig.returnType = some .int) (hd : decode c.code pc = .ok (.ireturn, 1))
    (hc : cells ≤ rc) (hs : slots ≤ rs) (eT : T.heap = h) (hq : Q (some (.int z)) h locs) : own_Goes p e below (T.setTop (mkF m pc Ls (.int z :: rest))) (own_post s Q rc rs) :=
  own_ret X hlk hret (fun fs hr => retOut X hx hret rfl (Or.inl ⟨rfl, Or.inl rfl, z, rfl⟩) hd hr) hc hs eT hq
theorem own_retN {rest : List Value} {pc : Nat} {Ls : Array Slot} {z z' : Int32} {t : FieldType} (X : Stand p l e R s m args below meth c T locs cells slots) (hx : p.tables.exec = Jvm.exec) (hlk : meth.locks = false) (hret : meth.sig.returnType = some t) (ht : t = .boolean ∨ t = .byte ∨ t = .char ∨ t = .short) (hn : nar t z = z') (hd : decode c.code pc = .ok (.ireturn, 1))
    (hc : cells ≤ rc) (hs : slots ≤ rs) (eT : T.heap = h) (hq : Q (some (.int z')) h locs) : own_Goes p e below (T.setTop (mkF m pc Ls (.int z :: rest))) (own_post s Q rc rs) :=
  own_ret X hlk hret (fun fs hr => retN X hx hret ht hd (by rw [hn]; exact hr)) hc hs eT hq
theorem own_retJ {rest : List Value} {pc : Nat} {Ls : Array Slot} {z : Int64} (X : Stand p l e R s m args below meth c T locs cells slots) (hx : p.tables.exec = Jvm.exec) (hlk : meth.locks = false) (hret : meth.sig.returnType = some .long) (hd : decode c.code pc = .ok (.lreturn, 1))
    (hc : cells ≤ rc) (hs : slots ≤ rs) (eT : T.heap = h) (hq : Q (some (.long z)) h locs) : own_Goes p e below (T.setTop (mkF m pc Ls (.long z :: rest))) (own_post s Q rc rs) :=
  own_ret X hlk hret (fun fs hr => retOut X hx hret rfl (Or.inr (Or.inl ⟨rfl, rfl, z, rfl⟩)) hd hr) hc hs eT hq
theorem own_retA {rest : List Value} {pc : Nat} {Ls : Array Slot} {w : Value} {t : FieldType} (X : Stand p l e R s m args below meth c T locs cells slots) (hx : p.tables.exec = Jvm.exec) (hlk : meth.locks = false) (hret : meth.sig.returnType = some t) (ht : t.isReference = true) (hw : w.isRef = true) (hn : narrow t w = w) (hd : decode c.code pc = .ok (.areturn, 1))
    (hc : cells ≤ rc) (hs : slots ≤ rs) (eT : T.heap = h) (hq : Q (some w) h locs) : own_Goes p e below (T.setTop (mkF m pc Ls (w :: rest))) (own_post s Q rc rs) :=
  own_ret X hlk hret (fun fs hr => retOut X hx hret hn (Or.inr (Or.inr (Or.inr (Or.inr ⟨rfl, ht, hw⟩)))) hd hr) hc hs eT hq
theorem own_retV {pc : Nat} {Ls : Array Slot} (X : Stand p l e R s m args below meth c T locs cells slots) (hx : p.tables.exec = Jvm.exec) (hlk : meth.locks = false) (hret : meth.sig.returnType = none) (hd : decode c.code pc = .ok (.return_, 1))
    (hc : cells ≤ rc) (hs : slots ≤ rs) (eT : T.heap = h) (hq : Q none h locs) : own_Goes p e below (T.setTop (mkF m pc Ls [])) (own_post s Q rc rs) := by
  subst eT
  obtain ⟨fs, hr, hrun, hended, hW, hsame⟩ := X.leave (v := none) (fun _ => rfl) hlk
  exact ⟨_, _, X.returnOut hx hret hd hr, hrun, hended, _, _, rfl, hq, ⟨_, rfl⟩, hW, hsame.mono hc hs⟩
/-- what a body's theorem says -/
abbrev own_Ct (l : Launch) (Z : State) (y : MethodName) (bytes : ByteArray) (maxL : Nat) (ret : Option FieldType) (ws : List Jvm.Cond) (rm : Room) (as' : Array Value) (h0 : Heap) (Q : Option Value → Heap → List Loc → Prop) (rc rs : Nat) : Prop :=
  MetFree l y (head1 (Jvm.Cond.code y bytes maxL ret :: ws) rm) (fun a U => a = as' ∧ Z.Warmed39 U.vm ∧ U.heap = h0) (fun _ _ _ _ _ => True) (fun _ U o U' => ∃ v L, o = .returned v ∧ Q v U'.heap L ∧ FrameEnd U o U' L rc rs)
theorem own_met {y : MethodName} {bytes : ByteArray} {maxL : Nat} {ret : Option FieldType} {ws : List Jvm.Cond} {rm : Room} {as' : Array Value} {h0 : Heap} (hp : plainFor y = true)
    (body : ∀ p e s m below meth c s₁, Stand p l e rm s m as' below meth c s₁ [] 0 0 → p.tables.exec = Jvm.exec → c.code = bytes → c.maxLocals = maxL → meth.sig.returnType = ret → meth.locks = false → meth.name = y.name → s.vm.findClass y.cls = some m.cls → Z.Warmed39 s.vm → s₁.heap = h0 →
      own_Goes p e below (s₁.setTop (entryFrame m as' maxL)) (own_post s Q rc rs)) : own_Ct l Z y bytes maxL ret ws rm as' h0 Q rc rs := by
  refine MetFree.of_bodySF hp hisR ?_
  intro p e s m args below meth c s₁ Bd hml0 hP hK
  obtain ⟨rfl, hZ, hh⟩ := hP
  exact body p e s m below meth c s₁ (Stand.of_body Bd) Bd.exec Bd.bytes hml0 Bd.returns Bd.notSynchronized (name_of_methodNamed Bd.named Bd.method).1 (findClass_of_methodNamed Bd.named) hZ (by rw [← hh, Bd.state]; rfl)
theorem own_callS {own : String} {index : Nat} {y : MethodName} {bytes : ByteArray} {maxL : Nat} {ret : Option FieldType} {rm : Room} {argsL rest : List Value} {pc W : Nat} {Ls : Array Slot} (X : Stand p l e R s m args below meth c T locs cells slots) (hx : p.tables.exec = Jvm.exec) (hZ : Z.Warmed39 s.vm) (hown : s.vm.findClass own = some m.cls)
    (w1 : (Jvm.Cond.methodLink own index y).before a0 Z = true) (w2 : (Jvm.Cond.static y).before a0 Z = true) (w3 : (Jvm.Cond.initialized y.cls).before a0 Z = true) (w4 : (Jvm.Cond.code y bytes maxL ret).before a0 Z = true) (hy : y.cls ≠ "java/lang/invoke/MethodHandle" ∧ y.cls ≠ "java/lang/invoke/VarHandle")
    (M : own_Ct l Z y bytes maxL ret [] rm argsL.toArray h Q rm.cells rm.slots) (hf : rm.frames + 1 ≤ R.frames) (hl : W + (maxL + 11) + rm.locals ≤ R.locals) (eT : T.heap = h) (hsize : Ls.size = c.maxLocals)
    (hlen : ∀ sig, parseMethodDescriptor y.desc = some sig → argsL.length = sig.parameters.length) {S : List Value} (hS : S = argsL.reverse ++ rest) (hW : (rest.map fun v => v.category).sum ≤ W) (hd : decode c.code pc = .ok (.invokestatic index, 3)) (hc : cells + rm.cells ≤ R.cells) (hs : slots + rm.slots ≤ R.slots) :
    ∃ v T' h' L, Stand p l e R s m args below meth c T' (locs ++ L) (cells + rm.cells) (slots + rm.slots) ∧ T'.heap = h' ∧ Q v h' L ∧ ∀ t, Steps p.tables e below (T'.setTop (mkF m (pc + 3) Ls (v.toList ++ rest))) t → Steps p.tables e below (T.setTop (mkF m pc Ls S)) t := by
  obtain ⟨v, _, ⟨T4, L4, k4, n4⟩, -, X4, ⟨Lc, hQ, l4, y4, z4⟩, st⟩ := Jvm.LawKit.callS X hx hown (mvT hZ w1) (mvT hZ w2) (mvT hZ w3) (mvT hZ w4) hy (backOf (W := W) M hZ w4 w3 hf hl) (g := mkF m pc Ls S) rfl hsize (argsL := argsL) (rest := rest) hlen hS (by show 2 * 0 + _ ≤ _; omega) hd (fun _ _ => ⟨rfl, eT, hc, hs⟩)
  dsimp only [Pt.U, Pt.locs, Pt.cells, Pt.slots] at X4 l4 y4 z4 st hQ
  subst l4 y4 z4
  exact ⟨v, T4, _, Lc, X4, rfl, hQ, st⟩
theorem own_callV {own C : String} {index : Nat} {y z : MethodName} {bytes : ByteArray} {maxL : Nat} {ret : Option FieldType} {rm : Room} {b : Addr} {argsL rest : List Value} {pc W : Nat} {Ls : Array Slot} (X : Stand p l e R s m args below meth c T locs cells slots) (hx : p.tables.exec = Jvm.exec) (hZ : Z.Warmed39 s.vm) (hown : s.vm.findClass own = some m.cls)
    (w1 : (Jvm.Cond.methodLink own index y).before a0 Z = true) (w2 : (Jvm.Cond.declares y).before a0 Z = true) (w5 : (Jvm.Cond.selects C y z).before a0 Z = true) (w6 : (Jvm.Cond.instanceMethod z).before a0 Z = true) (w3 : (Jvm.Cond.initialized z.cls).before a0 Z = true) (w4 : (Jvm.Cond.code z bytes maxL ret).before a0 Z = true) (hnf : NotFace s y) (hy : y.cls ≠ "java/lang/invoke/MethodHandle" ∧ y.cls ≠ "java/lang/invoke/VarHandle")
    (M : own_Ct l Z z bytes maxL ret [] rm (.ref b :: argsL).toArray h Q rm.cells rm.slots) (hf : rm.frames + 1 ≤ R.frames) (hl : W + (maxL + 11) + rm.locals ≤ R.locals) (eT : T.heap = h) (E : Exa Z h b C) (hsize : Ls.size = c.maxLocals)
    (hlen : ∀ sig, parseMethodDescriptor y.desc = some sig → argsL.length = sig.parameters.length) {S : List Value} (hS : S = argsL.reverse ++ .ref b :: rest) (hW : (rest.map fun v => v.category).sum ≤ W) (hd : decode c.code pc = .ok (.invokevirtual index, 3)) (hc : cells + rm.cells ≤ R.cells) (hs : slots + rm.slots ≤ R.slots) :
    ∃ v T' h' L, Stand p l e R s m args below meth c T' (locs ++ L) (cells + rm.cells) (slots + rm.slots) ∧ T'.heap = h' ∧ Q v h' L ∧ ∀ t, Steps p.tables e below (T'.setTop (mkF m (pc + 3) Ls (v.toList ++ rest))) t → Steps p.tables e below (T.setTop (mkF m pc Ls S)) t := by
  obtain ⟨cq, kq, qa, qb, qc⟩ := isOf hZ eT E
  obtain ⟨v, _, ⟨T4, L4, k4, n4⟩, -, X4, ⟨Lc, hQ, l4, y4, z4⟩, st⟩ := X.virtualBack hx (y := y) (z := z) hown (mvT hZ w1) (mvT hZ w2) hnf (mvT hZ w5) (mvT hZ w6) hy (backOf (W := W) M hZ w4 w3 hf hl) qa qc (g := mkF m pc Ls S) rfl hsize (Steps.refl _) (argsL := argsL) (rest := rest) hlen hS (by show 2 * 0 + _ ≤ _; omega) hd (fun _ _ => ⟨rfl, eT, hc, hs⟩)
  dsimp only [Pt.U, Pt.locs, Pt.cells, Pt.slots] at X4 l4 y4 z4 st hQ
  subst l4 y4 z4
  exact ⟨v, T4, _, Lc, X4, rfl, hQ, fun t k => st.trans k⟩
theorem own_callU {own C owner : String} {index : Nat} {y z : MethodName} {bytes : ByteArray} {maxL : Nat} {ret : Option FieldType} {rm : Room} {b : Addr} {argsL rest : List Value} {pc W : Nat} {Ls : Array Slot} (X : Stand p l e R s m args below meth c T locs cells slots) (hx : p.tables.exec = Jvm.exec) (hZ : Z.Warmed39 s.vm) (hown : s.vm.findClass own = some m.cls)
    (w1 : (Jvm.Cond.methodLink own index y).before a0 Z = true) (w0 : (Jvm.Cond.sameMethod y.cls owner y.name y.desc).before a0 Z = true) (w2 : (Jvm.Cond.declares ⟨owner, y.name, y.desc⟩).before a0 Z = true) (w5 : (Jvm.Cond.selects C y z).before a0 Z = true) (w6 : (Jvm.Cond.instanceMethod z).before a0 Z = true) (w3 : (Jvm.Cond.initialized z.cls).before a0 Z = true) (w4 : (Jvm.Cond.code z bytes maxL ret).before a0 Z = true) (hy : owner ≠ "java/lang/invoke/MethodHandle" ∧ owner ≠ "java/lang/invoke/VarHandle")
    (M : own_Ct l Z z bytes maxL ret [] rm (.ref b :: argsL).toArray h Q rm.cells rm.slots) (hf : rm.frames + 1 ≤ R.frames) (hl : W + (maxL + 11) + rm.locals ≤ R.locals) (eT : T.heap = h) (E : Exa Z h b C) (hsize : Ls.size = c.maxLocals)
    (hlen : ∀ sig, parseMethodDescriptor y.desc = some sig → argsL.length = sig.parameters.length) {S : List Value} (hS : S = argsL.reverse ++ .ref b :: rest) (hW : (rest.map fun v => v.category).sum ≤ W) (hd : decode c.code pc = .ok (.invokevirtual index, 3)) (hc : cells + rm.cells ≤ R.cells) (hs : slots + rm.slots ≤ R.slots) :
    ∃ v T' h' L, Stand p l e R s m args below meth c T' (locs ++ L) (cells + rm.cells) (slots + rm.slots) ∧ T'.heap = h' ∧ Q v h' L ∧ ∀ t, Steps p.tables e below (T'.setTop (mkF m (pc + 3) Ls (v.toList ++ rest))) t → Steps p.tables e below (T.setTop (mkF m pc Ls S)) t := by
  obtain ⟨cq, kq, qa, qb, qc⟩ := isOf hZ eT E
  obtain ⟨v, _, ⟨T4, L4, k4, n4⟩, -, X4, ⟨Lc, hQ, l4, y4, z4⟩, st⟩ := X.virtualBackUp hx (x := y) (y := z) hown (mvT hZ w1) (mvT hZ w0) (mvT hZ w2) hy (mvT hZ w5) (mvT hZ w6) (backOf (W := W) M hZ w4 w3 hf hl) qa qc (g := mkF m pc Ls S) rfl hsize (Steps.refl _) (argsL := argsL) (rest := rest) hlen hS (by show 2 * 0 + _ ≤ _; omega) hd (fun _ _ => ⟨rfl, eT, hc, hs⟩)
  dsimp only [Pt.U, Pt.locs, Pt.cells, Pt.slots] at X4 l4 y4 z4 st hQ
  subst l4 y4 z4
  exact ⟨v, T4, _, Lc, X4, rfl, hQ, fun t k => st.trans k⟩
theorem own_callP {own : String} {index : Nat} {y y' : MethodName} {bytes : ByteArray} {maxL : Nat} {ret : Option FieldType} {rm : Room} {b : Addr} {argsL rest : List Value} {pc W : Nat} {Ls : Array Slot} (X : Stand p l e R s m args below meth c T locs cells slots) (hx : p.tables.exec = Jvm.exec) (hZ : Z.Warmed39 s.vm) (hown : s.vm.findClass own = some m.cls)
    (w1 : (Jvm.Cond.methodLink own index y).before a0 Z = true) (w6 : (Jvm.Cond.instanceMethod y).before a0 Z = true) (w7 : (Jvm.Cond.privateMethod y).before a0 Z = true) (w5 : (Jvm.Cond.selects y.cls y' y').before a0 Z = true) (hy' : y'.cls = y.cls) (w3 : (Jvm.Cond.initialized y.cls).before a0 Z = true) (w4 : (Jvm.Cond.code y bytes maxL ret).before a0 Z = true) (hy : y.cls ≠ "java/lang/invoke/MethodHandle" ∧ y.cls ≠ "java/lang/invoke/VarHandle")
    (M : own_Ct l Z y bytes maxL ret [] rm (.ref b :: argsL).toArray h Q rm.cells rm.slots) (hf : rm.frames + 1 ≤ R.frames) (hl : W + (maxL + 11) + rm.locals ≤ R.locals) (eT : T.heap = h) {C : String} (E : Exa Z h b C) (hsize : Ls.size = c.maxLocals)
    (hlen : ∀ sig, parseMethodDescriptor y.desc = some sig → argsL.length = sig.parameters.length) {S : List Value} (hS : S = argsL.reverse ++ .ref b :: rest) (hW : (rest.map fun v => v.category).sum ≤ W) (hd : decode c.code pc = .ok (.invokevirtual index, 3)) (hc : cells + rm.cells ≤ R.cells) (hs : slots + rm.slots ≤ R.slots) :
    ∃ v T' h' L, Stand p l e R s m args below meth c T' (locs ++ L) (cells + rm.cells) (slots + rm.slots) ∧ T'.heap = h' ∧ Q v h' L ∧ ∀ t, Steps p.tables e below (T'.setTop (mkF m (pc + 3) Ls (v.toList ++ rest))) t → Steps p.tables e below (T.setTop (mkF m pc Ls S)) t := by
  obtain ⟨cq, q1, q2⟩ := E.cell
  have hpv : s.PrivateAt y := Cond.privateMethod_at (mvP hZ w7 (args := #[]))
  have hnf : NotFace s y' := notFace_of_selects (args := #[]) (mvT hZ w5)
  obtain ⟨c2, r2, m2, k1, k2, k3, k4, kP, hkP, hkPi⟩ := Cond.selects_spec (mvT (args := #[]) hZ w5)
  have k5 := findClass_of_methodNamed k3
  rw [hy'] at k5
  obtain ⟨v, _, ⟨T4, L4, k4, n4⟩, -, X4, ⟨Lc, hQ, l4, y4, z4⟩, st⟩ := X.privateBack hx hown (mvT hZ w1) (mvT hZ w6) (selects_self_of_private k5 hkP hkPi hpv (mvT hZ w6) hy) hpv (mvT hZ w4) hy (backOf (W := W) M hZ w4 w3 hf hl) (g := mkF m pc Ls S) rfl hsize (Steps.refl _) (a := b) (by rw [eT]; exact q1) q2 (argsL := argsL) (rest := rest) hlen hS (by show 2 * 0 + _ ≤ _; omega) hd (fun _ _ => ⟨rfl, eT, hc, hs⟩)
  dsimp only [Pt.U, Pt.locs, Pt.cells, Pt.slots] at X4 l4 y4 z4 st hQ
  subst l4 y4 z4
  exact ⟨v, T4, _, Lc, X4, rfl, hQ, fun t k => st.trans k⟩
theorem own_callI {own : String} {index : Nat} {y : MethodName} {bytes : ByteArray} {maxL : Nat} {rm : Room} {b : Addr} {argsL rest : List Value} {pc W : Nat} {Ls : Array Slot} (X : Stand p l e R s m args below meth c T locs cells slots) (hx : p.tables.exec = Jvm.exec) (hZ : Z.Warmed39 s.vm) (hown : s.vm.findClass own = some m.cls) (hi : y.name = "<init>")
    (w1 : (Jvm.Cond.methodLink own index y).before a0 Z = true) (w6 : (Jvm.Cond.instanceMethod y).before a0 Z = true) (w3 : (Jvm.Cond.initialized y.cls).before a0 Z = true) (w4 : (Jvm.Cond.code y bytes maxL none).before a0 Z = true) (hy : y.cls ≠ "java/lang/invoke/MethodHandle" ∧ y.cls ≠ "java/lang/invoke/VarHandle")
    (M : own_Ct l Z y bytes maxL none [] rm (.ref b :: argsL).toArray h Q rm.cells rm.slots) (hf : rm.frames + 1 ≤ R.frames) (hl : W + (maxL + 11) + rm.locals ≤ R.locals) (eT : T.heap = h) (hsize : Ls.size = c.maxLocals)
    (hlen : ∀ sig, parseMethodDescriptor y.desc = some sig → argsL.length = sig.parameters.length) {S : List Value} (hS : S = argsL.reverse ++ .ref b :: rest) (hW : (rest.map fun v => v.category).sum ≤ W) (hd : decode c.code pc = .ok (.invokespecial index, 3)) (hc : cells + rm.cells ≤ R.cells) (hs : slots + rm.slots ≤ R.slots) :
    ∃ v T' h' L, Stand p l e R s m args below meth c T' (locs ++ L) (cells + rm.cells) (slots + rm.slots) ∧ T'.heap = h' ∧ Q v h' L ∧ ∀ t, Steps p.tables e below (T'.setTop (mkF m (pc + 3) Ls (v.toList ++ rest))) t → Steps p.tables e below (T.setTop (mkF m pc Ls S)) t := by
  obtain ⟨v, _, ⟨T4, L4, k4, n4⟩, -, X4, ⟨Lc, hQ, l4, y4, z4⟩, st⟩ := X.specialBack hx hi hown (mvT hZ w1) (mvT hZ w6) (mvT hZ w4) hy (backOf (W := W) M hZ w4 w3 hf hl) (g := mkF m pc Ls S) rfl hsize (Steps.refl _) (a := b) (argsL := argsL) (rest := rest) hlen hS (by show 2 * 0 + _ ≤ _; omega) hd (fun _ _ => ⟨rfl, eT, hc, hs⟩)
  dsimp only [Pt.U, Pt.locs, Pt.cells, Pt.slots] at X4 l4 y4 z4 st hQ
  subst l4 y4 z4
  exact ⟨v, T4, _, Lc, X4, rfl, hQ, fun t k => st.trans k⟩
theorem own_eqI {st : State} {t : Term} {z : Int32} (k : (Jvm.Cond.eq t (Term.int z)).value args st none st [] = some true) : t.eval args st none [] st = some (.int z) := by
  simp only [Jvm.Cond.value, Term.eval] at k
  cases ht : t.eval args st none [] st with
  | none => simp [ht] at k
  | some q => cases q <;> simp [ht] at k ⊢; exact k
theorem own_eqR {st : State} {t u : Term} {b : Addr} (k : (Jvm.Cond.eq t u).value args st none st [] = some true) (hu : u.eval args st none [] st = some (.ref b)) : t.eval args st none [] st = some (.ref b) := by
  simp only [Jvm.Cond.value] at k
  cases ht : t.eval args st none [] st with
  | none => simp [ht] at k
  | some q => cases q <;> simp [ht, hu] at k ⊢; exact k
end Own

theorem pn_com_example_forseti_forseti_core_QuantizedVectors : plainName "com/example/forseti/forseti/core/QuantizedVectors" = true := by first | (simp [plainName, overriddenIn]; done) | decide +kernel
theorem pn_com_example_forseti_forseti_core_QuantizedVectorsSquaredLengthPinLaw : plainName "com/example/forseti/forseti/core/QuantizedVectorsSquaredLengthPinLaw" = true := by first | (simp [plainName, overriddenIn]; done) | decide +kernel
theorem pd___D_D : parseMethodDescriptor "([D)D" = some ⟨[(.array .double)], some .double⟩ := by decide +kernel
section Own2
variable {p : Program} {l : Launch} {e : Env} {R : Room} {s : State} {m : MethodId} {args : Array Value} {below : List Frame} {meth : Method} {c : Code} {T : State} {locs : List Loc} {cells slots : Nat} {Z : State} {a0 : Array Value} {h : Heap} {a : Addr} {k : ClassId} {z j : Int32} {vs : List Value} {dv : Value} {pc : Nat} {Ls : Array Slot} {rest : List Value}
theorem own_stJ {x : Int64} (X : Stand p l e R s m args below meth c T locs cells slots) (hx : p.tables.exec = Jvm.exec) (hZ : Z.Warmed39 s.vm) (eT : T.heap = h) (F : Arv Z h a k .long z vs dv) (i : Nat) (hj : j.toNatClampNeg = i) (hz : ¬ j < 0 ∧ j < z) (hi : i < vs.length) (hd : decode c.code pc = .ok (.lastore, 1)) :
    ∃ T' h', Stand p l e R s m args below meth c T' (locs ++ [⟨a, j.toNatClampNeg⟩]) cells slots ∧ T'.heap = h' ∧ Wr h h' a j.toNatClampNeg (.long x) ∧ Arv Z h' a k .long z (vs.set i (.long x)) dv ∧ ∀ t, Steps p.tables e below (T'.setTop (mkF m (pc + 1) Ls rest)) t → Steps p.tables e below (T.setTop (mkF m pc Ls (.long x :: .int j :: .ref a :: rest))) t := by
  obtain ⟨cl, Ar, q, S, N, H, G⟩ := F
  obtain ⟨T', h', X', e', W, st⟩ := stJ X hx hZ eT Ar (j := j) (inb_of S hz) (g := mkF m pc Ls (.long x :: .int j :: .ref a :: rest)) rfl rfl hd
  exact ⟨T', h', X', e', W, Arv.set Ar q S N H G rfl W i hj hi, st⟩
theorem own_stB {x : Int32} (X : Stand p l e R s m args below meth c T locs cells slots) (hx : p.tables.exec = Jvm.exec) (hZ : Z.Warmed39 s.vm) (eT : T.heap = h) (F : Arv Z h a k .byte z vs dv) (i : Nat) (hj : j.toNatClampNeg = i) (hz : ¬ j < 0 ∧ j < z) (hi : i < vs.length) (hd : decode c.code pc = .ok (.bastore, 1)) :
    ∃ T' h', Stand p l e R s m args below meth c T' (locs ++ [⟨a, j.toNatClampNeg⟩]) cells slots ∧ T'.heap = h' ∧ Wr h h' a j.toNatClampNeg (.int x.toInt8.toInt32) ∧ Arv Z h' a k .byte z (vs.set i (.int x.toInt8.toInt32)) dv ∧ ∀ t, Steps p.tables e below (T'.setTop (mkF m (pc + 1) Ls rest)) t → Steps p.tables e below (T.setTop (mkF m pc Ls (.int x :: .int j :: .ref a :: rest))) t := by
  obtain ⟨cl, Ar, q, S, N, H, G⟩ := F
  obtain ⟨T', h', X', e', W, st⟩ := stB X hx hZ eT Ar (j := j) (inb_of S hz) (g := mkF m pc Ls (.int x :: .int j :: .ref a :: rest)) rfl rfl hd
  exact ⟨T', h', X', e', W, Arv.set Ar q S N H G (fits_nar_byte _) W i hj hi, st⟩
theorem own_stR {y : Addr} {ty : FieldType} (X : Stand p l e R s m args below meth c T locs cells slots) (hx : p.tables.exec = Jvm.exec) (hZ : Z.Warmed39 s.vm) (eT : T.heap = h) (F : Arv Z h a k ty z vs dv) (hty : ty.isReference = true) (hfit : fits ty (.ref y) = true) (hst : ∀ cl, Arr Z h a cl ty → cl.cls = k → Sto Z h a (.ref y)) (i : Nat) (hj : j.toNatClampNeg = i) (hz : ¬ j < 0 ∧ j < z) (hi : i < vs.length) (hd : decode c.code pc = .ok (.aastore, 1)) :
    ∃ T' h', Stand p l e R s m args below meth c T' (locs ++ [⟨a, j.toNatClampNeg⟩]) cells slots ∧ T'.heap = h' ∧ Wr h h' a j.toNatClampNeg (.ref y) ∧ Arv Z h' a k ty z (vs.set i (.ref y)) dv ∧ ∀ t, Steps p.tables e below (T'.setTop (mkF m (pc + 1) Ls rest)) t → Steps p.tables e below (T.setTop (mkF m pc Ls (.ref y :: .int j :: .ref a :: rest))) t := by
  obtain ⟨cl, Ar, q, S, N, H, G⟩ := F
  obtain ⟨T', h', X', e', W, st⟩ := stR X hx hZ eT Ar (j := j) (inb_of S hz) hty (hst cl Ar q) (g := mkF m pc Ls (.ref y :: .int j :: .ref a :: rest)) rfl rfl hd
  exact ⟨T', h', X', e', W, Arv.set Ar q S N H G hfit W i hj hi, st⟩
theorem own_ldJ {v : Value} (X : Stand p l e R s m args below meth c T locs cells slots) (hx : p.tables.exec = Jvm.exec) (hZ : Z.Warmed39 s.vm) (eT : T.heap = h) (F : Arv Z h a k .long z vs dv) (hz : ¬ j < 0 ∧ j < z) (hv : vs.getD j.toNatClampNeg dv = v) (hd : decode c.code pc = .ok (.laload, 1)) :
    ∀ t, Steps p.tables e below (T.setTop (mkF m (pc + 1) Ls (v :: rest))) t → Steps p.tables e below (T.setTop (mkF m pc Ls (.int j :: .ref a :: rest))) t := by
  obtain ⟨cl, Ar, q, S, N, H, G⟩ := F
  exact X.laload hx (j := j) (v := v) (by rw [eT]; exact Ar.1) (State.isArrayOf_alike hZ.alike Ar.2.1) Ar.2.2 (inb_of S hz) (H.at (inb_of S hz) hv) (g := mkF m pc Ls (.int j :: .ref a :: rest)) rfl rfl hd
theorem own_ldB {v : Value} (X : Stand p l e R s m args below meth c T locs cells slots) (hx : p.tables.exec = Jvm.exec) (hZ : Z.Warmed39 s.vm) (eT : T.heap = h) (F : Arv Z h a k .byte z vs dv) (hz : ¬ j < 0 ∧ j < z) (hv : vs.getD j.toNatClampNeg dv = v) (hd : decode c.code pc = .ok (.baload, 1)) :
    ∀ t, Steps p.tables e below (T.setTop (mkF m (pc + 1) Ls (v :: rest))) t → Steps p.tables e below (T.setTop (mkF m pc Ls (.int j :: .ref a :: rest))) t := by
  obtain ⟨cl, Ar, q, S, N, H, G⟩ := F
  exact X.baloadBytes hx (j := j) (v := v) (by rw [eT]; exact Ar.1) (State.isArrayOf_alike hZ.alike Ar.2.1) Ar.2.2 (inb_of S hz) (H.at (inb_of S hz) hv) (g := mkF m pc Ls (.int j :: .ref a :: rest)) rfl rfl hd
theorem own_ldR {v : Value} {ty : FieldType} (X : Stand p l e R s m args below meth c T locs cells slots) (hx : p.tables.exec = Jvm.exec) (hZ : Z.Warmed39 s.vm) (eT : T.heap = h) (F : Arv Z h a k ty z vs dv) (hty : ty.isReference = true) (hz : ¬ j < 0 ∧ j < z) (hv : vs.getD j.toNatClampNeg dv = v) (hd : decode c.code pc = .ok (.aaload, 1)) :
    ∀ t, Steps p.tables e below (T.setTop (mkF m (pc + 1) Ls (v :: rest))) t → Steps p.tables e below (T.setTop (mkF m pc Ls (.int j :: .ref a :: rest))) t := by
  obtain ⟨cl, Ar, q, S, N, H, G⟩ := F
  exact X.aaload hx (j := j) (v := v) (by rw [eT]; exact Ar.1) (State.isArrayOf_alike hZ.alike Ar.2.1) hty Ar.2.2 (inb_of S hz) (H.at (inb_of S hz) hv) (g := mkF m pc Ls (.int j :: .ref a :: rest)) rfl rfl hd
theorem own_len {ty : FieldType} (X : Stand p l e R s m args below meth c T locs cells slots) (hx : p.tables.exec = Jvm.exec) (hZ : Z.Warmed39 s.vm) (eT : T.heap = h) (F : Arv Z h a k ty z vs dv) (hd : decode c.code pc = .ok (.arraylength, 1)) :
    ∀ t, Steps p.tables e below (T.setTop (mkF m (pc + 1) Ls (.int z :: rest))) t → Steps p.tables e below (T.setTop (mkF m pc Ls (.ref a :: rest))) t := by
  obtain ⟨cl, Ar, q, S, N, H, G⟩ := F
  intro t kt
  refine X.arraylength hx (by rw [eT]; exact Ar.1) (State.isArrayOf_alike hZ.alike Ar.2.1) (g := mkF m pc Ls (.ref a :: rest)) rfl rfl hd t ?_
  rw [len_of S N]; exact kt
end Own2
section Own3
variable {tb : Tables} [Ours tb] {e : Env} {below : List Frame} {T target : State} {m : MethodId} {c : Code} {g : JFrame}
theorem own_dstoreN (h : At T m c below) (hx : tb.exec = Jvm.exec) (hg : g.method = m) {k : Fin 4} {x : UInt64} {rest : List Value} {l' : Array Slot} (hd : decode c.code g.pc = .ok (.dstore_n k, 1)) (hs : g.stack = .double x :: rest) (hl : storeLocals g.locals k.val (.double x) = some l')
    (hr : Steps tb e below (T.setTop { g with pc := g.pc + 1, stack := rest, locals := l' }) target) : Steps tb e below (T.setTop g) target := by
  subst hg
  jvm_step h [h.top, hx, hd, hs, hl]
  exact hr
theorem own_dstore (h : At T m c below) (hx : tb.exec = Jvm.exec) (hg : g.method = m) {k : Nat} {x : UInt64} {rest : List Value} {l' : Array Slot} (hd : decode c.code g.pc = .ok (.dstore k, 2)) (hs : g.stack = .double x :: rest) (hl : storeLocals g.locals k (.double x) = some l')
    (hr : Steps tb e below (T.setTop { g with pc := g.pc + 2, stack := rest, locals := l' }) target) : Steps tb e below (T.setTop g) target := by
  subst hg
  jvm_step h [h.top, hx, hd, hs, hl]
  exact hr
theorem own_i2d (h : At T m c below) (hx : tb.exec = Jvm.exec) (hg : g.method = m) {x : Int32} {rest : List Value} (hd : decode c.code g.pc = .ok (.i2d, 1)) (hs : g.stack = .int x :: rest)
    (hr : Steps tb e below (T.setTop { g with pc := g.pc + 1, stack := .double (FP.i2d x) :: rest }) target) : Steps tb e below (T.setTop g) target := by
  subst hg
  jvm_step h [h.top, hx, hd, hs]
  exact hr
theorem own_l2d (h : At T m c below) (hx : tb.exec = Jvm.exec) (hg : g.method = m) {x : Int64} {rest : List Value} (hd : decode c.code g.pc = .ok (.l2d, 1)) (hs : g.stack = .long x :: rest)
    (hr : Steps tb e below (T.setTop { g with pc := g.pc + 1, stack := .double (FP.l2d x) :: rest }) target) : Steps tb e below (T.setTop g) target := by
  subst hg
  jvm_step h [h.top, hx, hd, hs]
  exact hr
theorem own_dneg (h : At T m c below) (hx : tb.exec = Jvm.exec) (hg : g.method = m) {x : UInt64} {rest : List Value} (hd : decode c.code g.pc = .ok (.dneg, 1)) (hs : g.stack = .double x :: rest)
    (hr : Steps tb e below (T.setTop { g with pc := g.pc + 1, stack := .double (FP.dneg x) :: rest }) target) : Steps tb e below (T.setTop g) target := by
  subst hg
  jvm_step h [h.top, hx, hd, hs]
  exact hr
theorem own_dconst0 (h : At T m c below) (hx : tb.exec = Jvm.exec) (hg : g.method = m) (hd : decode c.code g.pc = .ok (.dconst 0, 1))
    (hr : Steps tb e below (T.setTop { g with pc := g.pc + 1, stack := .double FP.dconst0 :: g.stack }) target) : Steps tb e below (T.setTop g) target := by
  subst hg
  jvm_step h [h.top, hx, hd]
  exact hr
/-- what a comparison of two numbers pushes -/
def own_ord : Ordering → Int32
  | .lt => -1
  | .eq => 0
  | .gt => 1
theorem own_dcmp (h : At T m c below) (hx : tb.exec = Jvm.exec) (hg : g.method = m) {op : CmpOp} {x y : UInt64} {o : Ordering} {rest : List Value} (hd : decode c.code g.pc = .ok (.dcmp op, 1)) (hs : g.stack = .double y :: .double x :: rest) (hc : FP.dcmp x y = some o)
    (hr : Steps tb e below (T.setTop { g with pc := g.pc + 1, stack := .int (own_ord o) :: rest }) target) : Steps tb e below (T.setTop g) target := by
  subst hg
  jvm_step h [h.top, hx, hd, hs, hc, cmpValue]
  cases o <;> exact hr
theorem own_dadd (h : At T m c below) (hx : tb.exec = Jvm.exec) (hg : g.method = m) {x y : UInt64} {rest : List Value} (hd : decode c.code g.pc = .ok (.dadd, 1)) (hs : g.stack = .double y :: .double x :: rest) (hn : Jvm.Free.Fl.NoNaN64 (FP.dadd x y))
    (hr : Steps tb e below (T.setTop { g with pc := g.pc + 1, stack := .double (FP.dadd x y) :: rest }) target) : Steps tb e below (T.setTop g) target := by
  obtain ⟨gm, gpc, gl, gs, gk, ge, gr⟩ := g
  dsimp only at hg hs hd hr
  subst hg hs
  jvm_step h [hx, hd, Op.dadd.at_number h.top hn]
  exact hr
theorem own_dmul (h : At T m c below) (hx : tb.exec = Jvm.exec) (hg : g.method = m) {x y : UInt64} {rest : List Value} (hd : decode c.code g.pc = .ok (.dmul, 1)) (hs : g.stack = .double y :: .double x :: rest) (hn : Jvm.Free.Fl.NoNaN64 (FP.dmul x y))
    (hr : Steps tb e below (T.setTop { g with pc := g.pc + 1, stack := .double (FP.dmul x y) :: rest }) target) : Steps tb e below (T.setTop g) target := by
  obtain ⟨gm, gpc, gl, gs, gk, ge, gr⟩ := g
  dsimp only at hg hs hd hr
  subst hg hs
  jvm_step h [hx, hd, Op.dmul.at_number h.top hn]
  exact hr
end Own3
section Own4
variable {p : Program} {l : Launch} {e : Env} {R : Room} {s : State} {m : MethodId} {args : Array Value} {below : List Frame} {meth : Method} {c : Code} {T : State} {locs : List Loc} {cells slots : Nat} {Q : Option Value → Heap → List Loc → Prop} {rc rs : Nat} {h : Heap}
theorem own_retD {rest : List Value} {pc : Nat} {Ls : Array Slot} {z : UInt64} (X : Stand p l e R s m args below meth c T locs cells slots) (hx : p.tables.exec = Jvm.exec) (hlk : meth.locks = false) (hret : meth.sig.returnType = some .double) (hd : decode c.code pc = .ok (.dreturn, 1))
    (hc : cells ≤ rc) (hs : slots ≤ rs) (eT : T.heap = h) (hq : Q (some (.double z)) h locs) : own_Goes p e below (T.setTop (mkF m pc Ls (.double z :: rest))) (own_post s Q rc rs) :=
  own_ret X hlk hret (fun fs hr => retOut X hx hret rfl (Or.inr (Or.inr (Or.inl ⟨rfl, rfl, z, rfl⟩))) hd hr) hc hs eT hq
end Own4
/-! whole numbers as doubles: the library's DInt, said of the machine's own functions -/
abbrev own_DI (i : Int) (a : UInt64) : Prop := Jvm.FP.Core.DInt i a
theorem own_di_i2d (a : Int32) : own_DI a.toInt (FP.i2d a) := Jvm.FP.Core.i2d_int a
theorem own_di_nn {i : Int} {a : UInt64} (h : own_DI i a) : Jvm.FP.Core.val64 a ≠ .nan := fun q => by
  unfold own_DI Jvm.FP.Core.DInt at h; rw [q] at h; exact h
theorem own_di_nan {i : Int} {a : UInt64} (h : own_DI i a) : Jvm.FP.Core.dIsNaN a = false := by
  cases q : Jvm.FP.Core.dIsNaN a with
  | false => rfl
  | true => exact absurd ((Jvm.FP.Core.dIsNaN_iff a).mp q) (own_di_nn h)
theorem own_di_neg {i : Int} {a : UInt64} (h : own_DI i a) : own_DI (-i) (FP.dneg a) := by
  rw [FP.dneg_core (own_di_nan h)]; exact Jvm.FP.Core.dneg_int h
theorem own_di_cmp {i j : Int} {a b : UInt64} (ha : own_DI i a) (hb : own_DI j b) : FP.dcmp a b = some (compare i j) := Jvm.FP.Core.dcmp_int ha hb
theorem own_di_no {i : Int} {a : UInt64} (h : own_DI i a) : Jvm.Free.Fl.NoNaN64 a := Jvm.Free.Fl.noNaN64_no.mpr (own_di_nan h)
theorem own_di_add {i j : Int} {a b : UInt64} (ha : own_DI i a) (hb : own_DI j b) (h : (i + j).natAbs ≤ 2 ^ 53) : own_DI (i + j) (FP.dadd a b) := Jvm.FP.Core.dadd_int ha hb h
theorem own_di_mul {i j : Int} {a b : UInt64} (ha : own_DI i a) (hb : own_DI j b) (h : (i * j).natAbs ≤ 2 ^ 53) : own_DI (i * j) (FP.dmul a b) := Jvm.FP.Core.dmul_int ha hb h
theorem own_di_l2d {a : Int64} (h : a.toInt.natAbs ≤ 2 ^ 53) : own_DI a.toInt (FP.l2d a) := Jvm.FP.Core.l2d_int h
theorem own_di_0 : own_DI 0 FP.dconst0 := by
  show Jvm.FP.Core.Whole 0 (Jvm.FP.Core.val64 Jvm.FP.Core.dconst0)
  rw [Jvm.FP.Core.val64_dconst0]
  show Jvm.FP.Core.signed false (0 * 2 ^ (Jvm.FP.Core.b64.qmin).toNat) = 0 * ((2 ^ (-(Jvm.FP.Core.b64.qmin)).toNat : Nat) : Int)
  rw [Nat.zero_mul, Int.zero_mul]; rfl
section Own5
variable {p : Program} {l : Launch} {e : Env} {R : Room} {s : State} {m : MethodId} {args : Array Value} {below : List Frame} {meth : Method} {c : Code} {T : State} {locs : List Loc} {cells slots : Nat} {Z : State} {h : Heap} {a : Addr} {k : ClassId} {z j : Int32} {vs : List Value} {dv : Value} {pc : Nat} {Ls : Array Slot} {rest : List Value}
theorem own_stD {x : UInt64} (X : Stand p l e R s m args below meth c T locs cells slots) (hx : p.tables.exec = Jvm.exec) (hZ : Z.Warmed39 s.vm) (eT : T.heap = h) (F : Arv Z h a k .double z vs dv) (i : Nat) (hj : j.toNatClampNeg = i) (hz : ¬ j < 0 ∧ j < z) (hi : i < vs.length) (hd : decode c.code pc = .ok (.dastore, 1)) :
    ∃ T' h', Stand p l e R s m args below meth c T' (locs ++ [⟨a, j.toNatClampNeg⟩]) cells slots ∧ T'.heap = h' ∧ Wr h h' a j.toNatClampNeg (.double x) ∧ Arv Z h' a k .double z (vs.set i (.double x)) dv ∧ ∀ t, Steps p.tables e below (T'.setTop (mkF m (pc + 1) Ls rest)) t → Steps p.tables e below (T.setTop (mkF m pc Ls (.double x :: .int j :: .ref a :: rest))) t := by
  obtain ⟨cl, Ar, q, S, N, H, G⟩ := F
  obtain ⟨X', st⟩ := X.dastore hx (by rw [eT]; exact Ar.1) (State.isArrayOf_alike hZ.alike Ar.2.1) Ar.2.2 (inb_of S hz) (g := mkF m pc Ls (.double x :: .int j :: .ref a :: rest)) rfl rfl hd
  have W : Wr h (h.setIfInBounds a (cl.setSlot j.toNatClampNeg (.double x))) a j.toNatClampNeg (.double x) := ⟨cl, Ar.1, Ar.plain, Nat.lt_of_not_le fun q => inb_of S hz (Or.inr q), rfl⟩
  exact ⟨_, _, X', by rw [← eT]; rfl, W, Arv.set Ar q S N H G rfl W i hj hi, st⟩
theorem own_ldD {v : Value} (X : Stand p l e R s m args below meth c T locs cells slots) (hx : p.tables.exec = Jvm.exec) (hZ : Z.Warmed39 s.vm) (eT : T.heap = h) (F : Arv Z h a k .double z vs dv) (hz : ¬ j < 0 ∧ j < z) (hv : vs.getD j.toNatClampNeg dv = v) (hd : decode c.code pc = .ok (.daload, 1)) :
    ∀ t, Steps p.tables e below (T.setTop (mkF m (pc + 1) Ls (v :: rest))) t → Steps p.tables e below (T.setTop (mkF m pc Ls (.int j :: .ref a :: rest))) t := by
  obtain ⟨cl, Ar, q, S, N, H, G⟩ := F
  exact X.daload hx (j := j) (v := v) (by rw [eT]; exact Ar.1) (State.isArrayOf_alike hZ.alike Ar.2.1) Ar.2.2 (inb_of S hz) (H.at (inb_of S hz) hv) (g := mkF m pc Ls (.int j :: .ref a :: rest)) rfl rfl hd
end Own5
/-! the plain law -/
def own_B (i : Int) : Prop := i.natAbs ≤ 2 ^ 25
theorem own_sq {i : Int} (h : own_B i) : 0 ≤ i * i ∧ i * i ≤ 1125899906842624 := by
  have q : i.natAbs * i.natAbs ≤ 2 ^ 25 * 2 ^ 25 := Nat.mul_le_mul h h
  have r : (i.natAbs * i.natAbs : Nat) = (i * i).natAbs := (Int.natAbs_mul i i).symm
  have t : 0 ≤ i * i := by
    rcases Int.le_total 0 i with z | z
    · exact Int.mul_nonneg z z
    · have := Int.mul_nonneg (Int.neg_nonneg_of_nonpos z) (Int.neg_nonneg_of_nonpos z); rwa [Int.neg_mul_neg] at this
  omega
theorem own_b26 (x : Int32) : ∃ a : Int32, ((x <<< ((6 : Int32) &&& 31)) >>> ((6 : Int32) &&& 31)) = a ∧ own_B a.toInt := by
  refine ⟨_, rfl, ?_⟩
  have e1 := c_ishr (x <<< ((6 : Int32) &&& 31)) (6 : Int32) 6 (by decide)
  have e2 := rng32 (x <<< ((6 : Int32) &&& 31))
  unfold own_B; omega
theorem own_mod5 (x : Int32) : ∃ c : Int32, ((x &&& (7 : Int32)) % (5 : Int32)) = c ∧ (c = 0 ∨ c = 1 ∨ c = 2 ∨ c = 3 ∨ c = 4) := by
  have e1 : (x &&& (7 : Int32)).toInt = x.toInt % (2 ^ 3 : Nat) := c_mask x _ 3 (by decide) (by decide)
  have e2 := (c_irem (x &&& (7 : Int32)) (5 : Int32) 5 (by decide)).1 (by omega)
  refine ⟨_, rfl, ?_⟩
  generalize ((x &&& (7 : Int32)) % (5 : Int32)) = c at *
  have c0 : (0 : Int32).toInt = 0 := by decide
  have c1 : (1 : Int32).toInt = 1 := by decide
  have c2 : (2 : Int32).toInt = 2 := by decide
  have c3 : (3 : Int32).toInt = 3 := by decide
  have c4 : (4 : Int32).toInt = 4 := by decide
  simp only [← Int32.toInt_inj, c0, c1, c2, c3, c4]; omega
/-- the long's square, and the running sum of such squares -/
theorem own_lsq {a : Int32} (h : own_B a.toInt) : (a.toInt64 * a.toInt64).toInt = a.toInt * a.toInt := by
  have e1 := c_lmul a.toInt64 a.toInt64
  have e2 := rng64 (a.toInt64 * a.toInt64)
  have e3 := own_sq h
  rw [c_i2l] at e1
  generalize a.toInt * a.toInt = t at *
  omega
theorem own_lsum {r : Int64} {t : Int} {a : Int32} (hr : r.toInt = t) (h0 : 0 ≤ t) (h1 : t ≤ 3377699720527872) (h : own_B a.toInt) : (r + a.toInt64 * a.toInt64).toInt = t + a.toInt * a.toInt := by
  have e1 := c_ladd r (a.toInt64 * a.toInt64)
  have e2 := rng64 (r + a.toInt64 * a.toInt64)
  have e3 := own_sq h
  rw [own_lsq h, hr] at e1
  generalize a.toInt * a.toInt = u at *
  omega

theorem d10_0 : decode prog_72_method_3_code 0 = .ok (.dconst 0, 1) := by decide +kernel
theorem d10_1 : decode prog_72_method_3_code 1 = .ok (.dstore_n 1, 1) := by decide +kernel
theorem d10_2 : decode prog_72_method_3_code 2 = .ok (.aload_n 0, 1) := by decide +kernel
theorem d10_3 : decode prog_72_method_3_code 3 = .ok (.astore_n 3, 1) := by decide +kernel
theorem d10_4 : decode prog_72_method_3_code 4 = .ok (.aload_n 3, 1) := by decide +kernel
theorem d10_5 : decode prog_72_method_3_code 5 = .ok (.arraylength, 1) := by decide +kernel
theorem d10_6 : decode prog_72_method_3_code 6 = .ok (.istore 4, 2) := by decide +kernel
theorem d10_8 : decode prog_72_method_3_code 8 = .ok (.iconst 0, 1) := by decide +kernel
theorem d10_9 : decode prog_72_method_3_code 9 = .ok (.istore 5, 2) := by decide +kernel
theorem d10_11 : decode prog_72_method_3_code 11 = .ok (.iload 5, 2) := by decide +kernel
theorem d10_13 : decode prog_72_method_3_code 13 = .ok (.iload 4, 2) := by decide +kernel
theorem d10_15 : decode prog_72_method_3_code 15 = .ok (.if_icmp .ge 23, 3) := by decide +kernel
theorem d10_38 : decode prog_72_method_3_code 38 = .ok (.dload_n 1, 1) := by decide +kernel
theorem d10_39 : decode prog_72_method_3_code 39 = .ok (.dreturn, 1) := by decide +kernel
theorem ef_10 (m : MethodId) (a1 : Addr) : entryFrame m #[(.ref a1)] 8 = mkF m 0 #[.val (.ref a1), .unset, .unset, .unset, .unset, .unset, .unset, .unset] [] := by first | (simp [entryFrame, mkF, argsToLocals, Value.category]; done) | rfl
set_option maxRecDepth 65536 in
set_option maxHeartbeats 40000000 in
theorem rm10 (l : Launch) (Z : State) (a0 : Array Value) (hw : ∀ d ∈ tables_1, d.before a0 Z = true) (ws : List Jvm.Cond) (a1 : Addr) (k1 : ClassId)  (h0 : Heap) (n0 : Nat) (Z0 : n0 ≤ h0.size) (V1 : Arv Z h0 a1 k1 .double (0 : Int32) [] (.double 0))  :
    own_Ct l Z (⟨"com/example/forseti/forseti/core/QuantizedVectors", "squaredLength", "([D)D"⟩ : MethodName) prog_72_method_3_code 8 (some .double) ws ({ frames := 0, cells := 0, slots := 0, locals := 0 } : Room) #[(.ref a1)] h0 (fun v h L => ∃ r : UInt64, v = some (.double r) ∧ own_DI (0) r ∧ L = [] ∧ h = h0) ({ frames := 0, cells := 0, slots := 0, locals := 0 } : Room).cells ({ frames := 0, cells := 0, slots := 0, locals := 0 } : Room).slots := by
  refine own_met (plainFor_of_name pn_com_example_forseti_forseti_core_QuantizedVectors) (fun p e s m below meth c s₁ X0 hx hby hml hret hlk hnm hown hZ e0 => ?_)
  have hml : c.maxLocals = 8 := hml
  have N0 := Fr.nil n0
  refine own_st (fun _ k => castTop (ef_10 m a1) k) ?_
  show own_Goes p e below (s₁.setTop (mkF m 0 #[.val (.ref a1), .unset, .unset, .unset, .unset, .unset, .unset, .unset] [])) _
  refine own_st (fun _ k => own_dconst0 X0.here hx rfl (hb hby d10_0) k) ?_
  show own_Goes p e below (s₁.setTop (mkF m 1 #[.val (.ref a1), .unset, .unset, .unset, .unset, .unset, .unset, .unset] [(.double FP.dconst0)])) _
  refine own_st (fun _ k => own_dstoreN X0.here hx rfl (hb hby d10_1) rfl (l' := #[.val (.ref a1), .val (.double FP.dconst0), .second, .unset, .unset, .unset, .unset, .unset]) rfl k) ?_
  show own_Goes p e below (s₁.setTop (mkF m 2 #[.val (.ref a1), .val (.double FP.dconst0), .second, .unset, .unset, .unset, .unset, .unset] [])) _
  refine own_st (fun _ k => XS.aloadN X0.here hx rfl (hb hby d10_2) rfl rfl k) ?_
  show own_Goes p e below (s₁.setTop (mkF m 3 #[.val (.ref a1), .val (.double FP.dconst0), .second, .unset, .unset, .unset, .unset, .unset] [(.ref a1)])) _
  refine own_st (fun _ k => XS.astoreN X0.here hx rfl (hb hby d10_3) rfl rfl (l' := #[.val (.ref a1), .val (.double FP.dconst0), .second, .val (.ref a1), .unset, .unset, .unset, .unset]) rfl k) ?_
  show own_Goes p e below (s₁.setTop (mkF m 4 #[.val (.ref a1), .val (.double FP.dconst0), .second, .val (.ref a1), .unset, .unset, .unset, .unset] [])) _
  refine own_st (fun _ k => XS.aloadN X0.here hx rfl (hb hby d10_4) rfl rfl k) ?_
  show own_Goes p e below (s₁.setTop (mkF m 5 #[.val (.ref a1), .val (.double FP.dconst0), .second, .val (.ref a1), .unset, .unset, .unset, .unset] [(.ref a1)])) _
  refine own_st (own_len (pc := 5) (Ls := #[.val (.ref a1), .val (.double FP.dconst0), .second, .val (.ref a1), .unset, .unset, .unset, .unset]) (rest := []) X0 hx hZ e0 V1 (hb hby d10_5)) ?_
  show own_Goes p e below (s₁.setTop (mkF m 6 #[.val (.ref a1), .val (.double FP.dconst0), .second, .val (.ref a1), .unset, .unset, .unset, .unset] [(.int (0 : Int32))])) _
  refine own_st (fun _ k => XS.istore X0.here hx rfl (hb hby d10_6) rfl (l' := #[.val (.ref a1), .val (.double FP.dconst0), .second, .val (.ref a1), .val (.int (0 : Int32)), .unset, .unset, .unset]) rfl k) ?_
  show own_Goes p e below (s₁.setTop (mkF m 8 #[.val (.ref a1), .val (.double FP.dconst0), .second, .val (.ref a1), .val (.int (0 : Int32)), .unset, .unset, .unset] [])) _
  refine own_st (fun _ k => XS.iconst X0.here hx rfl (hb hby d10_8) k) ?_
  show own_Goes p e below (s₁.setTop (mkF m 9 #[.val (.ref a1), .val (.double FP.dconst0), .second, .val (.ref a1), .val (.int (0 : Int32)), .unset, .unset, .unset] [(.int (0 : Int32))])) _
  refine own_st (fun _ k => XS.istore X0.here hx rfl (hb hby d10_9) rfl (l' := #[.val (.ref a1), .val (.double FP.dconst0), .second, .val (.ref a1), .val (.int (0 : Int32)), .val (.int (0 : Int32)), .unset, .unset]) rfl k) ?_
  show own_Goes p e below (s₁.setTop (mkF m 11 #[.val (.ref a1), .val (.double FP.dconst0), .second, .val (.ref a1), .val (.int (0 : Int32)), .val (.int (0 : Int32)), .unset, .unset] [])) _
  refine own_st (fun _ k => XS.iload X0.here hx rfl (hb hby d10_11) rfl k) ?_
  show own_Goes p e below (s₁.setTop (mkF m 13 #[.val (.ref a1), .val (.double FP.dconst0), .second, .val (.ref a1), .val (.int (0 : Int32)), .val (.int (0 : Int32)), .unset, .unset] [(.int (0 : Int32))])) _
  refine own_st (fun _ k => XS.iload X0.here hx rfl (hb hby d10_13) rfl k) ?_
  show own_Goes p e below (s₁.setTop (mkF m 15 #[.val (.ref a1), .val (.double FP.dconst0), .second, .val (.ref a1), .val (.int (0 : Int32)), .val (.int (0 : Int32)), .unset, .unset] [(.int (0 : Int32)), (.int (0 : Int32))])) _
  refine own_st (fun _ k => XS.icmpYes X0.here hx rfl (pc0 := 15) (pc' := 38) rfl (hb hby d10_15) rfl (flt (by decide : ¬ ((0 : Int32) < (0 : Int32)))).2.1 (by decide) (by decide) k) ?_
  show own_Goes p e below (s₁.setTop (mkF m 38 #[.val (.ref a1), .val (.double FP.dconst0), .second, .val (.ref a1), .val (.int (0 : Int32)), .val (.int (0 : Int32)), .unset, .unset] [])) _
  refine own_st (fun _ k => XT.dloadN X0.here hx rfl (hb hby d10_38) rfl k) ?_
  show own_Goes p e below (s₁.setTop (mkF m 39 #[.val (.ref a1), .val (.double FP.dconst0), .second, .val (.ref a1), .val (.int (0 : Int32)), .val (.int (0 : Int32)), .unset, .unset] [(.double FP.dconst0)])) _
  exact own_retD X0 hx hlk hret (hb hby d10_39) (by decide) (by decide) e0 ⟨_, rfl, own_di_0, rfl, rfl⟩
theorem d11_0 : decode prog_72_method_3_code 0 = .ok (.dconst 0, 1) := by decide +kernel
theorem d11_1 : decode prog_72_method_3_code 1 = .ok (.dstore_n 1, 1) := by decide +kernel
theorem d11_2 : decode prog_72_method_3_code 2 = .ok (.aload_n 0, 1) := by decide +kernel
theorem d11_3 : decode prog_72_method_3_code 3 = .ok (.astore_n 3, 1) := by decide +kernel
theorem d11_4 : decode prog_72_method_3_code 4 = .ok (.aload_n 3, 1) := by decide +kernel
theorem d11_5 : decode prog_72_method_3_code 5 = .ok (.arraylength, 1) := by decide +kernel
theorem d11_6 : decode prog_72_method_3_code 6 = .ok (.istore 4, 2) := by decide +kernel
theorem d11_8 : decode prog_72_method_3_code 8 = .ok (.iconst 0, 1) := by decide +kernel
theorem d11_9 : decode prog_72_method_3_code 9 = .ok (.istore 5, 2) := by decide +kernel
theorem d11_11 : decode prog_72_method_3_code 11 = .ok (.iload 5, 2) := by decide +kernel
theorem d11_13 : decode prog_72_method_3_code 13 = .ok (.iload 4, 2) := by decide +kernel
theorem d11_15 : decode prog_72_method_3_code 15 = .ok (.if_icmp .ge 23, 3) := by decide +kernel
theorem d11_18 : decode prog_72_method_3_code 18 = .ok (.aload_n 3, 1) := by decide +kernel
theorem d11_19 : decode prog_72_method_3_code 19 = .ok (.iload 5, 2) := by decide +kernel
theorem d11_21 : decode prog_72_method_3_code 21 = .ok (.daload, 1) := by decide +kernel
theorem d11_22 : decode prog_72_method_3_code 22 = .ok (.dstore 6, 2) := by decide +kernel
theorem d11_24 : decode prog_72_method_3_code 24 = .ok (.dload_n 1, 1) := by decide +kernel
theorem d11_25 : decode prog_72_method_3_code 25 = .ok (.dload 6, 2) := by decide +kernel
theorem d11_27 : decode prog_72_method_3_code 27 = .ok (.dload 6, 2) := by decide +kernel
theorem d11_29 : decode prog_72_method_3_code 29 = .ok (.dmul, 1) := by decide +kernel
theorem d11_30 : decode prog_72_method_3_code 30 = .ok (.dadd, 1) := by decide +kernel
theorem d11_31 : decode prog_72_method_3_code 31 = .ok (.dstore_n 1, 1) := by decide +kernel
theorem d11_32 : decode prog_72_method_3_code 32 = .ok (.iinc 5 1, 3) := by decide +kernel
theorem d11_35 : decode prog_72_method_3_code 35 = .ok (.goto (-24), 3) := by decide +kernel
theorem d11_38 : decode prog_72_method_3_code 38 = .ok (.dload_n 1, 1) := by decide +kernel
theorem d11_39 : decode prog_72_method_3_code 39 = .ok (.dreturn, 1) := by decide +kernel
theorem ef_11 (m : MethodId) (a1 : Addr) : entryFrame m #[(.ref a1)] 8 = mkF m 0 #[.val (.ref a1), .unset, .unset, .unset, .unset, .unset, .unset, .unset] [] := by first | (simp [entryFrame, mkF, argsToLocals, Value.category]; done) | rfl
set_option maxRecDepth 65536 in
set_option maxHeartbeats 40000000 in
theorem rm11 (l : Launch) (Z : State) (a0 : Array Value) (hw : ∀ d ∈ tables_1, d.before a0 Z = true) (ws : List Jvm.Cond) (a1 : Addr) (k1 : ClassId) (x0 : UInt64) (i0 : Int) (h0 : Heap) (n0 : Nat) (Z0 : n0 ≤ h0.size) (V1 : Arv Z h0 a1 k1 .double (1 : Int32) [(.double x0)] (.double 0)) (D0 : own_DI i0 x0) (B0 : own_B i0) :
    own_Ct l Z (⟨"com/example/forseti/forseti/core/QuantizedVectors", "squaredLength", "([D)D"⟩ : MethodName) prog_72_method_3_code 8 (some .double) ws ({ frames := 0, cells := 0, slots := 0, locals := 0 } : Room) #[(.ref a1)] h0 (fun v h L => ∃ r : UInt64, v = some (.double r) ∧ own_DI (0 + i0 * i0) r ∧ L = [] ∧ h = h0) ({ frames := 0, cells := 0, slots := 0, locals := 0 } : Room).cells ({ frames := 0, cells := 0, slots := 0, locals := 0 } : Room).slots := by
  refine own_met (plainFor_of_name pn_com_example_forseti_forseti_core_QuantizedVectors) (fun p e s m below meth c s₁ X0 hx hby hml hret hlk hnm hown hZ e0 => ?_)
  have hml : c.maxLocals = 8 := hml
  have N0 := Fr.nil n0
  refine own_st (fun _ k => castTop (ef_11 m a1) k) ?_
  show own_Goes p e below (s₁.setTop (mkF m 0 #[.val (.ref a1), .unset, .unset, .unset, .unset, .unset, .unset, .unset] [])) _
  refine own_st (fun _ k => own_dconst0 X0.here hx rfl (hb hby d11_0) k) ?_
  show own_Goes p e below (s₁.setTop (mkF m 1 #[.val (.ref a1), .unset, .unset, .unset, .unset, .unset, .unset, .unset] [(.double FP.dconst0)])) _
  refine own_st (fun _ k => own_dstoreN X0.here hx rfl (hb hby d11_1) rfl (l' := #[.val (.ref a1), .val (.double FP.dconst0), .second, .unset, .unset, .unset, .unset, .unset]) rfl k) ?_
  show own_Goes p e below (s₁.setTop (mkF m 2 #[.val (.ref a1), .val (.double FP.dconst0), .second, .unset, .unset, .unset, .unset, .unset] [])) _
  refine own_st (fun _ k => XS.aloadN X0.here hx rfl (hb hby d11_2) rfl rfl k) ?_
  show own_Goes p e below (s₁.setTop (mkF m 3 #[.val (.ref a1), .val (.double FP.dconst0), .second, .unset, .unset, .unset, .unset, .unset] [(.ref a1)])) _
  refine own_st (fun _ k => XS.astoreN X0.here hx rfl (hb hby d11_3) rfl rfl (l' := #[.val (.ref a1), .val (.double FP.dconst0), .second, .val (.ref a1), .unset, .unset, .unset, .unset]) rfl k) ?_
  show own_Goes p e below (s₁.setTop (mkF m 4 #[.val (.ref a1), .val (.double FP.dconst0), .second, .val (.ref a1), .unset, .unset, .unset, .unset] [])) _
  refine own_st (fun _ k => XS.aloadN X0.here hx rfl (hb hby d11_4) rfl rfl k) ?_
  show own_Goes p e below (s₁.setTop (mkF m 5 #[.val (.ref a1), .val (.double FP.dconst0), .second, .val (.ref a1), .unset, .unset, .unset, .unset] [(.ref a1)])) _
  refine own_st (own_len (pc := 5) (Ls := #[.val (.ref a1), .val (.double FP.dconst0), .second, .val (.ref a1), .unset, .unset, .unset, .unset]) (rest := []) X0 hx hZ e0 V1 (hb hby d11_5)) ?_
  show own_Goes p e below (s₁.setTop (mkF m 6 #[.val (.ref a1), .val (.double FP.dconst0), .second, .val (.ref a1), .unset, .unset, .unset, .unset] [(.int (1 : Int32))])) _
  refine own_st (fun _ k => XS.istore X0.here hx rfl (hb hby d11_6) rfl (l' := #[.val (.ref a1), .val (.double FP.dconst0), .second, .val (.ref a1), .val (.int (1 : Int32)), .unset, .unset, .unset]) rfl k) ?_
  show own_Goes p e below (s₁.setTop (mkF m 8 #[.val (.ref a1), .val (.double FP.dconst0), .second, .val (.ref a1), .val (.int (1 : Int32)), .unset, .unset, .unset] [])) _
  refine own_st (fun _ k => XS.iconst X0.here hx rfl (hb hby d11_8) k) ?_
  show own_Goes p e below (s₁.setTop (mkF m 9 #[.val (.ref a1), .val (.double FP.dconst0), .second, .val (.ref a1), .val (.int (1 : Int32)), .unset, .unset, .unset] [(.int (0 : Int32))])) _
  refine own_st (fun _ k => XS.istore X0.here hx rfl (hb hby d11_9) rfl (l' := #[.val (.ref a1), .val (.double FP.dconst0), .second, .val (.ref a1), .val (.int (1 : Int32)), .val (.int (0 : Int32)), .unset, .unset]) rfl k) ?_
  show own_Goes p e below (s₁.setTop (mkF m 11 #[.val (.ref a1), .val (.double FP.dconst0), .second, .val (.ref a1), .val (.int (1 : Int32)), .val (.int (0 : Int32)), .unset, .unset] [])) _
  refine own_st (fun _ k => XS.iload X0.here hx rfl (hb hby d11_11) rfl k) ?_
  show own_Goes p e below (s₁.setTop (mkF m 13 #[.val (.ref a1), .val (.double FP.dconst0), .second, .val (.ref a1), .val (.int (1 : Int32)), .val (.int (0 : Int32)), .unset, .unset] [(.int (0 : Int32))])) _
  refine own_st (fun _ k => XS.iload X0.here hx rfl (hb hby d11_13) rfl k) ?_
  show own_Goes p e below (s₁.setTop (mkF m 15 #[.val (.ref a1), .val (.double FP.dconst0), .second, .val (.ref a1), .val (.int (1 : Int32)), .val (.int (0 : Int32)), .unset, .unset] [(.int (1 : Int32)), (.int (0 : Int32))])) _
  refine own_st (fun _ k => XS.icmpNo X0.here hx rfl (hb hby d11_15) rfl (tlt (by decide : (0 : Int32) < (1 : Int32))).2.1 k) ?_
  show own_Goes p e below (s₁.setTop (mkF m 18 #[.val (.ref a1), .val (.double FP.dconst0), .second, .val (.ref a1), .val (.int (1 : Int32)), .val (.int (0 : Int32)), .unset, .unset] [])) _
  refine own_st (fun _ k => XS.aloadN X0.here hx rfl (hb hby d11_18) rfl rfl k) ?_
  show own_Goes p e below (s₁.setTop (mkF m 19 #[.val (.ref a1), .val (.double FP.dconst0), .second, .val (.ref a1), .val (.int (1 : Int32)), .val (.int (0 : Int32)), .unset, .unset] [(.ref a1)])) _
  refine own_st (fun _ k => XS.iload X0.here hx rfl (hb hby d11_19) rfl k) ?_
  show own_Goes p e below (s₁.setTop (mkF m 21 #[.val (.ref a1), .val (.double FP.dconst0), .second, .val (.ref a1), .val (.int (1 : Int32)), .val (.int (0 : Int32)), .unset, .unset] [(.int (0 : Int32)), (.ref a1)])) _
  refine own_st (own_ldD (v := (.double x0)) (pc := 21) (Ls := #[.val (.ref a1), .val (.double FP.dconst0), .second, .val (.ref a1), .val (.int (1 : Int32)), .val (.int (0 : Int32)), .unset, .unset]) (rest := []) (j := (0 : Int32)) X0 hx hZ e0 V1 (by decide) rfl (hb hby d11_21)) ?_
  show own_Goes p e below (s₁.setTop (mkF m 22 #[.val (.ref a1), .val (.double FP.dconst0), .second, .val (.ref a1), .val (.int (1 : Int32)), .val (.int (0 : Int32)), .unset, .unset] [(.double x0)])) _
  refine own_st (fun _ k => own_dstore X0.here hx rfl (hb hby d11_22) rfl (l' := #[.val (.ref a1), .val (.double FP.dconst0), .second, .val (.ref a1), .val (.int (1 : Int32)), .val (.int (0 : Int32)), .val (.double x0), .second]) rfl k) ?_
  show own_Goes p e below (s₁.setTop (mkF m 24 #[.val (.ref a1), .val (.double FP.dconst0), .second, .val (.ref a1), .val (.int (1 : Int32)), .val (.int (0 : Int32)), .val (.double x0), .second] [])) _
  refine own_st (fun _ k => XT.dloadN X0.here hx rfl (hb hby d11_24) rfl k) ?_
  show own_Goes p e below (s₁.setTop (mkF m 25 #[.val (.ref a1), .val (.double FP.dconst0), .second, .val (.ref a1), .val (.int (1 : Int32)), .val (.int (0 : Int32)), .val (.double x0), .second] [(.double FP.dconst0)])) _
  refine own_st (fun _ k => XT.dload X0.here hx rfl (hb hby d11_25) rfl k) ?_
  show own_Goes p e below (s₁.setTop (mkF m 27 #[.val (.ref a1), .val (.double FP.dconst0), .second, .val (.ref a1), .val (.int (1 : Int32)), .val (.int (0 : Int32)), .val (.double x0), .second] [(.double x0), (.double FP.dconst0)])) _
  refine own_st (fun _ k => XT.dload X0.here hx rfl (hb hby d11_27) rfl k) ?_
  show own_Goes p e below (s₁.setTop (mkF m 29 #[.val (.ref a1), .val (.double FP.dconst0), .second, .val (.ref a1), .val (.int (1 : Int32)), .val (.int (0 : Int32)), .val (.double x0), .second] [(.double x0), (.double x0), (.double FP.dconst0)])) _
  have Dm0 := own_di_mul D0 D0 (by have q := own_sq B0; generalize i0 * i0 = t at *; omega)
  refine own_st (fun _ k => own_dmul X0.here hx rfl (hb hby d11_29) rfl (own_di_no Dm0) k) ?_
  show own_Goes p e below (s₁.setTop (mkF m 30 #[.val (.ref a1), .val (.double FP.dconst0), .second, .val (.ref a1), .val (.int (1 : Int32)), .val (.int (0 : Int32)), .val (.double x0), .second] [(.double (FP.dmul x0 x0)), (.double FP.dconst0)])) _
  obtain ⟨m0, hm0⟩ : ∃ z, FP.dmul x0 x0 = z := ⟨_, rfl⟩
  rw [hm0] at Dm0 ⊢
  show own_Goes p e below (s₁.setTop (mkF m 30 #[.val (.ref a1), .val (.double FP.dconst0), .second, .val (.ref a1), .val (.int (1 : Int32)), .val (.int (0 : Int32)), .val (.double x0), .second] [(.double m0), (.double FP.dconst0)])) _
  have Da0 := own_di_add own_di_0 Dm0 (by have q0 := own_sq B0; generalize i0 * i0 = t0 at *; omega)
  refine own_st (fun _ k => own_dadd X0.here hx rfl (hb hby d11_30) rfl (own_di_no Da0) k) ?_
  show own_Goes p e below (s₁.setTop (mkF m 31 #[.val (.ref a1), .val (.double FP.dconst0), .second, .val (.ref a1), .val (.int (1 : Int32)), .val (.int (0 : Int32)), .val (.double x0), .second] [(.double (FP.dadd FP.dconst0 m0))])) _
  obtain ⟨s0, hs0⟩ : ∃ z, FP.dadd FP.dconst0 m0 = z := ⟨_, rfl⟩
  rw [hs0] at Da0 ⊢
  show own_Goes p e below (s₁.setTop (mkF m 31 #[.val (.ref a1), .val (.double FP.dconst0), .second, .val (.ref a1), .val (.int (1 : Int32)), .val (.int (0 : Int32)), .val (.double x0), .second] [(.double s0)])) _
  refine own_st (fun _ k => own_dstoreN X0.here hx rfl (hb hby d11_31) rfl (l' := #[.val (.ref a1), .val (.double s0), .second, .val (.ref a1), .val (.int (1 : Int32)), .val (.int (0 : Int32)), .val (.double x0), .second]) rfl k) ?_
  show own_Goes p e below (s₁.setTop (mkF m 32 #[.val (.ref a1), .val (.double s0), .second, .val (.ref a1), .val (.int (1 : Int32)), .val (.int (0 : Int32)), .val (.double x0), .second] [])) _
  refine own_st (fun _ k => XS.iinc X0.here hx rfl (hb hby d11_32) rfl (l' := #[.val (.ref a1), .val (.double s0), .second, .val (.ref a1), .val (.int (1 : Int32)), .val (.int ((0 : Int32) + (1 : Int32))), .val (.double x0), .second]) rfl k) ?_
  show own_Goes p e below (s₁.setTop (mkF m 35 #[.val (.ref a1), .val (.double s0), .second, .val (.ref a1), .val (.int (1 : Int32)), .val (.int ((0 : Int32) + (1 : Int32))), .val (.double x0), .second] [])) _
  rw [show (0 : Int32) + (1 : Int32) = (1 : Int32) from by decide]
  show own_Goes p e below (s₁.setTop (mkF m 35 #[.val (.ref a1), .val (.double s0), .second, .val (.ref a1), .val (.int (1 : Int32)), .val (.int (1 : Int32)), .val (.double x0), .second] [])) _
  refine own_st (fun _ k => XS.goto X0.here hx rfl (pc0 := 35) (pc' := 11) rfl (hb hby d11_35) (by decide) (by decide) k) ?_
  show own_Goes p e below (s₁.setTop (mkF m 11 #[.val (.ref a1), .val (.double s0), .second, .val (.ref a1), .val (.int (1 : Int32)), .val (.int (1 : Int32)), .val (.double x0), .second] [])) _
  refine own_st (fun _ k => XS.iload X0.here hx rfl (hb hby d11_11) rfl k) ?_
  show own_Goes p e below (s₁.setTop (mkF m 13 #[.val (.ref a1), .val (.double s0), .second, .val (.ref a1), .val (.int (1 : Int32)), .val (.int (1 : Int32)), .val (.double x0), .second] [(.int (1 : Int32))])) _
  refine own_st (fun _ k => XS.iload X0.here hx rfl (hb hby d11_13) rfl k) ?_
  show own_Goes p e below (s₁.setTop (mkF m 15 #[.val (.ref a1), .val (.double s0), .second, .val (.ref a1), .val (.int (1 : Int32)), .val (.int (1 : Int32)), .val (.double x0), .second] [(.int (1 : Int32)), (.int (1 : Int32))])) _
  refine own_st (fun _ k => XS.icmpYes X0.here hx rfl (pc0 := 15) (pc' := 38) rfl (hb hby d11_15) rfl (flt (by decide : ¬ ((1 : Int32) < (1 : Int32)))).2.1 (by decide) (by decide) k) ?_
  show own_Goes p e below (s₁.setTop (mkF m 38 #[.val (.ref a1), .val (.double s0), .second, .val (.ref a1), .val (.int (1 : Int32)), .val (.int (1 : Int32)), .val (.double x0), .second] [])) _
  refine own_st (fun _ k => XT.dloadN X0.here hx rfl (hb hby d11_38) rfl k) ?_
  show own_Goes p e below (s₁.setTop (mkF m 39 #[.val (.ref a1), .val (.double s0), .second, .val (.ref a1), .val (.int (1 : Int32)), .val (.int (1 : Int32)), .val (.double x0), .second] [(.double s0)])) _
  exact own_retD X0 hx hlk hret (hb hby d11_39) (by decide) (by decide) e0 ⟨_, rfl, Da0, rfl, rfl⟩
theorem d12_0 : decode prog_72_method_3_code 0 = .ok (.dconst 0, 1) := by decide +kernel
theorem d12_1 : decode prog_72_method_3_code 1 = .ok (.dstore_n 1, 1) := by decide +kernel
theorem d12_2 : decode prog_72_method_3_code 2 = .ok (.aload_n 0, 1) := by decide +kernel
theorem d12_3 : decode prog_72_method_3_code 3 = .ok (.astore_n 3, 1) := by decide +kernel
theorem d12_4 : decode prog_72_method_3_code 4 = .ok (.aload_n 3, 1) := by decide +kernel
theorem d12_5 : decode prog_72_method_3_code 5 = .ok (.arraylength, 1) := by decide +kernel
theorem d12_6 : decode prog_72_method_3_code 6 = .ok (.istore 4, 2) := by decide +kernel
theorem d12_8 : decode prog_72_method_3_code 8 = .ok (.iconst 0, 1) := by decide +kernel
theorem d12_9 : decode prog_72_method_3_code 9 = .ok (.istore 5, 2) := by decide +kernel
theorem d12_11 : decode prog_72_method_3_code 11 = .ok (.iload 5, 2) := by decide +kernel
theorem d12_13 : decode prog_72_method_3_code 13 = .ok (.iload 4, 2) := by decide +kernel
theorem d12_15 : decode prog_72_method_3_code 15 = .ok (.if_icmp .ge 23, 3) := by decide +kernel
theorem d12_18 : decode prog_72_method_3_code 18 = .ok (.aload_n 3, 1) := by decide +kernel
theorem d12_19 : decode prog_72_method_3_code 19 = .ok (.iload 5, 2) := by decide +kernel
theorem d12_21 : decode prog_72_method_3_code 21 = .ok (.daload, 1) := by decide +kernel
theorem d12_22 : decode prog_72_method_3_code 22 = .ok (.dstore 6, 2) := by decide +kernel
theorem d12_24 : decode prog_72_method_3_code 24 = .ok (.dload_n 1, 1) := by decide +kernel
theorem d12_25 : decode prog_72_method_3_code 25 = .ok (.dload 6, 2) := by decide +kernel
theorem d12_27 : decode prog_72_method_3_code 27 = .ok (.dload 6, 2) := by decide +kernel
theorem d12_29 : decode prog_72_method_3_code 29 = .ok (.dmul, 1) := by decide +kernel
theorem d12_30 : decode prog_72_method_3_code 30 = .ok (.dadd, 1) := by decide +kernel
theorem d12_31 : decode prog_72_method_3_code 31 = .ok (.dstore_n 1, 1) := by decide +kernel
theorem d12_32 : decode prog_72_method_3_code 32 = .ok (.iinc 5 1, 3) := by decide +kernel
theorem d12_35 : decode prog_72_method_3_code 35 = .ok (.goto (-24), 3) := by decide +kernel
theorem d12_38 : decode prog_72_method_3_code 38 = .ok (.dload_n 1, 1) := by decide +kernel
theorem d12_39 : decode prog_72_method_3_code 39 = .ok (.dreturn, 1) := by decide +kernel
theorem ef_12 (m : MethodId) (a1 : Addr) : entryFrame m #[(.ref a1)] 8 = mkF m 0 #[.val (.ref a1), .unset, .unset, .unset, .unset, .unset, .unset, .unset] [] := by first | (simp [entryFrame, mkF, argsToLocals, Value.category]; done) | rfl
set_option maxRecDepth 65536 in
set_option maxHeartbeats 40000000 in
theorem rm12 (l : Launch) (Z : State) (a0 : Array Value) (hw : ∀ d ∈ tables_1, d.before a0 Z = true) (ws : List Jvm.Cond) (a1 : Addr) (k1 : ClassId) (x0 x1 : UInt64) (i0 i1 : Int) (h0 : Heap) (n0 : Nat) (Z0 : n0 ≤ h0.size) (V1 : Arv Z h0 a1 k1 .double (2 : Int32) [(.double x0), (.double x1)] (.double 0)) (D0 : own_DI i0 x0) (B0 : own_B i0) (D1 : own_DI i1 x1) (B1 : own_B i1) :
    own_Ct l Z (⟨"com/example/forseti/forseti/core/QuantizedVectors", "squaredLength", "([D)D"⟩ : MethodName) prog_72_method_3_code 8 (some .double) ws ({ frames := 0, cells := 0, slots := 0, locals := 0 } : Room) #[(.ref a1)] h0 (fun v h L => ∃ r : UInt64, v = some (.double r) ∧ own_DI (0 + i0 * i0 + i1 * i1) r ∧ L = [] ∧ h = h0) ({ frames := 0, cells := 0, slots := 0, locals := 0 } : Room).cells ({ frames := 0, cells := 0, slots := 0, locals := 0 } : Room).slots := by
  refine own_met (plainFor_of_name pn_com_example_forseti_forseti_core_QuantizedVectors) (fun p e s m below meth c s₁ X0 hx hby hml hret hlk hnm hown hZ e0 => ?_)
  have hml : c.maxLocals = 8 := hml
  have N0 := Fr.nil n0
  refine own_st (fun _ k => castTop (ef_12 m a1) k) ?_
  show own_Goes p e below (s₁.setTop (mkF m 0 #[.val (.ref a1), .unset, .unset, .unset, .unset, .unset, .unset, .unset] [])) _
  refine own_st (fun _ k => own_dconst0 X0.here hx rfl (hb hby d12_0) k) ?_
  show own_Goes p e below (s₁.setTop (mkF m 1 #[.val (.ref a1), .unset, .unset, .unset, .unset, .unset, .unset, .unset] [(.double FP.dconst0)])) _
  refine own_st (fun _ k => own_dstoreN X0.here hx rfl (hb hby d12_1) rfl (l' := #[.val (.ref a1), .val (.double FP.dconst0), .second, .unset, .unset, .unset, .unset, .unset]) rfl k) ?_
  show own_Goes p e below (s₁.setTop (mkF m 2 #[.val (.ref a1), .val (.double FP.dconst0), .second, .unset, .unset, .unset, .unset, .unset] [])) _
  refine own_st (fun _ k => XS.aloadN X0.here hx rfl (hb hby d12_2) rfl rfl k) ?_
  show own_Goes p e below (s₁.setTop (mkF m 3 #[.val (.ref a1), .val (.double FP.dconst0), .second, .unset, .unset, .unset, .unset, .unset] [(.ref a1)])) _
  refine own_st (fun _ k => XS.astoreN X0.here hx rfl (hb hby d12_3) rfl rfl (l' := #[.val (.ref a1), .val (.double FP.dconst0), .second, .val (.ref a1), .unset, .unset, .unset, .unset]) rfl k) ?_
  show own_Goes p e below (s₁.setTop (mkF m 4 #[.val (.ref a1), .val (.double FP.dconst0), .second, .val (.ref a1), .unset, .unset, .unset, .unset] [])) _
  refine own_st (fun _ k => XS.aloadN X0.here hx rfl (hb hby d12_4) rfl rfl k) ?_
  show own_Goes p e below (s₁.setTop (mkF m 5 #[.val (.ref a1), .val (.double FP.dconst0), .second, .val (.ref a1), .unset, .unset, .unset, .unset] [(.ref a1)])) _
  refine own_st (own_len (pc := 5) (Ls := #[.val (.ref a1), .val (.double FP.dconst0), .second, .val (.ref a1), .unset, .unset, .unset, .unset]) (rest := []) X0 hx hZ e0 V1 (hb hby d12_5)) ?_
  show own_Goes p e below (s₁.setTop (mkF m 6 #[.val (.ref a1), .val (.double FP.dconst0), .second, .val (.ref a1), .unset, .unset, .unset, .unset] [(.int (2 : Int32))])) _
  refine own_st (fun _ k => XS.istore X0.here hx rfl (hb hby d12_6) rfl (l' := #[.val (.ref a1), .val (.double FP.dconst0), .second, .val (.ref a1), .val (.int (2 : Int32)), .unset, .unset, .unset]) rfl k) ?_
  show own_Goes p e below (s₁.setTop (mkF m 8 #[.val (.ref a1), .val (.double FP.dconst0), .second, .val (.ref a1), .val (.int (2 : Int32)), .unset, .unset, .unset] [])) _
  refine own_st (fun _ k => XS.iconst X0.here hx rfl (hb hby d12_8) k) ?_
  show own_Goes p e below (s₁.setTop (mkF m 9 #[.val (.ref a1), .val (.double FP.dconst0), .second, .val (.ref a1), .val (.int (2 : Int32)), .unset, .unset, .unset] [(.int (0 : Int32))])) _
  refine own_st (fun _ k => XS.istore X0.here hx rfl (hb hby d12_9) rfl (l' := #[.val (.ref a1), .val (.double FP.dconst0), .second, .val (.ref a1), .val (.int (2 : Int32)), .val (.int (0 : Int32)), .unset, .unset]) rfl k) ?_
  show own_Goes p e below (s₁.setTop (mkF m 11 #[.val (.ref a1), .val (.double FP.dconst0), .second, .val (.ref a1), .val (.int (2 : Int32)), .val (.int (0 : Int32)), .unset, .unset] [])) _
  refine own_st (fun _ k => XS.iload X0.here hx rfl (hb hby d12_11) rfl k) ?_
  show own_Goes p e below (s₁.setTop (mkF m 13 #[.val (.ref a1), .val (.double FP.dconst0), .second, .val (.ref a1), .val (.int (2 : Int32)), .val (.int (0 : Int32)), .unset, .unset] [(.int (0 : Int32))])) _
  refine own_st (fun _ k => XS.iload X0.here hx rfl (hb hby d12_13) rfl k) ?_
  show own_Goes p e below (s₁.setTop (mkF m 15 #[.val (.ref a1), .val (.double FP.dconst0), .second, .val (.ref a1), .val (.int (2 : Int32)), .val (.int (0 : Int32)), .unset, .unset] [(.int (2 : Int32)), (.int (0 : Int32))])) _
  refine own_st (fun _ k => XS.icmpNo X0.here hx rfl (hb hby d12_15) rfl (tlt (by decide : (0 : Int32) < (2 : Int32))).2.1 k) ?_
  show own_Goes p e below (s₁.setTop (mkF m 18 #[.val (.ref a1), .val (.double FP.dconst0), .second, .val (.ref a1), .val (.int (2 : Int32)), .val (.int (0 : Int32)), .unset, .unset] [])) _
  refine own_st (fun _ k => XS.aloadN X0.here hx rfl (hb hby d12_18) rfl rfl k) ?_
  show own_Goes p e below (s₁.setTop (mkF m 19 #[.val (.ref a1), .val (.double FP.dconst0), .second, .val (.ref a1), .val (.int (2 : Int32)), .val (.int (0 : Int32)), .unset, .unset] [(.ref a1)])) _
  refine own_st (fun _ k => XS.iload X0.here hx rfl (hb hby d12_19) rfl k) ?_
  show own_Goes p e below (s₁.setTop (mkF m 21 #[.val (.ref a1), .val (.double FP.dconst0), .second, .val (.ref a1), .val (.int (2 : Int32)), .val (.int (0 : Int32)), .unset, .unset] [(.int (0 : Int32)), (.ref a1)])) _
  refine own_st (own_ldD (v := (.double x0)) (pc := 21) (Ls := #[.val (.ref a1), .val (.double FP.dconst0), .second, .val (.ref a1), .val (.int (2 : Int32)), .val (.int (0 : Int32)), .unset, .unset]) (rest := []) (j := (0 : Int32)) X0 hx hZ e0 V1 (by decide) rfl (hb hby d12_21)) ?_
  show own_Goes p e below (s₁.setTop (mkF m 22 #[.val (.ref a1), .val (.double FP.dconst0), .second, .val (.ref a1), .val (.int (2 : Int32)), .val (.int (0 : Int32)), .unset, .unset] [(.double x0)])) _
  refine own_st (fun _ k => own_dstore X0.here hx rfl (hb hby d12_22) rfl (l' := #[.val (.ref a1), .val (.double FP.dconst0), .second, .val (.ref a1), .val (.int (2 : Int32)), .val (.int (0 : Int32)), .val (.double x0), .second]) rfl k) ?_
  show own_Goes p e below (s₁.setTop (mkF m 24 #[.val (.ref a1), .val (.double FP.dconst0), .second, .val (.ref a1), .val (.int (2 : Int32)), .val (.int (0 : Int32)), .val (.double x0), .second] [])) _
  refine own_st (fun _ k => XT.dloadN X0.here hx rfl (hb hby d12_24) rfl k) ?_
  show own_Goes p e below (s₁.setTop (mkF m 25 #[.val (.ref a1), .val (.double FP.dconst0), .second, .val (.ref a1), .val (.int (2 : Int32)), .val (.int (0 : Int32)), .val (.double x0), .second] [(.double FP.dconst0)])) _
  refine own_st (fun _ k => XT.dload X0.here hx rfl (hb hby d12_25) rfl k) ?_
  show own_Goes p e below (s₁.setTop (mkF m 27 #[.val (.ref a1), .val (.double FP.dconst0), .second, .val (.ref a1), .val (.int (2 : Int32)), .val (.int (0 : Int32)), .val (.double x0), .second] [(.double x0), (.double FP.dconst0)])) _
  refine own_st (fun _ k => XT.dload X0.here hx rfl (hb hby d12_27) rfl k) ?_
  show own_Goes p e below (s₁.setTop (mkF m 29 #[.val (.ref a1), .val (.double FP.dconst0), .second, .val (.ref a1), .val (.int (2 : Int32)), .val (.int (0 : Int32)), .val (.double x0), .second] [(.double x0), (.double x0), (.double FP.dconst0)])) _
  have Dm0 := own_di_mul D0 D0 (by have q := own_sq B0; generalize i0 * i0 = t at *; omega)
  refine own_st (fun _ k => own_dmul X0.here hx rfl (hb hby d12_29) rfl (own_di_no Dm0) k) ?_
  show own_Goes p e below (s₁.setTop (mkF m 30 #[.val (.ref a1), .val (.double FP.dconst0), .second, .val (.ref a1), .val (.int (2 : Int32)), .val (.int (0 : Int32)), .val (.double x0), .second] [(.double (FP.dmul x0 x0)), (.double FP.dconst0)])) _
  obtain ⟨m0, hm0⟩ : ∃ z, FP.dmul x0 x0 = z := ⟨_, rfl⟩
  rw [hm0] at Dm0 ⊢
  show own_Goes p e below (s₁.setTop (mkF m 30 #[.val (.ref a1), .val (.double FP.dconst0), .second, .val (.ref a1), .val (.int (2 : Int32)), .val (.int (0 : Int32)), .val (.double x0), .second] [(.double m0), (.double FP.dconst0)])) _
  have Da0 := own_di_add own_di_0 Dm0 (by have q0 := own_sq B0; generalize i0 * i0 = t0 at *; omega)
  refine own_st (fun _ k => own_dadd X0.here hx rfl (hb hby d12_30) rfl (own_di_no Da0) k) ?_
  show own_Goes p e below (s₁.setTop (mkF m 31 #[.val (.ref a1), .val (.double FP.dconst0), .second, .val (.ref a1), .val (.int (2 : Int32)), .val (.int (0 : Int32)), .val (.double x0), .second] [(.double (FP.dadd FP.dconst0 m0))])) _
  obtain ⟨s0, hs0⟩ : ∃ z, FP.dadd FP.dconst0 m0 = z := ⟨_, rfl⟩
  rw [hs0] at Da0 ⊢
  show own_Goes p e below (s₁.setTop (mkF m 31 #[.val (.ref a1), .val (.double FP.dconst0), .second, .val (.ref a1), .val (.int (2 : Int32)), .val (.int (0 : Int32)), .val (.double x0), .second] [(.double s0)])) _
  refine own_st (fun _ k => own_dstoreN X0.here hx rfl (hb hby d12_31) rfl (l' := #[.val (.ref a1), .val (.double s0), .second, .val (.ref a1), .val (.int (2 : Int32)), .val (.int (0 : Int32)), .val (.double x0), .second]) rfl k) ?_
  show own_Goes p e below (s₁.setTop (mkF m 32 #[.val (.ref a1), .val (.double s0), .second, .val (.ref a1), .val (.int (2 : Int32)), .val (.int (0 : Int32)), .val (.double x0), .second] [])) _
  refine own_st (fun _ k => XS.iinc X0.here hx rfl (hb hby d12_32) rfl (l' := #[.val (.ref a1), .val (.double s0), .second, .val (.ref a1), .val (.int (2 : Int32)), .val (.int ((0 : Int32) + (1 : Int32))), .val (.double x0), .second]) rfl k) ?_
  show own_Goes p e below (s₁.setTop (mkF m 35 #[.val (.ref a1), .val (.double s0), .second, .val (.ref a1), .val (.int (2 : Int32)), .val (.int ((0 : Int32) + (1 : Int32))), .val (.double x0), .second] [])) _
  rw [show (0 : Int32) + (1 : Int32) = (1 : Int32) from by decide]
  show own_Goes p e below (s₁.setTop (mkF m 35 #[.val (.ref a1), .val (.double s0), .second, .val (.ref a1), .val (.int (2 : Int32)), .val (.int (1 : Int32)), .val (.double x0), .second] [])) _
  refine own_st (fun _ k => XS.goto X0.here hx rfl (pc0 := 35) (pc' := 11) rfl (hb hby d12_35) (by decide) (by decide) k) ?_
  show own_Goes p e below (s₁.setTop (mkF m 11 #[.val (.ref a1), .val (.double s0), .second, .val (.ref a1), .val (.int (2 : Int32)), .val (.int (1 : Int32)), .val (.double x0), .second] [])) _
  refine own_st (fun _ k => XS.iload X0.here hx rfl (hb hby d12_11) rfl k) ?_
  show own_Goes p e below (s₁.setTop (mkF m 13 #[.val (.ref a1), .val (.double s0), .second, .val (.ref a1), .val (.int (2 : Int32)), .val (.int (1 : Int32)), .val (.double x0), .second] [(.int (1 : Int32))])) _
  refine own_st (fun _ k => XS.iload X0.here hx rfl (hb hby d12_13) rfl k) ?_
  show own_Goes p e below (s₁.setTop (mkF m 15 #[.val (.ref a1), .val (.double s0), .second, .val (.ref a1), .val (.int (2 : Int32)), .val (.int (1 : Int32)), .val (.double x0), .second] [(.int (2 : Int32)), (.int (1 : Int32))])) _
  refine own_st (fun _ k => XS.icmpNo X0.here hx rfl (hb hby d12_15) rfl (tlt (by decide : (1 : Int32) < (2 : Int32))).2.1 k) ?_
  show own_Goes p e below (s₁.setTop (mkF m 18 #[.val (.ref a1), .val (.double s0), .second, .val (.ref a1), .val (.int (2 : Int32)), .val (.int (1 : Int32)), .val (.double x0), .second] [])) _
  refine own_st (fun _ k => XS.aloadN X0.here hx rfl (hb hby d12_18) rfl rfl k) ?_
  show own_Goes p e below (s₁.setTop (mkF m 19 #[.val (.ref a1), .val (.double s0), .second, .val (.ref a1), .val (.int (2 : Int32)), .val (.int (1 : Int32)), .val (.double x0), .second] [(.ref a1)])) _
  refine own_st (fun _ k => XS.iload X0.here hx rfl (hb hby d12_19) rfl k) ?_
  show own_Goes p e below (s₁.setTop (mkF m 21 #[.val (.ref a1), .val (.double s0), .second, .val (.ref a1), .val (.int (2 : Int32)), .val (.int (1 : Int32)), .val (.double x0), .second] [(.int (1 : Int32)), (.ref a1)])) _
  refine own_st (own_ldD (v := (.double x1)) (pc := 21) (Ls := #[.val (.ref a1), .val (.double s0), .second, .val (.ref a1), .val (.int (2 : Int32)), .val (.int (1 : Int32)), .val (.double x0), .second]) (rest := []) (j := (1 : Int32)) X0 hx hZ e0 V1 (by decide) rfl (hb hby d12_21)) ?_
  show own_Goes p e below (s₁.setTop (mkF m 22 #[.val (.ref a1), .val (.double s0), .second, .val (.ref a1), .val (.int (2 : Int32)), .val (.int (1 : Int32)), .val (.double x0), .second] [(.double x1)])) _
  refine own_st (fun _ k => own_dstore X0.here hx rfl (hb hby d12_22) rfl (l' := #[.val (.ref a1), .val (.double s0), .second, .val (.ref a1), .val (.int (2 : Int32)), .val (.int (1 : Int32)), .val (.double x1), .second]) rfl k) ?_
  show own_Goes p e below (s₁.setTop (mkF m 24 #[.val (.ref a1), .val (.double s0), .second, .val (.ref a1), .val (.int (2 : Int32)), .val (.int (1 : Int32)), .val (.double x1), .second] [])) _
  refine own_st (fun _ k => XT.dloadN X0.here hx rfl (hb hby d12_24) rfl k) ?_
  show own_Goes p e below (s₁.setTop (mkF m 25 #[.val (.ref a1), .val (.double s0), .second, .val (.ref a1), .val (.int (2 : Int32)), .val (.int (1 : Int32)), .val (.double x1), .second] [(.double s0)])) _
  refine own_st (fun _ k => XT.dload X0.here hx rfl (hb hby d12_25) rfl k) ?_
  show own_Goes p e below (s₁.setTop (mkF m 27 #[.val (.ref a1), .val (.double s0), .second, .val (.ref a1), .val (.int (2 : Int32)), .val (.int (1 : Int32)), .val (.double x1), .second] [(.double x1), (.double s0)])) _
  refine own_st (fun _ k => XT.dload X0.here hx rfl (hb hby d12_27) rfl k) ?_
  show own_Goes p e below (s₁.setTop (mkF m 29 #[.val (.ref a1), .val (.double s0), .second, .val (.ref a1), .val (.int (2 : Int32)), .val (.int (1 : Int32)), .val (.double x1), .second] [(.double x1), (.double x1), (.double s0)])) _
  have Dm1 := own_di_mul D1 D1 (by have q := own_sq B1; generalize i1 * i1 = t at *; omega)
  refine own_st (fun _ k => own_dmul X0.here hx rfl (hb hby d12_29) rfl (own_di_no Dm1) k) ?_
  show own_Goes p e below (s₁.setTop (mkF m 30 #[.val (.ref a1), .val (.double s0), .second, .val (.ref a1), .val (.int (2 : Int32)), .val (.int (1 : Int32)), .val (.double x1), .second] [(.double (FP.dmul x1 x1)), (.double s0)])) _
  obtain ⟨m1, hm1⟩ : ∃ z, FP.dmul x1 x1 = z := ⟨_, rfl⟩
  rw [hm1] at Dm1 ⊢
  show own_Goes p e below (s₁.setTop (mkF m 30 #[.val (.ref a1), .val (.double s0), .second, .val (.ref a1), .val (.int (2 : Int32)), .val (.int (1 : Int32)), .val (.double x1), .second] [(.double m1), (.double s0)])) _
  have Da1 := own_di_add Da0 Dm1 (by have q0 := own_sq B0; generalize i0 * i0 = t0 at *; have q1 := own_sq B1; generalize i1 * i1 = t1 at *; omega)
  refine own_st (fun _ k => own_dadd X0.here hx rfl (hb hby d12_30) rfl (own_di_no Da1) k) ?_
  show own_Goes p e below (s₁.setTop (mkF m 31 #[.val (.ref a1), .val (.double s0), .second, .val (.ref a1), .val (.int (2 : Int32)), .val (.int (1 : Int32)), .val (.double x1), .second] [(.double (FP.dadd s0 m1))])) _
  obtain ⟨s1, hs1⟩ : ∃ z, FP.dadd s0 m1 = z := ⟨_, rfl⟩
  rw [hs1] at Da1 ⊢
  show own_Goes p e below (s₁.setTop (mkF m 31 #[.val (.ref a1), .val (.double s0), .second, .val (.ref a1), .val (.int (2 : Int32)), .val (.int (1 : Int32)), .val (.double x1), .second] [(.double s1)])) _
  refine own_st (fun _ k => own_dstoreN X0.here hx rfl (hb hby d12_31) rfl (l' := #[.val (.ref a1), .val (.double s1), .second, .val (.ref a1), .val (.int (2 : Int32)), .val (.int (1 : Int32)), .val (.double x1), .second]) rfl k) ?_
  show own_Goes p e below (s₁.setTop (mkF m 32 #[.val (.ref a1), .val (.double s1), .second, .val (.ref a1), .val (.int (2 : Int32)), .val (.int (1 : Int32)), .val (.double x1), .second] [])) _
  refine own_st (fun _ k => XS.iinc X0.here hx rfl (hb hby d12_32) rfl (l' := #[.val (.ref a1), .val (.double s1), .second, .val (.ref a1), .val (.int (2 : Int32)), .val (.int ((1 : Int32) + (1 : Int32))), .val (.double x1), .second]) rfl k) ?_
  show own_Goes p e below (s₁.setTop (mkF m 35 #[.val (.ref a1), .val (.double s1), .second, .val (.ref a1), .val (.int (2 : Int32)), .val (.int ((1 : Int32) + (1 : Int32))), .val (.double x1), .second] [])) _
  rw [show (1 : Int32) + (1 : Int32) = (2 : Int32) from by decide]
  show own_Goes p e below (s₁.setTop (mkF m 35 #[.val (.ref a1), .val (.double s1), .second, .val (.ref a1), .val (.int (2 : Int32)), .val (.int (2 : Int32)), .val (.double x1), .second] [])) _
  refine own_st (fun _ k => XS.goto X0.here hx rfl (pc0 := 35) (pc' := 11) rfl (hb hby d12_35) (by decide) (by decide) k) ?_
  show own_Goes p e below (s₁.setTop (mkF m 11 #[.val (.ref a1), .val (.double s1), .second, .val (.ref a1), .val (.int (2 : Int32)), .val (.int (2 : Int32)), .val (.double x1), .second] [])) _
  refine own_st (fun _ k => XS.iload X0.here hx rfl (hb hby d12_11) rfl k) ?_
  show own_Goes p e below (s₁.setTop (mkF m 13 #[.val (.ref a1), .val (.double s1), .second, .val (.ref a1), .val (.int (2 : Int32)), .val (.int (2 : Int32)), .val (.double x1), .second] [(.int (2 : Int32))])) _
  refine own_st (fun _ k => XS.iload X0.here hx rfl (hb hby d12_13) rfl k) ?_
  show own_Goes p e below (s₁.setTop (mkF m 15 #[.val (.ref a1), .val (.double s1), .second, .val (.ref a1), .val (.int (2 : Int32)), .val (.int (2 : Int32)), .val (.double x1), .second] [(.int (2 : Int32)), (.int (2 : Int32))])) _
  refine own_st (fun _ k => XS.icmpYes X0.here hx rfl (pc0 := 15) (pc' := 38) rfl (hb hby d12_15) rfl (flt (by decide : ¬ ((2 : Int32) < (2 : Int32)))).2.1 (by decide) (by decide) k) ?_
  show own_Goes p e below (s₁.setTop (mkF m 38 #[.val (.ref a1), .val (.double s1), .second, .val (.ref a1), .val (.int (2 : Int32)), .val (.int (2 : Int32)), .val (.double x1), .second] [])) _
  refine own_st (fun _ k => XT.dloadN X0.here hx rfl (hb hby d12_38) rfl k) ?_
  show own_Goes p e below (s₁.setTop (mkF m 39 #[.val (.ref a1), .val (.double s1), .second, .val (.ref a1), .val (.int (2 : Int32)), .val (.int (2 : Int32)), .val (.double x1), .second] [(.double s1)])) _
  exact own_retD X0 hx hlk hret (hb hby d12_39) (by decide) (by decide) e0 ⟨_, rfl, Da1, rfl, rfl⟩
theorem d13_0 : decode prog_72_method_3_code 0 = .ok (.dconst 0, 1) := by decide +kernel
theorem d13_1 : decode prog_72_method_3_code 1 = .ok (.dstore_n 1, 1) := by decide +kernel
theorem d13_2 : decode prog_72_method_3_code 2 = .ok (.aload_n 0, 1) := by decide +kernel
theorem d13_3 : decode prog_72_method_3_code 3 = .ok (.astore_n 3, 1) := by decide +kernel
theorem d13_4 : decode prog_72_method_3_code 4 = .ok (.aload_n 3, 1) := by decide +kernel
theorem d13_5 : decode prog_72_method_3_code 5 = .ok (.arraylength, 1) := by decide +kernel
theorem d13_6 : decode prog_72_method_3_code 6 = .ok (.istore 4, 2) := by decide +kernel
theorem d13_8 : decode prog_72_method_3_code 8 = .ok (.iconst 0, 1) := by decide +kernel
theorem d13_9 : decode prog_72_method_3_code 9 = .ok (.istore 5, 2) := by decide +kernel
theorem d13_11 : decode prog_72_method_3_code 11 = .ok (.iload 5, 2) := by decide +kernel
theorem d13_13 : decode prog_72_method_3_code 13 = .ok (.iload 4, 2) := by decide +kernel
theorem d13_15 : decode prog_72_method_3_code 15 = .ok (.if_icmp .ge 23, 3) := by decide +kernel
theorem d13_18 : decode prog_72_method_3_code 18 = .ok (.aload_n 3, 1) := by decide +kernel
theorem d13_19 : decode prog_72_method_3_code 19 = .ok (.iload 5, 2) := by decide +kernel
theorem d13_21 : decode prog_72_method_3_code 21 = .ok (.daload, 1) := by decide +kernel
theorem d13_22 : decode prog_72_method_3_code 22 = .ok (.dstore 6, 2) := by decide +kernel
theorem d13_24 : decode prog_72_method_3_code 24 = .ok (.dload_n 1, 1) := by decide +kernel
theorem d13_25 : decode prog_72_method_3_code 25 = .ok (.dload 6, 2) := by decide +kernel
theorem d13_27 : decode prog_72_method_3_code 27 = .ok (.dload 6, 2) := by decide +kernel
theorem d13_29 : decode prog_72_method_3_code 29 = .ok (.dmul, 1) := by decide +kernel
theorem d13_30 : decode prog_72_method_3_code 30 = .ok (.dadd, 1) := by decide +kernel
theorem d13_31 : decode prog_72_method_3_code 31 = .ok (.dstore_n 1, 1) := by decide +kernel
theorem d13_32 : decode prog_72_method_3_code 32 = .ok (.iinc 5 1, 3) := by decide +kernel
theorem d13_35 : decode prog_72_method_3_code 35 = .ok (.goto (-24), 3) := by decide +kernel
theorem d13_38 : decode prog_72_method_3_code 38 = .ok (.dload_n 1, 1) := by decide +kernel
theorem d13_39 : decode prog_72_method_3_code 39 = .ok (.dreturn, 1) := by decide +kernel
theorem ef_13 (m : MethodId) (a1 : Addr) : entryFrame m #[(.ref a1)] 8 = mkF m 0 #[.val (.ref a1), .unset, .unset, .unset, .unset, .unset, .unset, .unset] [] := by first | (simp [entryFrame, mkF, argsToLocals, Value.category]; done) | rfl
set_option maxRecDepth 65536 in
set_option maxHeartbeats 40000000 in
theorem rm13 (l : Launch) (Z : State) (a0 : Array Value) (hw : ∀ d ∈ tables_1, d.before a0 Z = true) (ws : List Jvm.Cond) (a1 : Addr) (k1 : ClassId) (x0 x1 x2 : UInt64) (i0 i1 i2 : Int) (h0 : Heap) (n0 : Nat) (Z0 : n0 ≤ h0.size) (V1 : Arv Z h0 a1 k1 .double (3 : Int32) [(.double x0), (.double x1), (.double x2)] (.double 0)) (D0 : own_DI i0 x0) (B0 : own_B i0) (D1 : own_DI i1 x1) (B1 : own_B i1) (D2 : own_DI i2 x2) (B2 : own_B i2) :
    own_Ct l Z (⟨"com/example/forseti/forseti/core/QuantizedVectors", "squaredLength", "([D)D"⟩ : MethodName) prog_72_method_3_code 8 (some .double) ws ({ frames := 0, cells := 0, slots := 0, locals := 0 } : Room) #[(.ref a1)] h0 (fun v h L => ∃ r : UInt64, v = some (.double r) ∧ own_DI (0 + i0 * i0 + i1 * i1 + i2 * i2) r ∧ L = [] ∧ h = h0) ({ frames := 0, cells := 0, slots := 0, locals := 0 } : Room).cells ({ frames := 0, cells := 0, slots := 0, locals := 0 } : Room).slots := by
  refine own_met (plainFor_of_name pn_com_example_forseti_forseti_core_QuantizedVectors) (fun p e s m below meth c s₁ X0 hx hby hml hret hlk hnm hown hZ e0 => ?_)
  have hml : c.maxLocals = 8 := hml
  have N0 := Fr.nil n0
  refine own_st (fun _ k => castTop (ef_13 m a1) k) ?_
  show own_Goes p e below (s₁.setTop (mkF m 0 #[.val (.ref a1), .unset, .unset, .unset, .unset, .unset, .unset, .unset] [])) _
  refine own_st (fun _ k => own_dconst0 X0.here hx rfl (hb hby d13_0) k) ?_
  show own_Goes p e below (s₁.setTop (mkF m 1 #[.val (.ref a1), .unset, .unset, .unset, .unset, .unset, .unset, .unset] [(.double FP.dconst0)])) _
  refine own_st (fun _ k => own_dstoreN X0.here hx rfl (hb hby d13_1) rfl (l' := #[.val (.ref a1), .val (.double FP.dconst0), .second, .unset, .unset, .unset, .unset, .unset]) rfl k) ?_
  show own_Goes p e below (s₁.setTop (mkF m 2 #[.val (.ref a1), .val (.double FP.dconst0), .second, .unset, .unset, .unset, .unset, .unset] [])) _
  refine own_st (fun _ k => XS.aloadN X0.here hx rfl (hb hby d13_2) rfl rfl k) ?_
  show own_Goes p e below (s₁.setTop (mkF m 3 #[.val (.ref a1), .val (.double FP.dconst0), .second, .unset, .unset, .unset, .unset, .unset] [(.ref a1)])) _
  refine own_st (fun _ k => XS.astoreN X0.here hx rfl (hb hby d13_3) rfl rfl (l' := #[.val (.ref a1), .val (.double FP.dconst0), .second, .val (.ref a1), .unset, .unset, .unset, .unset]) rfl k) ?_
  show own_Goes p e below (s₁.setTop (mkF m 4 #[.val (.ref a1), .val (.double FP.dconst0), .second, .val (.ref a1), .unset, .unset, .unset, .unset] [])) _
  refine own_st (fun _ k => XS.aloadN X0.here hx rfl (hb hby d13_4) rfl rfl k) ?_
  show own_Goes p e below (s₁.setTop (mkF m 5 #[.val (.ref a1), .val (.double FP.dconst0), .second, .val (.ref a1), .unset, .unset, .unset, .unset] [(.ref a1)])) _
  refine own_st (own_len (pc := 5) (Ls := #[.val (.ref a1), .val (.double FP.dconst0), .second, .val (.ref a1), .unset, .unset, .unset, .unset]) (rest := []) X0 hx hZ e0 V1 (hb hby d13_5)) ?_
  show own_Goes p e below (s₁.setTop (mkF m 6 #[.val (.ref a1), .val (.double FP.dconst0), .second, .val (.ref a1), .unset, .unset, .unset, .unset] [(.int (3 : Int32))])) _
  refine own_st (fun _ k => XS.istore X0.here hx rfl (hb hby d13_6) rfl (l' := #[.val (.ref a1), .val (.double FP.dconst0), .second, .val (.ref a1), .val (.int (3 : Int32)), .unset, .unset, .unset]) rfl k) ?_
  show own_Goes p e below (s₁.setTop (mkF m 8 #[.val (.ref a1), .val (.double FP.dconst0), .second, .val (.ref a1), .val (.int (3 : Int32)), .unset, .unset, .unset] [])) _
  refine own_st (fun _ k => XS.iconst X0.here hx rfl (hb hby d13_8) k) ?_
  show own_Goes p e below (s₁.setTop (mkF m 9 #[.val (.ref a1), .val (.double FP.dconst0), .second, .val (.ref a1), .val (.int (3 : Int32)), .unset, .unset, .unset] [(.int (0 : Int32))])) _
  refine own_st (fun _ k => XS.istore X0.here hx rfl (hb hby d13_9) rfl (l' := #[.val (.ref a1), .val (.double FP.dconst0), .second, .val (.ref a1), .val (.int (3 : Int32)), .val (.int (0 : Int32)), .unset, .unset]) rfl k) ?_
  show own_Goes p e below (s₁.setTop (mkF m 11 #[.val (.ref a1), .val (.double FP.dconst0), .second, .val (.ref a1), .val (.int (3 : Int32)), .val (.int (0 : Int32)), .unset, .unset] [])) _
  refine own_st (fun _ k => XS.iload X0.here hx rfl (hb hby d13_11) rfl k) ?_
  show own_Goes p e below (s₁.setTop (mkF m 13 #[.val (.ref a1), .val (.double FP.dconst0), .second, .val (.ref a1), .val (.int (3 : Int32)), .val (.int (0 : Int32)), .unset, .unset] [(.int (0 : Int32))])) _
  refine own_st (fun _ k => XS.iload X0.here hx rfl (hb hby d13_13) rfl k) ?_
  show own_Goes p e below (s₁.setTop (mkF m 15 #[.val (.ref a1), .val (.double FP.dconst0), .second, .val (.ref a1), .val (.int (3 : Int32)), .val (.int (0 : Int32)), .unset, .unset] [(.int (3 : Int32)), (.int (0 : Int32))])) _
  refine own_st (fun _ k => XS.icmpNo X0.here hx rfl (hb hby d13_15) rfl (tlt (by decide : (0 : Int32) < (3 : Int32))).2.1 k) ?_
  show own_Goes p e below (s₁.setTop (mkF m 18 #[.val (.ref a1), .val (.double FP.dconst0), .second, .val (.ref a1), .val (.int (3 : Int32)), .val (.int (0 : Int32)), .unset, .unset] [])) _
  refine own_st (fun _ k => XS.aloadN X0.here hx rfl (hb hby d13_18) rfl rfl k) ?_
  show own_Goes p e below (s₁.setTop (mkF m 19 #[.val (.ref a1), .val (.double FP.dconst0), .second, .val (.ref a1), .val (.int (3 : Int32)), .val (.int (0 : Int32)), .unset, .unset] [(.ref a1)])) _
  refine own_st (fun _ k => XS.iload X0.here hx rfl (hb hby d13_19) rfl k) ?_
  show own_Goes p e below (s₁.setTop (mkF m 21 #[.val (.ref a1), .val (.double FP.dconst0), .second, .val (.ref a1), .val (.int (3 : Int32)), .val (.int (0 : Int32)), .unset, .unset] [(.int (0 : Int32)), (.ref a1)])) _
  refine own_st (own_ldD (v := (.double x0)) (pc := 21) (Ls := #[.val (.ref a1), .val (.double FP.dconst0), .second, .val (.ref a1), .val (.int (3 : Int32)), .val (.int (0 : Int32)), .unset, .unset]) (rest := []) (j := (0 : Int32)) X0 hx hZ e0 V1 (by decide) rfl (hb hby d13_21)) ?_
  show own_Goes p e below (s₁.setTop (mkF m 22 #[.val (.ref a1), .val (.double FP.dconst0), .second, .val (.ref a1), .val (.int (3 : Int32)), .val (.int (0 : Int32)), .unset, .unset] [(.double x0)])) _
  refine own_st (fun _ k => own_dstore X0.here hx rfl (hb hby d13_22) rfl (l' := #[.val (.ref a1), .val (.double FP.dconst0), .second, .val (.ref a1), .val (.int (3 : Int32)), .val (.int (0 : Int32)), .val (.double x0), .second]) rfl k) ?_
  show own_Goes p e below (s₁.setTop (mkF m 24 #[.val (.ref a1), .val (.double FP.dconst0), .second, .val (.ref a1), .val (.int (3 : Int32)), .val (.int (0 : Int32)), .val (.double x0), .second] [])) _
  refine own_st (fun _ k => XT.dloadN X0.here hx rfl (hb hby d13_24) rfl k) ?_
  show own_Goes p e below (s₁.setTop (mkF m 25 #[.val (.ref a1), .val (.double FP.dconst0), .second, .val (.ref a1), .val (.int (3 : Int32)), .val (.int (0 : Int32)), .val (.double x0), .second] [(.double FP.dconst0)])) _
  refine own_st (fun _ k => XT.dload X0.here hx rfl (hb hby d13_25) rfl k) ?_
  show own_Goes p e below (s₁.setTop (mkF m 27 #[.val (.ref a1), .val (.double FP.dconst0), .second, .val (.ref a1), .val (.int (3 : Int32)), .val (.int (0 : Int32)), .val (.double x0), .second] [(.double x0), (.double FP.dconst0)])) _
  refine own_st (fun _ k => XT.dload X0.here hx rfl (hb hby d13_27) rfl k) ?_
  show own_Goes p e below (s₁.setTop (mkF m 29 #[.val (.ref a1), .val (.double FP.dconst0), .second, .val (.ref a1), .val (.int (3 : Int32)), .val (.int (0 : Int32)), .val (.double x0), .second] [(.double x0), (.double x0), (.double FP.dconst0)])) _
  have Dm0 := own_di_mul D0 D0 (by have q := own_sq B0; generalize i0 * i0 = t at *; omega)
  refine own_st (fun _ k => own_dmul X0.here hx rfl (hb hby d13_29) rfl (own_di_no Dm0) k) ?_
  show own_Goes p e below (s₁.setTop (mkF m 30 #[.val (.ref a1), .val (.double FP.dconst0), .second, .val (.ref a1), .val (.int (3 : Int32)), .val (.int (0 : Int32)), .val (.double x0), .second] [(.double (FP.dmul x0 x0)), (.double FP.dconst0)])) _
  obtain ⟨m0, hm0⟩ : ∃ z, FP.dmul x0 x0 = z := ⟨_, rfl⟩
  rw [hm0] at Dm0 ⊢
  show own_Goes p e below (s₁.setTop (mkF m 30 #[.val (.ref a1), .val (.double FP.dconst0), .second, .val (.ref a1), .val (.int (3 : Int32)), .val (.int (0 : Int32)), .val (.double x0), .second] [(.double m0), (.double FP.dconst0)])) _
  have Da0 := own_di_add own_di_0 Dm0 (by have q0 := own_sq B0; generalize i0 * i0 = t0 at *; omega)
  refine own_st (fun _ k => own_dadd X0.here hx rfl (hb hby d13_30) rfl (own_di_no Da0) k) ?_
  show own_Goes p e below (s₁.setTop (mkF m 31 #[.val (.ref a1), .val (.double FP.dconst0), .second, .val (.ref a1), .val (.int (3 : Int32)), .val (.int (0 : Int32)), .val (.double x0), .second] [(.double (FP.dadd FP.dconst0 m0))])) _
  obtain ⟨s0, hs0⟩ : ∃ z, FP.dadd FP.dconst0 m0 = z := ⟨_, rfl⟩
  rw [hs0] at Da0 ⊢
  show own_Goes p e below (s₁.setTop (mkF m 31 #[.val (.ref a1), .val (.double FP.dconst0), .second, .val (.ref a1), .val (.int (3 : Int32)), .val (.int (0 : Int32)), .val (.double x0), .second] [(.double s0)])) _
  refine own_st (fun _ k => own_dstoreN X0.here hx rfl (hb hby d13_31) rfl (l' := #[.val (.ref a1), .val (.double s0), .second, .val (.ref a1), .val (.int (3 : Int32)), .val (.int (0 : Int32)), .val (.double x0), .second]) rfl k) ?_
  show own_Goes p e below (s₁.setTop (mkF m 32 #[.val (.ref a1), .val (.double s0), .second, .val (.ref a1), .val (.int (3 : Int32)), .val (.int (0 : Int32)), .val (.double x0), .second] [])) _
  refine own_st (fun _ k => XS.iinc X0.here hx rfl (hb hby d13_32) rfl (l' := #[.val (.ref a1), .val (.double s0), .second, .val (.ref a1), .val (.int (3 : Int32)), .val (.int ((0 : Int32) + (1 : Int32))), .val (.double x0), .second]) rfl k) ?_
  show own_Goes p e below (s₁.setTop (mkF m 35 #[.val (.ref a1), .val (.double s0), .second, .val (.ref a1), .val (.int (3 : Int32)), .val (.int ((0 : Int32) + (1 : Int32))), .val (.double x0), .second] [])) _
  rw [show (0 : Int32) + (1 : Int32) = (1 : Int32) from by decide]
  show own_Goes p e below (s₁.setTop (mkF m 35 #[.val (.ref a1), .val (.double s0), .second, .val (.ref a1), .val (.int (3 : Int32)), .val (.int (1 : Int32)), .val (.double x0), .second] [])) _
  refine own_st (fun _ k => XS.goto X0.here hx rfl (pc0 := 35) (pc' := 11) rfl (hb hby d13_35) (by decide) (by decide) k) ?_
  show own_Goes p e below (s₁.setTop (mkF m 11 #[.val (.ref a1), .val (.double s0), .second, .val (.ref a1), .val (.int (3 : Int32)), .val (.int (1 : Int32)), .val (.double x0), .second] [])) _
  refine own_st (fun _ k => XS.iload X0.here hx rfl (hb hby d13_11) rfl k) ?_
  show own_Goes p e below (s₁.setTop (mkF m 13 #[.val (.ref a1), .val (.double s0), .second, .val (.ref a1), .val (.int (3 : Int32)), .val (.int (1 : Int32)), .val (.double x0), .second] [(.int (1 : Int32))])) _
  refine own_st (fun _ k => XS.iload X0.here hx rfl (hb hby d13_13) rfl k) ?_
  show own_Goes p e below (s₁.setTop (mkF m 15 #[.val (.ref a1), .val (.double s0), .second, .val (.ref a1), .val (.int (3 : Int32)), .val (.int (1 : Int32)), .val (.double x0), .second] [(.int (3 : Int32)), (.int (1 : Int32))])) _
  refine own_st (fun _ k => XS.icmpNo X0.here hx rfl (hb hby d13_15) rfl (tlt (by decide : (1 : Int32) < (3 : Int32))).2.1 k) ?_
  show own_Goes p e below (s₁.setTop (mkF m 18 #[.val (.ref a1), .val (.double s0), .second, .val (.ref a1), .val (.int (3 : Int32)), .val (.int (1 : Int32)), .val (.double x0), .second] [])) _
  refine own_st (fun _ k => XS.aloadN X0.here hx rfl (hb hby d13_18) rfl rfl k) ?_
  show own_Goes p e below (s₁.setTop (mkF m 19 #[.val (.ref a1), .val (.double s0), .second, .val (.ref a1), .val (.int (3 : Int32)), .val (.int (1 : Int32)), .val (.double x0), .second] [(.ref a1)])) _
  refine own_st (fun _ k => XS.iload X0.here hx rfl (hb hby d13_19) rfl k) ?_
  show own_Goes p e below (s₁.setTop (mkF m 21 #[.val (.ref a1), .val (.double s0), .second, .val (.ref a1), .val (.int (3 : Int32)), .val (.int (1 : Int32)), .val (.double x0), .second] [(.int (1 : Int32)), (.ref a1)])) _
  refine own_st (own_ldD (v := (.double x1)) (pc := 21) (Ls := #[.val (.ref a1), .val (.double s0), .second, .val (.ref a1), .val (.int (3 : Int32)), .val (.int (1 : Int32)), .val (.double x0), .second]) (rest := []) (j := (1 : Int32)) X0 hx hZ e0 V1 (by decide) rfl (hb hby d13_21)) ?_
  show own_Goes p e below (s₁.setTop (mkF m 22 #[.val (.ref a1), .val (.double s0), .second, .val (.ref a1), .val (.int (3 : Int32)), .val (.int (1 : Int32)), .val (.double x0), .second] [(.double x1)])) _
  refine own_st (fun _ k => own_dstore X0.here hx rfl (hb hby d13_22) rfl (l' := #[.val (.ref a1), .val (.double s0), .second, .val (.ref a1), .val (.int (3 : Int32)), .val (.int (1 : Int32)), .val (.double x1), .second]) rfl k) ?_
  show own_Goes p e below (s₁.setTop (mkF m 24 #[.val (.ref a1), .val (.double s0), .second, .val (.ref a1), .val (.int (3 : Int32)), .val (.int (1 : Int32)), .val (.double x1), .second] [])) _
  refine own_st (fun _ k => XT.dloadN X0.here hx rfl (hb hby d13_24) rfl k) ?_
  show own_Goes p e below (s₁.setTop (mkF m 25 #[.val (.ref a1), .val (.double s0), .second, .val (.ref a1), .val (.int (3 : Int32)), .val (.int (1 : Int32)), .val (.double x1), .second] [(.double s0)])) _
  refine own_st (fun _ k => XT.dload X0.here hx rfl (hb hby d13_25) rfl k) ?_
  show own_Goes p e below (s₁.setTop (mkF m 27 #[.val (.ref a1), .val (.double s0), .second, .val (.ref a1), .val (.int (3 : Int32)), .val (.int (1 : Int32)), .val (.double x1), .second] [(.double x1), (.double s0)])) _
  refine own_st (fun _ k => XT.dload X0.here hx rfl (hb hby d13_27) rfl k) ?_
  show own_Goes p e below (s₁.setTop (mkF m 29 #[.val (.ref a1), .val (.double s0), .second, .val (.ref a1), .val (.int (3 : Int32)), .val (.int (1 : Int32)), .val (.double x1), .second] [(.double x1), (.double x1), (.double s0)])) _
  have Dm1 := own_di_mul D1 D1 (by have q := own_sq B1; generalize i1 * i1 = t at *; omega)
  refine own_st (fun _ k => own_dmul X0.here hx rfl (hb hby d13_29) rfl (own_di_no Dm1) k) ?_
  show own_Goes p e below (s₁.setTop (mkF m 30 #[.val (.ref a1), .val (.double s0), .second, .val (.ref a1), .val (.int (3 : Int32)), .val (.int (1 : Int32)), .val (.double x1), .second] [(.double (FP.dmul x1 x1)), (.double s0)])) _
  obtain ⟨m1, hm1⟩ : ∃ z, FP.dmul x1 x1 = z := ⟨_, rfl⟩
  rw [hm1] at Dm1 ⊢
  show own_Goes p e below (s₁.setTop (mkF m 30 #[.val (.ref a1), .val (.double s0), .second, .val (.ref a1), .val (.int (3 : Int32)), .val (.int (1 : Int32)), .val (.double x1), .second] [(.double m1), (.double s0)])) _
  have Da1 := own_di_add Da0 Dm1 (by have q0 := own_sq B0; generalize i0 * i0 = t0 at *; have q1 := own_sq B1; generalize i1 * i1 = t1 at *; omega)
  refine own_st (fun _ k => own_dadd X0.here hx rfl (hb hby d13_30) rfl (own_di_no Da1) k) ?_
  show own_Goes p e below (s₁.setTop (mkF m 31 #[.val (.ref a1), .val (.double s0), .second, .val (.ref a1), .val (.int (3 : Int32)), .val (.int (1 : Int32)), .val (.double x1), .second] [(.double (FP.dadd s0 m1))])) _
  obtain ⟨s1, hs1⟩ : ∃ z, FP.dadd s0 m1 = z := ⟨_, rfl⟩
  rw [hs1] at Da1 ⊢
  show own_Goes p e below (s₁.setTop (mkF m 31 #[.val (.ref a1), .val (.double s0), .second, .val (.ref a1), .val (.int (3 : Int32)), .val (.int (1 : Int32)), .val (.double x1), .second] [(.double s1)])) _
  refine own_st (fun _ k => own_dstoreN X0.here hx rfl (hb hby d13_31) rfl (l' := #[.val (.ref a1), .val (.double s1), .second, .val (.ref a1), .val (.int (3 : Int32)), .val (.int (1 : Int32)), .val (.double x1), .second]) rfl k) ?_
  show own_Goes p e below (s₁.setTop (mkF m 32 #[.val (.ref a1), .val (.double s1), .second, .val (.ref a1), .val (.int (3 : Int32)), .val (.int (1 : Int32)), .val (.double x1), .second] [])) _
  refine own_st (fun _ k => XS.iinc X0.here hx rfl (hb hby d13_32) rfl (l' := #[.val (.ref a1), .val (.double s1), .second, .val (.ref a1), .val (.int (3 : Int32)), .val (.int ((1 : Int32) + (1 : Int32))), .val (.double x1), .second]) rfl k) ?_
  show own_Goes p e below (s₁.setTop (mkF m 35 #[.val (.ref a1), .val (.double s1), .second, .val (.ref a1), .val (.int (3 : Int32)), .val (.int ((1 : Int32) + (1 : Int32))), .val (.double x1), .second] [])) _
  rw [show (1 : Int32) + (1 : Int32) = (2 : Int32) from by decide]
  show own_Goes p e below (s₁.setTop (mkF m 35 #[.val (.ref a1), .val (.double s1), .second, .val (.ref a1), .val (.int (3 : Int32)), .val (.int (2 : Int32)), .val (.double x1), .second] [])) _
  refine own_st (fun _ k => XS.goto X0.here hx rfl (pc0 := 35) (pc' := 11) rfl (hb hby d13_35) (by decide) (by decide) k) ?_
  show own_Goes p e below (s₁.setTop (mkF m 11 #[.val (.ref a1), .val (.double s1), .second, .val (.ref a1), .val (.int (3 : Int32)), .val (.int (2 : Int32)), .val (.double x1), .second] [])) _
  refine own_st (fun _ k => XS.iload X0.here hx rfl (hb hby d13_11) rfl k) ?_
  show own_Goes p e below (s₁.setTop (mkF m 13 #[.val (.ref a1), .val (.double s1), .second, .val (.ref a1), .val (.int (3 : Int32)), .val (.int (2 : Int32)), .val (.double x1), .second] [(.int (2 : Int32))])) _
  refine own_st (fun _ k => XS.iload X0.here hx rfl (hb hby d13_13) rfl k) ?_
  show own_Goes p e below (s₁.setTop (mkF m 15 #[.val (.ref a1), .val (.double s1), .second, .val (.ref a1), .val (.int (3 : Int32)), .val (.int (2 : Int32)), .val (.double x1), .second] [(.int (3 : Int32)), (.int (2 : Int32))])) _
  refine own_st (fun _ k => XS.icmpNo X0.here hx rfl (hb hby d13_15) rfl (tlt (by decide : (2 : Int32) < (3 : Int32))).2.1 k) ?_
  show own_Goes p e below (s₁.setTop (mkF m 18 #[.val (.ref a1), .val (.double s1), .second, .val (.ref a1), .val (.int (3 : Int32)), .val (.int (2 : Int32)), .val (.double x1), .second] [])) _
  refine own_st (fun _ k => XS.aloadN X0.here hx rfl (hb hby d13_18) rfl rfl k) ?_
  show own_Goes p e below (s₁.setTop (mkF m 19 #[.val (.ref a1), .val (.double s1), .second, .val (.ref a1), .val (.int (3 : Int32)), .val (.int (2 : Int32)), .val (.double x1), .second] [(.ref a1)])) _
  refine own_st (fun _ k => XS.iload X0.here hx rfl (hb hby d13_19) rfl k) ?_
  show own_Goes p e below (s₁.setTop (mkF m 21 #[.val (.ref a1), .val (.double s1), .second, .val (.ref a1), .val (.int (3 : Int32)), .val (.int (2 : Int32)), .val (.double x1), .second] [(.int (2 : Int32)), (.ref a1)])) _
  refine own_st (own_ldD (v := (.double x2)) (pc := 21) (Ls := #[.val (.ref a1), .val (.double s1), .second, .val (.ref a1), .val (.int (3 : Int32)), .val (.int (2 : Int32)), .val (.double x1), .second]) (rest := []) (j := (2 : Int32)) X0 hx hZ e0 V1 (by decide) rfl (hb hby d13_21)) ?_
  show own_Goes p e below (s₁.setTop (mkF m 22 #[.val (.ref a1), .val (.double s1), .second, .val (.ref a1), .val (.int (3 : Int32)), .val (.int (2 : Int32)), .val (.double x1), .second] [(.double x2)])) _
  refine own_st (fun _ k => own_dstore X0.here hx rfl (hb hby d13_22) rfl (l' := #[.val (.ref a1), .val (.double s1), .second, .val (.ref a1), .val (.int (3 : Int32)), .val (.int (2 : Int32)), .val (.double x2), .second]) rfl k) ?_
  show own_Goes p e below (s₁.setTop (mkF m 24 #[.val (.ref a1), .val (.double s1), .second, .val (.ref a1), .val (.int (3 : Int32)), .val (.int (2 : Int32)), .val (.double x2), .second] [])) _
  refine own_st (fun _ k => XT.dloadN X0.here hx rfl (hb hby d13_24) rfl k) ?_
  show own_Goes p e below (s₁.setTop (mkF m 25 #[.val (.ref a1), .val (.double s1), .second, .val (.ref a1), .val (.int (3 : Int32)), .val (.int (2 : Int32)), .val (.double x2), .second] [(.double s1)])) _
  refine own_st (fun _ k => XT.dload X0.here hx rfl (hb hby d13_25) rfl k) ?_
  show own_Goes p e below (s₁.setTop (mkF m 27 #[.val (.ref a1), .val (.double s1), .second, .val (.ref a1), .val (.int (3 : Int32)), .val (.int (2 : Int32)), .val (.double x2), .second] [(.double x2), (.double s1)])) _
  refine own_st (fun _ k => XT.dload X0.here hx rfl (hb hby d13_27) rfl k) ?_
  show own_Goes p e below (s₁.setTop (mkF m 29 #[.val (.ref a1), .val (.double s1), .second, .val (.ref a1), .val (.int (3 : Int32)), .val (.int (2 : Int32)), .val (.double x2), .second] [(.double x2), (.double x2), (.double s1)])) _
  have Dm2 := own_di_mul D2 D2 (by have q := own_sq B2; generalize i2 * i2 = t at *; omega)
  refine own_st (fun _ k => own_dmul X0.here hx rfl (hb hby d13_29) rfl (own_di_no Dm2) k) ?_
  show own_Goes p e below (s₁.setTop (mkF m 30 #[.val (.ref a1), .val (.double s1), .second, .val (.ref a1), .val (.int (3 : Int32)), .val (.int (2 : Int32)), .val (.double x2), .second] [(.double (FP.dmul x2 x2)), (.double s1)])) _
  obtain ⟨m2, hm2⟩ : ∃ z, FP.dmul x2 x2 = z := ⟨_, rfl⟩
  rw [hm2] at Dm2 ⊢
  show own_Goes p e below (s₁.setTop (mkF m 30 #[.val (.ref a1), .val (.double s1), .second, .val (.ref a1), .val (.int (3 : Int32)), .val (.int (2 : Int32)), .val (.double x2), .second] [(.double m2), (.double s1)])) _
  have Da2 := own_di_add Da1 Dm2 (by have q0 := own_sq B0; generalize i0 * i0 = t0 at *; have q1 := own_sq B1; generalize i1 * i1 = t1 at *; have q2 := own_sq B2; generalize i2 * i2 = t2 at *; omega)
  refine own_st (fun _ k => own_dadd X0.here hx rfl (hb hby d13_30) rfl (own_di_no Da2) k) ?_
  show own_Goes p e below (s₁.setTop (mkF m 31 #[.val (.ref a1), .val (.double s1), .second, .val (.ref a1), .val (.int (3 : Int32)), .val (.int (2 : Int32)), .val (.double x2), .second] [(.double (FP.dadd s1 m2))])) _
  obtain ⟨s2, hs2⟩ : ∃ z, FP.dadd s1 m2 = z := ⟨_, rfl⟩
  rw [hs2] at Da2 ⊢
  show own_Goes p e below (s₁.setTop (mkF m 31 #[.val (.ref a1), .val (.double s1), .second, .val (.ref a1), .val (.int (3 : Int32)), .val (.int (2 : Int32)), .val (.double x2), .second] [(.double s2)])) _
  refine own_st (fun _ k => own_dstoreN X0.here hx rfl (hb hby d13_31) rfl (l' := #[.val (.ref a1), .val (.double s2), .second, .val (.ref a1), .val (.int (3 : Int32)), .val (.int (2 : Int32)), .val (.double x2), .second]) rfl k) ?_
  show own_Goes p e below (s₁.setTop (mkF m 32 #[.val (.ref a1), .val (.double s2), .second, .val (.ref a1), .val (.int (3 : Int32)), .val (.int (2 : Int32)), .val (.double x2), .second] [])) _
  refine own_st (fun _ k => XS.iinc X0.here hx rfl (hb hby d13_32) rfl (l' := #[.val (.ref a1), .val (.double s2), .second, .val (.ref a1), .val (.int (3 : Int32)), .val (.int ((2 : Int32) + (1 : Int32))), .val (.double x2), .second]) rfl k) ?_
  show own_Goes p e below (s₁.setTop (mkF m 35 #[.val (.ref a1), .val (.double s2), .second, .val (.ref a1), .val (.int (3 : Int32)), .val (.int ((2 : Int32) + (1 : Int32))), .val (.double x2), .second] [])) _
  rw [show (2 : Int32) + (1 : Int32) = (3 : Int32) from by decide]
  show own_Goes p e below (s₁.setTop (mkF m 35 #[.val (.ref a1), .val (.double s2), .second, .val (.ref a1), .val (.int (3 : Int32)), .val (.int (3 : Int32)), .val (.double x2), .second] [])) _
  refine own_st (fun _ k => XS.goto X0.here hx rfl (pc0 := 35) (pc' := 11) rfl (hb hby d13_35) (by decide) (by decide) k) ?_
  show own_Goes p e below (s₁.setTop (mkF m 11 #[.val (.ref a1), .val (.double s2), .second, .val (.ref a1), .val (.int (3 : Int32)), .val (.int (3 : Int32)), .val (.double x2), .second] [])) _
  refine own_st (fun _ k => XS.iload X0.here hx rfl (hb hby d13_11) rfl k) ?_
  show own_Goes p e below (s₁.setTop (mkF m 13 #[.val (.ref a1), .val (.double s2), .second, .val (.ref a1), .val (.int (3 : Int32)), .val (.int (3 : Int32)), .val (.double x2), .second] [(.int (3 : Int32))])) _
  refine own_st (fun _ k => XS.iload X0.here hx rfl (hb hby d13_13) rfl k) ?_
  show own_Goes p e below (s₁.setTop (mkF m 15 #[.val (.ref a1), .val (.double s2), .second, .val (.ref a1), .val (.int (3 : Int32)), .val (.int (3 : Int32)), .val (.double x2), .second] [(.int (3 : Int32)), (.int (3 : Int32))])) _
  refine own_st (fun _ k => XS.icmpYes X0.here hx rfl (pc0 := 15) (pc' := 38) rfl (hb hby d13_15) rfl (flt (by decide : ¬ ((3 : Int32) < (3 : Int32)))).2.1 (by decide) (by decide) k) ?_
  show own_Goes p e below (s₁.setTop (mkF m 38 #[.val (.ref a1), .val (.double s2), .second, .val (.ref a1), .val (.int (3 : Int32)), .val (.int (3 : Int32)), .val (.double x2), .second] [])) _
  refine own_st (fun _ k => XT.dloadN X0.here hx rfl (hb hby d13_38) rfl k) ?_
  show own_Goes p e below (s₁.setTop (mkF m 39 #[.val (.ref a1), .val (.double s2), .second, .val (.ref a1), .val (.int (3 : Int32)), .val (.int (3 : Int32)), .val (.double x2), .second] [(.double s2)])) _
  exact own_retD X0 hx hlk hret (hb hby d13_39) (by decide) (by decide) e0 ⟨_, rfl, Da2, rfl, rfl⟩
theorem d14_0 : decode prog_72_method_3_code 0 = .ok (.dconst 0, 1) := by decide +kernel
theorem d14_1 : decode prog_72_method_3_code 1 = .ok (.dstore_n 1, 1) := by decide +kernel
theorem d14_2 : decode prog_72_method_3_code 2 = .ok (.aload_n 0, 1) := by decide +kernel
theorem d14_3 : decode prog_72_method_3_code 3 = .ok (.astore_n 3, 1) := by decide +kernel
theorem d14_4 : decode prog_72_method_3_code 4 = .ok (.aload_n 3, 1) := by decide +kernel
theorem d14_5 : decode prog_72_method_3_code 5 = .ok (.arraylength, 1) := by decide +kernel
theorem d14_6 : decode prog_72_method_3_code 6 = .ok (.istore 4, 2) := by decide +kernel
theorem d14_8 : decode prog_72_method_3_code 8 = .ok (.iconst 0, 1) := by decide +kernel
theorem d14_9 : decode prog_72_method_3_code 9 = .ok (.istore 5, 2) := by decide +kernel
theorem d14_11 : decode prog_72_method_3_code 11 = .ok (.iload 5, 2) := by decide +kernel
theorem d14_13 : decode prog_72_method_3_code 13 = .ok (.iload 4, 2) := by decide +kernel
theorem d14_15 : decode prog_72_method_3_code 15 = .ok (.if_icmp .ge 23, 3) := by decide +kernel
theorem d14_18 : decode prog_72_method_3_code 18 = .ok (.aload_n 3, 1) := by decide +kernel
theorem d14_19 : decode prog_72_method_3_code 19 = .ok (.iload 5, 2) := by decide +kernel
theorem d14_21 : decode prog_72_method_3_code 21 = .ok (.daload, 1) := by decide +kernel
theorem d14_22 : decode prog_72_method_3_code 22 = .ok (.dstore 6, 2) := by decide +kernel
theorem d14_24 : decode prog_72_method_3_code 24 = .ok (.dload_n 1, 1) := by decide +kernel
theorem d14_25 : decode prog_72_method_3_code 25 = .ok (.dload 6, 2) := by decide +kernel
theorem d14_27 : decode prog_72_method_3_code 27 = .ok (.dload 6, 2) := by decide +kernel
theorem d14_29 : decode prog_72_method_3_code 29 = .ok (.dmul, 1) := by decide +kernel
theorem d14_30 : decode prog_72_method_3_code 30 = .ok (.dadd, 1) := by decide +kernel
theorem d14_31 : decode prog_72_method_3_code 31 = .ok (.dstore_n 1, 1) := by decide +kernel
theorem d14_32 : decode prog_72_method_3_code 32 = .ok (.iinc 5 1, 3) := by decide +kernel
theorem d14_35 : decode prog_72_method_3_code 35 = .ok (.goto (-24), 3) := by decide +kernel
theorem d14_38 : decode prog_72_method_3_code 38 = .ok (.dload_n 1, 1) := by decide +kernel
theorem d14_39 : decode prog_72_method_3_code 39 = .ok (.dreturn, 1) := by decide +kernel
theorem ef_14 (m : MethodId) (a1 : Addr) : entryFrame m #[(.ref a1)] 8 = mkF m 0 #[.val (.ref a1), .unset, .unset, .unset, .unset, .unset, .unset, .unset] [] := by first | (simp [entryFrame, mkF, argsToLocals, Value.category]; done) | rfl
set_option maxRecDepth 65536 in
set_option maxHeartbeats 40000000 in
theorem rm14 (l : Launch) (Z : State) (a0 : Array Value) (hw : ∀ d ∈ tables_1, d.before a0 Z = true) (ws : List Jvm.Cond) (a1 : Addr) (k1 : ClassId) (x0 x1 x2 x3 : UInt64) (i0 i1 i2 i3 : Int) (h0 : Heap) (n0 : Nat) (Z0 : n0 ≤ h0.size) (V1 : Arv Z h0 a1 k1 .double (4 : Int32) [(.double x0), (.double x1), (.double x2), (.double x3)] (.double 0)) (D0 : own_DI i0 x0) (B0 : own_B i0) (D1 : own_DI i1 x1) (B1 : own_B i1) (D2 : own_DI i2 x2) (B2 : own_B i2) (D3 : own_DI i3 x3) (B3 : own_B i3) :
    own_Ct l Z (⟨"com/example/forseti/forseti/core/QuantizedVectors", "squaredLength", "([D)D"⟩ : MethodName) prog_72_method_3_code 8 (some .double) ws ({ frames := 0, cells := 0, slots := 0, locals := 0 } : Room) #[(.ref a1)] h0 (fun v h L => ∃ r : UInt64, v = some (.double r) ∧ own_DI (0 + i0 * i0 + i1 * i1 + i2 * i2 + i3 * i3) r ∧ L = [] ∧ h = h0) ({ frames := 0, cells := 0, slots := 0, locals := 0 } : Room).cells ({ frames := 0, cells := 0, slots := 0, locals := 0 } : Room).slots := by
  refine own_met (plainFor_of_name pn_com_example_forseti_forseti_core_QuantizedVectors) (fun p e s m below meth c s₁ X0 hx hby hml hret hlk hnm hown hZ e0 => ?_)
  have hml : c.maxLocals = 8 := hml
  have N0 := Fr.nil n0
  refine own_st (fun _ k => castTop (ef_14 m a1) k) ?_
  show own_Goes p e below (s₁.setTop (mkF m 0 #[.val (.ref a1), .unset, .unset, .unset, .unset, .unset, .unset, .unset] [])) _
  refine own_st (fun _ k => own_dconst0 X0.here hx rfl (hb hby d14_0) k) ?_
  show own_Goes p e below (s₁.setTop (mkF m 1 #[.val (.ref a1), .unset, .unset, .unset, .unset, .unset, .unset, .unset] [(.double FP.dconst0)])) _
  refine own_st (fun _ k => own_dstoreN X0.here hx rfl (hb hby d14_1) rfl (l' := #[.val (.ref a1), .val (.double FP.dconst0), .second, .unset, .unset, .unset, .unset, .unset]) rfl k) ?_
  show own_Goes p e below (s₁.setTop (mkF m 2 #[.val (.ref a1), .val (.double FP.dconst0), .second, .unset, .unset, .unset, .unset, .unset] [])) _
  refine own_st (fun _ k => XS.aloadN X0.here hx rfl (hb hby d14_2) rfl rfl k) ?_
  show own_Goes p e below (s₁.setTop (mkF m 3 #[.val (.ref a1), .val (.double FP.dconst0), .second, .unset, .unset, .unset, .unset, .unset] [(.ref a1)])) _
  refine own_st (fun _ k => XS.astoreN X0.here hx rfl (hb hby d14_3) rfl rfl (l' := #[.val (.ref a1), .val (.double FP.dconst0), .second, .val (.ref a1), .unset, .unset, .unset, .unset]) rfl k) ?_
  show own_Goes p e below (s₁.setTop (mkF m 4 #[.val (.ref a1), .val (.double FP.dconst0), .second, .val (.ref a1), .unset, .unset, .unset, .unset] [])) _
  refine own_st (fun _ k => XS.aloadN X0.here hx rfl (hb hby d14_4) rfl rfl k) ?_
  show own_Goes p e below (s₁.setTop (mkF m 5 #[.val (.ref a1), .val (.double FP.dconst0), .second, .val (.ref a1), .unset, .unset, .unset, .unset] [(.ref a1)])) _
  refine own_st (own_len (pc := 5) (Ls := #[.val (.ref a1), .val (.double FP.dconst0), .second, .val (.ref a1), .unset, .unset, .unset, .unset]) (rest := []) X0 hx hZ e0 V1 (hb hby d14_5)) ?_
  show own_Goes p e below (s₁.setTop (mkF m 6 #[.val (.ref a1), .val (.double FP.dconst0), .second, .val (.ref a1), .unset, .unset, .unset, .unset] [(.int (4 : Int32))])) _
  refine own_st (fun _ k => XS.istore X0.here hx rfl (hb hby d14_6) rfl (l' := #[.val (.ref a1), .val (.double FP.dconst0), .second, .val (.ref a1), .val (.int (4 : Int32)), .unset, .unset, .unset]) rfl k) ?_
  show own_Goes p e below (s₁.setTop (mkF m 8 #[.val (.ref a1), .val (.double FP.dconst0), .second, .val (.ref a1), .val (.int (4 : Int32)), .unset, .unset, .unset] [])) _
  refine own_st (fun _ k => XS.iconst X0.here hx rfl (hb hby d14_8) k) ?_
  show own_Goes p e below (s₁.setTop (mkF m 9 #[.val (.ref a1), .val (.double FP.dconst0), .second, .val (.ref a1), .val (.int (4 : Int32)), .unset, .unset, .unset] [(.int (0 : Int32))])) _
  refine own_st (fun _ k => XS.istore X0.here hx rfl (hb hby d14_9) rfl (l' := #[.val (.ref a1), .val (.double FP.dconst0), .second, .val (.ref a1), .val (.int (4 : Int32)), .val (.int (0 : Int32)), .unset, .unset]) rfl k) ?_
  show own_Goes p e below (s₁.setTop (mkF m 11 #[.val (.ref a1), .val (.double FP.dconst0), .second, .val (.ref a1), .val (.int (4 : Int32)), .val (.int (0 : Int32)), .unset, .unset] [])) _
  refine own_st (fun _ k => XS.iload X0.here hx rfl (hb hby d14_11) rfl k) ?_
  show own_Goes p e below (s₁.setTop (mkF m 13 #[.val (.ref a1), .val (.double FP.dconst0), .second, .val (.ref a1), .val (.int (4 : Int32)), .val (.int (0 : Int32)), .unset, .unset] [(.int (0 : Int32))])) _
  refine own_st (fun _ k => XS.iload X0.here hx rfl (hb hby d14_13) rfl k) ?_
  show own_Goes p e below (s₁.setTop (mkF m 15 #[.val (.ref a1), .val (.double FP.dconst0), .second, .val (.ref a1), .val (.int (4 : Int32)), .val (.int (0 : Int32)), .unset, .unset] [(.int (4 : Int32)), (.int (0 : Int32))])) _
  refine own_st (fun _ k => XS.icmpNo X0.here hx rfl (hb hby d14_15) rfl (tlt (by decide : (0 : Int32) < (4 : Int32))).2.1 k) ?_
  show own_Goes p e below (s₁.setTop (mkF m 18 #[.val (.ref a1), .val (.double FP.dconst0), .second, .val (.ref a1), .val (.int (4 : Int32)), .val (.int (0 : Int32)), .unset, .unset] [])) _
  refine own_st (fun _ k => XS.aloadN X0.here hx rfl (hb hby d14_18) rfl rfl k) ?_
  show own_Goes p e below (s₁.setTop (mkF m 19 #[.val (.ref a1), .val (.double FP.dconst0), .second, .val (.ref a1), .val (.int (4 : Int32)), .val (.int (0 : Int32)), .unset, .unset] [(.ref a1)])) _
  refine own_st (fun _ k => XS.iload X0.here hx rfl (hb hby d14_19) rfl k) ?_
  show own_Goes p e below (s₁.setTop (mkF m 21 #[.val (.ref a1), .val (.double FP.dconst0), .second, .val (.ref a1), .val (.int (4 : Int32)), .val (.int (0 : Int32)), .unset, .unset] [(.int (0 : Int32)), (.ref a1)])) _
  refine own_st (own_ldD (v := (.double x0)) (pc := 21) (Ls := #[.val (.ref a1), .val (.double FP.dconst0), .second, .val (.ref a1), .val (.int (4 : Int32)), .val (.int (0 : Int32)), .unset, .unset]) (rest := []) (j := (0 : Int32)) X0 hx hZ e0 V1 (by decide) rfl (hb hby d14_21)) ?_
  show own_Goes p e below (s₁.setTop (mkF m 22 #[.val (.ref a1), .val (.double FP.dconst0), .second, .val (.ref a1), .val (.int (4 : Int32)), .val (.int (0 : Int32)), .unset, .unset] [(.double x0)])) _
  refine own_st (fun _ k => own_dstore X0.here hx rfl (hb hby d14_22) rfl (l' := #[.val (.ref a1), .val (.double FP.dconst0), .second, .val (.ref a1), .val (.int (4 : Int32)), .val (.int (0 : Int32)), .val (.double x0), .second]) rfl k) ?_
  show own_Goes p e below (s₁.setTop (mkF m 24 #[.val (.ref a1), .val (.double FP.dconst0), .second, .val (.ref a1), .val (.int (4 : Int32)), .val (.int (0 : Int32)), .val (.double x0), .second] [])) _
  refine own_st (fun _ k => XT.dloadN X0.here hx rfl (hb hby d14_24) rfl k) ?_
  show own_Goes p e below (s₁.setTop (mkF m 25 #[.val (.ref a1), .val (.double FP.dconst0), .second, .val (.ref a1), .val (.int (4 : Int32)), .val (.int (0 : Int32)), .val (.double x0), .second] [(.double FP.dconst0)])) _
  refine own_st (fun _ k => XT.dload X0.here hx rfl (hb hby d14_25) rfl k) ?_
  show own_Goes p e below (s₁.setTop (mkF m 27 #[.val (.ref a1), .val (.double FP.dconst0), .second, .val (.ref a1), .val (.int (4 : Int32)), .val (.int (0 : Int32)), .val (.double x0), .second] [(.double x0), (.double FP.dconst0)])) _
  refine own_st (fun _ k => XT.dload X0.here hx rfl (hb hby d14_27) rfl k) ?_
  show own_Goes p e below (s₁.setTop (mkF m 29 #[.val (.ref a1), .val (.double FP.dconst0), .second, .val (.ref a1), .val (.int (4 : Int32)), .val (.int (0 : Int32)), .val (.double x0), .second] [(.double x0), (.double x0), (.double FP.dconst0)])) _
  have Dm0 := own_di_mul D0 D0 (by have q := own_sq B0; generalize i0 * i0 = t at *; omega)
  refine own_st (fun _ k => own_dmul X0.here hx rfl (hb hby d14_29) rfl (own_di_no Dm0) k) ?_
  show own_Goes p e below (s₁.setTop (mkF m 30 #[.val (.ref a1), .val (.double FP.dconst0), .second, .val (.ref a1), .val (.int (4 : Int32)), .val (.int (0 : Int32)), .val (.double x0), .second] [(.double (FP.dmul x0 x0)), (.double FP.dconst0)])) _
  obtain ⟨m0, hm0⟩ : ∃ z, FP.dmul x0 x0 = z := ⟨_, rfl⟩
  rw [hm0] at Dm0 ⊢
  show own_Goes p e below (s₁.setTop (mkF m 30 #[.val (.ref a1), .val (.double FP.dconst0), .second, .val (.ref a1), .val (.int (4 : Int32)), .val (.int (0 : Int32)), .val (.double x0), .second] [(.double m0), (.double FP.dconst0)])) _
  have Da0 := own_di_add own_di_0 Dm0 (by have q0 := own_sq B0; generalize i0 * i0 = t0 at *; omega)
  refine own_st (fun _ k => own_dadd X0.here hx rfl (hb hby d14_30) rfl (own_di_no Da0) k) ?_
  show own_Goes p e below (s₁.setTop (mkF m 31 #[.val (.ref a1), .val (.double FP.dconst0), .second, .val (.ref a1), .val (.int (4 : Int32)), .val (.int (0 : Int32)), .val (.double x0), .second] [(.double (FP.dadd FP.dconst0 m0))])) _
  obtain ⟨s0, hs0⟩ : ∃ z, FP.dadd FP.dconst0 m0 = z := ⟨_, rfl⟩
  rw [hs0] at Da0 ⊢
  show own_Goes p e below (s₁.setTop (mkF m 31 #[.val (.ref a1), .val (.double FP.dconst0), .second, .val (.ref a1), .val (.int (4 : Int32)), .val (.int (0 : Int32)), .val (.double x0), .second] [(.double s0)])) _
  refine own_st (fun _ k => own_dstoreN X0.here hx rfl (hb hby d14_31) rfl (l' := #[.val (.ref a1), .val (.double s0), .second, .val (.ref a1), .val (.int (4 : Int32)), .val (.int (0 : Int32)), .val (.double x0), .second]) rfl k) ?_
  show own_Goes p e below (s₁.setTop (mkF m 32 #[.val (.ref a1), .val (.double s0), .second, .val (.ref a1), .val (.int (4 : Int32)), .val (.int (0 : Int32)), .val (.double x0), .second] [])) _
  refine own_st (fun _ k => XS.iinc X0.here hx rfl (hb hby d14_32) rfl (l' := #[.val (.ref a1), .val (.double s0), .second, .val (.ref a1), .val (.int (4 : Int32)), .val (.int ((0 : Int32) + (1 : Int32))), .val (.double x0), .second]) rfl k) ?_
  show own_Goes p e below (s₁.setTop (mkF m 35 #[.val (.ref a1), .val (.double s0), .second, .val (.ref a1), .val (.int (4 : Int32)), .val (.int ((0 : Int32) + (1 : Int32))), .val (.double x0), .second] [])) _
  rw [show (0 : Int32) + (1 : Int32) = (1 : Int32) from by decide]
  show own_Goes p e below (s₁.setTop (mkF m 35 #[.val (.ref a1), .val (.double s0), .second, .val (.ref a1), .val (.int (4 : Int32)), .val (.int (1 : Int32)), .val (.double x0), .second] [])) _
  refine own_st (fun _ k => XS.goto X0.here hx rfl (pc0 := 35) (pc' := 11) rfl (hb hby d14_35) (by decide) (by decide) k) ?_
  show own_Goes p e below (s₁.setTop (mkF m 11 #[.val (.ref a1), .val (.double s0), .second, .val (.ref a1), .val (.int (4 : Int32)), .val (.int (1 : Int32)), .val (.double x0), .second] [])) _
  refine own_st (fun _ k => XS.iload X0.here hx rfl (hb hby d14_11) rfl k) ?_
  show own_Goes p e below (s₁.setTop (mkF m 13 #[.val (.ref a1), .val (.double s0), .second, .val (.ref a1), .val (.int (4 : Int32)), .val (.int (1 : Int32)), .val (.double x0), .second] [(.int (1 : Int32))])) _
  refine own_st (fun _ k => XS.iload X0.here hx rfl (hb hby d14_13) rfl k) ?_
  show own_Goes p e below (s₁.setTop (mkF m 15 #[.val (.ref a1), .val (.double s0), .second, .val (.ref a1), .val (.int (4 : Int32)), .val (.int (1 : Int32)), .val (.double x0), .second] [(.int (4 : Int32)), (.int (1 : Int32))])) _
  refine own_st (fun _ k => XS.icmpNo X0.here hx rfl (hb hby d14_15) rfl (tlt (by decide : (1 : Int32) < (4 : Int32))).2.1 k) ?_
  show own_Goes p e below (s₁.setTop (mkF m 18 #[.val (.ref a1), .val (.double s0), .second, .val (.ref a1), .val (.int (4 : Int32)), .val (.int (1 : Int32)), .val (.double x0), .second] [])) _
  refine own_st (fun _ k => XS.aloadN X0.here hx rfl (hb hby d14_18) rfl rfl k) ?_
  show own_Goes p e below (s₁.setTop (mkF m 19 #[.val (.ref a1), .val (.double s0), .second, .val (.ref a1), .val (.int (4 : Int32)), .val (.int (1 : Int32)), .val (.double x0), .second] [(.ref a1)])) _
  refine own_st (fun _ k => XS.iload X0.here hx rfl (hb hby d14_19) rfl k) ?_
  show own_Goes p e below (s₁.setTop (mkF m 21 #[.val (.ref a1), .val (.double s0), .second, .val (.ref a1), .val (.int (4 : Int32)), .val (.int (1 : Int32)), .val (.double x0), .second] [(.int (1 : Int32)), (.ref a1)])) _
  refine own_st (own_ldD (v := (.double x1)) (pc := 21) (Ls := #[.val (.ref a1), .val (.double s0), .second, .val (.ref a1), .val (.int (4 : Int32)), .val (.int (1 : Int32)), .val (.double x0), .second]) (rest := []) (j := (1 : Int32)) X0 hx hZ e0 V1 (by decide) rfl (hb hby d14_21)) ?_
  show own_Goes p e below (s₁.setTop (mkF m 22 #[.val (.ref a1), .val (.double s0), .second, .val (.ref a1), .val (.int (4 : Int32)), .val (.int (1 : Int32)), .val (.double x0), .second] [(.double x1)])) _
  refine own_st (fun _ k => own_dstore X0.here hx rfl (hb hby d14_22) rfl (l' := #[.val (.ref a1), .val (.double s0), .second, .val (.ref a1), .val (.int (4 : Int32)), .val (.int (1 : Int32)), .val (.double x1), .second]) rfl k) ?_
  show own_Goes p e below (s₁.setTop (mkF m 24 #[.val (.ref a1), .val (.double s0), .second, .val (.ref a1), .val (.int (4 : Int32)), .val (.int (1 : Int32)), .val (.double x1), .second] [])) _
  refine own_st (fun _ k => XT.dloadN X0.here hx rfl (hb hby d14_24) rfl k) ?_
  show own_Goes p e below (s₁.setTop (mkF m 25 #[.val (.ref a1), .val (.double s0), .second, .val (.ref a1), .val (.int (4 : Int32)), .val (.int (1 : Int32)), .val (.double x1), .second] [(.double s0)])) _
  refine own_st (fun _ k => XT.dload X0.here hx rfl (hb hby d14_25) rfl k) ?_
  show own_Goes p e below (s₁.setTop (mkF m 27 #[.val (.ref a1), .val (.double s0), .second, .val (.ref a1), .val (.int (4 : Int32)), .val (.int (1 : Int32)), .val (.double x1), .second] [(.double x1), (.double s0)])) _
  refine own_st (fun _ k => XT.dload X0.here hx rfl (hb hby d14_27) rfl k) ?_
  show own_Goes p e below (s₁.setTop (mkF m 29 #[.val (.ref a1), .val (.double s0), .second, .val (.ref a1), .val (.int (4 : Int32)), .val (.int (1 : Int32)), .val (.double x1), .second] [(.double x1), (.double x1), (.double s0)])) _
  have Dm1 := own_di_mul D1 D1 (by have q := own_sq B1; generalize i1 * i1 = t at *; omega)
  refine own_st (fun _ k => own_dmul X0.here hx rfl (hb hby d14_29) rfl (own_di_no Dm1) k) ?_
  show own_Goes p e below (s₁.setTop (mkF m 30 #[.val (.ref a1), .val (.double s0), .second, .val (.ref a1), .val (.int (4 : Int32)), .val (.int (1 : Int32)), .val (.double x1), .second] [(.double (FP.dmul x1 x1)), (.double s0)])) _
  obtain ⟨m1, hm1⟩ : ∃ z, FP.dmul x1 x1 = z := ⟨_, rfl⟩
  rw [hm1] at Dm1 ⊢
  show own_Goes p e below (s₁.setTop (mkF m 30 #[.val (.ref a1), .val (.double s0), .second, .val (.ref a1), .val (.int (4 : Int32)), .val (.int (1 : Int32)), .val (.double x1), .second] [(.double m1), (.double s0)])) _
  have Da1 := own_di_add Da0 Dm1 (by have q0 := own_sq B0; generalize i0 * i0 = t0 at *; have q1 := own_sq B1; generalize i1 * i1 = t1 at *; omega)
  refine own_st (fun _ k => own_dadd X0.here hx rfl (hb hby d14_30) rfl (own_di_no Da1) k) ?_
  show own_Goes p e below (s₁.setTop (mkF m 31 #[.val (.ref a1), .val (.double s0), .second, .val (.ref a1), .val (.int (4 : Int32)), .val (.int (1 : Int32)), .val (.double x1), .second] [(.double (FP.dadd s0 m1))])) _
  obtain ⟨s1, hs1⟩ : ∃ z, FP.dadd s0 m1 = z := ⟨_, rfl⟩
  rw [hs1] at Da1 ⊢
  show own_Goes p e below (s₁.setTop (mkF m 31 #[.val (.ref a1), .val (.double s0), .second, .val (.ref a1), .val (.int (4 : Int32)), .val (.int (1 : Int32)), .val (.double x1), .second] [(.double s1)])) _
  refine own_st (fun _ k => own_dstoreN X0.here hx rfl (hb hby d14_31) rfl (l' := #[.val (.ref a1), .val (.double s1), .second, .val (.ref a1), .val (.int (4 : Int32)), .val (.int (1 : Int32)), .val (.double x1), .second]) rfl k) ?_
  show own_Goes p e below (s₁.setTop (mkF m 32 #[.val (.ref a1), .val (.double s1), .second, .val (.ref a1), .val (.int (4 : Int32)), .val (.int (1 : Int32)), .val (.double x1), .second] [])) _
  refine own_st (fun _ k => XS.iinc X0.here hx rfl (hb hby d14_32) rfl (l' := #[.val (.ref a1), .val (.double s1), .second, .val (.ref a1), .val (.int (4 : Int32)), .val (.int ((1 : Int32) + (1 : Int32))), .val (.double x1), .second]) rfl k) ?_
  show own_Goes p e below (s₁.setTop (mkF m 35 #[.val (.ref a1), .val (.double s1), .second, .val (.ref a1), .val (.int (4 : Int32)), .val (.int ((1 : Int32) + (1 : Int32))), .val (.double x1), .second] [])) _
  rw [show (1 : Int32) + (1 : Int32) = (2 : Int32) from by decide]
  show own_Goes p e below (s₁.setTop (mkF m 35 #[.val (.ref a1), .val (.double s1), .second, .val (.ref a1), .val (.int (4 : Int32)), .val (.int (2 : Int32)), .val (.double x1), .second] [])) _
  refine own_st (fun _ k => XS.goto X0.here hx rfl (pc0 := 35) (pc' := 11) rfl (hb hby d14_35) (by decide) (by decide) k) ?_
  show own_Goes p e below (s₁.setTop (mkF m 11 #[.val (.ref a1), .val (.double s1), .second, .val (.ref a1), .val (.int (4 : Int32)), .val (.int (2 : Int32)), .val (.double x1), .second] [])) _
  refine own_st (fun _ k => XS.iload X0.here hx rfl (hb hby d14_11) rfl k) ?_
  show own_Goes p e below (s₁.setTop (mkF m 13 #[.val (.ref a1), .val (.double s1), .second, .val (.ref a1), .val (.int (4 : Int32)), .val (.int (2 : Int32)), .val (.double x1), .second] [(.int (2 : Int32))])) _
  refine own_st (fun _ k => XS.iload X0.here hx rfl (hb hby d14_13) rfl k) ?_
  show own_Goes p e below (s₁.setTop (mkF m 15 #[.val (.ref a1), .val (.double s1), .second, .val (.ref a1), .val (.int (4 : Int32)), .val (.int (2 : Int32)), .val (.double x1), .second] [(.int (4 : Int32)), (.int (2 : Int32))])) _
  refine own_st (fun _ k => XS.icmpNo X0.here hx rfl (hb hby d14_15) rfl (tlt (by decide : (2 : Int32) < (4 : Int32))).2.1 k) ?_
  show own_Goes p e below (s₁.setTop (mkF m 18 #[.val (.ref a1), .val (.double s1), .second, .val (.ref a1), .val (.int (4 : Int32)), .val (.int (2 : Int32)), .val (.double x1), .second] [])) _
  refine own_st (fun _ k => XS.aloadN X0.here hx rfl (hb hby d14_18) rfl rfl k) ?_
  show own_Goes p e below (s₁.setTop (mkF m 19 #[.val (.ref a1), .val (.double s1), .second, .val (.ref a1), .val (.int (4 : Int32)), .val (.int (2 : Int32)), .val (.double x1), .second] [(.ref a1)])) _
  refine own_st (fun _ k => XS.iload X0.here hx rfl (hb hby d14_19) rfl k) ?_
  show own_Goes p e below (s₁.setTop (mkF m 21 #[.val (.ref a1), .val (.double s1), .second, .val (.ref a1), .val (.int (4 : Int32)), .val (.int (2 : Int32)), .val (.double x1), .second] [(.int (2 : Int32)), (.ref a1)])) _
  refine own_st (own_ldD (v := (.double x2)) (pc := 21) (Ls := #[.val (.ref a1), .val (.double s1), .second, .val (.ref a1), .val (.int (4 : Int32)), .val (.int (2 : Int32)), .val (.double x1), .second]) (rest := []) (j := (2 : Int32)) X0 hx hZ e0 V1 (by decide) rfl (hb hby d14_21)) ?_
  show own_Goes p e below (s₁.setTop (mkF m 22 #[.val (.ref a1), .val (.double s1), .second, .val (.ref a1), .val (.int (4 : Int32)), .val (.int (2 : Int32)), .val (.double x1), .second] [(.double x2)])) _
  refine own_st (fun _ k => own_dstore X0.here hx rfl (hb hby d14_22) rfl (l' := #[.val (.ref a1), .val (.double s1), .second, .val (.ref a1), .val (.int (4 : Int32)), .val (.int (2 : Int32)), .val (.double x2), .second]) rfl k) ?_
  show own_Goes p e below (s₁.setTop (mkF m 24 #[.val (.ref a1), .val (.double s1), .second, .val (.ref a1), .val (.int (4 : Int32)), .val (.int (2 : Int32)), .val (.double x2), .second] [])) _
  refine own_st (fun _ k => XT.dloadN X0.here hx rfl (hb hby d14_24) rfl k) ?_
  show own_Goes p e below (s₁.setTop (mkF m 25 #[.val (.ref a1), .val (.double s1), .second, .val (.ref a1), .val (.int (4 : Int32)), .val (.int (2 : Int32)), .val (.double x2), .second] [(.double s1)])) _
  refine own_st (fun _ k => XT.dload X0.here hx rfl (hb hby d14_25) rfl k) ?_
  show own_Goes p e below (s₁.setTop (mkF m 27 #[.val (.ref a1), .val (.double s1), .second, .val (.ref a1), .val (.int (4 : Int32)), .val (.int (2 : Int32)), .val (.double x2), .second] [(.double x2), (.double s1)])) _
  refine own_st (fun _ k => XT.dload X0.here hx rfl (hb hby d14_27) rfl k) ?_
  show own_Goes p e below (s₁.setTop (mkF m 29 #[.val (.ref a1), .val (.double s1), .second, .val (.ref a1), .val (.int (4 : Int32)), .val (.int (2 : Int32)), .val (.double x2), .second] [(.double x2), (.double x2), (.double s1)])) _
  have Dm2 := own_di_mul D2 D2 (by have q := own_sq B2; generalize i2 * i2 = t at *; omega)
  refine own_st (fun _ k => own_dmul X0.here hx rfl (hb hby d14_29) rfl (own_di_no Dm2) k) ?_
  show own_Goes p e below (s₁.setTop (mkF m 30 #[.val (.ref a1), .val (.double s1), .second, .val (.ref a1), .val (.int (4 : Int32)), .val (.int (2 : Int32)), .val (.double x2), .second] [(.double (FP.dmul x2 x2)), (.double s1)])) _
  obtain ⟨m2, hm2⟩ : ∃ z, FP.dmul x2 x2 = z := ⟨_, rfl⟩
  rw [hm2] at Dm2 ⊢
  show own_Goes p e below (s₁.setTop (mkF m 30 #[.val (.ref a1), .val (.double s1), .second, .val (.ref a1), .val (.int (4 : Int32)), .val (.int (2 : Int32)), .val (.double x2), .second] [(.double m2), (.double s1)])) _
  have Da2 := own_di_add Da1 Dm2 (by have q0 := own_sq B0; generalize i0 * i0 = t0 at *; have q1 := own_sq B1; generalize i1 * i1 = t1 at *; have q2 := own_sq B2; generalize i2 * i2 = t2 at *; omega)
  refine own_st (fun _ k => own_dadd X0.here hx rfl (hb hby d14_30) rfl (own_di_no Da2) k) ?_
  show own_Goes p e below (s₁.setTop (mkF m 31 #[.val (.ref a1), .val (.double s1), .second, .val (.ref a1), .val (.int (4 : Int32)), .val (.int (2 : Int32)), .val (.double x2), .second] [(.double (FP.dadd s1 m2))])) _
  obtain ⟨s2, hs2⟩ : ∃ z, FP.dadd s1 m2 = z := ⟨_, rfl⟩
  rw [hs2] at Da2 ⊢
  show own_Goes p e below (s₁.setTop (mkF m 31 #[.val (.ref a1), .val (.double s1), .second, .val (.ref a1), .val (.int (4 : Int32)), .val (.int (2 : Int32)), .val (.double x2), .second] [(.double s2)])) _
  refine own_st (fun _ k => own_dstoreN X0.here hx rfl (hb hby d14_31) rfl (l' := #[.val (.ref a1), .val (.double s2), .second, .val (.ref a1), .val (.int (4 : Int32)), .val (.int (2 : Int32)), .val (.double x2), .second]) rfl k) ?_
  show own_Goes p e below (s₁.setTop (mkF m 32 #[.val (.ref a1), .val (.double s2), .second, .val (.ref a1), .val (.int (4 : Int32)), .val (.int (2 : Int32)), .val (.double x2), .second] [])) _
  refine own_st (fun _ k => XS.iinc X0.here hx rfl (hb hby d14_32) rfl (l' := #[.val (.ref a1), .val (.double s2), .second, .val (.ref a1), .val (.int (4 : Int32)), .val (.int ((2 : Int32) + (1 : Int32))), .val (.double x2), .second]) rfl k) ?_
  show own_Goes p e below (s₁.setTop (mkF m 35 #[.val (.ref a1), .val (.double s2), .second, .val (.ref a1), .val (.int (4 : Int32)), .val (.int ((2 : Int32) + (1 : Int32))), .val (.double x2), .second] [])) _
  rw [show (2 : Int32) + (1 : Int32) = (3 : Int32) from by decide]
  show own_Goes p e below (s₁.setTop (mkF m 35 #[.val (.ref a1), .val (.double s2), .second, .val (.ref a1), .val (.int (4 : Int32)), .val (.int (3 : Int32)), .val (.double x2), .second] [])) _
  refine own_st (fun _ k => XS.goto X0.here hx rfl (pc0 := 35) (pc' := 11) rfl (hb hby d14_35) (by decide) (by decide) k) ?_
  show own_Goes p e below (s₁.setTop (mkF m 11 #[.val (.ref a1), .val (.double s2), .second, .val (.ref a1), .val (.int (4 : Int32)), .val (.int (3 : Int32)), .val (.double x2), .second] [])) _
  refine own_st (fun _ k => XS.iload X0.here hx rfl (hb hby d14_11) rfl k) ?_
  show own_Goes p e below (s₁.setTop (mkF m 13 #[.val (.ref a1), .val (.double s2), .second, .val (.ref a1), .val (.int (4 : Int32)), .val (.int (3 : Int32)), .val (.double x2), .second] [(.int (3 : Int32))])) _
  refine own_st (fun _ k => XS.iload X0.here hx rfl (hb hby d14_13) rfl k) ?_
  show own_Goes p e below (s₁.setTop (mkF m 15 #[.val (.ref a1), .val (.double s2), .second, .val (.ref a1), .val (.int (4 : Int32)), .val (.int (3 : Int32)), .val (.double x2), .second] [(.int (4 : Int32)), (.int (3 : Int32))])) _
  refine own_st (fun _ k => XS.icmpNo X0.here hx rfl (hb hby d14_15) rfl (tlt (by decide : (3 : Int32) < (4 : Int32))).2.1 k) ?_
  show own_Goes p e below (s₁.setTop (mkF m 18 #[.val (.ref a1), .val (.double s2), .second, .val (.ref a1), .val (.int (4 : Int32)), .val (.int (3 : Int32)), .val (.double x2), .second] [])) _
  refine own_st (fun _ k => XS.aloadN X0.here hx rfl (hb hby d14_18) rfl rfl k) ?_
  show own_Goes p e below (s₁.setTop (mkF m 19 #[.val (.ref a1), .val (.double s2), .second, .val (.ref a1), .val (.int (4 : Int32)), .val (.int (3 : Int32)), .val (.double x2), .second] [(.ref a1)])) _
  refine own_st (fun _ k => XS.iload X0.here hx rfl (hb hby d14_19) rfl k) ?_
  show own_Goes p e below (s₁.setTop (mkF m 21 #[.val (.ref a1), .val (.double s2), .second, .val (.ref a1), .val (.int (4 : Int32)), .val (.int (3 : Int32)), .val (.double x2), .second] [(.int (3 : Int32)), (.ref a1)])) _
  refine own_st (own_ldD (v := (.double x3)) (pc := 21) (Ls := #[.val (.ref a1), .val (.double s2), .second, .val (.ref a1), .val (.int (4 : Int32)), .val (.int (3 : Int32)), .val (.double x2), .second]) (rest := []) (j := (3 : Int32)) X0 hx hZ e0 V1 (by decide) rfl (hb hby d14_21)) ?_
  show own_Goes p e below (s₁.setTop (mkF m 22 #[.val (.ref a1), .val (.double s2), .second, .val (.ref a1), .val (.int (4 : Int32)), .val (.int (3 : Int32)), .val (.double x2), .second] [(.double x3)])) _
  refine own_st (fun _ k => own_dstore X0.here hx rfl (hb hby d14_22) rfl (l' := #[.val (.ref a1), .val (.double s2), .second, .val (.ref a1), .val (.int (4 : Int32)), .val (.int (3 : Int32)), .val (.double x3), .second]) rfl k) ?_
  show own_Goes p e below (s₁.setTop (mkF m 24 #[.val (.ref a1), .val (.double s2), .second, .val (.ref a1), .val (.int (4 : Int32)), .val (.int (3 : Int32)), .val (.double x3), .second] [])) _
  refine own_st (fun _ k => XT.dloadN X0.here hx rfl (hb hby d14_24) rfl k) ?_
  show own_Goes p e below (s₁.setTop (mkF m 25 #[.val (.ref a1), .val (.double s2), .second, .val (.ref a1), .val (.int (4 : Int32)), .val (.int (3 : Int32)), .val (.double x3), .second] [(.double s2)])) _
  refine own_st (fun _ k => XT.dload X0.here hx rfl (hb hby d14_25) rfl k) ?_
  show own_Goes p e below (s₁.setTop (mkF m 27 #[.val (.ref a1), .val (.double s2), .second, .val (.ref a1), .val (.int (4 : Int32)), .val (.int (3 : Int32)), .val (.double x3), .second] [(.double x3), (.double s2)])) _
  refine own_st (fun _ k => XT.dload X0.here hx rfl (hb hby d14_27) rfl k) ?_
  show own_Goes p e below (s₁.setTop (mkF m 29 #[.val (.ref a1), .val (.double s2), .second, .val (.ref a1), .val (.int (4 : Int32)), .val (.int (3 : Int32)), .val (.double x3), .second] [(.double x3), (.double x3), (.double s2)])) _
  have Dm3 := own_di_mul D3 D3 (by have q := own_sq B3; generalize i3 * i3 = t at *; omega)
  refine own_st (fun _ k => own_dmul X0.here hx rfl (hb hby d14_29) rfl (own_di_no Dm3) k) ?_
  show own_Goes p e below (s₁.setTop (mkF m 30 #[.val (.ref a1), .val (.double s2), .second, .val (.ref a1), .val (.int (4 : Int32)), .val (.int (3 : Int32)), .val (.double x3), .second] [(.double (FP.dmul x3 x3)), (.double s2)])) _
  obtain ⟨m3, hm3⟩ : ∃ z, FP.dmul x3 x3 = z := ⟨_, rfl⟩
  rw [hm3] at Dm3 ⊢
  show own_Goes p e below (s₁.setTop (mkF m 30 #[.val (.ref a1), .val (.double s2), .second, .val (.ref a1), .val (.int (4 : Int32)), .val (.int (3 : Int32)), .val (.double x3), .second] [(.double m3), (.double s2)])) _
  have Da3 := own_di_add Da2 Dm3 (by have q0 := own_sq B0; generalize i0 * i0 = t0 at *; have q1 := own_sq B1; generalize i1 * i1 = t1 at *; have q2 := own_sq B2; generalize i2 * i2 = t2 at *; have q3 := own_sq B3; generalize i3 * i3 = t3 at *; omega)
  refine own_st (fun _ k => own_dadd X0.here hx rfl (hb hby d14_30) rfl (own_di_no Da3) k) ?_
  show own_Goes p e below (s₁.setTop (mkF m 31 #[.val (.ref a1), .val (.double s2), .second, .val (.ref a1), .val (.int (4 : Int32)), .val (.int (3 : Int32)), .val (.double x3), .second] [(.double (FP.dadd s2 m3))])) _
  obtain ⟨s3, hs3⟩ : ∃ z, FP.dadd s2 m3 = z := ⟨_, rfl⟩
  rw [hs3] at Da3 ⊢
  show own_Goes p e below (s₁.setTop (mkF m 31 #[.val (.ref a1), .val (.double s2), .second, .val (.ref a1), .val (.int (4 : Int32)), .val (.int (3 : Int32)), .val (.double x3), .second] [(.double s3)])) _
  refine own_st (fun _ k => own_dstoreN X0.here hx rfl (hb hby d14_31) rfl (l' := #[.val (.ref a1), .val (.double s3), .second, .val (.ref a1), .val (.int (4 : Int32)), .val (.int (3 : Int32)), .val (.double x3), .second]) rfl k) ?_
  show own_Goes p e below (s₁.setTop (mkF m 32 #[.val (.ref a1), .val (.double s3), .second, .val (.ref a1), .val (.int (4 : Int32)), .val (.int (3 : Int32)), .val (.double x3), .second] [])) _
  refine own_st (fun _ k => XS.iinc X0.here hx rfl (hb hby d14_32) rfl (l' := #[.val (.ref a1), .val (.double s3), .second, .val (.ref a1), .val (.int (4 : Int32)), .val (.int ((3 : Int32) + (1 : Int32))), .val (.double x3), .second]) rfl k) ?_
  show own_Goes p e below (s₁.setTop (mkF m 35 #[.val (.ref a1), .val (.double s3), .second, .val (.ref a1), .val (.int (4 : Int32)), .val (.int ((3 : Int32) + (1 : Int32))), .val (.double x3), .second] [])) _
  rw [show (3 : Int32) + (1 : Int32) = (4 : Int32) from by decide]
  show own_Goes p e below (s₁.setTop (mkF m 35 #[.val (.ref a1), .val (.double s3), .second, .val (.ref a1), .val (.int (4 : Int32)), .val (.int (4 : Int32)), .val (.double x3), .second] [])) _
  refine own_st (fun _ k => XS.goto X0.here hx rfl (pc0 := 35) (pc' := 11) rfl (hb hby d14_35) (by decide) (by decide) k) ?_
  show own_Goes p e below (s₁.setTop (mkF m 11 #[.val (.ref a1), .val (.double s3), .second, .val (.ref a1), .val (.int (4 : Int32)), .val (.int (4 : Int32)), .val (.double x3), .second] [])) _
  refine own_st (fun _ k => XS.iload X0.here hx rfl (hb hby d14_11) rfl k) ?_
  show own_Goes p e below (s₁.setTop (mkF m 13 #[.val (.ref a1), .val (.double s3), .second, .val (.ref a1), .val (.int (4 : Int32)), .val (.int (4 : Int32)), .val (.double x3), .second] [(.int (4 : Int32))])) _
  refine own_st (fun _ k => XS.iload X0.here hx rfl (hb hby d14_13) rfl k) ?_
  show own_Goes p e below (s₁.setTop (mkF m 15 #[.val (.ref a1), .val (.double s3), .second, .val (.ref a1), .val (.int (4 : Int32)), .val (.int (4 : Int32)), .val (.double x3), .second] [(.int (4 : Int32)), (.int (4 : Int32))])) _
  refine own_st (fun _ k => XS.icmpYes X0.here hx rfl (pc0 := 15) (pc' := 38) rfl (hb hby d14_15) rfl (flt (by decide : ¬ ((4 : Int32) < (4 : Int32)))).2.1 (by decide) (by decide) k) ?_
  show own_Goes p e below (s₁.setTop (mkF m 38 #[.val (.ref a1), .val (.double s3), .second, .val (.ref a1), .val (.int (4 : Int32)), .val (.int (4 : Int32)), .val (.double x3), .second] [])) _
  refine own_st (fun _ k => XT.dloadN X0.here hx rfl (hb hby d14_38) rfl k) ?_
  show own_Goes p e below (s₁.setTop (mkF m 39 #[.val (.ref a1), .val (.double s3), .second, .val (.ref a1), .val (.int (4 : Int32)), .val (.int (4 : Int32)), .val (.double x3), .second] [(.double s3)])) _
  exact own_retD X0 hx hlk hret (hb hby d14_39) (by decide) (by decide) e0 ⟨_, rfl, Da3, rfl, rfl⟩
theorem ef_0 (m : MethodId) (p1 : Int32) (p2 : Int32) (p3 : Int32) (p4 : Int32) (p5 : Int32) : entryFrame m #[(.int p1), (.int p2), (.int p3), (.int p4), (.int p5)] maxLocals = mkF m 0 #[.val (.int p1), .val (.int p2), .val (.int p3), .val (.int p4), .val (.int p5), .unset, .unset, .unset, .unset, .unset, .unset, .unset, .unset, .unset, .unset] [] := by first | (simp [entryFrame, mkF, argsToLocals, Value.category, maxLocals]; done) | rfl
set_option maxRecDepth 65536 in
set_option maxHeartbeats 40000000 in
theorem rm0 (l : Launch) (Z : State) (a0 : Array Value) (hw : ∀ d ∈ tables_1, d.before a0 Z = true) (ws : List Jvm.Cond) (p1 p2 p3 p4 p5 : Int32) (h0 : Heap) (n0 : Nat) (Z0 : n0 ≤ h0.size)  :
    own_Ct l Z x code maxLocals ret ws room_1 #[(.int p1), (.int p2), (.int p3), (.int p4), (.int p5)] h0 (fun v h L => v = some (.int (1 : Int32)) ∧ Fr n0 L) 1 4 := by
  refine own_met (plainFor_of_name pn_com_example_forseti_forseti_core_QuantizedVectorsSquaredLengthPinLaw) (fun p e s m below meth c s₁ X0 hx hby hml hret hlk hnm hown hZ e0 => ?_)
  have hml : c.maxLocals = 15 := hml
  have N0 := Fr.nil n0
  refine own_st (fun _ k => castTop (ef_0 m p1 p2 p3 p4 p5) k) ?_
  show own_Goes p e below (s₁.setTop (mkF m 0 #[.val (.int p1), .val (.int p2), .val (.int p3), .val (.int p4), .val (.int p5), .unset, .unset, .unset, .unset, .unset, .unset, .unset, .unset, .unset, .unset] [])) _
  refine own_st (fun _ k => XS.iloadN X0.here hx rfl (hb hby at_0) rfl k) ?_
  show own_Goes p e below (s₁.setTop (mkF m 1 #[.val (.int p1), .val (.int p2), .val (.int p3), .val (.int p4), .val (.int p5), .unset, .unset, .unset, .unset, .unset, .unset, .unset, .unset, .unset, .unset] [(.int p1)])) _
  refine own_st (fun _ k => XS.bipush X0.here hx rfl (hb hby at_1) k) ?_
  show own_Goes p e below (s₁.setTop (mkF m 3 #[.val (.int p1), .val (.int p2), .val (.int p3), .val (.int p4), .val (.int p5), .unset, .unset, .unset, .unset, .unset, .unset, .unset, .unset, .unset, .unset] [(.int (7 : Int32)), (.int p1)])) _
  refine own_st (fun _ k => XS.iand X0.here hx rfl (hb hby at_3) rfl k) ?_
  show own_Goes p e below (s₁.setTop (mkF m 4 #[.val (.int p1), .val (.int p2), .val (.int p3), .val (.int p4), .val (.int p5), .unset, .unset, .unset, .unset, .unset, .unset, .unset, .unset, .unset, .unset] [(.int (p1 &&& (7 : Int32)))])) _
  refine own_st (fun _ k => XS.iconst X0.here hx rfl (hb hby at_4) k) ?_
  show own_Goes p e below (s₁.setTop (mkF m 5 #[.val (.int p1), .val (.int p2), .val (.int p3), .val (.int p4), .val (.int p5), .unset, .unset, .unset, .unset, .unset, .unset, .unset, .unset, .unset, .unset] [(.int (5 : Int32)), (.int (p1 &&& (7 : Int32)))])) _
  refine own_st (fun _ k => iremM X0 hx rfl (hb hby at_5) rfl (by decide) k) ?_
  show own_Goes p e below (s₁.setTop (mkF m 6 #[.val (.int p1), .val (.int p2), .val (.int p3), .val (.int p4), .val (.int p5), .unset, .unset, .unset, .unset, .unset, .unset, .unset, .unset, .unset, .unset] [(.int ((p1 &&& (7 : Int32)) % (5 : Int32)))])) _
  obtain ⟨k0, hk0, hv0⟩ := own_mod5 p1
  rw [hk0]
  rcases hv0 with rfl | rfl | rfl | rfl | rfl
  · show own_Goes p e below (s₁.setTop (mkF m 6 #[.val (.int p1), .val (.int p2), .val (.int p3), .val (.int p4), .val (.int p5), .unset, .unset, .unset, .unset, .unset, .unset, .unset, .unset, .unset, .unset] [(.int (0 : Int32))])) _
    refine own_st (fun _ k => XS.istore X0.here hx rfl (hb hby at_6) rfl (l' := #[.val (.int p1), .val (.int p2), .val (.int p3), .val (.int p4), .val (.int p5), .val (.int (0 : Int32)), .unset, .unset, .unset, .unset, .unset, .unset, .unset, .unset, .unset]) rfl k) ?_
    show own_Goes p e below (s₁.setTop (mkF m 8 #[.val (.int p1), .val (.int p2), .val (.int p3), .val (.int p4), .val (.int p5), .val (.int (0 : Int32)), .unset, .unset, .unset, .unset, .unset, .unset, .unset, .unset, .unset] [])) _
    refine own_st (fun _ k => XS.iloadN X0.here hx rfl (hb hby at_8) rfl k) ?_
    show own_Goes p e below (s₁.setTop (mkF m 9 #[.val (.int p1), .val (.int p2), .val (.int p3), .val (.int p4), .val (.int p5), .val (.int (0 : Int32)), .unset, .unset, .unset, .unset, .unset, .unset, .unset, .unset, .unset] [(.int p2)])) _
    refine own_st (fun _ k => XS.bipush X0.here hx rfl (hb hby at_9) k) ?_
    show own_Goes p e below (s₁.setTop (mkF m 11 #[.val (.int p1), .val (.int p2), .val (.int p3), .val (.int p4), .val (.int p5), .val (.int (0 : Int32)), .unset, .unset, .unset, .unset, .unset, .unset, .unset, .unset, .unset] [(.int (6 : Int32)), (.int p2)])) _
    refine own_st (fun _ k => XT.ishl X0.here hx rfl (hb hby at_11) rfl k) ?_
    show own_Goes p e below (s₁.setTop (mkF m 12 #[.val (.int p1), .val (.int p2), .val (.int p3), .val (.int p4), .val (.int p5), .val (.int (0 : Int32)), .unset, .unset, .unset, .unset, .unset, .unset, .unset, .unset, .unset] [(.int (p2 <<< ((6 : Int32) &&& 31)))])) _
    refine own_st (fun _ k => XS.bipush X0.here hx rfl (hb hby at_12) k) ?_
    show own_Goes p e below (s₁.setTop (mkF m 14 #[.val (.int p1), .val (.int p2), .val (.int p3), .val (.int p4), .val (.int p5), .val (.int (0 : Int32)), .unset, .unset, .unset, .unset, .unset, .unset, .unset, .unset, .unset] [(.int (6 : Int32)), (.int (p2 <<< ((6 : Int32) &&& 31)))])) _
    refine own_st (fun _ k => XT.ishr X0.here hx rfl (hb hby at_14) rfl k) ?_
    show own_Goes p e below (s₁.setTop (mkF m 15 #[.val (.int p1), .val (.int p2), .val (.int p3), .val (.int p4), .val (.int p5), .val (.int (0 : Int32)), .unset, .unset, .unset, .unset, .unset, .unset, .unset, .unset, .unset] [(.int ((p2 <<< ((6 : Int32) &&& 31)) >>> ((6 : Int32) &&& 31)))])) _
    obtain ⟨va, he_va, B_va⟩ := own_b26 p2
    rw [he_va]
    show own_Goes p e below (s₁.setTop (mkF m 15 #[.val (.int p1), .val (.int p2), .val (.int p3), .val (.int p4), .val (.int p5), .val (.int (0 : Int32)), .unset, .unset, .unset, .unset, .unset, .unset, .unset, .unset, .unset] [(.int va)])) _
    refine own_st (fun _ k => XS.istore X0.here hx rfl (hb hby at_15) rfl (l' := #[.val (.int p1), .val (.int p2), .val (.int p3), .val (.int p4), .val (.int p5), .val (.int (0 : Int32)), .val (.int va), .unset, .unset, .unset, .unset, .unset, .unset, .unset, .unset]) rfl k) ?_
    show own_Goes p e below (s₁.setTop (mkF m 17 #[.val (.int p1), .val (.int p2), .val (.int p3), .val (.int p4), .val (.int p5), .val (.int (0 : Int32)), .val (.int va), .unset, .unset, .unset, .unset, .unset, .unset, .unset, .unset] [])) _
    refine own_st (fun _ k => XS.iloadN X0.here hx rfl (hb hby at_17) rfl k) ?_
    show own_Goes p e below (s₁.setTop (mkF m 18 #[.val (.int p1), .val (.int p2), .val (.int p3), .val (.int p4), .val (.int p5), .val (.int (0 : Int32)), .val (.int va), .unset, .unset, .unset, .unset, .unset, .unset, .unset, .unset] [(.int p3)])) _
    refine own_st (fun _ k => XS.bipush X0.here hx rfl (hb hby at_18) k) ?_
    show own_Goes p e below (s₁.setTop (mkF m 20 #[.val (.int p1), .val (.int p2), .val (.int p3), .val (.int p4), .val (.int p5), .val (.int (0 : Int32)), .val (.int va), .unset, .unset, .unset, .unset, .unset, .unset, .unset, .unset] [(.int (6 : Int32)), (.int p3)])) _
    refine own_st (fun _ k => XT.ishl X0.here hx rfl (hb hby at_20) rfl k) ?_
    show own_Goes p e below (s₁.setTop (mkF m 21 #[.val (.int p1), .val (.int p2), .val (.int p3), .val (.int p4), .val (.int p5), .val (.int (0 : Int32)), .val (.int va), .unset, .unset, .unset, .unset, .unset, .unset, .unset, .unset] [(.int (p3 <<< ((6 : Int32) &&& 31)))])) _
    refine own_st (fun _ k => XS.bipush X0.here hx rfl (hb hby at_21) k) ?_
    show own_Goes p e below (s₁.setTop (mkF m 23 #[.val (.int p1), .val (.int p2), .val (.int p3), .val (.int p4), .val (.int p5), .val (.int (0 : Int32)), .val (.int va), .unset, .unset, .unset, .unset, .unset, .unset, .unset, .unset] [(.int (6 : Int32)), (.int (p3 <<< ((6 : Int32) &&& 31)))])) _
    refine own_st (fun _ k => XT.ishr X0.here hx rfl (hb hby at_23) rfl k) ?_
    show own_Goes p e below (s₁.setTop (mkF m 24 #[.val (.int p1), .val (.int p2), .val (.int p3), .val (.int p4), .val (.int p5), .val (.int (0 : Int32)), .val (.int va), .unset, .unset, .unset, .unset, .unset, .unset, .unset, .unset] [(.int ((p3 <<< ((6 : Int32) &&& 31)) >>> ((6 : Int32) &&& 31)))])) _
    obtain ⟨vb, he_vb, B_vb⟩ := own_b26 p3
    rw [he_vb]
    show own_Goes p e below (s₁.setTop (mkF m 24 #[.val (.int p1), .val (.int p2), .val (.int p3), .val (.int p4), .val (.int p5), .val (.int (0 : Int32)), .val (.int va), .unset, .unset, .unset, .unset, .unset, .unset, .unset, .unset] [(.int vb)])) _
    refine own_st (fun _ k => XS.istore X0.here hx rfl (hb hby at_24) rfl (l' := #[.val (.int p1), .val (.int p2), .val (.int p3), .val (.int p4), .val (.int p5), .val (.int (0 : Int32)), .val (.int va), .val (.int vb), .unset, .unset, .unset, .unset, .unset, .unset, .unset]) rfl k) ?_
    show own_Goes p e below (s₁.setTop (mkF m 26 #[.val (.int p1), .val (.int p2), .val (.int p3), .val (.int p4), .val (.int p5), .val (.int (0 : Int32)), .val (.int va), .val (.int vb), .unset, .unset, .unset, .unset, .unset, .unset, .unset] [])) _
    refine own_st (fun _ k => XS.iloadN X0.here hx rfl (hb hby at_26) rfl k) ?_
    show own_Goes p e below (s₁.setTop (mkF m 27 #[.val (.int p1), .val (.int p2), .val (.int p3), .val (.int p4), .val (.int p5), .val (.int (0 : Int32)), .val (.int va), .val (.int vb), .unset, .unset, .unset, .unset, .unset, .unset, .unset] [(.int p4)])) _
    refine own_st (fun _ k => XS.bipush X0.here hx rfl (hb hby at_27) k) ?_
    show own_Goes p e below (s₁.setTop (mkF m 29 #[.val (.int p1), .val (.int p2), .val (.int p3), .val (.int p4), .val (.int p5), .val (.int (0 : Int32)), .val (.int va), .val (.int vb), .unset, .unset, .unset, .unset, .unset, .unset, .unset] [(.int (6 : Int32)), (.int p4)])) _
    refine own_st (fun _ k => XT.ishl X0.here hx rfl (hb hby at_29) rfl k) ?_
    show own_Goes p e below (s₁.setTop (mkF m 30 #[.val (.int p1), .val (.int p2), .val (.int p3), .val (.int p4), .val (.int p5), .val (.int (0 : Int32)), .val (.int va), .val (.int vb), .unset, .unset, .unset, .unset, .unset, .unset, .unset] [(.int (p4 <<< ((6 : Int32) &&& 31)))])) _
    refine own_st (fun _ k => XS.bipush X0.here hx rfl (hb hby at_30) k) ?_
    show own_Goes p e below (s₁.setTop (mkF m 32 #[.val (.int p1), .val (.int p2), .val (.int p3), .val (.int p4), .val (.int p5), .val (.int (0 : Int32)), .val (.int va), .val (.int vb), .unset, .unset, .unset, .unset, .unset, .unset, .unset] [(.int (6 : Int32)), (.int (p4 <<< ((6 : Int32) &&& 31)))])) _
    refine own_st (fun _ k => XT.ishr X0.here hx rfl (hb hby at_32) rfl k) ?_
    show own_Goes p e below (s₁.setTop (mkF m 33 #[.val (.int p1), .val (.int p2), .val (.int p3), .val (.int p4), .val (.int p5), .val (.int (0 : Int32)), .val (.int va), .val (.int vb), .unset, .unset, .unset, .unset, .unset, .unset, .unset] [(.int ((p4 <<< ((6 : Int32) &&& 31)) >>> ((6 : Int32) &&& 31)))])) _
    obtain ⟨vc, he_vc, B_vc⟩ := own_b26 p4
    rw [he_vc]
    show own_Goes p e below (s₁.setTop (mkF m 33 #[.val (.int p1), .val (.int p2), .val (.int p3), .val (.int p4), .val (.int p5), .val (.int (0 : Int32)), .val (.int va), .val (.int vb), .unset, .unset, .unset, .unset, .unset, .unset, .unset] [(.int vc)])) _
    refine own_st (fun _ k => XS.istore X0.here hx rfl (hb hby at_33) rfl (l' := #[.val (.int p1), .val (.int p2), .val (.int p3), .val (.int p4), .val (.int p5), .val (.int (0 : Int32)), .val (.int va), .val (.int vb), .val (.int vc), .unset, .unset, .unset, .unset, .unset, .unset]) rfl k) ?_
    show own_Goes p e below (s₁.setTop (mkF m 35 #[.val (.int p1), .val (.int p2), .val (.int p3), .val (.int p4), .val (.int p5), .val (.int (0 : Int32)), .val (.int va), .val (.int vb), .val (.int vc), .unset, .unset, .unset, .unset, .unset, .unset] [])) _
    refine own_st (fun _ k => XS.iload X0.here hx rfl (hb hby at_35) rfl k) ?_
    show own_Goes p e below (s₁.setTop (mkF m 37 #[.val (.int p1), .val (.int p2), .val (.int p3), .val (.int p4), .val (.int p5), .val (.int (0 : Int32)), .val (.int va), .val (.int vb), .val (.int vc), .unset, .unset, .unset, .unset, .unset, .unset] [(.int p5)])) _
    refine own_st (fun _ k => XS.bipush X0.here hx rfl (hb hby at_37) k) ?_
    show own_Goes p e below (s₁.setTop (mkF m 39 #[.val (.int p1), .val (.int p2), .val (.int p3), .val (.int p4), .val (.int p5), .val (.int (0 : Int32)), .val (.int va), .val (.int vb), .val (.int vc), .unset, .unset, .unset, .unset, .unset, .unset] [(.int (6 : Int32)), (.int p5)])) _
    refine own_st (fun _ k => XT.ishl X0.here hx rfl (hb hby at_39) rfl k) ?_
    show own_Goes p e below (s₁.setTop (mkF m 40 #[.val (.int p1), .val (.int p2), .val (.int p3), .val (.int p4), .val (.int p5), .val (.int (0 : Int32)), .val (.int va), .val (.int vb), .val (.int vc), .unset, .unset, .unset, .unset, .unset, .unset] [(.int (p5 <<< ((6 : Int32) &&& 31)))])) _
    refine own_st (fun _ k => XS.bipush X0.here hx rfl (hb hby at_40) k) ?_
    show own_Goes p e below (s₁.setTop (mkF m 42 #[.val (.int p1), .val (.int p2), .val (.int p3), .val (.int p4), .val (.int p5), .val (.int (0 : Int32)), .val (.int va), .val (.int vb), .val (.int vc), .unset, .unset, .unset, .unset, .unset, .unset] [(.int (6 : Int32)), (.int (p5 <<< ((6 : Int32) &&& 31)))])) _
    refine own_st (fun _ k => XT.ishr X0.here hx rfl (hb hby at_42) rfl k) ?_
    show own_Goes p e below (s₁.setTop (mkF m 43 #[.val (.int p1), .val (.int p2), .val (.int p3), .val (.int p4), .val (.int p5), .val (.int (0 : Int32)), .val (.int va), .val (.int vb), .val (.int vc), .unset, .unset, .unset, .unset, .unset, .unset] [(.int ((p5 <<< ((6 : Int32) &&& 31)) >>> ((6 : Int32) &&& 31)))])) _
    obtain ⟨vd, he_vd, B_vd⟩ := own_b26 p5
    rw [he_vd]
    show own_Goes p e below (s₁.setTop (mkF m 43 #[.val (.int p1), .val (.int p2), .val (.int p3), .val (.int p4), .val (.int p5), .val (.int (0 : Int32)), .val (.int va), .val (.int vb), .val (.int vc), .unset, .unset, .unset, .unset, .unset, .unset] [(.int vd)])) _
    refine own_st (fun _ k => XS.istore X0.here hx rfl (hb hby at_43) rfl (l' := #[.val (.int p1), .val (.int p2), .val (.int p3), .val (.int p4), .val (.int p5), .val (.int (0 : Int32)), .val (.int va), .val (.int vb), .val (.int vc), .val (.int vd), .unset, .unset, .unset, .unset, .unset]) rfl k) ?_
    show own_Goes p e below (s₁.setTop (mkF m 45 #[.val (.int p1), .val (.int p2), .val (.int p3), .val (.int p4), .val (.int p5), .val (.int (0 : Int32)), .val (.int va), .val (.int vb), .val (.int vc), .val (.int vd), .unset, .unset, .unset, .unset, .unset] [])) _
    refine own_st (fun _ k => XS.iload X0.here hx rfl (hb hby at_45) rfl k) ?_
    show own_Goes p e below (s₁.setTop (mkF m 47 #[.val (.int p1), .val (.int p2), .val (.int p3), .val (.int p4), .val (.int p5), .val (.int (0 : Int32)), .val (.int va), .val (.int vb), .val (.int vc), .val (.int vd), .unset, .unset, .unset, .unset, .unset] [(.int (0 : Int32))])) _
    obtain ⟨T101, h101, k101, X101, e101, E101, A101, st101⟩ := newP X0 hx hZ (hw _ (List.mem_of_getElem? (i := 0) rfl)) e0 (g := (mkF m 47 #[.val (.int p1), .val (.int p2), .val (.int p3), .val (.int p4), .val (.int p5), .val (.int (0 : Int32)), .val (.int va), .val (.int vb), .val (.int vc), .val (.int vd), .unset, .unset, .unset, .unset, .unset] [(.int (0 : Int32))])) rfl (hb hby at_47) rfl (by decide) (cap := 0) (by decide) (by decide) (by decide) (by decide)
    obtain ⟨b101, g101⟩ : ∃ z, z = h0.size := ⟨_, rfl⟩
    rw [← g101] at A101 st101
    have g_b101 : n0 ≤ b101 := Nat.le_trans Z0 (Nat.le_of_eq g101.symm)
    have V_b101 : Arv Z h101 b101 k101 .double (0 : Int32) [] (.double 0) := Arv.pad (Arv.new A101 (by decide)) (pad_rep [] _ 0)
    refine own_st st101 ?_
    show own_Goes p e below (T101.setTop (mkF m 49 #[.val (.int p1), .val (.int p2), .val (.int p3), .val (.int p4), .val (.int p5), .val (.int (0 : Int32)), .val (.int va), .val (.int vb), .val (.int vc), .val (.int vd), .unset, .unset, .unset, .unset, .unset] [(.ref b101)])) _
    refine own_st (fun _ k => XS.astore X101.here hx rfl (hb hby at_49) rfl rfl (l' := #[.val (.int p1), .val (.int p2), .val (.int p3), .val (.int p4), .val (.int p5), .val (.int (0 : Int32)), .val (.int va), .val (.int vb), .val (.int vc), .val (.int vd), .val (.ref b101), .unset, .unset, .unset, .unset]) rfl k) ?_
    show own_Goes p e below (T101.setTop (mkF m 51 #[.val (.int p1), .val (.int p2), .val (.int p3), .val (.int p4), .val (.int p5), .val (.int (0 : Int32)), .val (.int va), .val (.int vb), .val (.int vc), .val (.int vd), .val (.ref b101), .unset, .unset, .unset, .unset] [])) _
    refine own_st (fun _ k => XT.lconst X101.here hx rfl (hb hby at_51) k) ?_
    show own_Goes p e below (T101.setTop (mkF m 52 #[.val (.int p1), .val (.int p2), .val (.int p3), .val (.int p4), .val (.int p5), .val (.int (0 : Int32)), .val (.int va), .val (.int vb), .val (.int vc), .val (.int vd), .val (.ref b101), .unset, .unset, .unset, .unset] [(.long (0 : Int64))])) _
    refine own_st (fun _ k => XT.lstore X101.here hx rfl (hb hby at_52) rfl (l' := #[.val (.int p1), .val (.int p2), .val (.int p3), .val (.int p4), .val (.int p5), .val (.int (0 : Int32)), .val (.int va), .val (.int vb), .val (.int vc), .val (.int vd), .val (.ref b101), .val (.long (0 : Int64)), .second, .unset, .unset]) rfl k) ?_
    show own_Goes p e below (T101.setTop (mkF m 54 #[.val (.int p1), .val (.int p2), .val (.int p3), .val (.int p4), .val (.int p5), .val (.int (0 : Int32)), .val (.int va), .val (.int vb), .val (.int vc), .val (.int vd), .val (.ref b101), .val (.long (0 : Int64)), .second, .unset, .unset] [])) _
    refine own_st (fun _ k => XS.iload X101.here hx rfl (hb hby at_54) rfl k) ?_
    show own_Goes p e below (T101.setTop (mkF m 56 #[.val (.int p1), .val (.int p2), .val (.int p3), .val (.int p4), .val (.int p5), .val (.int (0 : Int32)), .val (.int va), .val (.int vb), .val (.int vc), .val (.int vd), .val (.ref b101), .val (.long (0 : Int64)), .second, .unset, .unset] [(.int (0 : Int32))])) _
    refine own_st (fun _ k => XS.ifYes X101.here hx rfl (pc0 := 56) (pc' := 78) rfl (hb hby at_56) rfl ((if0 _ _).trans (flt (by decide : ¬ ((0 : Int32) < (0 : Int32)))).2.2.2) (by decide) (by decide) k) ?_
    show own_Goes p e below (T101.setTop (mkF m 78 #[.val (.int p1), .val (.int p2), .val (.int p3), .val (.int p4), .val (.int p5), .val (.int (0 : Int32)), .val (.int va), .val (.int vb), .val (.int vc), .val (.int vd), .val (.ref b101), .val (.long (0 : Int64)), .second, .unset, .unset] [])) _
    refine own_st (fun _ k => XS.iload X101.here hx rfl (hb hby at_78) rfl k) ?_
    show own_Goes p e below (T101.setTop (mkF m 80 #[.val (.int p1), .val (.int p2), .val (.int p3), .val (.int p4), .val (.int p5), .val (.int (0 : Int32)), .val (.int va), .val (.int vb), .val (.int vc), .val (.int vd), .val (.ref b101), .val (.long (0 : Int64)), .second, .unset, .unset] [(.int (0 : Int32))])) _
    refine own_st (fun _ k => XS.iconst X101.here hx rfl (hb hby at_80) k) ?_
    show own_Goes p e below (T101.setTop (mkF m 81 #[.val (.int p1), .val (.int p2), .val (.int p3), .val (.int p4), .val (.int p5), .val (.int (0 : Int32)), .val (.int va), .val (.int vb), .val (.int vc), .val (.int vd), .val (.ref b101), .val (.long (0 : Int64)), .second, .unset, .unset] [(.int (1 : Int32)), (.int (0 : Int32))])) _
    refine own_st (fun _ k => XS.icmpYes X101.here hx rfl (pc0 := 81) (pc' := 103) rfl (hb hby at_81) rfl (flt (by decide : ¬ ((1 : Int32) < (0 : Int32)))).2.2.2 (by decide) (by decide) k) ?_
    show own_Goes p e below (T101.setTop (mkF m 103 #[.val (.int p1), .val (.int p2), .val (.int p3), .val (.int p4), .val (.int p5), .val (.int (0 : Int32)), .val (.int va), .val (.int vb), .val (.int vc), .val (.int vd), .val (.ref b101), .val (.long (0 : Int64)), .second, .unset, .unset] [])) _
    refine own_st (fun _ k => XS.iload X101.here hx rfl (hb hby at_103) rfl k) ?_
    show own_Goes p e below (T101.setTop (mkF m 105 #[.val (.int p1), .val (.int p2), .val (.int p3), .val (.int p4), .val (.int p5), .val (.int (0 : Int32)), .val (.int va), .val (.int vb), .val (.int vc), .val (.int vd), .val (.ref b101), .val (.long (0 : Int64)), .second, .unset, .unset] [(.int (0 : Int32))])) _
    refine own_st (fun _ k => XS.iconst X101.here hx rfl (hb hby at_105) k) ?_
    show own_Goes p e below (T101.setTop (mkF m 106 #[.val (.int p1), .val (.int p2), .val (.int p3), .val (.int p4), .val (.int p5), .val (.int (0 : Int32)), .val (.int va), .val (.int vb), .val (.int vc), .val (.int vd), .val (.ref b101), .val (.long (0 : Int64)), .second, .unset, .unset] [(.int (2 : Int32)), (.int (0 : Int32))])) _
    refine own_st (fun _ k => XS.icmpYes X101.here hx rfl (pc0 := 106) (pc' := 128) rfl (hb hby at_106) rfl (flt (by decide : ¬ ((2 : Int32) < (0 : Int32)))).2.2.2 (by decide) (by decide) k) ?_
    show own_Goes p e below (T101.setTop (mkF m 128 #[.val (.int p1), .val (.int p2), .val (.int p3), .val (.int p4), .val (.int p5), .val (.int (0 : Int32)), .val (.int va), .val (.int vb), .val (.int vc), .val (.int vd), .val (.ref b101), .val (.long (0 : Int64)), .second, .unset, .unset] [])) _
    refine own_st (fun _ k => XS.iload X101.here hx rfl (hb hby at_128) rfl k) ?_
    show own_Goes p e below (T101.setTop (mkF m 130 #[.val (.int p1), .val (.int p2), .val (.int p3), .val (.int p4), .val (.int p5), .val (.int (0 : Int32)), .val (.int va), .val (.int vb), .val (.int vc), .val (.int vd), .val (.ref b101), .val (.long (0 : Int64)), .second, .unset, .unset] [(.int (0 : Int32))])) _
    refine own_st (fun _ k => XS.iconst X101.here hx rfl (hb hby at_130) k) ?_
    show own_Goes p e below (T101.setTop (mkF m 131 #[.val (.int p1), .val (.int p2), .val (.int p3), .val (.int p4), .val (.int p5), .val (.int (0 : Int32)), .val (.int va), .val (.int vb), .val (.int vc), .val (.int vd), .val (.ref b101), .val (.long (0 : Int64)), .second, .unset, .unset] [(.int (3 : Int32)), (.int (0 : Int32))])) _
    refine own_st (fun _ k => XS.icmpYes X101.here hx rfl (pc0 := 131) (pc' := 153) rfl (hb hby at_131) rfl (flt (by decide : ¬ ((3 : Int32) < (0 : Int32)))).2.2.2 (by decide) (by decide) k) ?_
    show own_Goes p e below (T101.setTop (mkF m 153 #[.val (.int p1), .val (.int p2), .val (.int p3), .val (.int p4), .val (.int p5), .val (.int (0 : Int32)), .val (.int va), .val (.int vb), .val (.int vc), .val (.int vd), .val (.ref b101), .val (.long (0 : Int64)), .second, .unset, .unset] [])) _
    have hL0 : (0 : Int64).toInt = 0 := by decide
    have hLd : own_DI (0) (FP.l2d (0 : Int64)) := by rw [← hL0]; exact own_di_l2d (by rw [hL0];  omega)
    refine own_st (fun _ k => XS.aload X101.here hx rfl (hb hby at_153) rfl rfl k) ?_
    show own_Goes p e below (T101.setTop (mkF m 155 #[.val (.int p1), .val (.int p2), .val (.int p3), .val (.int p4), .val (.int p5), .val (.int (0 : Int32)), .val (.int va), .val (.int vb), .val (.int vc), .val (.int vd), .val (.ref b101), .val (.long (0 : Int64)), .second, .unset, .unset] [(.ref b101)])) _
    have f103 := (Nat.le_trans Z0 E101.1)
    obtain ⟨_, T102, h102, L102, X102, e102, ⟨r0, rfl, Dr, rfl, hh102⟩, st102⟩ := own_callS (argsL := [(.ref b101)]) (rest := []) (pc := 155) (W := 0) (Ls := #[.val (.int p1), .val (.int p2), .val (.int p3), .val (.int p4), .val (.int p5), .val (.int (0 : Int32)), .val (.int va), .val (.int vb), .val (.int vc), .val (.int vd), .val (.ref b101), .val (.long (0 : Int64)), .second, .unset, .unset]) (S := [(.ref b101)]) X101 hx hZ hown (hw _ (List.mem_of_getElem? (i := 1) rfl)) (hw _ (List.mem_of_getElem? (i := 2) rfl)) (hw _ (List.mem_of_getElem? (i := 3) rfl)) (hw _ (List.mem_of_getElem? (i := 4) rfl)) (by decide) (rm10 l Z a0 hw [] b101 k101   h101 n0 f103 V_b101 ) (by decide) (by decide) e101 (by rw [hml]; rfl) (lenOf pd___D_D rfl) rfl (Nat.le_of_eq rfl) (hb hby at_155) (by decide) (by decide)
    refine own_st st102 ?_
    show own_Goes p e below (T102.setTop (mkF m 158 #[.val (.int p1), .val (.int p2), .val (.int p3), .val (.int p4), .val (.int p5), .val (.int (0 : Int32)), .val (.int va), .val (.int vb), .val (.int vc), .val (.int vd), .val (.ref b101), .val (.long (0 : Int64)), .second, .unset, .unset] [(.double r0)])) _
    refine own_st (fun _ k => own_dstore X102.here hx rfl (hb hby at_158) rfl (l' := #[.val (.int p1), .val (.int p2), .val (.int p3), .val (.int p4), .val (.int p5), .val (.int (0 : Int32)), .val (.int va), .val (.int vb), .val (.int vc), .val (.int vd), .val (.ref b101), .val (.long (0 : Int64)), .second, .val (.double r0), .second]) rfl k) ?_
    show own_Goes p e below (T102.setTop (mkF m 160 #[.val (.int p1), .val (.int p2), .val (.int p3), .val (.int p4), .val (.int p5), .val (.int (0 : Int32)), .val (.int va), .val (.int vb), .val (.int vc), .val (.int vd), .val (.ref b101), .val (.long (0 : Int64)), .second, .val (.double r0), .second] [])) _
    refine own_st (fun _ k => XT.dload X102.here hx rfl (hb hby at_160) rfl k) ?_
    show own_Goes p e below (T102.setTop (mkF m 162 #[.val (.int p1), .val (.int p2), .val (.int p3), .val (.int p4), .val (.int p5), .val (.int (0 : Int32)), .val (.int va), .val (.int vb), .val (.int vc), .val (.int vd), .val (.ref b101), .val (.long (0 : Int64)), .second, .val (.double r0), .second] [(.double r0)])) _
    refine own_st (fun _ k => XT.lload X102.here hx rfl (hb hby at_162) rfl k) ?_
    show own_Goes p e below (T102.setTop (mkF m 164 #[.val (.int p1), .val (.int p2), .val (.int p3), .val (.int p4), .val (.int p5), .val (.int (0 : Int32)), .val (.int va), .val (.int vb), .val (.int vc), .val (.int vd), .val (.ref b101), .val (.long (0 : Int64)), .second, .val (.double r0), .second] [(.long (0 : Int64)), (.double r0)])) _
    refine own_st (fun _ k => own_l2d X102.here hx rfl (hb hby at_164) rfl k) ?_
    show own_Goes p e below (T102.setTop (mkF m 165 #[.val (.int p1), .val (.int p2), .val (.int p3), .val (.int p4), .val (.int p5), .val (.int (0 : Int32)), .val (.int va), .val (.int vb), .val (.int vc), .val (.int vd), .val (.ref b101), .val (.long (0 : Int64)), .second, .val (.double r0), .second] [(.double (FP.l2d (0 : Int64))), (.double r0)])) _
    refine own_st (fun _ k => own_dcmp (o := .eq) X102.here hx rfl (hb hby at_165) rfl (by rw [own_di_cmp Dr hLd]; exact congrArg some (Jvm.FP.Core.compare_self_int _)) k) ?_
    show own_Goes p e below (T102.setTop (mkF m 166 #[.val (.int p1), .val (.int p2), .val (.int p3), .val (.int p4), .val (.int p5), .val (.int (0 : Int32)), .val (.int va), .val (.int vb), .val (.int vc), .val (.int vd), .val (.ref b101), .val (.long (0 : Int64)), .second, .val (.double r0), .second] [(.int (own_ord .eq))])) _
    refine own_st (fun _ k => XS.ifNo X102.here hx rfl (hb hby at_166) rfl ((if0 _ _).trans (teq (by decide : (own_ord .eq) = (0 : Int32))).2) k) ?_
    show own_Goes p e below (T102.setTop (mkF m 169 #[.val (.int p1), .val (.int p2), .val (.int p3), .val (.int p4), .val (.int p5), .val (.int (0 : Int32)), .val (.int va), .val (.int vb), .val (.int vc), .val (.int vd), .val (.ref b101), .val (.long (0 : Int64)), .second, .val (.double r0), .second] [])) _
    refine own_st (fun _ k => XS.iconst X102.here hx rfl (hb hby at_169) k) ?_
    show own_Goes p e below (T102.setTop (mkF m 170 #[.val (.int p1), .val (.int p2), .val (.int p3), .val (.int p4), .val (.int p5), .val (.int (0 : Int32)), .val (.int va), .val (.int vb), .val (.int vc), .val (.int vd), .val (.ref b101), .val (.long (0 : Int64)), .second, .val (.double r0), .second] [(.int (1 : Int32))])) _
    refine own_st (fun _ k => XS.goto X102.here hx rfl (pc0 := 170) (pc' := 174) rfl (hb hby at_170) (by decide) (by decide) k) ?_
    show own_Goes p e below (T102.setTop (mkF m 174 #[.val (.int p1), .val (.int p2), .val (.int p3), .val (.int p4), .val (.int p5), .val (.int (0 : Int32)), .val (.int va), .val (.int vb), .val (.int vc), .val (.int vd), .val (.ref b101), .val (.long (0 : Int64)), .second, .val (.double r0), .second] [(.int (1 : Int32))])) _
    exact own_retN (t := .boolean) (z' := (1 : Int32)) X102 hx hlk hret (by simp) (by decide) (hb hby at_174) (by decide) (by decide) (e102.trans hh102) ⟨rfl, N0⟩
  · show own_Goes p e below (s₁.setTop (mkF m 6 #[.val (.int p1), .val (.int p2), .val (.int p3), .val (.int p4), .val (.int p5), .unset, .unset, .unset, .unset, .unset, .unset, .unset, .unset, .unset, .unset] [(.int (1 : Int32))])) _
    refine own_st (fun _ k => XS.istore X0.here hx rfl (hb hby at_6) rfl (l' := #[.val (.int p1), .val (.int p2), .val (.int p3), .val (.int p4), .val (.int p5), .val (.int (1 : Int32)), .unset, .unset, .unset, .unset, .unset, .unset, .unset, .unset, .unset]) rfl k) ?_
    show own_Goes p e below (s₁.setTop (mkF m 8 #[.val (.int p1), .val (.int p2), .val (.int p3), .val (.int p4), .val (.int p5), .val (.int (1 : Int32)), .unset, .unset, .unset, .unset, .unset, .unset, .unset, .unset, .unset] [])) _
    refine own_st (fun _ k => XS.iloadN X0.here hx rfl (hb hby at_8) rfl k) ?_
    show own_Goes p e below (s₁.setTop (mkF m 9 #[.val (.int p1), .val (.int p2), .val (.int p3), .val (.int p4), .val (.int p5), .val (.int (1 : Int32)), .unset, .unset, .unset, .unset, .unset, .unset, .unset, .unset, .unset] [(.int p2)])) _
    refine own_st (fun _ k => XS.bipush X0.here hx rfl (hb hby at_9) k) ?_
    show own_Goes p e below (s₁.setTop (mkF m 11 #[.val (.int p1), .val (.int p2), .val (.int p3), .val (.int p4), .val (.int p5), .val (.int (1 : Int32)), .unset, .unset, .unset, .unset, .unset, .unset, .unset, .unset, .unset] [(.int (6 : Int32)), (.int p2)])) _
    refine own_st (fun _ k => XT.ishl X0.here hx rfl (hb hby at_11) rfl k) ?_
    show own_Goes p e below (s₁.setTop (mkF m 12 #[.val (.int p1), .val (.int p2), .val (.int p3), .val (.int p4), .val (.int p5), .val (.int (1 : Int32)), .unset, .unset, .unset, .unset, .unset, .unset, .unset, .unset, .unset] [(.int (p2 <<< ((6 : Int32) &&& 31)))])) _
    refine own_st (fun _ k => XS.bipush X0.here hx rfl (hb hby at_12) k) ?_
    show own_Goes p e below (s₁.setTop (mkF m 14 #[.val (.int p1), .val (.int p2), .val (.int p3), .val (.int p4), .val (.int p5), .val (.int (1 : Int32)), .unset, .unset, .unset, .unset, .unset, .unset, .unset, .unset, .unset] [(.int (6 : Int32)), (.int (p2 <<< ((6 : Int32) &&& 31)))])) _
    refine own_st (fun _ k => XT.ishr X0.here hx rfl (hb hby at_14) rfl k) ?_
    show own_Goes p e below (s₁.setTop (mkF m 15 #[.val (.int p1), .val (.int p2), .val (.int p3), .val (.int p4), .val (.int p5), .val (.int (1 : Int32)), .unset, .unset, .unset, .unset, .unset, .unset, .unset, .unset, .unset] [(.int ((p2 <<< ((6 : Int32) &&& 31)) >>> ((6 : Int32) &&& 31)))])) _
    obtain ⟨va, he_va, B_va⟩ := own_b26 p2
    rw [he_va]
    show own_Goes p e below (s₁.setTop (mkF m 15 #[.val (.int p1), .val (.int p2), .val (.int p3), .val (.int p4), .val (.int p5), .val (.int (1 : Int32)), .unset, .unset, .unset, .unset, .unset, .unset, .unset, .unset, .unset] [(.int va)])) _
    refine own_st (fun _ k => XS.istore X0.here hx rfl (hb hby at_15) rfl (l' := #[.val (.int p1), .val (.int p2), .val (.int p3), .val (.int p4), .val (.int p5), .val (.int (1 : Int32)), .val (.int va), .unset, .unset, .unset, .unset, .unset, .unset, .unset, .unset]) rfl k) ?_
    show own_Goes p e below (s₁.setTop (mkF m 17 #[.val (.int p1), .val (.int p2), .val (.int p3), .val (.int p4), .val (.int p5), .val (.int (1 : Int32)), .val (.int va), .unset, .unset, .unset, .unset, .unset, .unset, .unset, .unset] [])) _
    refine own_st (fun _ k => XS.iloadN X0.here hx rfl (hb hby at_17) rfl k) ?_
    show own_Goes p e below (s₁.setTop (mkF m 18 #[.val (.int p1), .val (.int p2), .val (.int p3), .val (.int p4), .val (.int p5), .val (.int (1 : Int32)), .val (.int va), .unset, .unset, .unset, .unset, .unset, .unset, .unset, .unset] [(.int p3)])) _
    refine own_st (fun _ k => XS.bipush X0.here hx rfl (hb hby at_18) k) ?_
    show own_Goes p e below (s₁.setTop (mkF m 20 #[.val (.int p1), .val (.int p2), .val (.int p3), .val (.int p4), .val (.int p5), .val (.int (1 : Int32)), .val (.int va), .unset, .unset, .unset, .unset, .unset, .unset, .unset, .unset] [(.int (6 : Int32)), (.int p3)])) _
    refine own_st (fun _ k => XT.ishl X0.here hx rfl (hb hby at_20) rfl k) ?_
    show own_Goes p e below (s₁.setTop (mkF m 21 #[.val (.int p1), .val (.int p2), .val (.int p3), .val (.int p4), .val (.int p5), .val (.int (1 : Int32)), .val (.int va), .unset, .unset, .unset, .unset, .unset, .unset, .unset, .unset] [(.int (p3 <<< ((6 : Int32) &&& 31)))])) _
    refine own_st (fun _ k => XS.bipush X0.here hx rfl (hb hby at_21) k) ?_
    show own_Goes p e below (s₁.setTop (mkF m 23 #[.val (.int p1), .val (.int p2), .val (.int p3), .val (.int p4), .val (.int p5), .val (.int (1 : Int32)), .val (.int va), .unset, .unset, .unset, .unset, .unset, .unset, .unset, .unset] [(.int (6 : Int32)), (.int (p3 <<< ((6 : Int32) &&& 31)))])) _
    refine own_st (fun _ k => XT.ishr X0.here hx rfl (hb hby at_23) rfl k) ?_
    show own_Goes p e below (s₁.setTop (mkF m 24 #[.val (.int p1), .val (.int p2), .val (.int p3), .val (.int p4), .val (.int p5), .val (.int (1 : Int32)), .val (.int va), .unset, .unset, .unset, .unset, .unset, .unset, .unset, .unset] [(.int ((p3 <<< ((6 : Int32) &&& 31)) >>> ((6 : Int32) &&& 31)))])) _
    obtain ⟨vb, he_vb, B_vb⟩ := own_b26 p3
    rw [he_vb]
    show own_Goes p e below (s₁.setTop (mkF m 24 #[.val (.int p1), .val (.int p2), .val (.int p3), .val (.int p4), .val (.int p5), .val (.int (1 : Int32)), .val (.int va), .unset, .unset, .unset, .unset, .unset, .unset, .unset, .unset] [(.int vb)])) _
    refine own_st (fun _ k => XS.istore X0.here hx rfl (hb hby at_24) rfl (l' := #[.val (.int p1), .val (.int p2), .val (.int p3), .val (.int p4), .val (.int p5), .val (.int (1 : Int32)), .val (.int va), .val (.int vb), .unset, .unset, .unset, .unset, .unset, .unset, .unset]) rfl k) ?_
    show own_Goes p e below (s₁.setTop (mkF m 26 #[.val (.int p1), .val (.int p2), .val (.int p3), .val (.int p4), .val (.int p5), .val (.int (1 : Int32)), .val (.int va), .val (.int vb), .unset, .unset, .unset, .unset, .unset, .unset, .unset] [])) _
    refine own_st (fun _ k => XS.iloadN X0.here hx rfl (hb hby at_26) rfl k) ?_
    show own_Goes p e below (s₁.setTop (mkF m 27 #[.val (.int p1), .val (.int p2), .val (.int p3), .val (.int p4), .val (.int p5), .val (.int (1 : Int32)), .val (.int va), .val (.int vb), .unset, .unset, .unset, .unset, .unset, .unset, .unset] [(.int p4)])) _
    refine own_st (fun _ k => XS.bipush X0.here hx rfl (hb hby at_27) k) ?_
    show own_Goes p e below (s₁.setTop (mkF m 29 #[.val (.int p1), .val (.int p2), .val (.int p3), .val (.int p4), .val (.int p5), .val (.int (1 : Int32)), .val (.int va), .val (.int vb), .unset, .unset, .unset, .unset, .unset, .unset, .unset] [(.int (6 : Int32)), (.int p4)])) _
    refine own_st (fun _ k => XT.ishl X0.here hx rfl (hb hby at_29) rfl k) ?_
    show own_Goes p e below (s₁.setTop (mkF m 30 #[.val (.int p1), .val (.int p2), .val (.int p3), .val (.int p4), .val (.int p5), .val (.int (1 : Int32)), .val (.int va), .val (.int vb), .unset, .unset, .unset, .unset, .unset, .unset, .unset] [(.int (p4 <<< ((6 : Int32) &&& 31)))])) _
    refine own_st (fun _ k => XS.bipush X0.here hx rfl (hb hby at_30) k) ?_
    show own_Goes p e below (s₁.setTop (mkF m 32 #[.val (.int p1), .val (.int p2), .val (.int p3), .val (.int p4), .val (.int p5), .val (.int (1 : Int32)), .val (.int va), .val (.int vb), .unset, .unset, .unset, .unset, .unset, .unset, .unset] [(.int (6 : Int32)), (.int (p4 <<< ((6 : Int32) &&& 31)))])) _
    refine own_st (fun _ k => XT.ishr X0.here hx rfl (hb hby at_32) rfl k) ?_
    show own_Goes p e below (s₁.setTop (mkF m 33 #[.val (.int p1), .val (.int p2), .val (.int p3), .val (.int p4), .val (.int p5), .val (.int (1 : Int32)), .val (.int va), .val (.int vb), .unset, .unset, .unset, .unset, .unset, .unset, .unset] [(.int ((p4 <<< ((6 : Int32) &&& 31)) >>> ((6 : Int32) &&& 31)))])) _
    obtain ⟨vc, he_vc, B_vc⟩ := own_b26 p4
    rw [he_vc]
    show own_Goes p e below (s₁.setTop (mkF m 33 #[.val (.int p1), .val (.int p2), .val (.int p3), .val (.int p4), .val (.int p5), .val (.int (1 : Int32)), .val (.int va), .val (.int vb), .unset, .unset, .unset, .unset, .unset, .unset, .unset] [(.int vc)])) _
    refine own_st (fun _ k => XS.istore X0.here hx rfl (hb hby at_33) rfl (l' := #[.val (.int p1), .val (.int p2), .val (.int p3), .val (.int p4), .val (.int p5), .val (.int (1 : Int32)), .val (.int va), .val (.int vb), .val (.int vc), .unset, .unset, .unset, .unset, .unset, .unset]) rfl k) ?_
    show own_Goes p e below (s₁.setTop (mkF m 35 #[.val (.int p1), .val (.int p2), .val (.int p3), .val (.int p4), .val (.int p5), .val (.int (1 : Int32)), .val (.int va), .val (.int vb), .val (.int vc), .unset, .unset, .unset, .unset, .unset, .unset] [])) _
    refine own_st (fun _ k => XS.iload X0.here hx rfl (hb hby at_35) rfl k) ?_
    show own_Goes p e below (s₁.setTop (mkF m 37 #[.val (.int p1), .val (.int p2), .val (.int p3), .val (.int p4), .val (.int p5), .val (.int (1 : Int32)), .val (.int va), .val (.int vb), .val (.int vc), .unset, .unset, .unset, .unset, .unset, .unset] [(.int p5)])) _
    refine own_st (fun _ k => XS.bipush X0.here hx rfl (hb hby at_37) k) ?_
    show own_Goes p e below (s₁.setTop (mkF m 39 #[.val (.int p1), .val (.int p2), .val (.int p3), .val (.int p4), .val (.int p5), .val (.int (1 : Int32)), .val (.int va), .val (.int vb), .val (.int vc), .unset, .unset, .unset, .unset, .unset, .unset] [(.int (6 : Int32)), (.int p5)])) _
    refine own_st (fun _ k => XT.ishl X0.here hx rfl (hb hby at_39) rfl k) ?_
    show own_Goes p e below (s₁.setTop (mkF m 40 #[.val (.int p1), .val (.int p2), .val (.int p3), .val (.int p4), .val (.int p5), .val (.int (1 : Int32)), .val (.int va), .val (.int vb), .val (.int vc), .unset, .unset, .unset, .unset, .unset, .unset] [(.int (p5 <<< ((6 : Int32) &&& 31)))])) _
    refine own_st (fun _ k => XS.bipush X0.here hx rfl (hb hby at_40) k) ?_
    show own_Goes p e below (s₁.setTop (mkF m 42 #[.val (.int p1), .val (.int p2), .val (.int p3), .val (.int p4), .val (.int p5), .val (.int (1 : Int32)), .val (.int va), .val (.int vb), .val (.int vc), .unset, .unset, .unset, .unset, .unset, .unset] [(.int (6 : Int32)), (.int (p5 <<< ((6 : Int32) &&& 31)))])) _
    refine own_st (fun _ k => XT.ishr X0.here hx rfl (hb hby at_42) rfl k) ?_
    show own_Goes p e below (s₁.setTop (mkF m 43 #[.val (.int p1), .val (.int p2), .val (.int p3), .val (.int p4), .val (.int p5), .val (.int (1 : Int32)), .val (.int va), .val (.int vb), .val (.int vc), .unset, .unset, .unset, .unset, .unset, .unset] [(.int ((p5 <<< ((6 : Int32) &&& 31)) >>> ((6 : Int32) &&& 31)))])) _
    obtain ⟨vd, he_vd, B_vd⟩ := own_b26 p5
    rw [he_vd]
    show own_Goes p e below (s₁.setTop (mkF m 43 #[.val (.int p1), .val (.int p2), .val (.int p3), .val (.int p4), .val (.int p5), .val (.int (1 : Int32)), .val (.int va), .val (.int vb), .val (.int vc), .unset, .unset, .unset, .unset, .unset, .unset] [(.int vd)])) _
    refine own_st (fun _ k => XS.istore X0.here hx rfl (hb hby at_43) rfl (l' := #[.val (.int p1), .val (.int p2), .val (.int p3), .val (.int p4), .val (.int p5), .val (.int (1 : Int32)), .val (.int va), .val (.int vb), .val (.int vc), .val (.int vd), .unset, .unset, .unset, .unset, .unset]) rfl k) ?_
    show own_Goes p e below (s₁.setTop (mkF m 45 #[.val (.int p1), .val (.int p2), .val (.int p3), .val (.int p4), .val (.int p5), .val (.int (1 : Int32)), .val (.int va), .val (.int vb), .val (.int vc), .val (.int vd), .unset, .unset, .unset, .unset, .unset] [])) _
    refine own_st (fun _ k => XS.iload X0.here hx rfl (hb hby at_45) rfl k) ?_
    show own_Goes p e below (s₁.setTop (mkF m 47 #[.val (.int p1), .val (.int p2), .val (.int p3), .val (.int p4), .val (.int p5), .val (.int (1 : Int32)), .val (.int va), .val (.int vb), .val (.int vc), .val (.int vd), .unset, .unset, .unset, .unset, .unset] [(.int (1 : Int32))])) _
    obtain ⟨T104, h104, k104, X104, e104, E104, A104, st104⟩ := newP X0 hx hZ (hw _ (List.mem_of_getElem? (i := 0) rfl)) e0 (g := (mkF m 47 #[.val (.int p1), .val (.int p2), .val (.int p3), .val (.int p4), .val (.int p5), .val (.int (1 : Int32)), .val (.int va), .val (.int vb), .val (.int vc), .val (.int vd), .unset, .unset, .unset, .unset, .unset] [(.int (1 : Int32))])) rfl (hb hby at_47) rfl (by decide) (cap := 1) (by decide) (by decide) (by decide) (by decide)
    obtain ⟨b104, g104⟩ : ∃ z, z = h0.size := ⟨_, rfl⟩
    rw [← g104] at A104 st104
    have g_b104 : n0 ≤ b104 := Nat.le_trans Z0 (Nat.le_of_eq g104.symm)
    have V_b104 : Arv Z h104 b104 k104 .double (1 : Int32) [(.double 0)] (.double 0) := Arv.pad (Arv.new A104 (by decide)) (pad_rep [] _ 1)
    refine own_st st104 ?_
    show own_Goes p e below (T104.setTop (mkF m 49 #[.val (.int p1), .val (.int p2), .val (.int p3), .val (.int p4), .val (.int p5), .val (.int (1 : Int32)), .val (.int va), .val (.int vb), .val (.int vc), .val (.int vd), .unset, .unset, .unset, .unset, .unset] [(.ref b104)])) _
    refine own_st (fun _ k => XS.astore X104.here hx rfl (hb hby at_49) rfl rfl (l' := #[.val (.int p1), .val (.int p2), .val (.int p3), .val (.int p4), .val (.int p5), .val (.int (1 : Int32)), .val (.int va), .val (.int vb), .val (.int vc), .val (.int vd), .val (.ref b104), .unset, .unset, .unset, .unset]) rfl k) ?_
    show own_Goes p e below (T104.setTop (mkF m 51 #[.val (.int p1), .val (.int p2), .val (.int p3), .val (.int p4), .val (.int p5), .val (.int (1 : Int32)), .val (.int va), .val (.int vb), .val (.int vc), .val (.int vd), .val (.ref b104), .unset, .unset, .unset, .unset] [])) _
    refine own_st (fun _ k => XT.lconst X104.here hx rfl (hb hby at_51) k) ?_
    show own_Goes p e below (T104.setTop (mkF m 52 #[.val (.int p1), .val (.int p2), .val (.int p3), .val (.int p4), .val (.int p5), .val (.int (1 : Int32)), .val (.int va), .val (.int vb), .val (.int vc), .val (.int vd), .val (.ref b104), .unset, .unset, .unset, .unset] [(.long (0 : Int64))])) _
    refine own_st (fun _ k => XT.lstore X104.here hx rfl (hb hby at_52) rfl (l' := #[.val (.int p1), .val (.int p2), .val (.int p3), .val (.int p4), .val (.int p5), .val (.int (1 : Int32)), .val (.int va), .val (.int vb), .val (.int vc), .val (.int vd), .val (.ref b104), .val (.long (0 : Int64)), .second, .unset, .unset]) rfl k) ?_
    show own_Goes p e below (T104.setTop (mkF m 54 #[.val (.int p1), .val (.int p2), .val (.int p3), .val (.int p4), .val (.int p5), .val (.int (1 : Int32)), .val (.int va), .val (.int vb), .val (.int vc), .val (.int vd), .val (.ref b104), .val (.long (0 : Int64)), .second, .unset, .unset] [])) _
    refine own_st (fun _ k => XS.iload X104.here hx rfl (hb hby at_54) rfl k) ?_
    show own_Goes p e below (T104.setTop (mkF m 56 #[.val (.int p1), .val (.int p2), .val (.int p3), .val (.int p4), .val (.int p5), .val (.int (1 : Int32)), .val (.int va), .val (.int vb), .val (.int vc), .val (.int vd), .val (.ref b104), .val (.long (0 : Int64)), .second, .unset, .unset] [(.int (1 : Int32))])) _
    refine own_st (fun _ k => XS.ifNo X104.here hx rfl (hb hby at_56) rfl ((if0 _ _).trans (tlt (by decide : (0 : Int32) < (1 : Int32))).2.2.2) k) ?_
    show own_Goes p e below (T104.setTop (mkF m 59 #[.val (.int p1), .val (.int p2), .val (.int p3), .val (.int p4), .val (.int p5), .val (.int (1 : Int32)), .val (.int va), .val (.int vb), .val (.int vc), .val (.int vd), .val (.ref b104), .val (.long (0 : Int64)), .second, .unset, .unset] [])) _
    refine own_st (fun _ k => XS.aload X104.here hx rfl (hb hby at_59) rfl rfl k) ?_
    show own_Goes p e below (T104.setTop (mkF m 61 #[.val (.int p1), .val (.int p2), .val (.int p3), .val (.int p4), .val (.int p5), .val (.int (1 : Int32)), .val (.int va), .val (.int vb), .val (.int vc), .val (.int vd), .val (.ref b104), .val (.long (0 : Int64)), .second, .unset, .unset] [(.ref b104)])) _
    refine own_st (fun _ k => XS.iconst X104.here hx rfl (hb hby at_61) k) ?_
    show own_Goes p e below (T104.setTop (mkF m 62 #[.val (.int p1), .val (.int p2), .val (.int p3), .val (.int p4), .val (.int p5), .val (.int (1 : Int32)), .val (.int va), .val (.int vb), .val (.int vc), .val (.int vd), .val (.ref b104), .val (.long (0 : Int64)), .second, .unset, .unset] [(.int (0 : Int32)), (.ref b104)])) _
    refine own_st (fun _ k => XS.iload X104.here hx rfl (hb hby at_62) rfl k) ?_
    show own_Goes p e below (T104.setTop (mkF m 64 #[.val (.int p1), .val (.int p2), .val (.int p3), .val (.int p4), .val (.int p5), .val (.int (1 : Int32)), .val (.int va), .val (.int vb), .val (.int vc), .val (.int vd), .val (.ref b104), .val (.long (0 : Int64)), .second, .unset, .unset] [(.int va), (.int (0 : Int32)), (.ref b104)])) _
    refine own_st (fun _ k => own_i2d X104.here hx rfl (hb hby at_64) rfl k) ?_
    show own_Goes p e below (T104.setTop (mkF m 65 #[.val (.int p1), .val (.int p2), .val (.int p3), .val (.int p4), .val (.int p5), .val (.int (1 : Int32)), .val (.int va), .val (.int vb), .val (.int vc), .val (.int vd), .val (.ref b104), .val (.long (0 : Int64)), .second, .unset, .unset] [(.double (FP.i2d va)), (.int (0 : Int32)), (.ref b104)])) _
    obtain ⟨T105, h105, X105, e105, W105, V105, st105⟩ := own_stD (x := (FP.i2d va)) (pc := 65) (Ls := #[.val (.int p1), .val (.int p2), .val (.int p3), .val (.int p4), .val (.int p5), .val (.int (1 : Int32)), .val (.int va), .val (.int vb), .val (.int vc), .val (.int vd), .val (.ref b104), .val (.long (0 : Int64)), .second, .unset, .unset]) (rest := []) (j := (0 : Int32)) X104 hx hZ e104 V_b104 0 (by decide) (by decide) (Nat.le_of_ble_eq_true rfl) (hb hby at_65)
    have V105 : Arv Z h105 b104 k104 .double (1 : Int32) [(.double (FP.i2d va))] (.double 0) := V105
    have N105 := Fr.snoc X105 N0 g_b104
    refine own_st st105 ?_
    show own_Goes p e below (T105.setTop (mkF m 66 #[.val (.int p1), .val (.int p2), .val (.int p3), .val (.int p4), .val (.int p5), .val (.int (1 : Int32)), .val (.int va), .val (.int vb), .val (.int vc), .val (.int vd), .val (.ref b104), .val (.long (0 : Int64)), .second, .unset, .unset] [])) _
    refine own_st (fun _ k => XT.lload X105.here hx rfl (hb hby at_66) rfl k) ?_
    show own_Goes p e below (T105.setTop (mkF m 68 #[.val (.int p1), .val (.int p2), .val (.int p3), .val (.int p4), .val (.int p5), .val (.int (1 : Int32)), .val (.int va), .val (.int vb), .val (.int vc), .val (.int vd), .val (.ref b104), .val (.long (0 : Int64)), .second, .unset, .unset] [(.long (0 : Int64))])) _
    refine own_st (fun _ k => XS.iload X105.here hx rfl (hb hby at_68) rfl k) ?_
    show own_Goes p e below (T105.setTop (mkF m 70 #[.val (.int p1), .val (.int p2), .val (.int p3), .val (.int p4), .val (.int p5), .val (.int (1 : Int32)), .val (.int va), .val (.int vb), .val (.int vc), .val (.int vd), .val (.ref b104), .val (.long (0 : Int64)), .second, .unset, .unset] [(.int va), (.long (0 : Int64))])) _
    refine own_st (fun _ k => XT.i2l X105.here hx rfl (hb hby at_70) rfl k) ?_
    show own_Goes p e below (T105.setTop (mkF m 71 #[.val (.int p1), .val (.int p2), .val (.int p3), .val (.int p4), .val (.int p5), .val (.int (1 : Int32)), .val (.int va), .val (.int vb), .val (.int vc), .val (.int vd), .val (.ref b104), .val (.long (0 : Int64)), .second, .unset, .unset] [(.long va.toInt64), (.long (0 : Int64))])) _
    refine own_st (fun _ k => XS.iload X105.here hx rfl (hb hby at_71) rfl k) ?_
    show own_Goes p e below (T105.setTop (mkF m 73 #[.val (.int p1), .val (.int p2), .val (.int p3), .val (.int p4), .val (.int p5), .val (.int (1 : Int32)), .val (.int va), .val (.int vb), .val (.int vc), .val (.int vd), .val (.ref b104), .val (.long (0 : Int64)), .second, .unset, .unset] [(.int va), (.long va.toInt64), (.long (0 : Int64))])) _
    refine own_st (fun _ k => XT.i2l X105.here hx rfl (hb hby at_73) rfl k) ?_
    show own_Goes p e below (T105.setTop (mkF m 74 #[.val (.int p1), .val (.int p2), .val (.int p3), .val (.int p4), .val (.int p5), .val (.int (1 : Int32)), .val (.int va), .val (.int vb), .val (.int vc), .val (.int vd), .val (.ref b104), .val (.long (0 : Int64)), .second, .unset, .unset] [(.long va.toInt64), (.long va.toInt64), (.long (0 : Int64))])) _
    refine own_st (fun _ k => XT.lmul X105.here hx rfl (hb hby at_74) rfl k) ?_
    show own_Goes p e below (T105.setTop (mkF m 75 #[.val (.int p1), .val (.int p2), .val (.int p3), .val (.int p4), .val (.int p5), .val (.int (1 : Int32)), .val (.int va), .val (.int vb), .val (.int vc), .val (.int vd), .val (.ref b104), .val (.long (0 : Int64)), .second, .unset, .unset] [(.long (va.toInt64 * va.toInt64)), (.long (0 : Int64))])) _
    refine own_st (fun _ k => XT.ladd X105.here hx rfl (hb hby at_75) rfl k) ?_
    show own_Goes p e below (T105.setTop (mkF m 76 #[.val (.int p1), .val (.int p2), .val (.int p3), .val (.int p4), .val (.int p5), .val (.int (1 : Int32)), .val (.int va), .val (.int vb), .val (.int vc), .val (.int vd), .val (.ref b104), .val (.long (0 : Int64)), .second, .unset, .unset] [(.long ((0 : Int64) + (va.toInt64 * va.toInt64)))])) _
    refine own_st (fun _ k => XT.lstore X105.here hx rfl (hb hby at_76) rfl (l' := #[.val (.int p1), .val (.int p2), .val (.int p3), .val (.int p4), .val (.int p5), .val (.int (1 : Int32)), .val (.int va), .val (.int vb), .val (.int vc), .val (.int vd), .val (.ref b104), .val (.long ((0 : Int64) + (va.toInt64 * va.toInt64))), .second, .unset, .unset]) rfl k) ?_
    show own_Goes p e below (T105.setTop (mkF m 78 #[.val (.int p1), .val (.int p2), .val (.int p3), .val (.int p4), .val (.int p5), .val (.int (1 : Int32)), .val (.int va), .val (.int vb), .val (.int vc), .val (.int vd), .val (.ref b104), .val (.long ((0 : Int64) + (va.toInt64 * va.toInt64))), .second, .unset, .unset] [])) _
    refine own_st (fun _ k => XS.iload X105.here hx rfl (hb hby at_78) rfl k) ?_
    show own_Goes p e below (T105.setTop (mkF m 80 #[.val (.int p1), .val (.int p2), .val (.int p3), .val (.int p4), .val (.int p5), .val (.int (1 : Int32)), .val (.int va), .val (.int vb), .val (.int vc), .val (.int vd), .val (.ref b104), .val (.long ((0 : Int64) + (va.toInt64 * va.toInt64))), .second, .unset, .unset] [(.int (1 : Int32))])) _
    refine own_st (fun _ k => XS.iconst X105.here hx rfl (hb hby at_80) k) ?_
    show own_Goes p e below (T105.setTop (mkF m 81 #[.val (.int p1), .val (.int p2), .val (.int p3), .val (.int p4), .val (.int p5), .val (.int (1 : Int32)), .val (.int va), .val (.int vb), .val (.int vc), .val (.int vd), .val (.ref b104), .val (.long ((0 : Int64) + (va.toInt64 * va.toInt64))), .second, .unset, .unset] [(.int (1 : Int32)), (.int (1 : Int32))])) _
    refine own_st (fun _ k => XS.icmpYes X105.here hx rfl (pc0 := 81) (pc' := 103) rfl (hb hby at_81) rfl (flt (by decide : ¬ ((1 : Int32) < (1 : Int32)))).2.2.2 (by decide) (by decide) k) ?_
    show own_Goes p e below (T105.setTop (mkF m 103 #[.val (.int p1), .val (.int p2), .val (.int p3), .val (.int p4), .val (.int p5), .val (.int (1 : Int32)), .val (.int va), .val (.int vb), .val (.int vc), .val (.int vd), .val (.ref b104), .val (.long ((0 : Int64) + (va.toInt64 * va.toInt64))), .second, .unset, .unset] [])) _
    refine own_st (fun _ k => XS.iload X105.here hx rfl (hb hby at_103) rfl k) ?_
    show own_Goes p e below (T105.setTop (mkF m 105 #[.val (.int p1), .val (.int p2), .val (.int p3), .val (.int p4), .val (.int p5), .val (.int (1 : Int32)), .val (.int va), .val (.int vb), .val (.int vc), .val (.int vd), .val (.ref b104), .val (.long ((0 : Int64) + (va.toInt64 * va.toInt64))), .second, .unset, .unset] [(.int (1 : Int32))])) _
    refine own_st (fun _ k => XS.iconst X105.here hx rfl (hb hby at_105) k) ?_
    show own_Goes p e below (T105.setTop (mkF m 106 #[.val (.int p1), .val (.int p2), .val (.int p3), .val (.int p4), .val (.int p5), .val (.int (1 : Int32)), .val (.int va), .val (.int vb), .val (.int vc), .val (.int vd), .val (.ref b104), .val (.long ((0 : Int64) + (va.toInt64 * va.toInt64))), .second, .unset, .unset] [(.int (2 : Int32)), (.int (1 : Int32))])) _
    refine own_st (fun _ k => XS.icmpYes X105.here hx rfl (pc0 := 106) (pc' := 128) rfl (hb hby at_106) rfl (flt (by decide : ¬ ((2 : Int32) < (1 : Int32)))).2.2.2 (by decide) (by decide) k) ?_
    show own_Goes p e below (T105.setTop (mkF m 128 #[.val (.int p1), .val (.int p2), .val (.int p3), .val (.int p4), .val (.int p5), .val (.int (1 : Int32)), .val (.int va), .val (.int vb), .val (.int vc), .val (.int vd), .val (.ref b104), .val (.long ((0 : Int64) + (va.toInt64 * va.toInt64))), .second, .unset, .unset] [])) _
    refine own_st (fun _ k => XS.iload X105.here hx rfl (hb hby at_128) rfl k) ?_
    show own_Goes p e below (T105.setTop (mkF m 130 #[.val (.int p1), .val (.int p2), .val (.int p3), .val (.int p4), .val (.int p5), .val (.int (1 : Int32)), .val (.int va), .val (.int vb), .val (.int vc), .val (.int vd), .val (.ref b104), .val (.long ((0 : Int64) + (va.toInt64 * va.toInt64))), .second, .unset, .unset] [(.int (1 : Int32))])) _
    refine own_st (fun _ k => XS.iconst X105.here hx rfl (hb hby at_130) k) ?_
    show own_Goes p e below (T105.setTop (mkF m 131 #[.val (.int p1), .val (.int p2), .val (.int p3), .val (.int p4), .val (.int p5), .val (.int (1 : Int32)), .val (.int va), .val (.int vb), .val (.int vc), .val (.int vd), .val (.ref b104), .val (.long ((0 : Int64) + (va.toInt64 * va.toInt64))), .second, .unset, .unset] [(.int (3 : Int32)), (.int (1 : Int32))])) _
    refine own_st (fun _ k => XS.icmpYes X105.here hx rfl (pc0 := 131) (pc' := 153) rfl (hb hby at_131) rfl (flt (by decide : ¬ ((3 : Int32) < (1 : Int32)))).2.2.2 (by decide) (by decide) k) ?_
    show own_Goes p e below (T105.setTop (mkF m 153 #[.val (.int p1), .val (.int p2), .val (.int p3), .val (.int p4), .val (.int p5), .val (.int (1 : Int32)), .val (.int va), .val (.int vb), .val (.int vc), .val (.int vd), .val (.ref b104), .val (.long ((0 : Int64) + (va.toInt64 * va.toInt64))), .second, .unset, .unset] [])) _
    have hL0 : (0 : Int64).toInt = 0 := by decide
    have hL1 : ((0 : Int64) + (va.toInt64 * va.toInt64)).toInt = 0 + va.toInt * va.toInt := own_lsum hL0 (by  omega) (by  omega) B_va
    have hLd : own_DI (0 + va.toInt * va.toInt) (FP.l2d ((0 : Int64) + (va.toInt64 * va.toInt64))) := by rw [← hL1]; exact own_di_l2d (by rw [hL1]; have q0 := own_sq B_va; generalize va.toInt * va.toInt = t0 at *;  omega)
    refine own_st (fun _ k => XS.aload X105.here hx rfl (hb hby at_153) rfl rfl k) ?_
    show own_Goes p e below (T105.setTop (mkF m 155 #[.val (.int p1), .val (.int p2), .val (.int p3), .val (.int p4), .val (.int p5), .val (.int (1 : Int32)), .val (.int va), .val (.int vb), .val (.int vc), .val (.int vd), .val (.ref b104), .val (.long ((0 : Int64) + (va.toInt64 * va.toInt64))), .second, .unset, .unset] [(.ref b104)])) _
    have f107 := (Nat.le_trans (Nat.le_trans Z0 E104.1) (Nat.le_of_eq W105.size.symm))
    obtain ⟨_, T106, h106, L106, X106, e106, ⟨r0, rfl, Dr, rfl, hh106⟩, st106⟩ := own_callS (argsL := [(.ref b104)]) (rest := []) (pc := 155) (W := 0) (Ls := #[.val (.int p1), .val (.int p2), .val (.int p3), .val (.int p4), .val (.int p5), .val (.int (1 : Int32)), .val (.int va), .val (.int vb), .val (.int vc), .val (.int vd), .val (.ref b104), .val (.long ((0 : Int64) + (va.toInt64 * va.toInt64))), .second, .unset, .unset]) (S := [(.ref b104)]) X105 hx hZ hown (hw _ (List.mem_of_getElem? (i := 1) rfl)) (hw _ (List.mem_of_getElem? (i := 2) rfl)) (hw _ (List.mem_of_getElem? (i := 3) rfl)) (hw _ (List.mem_of_getElem? (i := 4) rfl)) (by decide) (rm11 l Z a0 hw [] b104 k104 (FP.i2d va) va.toInt h105 n0 f107 V105 (own_di_i2d va) B_va) (by decide) (by decide) e105 (by rw [hml]; rfl) (lenOf pd___D_D rfl) rfl (Nat.le_of_eq rfl) (hb hby at_155) (by decide) (by decide)
    refine own_st st106 ?_
    show own_Goes p e below (T106.setTop (mkF m 158 #[.val (.int p1), .val (.int p2), .val (.int p3), .val (.int p4), .val (.int p5), .val (.int (1 : Int32)), .val (.int va), .val (.int vb), .val (.int vc), .val (.int vd), .val (.ref b104), .val (.long ((0 : Int64) + (va.toInt64 * va.toInt64))), .second, .unset, .unset] [(.double r0)])) _
    refine own_st (fun _ k => own_dstore X106.here hx rfl (hb hby at_158) rfl (l' := #[.val (.int p1), .val (.int p2), .val (.int p3), .val (.int p4), .val (.int p5), .val (.int (1 : Int32)), .val (.int va), .val (.int vb), .val (.int vc), .val (.int vd), .val (.ref b104), .val (.long ((0 : Int64) + (va.toInt64 * va.toInt64))), .second, .val (.double r0), .second]) rfl k) ?_
    show own_Goes p e below (T106.setTop (mkF m 160 #[.val (.int p1), .val (.int p2), .val (.int p3), .val (.int p4), .val (.int p5), .val (.int (1 : Int32)), .val (.int va), .val (.int vb), .val (.int vc), .val (.int vd), .val (.ref b104), .val (.long ((0 : Int64) + (va.toInt64 * va.toInt64))), .second, .val (.double r0), .second] [])) _
    refine own_st (fun _ k => XT.dload X106.here hx rfl (hb hby at_160) rfl k) ?_
    show own_Goes p e below (T106.setTop (mkF m 162 #[.val (.int p1), .val (.int p2), .val (.int p3), .val (.int p4), .val (.int p5), .val (.int (1 : Int32)), .val (.int va), .val (.int vb), .val (.int vc), .val (.int vd), .val (.ref b104), .val (.long ((0 : Int64) + (va.toInt64 * va.toInt64))), .second, .val (.double r0), .second] [(.double r0)])) _
    refine own_st (fun _ k => XT.lload X106.here hx rfl (hb hby at_162) rfl k) ?_
    show own_Goes p e below (T106.setTop (mkF m 164 #[.val (.int p1), .val (.int p2), .val (.int p3), .val (.int p4), .val (.int p5), .val (.int (1 : Int32)), .val (.int va), .val (.int vb), .val (.int vc), .val (.int vd), .val (.ref b104), .val (.long ((0 : Int64) + (va.toInt64 * va.toInt64))), .second, .val (.double r0), .second] [(.long ((0 : Int64) + (va.toInt64 * va.toInt64))), (.double r0)])) _
    refine own_st (fun _ k => own_l2d X106.here hx rfl (hb hby at_164) rfl k) ?_
    show own_Goes p e below (T106.setTop (mkF m 165 #[.val (.int p1), .val (.int p2), .val (.int p3), .val (.int p4), .val (.int p5), .val (.int (1 : Int32)), .val (.int va), .val (.int vb), .val (.int vc), .val (.int vd), .val (.ref b104), .val (.long ((0 : Int64) + (va.toInt64 * va.toInt64))), .second, .val (.double r0), .second] [(.double (FP.l2d ((0 : Int64) + (va.toInt64 * va.toInt64)))), (.double r0)])) _
    refine own_st (fun _ k => own_dcmp (o := .eq) X106.here hx rfl (hb hby at_165) rfl (by rw [own_di_cmp Dr hLd]; exact congrArg some (Jvm.FP.Core.compare_self_int _)) k) ?_
    show own_Goes p e below (T106.setTop (mkF m 166 #[.val (.int p1), .val (.int p2), .val (.int p3), .val (.int p4), .val (.int p5), .val (.int (1 : Int32)), .val (.int va), .val (.int vb), .val (.int vc), .val (.int vd), .val (.ref b104), .val (.long ((0 : Int64) + (va.toInt64 * va.toInt64))), .second, .val (.double r0), .second] [(.int (own_ord .eq))])) _
    refine own_st (fun _ k => XS.ifNo X106.here hx rfl (hb hby at_166) rfl ((if0 _ _).trans (teq (by decide : (own_ord .eq) = (0 : Int32))).2) k) ?_
    show own_Goes p e below (T106.setTop (mkF m 169 #[.val (.int p1), .val (.int p2), .val (.int p3), .val (.int p4), .val (.int p5), .val (.int (1 : Int32)), .val (.int va), .val (.int vb), .val (.int vc), .val (.int vd), .val (.ref b104), .val (.long ((0 : Int64) + (va.toInt64 * va.toInt64))), .second, .val (.double r0), .second] [])) _
    refine own_st (fun _ k => XS.iconst X106.here hx rfl (hb hby at_169) k) ?_
    show own_Goes p e below (T106.setTop (mkF m 170 #[.val (.int p1), .val (.int p2), .val (.int p3), .val (.int p4), .val (.int p5), .val (.int (1 : Int32)), .val (.int va), .val (.int vb), .val (.int vc), .val (.int vd), .val (.ref b104), .val (.long ((0 : Int64) + (va.toInt64 * va.toInt64))), .second, .val (.double r0), .second] [(.int (1 : Int32))])) _
    refine own_st (fun _ k => XS.goto X106.here hx rfl (pc0 := 170) (pc' := 174) rfl (hb hby at_170) (by decide) (by decide) k) ?_
    show own_Goes p e below (T106.setTop (mkF m 174 #[.val (.int p1), .val (.int p2), .val (.int p3), .val (.int p4), .val (.int p5), .val (.int (1 : Int32)), .val (.int va), .val (.int vb), .val (.int vc), .val (.int vd), .val (.ref b104), .val (.long ((0 : Int64) + (va.toInt64 * va.toInt64))), .second, .val (.double r0), .second] [(.int (1 : Int32))])) _
    exact own_retN (t := .boolean) (z' := (1 : Int32)) X106 hx hlk hret (by simp) (by decide) (hb hby at_174) (by decide) (by decide) (e106.trans hh106) ⟨rfl, N105⟩
  · show own_Goes p e below (s₁.setTop (mkF m 6 #[.val (.int p1), .val (.int p2), .val (.int p3), .val (.int p4), .val (.int p5), .unset, .unset, .unset, .unset, .unset, .unset, .unset, .unset, .unset, .unset] [(.int (2 : Int32))])) _
    refine own_st (fun _ k => XS.istore X0.here hx rfl (hb hby at_6) rfl (l' := #[.val (.int p1), .val (.int p2), .val (.int p3), .val (.int p4), .val (.int p5), .val (.int (2 : Int32)), .unset, .unset, .unset, .unset, .unset, .unset, .unset, .unset, .unset]) rfl k) ?_
    show own_Goes p e below (s₁.setTop (mkF m 8 #[.val (.int p1), .val (.int p2), .val (.int p3), .val (.int p4), .val (.int p5), .val (.int (2 : Int32)), .unset, .unset, .unset, .unset, .unset, .unset, .unset, .unset, .unset] [])) _
    refine own_st (fun _ k => XS.iloadN X0.here hx rfl (hb hby at_8) rfl k) ?_
    show own_Goes p e below (s₁.setTop (mkF m 9 #[.val (.int p1), .val (.int p2), .val (.int p3), .val (.int p4), .val (.int p5), .val (.int (2 : Int32)), .unset, .unset, .unset, .unset, .unset, .unset, .unset, .unset, .unset] [(.int p2)])) _
    refine own_st (fun _ k => XS.bipush X0.here hx rfl (hb hby at_9) k) ?_
    show own_Goes p e below (s₁.setTop (mkF m 11 #[.val (.int p1), .val (.int p2), .val (.int p3), .val (.int p4), .val (.int p5), .val (.int (2 : Int32)), .unset, .unset, .unset, .unset, .unset, .unset, .unset, .unset, .unset] [(.int (6 : Int32)), (.int p2)])) _
    refine own_st (fun _ k => XT.ishl X0.here hx rfl (hb hby at_11) rfl k) ?_
    show own_Goes p e below (s₁.setTop (mkF m 12 #[.val (.int p1), .val (.int p2), .val (.int p3), .val (.int p4), .val (.int p5), .val (.int (2 : Int32)), .unset, .unset, .unset, .unset, .unset, .unset, .unset, .unset, .unset] [(.int (p2 <<< ((6 : Int32) &&& 31)))])) _
    refine own_st (fun _ k => XS.bipush X0.here hx rfl (hb hby at_12) k) ?_
    show own_Goes p e below (s₁.setTop (mkF m 14 #[.val (.int p1), .val (.int p2), .val (.int p3), .val (.int p4), .val (.int p5), .val (.int (2 : Int32)), .unset, .unset, .unset, .unset, .unset, .unset, .unset, .unset, .unset] [(.int (6 : Int32)), (.int (p2 <<< ((6 : Int32) &&& 31)))])) _
    refine own_st (fun _ k => XT.ishr X0.here hx rfl (hb hby at_14) rfl k) ?_
    show own_Goes p e below (s₁.setTop (mkF m 15 #[.val (.int p1), .val (.int p2), .val (.int p3), .val (.int p4), .val (.int p5), .val (.int (2 : Int32)), .unset, .unset, .unset, .unset, .unset, .unset, .unset, .unset, .unset] [(.int ((p2 <<< ((6 : Int32) &&& 31)) >>> ((6 : Int32) &&& 31)))])) _
    obtain ⟨va, he_va, B_va⟩ := own_b26 p2
    rw [he_va]
    show own_Goes p e below (s₁.setTop (mkF m 15 #[.val (.int p1), .val (.int p2), .val (.int p3), .val (.int p4), .val (.int p5), .val (.int (2 : Int32)), .unset, .unset, .unset, .unset, .unset, .unset, .unset, .unset, .unset] [(.int va)])) _
    refine own_st (fun _ k => XS.istore X0.here hx rfl (hb hby at_15) rfl (l' := #[.val (.int p1), .val (.int p2), .val (.int p3), .val (.int p4), .val (.int p5), .val (.int (2 : Int32)), .val (.int va), .unset, .unset, .unset, .unset, .unset, .unset, .unset, .unset]) rfl k) ?_
    show own_Goes p e below (s₁.setTop (mkF m 17 #[.val (.int p1), .val (.int p2), .val (.int p3), .val (.int p4), .val (.int p5), .val (.int (2 : Int32)), .val (.int va), .unset, .unset, .unset, .unset, .unset, .unset, .unset, .unset] [])) _
    refine own_st (fun _ k => XS.iloadN X0.here hx rfl (hb hby at_17) rfl k) ?_
    show own_Goes p e below (s₁.setTop (mkF m 18 #[.val (.int p1), .val (.int p2), .val (.int p3), .val (.int p4), .val (.int p5), .val (.int (2 : Int32)), .val (.int va), .unset, .unset, .unset, .unset, .unset, .unset, .unset, .unset] [(.int p3)])) _
    refine own_st (fun _ k => XS.bipush X0.here hx rfl (hb hby at_18) k) ?_
    show own_Goes p e below (s₁.setTop (mkF m 20 #[.val (.int p1), .val (.int p2), .val (.int p3), .val (.int p4), .val (.int p5), .val (.int (2 : Int32)), .val (.int va), .unset, .unset, .unset, .unset, .unset, .unset, .unset, .unset] [(.int (6 : Int32)), (.int p3)])) _
    refine own_st (fun _ k => XT.ishl X0.here hx rfl (hb hby at_20) rfl k) ?_
    show own_Goes p e below (s₁.setTop (mkF m 21 #[.val (.int p1), .val (.int p2), .val (.int p3), .val (.int p4), .val (.int p5), .val (.int (2 : Int32)), .val (.int va), .unset, .unset, .unset, .unset, .unset, .unset, .unset, .unset] [(.int (p3 <<< ((6 : Int32) &&& 31)))])) _
    refine own_st (fun _ k => XS.bipush X0.here hx rfl (hb hby at_21) k) ?_
    show own_Goes p e below (s₁.setTop (mkF m 23 #[.val (.int p1), .val (.int p2), .val (.int p3), .val (.int p4), .val (.int p5), .val (.int (2 : Int32)), .val (.int va), .unset, .unset, .unset, .unset, .unset, .unset, .unset, .unset] [(.int (6 : Int32)), (.int (p3 <<< ((6 : Int32) &&& 31)))])) _
    refine own_st (fun _ k => XT.ishr X0.here hx rfl (hb hby at_23) rfl k) ?_
    show own_Goes p e below (s₁.setTop (mkF m 24 #[.val (.int p1), .val (.int p2), .val (.int p3), .val (.int p4), .val (.int p5), .val (.int (2 : Int32)), .val (.int va), .unset, .unset, .unset, .unset, .unset, .unset, .unset, .unset] [(.int ((p3 <<< ((6 : Int32) &&& 31)) >>> ((6 : Int32) &&& 31)))])) _
    obtain ⟨vb, he_vb, B_vb⟩ := own_b26 p3
    rw [he_vb]
    show own_Goes p e below (s₁.setTop (mkF m 24 #[.val (.int p1), .val (.int p2), .val (.int p3), .val (.int p4), .val (.int p5), .val (.int (2 : Int32)), .val (.int va), .unset, .unset, .unset, .unset, .unset, .unset, .unset, .unset] [(.int vb)])) _
    refine own_st (fun _ k => XS.istore X0.here hx rfl (hb hby at_24) rfl (l' := #[.val (.int p1), .val (.int p2), .val (.int p3), .val (.int p4), .val (.int p5), .val (.int (2 : Int32)), .val (.int va), .val (.int vb), .unset, .unset, .unset, .unset, .unset, .unset, .unset]) rfl k) ?_
    show own_Goes p e below (s₁.setTop (mkF m 26 #[.val (.int p1), .val (.int p2), .val (.int p3), .val (.int p4), .val (.int p5), .val (.int (2 : Int32)), .val (.int va), .val (.int vb), .unset, .unset, .unset, .unset, .unset, .unset, .unset] [])) _
    refine own_st (fun _ k => XS.iloadN X0.here hx rfl (hb hby at_26) rfl k) ?_
    show own_Goes p e below (s₁.setTop (mkF m 27 #[.val (.int p1), .val (.int p2), .val (.int p3), .val (.int p4), .val (.int p5), .val (.int (2 : Int32)), .val (.int va), .val (.int vb), .unset, .unset, .unset, .unset, .unset, .unset, .unset] [(.int p4)])) _
    refine own_st (fun _ k => XS.bipush X0.here hx rfl (hb hby at_27) k) ?_
    show own_Goes p e below (s₁.setTop (mkF m 29 #[.val (.int p1), .val (.int p2), .val (.int p3), .val (.int p4), .val (.int p5), .val (.int (2 : Int32)), .val (.int va), .val (.int vb), .unset, .unset, .unset, .unset, .unset, .unset, .unset] [(.int (6 : Int32)), (.int p4)])) _
    refine own_st (fun _ k => XT.ishl X0.here hx rfl (hb hby at_29) rfl k) ?_
    show own_Goes p e below (s₁.setTop (mkF m 30 #[.val (.int p1), .val (.int p2), .val (.int p3), .val (.int p4), .val (.int p5), .val (.int (2 : Int32)), .val (.int va), .val (.int vb), .unset, .unset, .unset, .unset, .unset, .unset, .unset] [(.int (p4 <<< ((6 : Int32) &&& 31)))])) _
    refine own_st (fun _ k => XS.bipush X0.here hx rfl (hb hby at_30) k) ?_
    show own_Goes p e below (s₁.setTop (mkF m 32 #[.val (.int p1), .val (.int p2), .val (.int p3), .val (.int p4), .val (.int p5), .val (.int (2 : Int32)), .val (.int va), .val (.int vb), .unset, .unset, .unset, .unset, .unset, .unset, .unset] [(.int (6 : Int32)), (.int (p4 <<< ((6 : Int32) &&& 31)))])) _
    refine own_st (fun _ k => XT.ishr X0.here hx rfl (hb hby at_32) rfl k) ?_
    show own_Goes p e below (s₁.setTop (mkF m 33 #[.val (.int p1), .val (.int p2), .val (.int p3), .val (.int p4), .val (.int p5), .val (.int (2 : Int32)), .val (.int va), .val (.int vb), .unset, .unset, .unset, .unset, .unset, .unset, .unset] [(.int ((p4 <<< ((6 : Int32) &&& 31)) >>> ((6 : Int32) &&& 31)))])) _
    obtain ⟨vc, he_vc, B_vc⟩ := own_b26 p4
    rw [he_vc]
    show own_Goes p e below (s₁.setTop (mkF m 33 #[.val (.int p1), .val (.int p2), .val (.int p3), .val (.int p4), .val (.int p5), .val (.int (2 : Int32)), .val (.int va), .val (.int vb), .unset, .unset, .unset, .unset, .unset, .unset, .unset] [(.int vc)])) _
    refine own_st (fun _ k => XS.istore X0.here hx rfl (hb hby at_33) rfl (l' := #[.val (.int p1), .val (.int p2), .val (.int p3), .val (.int p4), .val (.int p5), .val (.int (2 : Int32)), .val (.int va), .val (.int vb), .val (.int vc), .unset, .unset, .unset, .unset, .unset, .unset]) rfl k) ?_
    show own_Goes p e below (s₁.setTop (mkF m 35 #[.val (.int p1), .val (.int p2), .val (.int p3), .val (.int p4), .val (.int p5), .val (.int (2 : Int32)), .val (.int va), .val (.int vb), .val (.int vc), .unset, .unset, .unset, .unset, .unset, .unset] [])) _
    refine own_st (fun _ k => XS.iload X0.here hx rfl (hb hby at_35) rfl k) ?_
    show own_Goes p e below (s₁.setTop (mkF m 37 #[.val (.int p1), .val (.int p2), .val (.int p3), .val (.int p4), .val (.int p5), .val (.int (2 : Int32)), .val (.int va), .val (.int vb), .val (.int vc), .unset, .unset, .unset, .unset, .unset, .unset] [(.int p5)])) _
    refine own_st (fun _ k => XS.bipush X0.here hx rfl (hb hby at_37) k) ?_
    show own_Goes p e below (s₁.setTop (mkF m 39 #[.val (.int p1), .val (.int p2), .val (.int p3), .val (.int p4), .val (.int p5), .val (.int (2 : Int32)), .val (.int va), .val (.int vb), .val (.int vc), .unset, .unset, .unset, .unset, .unset, .unset] [(.int (6 : Int32)), (.int p5)])) _
    refine own_st (fun _ k => XT.ishl X0.here hx rfl (hb hby at_39) rfl k) ?_
    show own_Goes p e below (s₁.setTop (mkF m 40 #[.val (.int p1), .val (.int p2), .val (.int p3), .val (.int p4), .val (.int p5), .val (.int (2 : Int32)), .val (.int va), .val (.int vb), .val (.int vc), .unset, .unset, .unset, .unset, .unset, .unset] [(.int (p5 <<< ((6 : Int32) &&& 31)))])) _
    refine own_st (fun _ k => XS.bipush X0.here hx rfl (hb hby at_40) k) ?_
    show own_Goes p e below (s₁.setTop (mkF m 42 #[.val (.int p1), .val (.int p2), .val (.int p3), .val (.int p4), .val (.int p5), .val (.int (2 : Int32)), .val (.int va), .val (.int vb), .val (.int vc), .unset, .unset, .unset, .unset, .unset, .unset] [(.int (6 : Int32)), (.int (p5 <<< ((6 : Int32) &&& 31)))])) _
    refine own_st (fun _ k => XT.ishr X0.here hx rfl (hb hby at_42) rfl k) ?_
    show own_Goes p e below (s₁.setTop (mkF m 43 #[.val (.int p1), .val (.int p2), .val (.int p3), .val (.int p4), .val (.int p5), .val (.int (2 : Int32)), .val (.int va), .val (.int vb), .val (.int vc), .unset, .unset, .unset, .unset, .unset, .unset] [(.int ((p5 <<< ((6 : Int32) &&& 31)) >>> ((6 : Int32) &&& 31)))])) _
    obtain ⟨vd, he_vd, B_vd⟩ := own_b26 p5
    rw [he_vd]
    show own_Goes p e below (s₁.setTop (mkF m 43 #[.val (.int p1), .val (.int p2), .val (.int p3), .val (.int p4), .val (.int p5), .val (.int (2 : Int32)), .val (.int va), .val (.int vb), .val (.int vc), .unset, .unset, .unset, .unset, .unset, .unset] [(.int vd)])) _
    refine own_st (fun _ k => XS.istore X0.here hx rfl (hb hby at_43) rfl (l' := #[.val (.int p1), .val (.int p2), .val (.int p3), .val (.int p4), .val (.int p5), .val (.int (2 : Int32)), .val (.int va), .val (.int vb), .val (.int vc), .val (.int vd), .unset, .unset, .unset, .unset, .unset]) rfl k) ?_
    show own_Goes p e below (s₁.setTop (mkF m 45 #[.val (.int p1), .val (.int p2), .val (.int p3), .val (.int p4), .val (.int p5), .val (.int (2 : Int32)), .val (.int va), .val (.int vb), .val (.int vc), .val (.int vd), .unset, .unset, .unset, .unset, .unset] [])) _
    refine own_st (fun _ k => XS.iload X0.here hx rfl (hb hby at_45) rfl k) ?_
    show own_Goes p e below (s₁.setTop (mkF m 47 #[.val (.int p1), .val (.int p2), .val (.int p3), .val (.int p4), .val (.int p5), .val (.int (2 : Int32)), .val (.int va), .val (.int vb), .val (.int vc), .val (.int vd), .unset, .unset, .unset, .unset, .unset] [(.int (2 : Int32))])) _
    obtain ⟨T108, h108, k108, X108, e108, E108, A108, st108⟩ := newP X0 hx hZ (hw _ (List.mem_of_getElem? (i := 0) rfl)) e0 (g := (mkF m 47 #[.val (.int p1), .val (.int p2), .val (.int p3), .val (.int p4), .val (.int p5), .val (.int (2 : Int32)), .val (.int va), .val (.int vb), .val (.int vc), .val (.int vd), .unset, .unset, .unset, .unset, .unset] [(.int (2 : Int32))])) rfl (hb hby at_47) rfl (by decide) (cap := 2) (by decide) (by decide) (by decide) (by decide)
    obtain ⟨b108, g108⟩ : ∃ z, z = h0.size := ⟨_, rfl⟩
    rw [← g108] at A108 st108
    have g_b108 : n0 ≤ b108 := Nat.le_trans Z0 (Nat.le_of_eq g108.symm)
    have V_b108 : Arv Z h108 b108 k108 .double (2 : Int32) [(.double 0), (.double 0)] (.double 0) := Arv.pad (Arv.new A108 (by decide)) (pad_rep [] _ 2)
    refine own_st st108 ?_
    show own_Goes p e below (T108.setTop (mkF m 49 #[.val (.int p1), .val (.int p2), .val (.int p3), .val (.int p4), .val (.int p5), .val (.int (2 : Int32)), .val (.int va), .val (.int vb), .val (.int vc), .val (.int vd), .unset, .unset, .unset, .unset, .unset] [(.ref b108)])) _
    refine own_st (fun _ k => XS.astore X108.here hx rfl (hb hby at_49) rfl rfl (l' := #[.val (.int p1), .val (.int p2), .val (.int p3), .val (.int p4), .val (.int p5), .val (.int (2 : Int32)), .val (.int va), .val (.int vb), .val (.int vc), .val (.int vd), .val (.ref b108), .unset, .unset, .unset, .unset]) rfl k) ?_
    show own_Goes p e below (T108.setTop (mkF m 51 #[.val (.int p1), .val (.int p2), .val (.int p3), .val (.int p4), .val (.int p5), .val (.int (2 : Int32)), .val (.int va), .val (.int vb), .val (.int vc), .val (.int vd), .val (.ref b108), .unset, .unset, .unset, .unset] [])) _
    refine own_st (fun _ k => XT.lconst X108.here hx rfl (hb hby at_51) k) ?_
    show own_Goes p e below (T108.setTop (mkF m 52 #[.val (.int p1), .val (.int p2), .val (.int p3), .val (.int p4), .val (.int p5), .val (.int (2 : Int32)), .val (.int va), .val (.int vb), .val (.int vc), .val (.int vd), .val (.ref b108), .unset, .unset, .unset, .unset] [(.long (0 : Int64))])) _
    refine own_st (fun _ k => XT.lstore X108.here hx rfl (hb hby at_52) rfl (l' := #[.val (.int p1), .val (.int p2), .val (.int p3), .val (.int p4), .val (.int p5), .val (.int (2 : Int32)), .val (.int va), .val (.int vb), .val (.int vc), .val (.int vd), .val (.ref b108), .val (.long (0 : Int64)), .second, .unset, .unset]) rfl k) ?_
    show own_Goes p e below (T108.setTop (mkF m 54 #[.val (.int p1), .val (.int p2), .val (.int p3), .val (.int p4), .val (.int p5), .val (.int (2 : Int32)), .val (.int va), .val (.int vb), .val (.int vc), .val (.int vd), .val (.ref b108), .val (.long (0 : Int64)), .second, .unset, .unset] [])) _
    refine own_st (fun _ k => XS.iload X108.here hx rfl (hb hby at_54) rfl k) ?_
    show own_Goes p e below (T108.setTop (mkF m 56 #[.val (.int p1), .val (.int p2), .val (.int p3), .val (.int p4), .val (.int p5), .val (.int (2 : Int32)), .val (.int va), .val (.int vb), .val (.int vc), .val (.int vd), .val (.ref b108), .val (.long (0 : Int64)), .second, .unset, .unset] [(.int (2 : Int32))])) _
    refine own_st (fun _ k => XS.ifNo X108.here hx rfl (hb hby at_56) rfl ((if0 _ _).trans (tlt (by decide : (0 : Int32) < (2 : Int32))).2.2.2) k) ?_
    show own_Goes p e below (T108.setTop (mkF m 59 #[.val (.int p1), .val (.int p2), .val (.int p3), .val (.int p4), .val (.int p5), .val (.int (2 : Int32)), .val (.int va), .val (.int vb), .val (.int vc), .val (.int vd), .val (.ref b108), .val (.long (0 : Int64)), .second, .unset, .unset] [])) _
    refine own_st (fun _ k => XS.aload X108.here hx rfl (hb hby at_59) rfl rfl k) ?_
    show own_Goes p e below (T108.setTop (mkF m 61 #[.val (.int p1), .val (.int p2), .val (.int p3), .val (.int p4), .val (.int p5), .val (.int (2 : Int32)), .val (.int va), .val (.int vb), .val (.int vc), .val (.int vd), .val (.ref b108), .val (.long (0 : Int64)), .second, .unset, .unset] [(.ref b108)])) _
    refine own_st (fun _ k => XS.iconst X108.here hx rfl (hb hby at_61) k) ?_
    show own_Goes p e below (T108.setTop (mkF m 62 #[.val (.int p1), .val (.int p2), .val (.int p3), .val (.int p4), .val (.int p5), .val (.int (2 : Int32)), .val (.int va), .val (.int vb), .val (.int vc), .val (.int vd), .val (.ref b108), .val (.long (0 : Int64)), .second, .unset, .unset] [(.int (0 : Int32)), (.ref b108)])) _
    refine own_st (fun _ k => XS.iload X108.here hx rfl (hb hby at_62) rfl k) ?_
    show own_Goes p e below (T108.setTop (mkF m 64 #[.val (.int p1), .val (.int p2), .val (.int p3), .val (.int p4), .val (.int p5), .val (.int (2 : Int32)), .val (.int va), .val (.int vb), .val (.int vc), .val (.int vd), .val (.ref b108), .val (.long (0 : Int64)), .second, .unset, .unset] [(.int va), (.int (0 : Int32)), (.ref b108)])) _
    refine own_st (fun _ k => own_i2d X108.here hx rfl (hb hby at_64) rfl k) ?_
    show own_Goes p e below (T108.setTop (mkF m 65 #[.val (.int p1), .val (.int p2), .val (.int p3), .val (.int p4), .val (.int p5), .val (.int (2 : Int32)), .val (.int va), .val (.int vb), .val (.int vc), .val (.int vd), .val (.ref b108), .val (.long (0 : Int64)), .second, .unset, .unset] [(.double (FP.i2d va)), (.int (0 : Int32)), (.ref b108)])) _
    obtain ⟨T109, h109, X109, e109, W109, V109, st109⟩ := own_stD (x := (FP.i2d va)) (pc := 65) (Ls := #[.val (.int p1), .val (.int p2), .val (.int p3), .val (.int p4), .val (.int p5), .val (.int (2 : Int32)), .val (.int va), .val (.int vb), .val (.int vc), .val (.int vd), .val (.ref b108), .val (.long (0 : Int64)), .second, .unset, .unset]) (rest := []) (j := (0 : Int32)) X108 hx hZ e108 V_b108 0 (by decide) (by decide) (Nat.le_of_ble_eq_true rfl) (hb hby at_65)
    have V109 : Arv Z h109 b108 k108 .double (2 : Int32) [(.double (FP.i2d va)), (.double 0)] (.double 0) := V109
    have N109 := Fr.snoc X109 N0 g_b108
    refine own_st st109 ?_
    show own_Goes p e below (T109.setTop (mkF m 66 #[.val (.int p1), .val (.int p2), .val (.int p3), .val (.int p4), .val (.int p5), .val (.int (2 : Int32)), .val (.int va), .val (.int vb), .val (.int vc), .val (.int vd), .val (.ref b108), .val (.long (0 : Int64)), .second, .unset, .unset] [])) _
    refine own_st (fun _ k => XT.lload X109.here hx rfl (hb hby at_66) rfl k) ?_
    show own_Goes p e below (T109.setTop (mkF m 68 #[.val (.int p1), .val (.int p2), .val (.int p3), .val (.int p4), .val (.int p5), .val (.int (2 : Int32)), .val (.int va), .val (.int vb), .val (.int vc), .val (.int vd), .val (.ref b108), .val (.long (0 : Int64)), .second, .unset, .unset] [(.long (0 : Int64))])) _
    refine own_st (fun _ k => XS.iload X109.here hx rfl (hb hby at_68) rfl k) ?_
    show own_Goes p e below (T109.setTop (mkF m 70 #[.val (.int p1), .val (.int p2), .val (.int p3), .val (.int p4), .val (.int p5), .val (.int (2 : Int32)), .val (.int va), .val (.int vb), .val (.int vc), .val (.int vd), .val (.ref b108), .val (.long (0 : Int64)), .second, .unset, .unset] [(.int va), (.long (0 : Int64))])) _
    refine own_st (fun _ k => XT.i2l X109.here hx rfl (hb hby at_70) rfl k) ?_
    show own_Goes p e below (T109.setTop (mkF m 71 #[.val (.int p1), .val (.int p2), .val (.int p3), .val (.int p4), .val (.int p5), .val (.int (2 : Int32)), .val (.int va), .val (.int vb), .val (.int vc), .val (.int vd), .val (.ref b108), .val (.long (0 : Int64)), .second, .unset, .unset] [(.long va.toInt64), (.long (0 : Int64))])) _
    refine own_st (fun _ k => XS.iload X109.here hx rfl (hb hby at_71) rfl k) ?_
    show own_Goes p e below (T109.setTop (mkF m 73 #[.val (.int p1), .val (.int p2), .val (.int p3), .val (.int p4), .val (.int p5), .val (.int (2 : Int32)), .val (.int va), .val (.int vb), .val (.int vc), .val (.int vd), .val (.ref b108), .val (.long (0 : Int64)), .second, .unset, .unset] [(.int va), (.long va.toInt64), (.long (0 : Int64))])) _
    refine own_st (fun _ k => XT.i2l X109.here hx rfl (hb hby at_73) rfl k) ?_
    show own_Goes p e below (T109.setTop (mkF m 74 #[.val (.int p1), .val (.int p2), .val (.int p3), .val (.int p4), .val (.int p5), .val (.int (2 : Int32)), .val (.int va), .val (.int vb), .val (.int vc), .val (.int vd), .val (.ref b108), .val (.long (0 : Int64)), .second, .unset, .unset] [(.long va.toInt64), (.long va.toInt64), (.long (0 : Int64))])) _
    refine own_st (fun _ k => XT.lmul X109.here hx rfl (hb hby at_74) rfl k) ?_
    show own_Goes p e below (T109.setTop (mkF m 75 #[.val (.int p1), .val (.int p2), .val (.int p3), .val (.int p4), .val (.int p5), .val (.int (2 : Int32)), .val (.int va), .val (.int vb), .val (.int vc), .val (.int vd), .val (.ref b108), .val (.long (0 : Int64)), .second, .unset, .unset] [(.long (va.toInt64 * va.toInt64)), (.long (0 : Int64))])) _
    refine own_st (fun _ k => XT.ladd X109.here hx rfl (hb hby at_75) rfl k) ?_
    show own_Goes p e below (T109.setTop (mkF m 76 #[.val (.int p1), .val (.int p2), .val (.int p3), .val (.int p4), .val (.int p5), .val (.int (2 : Int32)), .val (.int va), .val (.int vb), .val (.int vc), .val (.int vd), .val (.ref b108), .val (.long (0 : Int64)), .second, .unset, .unset] [(.long ((0 : Int64) + (va.toInt64 * va.toInt64)))])) _
    refine own_st (fun _ k => XT.lstore X109.here hx rfl (hb hby at_76) rfl (l' := #[.val (.int p1), .val (.int p2), .val (.int p3), .val (.int p4), .val (.int p5), .val (.int (2 : Int32)), .val (.int va), .val (.int vb), .val (.int vc), .val (.int vd), .val (.ref b108), .val (.long ((0 : Int64) + (va.toInt64 * va.toInt64))), .second, .unset, .unset]) rfl k) ?_
    show own_Goes p e below (T109.setTop (mkF m 78 #[.val (.int p1), .val (.int p2), .val (.int p3), .val (.int p4), .val (.int p5), .val (.int (2 : Int32)), .val (.int va), .val (.int vb), .val (.int vc), .val (.int vd), .val (.ref b108), .val (.long ((0 : Int64) + (va.toInt64 * va.toInt64))), .second, .unset, .unset] [])) _
    refine own_st (fun _ k => XS.iload X109.here hx rfl (hb hby at_78) rfl k) ?_
    show own_Goes p e below (T109.setTop (mkF m 80 #[.val (.int p1), .val (.int p2), .val (.int p3), .val (.int p4), .val (.int p5), .val (.int (2 : Int32)), .val (.int va), .val (.int vb), .val (.int vc), .val (.int vd), .val (.ref b108), .val (.long ((0 : Int64) + (va.toInt64 * va.toInt64))), .second, .unset, .unset] [(.int (2 : Int32))])) _
    refine own_st (fun _ k => XS.iconst X109.here hx rfl (hb hby at_80) k) ?_
    show own_Goes p e below (T109.setTop (mkF m 81 #[.val (.int p1), .val (.int p2), .val (.int p3), .val (.int p4), .val (.int p5), .val (.int (2 : Int32)), .val (.int va), .val (.int vb), .val (.int vc), .val (.int vd), .val (.ref b108), .val (.long ((0 : Int64) + (va.toInt64 * va.toInt64))), .second, .unset, .unset] [(.int (1 : Int32)), (.int (2 : Int32))])) _
    refine own_st (fun _ k => XS.icmpNo X109.here hx rfl (hb hby at_81) rfl (tlt (by decide : (1 : Int32) < (2 : Int32))).2.2.2 k) ?_
    show own_Goes p e below (T109.setTop (mkF m 84 #[.val (.int p1), .val (.int p2), .val (.int p3), .val (.int p4), .val (.int p5), .val (.int (2 : Int32)), .val (.int va), .val (.int vb), .val (.int vc), .val (.int vd), .val (.ref b108), .val (.long ((0 : Int64) + (va.toInt64 * va.toInt64))), .second, .unset, .unset] [])) _
    refine own_st (fun _ k => XS.aload X109.here hx rfl (hb hby at_84) rfl rfl k) ?_
    show own_Goes p e below (T109.setTop (mkF m 86 #[.val (.int p1), .val (.int p2), .val (.int p3), .val (.int p4), .val (.int p5), .val (.int (2 : Int32)), .val (.int va), .val (.int vb), .val (.int vc), .val (.int vd), .val (.ref b108), .val (.long ((0 : Int64) + (va.toInt64 * va.toInt64))), .second, .unset, .unset] [(.ref b108)])) _
    refine own_st (fun _ k => XS.iconst X109.here hx rfl (hb hby at_86) k) ?_
    show own_Goes p e below (T109.setTop (mkF m 87 #[.val (.int p1), .val (.int p2), .val (.int p3), .val (.int p4), .val (.int p5), .val (.int (2 : Int32)), .val (.int va), .val (.int vb), .val (.int vc), .val (.int vd), .val (.ref b108), .val (.long ((0 : Int64) + (va.toInt64 * va.toInt64))), .second, .unset, .unset] [(.int (1 : Int32)), (.ref b108)])) _
    refine own_st (fun _ k => XS.iload X109.here hx rfl (hb hby at_87) rfl k) ?_
    show own_Goes p e below (T109.setTop (mkF m 89 #[.val (.int p1), .val (.int p2), .val (.int p3), .val (.int p4), .val (.int p5), .val (.int (2 : Int32)), .val (.int va), .val (.int vb), .val (.int vc), .val (.int vd), .val (.ref b108), .val (.long ((0 : Int64) + (va.toInt64 * va.toInt64))), .second, .unset, .unset] [(.int vb), (.int (1 : Int32)), (.ref b108)])) _
    refine own_st (fun _ k => own_i2d X109.here hx rfl (hb hby at_89) rfl k) ?_
    show own_Goes p e below (T109.setTop (mkF m 90 #[.val (.int p1), .val (.int p2), .val (.int p3), .val (.int p4), .val (.int p5), .val (.int (2 : Int32)), .val (.int va), .val (.int vb), .val (.int vc), .val (.int vd), .val (.ref b108), .val (.long ((0 : Int64) + (va.toInt64 * va.toInt64))), .second, .unset, .unset] [(.double (FP.i2d vb)), (.int (1 : Int32)), (.ref b108)])) _
    obtain ⟨T110, h110, X110, e110, W110, V110, st110⟩ := own_stD (x := (FP.i2d vb)) (pc := 90) (Ls := #[.val (.int p1), .val (.int p2), .val (.int p3), .val (.int p4), .val (.int p5), .val (.int (2 : Int32)), .val (.int va), .val (.int vb), .val (.int vc), .val (.int vd), .val (.ref b108), .val (.long ((0 : Int64) + (va.toInt64 * va.toInt64))), .second, .unset, .unset]) (rest := []) (j := (1 : Int32)) X109 hx hZ e109 V109 1 (by decide) (by decide) (Nat.le_of_ble_eq_true rfl) (hb hby at_90)
    have V110 : Arv Z h110 b108 k108 .double (2 : Int32) [(.double (FP.i2d va)), (.double (FP.i2d vb))] (.double 0) := V110
    have N110 := Fr.snoc X110 N109 g_b108
    refine own_st st110 ?_
    show own_Goes p e below (T110.setTop (mkF m 91 #[.val (.int p1), .val (.int p2), .val (.int p3), .val (.int p4), .val (.int p5), .val (.int (2 : Int32)), .val (.int va), .val (.int vb), .val (.int vc), .val (.int vd), .val (.ref b108), .val (.long ((0 : Int64) + (va.toInt64 * va.toInt64))), .second, .unset, .unset] [])) _
    refine own_st (fun _ k => XT.lload X110.here hx rfl (hb hby at_91) rfl k) ?_
    show own_Goes p e below (T110.setTop (mkF m 93 #[.val (.int p1), .val (.int p2), .val (.int p3), .val (.int p4), .val (.int p5), .val (.int (2 : Int32)), .val (.int va), .val (.int vb), .val (.int vc), .val (.int vd), .val (.ref b108), .val (.long ((0 : Int64) + (va.toInt64 * va.toInt64))), .second, .unset, .unset] [(.long ((0 : Int64) + (va.toInt64 * va.toInt64)))])) _
    refine own_st (fun _ k => XS.iload X110.here hx rfl (hb hby at_93) rfl k) ?_
    show own_Goes p e below (T110.setTop (mkF m 95 #[.val (.int p1), .val (.int p2), .val (.int p3), .val (.int p4), .val (.int p5), .val (.int (2 : Int32)), .val (.int va), .val (.int vb), .val (.int vc), .val (.int vd), .val (.ref b108), .val (.long ((0 : Int64) + (va.toInt64 * va.toInt64))), .second, .unset, .unset] [(.int vb), (.long ((0 : Int64) + (va.toInt64 * va.toInt64)))])) _
    refine own_st (fun _ k => XT.i2l X110.here hx rfl (hb hby at_95) rfl k) ?_
    show own_Goes p e below (T110.setTop (mkF m 96 #[.val (.int p1), .val (.int p2), .val (.int p3), .val (.int p4), .val (.int p5), .val (.int (2 : Int32)), .val (.int va), .val (.int vb), .val (.int vc), .val (.int vd), .val (.ref b108), .val (.long ((0 : Int64) + (va.toInt64 * va.toInt64))), .second, .unset, .unset] [(.long vb.toInt64), (.long ((0 : Int64) + (va.toInt64 * va.toInt64)))])) _
    refine own_st (fun _ k => XS.iload X110.here hx rfl (hb hby at_96) rfl k) ?_
    show own_Goes p e below (T110.setTop (mkF m 98 #[.val (.int p1), .val (.int p2), .val (.int p3), .val (.int p4), .val (.int p5), .val (.int (2 : Int32)), .val (.int va), .val (.int vb), .val (.int vc), .val (.int vd), .val (.ref b108), .val (.long ((0 : Int64) + (va.toInt64 * va.toInt64))), .second, .unset, .unset] [(.int vb), (.long vb.toInt64), (.long ((0 : Int64) + (va.toInt64 * va.toInt64)))])) _
    refine own_st (fun _ k => XT.i2l X110.here hx rfl (hb hby at_98) rfl k) ?_
    show own_Goes p e below (T110.setTop (mkF m 99 #[.val (.int p1), .val (.int p2), .val (.int p3), .val (.int p4), .val (.int p5), .val (.int (2 : Int32)), .val (.int va), .val (.int vb), .val (.int vc), .val (.int vd), .val (.ref b108), .val (.long ((0 : Int64) + (va.toInt64 * va.toInt64))), .second, .unset, .unset] [(.long vb.toInt64), (.long vb.toInt64), (.long ((0 : Int64) + (va.toInt64 * va.toInt64)))])) _
    refine own_st (fun _ k => XT.lmul X110.here hx rfl (hb hby at_99) rfl k) ?_
    show own_Goes p e below (T110.setTop (mkF m 100 #[.val (.int p1), .val (.int p2), .val (.int p3), .val (.int p4), .val (.int p5), .val (.int (2 : Int32)), .val (.int va), .val (.int vb), .val (.int vc), .val (.int vd), .val (.ref b108), .val (.long ((0 : Int64) + (va.toInt64 * va.toInt64))), .second, .unset, .unset] [(.long (vb.toInt64 * vb.toInt64)), (.long ((0 : Int64) + (va.toInt64 * va.toInt64)))])) _
    refine own_st (fun _ k => XT.ladd X110.here hx rfl (hb hby at_100) rfl k) ?_
    show own_Goes p e below (T110.setTop (mkF m 101 #[.val (.int p1), .val (.int p2), .val (.int p3), .val (.int p4), .val (.int p5), .val (.int (2 : Int32)), .val (.int va), .val (.int vb), .val (.int vc), .val (.int vd), .val (.ref b108), .val (.long ((0 : Int64) + (va.toInt64 * va.toInt64))), .second, .unset, .unset] [(.long (((0 : Int64) + (va.toInt64 * va.toInt64)) + (vb.toInt64 * vb.toInt64)))])) _
    refine own_st (fun _ k => XT.lstore X110.here hx rfl (hb hby at_101) rfl (l' := #[.val (.int p1), .val (.int p2), .val (.int p3), .val (.int p4), .val (.int p5), .val (.int (2 : Int32)), .val (.int va), .val (.int vb), .val (.int vc), .val (.int vd), .val (.ref b108), .val (.long (((0 : Int64) + (va.toInt64 * va.toInt64)) + (vb.toInt64 * vb.toInt64))), .second, .unset, .unset]) rfl k) ?_
    show own_Goes p e below (T110.setTop (mkF m 103 #[.val (.int p1), .val (.int p2), .val (.int p3), .val (.int p4), .val (.int p5), .val (.int (2 : Int32)), .val (.int va), .val (.int vb), .val (.int vc), .val (.int vd), .val (.ref b108), .val (.long (((0 : Int64) + (va.toInt64 * va.toInt64)) + (vb.toInt64 * vb.toInt64))), .second, .unset, .unset] [])) _
    refine own_st (fun _ k => XS.iload X110.here hx rfl (hb hby at_103) rfl k) ?_
    show own_Goes p e below (T110.setTop (mkF m 105 #[.val (.int p1), .val (.int p2), .val (.int p3), .val (.int p4), .val (.int p5), .val (.int (2 : Int32)), .val (.int va), .val (.int vb), .val (.int vc), .val (.int vd), .val (.ref b108), .val (.long (((0 : Int64) + (va.toInt64 * va.toInt64)) + (vb.toInt64 * vb.toInt64))), .second, .unset, .unset] [(.int (2 : Int32))])) _
    refine own_st (fun _ k => XS.iconst X110.here hx rfl (hb hby at_105) k) ?_
    show own_Goes p e below (T110.setTop (mkF m 106 #[.val (.int p1), .val (.int p2), .val (.int p3), .val (.int p4), .val (.int p5), .val (.int (2 : Int32)), .val (.int va), .val (.int vb), .val (.int vc), .val (.int vd), .val (.ref b108), .val (.long (((0 : Int64) + (va.toInt64 * va.toInt64)) + (vb.toInt64 * vb.toInt64))), .second, .unset, .unset] [(.int (2 : Int32)), (.int (2 : Int32))])) _
    refine own_st (fun _ k => XS.icmpYes X110.here hx rfl (pc0 := 106) (pc' := 128) rfl (hb hby at_106) rfl (flt (by decide : ¬ ((2 : Int32) < (2 : Int32)))).2.2.2 (by decide) (by decide) k) ?_
    show own_Goes p e below (T110.setTop (mkF m 128 #[.val (.int p1), .val (.int p2), .val (.int p3), .val (.int p4), .val (.int p5), .val (.int (2 : Int32)), .val (.int va), .val (.int vb), .val (.int vc), .val (.int vd), .val (.ref b108), .val (.long (((0 : Int64) + (va.toInt64 * va.toInt64)) + (vb.toInt64 * vb.toInt64))), .second, .unset, .unset] [])) _
    refine own_st (fun _ k => XS.iload X110.here hx rfl (hb hby at_128) rfl k) ?_
    show own_Goes p e below (T110.setTop (mkF m 130 #[.val (.int p1), .val (.int p2), .val (.int p3), .val (.int p4), .val (.int p5), .val (.int (2 : Int32)), .val (.int va), .val (.int vb), .val (.int vc), .val (.int vd), .val (.ref b108), .val (.long (((0 : Int64) + (va.toInt64 * va.toInt64)) + (vb.toInt64 * vb.toInt64))), .second, .unset, .unset] [(.int (2 : Int32))])) _
    refine own_st (fun _ k => XS.iconst X110.here hx rfl (hb hby at_130) k) ?_
    show own_Goes p e below (T110.setTop (mkF m 131 #[.val (.int p1), .val (.int p2), .val (.int p3), .val (.int p4), .val (.int p5), .val (.int (2 : Int32)), .val (.int va), .val (.int vb), .val (.int vc), .val (.int vd), .val (.ref b108), .val (.long (((0 : Int64) + (va.toInt64 * va.toInt64)) + (vb.toInt64 * vb.toInt64))), .second, .unset, .unset] [(.int (3 : Int32)), (.int (2 : Int32))])) _
    refine own_st (fun _ k => XS.icmpYes X110.here hx rfl (pc0 := 131) (pc' := 153) rfl (hb hby at_131) rfl (flt (by decide : ¬ ((3 : Int32) < (2 : Int32)))).2.2.2 (by decide) (by decide) k) ?_
    show own_Goes p e below (T110.setTop (mkF m 153 #[.val (.int p1), .val (.int p2), .val (.int p3), .val (.int p4), .val (.int p5), .val (.int (2 : Int32)), .val (.int va), .val (.int vb), .val (.int vc), .val (.int vd), .val (.ref b108), .val (.long (((0 : Int64) + (va.toInt64 * va.toInt64)) + (vb.toInt64 * vb.toInt64))), .second, .unset, .unset] [])) _
    have hL0 : (0 : Int64).toInt = 0 := by decide
    have hL1 : ((0 : Int64) + (va.toInt64 * va.toInt64)).toInt = 0 + va.toInt * va.toInt := own_lsum hL0 (by  omega) (by  omega) B_va
    have hL2 : (((0 : Int64) + (va.toInt64 * va.toInt64)) + (vb.toInt64 * vb.toInt64)).toInt = 0 + va.toInt * va.toInt + vb.toInt * vb.toInt := own_lsum hL1 (by have q0 := own_sq B_va; generalize va.toInt * va.toInt = t0 at *;  omega) (by have q0 := own_sq B_va; generalize va.toInt * va.toInt = t0 at *;  omega) B_vb
    have hLd : own_DI (0 + va.toInt * va.toInt + vb.toInt * vb.toInt) (FP.l2d (((0 : Int64) + (va.toInt64 * va.toInt64)) + (vb.toInt64 * vb.toInt64))) := by rw [← hL2]; exact own_di_l2d (by rw [hL2]; have q0 := own_sq B_va; generalize va.toInt * va.toInt = t0 at *; have q1 := own_sq B_vb; generalize vb.toInt * vb.toInt = t1 at *;  omega)
    refine own_st (fun _ k => XS.aload X110.here hx rfl (hb hby at_153) rfl rfl k) ?_
    show own_Goes p e below (T110.setTop (mkF m 155 #[.val (.int p1), .val (.int p2), .val (.int p3), .val (.int p4), .val (.int p5), .val (.int (2 : Int32)), .val (.int va), .val (.int vb), .val (.int vc), .val (.int vd), .val (.ref b108), .val (.long (((0 : Int64) + (va.toInt64 * va.toInt64)) + (vb.toInt64 * vb.toInt64))), .second, .unset, .unset] [(.ref b108)])) _
    have f112 := (Nat.le_trans (Nat.le_trans (Nat.le_trans Z0 E108.1) (Nat.le_of_eq W109.size.symm)) (Nat.le_of_eq W110.size.symm))
    obtain ⟨_, T111, h111, L111, X111, e111, ⟨r0, rfl, Dr, rfl, hh111⟩, st111⟩ := own_callS (argsL := [(.ref b108)]) (rest := []) (pc := 155) (W := 0) (Ls := #[.val (.int p1), .val (.int p2), .val (.int p3), .val (.int p4), .val (.int p5), .val (.int (2 : Int32)), .val (.int va), .val (.int vb), .val (.int vc), .val (.int vd), .val (.ref b108), .val (.long (((0 : Int64) + (va.toInt64 * va.toInt64)) + (vb.toInt64 * vb.toInt64))), .second, .unset, .unset]) (S := [(.ref b108)]) X110 hx hZ hown (hw _ (List.mem_of_getElem? (i := 1) rfl)) (hw _ (List.mem_of_getElem? (i := 2) rfl)) (hw _ (List.mem_of_getElem? (i := 3) rfl)) (hw _ (List.mem_of_getElem? (i := 4) rfl)) (by decide) (rm12 l Z a0 hw [] b108 k108 (FP.i2d va) (FP.i2d vb) va.toInt vb.toInt h110 n0 f112 V110 (own_di_i2d va) B_va (own_di_i2d vb) B_vb) (by decide) (by decide) e110 (by rw [hml]; rfl) (lenOf pd___D_D rfl) rfl (Nat.le_of_eq rfl) (hb hby at_155) (by decide) (by decide)
    refine own_st st111 ?_
    show own_Goes p e below (T111.setTop (mkF m 158 #[.val (.int p1), .val (.int p2), .val (.int p3), .val (.int p4), .val (.int p5), .val (.int (2 : Int32)), .val (.int va), .val (.int vb), .val (.int vc), .val (.int vd), .val (.ref b108), .val (.long (((0 : Int64) + (va.toInt64 * va.toInt64)) + (vb.toInt64 * vb.toInt64))), .second, .unset, .unset] [(.double r0)])) _
    refine own_st (fun _ k => own_dstore X111.here hx rfl (hb hby at_158) rfl (l' := #[.val (.int p1), .val (.int p2), .val (.int p3), .val (.int p4), .val (.int p5), .val (.int (2 : Int32)), .val (.int va), .val (.int vb), .val (.int vc), .val (.int vd), .val (.ref b108), .val (.long (((0 : Int64) + (va.toInt64 * va.toInt64)) + (vb.toInt64 * vb.toInt64))), .second, .val (.double r0), .second]) rfl k) ?_
    show own_Goes p e below (T111.setTop (mkF m 160 #[.val (.int p1), .val (.int p2), .val (.int p3), .val (.int p4), .val (.int p5), .val (.int (2 : Int32)), .val (.int va), .val (.int vb), .val (.int vc), .val (.int vd), .val (.ref b108), .val (.long (((0 : Int64) + (va.toInt64 * va.toInt64)) + (vb.toInt64 * vb.toInt64))), .second, .val (.double r0), .second] [])) _
    refine own_st (fun _ k => XT.dload X111.here hx rfl (hb hby at_160) rfl k) ?_
    show own_Goes p e below (T111.setTop (mkF m 162 #[.val (.int p1), .val (.int p2), .val (.int p3), .val (.int p4), .val (.int p5), .val (.int (2 : Int32)), .val (.int va), .val (.int vb), .val (.int vc), .val (.int vd), .val (.ref b108), .val (.long (((0 : Int64) + (va.toInt64 * va.toInt64)) + (vb.toInt64 * vb.toInt64))), .second, .val (.double r0), .second] [(.double r0)])) _
    refine own_st (fun _ k => XT.lload X111.here hx rfl (hb hby at_162) rfl k) ?_
    show own_Goes p e below (T111.setTop (mkF m 164 #[.val (.int p1), .val (.int p2), .val (.int p3), .val (.int p4), .val (.int p5), .val (.int (2 : Int32)), .val (.int va), .val (.int vb), .val (.int vc), .val (.int vd), .val (.ref b108), .val (.long (((0 : Int64) + (va.toInt64 * va.toInt64)) + (vb.toInt64 * vb.toInt64))), .second, .val (.double r0), .second] [(.long (((0 : Int64) + (va.toInt64 * va.toInt64)) + (vb.toInt64 * vb.toInt64))), (.double r0)])) _
    refine own_st (fun _ k => own_l2d X111.here hx rfl (hb hby at_164) rfl k) ?_
    show own_Goes p e below (T111.setTop (mkF m 165 #[.val (.int p1), .val (.int p2), .val (.int p3), .val (.int p4), .val (.int p5), .val (.int (2 : Int32)), .val (.int va), .val (.int vb), .val (.int vc), .val (.int vd), .val (.ref b108), .val (.long (((0 : Int64) + (va.toInt64 * va.toInt64)) + (vb.toInt64 * vb.toInt64))), .second, .val (.double r0), .second] [(.double (FP.l2d (((0 : Int64) + (va.toInt64 * va.toInt64)) + (vb.toInt64 * vb.toInt64)))), (.double r0)])) _
    refine own_st (fun _ k => own_dcmp (o := .eq) X111.here hx rfl (hb hby at_165) rfl (by rw [own_di_cmp Dr hLd]; exact congrArg some (Jvm.FP.Core.compare_self_int _)) k) ?_
    show own_Goes p e below (T111.setTop (mkF m 166 #[.val (.int p1), .val (.int p2), .val (.int p3), .val (.int p4), .val (.int p5), .val (.int (2 : Int32)), .val (.int va), .val (.int vb), .val (.int vc), .val (.int vd), .val (.ref b108), .val (.long (((0 : Int64) + (va.toInt64 * va.toInt64)) + (vb.toInt64 * vb.toInt64))), .second, .val (.double r0), .second] [(.int (own_ord .eq))])) _
    refine own_st (fun _ k => XS.ifNo X111.here hx rfl (hb hby at_166) rfl ((if0 _ _).trans (teq (by decide : (own_ord .eq) = (0 : Int32))).2) k) ?_
    show own_Goes p e below (T111.setTop (mkF m 169 #[.val (.int p1), .val (.int p2), .val (.int p3), .val (.int p4), .val (.int p5), .val (.int (2 : Int32)), .val (.int va), .val (.int vb), .val (.int vc), .val (.int vd), .val (.ref b108), .val (.long (((0 : Int64) + (va.toInt64 * va.toInt64)) + (vb.toInt64 * vb.toInt64))), .second, .val (.double r0), .second] [])) _
    refine own_st (fun _ k => XS.iconst X111.here hx rfl (hb hby at_169) k) ?_
    show own_Goes p e below (T111.setTop (mkF m 170 #[.val (.int p1), .val (.int p2), .val (.int p3), .val (.int p4), .val (.int p5), .val (.int (2 : Int32)), .val (.int va), .val (.int vb), .val (.int vc), .val (.int vd), .val (.ref b108), .val (.long (((0 : Int64) + (va.toInt64 * va.toInt64)) + (vb.toInt64 * vb.toInt64))), .second, .val (.double r0), .second] [(.int (1 : Int32))])) _
    refine own_st (fun _ k => XS.goto X111.here hx rfl (pc0 := 170) (pc' := 174) rfl (hb hby at_170) (by decide) (by decide) k) ?_
    show own_Goes p e below (T111.setTop (mkF m 174 #[.val (.int p1), .val (.int p2), .val (.int p3), .val (.int p4), .val (.int p5), .val (.int (2 : Int32)), .val (.int va), .val (.int vb), .val (.int vc), .val (.int vd), .val (.ref b108), .val (.long (((0 : Int64) + (va.toInt64 * va.toInt64)) + (vb.toInt64 * vb.toInt64))), .second, .val (.double r0), .second] [(.int (1 : Int32))])) _
    exact own_retN (t := .boolean) (z' := (1 : Int32)) X111 hx hlk hret (by simp) (by decide) (hb hby at_174) (by decide) (by decide) (e111.trans hh111) ⟨rfl, N110⟩
  · show own_Goes p e below (s₁.setTop (mkF m 6 #[.val (.int p1), .val (.int p2), .val (.int p3), .val (.int p4), .val (.int p5), .unset, .unset, .unset, .unset, .unset, .unset, .unset, .unset, .unset, .unset] [(.int (3 : Int32))])) _
    refine own_st (fun _ k => XS.istore X0.here hx rfl (hb hby at_6) rfl (l' := #[.val (.int p1), .val (.int p2), .val (.int p3), .val (.int p4), .val (.int p5), .val (.int (3 : Int32)), .unset, .unset, .unset, .unset, .unset, .unset, .unset, .unset, .unset]) rfl k) ?_
    show own_Goes p e below (s₁.setTop (mkF m 8 #[.val (.int p1), .val (.int p2), .val (.int p3), .val (.int p4), .val (.int p5), .val (.int (3 : Int32)), .unset, .unset, .unset, .unset, .unset, .unset, .unset, .unset, .unset] [])) _
    refine own_st (fun _ k => XS.iloadN X0.here hx rfl (hb hby at_8) rfl k) ?_
    show own_Goes p e below (s₁.setTop (mkF m 9 #[.val (.int p1), .val (.int p2), .val (.int p3), .val (.int p4), .val (.int p5), .val (.int (3 : Int32)), .unset, .unset, .unset, .unset, .unset, .unset, .unset, .unset, .unset] [(.int p2)])) _
    refine own_st (fun _ k => XS.bipush X0.here hx rfl (hb hby at_9) k) ?_
    show own_Goes p e below (s₁.setTop (mkF m 11 #[.val (.int p1), .val (.int p2), .val (.int p3), .val (.int p4), .val (.int p5), .val (.int (3 : Int32)), .unset, .unset, .unset, .unset, .unset, .unset, .unset, .unset, .unset] [(.int (6 : Int32)), (.int p2)])) _
    refine own_st (fun _ k => XT.ishl X0.here hx rfl (hb hby at_11) rfl k) ?_
    show own_Goes p e below (s₁.setTop (mkF m 12 #[.val (.int p1), .val (.int p2), .val (.int p3), .val (.int p4), .val (.int p5), .val (.int (3 : Int32)), .unset, .unset, .unset, .unset, .unset, .unset, .unset, .unset, .unset] [(.int (p2 <<< ((6 : Int32) &&& 31)))])) _
    refine own_st (fun _ k => XS.bipush X0.here hx rfl (hb hby at_12) k) ?_
    show own_Goes p e below (s₁.setTop (mkF m 14 #[.val (.int p1), .val (.int p2), .val (.int p3), .val (.int p4), .val (.int p5), .val (.int (3 : Int32)), .unset, .unset, .unset, .unset, .unset, .unset, .unset, .unset, .unset] [(.int (6 : Int32)), (.int (p2 <<< ((6 : Int32) &&& 31)))])) _
    refine own_st (fun _ k => XT.ishr X0.here hx rfl (hb hby at_14) rfl k) ?_
    show own_Goes p e below (s₁.setTop (mkF m 15 #[.val (.int p1), .val (.int p2), .val (.int p3), .val (.int p4), .val (.int p5), .val (.int (3 : Int32)), .unset, .unset, .unset, .unset, .unset, .unset, .unset, .unset, .unset] [(.int ((p2 <<< ((6 : Int32) &&& 31)) >>> ((6 : Int32) &&& 31)))])) _
    obtain ⟨va, he_va, B_va⟩ := own_b26 p2
    rw [he_va]
    show own_Goes p e below (s₁.setTop (mkF m 15 #[.val (.int p1), .val (.int p2), .val (.int p3), .val (.int p4), .val (.int p5), .val (.int (3 : Int32)), .unset, .unset, .unset, .unset, .unset, .unset, .unset, .unset, .unset] [(.int va)])) _
    refine own_st (fun _ k => XS.istore X0.here hx rfl (hb hby at_15) rfl (l' := #[.val (.int p1), .val (.int p2), .val (.int p3), .val (.int p4), .val (.int p5), .val (.int (3 : Int32)), .val (.int va), .unset, .unset, .unset, .unset, .unset, .unset, .unset, .unset]) rfl k) ?_
    show own_Goes p e below (s₁.setTop (mkF m 17 #[.val (.int p1), .val (.int p2), .val (.int p3), .val (.int p4), .val (.int p5), .val (.int (3 : Int32)), .val (.int va), .unset, .unset, .unset, .unset, .unset, .unset, .unset, .unset] [])) _
    refine own_st (fun _ k => XS.iloadN X0.here hx rfl (hb hby at_17) rfl k) ?_
    show own_Goes p e below (s₁.setTop (mkF m 18 #[.val (.int p1), .val (.int p2), .val (.int p3), .val (.int p4), .val (.int p5), .val (.int (3 : Int32)), .val (.int va), .unset, .unset, .unset, .unset, .unset, .unset, .unset, .unset] [(.int p3)])) _
    refine own_st (fun _ k => XS.bipush X0.here hx rfl (hb hby at_18) k) ?_
    show own_Goes p e below (s₁.setTop (mkF m 20 #[.val (.int p1), .val (.int p2), .val (.int p3), .val (.int p4), .val (.int p5), .val (.int (3 : Int32)), .val (.int va), .unset, .unset, .unset, .unset, .unset, .unset, .unset, .unset] [(.int (6 : Int32)), (.int p3)])) _
    refine own_st (fun _ k => XT.ishl X0.here hx rfl (hb hby at_20) rfl k) ?_
    show own_Goes p e below (s₁.setTop (mkF m 21 #[.val (.int p1), .val (.int p2), .val (.int p3), .val (.int p4), .val (.int p5), .val (.int (3 : Int32)), .val (.int va), .unset, .unset, .unset, .unset, .unset, .unset, .unset, .unset] [(.int (p3 <<< ((6 : Int32) &&& 31)))])) _
    refine own_st (fun _ k => XS.bipush X0.here hx rfl (hb hby at_21) k) ?_
    show own_Goes p e below (s₁.setTop (mkF m 23 #[.val (.int p1), .val (.int p2), .val (.int p3), .val (.int p4), .val (.int p5), .val (.int (3 : Int32)), .val (.int va), .unset, .unset, .unset, .unset, .unset, .unset, .unset, .unset] [(.int (6 : Int32)), (.int (p3 <<< ((6 : Int32) &&& 31)))])) _
    refine own_st (fun _ k => XT.ishr X0.here hx rfl (hb hby at_23) rfl k) ?_
    show own_Goes p e below (s₁.setTop (mkF m 24 #[.val (.int p1), .val (.int p2), .val (.int p3), .val (.int p4), .val (.int p5), .val (.int (3 : Int32)), .val (.int va), .unset, .unset, .unset, .unset, .unset, .unset, .unset, .unset] [(.int ((p3 <<< ((6 : Int32) &&& 31)) >>> ((6 : Int32) &&& 31)))])) _
    obtain ⟨vb, he_vb, B_vb⟩ := own_b26 p3
    rw [he_vb]
    show own_Goes p e below (s₁.setTop (mkF m 24 #[.val (.int p1), .val (.int p2), .val (.int p3), .val (.int p4), .val (.int p5), .val (.int (3 : Int32)), .val (.int va), .unset, .unset, .unset, .unset, .unset, .unset, .unset, .unset] [(.int vb)])) _
    refine own_st (fun _ k => XS.istore X0.here hx rfl (hb hby at_24) rfl (l' := #[.val (.int p1), .val (.int p2), .val (.int p3), .val (.int p4), .val (.int p5), .val (.int (3 : Int32)), .val (.int va), .val (.int vb), .unset, .unset, .unset, .unset, .unset, .unset, .unset]) rfl k) ?_
    show own_Goes p e below (s₁.setTop (mkF m 26 #[.val (.int p1), .val (.int p2), .val (.int p3), .val (.int p4), .val (.int p5), .val (.int (3 : Int32)), .val (.int va), .val (.int vb), .unset, .unset, .unset, .unset, .unset, .unset, .unset] [])) _
    refine own_st (fun _ k => XS.iloadN X0.here hx rfl (hb hby at_26) rfl k) ?_
    show own_Goes p e below (s₁.setTop (mkF m 27 #[.val (.int p1), .val (.int p2), .val (.int p3), .val (.int p4), .val (.int p5), .val (.int (3 : Int32)), .val (.int va), .val (.int vb), .unset, .unset, .unset, .unset, .unset, .unset, .unset] [(.int p4)])) _
    refine own_st (fun _ k => XS.bipush X0.here hx rfl (hb hby at_27) k) ?_
    show own_Goes p e below (s₁.setTop (mkF m 29 #[.val (.int p1), .val (.int p2), .val (.int p3), .val (.int p4), .val (.int p5), .val (.int (3 : Int32)), .val (.int va), .val (.int vb), .unset, .unset, .unset, .unset, .unset, .unset, .unset] [(.int (6 : Int32)), (.int p4)])) _
    refine own_st (fun _ k => XT.ishl X0.here hx rfl (hb hby at_29) rfl k) ?_
    show own_Goes p e below (s₁.setTop (mkF m 30 #[.val (.int p1), .val (.int p2), .val (.int p3), .val (.int p4), .val (.int p5), .val (.int (3 : Int32)), .val (.int va), .val (.int vb), .unset, .unset, .unset, .unset, .unset, .unset, .unset] [(.int (p4 <<< ((6 : Int32) &&& 31)))])) _
    refine own_st (fun _ k => XS.bipush X0.here hx rfl (hb hby at_30) k) ?_
    show own_Goes p e below (s₁.setTop (mkF m 32 #[.val (.int p1), .val (.int p2), .val (.int p3), .val (.int p4), .val (.int p5), .val (.int (3 : Int32)), .val (.int va), .val (.int vb), .unset, .unset, .unset, .unset, .unset, .unset, .unset] [(.int (6 : Int32)), (.int (p4 <<< ((6 : Int32) &&& 31)))])) _
    refine own_st (fun _ k => XT.ishr X0.here hx rfl (hb hby at_32) rfl k) ?_
    show own_Goes p e below (s₁.setTop (mkF m 33 #[.val (.int p1), .val (.int p2), .val (.int p3), .val (.int p4), .val (.int p5), .val (.int (3 : Int32)), .val (.int va), .val (.int vb), .unset, .unset, .unset, .unset, .unset, .unset, .unset] [(.int ((p4 <<< ((6 : Int32) &&& 31)) >>> ((6 : Int32) &&& 31)))])) _
    obtain ⟨vc, he_vc, B_vc⟩ := own_b26 p4
    rw [he_vc]
    show own_Goes p e below (s₁.setTop (mkF m 33 #[.val (.int p1), .val (.int p2), .val (.int p3), .val (.int p4), .val (.int p5), .val (.int (3 : Int32)), .val (.int va), .val (.int vb), .unset, .unset, .unset, .unset, .unset, .unset, .unset] [(.int vc)])) _
    refine own_st (fun _ k => XS.istore X0.here hx rfl (hb hby at_33) rfl (l' := #[.val (.int p1), .val (.int p2), .val (.int p3), .val (.int p4), .val (.int p5), .val (.int (3 : Int32)), .val (.int va), .val (.int vb), .val (.int vc), .unset, .unset, .unset, .unset, .unset, .unset]) rfl k) ?_
    show own_Goes p e below (s₁.setTop (mkF m 35 #[.val (.int p1), .val (.int p2), .val (.int p3), .val (.int p4), .val (.int p5), .val (.int (3 : Int32)), .val (.int va), .val (.int vb), .val (.int vc), .unset, .unset, .unset, .unset, .unset, .unset] [])) _
    refine own_st (fun _ k => XS.iload X0.here hx rfl (hb hby at_35) rfl k) ?_
    show own_Goes p e below (s₁.setTop (mkF m 37 #[.val (.int p1), .val (.int p2), .val (.int p3), .val (.int p4), .val (.int p5), .val (.int (3 : Int32)), .val (.int va), .val (.int vb), .val (.int vc), .unset, .unset, .unset, .unset, .unset, .unset] [(.int p5)])) _
    refine own_st (fun _ k => XS.bipush X0.here hx rfl (hb hby at_37) k) ?_
    show own_Goes p e below (s₁.setTop (mkF m 39 #[.val (.int p1), .val (.int p2), .val (.int p3), .val (.int p4), .val (.int p5), .val (.int (3 : Int32)), .val (.int va), .val (.int vb), .val (.int vc), .unset, .unset, .unset, .unset, .unset, .unset] [(.int (6 : Int32)), (.int p5)])) _
    refine own_st (fun _ k => XT.ishl X0.here hx rfl (hb hby at_39) rfl k) ?_
    show own_Goes p e below (s₁.setTop (mkF m 40 #[.val (.int p1), .val (.int p2), .val (.int p3), .val (.int p4), .val (.int p5), .val (.int (3 : Int32)), .val (.int va), .val (.int vb), .val (.int vc), .unset, .unset, .unset, .unset, .unset, .unset] [(.int (p5 <<< ((6 : Int32) &&& 31)))])) _
    refine own_st (fun _ k => XS.bipush X0.here hx rfl (hb hby at_40) k) ?_
    show own_Goes p e below (s₁.setTop (mkF m 42 #[.val (.int p1), .val (.int p2), .val (.int p3), .val (.int p4), .val (.int p5), .val (.int (3 : Int32)), .val (.int va), .val (.int vb), .val (.int vc), .unset, .unset, .unset, .unset, .unset, .unset] [(.int (6 : Int32)), (.int (p5 <<< ((6 : Int32) &&& 31)))])) _
    refine own_st (fun _ k => XT.ishr X0.here hx rfl (hb hby at_42) rfl k) ?_
    show own_Goes p e below (s₁.setTop (mkF m 43 #[.val (.int p1), .val (.int p2), .val (.int p3), .val (.int p4), .val (.int p5), .val (.int (3 : Int32)), .val (.int va), .val (.int vb), .val (.int vc), .unset, .unset, .unset, .unset, .unset, .unset] [(.int ((p5 <<< ((6 : Int32) &&& 31)) >>> ((6 : Int32) &&& 31)))])) _
    obtain ⟨vd, he_vd, B_vd⟩ := own_b26 p5
    rw [he_vd]
    show own_Goes p e below (s₁.setTop (mkF m 43 #[.val (.int p1), .val (.int p2), .val (.int p3), .val (.int p4), .val (.int p5), .val (.int (3 : Int32)), .val (.int va), .val (.int vb), .val (.int vc), .unset, .unset, .unset, .unset, .unset, .unset] [(.int vd)])) _
    refine own_st (fun _ k => XS.istore X0.here hx rfl (hb hby at_43) rfl (l' := #[.val (.int p1), .val (.int p2), .val (.int p3), .val (.int p4), .val (.int p5), .val (.int (3 : Int32)), .val (.int va), .val (.int vb), .val (.int vc), .val (.int vd), .unset, .unset, .unset, .unset, .unset]) rfl k) ?_
    show own_Goes p e below (s₁.setTop (mkF m 45 #[.val (.int p1), .val (.int p2), .val (.int p3), .val (.int p4), .val (.int p5), .val (.int (3 : Int32)), .val (.int va), .val (.int vb), .val (.int vc), .val (.int vd), .unset, .unset, .unset, .unset, .unset] [])) _
    refine own_st (fun _ k => XS.iload X0.here hx rfl (hb hby at_45) rfl k) ?_
    show own_Goes p e below (s₁.setTop (mkF m 47 #[.val (.int p1), .val (.int p2), .val (.int p3), .val (.int p4), .val (.int p5), .val (.int (3 : Int32)), .val (.int va), .val (.int vb), .val (.int vc), .val (.int vd), .unset, .unset, .unset, .unset, .unset] [(.int (3 : Int32))])) _
    obtain ⟨T113, h113, k113, X113, e113, E113, A113, st113⟩ := newP X0 hx hZ (hw _ (List.mem_of_getElem? (i := 0) rfl)) e0 (g := (mkF m 47 #[.val (.int p1), .val (.int p2), .val (.int p3), .val (.int p4), .val (.int p5), .val (.int (3 : Int32)), .val (.int va), .val (.int vb), .val (.int vc), .val (.int vd), .unset, .unset, .unset, .unset, .unset] [(.int (3 : Int32))])) rfl (hb hby at_47) rfl (by decide) (cap := 3) (by decide) (by decide) (by decide) (by decide)
    obtain ⟨b113, g113⟩ : ∃ z, z = h0.size := ⟨_, rfl⟩
    rw [← g113] at A113 st113
    have g_b113 : n0 ≤ b113 := Nat.le_trans Z0 (Nat.le_of_eq g113.symm)
    have V_b113 : Arv Z h113 b113 k113 .double (3 : Int32) [(.double 0), (.double 0), (.double 0)] (.double 0) := Arv.pad (Arv.new A113 (by decide)) (pad_rep [] _ 3)
    refine own_st st113 ?_
    show own_Goes p e below (T113.setTop (mkF m 49 #[.val (.int p1), .val (.int p2), .val (.int p3), .val (.int p4), .val (.int p5), .val (.int (3 : Int32)), .val (.int va), .val (.int vb), .val (.int vc), .val (.int vd), .unset, .unset, .unset, .unset, .unset] [(.ref b113)])) _
    refine own_st (fun _ k => XS.astore X113.here hx rfl (hb hby at_49) rfl rfl (l' := #[.val (.int p1), .val (.int p2), .val (.int p3), .val (.int p4), .val (.int p5), .val (.int (3 : Int32)), .val (.int va), .val (.int vb), .val (.int vc), .val (.int vd), .val (.ref b113), .unset, .unset, .unset, .unset]) rfl k) ?_
    show own_Goes p e below (T113.setTop (mkF m 51 #[.val (.int p1), .val (.int p2), .val (.int p3), .val (.int p4), .val (.int p5), .val (.int (3 : Int32)), .val (.int va), .val (.int vb), .val (.int vc), .val (.int vd), .val (.ref b113), .unset, .unset, .unset, .unset] [])) _
    refine own_st (fun _ k => XT.lconst X113.here hx rfl (hb hby at_51) k) ?_
    show own_Goes p e below (T113.setTop (mkF m 52 #[.val (.int p1), .val (.int p2), .val (.int p3), .val (.int p4), .val (.int p5), .val (.int (3 : Int32)), .val (.int va), .val (.int vb), .val (.int vc), .val (.int vd), .val (.ref b113), .unset, .unset, .unset, .unset] [(.long (0 : Int64))])) _
    refine own_st (fun _ k => XT.lstore X113.here hx rfl (hb hby at_52) rfl (l' := #[.val (.int p1), .val (.int p2), .val (.int p3), .val (.int p4), .val (.int p5), .val (.int (3 : Int32)), .val (.int va), .val (.int vb), .val (.int vc), .val (.int vd), .val (.ref b113), .val (.long (0 : Int64)), .second, .unset, .unset]) rfl k) ?_
    show own_Goes p e below (T113.setTop (mkF m 54 #[.val (.int p1), .val (.int p2), .val (.int p3), .val (.int p4), .val (.int p5), .val (.int (3 : Int32)), .val (.int va), .val (.int vb), .val (.int vc), .val (.int vd), .val (.ref b113), .val (.long (0 : Int64)), .second, .unset, .unset] [])) _
    refine own_st (fun _ k => XS.iload X113.here hx rfl (hb hby at_54) rfl k) ?_
    show own_Goes p e below (T113.setTop (mkF m 56 #[.val (.int p1), .val (.int p2), .val (.int p3), .val (.int p4), .val (.int p5), .val (.int (3 : Int32)), .val (.int va), .val (.int vb), .val (.int vc), .val (.int vd), .val (.ref b113), .val (.long (0 : Int64)), .second, .unset, .unset] [(.int (3 : Int32))])) _
    refine own_st (fun _ k => XS.ifNo X113.here hx rfl (hb hby at_56) rfl ((if0 _ _).trans (tlt (by decide : (0 : Int32) < (3 : Int32))).2.2.2) k) ?_
    show own_Goes p e below (T113.setTop (mkF m 59 #[.val (.int p1), .val (.int p2), .val (.int p3), .val (.int p4), .val (.int p5), .val (.int (3 : Int32)), .val (.int va), .val (.int vb), .val (.int vc), .val (.int vd), .val (.ref b113), .val (.long (0 : Int64)), .second, .unset, .unset] [])) _
    refine own_st (fun _ k => XS.aload X113.here hx rfl (hb hby at_59) rfl rfl k) ?_
    show own_Goes p e below (T113.setTop (mkF m 61 #[.val (.int p1), .val (.int p2), .val (.int p3), .val (.int p4), .val (.int p5), .val (.int (3 : Int32)), .val (.int va), .val (.int vb), .val (.int vc), .val (.int vd), .val (.ref b113), .val (.long (0 : Int64)), .second, .unset, .unset] [(.ref b113)])) _
    refine own_st (fun _ k => XS.iconst X113.here hx rfl (hb hby at_61) k) ?_
    show own_Goes p e below (T113.setTop (mkF m 62 #[.val (.int p1), .val (.int p2), .val (.int p3), .val (.int p4), .val (.int p5), .val (.int (3 : Int32)), .val (.int va), .val (.int vb), .val (.int vc), .val (.int vd), .val (.ref b113), .val (.long (0 : Int64)), .second, .unset, .unset] [(.int (0 : Int32)), (.ref b113)])) _
    refine own_st (fun _ k => XS.iload X113.here hx rfl (hb hby at_62) rfl k) ?_
    show own_Goes p e below (T113.setTop (mkF m 64 #[.val (.int p1), .val (.int p2), .val (.int p3), .val (.int p4), .val (.int p5), .val (.int (3 : Int32)), .val (.int va), .val (.int vb), .val (.int vc), .val (.int vd), .val (.ref b113), .val (.long (0 : Int64)), .second, .unset, .unset] [(.int va), (.int (0 : Int32)), (.ref b113)])) _
    refine own_st (fun _ k => own_i2d X113.here hx rfl (hb hby at_64) rfl k) ?_
    show own_Goes p e below (T113.setTop (mkF m 65 #[.val (.int p1), .val (.int p2), .val (.int p3), .val (.int p4), .val (.int p5), .val (.int (3 : Int32)), .val (.int va), .val (.int vb), .val (.int vc), .val (.int vd), .val (.ref b113), .val (.long (0 : Int64)), .second, .unset, .unset] [(.double (FP.i2d va)), (.int (0 : Int32)), (.ref b113)])) _
    obtain ⟨T114, h114, X114, e114, W114, V114, st114⟩ := own_stD (x := (FP.i2d va)) (pc := 65) (Ls := #[.val (.int p1), .val (.int p2), .val (.int p3), .val (.int p4), .val (.int p5), .val (.int (3 : Int32)), .val (.int va), .val (.int vb), .val (.int vc), .val (.int vd), .val (.ref b113), .val (.long (0 : Int64)), .second, .unset, .unset]) (rest := []) (j := (0 : Int32)) X113 hx hZ e113 V_b113 0 (by decide) (by decide) (Nat.le_of_ble_eq_true rfl) (hb hby at_65)
    have V114 : Arv Z h114 b113 k113 .double (3 : Int32) [(.double (FP.i2d va)), (.double 0), (.double 0)] (.double 0) := V114
    have N114 := Fr.snoc X114 N0 g_b113
    refine own_st st114 ?_
    show own_Goes p e below (T114.setTop (mkF m 66 #[.val (.int p1), .val (.int p2), .val (.int p3), .val (.int p4), .val (.int p5), .val (.int (3 : Int32)), .val (.int va), .val (.int vb), .val (.int vc), .val (.int vd), .val (.ref b113), .val (.long (0 : Int64)), .second, .unset, .unset] [])) _
    refine own_st (fun _ k => XT.lload X114.here hx rfl (hb hby at_66) rfl k) ?_
    show own_Goes p e below (T114.setTop (mkF m 68 #[.val (.int p1), .val (.int p2), .val (.int p3), .val (.int p4), .val (.int p5), .val (.int (3 : Int32)), .val (.int va), .val (.int vb), .val (.int vc), .val (.int vd), .val (.ref b113), .val (.long (0 : Int64)), .second, .unset, .unset] [(.long (0 : Int64))])) _
    refine own_st (fun _ k => XS.iload X114.here hx rfl (hb hby at_68) rfl k) ?_
    show own_Goes p e below (T114.setTop (mkF m 70 #[.val (.int p1), .val (.int p2), .val (.int p3), .val (.int p4), .val (.int p5), .val (.int (3 : Int32)), .val (.int va), .val (.int vb), .val (.int vc), .val (.int vd), .val (.ref b113), .val (.long (0 : Int64)), .second, .unset, .unset] [(.int va), (.long (0 : Int64))])) _
    refine own_st (fun _ k => XT.i2l X114.here hx rfl (hb hby at_70) rfl k) ?_
    show own_Goes p e below (T114.setTop (mkF m 71 #[.val (.int p1), .val (.int p2), .val (.int p3), .val (.int p4), .val (.int p5), .val (.int (3 : Int32)), .val (.int va), .val (.int vb), .val (.int vc), .val (.int vd), .val (.ref b113), .val (.long (0 : Int64)), .second, .unset, .unset] [(.long va.toInt64), (.long (0 : Int64))])) _
    refine own_st (fun _ k => XS.iload X114.here hx rfl (hb hby at_71) rfl k) ?_
    show own_Goes p e below (T114.setTop (mkF m 73 #[.val (.int p1), .val (.int p2), .val (.int p3), .val (.int p4), .val (.int p5), .val (.int (3 : Int32)), .val (.int va), .val (.int vb), .val (.int vc), .val (.int vd), .val (.ref b113), .val (.long (0 : Int64)), .second, .unset, .unset] [(.int va), (.long va.toInt64), (.long (0 : Int64))])) _
    refine own_st (fun _ k => XT.i2l X114.here hx rfl (hb hby at_73) rfl k) ?_
    show own_Goes p e below (T114.setTop (mkF m 74 #[.val (.int p1), .val (.int p2), .val (.int p3), .val (.int p4), .val (.int p5), .val (.int (3 : Int32)), .val (.int va), .val (.int vb), .val (.int vc), .val (.int vd), .val (.ref b113), .val (.long (0 : Int64)), .second, .unset, .unset] [(.long va.toInt64), (.long va.toInt64), (.long (0 : Int64))])) _
    refine own_st (fun _ k => XT.lmul X114.here hx rfl (hb hby at_74) rfl k) ?_
    show own_Goes p e below (T114.setTop (mkF m 75 #[.val (.int p1), .val (.int p2), .val (.int p3), .val (.int p4), .val (.int p5), .val (.int (3 : Int32)), .val (.int va), .val (.int vb), .val (.int vc), .val (.int vd), .val (.ref b113), .val (.long (0 : Int64)), .second, .unset, .unset] [(.long (va.toInt64 * va.toInt64)), (.long (0 : Int64))])) _
    refine own_st (fun _ k => XT.ladd X114.here hx rfl (hb hby at_75) rfl k) ?_
    show own_Goes p e below (T114.setTop (mkF m 76 #[.val (.int p1), .val (.int p2), .val (.int p3), .val (.int p4), .val (.int p5), .val (.int (3 : Int32)), .val (.int va), .val (.int vb), .val (.int vc), .val (.int vd), .val (.ref b113), .val (.long (0 : Int64)), .second, .unset, .unset] [(.long ((0 : Int64) + (va.toInt64 * va.toInt64)))])) _
    refine own_st (fun _ k => XT.lstore X114.here hx rfl (hb hby at_76) rfl (l' := #[.val (.int p1), .val (.int p2), .val (.int p3), .val (.int p4), .val (.int p5), .val (.int (3 : Int32)), .val (.int va), .val (.int vb), .val (.int vc), .val (.int vd), .val (.ref b113), .val (.long ((0 : Int64) + (va.toInt64 * va.toInt64))), .second, .unset, .unset]) rfl k) ?_
    show own_Goes p e below (T114.setTop (mkF m 78 #[.val (.int p1), .val (.int p2), .val (.int p3), .val (.int p4), .val (.int p5), .val (.int (3 : Int32)), .val (.int va), .val (.int vb), .val (.int vc), .val (.int vd), .val (.ref b113), .val (.long ((0 : Int64) + (va.toInt64 * va.toInt64))), .second, .unset, .unset] [])) _
    refine own_st (fun _ k => XS.iload X114.here hx rfl (hb hby at_78) rfl k) ?_
    show own_Goes p e below (T114.setTop (mkF m 80 #[.val (.int p1), .val (.int p2), .val (.int p3), .val (.int p4), .val (.int p5), .val (.int (3 : Int32)), .val (.int va), .val (.int vb), .val (.int vc), .val (.int vd), .val (.ref b113), .val (.long ((0 : Int64) + (va.toInt64 * va.toInt64))), .second, .unset, .unset] [(.int (3 : Int32))])) _
    refine own_st (fun _ k => XS.iconst X114.here hx rfl (hb hby at_80) k) ?_
    show own_Goes p e below (T114.setTop (mkF m 81 #[.val (.int p1), .val (.int p2), .val (.int p3), .val (.int p4), .val (.int p5), .val (.int (3 : Int32)), .val (.int va), .val (.int vb), .val (.int vc), .val (.int vd), .val (.ref b113), .val (.long ((0 : Int64) + (va.toInt64 * va.toInt64))), .second, .unset, .unset] [(.int (1 : Int32)), (.int (3 : Int32))])) _
    refine own_st (fun _ k => XS.icmpNo X114.here hx rfl (hb hby at_81) rfl (tlt (by decide : (1 : Int32) < (3 : Int32))).2.2.2 k) ?_
    show own_Goes p e below (T114.setTop (mkF m 84 #[.val (.int p1), .val (.int p2), .val (.int p3), .val (.int p4), .val (.int p5), .val (.int (3 : Int32)), .val (.int va), .val (.int vb), .val (.int vc), .val (.int vd), .val (.ref b113), .val (.long ((0 : Int64) + (va.toInt64 * va.toInt64))), .second, .unset, .unset] [])) _
    refine own_st (fun _ k => XS.aload X114.here hx rfl (hb hby at_84) rfl rfl k) ?_
    show own_Goes p e below (T114.setTop (mkF m 86 #[.val (.int p1), .val (.int p2), .val (.int p3), .val (.int p4), .val (.int p5), .val (.int (3 : Int32)), .val (.int va), .val (.int vb), .val (.int vc), .val (.int vd), .val (.ref b113), .val (.long ((0 : Int64) + (va.toInt64 * va.toInt64))), .second, .unset, .unset] [(.ref b113)])) _
    refine own_st (fun _ k => XS.iconst X114.here hx rfl (hb hby at_86) k) ?_
    show own_Goes p e below (T114.setTop (mkF m 87 #[.val (.int p1), .val (.int p2), .val (.int p3), .val (.int p4), .val (.int p5), .val (.int (3 : Int32)), .val (.int va), .val (.int vb), .val (.int vc), .val (.int vd), .val (.ref b113), .val (.long ((0 : Int64) + (va.toInt64 * va.toInt64))), .second, .unset, .unset] [(.int (1 : Int32)), (.ref b113)])) _
    refine own_st (fun _ k => XS.iload X114.here hx rfl (hb hby at_87) rfl k) ?_
    show own_Goes p e below (T114.setTop (mkF m 89 #[.val (.int p1), .val (.int p2), .val (.int p3), .val (.int p4), .val (.int p5), .val (.int (3 : Int32)), .val (.int va), .val (.int vb), .val (.int vc), .val (.int vd), .val (.ref b113), .val (.long ((0 : Int64) + (va.toInt64 * va.toInt64))), .second, .unset, .unset] [(.int vb), (.int (1 : Int32)), (.ref b113)])) _
    refine own_st (fun _ k => own_i2d X114.here hx rfl (hb hby at_89) rfl k) ?_
    show own_Goes p e below (T114.setTop (mkF m 90 #[.val (.int p1), .val (.int p2), .val (.int p3), .val (.int p4), .val (.int p5), .val (.int (3 : Int32)), .val (.int va), .val (.int vb), .val (.int vc), .val (.int vd), .val (.ref b113), .val (.long ((0 : Int64) + (va.toInt64 * va.toInt64))), .second, .unset, .unset] [(.double (FP.i2d vb)), (.int (1 : Int32)), (.ref b113)])) _
    obtain ⟨T115, h115, X115, e115, W115, V115, st115⟩ := own_stD (x := (FP.i2d vb)) (pc := 90) (Ls := #[.val (.int p1), .val (.int p2), .val (.int p3), .val (.int p4), .val (.int p5), .val (.int (3 : Int32)), .val (.int va), .val (.int vb), .val (.int vc), .val (.int vd), .val (.ref b113), .val (.long ((0 : Int64) + (va.toInt64 * va.toInt64))), .second, .unset, .unset]) (rest := []) (j := (1 : Int32)) X114 hx hZ e114 V114 1 (by decide) (by decide) (Nat.le_of_ble_eq_true rfl) (hb hby at_90)
    have V115 : Arv Z h115 b113 k113 .double (3 : Int32) [(.double (FP.i2d va)), (.double (FP.i2d vb)), (.double 0)] (.double 0) := V115
    have N115 := Fr.snoc X115 N114 g_b113
    refine own_st st115 ?_
    show own_Goes p e below (T115.setTop (mkF m 91 #[.val (.int p1), .val (.int p2), .val (.int p3), .val (.int p4), .val (.int p5), .val (.int (3 : Int32)), .val (.int va), .val (.int vb), .val (.int vc), .val (.int vd), .val (.ref b113), .val (.long ((0 : Int64) + (va.toInt64 * va.toInt64))), .second, .unset, .unset] [])) _
    refine own_st (fun _ k => XT.lload X115.here hx rfl (hb hby at_91) rfl k) ?_
    show own_Goes p e below (T115.setTop (mkF m 93 #[.val (.int p1), .val (.int p2), .val (.int p3), .val (.int p4), .val (.int p5), .val (.int (3 : Int32)), .val (.int va), .val (.int vb), .val (.int vc), .val (.int vd), .val (.ref b113), .val (.long ((0 : Int64) + (va.toInt64 * va.toInt64))), .second, .unset, .unset] [(.long ((0 : Int64) + (va.toInt64 * va.toInt64)))])) _
    refine own_st (fun _ k => XS.iload X115.here hx rfl (hb hby at_93) rfl k) ?_
    show own_Goes p e below (T115.setTop (mkF m 95 #[.val (.int p1), .val (.int p2), .val (.int p3), .val (.int p4), .val (.int p5), .val (.int (3 : Int32)), .val (.int va), .val (.int vb), .val (.int vc), .val (.int vd), .val (.ref b113), .val (.long ((0 : Int64) + (va.toInt64 * va.toInt64))), .second, .unset, .unset] [(.int vb), (.long ((0 : Int64) + (va.toInt64 * va.toInt64)))])) _
    refine own_st (fun _ k => XT.i2l X115.here hx rfl (hb hby at_95) rfl k) ?_
    show own_Goes p e below (T115.setTop (mkF m 96 #[.val (.int p1), .val (.int p2), .val (.int p3), .val (.int p4), .val (.int p5), .val (.int (3 : Int32)), .val (.int va), .val (.int vb), .val (.int vc), .val (.int vd), .val (.ref b113), .val (.long ((0 : Int64) + (va.toInt64 * va.toInt64))), .second, .unset, .unset] [(.long vb.toInt64), (.long ((0 : Int64) + (va.toInt64 * va.toInt64)))])) _
    refine own_st (fun _ k => XS.iload X115.here hx rfl (hb hby at_96) rfl k) ?_
    show own_Goes p e below (T115.setTop (mkF m 98 #[.val (.int p1), .val (.int p2), .val (.int p3), .val (.int p4), .val (.int p5), .val (.int (3 : Int32)), .val (.int va), .val (.int vb), .val (.int vc), .val (.int vd), .val (.ref b113), .val (.long ((0 : Int64) + (va.toInt64 * va.toInt64))), .second, .unset, .unset] [(.int vb), (.long vb.toInt64), (.long ((0 : Int64) + (va.toInt64 * va.toInt64)))])) _
    refine own_st (fun _ k => XT.i2l X115.here hx rfl (hb hby at_98) rfl k) ?_
    show own_Goes p e below (T115.setTop (mkF m 99 #[.val (.int p1), .val (.int p2), .val (.int p3), .val (.int p4), .val (.int p5), .val (.int (3 : Int32)), .val (.int va), .val (.int vb), .val (.int vc), .val (.int vd), .val (.ref b113), .val (.long ((0 : Int64) + (va.toInt64 * va.toInt64))), .second, .unset, .unset] [(.long vb.toInt64), (.long vb.toInt64), (.long ((0 : Int64) + (va.toInt64 * va.toInt64)))])) _
    refine own_st (fun _ k => XT.lmul X115.here hx rfl (hb hby at_99) rfl k) ?_
    show own_Goes p e below (T115.setTop (mkF m 100 #[.val (.int p1), .val (.int p2), .val (.int p3), .val (.int p4), .val (.int p5), .val (.int (3 : Int32)), .val (.int va), .val (.int vb), .val (.int vc), .val (.int vd), .val (.ref b113), .val (.long ((0 : Int64) + (va.toInt64 * va.toInt64))), .second, .unset, .unset] [(.long (vb.toInt64 * vb.toInt64)), (.long ((0 : Int64) + (va.toInt64 * va.toInt64)))])) _
    refine own_st (fun _ k => XT.ladd X115.here hx rfl (hb hby at_100) rfl k) ?_
    show own_Goes p e below (T115.setTop (mkF m 101 #[.val (.int p1), .val (.int p2), .val (.int p3), .val (.int p4), .val (.int p5), .val (.int (3 : Int32)), .val (.int va), .val (.int vb), .val (.int vc), .val (.int vd), .val (.ref b113), .val (.long ((0 : Int64) + (va.toInt64 * va.toInt64))), .second, .unset, .unset] [(.long (((0 : Int64) + (va.toInt64 * va.toInt64)) + (vb.toInt64 * vb.toInt64)))])) _
    refine own_st (fun _ k => XT.lstore X115.here hx rfl (hb hby at_101) rfl (l' := #[.val (.int p1), .val (.int p2), .val (.int p3), .val (.int p4), .val (.int p5), .val (.int (3 : Int32)), .val (.int va), .val (.int vb), .val (.int vc), .val (.int vd), .val (.ref b113), .val (.long (((0 : Int64) + (va.toInt64 * va.toInt64)) + (vb.toInt64 * vb.toInt64))), .second, .unset, .unset]) rfl k) ?_
    show own_Goes p e below (T115.setTop (mkF m 103 #[.val (.int p1), .val (.int p2), .val (.int p3), .val (.int p4), .val (.int p5), .val (.int (3 : Int32)), .val (.int va), .val (.int vb), .val (.int vc), .val (.int vd), .val (.ref b113), .val (.long (((0 : Int64) + (va.toInt64 * va.toInt64)) + (vb.toInt64 * vb.toInt64))), .second, .unset, .unset] [])) _
    refine own_st (fun _ k => XS.iload X115.here hx rfl (hb hby at_103) rfl k) ?_
    show own_Goes p e below (T115.setTop (mkF m 105 #[.val (.int p1), .val (.int p2), .val (.int p3), .val (.int p4), .val (.int p5), .val (.int (3 : Int32)), .val (.int va), .val (.int vb), .val (.int vc), .val (.int vd), .val (.ref b113), .val (.long (((0 : Int64) + (va.toInt64 * va.toInt64)) + (vb.toInt64 * vb.toInt64))), .second, .unset, .unset] [(.int (3 : Int32))])) _
    refine own_st (fun _ k => XS.iconst X115.here hx rfl (hb hby at_105) k) ?_
    show own_Goes p e below (T115.setTop (mkF m 106 #[.val (.int p1), .val (.int p2), .val (.int p3), .val (.int p4), .val (.int p5), .val (.int (3 : Int32)), .val (.int va), .val (.int vb), .val (.int vc), .val (.int vd), .val (.ref b113), .val (.long (((0 : Int64) + (va.toInt64 * va.toInt64)) + (vb.toInt64 * vb.toInt64))), .second, .unset, .unset] [(.int (2 : Int32)), (.int (3 : Int32))])) _
    refine own_st (fun _ k => XS.icmpNo X115.here hx rfl (hb hby at_106) rfl (tlt (by decide : (2 : Int32) < (3 : Int32))).2.2.2 k) ?_
    show own_Goes p e below (T115.setTop (mkF m 109 #[.val (.int p1), .val (.int p2), .val (.int p3), .val (.int p4), .val (.int p5), .val (.int (3 : Int32)), .val (.int va), .val (.int vb), .val (.int vc), .val (.int vd), .val (.ref b113), .val (.long (((0 : Int64) + (va.toInt64 * va.toInt64)) + (vb.toInt64 * vb.toInt64))), .second, .unset, .unset] [])) _
    refine own_st (fun _ k => XS.aload X115.here hx rfl (hb hby at_109) rfl rfl k) ?_
    show own_Goes p e below (T115.setTop (mkF m 111 #[.val (.int p1), .val (.int p2), .val (.int p3), .val (.int p4), .val (.int p5), .val (.int (3 : Int32)), .val (.int va), .val (.int vb), .val (.int vc), .val (.int vd), .val (.ref b113), .val (.long (((0 : Int64) + (va.toInt64 * va.toInt64)) + (vb.toInt64 * vb.toInt64))), .second, .unset, .unset] [(.ref b113)])) _
    refine own_st (fun _ k => XS.iconst X115.here hx rfl (hb hby at_111) k) ?_
    show own_Goes p e below (T115.setTop (mkF m 112 #[.val (.int p1), .val (.int p2), .val (.int p3), .val (.int p4), .val (.int p5), .val (.int (3 : Int32)), .val (.int va), .val (.int vb), .val (.int vc), .val (.int vd), .val (.ref b113), .val (.long (((0 : Int64) + (va.toInt64 * va.toInt64)) + (vb.toInt64 * vb.toInt64))), .second, .unset, .unset] [(.int (2 : Int32)), (.ref b113)])) _
    refine own_st (fun _ k => XS.iload X115.here hx rfl (hb hby at_112) rfl k) ?_
    show own_Goes p e below (T115.setTop (mkF m 114 #[.val (.int p1), .val (.int p2), .val (.int p3), .val (.int p4), .val (.int p5), .val (.int (3 : Int32)), .val (.int va), .val (.int vb), .val (.int vc), .val (.int vd), .val (.ref b113), .val (.long (((0 : Int64) + (va.toInt64 * va.toInt64)) + (vb.toInt64 * vb.toInt64))), .second, .unset, .unset] [(.int vc), (.int (2 : Int32)), (.ref b113)])) _
    refine own_st (fun _ k => own_i2d X115.here hx rfl (hb hby at_114) rfl k) ?_
    show own_Goes p e below (T115.setTop (mkF m 115 #[.val (.int p1), .val (.int p2), .val (.int p3), .val (.int p4), .val (.int p5), .val (.int (3 : Int32)), .val (.int va), .val (.int vb), .val (.int vc), .val (.int vd), .val (.ref b113), .val (.long (((0 : Int64) + (va.toInt64 * va.toInt64)) + (vb.toInt64 * vb.toInt64))), .second, .unset, .unset] [(.double (FP.i2d vc)), (.int (2 : Int32)), (.ref b113)])) _
    obtain ⟨T116, h116, X116, e116, W116, V116, st116⟩ := own_stD (x := (FP.i2d vc)) (pc := 115) (Ls := #[.val (.int p1), .val (.int p2), .val (.int p3), .val (.int p4), .val (.int p5), .val (.int (3 : Int32)), .val (.int va), .val (.int vb), .val (.int vc), .val (.int vd), .val (.ref b113), .val (.long (((0 : Int64) + (va.toInt64 * va.toInt64)) + (vb.toInt64 * vb.toInt64))), .second, .unset, .unset]) (rest := []) (j := (2 : Int32)) X115 hx hZ e115 V115 2 (by decide) (by decide) (Nat.le_of_ble_eq_true rfl) (hb hby at_115)
    have V116 : Arv Z h116 b113 k113 .double (3 : Int32) [(.double (FP.i2d va)), (.double (FP.i2d vb)), (.double (FP.i2d vc))] (.double 0) := V116
    have N116 := Fr.snoc X116 N115 g_b113
    refine own_st st116 ?_
    show own_Goes p e below (T116.setTop (mkF m 116 #[.val (.int p1), .val (.int p2), .val (.int p3), .val (.int p4), .val (.int p5), .val (.int (3 : Int32)), .val (.int va), .val (.int vb), .val (.int vc), .val (.int vd), .val (.ref b113), .val (.long (((0 : Int64) + (va.toInt64 * va.toInt64)) + (vb.toInt64 * vb.toInt64))), .second, .unset, .unset] [])) _
    refine own_st (fun _ k => XT.lload X116.here hx rfl (hb hby at_116) rfl k) ?_
    show own_Goes p e below (T116.setTop (mkF m 118 #[.val (.int p1), .val (.int p2), .val (.int p3), .val (.int p4), .val (.int p5), .val (.int (3 : Int32)), .val (.int va), .val (.int vb), .val (.int vc), .val (.int vd), .val (.ref b113), .val (.long (((0 : Int64) + (va.toInt64 * va.toInt64)) + (vb.toInt64 * vb.toInt64))), .second, .unset, .unset] [(.long (((0 : Int64) + (va.toInt64 * va.toInt64)) + (vb.toInt64 * vb.toInt64)))])) _
    refine own_st (fun _ k => XS.iload X116.here hx rfl (hb hby at_118) rfl k) ?_
    show own_Goes p e below (T116.setTop (mkF m 120 #[.val (.int p1), .val (.int p2), .val (.int p3), .val (.int p4), .val (.int p5), .val (.int (3 : Int32)), .val (.int va), .val (.int vb), .val (.int vc), .val (.int vd), .val (.ref b113), .val (.long (((0 : Int64) + (va.toInt64 * va.toInt64)) + (vb.toInt64 * vb.toInt64))), .second, .unset, .unset] [(.int vc), (.long (((0 : Int64) + (va.toInt64 * va.toInt64)) + (vb.toInt64 * vb.toInt64)))])) _
    refine own_st (fun _ k => XT.i2l X116.here hx rfl (hb hby at_120) rfl k) ?_
    show own_Goes p e below (T116.setTop (mkF m 121 #[.val (.int p1), .val (.int p2), .val (.int p3), .val (.int p4), .val (.int p5), .val (.int (3 : Int32)), .val (.int va), .val (.int vb), .val (.int vc), .val (.int vd), .val (.ref b113), .val (.long (((0 : Int64) + (va.toInt64 * va.toInt64)) + (vb.toInt64 * vb.toInt64))), .second, .unset, .unset] [(.long vc.toInt64), (.long (((0 : Int64) + (va.toInt64 * va.toInt64)) + (vb.toInt64 * vb.toInt64)))])) _
    refine own_st (fun _ k => XS.iload X116.here hx rfl (hb hby at_121) rfl k) ?_
    show own_Goes p e below (T116.setTop (mkF m 123 #[.val (.int p1), .val (.int p2), .val (.int p3), .val (.int p4), .val (.int p5), .val (.int (3 : Int32)), .val (.int va), .val (.int vb), .val (.int vc), .val (.int vd), .val (.ref b113), .val (.long (((0 : Int64) + (va.toInt64 * va.toInt64)) + (vb.toInt64 * vb.toInt64))), .second, .unset, .unset] [(.int vc), (.long vc.toInt64), (.long (((0 : Int64) + (va.toInt64 * va.toInt64)) + (vb.toInt64 * vb.toInt64)))])) _
    refine own_st (fun _ k => XT.i2l X116.here hx rfl (hb hby at_123) rfl k) ?_
    show own_Goes p e below (T116.setTop (mkF m 124 #[.val (.int p1), .val (.int p2), .val (.int p3), .val (.int p4), .val (.int p5), .val (.int (3 : Int32)), .val (.int va), .val (.int vb), .val (.int vc), .val (.int vd), .val (.ref b113), .val (.long (((0 : Int64) + (va.toInt64 * va.toInt64)) + (vb.toInt64 * vb.toInt64))), .second, .unset, .unset] [(.long vc.toInt64), (.long vc.toInt64), (.long (((0 : Int64) + (va.toInt64 * va.toInt64)) + (vb.toInt64 * vb.toInt64)))])) _
    refine own_st (fun _ k => XT.lmul X116.here hx rfl (hb hby at_124) rfl k) ?_
    show own_Goes p e below (T116.setTop (mkF m 125 #[.val (.int p1), .val (.int p2), .val (.int p3), .val (.int p4), .val (.int p5), .val (.int (3 : Int32)), .val (.int va), .val (.int vb), .val (.int vc), .val (.int vd), .val (.ref b113), .val (.long (((0 : Int64) + (va.toInt64 * va.toInt64)) + (vb.toInt64 * vb.toInt64))), .second, .unset, .unset] [(.long (vc.toInt64 * vc.toInt64)), (.long (((0 : Int64) + (va.toInt64 * va.toInt64)) + (vb.toInt64 * vb.toInt64)))])) _
    refine own_st (fun _ k => XT.ladd X116.here hx rfl (hb hby at_125) rfl k) ?_
    show own_Goes p e below (T116.setTop (mkF m 126 #[.val (.int p1), .val (.int p2), .val (.int p3), .val (.int p4), .val (.int p5), .val (.int (3 : Int32)), .val (.int va), .val (.int vb), .val (.int vc), .val (.int vd), .val (.ref b113), .val (.long (((0 : Int64) + (va.toInt64 * va.toInt64)) + (vb.toInt64 * vb.toInt64))), .second, .unset, .unset] [(.long ((((0 : Int64) + (va.toInt64 * va.toInt64)) + (vb.toInt64 * vb.toInt64)) + (vc.toInt64 * vc.toInt64)))])) _
    refine own_st (fun _ k => XT.lstore X116.here hx rfl (hb hby at_126) rfl (l' := #[.val (.int p1), .val (.int p2), .val (.int p3), .val (.int p4), .val (.int p5), .val (.int (3 : Int32)), .val (.int va), .val (.int vb), .val (.int vc), .val (.int vd), .val (.ref b113), .val (.long ((((0 : Int64) + (va.toInt64 * va.toInt64)) + (vb.toInt64 * vb.toInt64)) + (vc.toInt64 * vc.toInt64))), .second, .unset, .unset]) rfl k) ?_
    show own_Goes p e below (T116.setTop (mkF m 128 #[.val (.int p1), .val (.int p2), .val (.int p3), .val (.int p4), .val (.int p5), .val (.int (3 : Int32)), .val (.int va), .val (.int vb), .val (.int vc), .val (.int vd), .val (.ref b113), .val (.long ((((0 : Int64) + (va.toInt64 * va.toInt64)) + (vb.toInt64 * vb.toInt64)) + (vc.toInt64 * vc.toInt64))), .second, .unset, .unset] [])) _
    refine own_st (fun _ k => XS.iload X116.here hx rfl (hb hby at_128) rfl k) ?_
    show own_Goes p e below (T116.setTop (mkF m 130 #[.val (.int p1), .val (.int p2), .val (.int p3), .val (.int p4), .val (.int p5), .val (.int (3 : Int32)), .val (.int va), .val (.int vb), .val (.int vc), .val (.int vd), .val (.ref b113), .val (.long ((((0 : Int64) + (va.toInt64 * va.toInt64)) + (vb.toInt64 * vb.toInt64)) + (vc.toInt64 * vc.toInt64))), .second, .unset, .unset] [(.int (3 : Int32))])) _
    refine own_st (fun _ k => XS.iconst X116.here hx rfl (hb hby at_130) k) ?_
    show own_Goes p e below (T116.setTop (mkF m 131 #[.val (.int p1), .val (.int p2), .val (.int p3), .val (.int p4), .val (.int p5), .val (.int (3 : Int32)), .val (.int va), .val (.int vb), .val (.int vc), .val (.int vd), .val (.ref b113), .val (.long ((((0 : Int64) + (va.toInt64 * va.toInt64)) + (vb.toInt64 * vb.toInt64)) + (vc.toInt64 * vc.toInt64))), .second, .unset, .unset] [(.int (3 : Int32)), (.int (3 : Int32))])) _
    refine own_st (fun _ k => XS.icmpYes X116.here hx rfl (pc0 := 131) (pc' := 153) rfl (hb hby at_131) rfl (flt (by decide : ¬ ((3 : Int32) < (3 : Int32)))).2.2.2 (by decide) (by decide) k) ?_
    show own_Goes p e below (T116.setTop (mkF m 153 #[.val (.int p1), .val (.int p2), .val (.int p3), .val (.int p4), .val (.int p5), .val (.int (3 : Int32)), .val (.int va), .val (.int vb), .val (.int vc), .val (.int vd), .val (.ref b113), .val (.long ((((0 : Int64) + (va.toInt64 * va.toInt64)) + (vb.toInt64 * vb.toInt64)) + (vc.toInt64 * vc.toInt64))), .second, .unset, .unset] [])) _
    have hL0 : (0 : Int64).toInt = 0 := by decide
    have hL1 : ((0 : Int64) + (va.toInt64 * va.toInt64)).toInt = 0 + va.toInt * va.toInt := own_lsum hL0 (by  omega) (by  omega) B_va
    have hL2 : (((0 : Int64) + (va.toInt64 * va.toInt64)) + (vb.toInt64 * vb.toInt64)).toInt = 0 + va.toInt * va.toInt + vb.toInt * vb.toInt := own_lsum hL1 (by have q0 := own_sq B_va; generalize va.toInt * va.toInt = t0 at *;  omega) (by have q0 := own_sq B_va; generalize va.toInt * va.toInt = t0 at *;  omega) B_vb
    have hL3 : ((((0 : Int64) + (va.toInt64 * va.toInt64)) + (vb.toInt64 * vb.toInt64)) + (vc.toInt64 * vc.toInt64)).toInt = 0 + va.toInt * va.toInt + vb.toInt * vb.toInt + vc.toInt * vc.toInt := own_lsum hL2 (by have q0 := own_sq B_va; generalize va.toInt * va.toInt = t0 at *; have q1 := own_sq B_vb; generalize vb.toInt * vb.toInt = t1 at *;  omega) (by have q0 := own_sq B_va; generalize va.toInt * va.toInt = t0 at *; have q1 := own_sq B_vb; generalize vb.toInt * vb.toInt = t1 at *;  omega) B_vc
    have hLd : own_DI (0 + va.toInt * va.toInt + vb.toInt * vb.toInt + vc.toInt * vc.toInt) (FP.l2d ((((0 : Int64) + (va.toInt64 * va.toInt64)) + (vb.toInt64 * vb.toInt64)) + (vc.toInt64 * vc.toInt64))) := by rw [← hL3]; exact own_di_l2d (by rw [hL3]; have q0 := own_sq B_va; generalize va.toInt * va.toInt = t0 at *; have q1 := own_sq B_vb; generalize vb.toInt * vb.toInt = t1 at *; have q2 := own_sq B_vc; generalize vc.toInt * vc.toInt = t2 at *;  omega)
    refine own_st (fun _ k => XS.aload X116.here hx rfl (hb hby at_153) rfl rfl k) ?_
    show own_Goes p e below (T116.setTop (mkF m 155 #[.val (.int p1), .val (.int p2), .val (.int p3), .val (.int p4), .val (.int p5), .val (.int (3 : Int32)), .val (.int va), .val (.int vb), .val (.int vc), .val (.int vd), .val (.ref b113), .val (.long ((((0 : Int64) + (va.toInt64 * va.toInt64)) + (vb.toInt64 * vb.toInt64)) + (vc.toInt64 * vc.toInt64))), .second, .unset, .unset] [(.ref b113)])) _
    have f118 := (Nat.le_trans (Nat.le_trans (Nat.le_trans (Nat.le_trans Z0 E113.1) (Nat.le_of_eq W114.size.symm)) (Nat.le_of_eq W115.size.symm)) (Nat.le_of_eq W116.size.symm))
    obtain ⟨_, T117, h117, L117, X117, e117, ⟨r0, rfl, Dr, rfl, hh117⟩, st117⟩ := own_callS (argsL := [(.ref b113)]) (rest := []) (pc := 155) (W := 0) (Ls := #[.val (.int p1), .val (.int p2), .val (.int p3), .val (.int p4), .val (.int p5), .val (.int (3 : Int32)), .val (.int va), .val (.int vb), .val (.int vc), .val (.int vd), .val (.ref b113), .val (.long ((((0 : Int64) + (va.toInt64 * va.toInt64)) + (vb.toInt64 * vb.toInt64)) + (vc.toInt64 * vc.toInt64))), .second, .unset, .unset]) (S := [(.ref b113)]) X116 hx hZ hown (hw _ (List.mem_of_getElem? (i := 1) rfl)) (hw _ (List.mem_of_getElem? (i := 2) rfl)) (hw _ (List.mem_of_getElem? (i := 3) rfl)) (hw _ (List.mem_of_getElem? (i := 4) rfl)) (by decide) (rm13 l Z a0 hw [] b113 k113 (FP.i2d va) (FP.i2d vb) (FP.i2d vc) va.toInt vb.toInt vc.toInt h116 n0 f118 V116 (own_di_i2d va) B_va (own_di_i2d vb) B_vb (own_di_i2d vc) B_vc) (by decide) (by decide) e116 (by rw [hml]; rfl) (lenOf pd___D_D rfl) rfl (Nat.le_of_eq rfl) (hb hby at_155) (by decide) (by decide)
    refine own_st st117 ?_
    show own_Goes p e below (T117.setTop (mkF m 158 #[.val (.int p1), .val (.int p2), .val (.int p3), .val (.int p4), .val (.int p5), .val (.int (3 : Int32)), .val (.int va), .val (.int vb), .val (.int vc), .val (.int vd), .val (.ref b113), .val (.long ((((0 : Int64) + (va.toInt64 * va.toInt64)) + (vb.toInt64 * vb.toInt64)) + (vc.toInt64 * vc.toInt64))), .second, .unset, .unset] [(.double r0)])) _
    refine own_st (fun _ k => own_dstore X117.here hx rfl (hb hby at_158) rfl (l' := #[.val (.int p1), .val (.int p2), .val (.int p3), .val (.int p4), .val (.int p5), .val (.int (3 : Int32)), .val (.int va), .val (.int vb), .val (.int vc), .val (.int vd), .val (.ref b113), .val (.long ((((0 : Int64) + (va.toInt64 * va.toInt64)) + (vb.toInt64 * vb.toInt64)) + (vc.toInt64 * vc.toInt64))), .second, .val (.double r0), .second]) rfl k) ?_
    show own_Goes p e below (T117.setTop (mkF m 160 #[.val (.int p1), .val (.int p2), .val (.int p3), .val (.int p4), .val (.int p5), .val (.int (3 : Int32)), .val (.int va), .val (.int vb), .val (.int vc), .val (.int vd), .val (.ref b113), .val (.long ((((0 : Int64) + (va.toInt64 * va.toInt64)) + (vb.toInt64 * vb.toInt64)) + (vc.toInt64 * vc.toInt64))), .second, .val (.double r0), .second] [])) _
    refine own_st (fun _ k => XT.dload X117.here hx rfl (hb hby at_160) rfl k) ?_
    show own_Goes p e below (T117.setTop (mkF m 162 #[.val (.int p1), .val (.int p2), .val (.int p3), .val (.int p4), .val (.int p5), .val (.int (3 : Int32)), .val (.int va), .val (.int vb), .val (.int vc), .val (.int vd), .val (.ref b113), .val (.long ((((0 : Int64) + (va.toInt64 * va.toInt64)) + (vb.toInt64 * vb.toInt64)) + (vc.toInt64 * vc.toInt64))), .second, .val (.double r0), .second] [(.double r0)])) _
    refine own_st (fun _ k => XT.lload X117.here hx rfl (hb hby at_162) rfl k) ?_
    show own_Goes p e below (T117.setTop (mkF m 164 #[.val (.int p1), .val (.int p2), .val (.int p3), .val (.int p4), .val (.int p5), .val (.int (3 : Int32)), .val (.int va), .val (.int vb), .val (.int vc), .val (.int vd), .val (.ref b113), .val (.long ((((0 : Int64) + (va.toInt64 * va.toInt64)) + (vb.toInt64 * vb.toInt64)) + (vc.toInt64 * vc.toInt64))), .second, .val (.double r0), .second] [(.long ((((0 : Int64) + (va.toInt64 * va.toInt64)) + (vb.toInt64 * vb.toInt64)) + (vc.toInt64 * vc.toInt64))), (.double r0)])) _
    refine own_st (fun _ k => own_l2d X117.here hx rfl (hb hby at_164) rfl k) ?_
    show own_Goes p e below (T117.setTop (mkF m 165 #[.val (.int p1), .val (.int p2), .val (.int p3), .val (.int p4), .val (.int p5), .val (.int (3 : Int32)), .val (.int va), .val (.int vb), .val (.int vc), .val (.int vd), .val (.ref b113), .val (.long ((((0 : Int64) + (va.toInt64 * va.toInt64)) + (vb.toInt64 * vb.toInt64)) + (vc.toInt64 * vc.toInt64))), .second, .val (.double r0), .second] [(.double (FP.l2d ((((0 : Int64) + (va.toInt64 * va.toInt64)) + (vb.toInt64 * vb.toInt64)) + (vc.toInt64 * vc.toInt64)))), (.double r0)])) _
    refine own_st (fun _ k => own_dcmp (o := .eq) X117.here hx rfl (hb hby at_165) rfl (by rw [own_di_cmp Dr hLd]; exact congrArg some (Jvm.FP.Core.compare_self_int _)) k) ?_
    show own_Goes p e below (T117.setTop (mkF m 166 #[.val (.int p1), .val (.int p2), .val (.int p3), .val (.int p4), .val (.int p5), .val (.int (3 : Int32)), .val (.int va), .val (.int vb), .val (.int vc), .val (.int vd), .val (.ref b113), .val (.long ((((0 : Int64) + (va.toInt64 * va.toInt64)) + (vb.toInt64 * vb.toInt64)) + (vc.toInt64 * vc.toInt64))), .second, .val (.double r0), .second] [(.int (own_ord .eq))])) _
    refine own_st (fun _ k => XS.ifNo X117.here hx rfl (hb hby at_166) rfl ((if0 _ _).trans (teq (by decide : (own_ord .eq) = (0 : Int32))).2) k) ?_
    show own_Goes p e below (T117.setTop (mkF m 169 #[.val (.int p1), .val (.int p2), .val (.int p3), .val (.int p4), .val (.int p5), .val (.int (3 : Int32)), .val (.int va), .val (.int vb), .val (.int vc), .val (.int vd), .val (.ref b113), .val (.long ((((0 : Int64) + (va.toInt64 * va.toInt64)) + (vb.toInt64 * vb.toInt64)) + (vc.toInt64 * vc.toInt64))), .second, .val (.double r0), .second] [])) _
    refine own_st (fun _ k => XS.iconst X117.here hx rfl (hb hby at_169) k) ?_
    show own_Goes p e below (T117.setTop (mkF m 170 #[.val (.int p1), .val (.int p2), .val (.int p3), .val (.int p4), .val (.int p5), .val (.int (3 : Int32)), .val (.int va), .val (.int vb), .val (.int vc), .val (.int vd), .val (.ref b113), .val (.long ((((0 : Int64) + (va.toInt64 * va.toInt64)) + (vb.toInt64 * vb.toInt64)) + (vc.toInt64 * vc.toInt64))), .second, .val (.double r0), .second] [(.int (1 : Int32))])) _
    refine own_st (fun _ k => XS.goto X117.here hx rfl (pc0 := 170) (pc' := 174) rfl (hb hby at_170) (by decide) (by decide) k) ?_
    show own_Goes p e below (T117.setTop (mkF m 174 #[.val (.int p1), .val (.int p2), .val (.int p3), .val (.int p4), .val (.int p5), .val (.int (3 : Int32)), .val (.int va), .val (.int vb), .val (.int vc), .val (.int vd), .val (.ref b113), .val (.long ((((0 : Int64) + (va.toInt64 * va.toInt64)) + (vb.toInt64 * vb.toInt64)) + (vc.toInt64 * vc.toInt64))), .second, .val (.double r0), .second] [(.int (1 : Int32))])) _
    exact own_retN (t := .boolean) (z' := (1 : Int32)) X117 hx hlk hret (by simp) (by decide) (hb hby at_174) (by decide) (by decide) (e117.trans hh117) ⟨rfl, N116⟩
  · show own_Goes p e below (s₁.setTop (mkF m 6 #[.val (.int p1), .val (.int p2), .val (.int p3), .val (.int p4), .val (.int p5), .unset, .unset, .unset, .unset, .unset, .unset, .unset, .unset, .unset, .unset] [(.int (4 : Int32))])) _
    refine own_st (fun _ k => XS.istore X0.here hx rfl (hb hby at_6) rfl (l' := #[.val (.int p1), .val (.int p2), .val (.int p3), .val (.int p4), .val (.int p5), .val (.int (4 : Int32)), .unset, .unset, .unset, .unset, .unset, .unset, .unset, .unset, .unset]) rfl k) ?_
    show own_Goes p e below (s₁.setTop (mkF m 8 #[.val (.int p1), .val (.int p2), .val (.int p3), .val (.int p4), .val (.int p5), .val (.int (4 : Int32)), .unset, .unset, .unset, .unset, .unset, .unset, .unset, .unset, .unset] [])) _
    refine own_st (fun _ k => XS.iloadN X0.here hx rfl (hb hby at_8) rfl k) ?_
    show own_Goes p e below (s₁.setTop (mkF m 9 #[.val (.int p1), .val (.int p2), .val (.int p3), .val (.int p4), .val (.int p5), .val (.int (4 : Int32)), .unset, .unset, .unset, .unset, .unset, .unset, .unset, .unset, .unset] [(.int p2)])) _
    refine own_st (fun _ k => XS.bipush X0.here hx rfl (hb hby at_9) k) ?_
    show own_Goes p e below (s₁.setTop (mkF m 11 #[.val (.int p1), .val (.int p2), .val (.int p3), .val (.int p4), .val (.int p5), .val (.int (4 : Int32)), .unset, .unset, .unset, .unset, .unset, .unset, .unset, .unset, .unset] [(.int (6 : Int32)), (.int p2)])) _
    refine own_st (fun _ k => XT.ishl X0.here hx rfl (hb hby at_11) rfl k) ?_
    show own_Goes p e below (s₁.setTop (mkF m 12 #[.val (.int p1), .val (.int p2), .val (.int p3), .val (.int p4), .val (.int p5), .val (.int (4 : Int32)), .unset, .unset, .unset, .unset, .unset, .unset, .unset, .unset, .unset] [(.int (p2 <<< ((6 : Int32) &&& 31)))])) _
    refine own_st (fun _ k => XS.bipush X0.here hx rfl (hb hby at_12) k) ?_
    show own_Goes p e below (s₁.setTop (mkF m 14 #[.val (.int p1), .val (.int p2), .val (.int p3), .val (.int p4), .val (.int p5), .val (.int (4 : Int32)), .unset, .unset, .unset, .unset, .unset, .unset, .unset, .unset, .unset] [(.int (6 : Int32)), (.int (p2 <<< ((6 : Int32) &&& 31)))])) _
    refine own_st (fun _ k => XT.ishr X0.here hx rfl (hb hby at_14) rfl k) ?_
    show own_Goes p e below (s₁.setTop (mkF m 15 #[.val (.int p1), .val (.int p2), .val (.int p3), .val (.int p4), .val (.int p5), .val (.int (4 : Int32)), .unset, .unset, .unset, .unset, .unset, .unset, .unset, .unset, .unset] [(.int ((p2 <<< ((6 : Int32) &&& 31)) >>> ((6 : Int32) &&& 31)))])) _
    obtain ⟨va, he_va, B_va⟩ := own_b26 p2
    rw [he_va]
    show own_Goes p e below (s₁.setTop (mkF m 15 #[.val (.int p1), .val (.int p2), .val (.int p3), .val (.int p4), .val (.int p5), .val (.int (4 : Int32)), .unset, .unset, .unset, .unset, .unset, .unset, .unset, .unset, .unset] [(.int va)])) _
    refine own_st (fun _ k => XS.istore X0.here hx rfl (hb hby at_15) rfl (l' := #[.val (.int p1), .val (.int p2), .val (.int p3), .val (.int p4), .val (.int p5), .val (.int (4 : Int32)), .val (.int va), .unset, .unset, .unset, .unset, .unset, .unset, .unset, .unset]) rfl k) ?_
    show own_Goes p e below (s₁.setTop (mkF m 17 #[.val (.int p1), .val (.int p2), .val (.int p3), .val (.int p4), .val (.int p5), .val (.int (4 : Int32)), .val (.int va), .unset, .unset, .unset, .unset, .unset, .unset, .unset, .unset] [])) _
    refine own_st (fun _ k => XS.iloadN X0.here hx rfl (hb hby at_17) rfl k) ?_
    show own_Goes p e below (s₁.setTop (mkF m 18 #[.val (.int p1), .val (.int p2), .val (.int p3), .val (.int p4), .val (.int p5), .val (.int (4 : Int32)), .val (.int va), .unset, .unset, .unset, .unset, .unset, .unset, .unset, .unset] [(.int p3)])) _
    refine own_st (fun _ k => XS.bipush X0.here hx rfl (hb hby at_18) k) ?_
    show own_Goes p e below (s₁.setTop (mkF m 20 #[.val (.int p1), .val (.int p2), .val (.int p3), .val (.int p4), .val (.int p5), .val (.int (4 : Int32)), .val (.int va), .unset, .unset, .unset, .unset, .unset, .unset, .unset, .unset] [(.int (6 : Int32)), (.int p3)])) _
    refine own_st (fun _ k => XT.ishl X0.here hx rfl (hb hby at_20) rfl k) ?_
    show own_Goes p e below (s₁.setTop (mkF m 21 #[.val (.int p1), .val (.int p2), .val (.int p3), .val (.int p4), .val (.int p5), .val (.int (4 : Int32)), .val (.int va), .unset, .unset, .unset, .unset, .unset, .unset, .unset, .unset] [(.int (p3 <<< ((6 : Int32) &&& 31)))])) _
    refine own_st (fun _ k => XS.bipush X0.here hx rfl (hb hby at_21) k) ?_
    show own_Goes p e below (s₁.setTop (mkF m 23 #[.val (.int p1), .val (.int p2), .val (.int p3), .val (.int p4), .val (.int p5), .val (.int (4 : Int32)), .val (.int va), .unset, .unset, .unset, .unset, .unset, .unset, .unset, .unset] [(.int (6 : Int32)), (.int (p3 <<< ((6 : Int32) &&& 31)))])) _
    refine own_st (fun _ k => XT.ishr X0.here hx rfl (hb hby at_23) rfl k) ?_
    show own_Goes p e below (s₁.setTop (mkF m 24 #[.val (.int p1), .val (.int p2), .val (.int p3), .val (.int p4), .val (.int p5), .val (.int (4 : Int32)), .val (.int va), .unset, .unset, .unset, .unset, .unset, .unset, .unset, .unset] [(.int ((p3 <<< ((6 : Int32) &&& 31)) >>> ((6 : Int32) &&& 31)))])) _
    obtain ⟨vb, he_vb, B_vb⟩ := own_b26 p3
    rw [he_vb]
    show own_Goes p e below (s₁.setTop (mkF m 24 #[.val (.int p1), .val (.int p2), .val (.int p3), .val (.int p4), .val (.int p5), .val (.int (4 : Int32)), .val (.int va), .unset, .unset, .unset, .unset, .unset, .unset, .unset, .unset] [(.int vb)])) _
    refine own_st (fun _ k => XS.istore X0.here hx rfl (hb hby at_24) rfl (l' := #[.val (.int p1), .val (.int p2), .val (.int p3), .val (.int p4), .val (.int p5), .val (.int (4 : Int32)), .val (.int va), .val (.int vb), .unset, .unset, .unset, .unset, .unset, .unset, .unset]) rfl k) ?_
    show own_Goes p e below (s₁.setTop (mkF m 26 #[.val (.int p1), .val (.int p2), .val (.int p3), .val (.int p4), .val (.int p5), .val (.int (4 : Int32)), .val (.int va), .val (.int vb), .unset, .unset, .unset, .unset, .unset, .unset, .unset] [])) _
    refine own_st (fun _ k => XS.iloadN X0.here hx rfl (hb hby at_26) rfl k) ?_
    show own_Goes p e below (s₁.setTop (mkF m 27 #[.val (.int p1), .val (.int p2), .val (.int p3), .val (.int p4), .val (.int p5), .val (.int (4 : Int32)), .val (.int va), .val (.int vb), .unset, .unset, .unset, .unset, .unset, .unset, .unset] [(.int p4)])) _
    refine own_st (fun _ k => XS.bipush X0.here hx rfl (hb hby at_27) k) ?_
    show own_Goes p e below (s₁.setTop (mkF m 29 #[.val (.int p1), .val (.int p2), .val (.int p3), .val (.int p4), .val (.int p5), .val (.int (4 : Int32)), .val (.int va), .val (.int vb), .unset, .unset, .unset, .unset, .unset, .unset, .unset] [(.int (6 : Int32)), (.int p4)])) _
    refine own_st (fun _ k => XT.ishl X0.here hx rfl (hb hby at_29) rfl k) ?_
    show own_Goes p e below (s₁.setTop (mkF m 30 #[.val (.int p1), .val (.int p2), .val (.int p3), .val (.int p4), .val (.int p5), .val (.int (4 : Int32)), .val (.int va), .val (.int vb), .unset, .unset, .unset, .unset, .unset, .unset, .unset] [(.int (p4 <<< ((6 : Int32) &&& 31)))])) _
    refine own_st (fun _ k => XS.bipush X0.here hx rfl (hb hby at_30) k) ?_
    show own_Goes p e below (s₁.setTop (mkF m 32 #[.val (.int p1), .val (.int p2), .val (.int p3), .val (.int p4), .val (.int p5), .val (.int (4 : Int32)), .val (.int va), .val (.int vb), .unset, .unset, .unset, .unset, .unset, .unset, .unset] [(.int (6 : Int32)), (.int (p4 <<< ((6 : Int32) &&& 31)))])) _
    refine own_st (fun _ k => XT.ishr X0.here hx rfl (hb hby at_32) rfl k) ?_
    show own_Goes p e below (s₁.setTop (mkF m 33 #[.val (.int p1), .val (.int p2), .val (.int p3), .val (.int p4), .val (.int p5), .val (.int (4 : Int32)), .val (.int va), .val (.int vb), .unset, .unset, .unset, .unset, .unset, .unset, .unset] [(.int ((p4 <<< ((6 : Int32) &&& 31)) >>> ((6 : Int32) &&& 31)))])) _
    obtain ⟨vc, he_vc, B_vc⟩ := own_b26 p4
    rw [he_vc]
    show own_Goes p e below (s₁.setTop (mkF m 33 #[.val (.int p1), .val (.int p2), .val (.int p3), .val (.int p4), .val (.int p5), .val (.int (4 : Int32)), .val (.int va), .val (.int vb), .unset, .unset, .unset, .unset, .unset, .unset, .unset] [(.int vc)])) _
    refine own_st (fun _ k => XS.istore X0.here hx rfl (hb hby at_33) rfl (l' := #[.val (.int p1), .val (.int p2), .val (.int p3), .val (.int p4), .val (.int p5), .val (.int (4 : Int32)), .val (.int va), .val (.int vb), .val (.int vc), .unset, .unset, .unset, .unset, .unset, .unset]) rfl k) ?_
    show own_Goes p e below (s₁.setTop (mkF m 35 #[.val (.int p1), .val (.int p2), .val (.int p3), .val (.int p4), .val (.int p5), .val (.int (4 : Int32)), .val (.int va), .val (.int vb), .val (.int vc), .unset, .unset, .unset, .unset, .unset, .unset] [])) _
    refine own_st (fun _ k => XS.iload X0.here hx rfl (hb hby at_35) rfl k) ?_
    show own_Goes p e below (s₁.setTop (mkF m 37 #[.val (.int p1), .val (.int p2), .val (.int p3), .val (.int p4), .val (.int p5), .val (.int (4 : Int32)), .val (.int va), .val (.int vb), .val (.int vc), .unset, .unset, .unset, .unset, .unset, .unset] [(.int p5)])) _
    refine own_st (fun _ k => XS.bipush X0.here hx rfl (hb hby at_37) k) ?_
    show own_Goes p e below (s₁.setTop (mkF m 39 #[.val (.int p1), .val (.int p2), .val (.int p3), .val (.int p4), .val (.int p5), .val (.int (4 : Int32)), .val (.int va), .val (.int vb), .val (.int vc), .unset, .unset, .unset, .unset, .unset, .unset] [(.int (6 : Int32)), (.int p5)])) _
    refine own_st (fun _ k => XT.ishl X0.here hx rfl (hb hby at_39) rfl k) ?_
    show own_Goes p e below (s₁.setTop (mkF m 40 #[.val (.int p1), .val (.int p2), .val (.int p3), .val (.int p4), .val (.int p5), .val (.int (4 : Int32)), .val (.int va), .val (.int vb), .val (.int vc), .unset, .unset, .unset, .unset, .unset, .unset] [(.int (p5 <<< ((6 : Int32) &&& 31)))])) _
    refine own_st (fun _ k => XS.bipush X0.here hx rfl (hb hby at_40) k) ?_
    show own_Goes p e below (s₁.setTop (mkF m 42 #[.val (.int p1), .val (.int p2), .val (.int p3), .val (.int p4), .val (.int p5), .val (.int (4 : Int32)), .val (.int va), .val (.int vb), .val (.int vc), .unset, .unset, .unset, .unset, .unset, .unset] [(.int (6 : Int32)), (.int (p5 <<< ((6 : Int32) &&& 31)))])) _
    refine own_st (fun _ k => XT.ishr X0.here hx rfl (hb hby at_42) rfl k) ?_
    show own_Goes p e below (s₁.setTop (mkF m 43 #[.val (.int p1), .val (.int p2), .val (.int p3), .val (.int p4), .val (.int p5), .val (.int (4 : Int32)), .val (.int va), .val (.int vb), .val (.int vc), .unset, .unset, .unset, .unset, .unset, .unset] [(.int ((p5 <<< ((6 : Int32) &&& 31)) >>> ((6 : Int32) &&& 31)))])) _
    obtain ⟨vd, he_vd, B_vd⟩ := own_b26 p5
    rw [he_vd]
    show own_Goes p e below (s₁.setTop (mkF m 43 #[.val (.int p1), .val (.int p2), .val (.int p3), .val (.int p4), .val (.int p5), .val (.int (4 : Int32)), .val (.int va), .val (.int vb), .val (.int vc), .unset, .unset, .unset, .unset, .unset, .unset] [(.int vd)])) _
    refine own_st (fun _ k => XS.istore X0.here hx rfl (hb hby at_43) rfl (l' := #[.val (.int p1), .val (.int p2), .val (.int p3), .val (.int p4), .val (.int p5), .val (.int (4 : Int32)), .val (.int va), .val (.int vb), .val (.int vc), .val (.int vd), .unset, .unset, .unset, .unset, .unset]) rfl k) ?_
    show own_Goes p e below (s₁.setTop (mkF m 45 #[.val (.int p1), .val (.int p2), .val (.int p3), .val (.int p4), .val (.int p5), .val (.int (4 : Int32)), .val (.int va), .val (.int vb), .val (.int vc), .val (.int vd), .unset, .unset, .unset, .unset, .unset] [])) _
    refine own_st (fun _ k => XS.iload X0.here hx rfl (hb hby at_45) rfl k) ?_
    show own_Goes p e below (s₁.setTop (mkF m 47 #[.val (.int p1), .val (.int p2), .val (.int p3), .val (.int p4), .val (.int p5), .val (.int (4 : Int32)), .val (.int va), .val (.int vb), .val (.int vc), .val (.int vd), .unset, .unset, .unset, .unset, .unset] [(.int (4 : Int32))])) _
    obtain ⟨T119, h119, k119, X119, e119, E119, A119, st119⟩ := newP X0 hx hZ (hw _ (List.mem_of_getElem? (i := 0) rfl)) e0 (g := (mkF m 47 #[.val (.int p1), .val (.int p2), .val (.int p3), .val (.int p4), .val (.int p5), .val (.int (4 : Int32)), .val (.int va), .val (.int vb), .val (.int vc), .val (.int vd), .unset, .unset, .unset, .unset, .unset] [(.int (4 : Int32))])) rfl (hb hby at_47) rfl (by decide) (cap := 4) (by decide) (by decide) (by decide) (by decide)
    obtain ⟨b119, g119⟩ : ∃ z, z = h0.size := ⟨_, rfl⟩
    rw [← g119] at A119 st119
    have g_b119 : n0 ≤ b119 := Nat.le_trans Z0 (Nat.le_of_eq g119.symm)
    have V_b119 : Arv Z h119 b119 k119 .double (4 : Int32) [(.double 0), (.double 0), (.double 0), (.double 0)] (.double 0) := Arv.pad (Arv.new A119 (by decide)) (pad_rep [] _ 4)
    refine own_st st119 ?_
    show own_Goes p e below (T119.setTop (mkF m 49 #[.val (.int p1), .val (.int p2), .val (.int p3), .val (.int p4), .val (.int p5), .val (.int (4 : Int32)), .val (.int va), .val (.int vb), .val (.int vc), .val (.int vd), .unset, .unset, .unset, .unset, .unset] [(.ref b119)])) _
    refine own_st (fun _ k => XS.astore X119.here hx rfl (hb hby at_49) rfl rfl (l' := #[.val (.int p1), .val (.int p2), .val (.int p3), .val (.int p4), .val (.int p5), .val (.int (4 : Int32)), .val (.int va), .val (.int vb), .val (.int vc), .val (.int vd), .val (.ref b119), .unset, .unset, .unset, .unset]) rfl k) ?_
    show own_Goes p e below (T119.setTop (mkF m 51 #[.val (.int p1), .val (.int p2), .val (.int p3), .val (.int p4), .val (.int p5), .val (.int (4 : Int32)), .val (.int va), .val (.int vb), .val (.int vc), .val (.int vd), .val (.ref b119), .unset, .unset, .unset, .unset] [])) _
    refine own_st (fun _ k => XT.lconst X119.here hx rfl (hb hby at_51) k) ?_
    show own_Goes p e below (T119.setTop (mkF m 52 #[.val (.int p1), .val (.int p2), .val (.int p3), .val (.int p4), .val (.int p5), .val (.int (4 : Int32)), .val (.int va), .val (.int vb), .val (.int vc), .val (.int vd), .val (.ref b119), .unset, .unset, .unset, .unset] [(.long (0 : Int64))])) _
    refine own_st (fun _ k => XT.lstore X119.here hx rfl (hb hby at_52) rfl (l' := #[.val (.int p1), .val (.int p2), .val (.int p3), .val (.int p4), .val (.int p5), .val (.int (4 : Int32)), .val (.int va), .val (.int vb), .val (.int vc), .val (.int vd), .val (.ref b119), .val (.long (0 : Int64)), .second, .unset, .unset]) rfl k) ?_
    show own_Goes p e below (T119.setTop (mkF m 54 #[.val (.int p1), .val (.int p2), .val (.int p3), .val (.int p4), .val (.int p5), .val (.int (4 : Int32)), .val (.int va), .val (.int vb), .val (.int vc), .val (.int vd), .val (.ref b119), .val (.long (0 : Int64)), .second, .unset, .unset] [])) _
    refine own_st (fun _ k => XS.iload X119.here hx rfl (hb hby at_54) rfl k) ?_
    show own_Goes p e below (T119.setTop (mkF m 56 #[.val (.int p1), .val (.int p2), .val (.int p3), .val (.int p4), .val (.int p5), .val (.int (4 : Int32)), .val (.int va), .val (.int vb), .val (.int vc), .val (.int vd), .val (.ref b119), .val (.long (0 : Int64)), .second, .unset, .unset] [(.int (4 : Int32))])) _
    refine own_st (fun _ k => XS.ifNo X119.here hx rfl (hb hby at_56) rfl ((if0 _ _).trans (tlt (by decide : (0 : Int32) < (4 : Int32))).2.2.2) k) ?_
    show own_Goes p e below (T119.setTop (mkF m 59 #[.val (.int p1), .val (.int p2), .val (.int p3), .val (.int p4), .val (.int p5), .val (.int (4 : Int32)), .val (.int va), .val (.int vb), .val (.int vc), .val (.int vd), .val (.ref b119), .val (.long (0 : Int64)), .second, .unset, .unset] [])) _
    refine own_st (fun _ k => XS.aload X119.here hx rfl (hb hby at_59) rfl rfl k) ?_
    show own_Goes p e below (T119.setTop (mkF m 61 #[.val (.int p1), .val (.int p2), .val (.int p3), .val (.int p4), .val (.int p5), .val (.int (4 : Int32)), .val (.int va), .val (.int vb), .val (.int vc), .val (.int vd), .val (.ref b119), .val (.long (0 : Int64)), .second, .unset, .unset] [(.ref b119)])) _
    refine own_st (fun _ k => XS.iconst X119.here hx rfl (hb hby at_61) k) ?_
    show own_Goes p e below (T119.setTop (mkF m 62 #[.val (.int p1), .val (.int p2), .val (.int p3), .val (.int p4), .val (.int p5), .val (.int (4 : Int32)), .val (.int va), .val (.int vb), .val (.int vc), .val (.int vd), .val (.ref b119), .val (.long (0 : Int64)), .second, .unset, .unset] [(.int (0 : Int32)), (.ref b119)])) _
    refine own_st (fun _ k => XS.iload X119.here hx rfl (hb hby at_62) rfl k) ?_
    show own_Goes p e below (T119.setTop (mkF m 64 #[.val (.int p1), .val (.int p2), .val (.int p3), .val (.int p4), .val (.int p5), .val (.int (4 : Int32)), .val (.int va), .val (.int vb), .val (.int vc), .val (.int vd), .val (.ref b119), .val (.long (0 : Int64)), .second, .unset, .unset] [(.int va), (.int (0 : Int32)), (.ref b119)])) _
    refine own_st (fun _ k => own_i2d X119.here hx rfl (hb hby at_64) rfl k) ?_
    show own_Goes p e below (T119.setTop (mkF m 65 #[.val (.int p1), .val (.int p2), .val (.int p3), .val (.int p4), .val (.int p5), .val (.int (4 : Int32)), .val (.int va), .val (.int vb), .val (.int vc), .val (.int vd), .val (.ref b119), .val (.long (0 : Int64)), .second, .unset, .unset] [(.double (FP.i2d va)), (.int (0 : Int32)), (.ref b119)])) _
    obtain ⟨T120, h120, X120, e120, W120, V120, st120⟩ := own_stD (x := (FP.i2d va)) (pc := 65) (Ls := #[.val (.int p1), .val (.int p2), .val (.int p3), .val (.int p4), .val (.int p5), .val (.int (4 : Int32)), .val (.int va), .val (.int vb), .val (.int vc), .val (.int vd), .val (.ref b119), .val (.long (0 : Int64)), .second, .unset, .unset]) (rest := []) (j := (0 : Int32)) X119 hx hZ e119 V_b119 0 (by decide) (by decide) (Nat.le_of_ble_eq_true rfl) (hb hby at_65)
    have V120 : Arv Z h120 b119 k119 .double (4 : Int32) [(.double (FP.i2d va)), (.double 0), (.double 0), (.double 0)] (.double 0) := V120
    have N120 := Fr.snoc X120 N0 g_b119
    refine own_st st120 ?_
    show own_Goes p e below (T120.setTop (mkF m 66 #[.val (.int p1), .val (.int p2), .val (.int p3), .val (.int p4), .val (.int p5), .val (.int (4 : Int32)), .val (.int va), .val (.int vb), .val (.int vc), .val (.int vd), .val (.ref b119), .val (.long (0 : Int64)), .second, .unset, .unset] [])) _
    refine own_st (fun _ k => XT.lload X120.here hx rfl (hb hby at_66) rfl k) ?_
    show own_Goes p e below (T120.setTop (mkF m 68 #[.val (.int p1), .val (.int p2), .val (.int p3), .val (.int p4), .val (.int p5), .val (.int (4 : Int32)), .val (.int va), .val (.int vb), .val (.int vc), .val (.int vd), .val (.ref b119), .val (.long (0 : Int64)), .second, .unset, .unset] [(.long (0 : Int64))])) _
    refine own_st (fun _ k => XS.iload X120.here hx rfl (hb hby at_68) rfl k) ?_
    show own_Goes p e below (T120.setTop (mkF m 70 #[.val (.int p1), .val (.int p2), .val (.int p3), .val (.int p4), .val (.int p5), .val (.int (4 : Int32)), .val (.int va), .val (.int vb), .val (.int vc), .val (.int vd), .val (.ref b119), .val (.long (0 : Int64)), .second, .unset, .unset] [(.int va), (.long (0 : Int64))])) _
    refine own_st (fun _ k => XT.i2l X120.here hx rfl (hb hby at_70) rfl k) ?_
    show own_Goes p e below (T120.setTop (mkF m 71 #[.val (.int p1), .val (.int p2), .val (.int p3), .val (.int p4), .val (.int p5), .val (.int (4 : Int32)), .val (.int va), .val (.int vb), .val (.int vc), .val (.int vd), .val (.ref b119), .val (.long (0 : Int64)), .second, .unset, .unset] [(.long va.toInt64), (.long (0 : Int64))])) _
    refine own_st (fun _ k => XS.iload X120.here hx rfl (hb hby at_71) rfl k) ?_
    show own_Goes p e below (T120.setTop (mkF m 73 #[.val (.int p1), .val (.int p2), .val (.int p3), .val (.int p4), .val (.int p5), .val (.int (4 : Int32)), .val (.int va), .val (.int vb), .val (.int vc), .val (.int vd), .val (.ref b119), .val (.long (0 : Int64)), .second, .unset, .unset] [(.int va), (.long va.toInt64), (.long (0 : Int64))])) _
    refine own_st (fun _ k => XT.i2l X120.here hx rfl (hb hby at_73) rfl k) ?_
    show own_Goes p e below (T120.setTop (mkF m 74 #[.val (.int p1), .val (.int p2), .val (.int p3), .val (.int p4), .val (.int p5), .val (.int (4 : Int32)), .val (.int va), .val (.int vb), .val (.int vc), .val (.int vd), .val (.ref b119), .val (.long (0 : Int64)), .second, .unset, .unset] [(.long va.toInt64), (.long va.toInt64), (.long (0 : Int64))])) _
    refine own_st (fun _ k => XT.lmul X120.here hx rfl (hb hby at_74) rfl k) ?_
    show own_Goes p e below (T120.setTop (mkF m 75 #[.val (.int p1), .val (.int p2), .val (.int p3), .val (.int p4), .val (.int p5), .val (.int (4 : Int32)), .val (.int va), .val (.int vb), .val (.int vc), .val (.int vd), .val (.ref b119), .val (.long (0 : Int64)), .second, .unset, .unset] [(.long (va.toInt64 * va.toInt64)), (.long (0 : Int64))])) _
    refine own_st (fun _ k => XT.ladd X120.here hx rfl (hb hby at_75) rfl k) ?_
    show own_Goes p e below (T120.setTop (mkF m 76 #[.val (.int p1), .val (.int p2), .val (.int p3), .val (.int p4), .val (.int p5), .val (.int (4 : Int32)), .val (.int va), .val (.int vb), .val (.int vc), .val (.int vd), .val (.ref b119), .val (.long (0 : Int64)), .second, .unset, .unset] [(.long ((0 : Int64) + (va.toInt64 * va.toInt64)))])) _
    refine own_st (fun _ k => XT.lstore X120.here hx rfl (hb hby at_76) rfl (l' := #[.val (.int p1), .val (.int p2), .val (.int p3), .val (.int p4), .val (.int p5), .val (.int (4 : Int32)), .val (.int va), .val (.int vb), .val (.int vc), .val (.int vd), .val (.ref b119), .val (.long ((0 : Int64) + (va.toInt64 * va.toInt64))), .second, .unset, .unset]) rfl k) ?_
    show own_Goes p e below (T120.setTop (mkF m 78 #[.val (.int p1), .val (.int p2), .val (.int p3), .val (.int p4), .val (.int p5), .val (.int (4 : Int32)), .val (.int va), .val (.int vb), .val (.int vc), .val (.int vd), .val (.ref b119), .val (.long ((0 : Int64) + (va.toInt64 * va.toInt64))), .second, .unset, .unset] [])) _
    refine own_st (fun _ k => XS.iload X120.here hx rfl (hb hby at_78) rfl k) ?_
    show own_Goes p e below (T120.setTop (mkF m 80 #[.val (.int p1), .val (.int p2), .val (.int p3), .val (.int p4), .val (.int p5), .val (.int (4 : Int32)), .val (.int va), .val (.int vb), .val (.int vc), .val (.int vd), .val (.ref b119), .val (.long ((0 : Int64) + (va.toInt64 * va.toInt64))), .second, .unset, .unset] [(.int (4 : Int32))])) _
    refine own_st (fun _ k => XS.iconst X120.here hx rfl (hb hby at_80) k) ?_
    show own_Goes p e below (T120.setTop (mkF m 81 #[.val (.int p1), .val (.int p2), .val (.int p3), .val (.int p4), .val (.int p5), .val (.int (4 : Int32)), .val (.int va), .val (.int vb), .val (.int vc), .val (.int vd), .val (.ref b119), .val (.long ((0 : Int64) + (va.toInt64 * va.toInt64))), .second, .unset, .unset] [(.int (1 : Int32)), (.int (4 : Int32))])) _
    refine own_st (fun _ k => XS.icmpNo X120.here hx rfl (hb hby at_81) rfl (tlt (by decide : (1 : Int32) < (4 : Int32))).2.2.2 k) ?_
    show own_Goes p e below (T120.setTop (mkF m 84 #[.val (.int p1), .val (.int p2), .val (.int p3), .val (.int p4), .val (.int p5), .val (.int (4 : Int32)), .val (.int va), .val (.int vb), .val (.int vc), .val (.int vd), .val (.ref b119), .val (.long ((0 : Int64) + (va.toInt64 * va.toInt64))), .second, .unset, .unset] [])) _
    refine own_st (fun _ k => XS.aload X120.here hx rfl (hb hby at_84) rfl rfl k) ?_
    show own_Goes p e below (T120.setTop (mkF m 86 #[.val (.int p1), .val (.int p2), .val (.int p3), .val (.int p4), .val (.int p5), .val (.int (4 : Int32)), .val (.int va), .val (.int vb), .val (.int vc), .val (.int vd), .val (.ref b119), .val (.long ((0 : Int64) + (va.toInt64 * va.toInt64))), .second, .unset, .unset] [(.ref b119)])) _
    refine own_st (fun _ k => XS.iconst X120.here hx rfl (hb hby at_86) k) ?_
    show own_Goes p e below (T120.setTop (mkF m 87 #[.val (.int p1), .val (.int p2), .val (.int p3), .val (.int p4), .val (.int p5), .val (.int (4 : Int32)), .val (.int va), .val (.int vb), .val (.int vc), .val (.int vd), .val (.ref b119), .val (.long ((0 : Int64) + (va.toInt64 * va.toInt64))), .second, .unset, .unset] [(.int (1 : Int32)), (.ref b119)])) _
    refine own_st (fun _ k => XS.iload X120.here hx rfl (hb hby at_87) rfl k) ?_
    show own_Goes p e below (T120.setTop (mkF m 89 #[.val (.int p1), .val (.int p2), .val (.int p3), .val (.int p4), .val (.int p5), .val (.int (4 : Int32)), .val (.int va), .val (.int vb), .val (.int vc), .val (.int vd), .val (.ref b119), .val (.long ((0 : Int64) + (va.toInt64 * va.toInt64))), .second, .unset, .unset] [(.int vb), (.int (1 : Int32)), (.ref b119)])) _
    refine own_st (fun _ k => own_i2d X120.here hx rfl (hb hby at_89) rfl k) ?_
    show own_Goes p e below (T120.setTop (mkF m 90 #[.val (.int p1), .val (.int p2), .val (.int p3), .val (.int p4), .val (.int p5), .val (.int (4 : Int32)), .val (.int va), .val (.int vb), .val (.int vc), .val (.int vd), .val (.ref b119), .val (.long ((0 : Int64) + (va.toInt64 * va.toInt64))), .second, .unset, .unset] [(.double (FP.i2d vb)), (.int (1 : Int32)), (.ref b119)])) _
    obtain ⟨T121, h121, X121, e121, W121, V121, st121⟩ := own_stD (x := (FP.i2d vb)) (pc := 90) (Ls := #[.val (.int p1), .val (.int p2), .val (.int p3), .val (.int p4), .val (.int p5), .val (.int (4 : Int32)), .val (.int va), .val (.int vb), .val (.int vc), .val (.int vd), .val (.ref b119), .val (.long ((0 : Int64) + (va.toInt64 * va.toInt64))), .second, .unset, .unset]) (rest := []) (j := (1 : Int32)) X120 hx hZ e120 V120 1 (by decide) (by decide) (Nat.le_of_ble_eq_true rfl) (hb hby at_90)
    have V121 : Arv Z h121 b119 k119 .double (4 : Int32) [(.double (FP.i2d va)), (.double (FP.i2d vb)), (.double 0), (.double 0)] (.double 0) := V121
    have N121 := Fr.snoc X121 N120 g_b119
    refine own_st st121 ?_
    show own_Goes p e below (T121.setTop (mkF m 91 #[.val (.int p1), .val (.int p2), .val (.int p3), .val (.int p4), .val (.int p5), .val (.int (4 : Int32)), .val (.int va), .val (.int vb), .val (.int vc), .val (.int vd), .val (.ref b119), .val (.long ((0 : Int64) + (va.toInt64 * va.toInt64))), .second, .unset, .unset] [])) _
    refine own_st (fun _ k => XT.lload X121.here hx rfl (hb hby at_91) rfl k) ?_
    show own_Goes p e below (T121.setTop (mkF m 93 #[.val (.int p1), .val (.int p2), .val (.int p3), .val (.int p4), .val (.int p5), .val (.int (4 : Int32)), .val (.int va), .val (.int vb), .val (.int vc), .val (.int vd), .val (.ref b119), .val (.long ((0 : Int64) + (va.toInt64 * va.toInt64))), .second, .unset, .unset] [(.long ((0 : Int64) + (va.toInt64 * va.toInt64)))])) _
    refine own_st (fun _ k => XS.iload X121.here hx rfl (hb hby at_93) rfl k) ?_
    show own_Goes p e below (T121.setTop (mkF m 95 #[.val (.int p1), .val (.int p2), .val (.int p3), .val (.int p4), .val (.int p5), .val (.int (4 : Int32)), .val (.int va), .val (.int vb), .val (.int vc), .val (.int vd), .val (.ref b119), .val (.long ((0 : Int64) + (va.toInt64 * va.toInt64))), .second, .unset, .unset] [(.int vb), (.long ((0 : Int64) + (va.toInt64 * va.toInt64)))])) _
    refine own_st (fun _ k => XT.i2l X121.here hx rfl (hb hby at_95) rfl k) ?_
    show own_Goes p e below (T121.setTop (mkF m 96 #[.val (.int p1), .val (.int p2), .val (.int p3), .val (.int p4), .val (.int p5), .val (.int (4 : Int32)), .val (.int va), .val (.int vb), .val (.int vc), .val (.int vd), .val (.ref b119), .val (.long ((0 : Int64) + (va.toInt64 * va.toInt64))), .second, .unset, .unset] [(.long vb.toInt64), (.long ((0 : Int64) + (va.toInt64 * va.toInt64)))])) _
    refine own_st (fun _ k => XS.iload X121.here hx rfl (hb hby at_96) rfl k) ?_
    show own_Goes p e below (T121.setTop (mkF m 98 #[.val (.int p1), .val (.int p2), .val (.int p3), .val (.int p4), .val (.int p5), .val (.int (4 : Int32)), .val (.int va), .val (.int vb), .val (.int vc), .val (.int vd), .val (.ref b119), .val (.long ((0 : Int64) + (va.toInt64 * va.toInt64))), .second, .unset, .unset] [(.int vb), (.long vb.toInt64), (.long ((0 : Int64) + (va.toInt64 * va.toInt64)))])) _
    refine own_st (fun _ k => XT.i2l X121.here hx rfl (hb hby at_98) rfl k) ?_
    show own_Goes p e below (T121.setTop (mkF m 99 #[.val (.int p1), .val (.int p2), .val (.int p3), .val (.int p4), .val (.int p5), .val (.int (4 : Int32)), .val (.int va), .val (.int vb), .val (.int vc), .val (.int vd), .val (.ref b119), .val (.long ((0 : Int64) + (va.toInt64 * va.toInt64))), .second, .unset, .unset] [(.long vb.toInt64), (.long vb.toInt64), (.long ((0 : Int64) + (va.toInt64 * va.toInt64)))])) _
    refine own_st (fun _ k => XT.lmul X121.here hx rfl (hb hby at_99) rfl k) ?_
    show own_Goes p e below (T121.setTop (mkF m 100 #[.val (.int p1), .val (.int p2), .val (.int p3), .val (.int p4), .val (.int p5), .val (.int (4 : Int32)), .val (.int va), .val (.int vb), .val (.int vc), .val (.int vd), .val (.ref b119), .val (.long ((0 : Int64) + (va.toInt64 * va.toInt64))), .second, .unset, .unset] [(.long (vb.toInt64 * vb.toInt64)), (.long ((0 : Int64) + (va.toInt64 * va.toInt64)))])) _
    refine own_st (fun _ k => XT.ladd X121.here hx rfl (hb hby at_100) rfl k) ?_
    show own_Goes p e below (T121.setTop (mkF m 101 #[.val (.int p1), .val (.int p2), .val (.int p3), .val (.int p4), .val (.int p5), .val (.int (4 : Int32)), .val (.int va), .val (.int vb), .val (.int vc), .val (.int vd), .val (.ref b119), .val (.long ((0 : Int64) + (va.toInt64 * va.toInt64))), .second, .unset, .unset] [(.long (((0 : Int64) + (va.toInt64 * va.toInt64)) + (vb.toInt64 * vb.toInt64)))])) _
    refine own_st (fun _ k => XT.lstore X121.here hx rfl (hb hby at_101) rfl (l' := #[.val (.int p1), .val (.int p2), .val (.int p3), .val (.int p4), .val (.int p5), .val (.int (4 : Int32)), .val (.int va), .val (.int vb), .val (.int vc), .val (.int vd), .val (.ref b119), .val (.long (((0 : Int64) + (va.toInt64 * va.toInt64)) + (vb.toInt64 * vb.toInt64))), .second, .unset, .unset]) rfl k) ?_
    show own_Goes p e below (T121.setTop (mkF m 103 #[.val (.int p1), .val (.int p2), .val (.int p3), .val (.int p4), .val (.int p5), .val (.int (4 : Int32)), .val (.int va), .val (.int vb), .val (.int vc), .val (.int vd), .val (.ref b119), .val (.long (((0 : Int64) + (va.toInt64 * va.toInt64)) + (vb.toInt64 * vb.toInt64))), .second, .unset, .unset] [])) _
    refine own_st (fun _ k => XS.iload X121.here hx rfl (hb hby at_103) rfl k) ?_
    show own_Goes p e below (T121.setTop (mkF m 105 #[.val (.int p1), .val (.int p2), .val (.int p3), .val (.int p4), .val (.int p5), .val (.int (4 : Int32)), .val (.int va), .val (.int vb), .val (.int vc), .val (.int vd), .val (.ref b119), .val (.long (((0 : Int64) + (va.toInt64 * va.toInt64)) + (vb.toInt64 * vb.toInt64))), .second, .unset, .unset] [(.int (4 : Int32))])) _
    refine own_st (fun _ k => XS.iconst X121.here hx rfl (hb hby at_105) k) ?_
    show own_Goes p e below (T121.setTop (mkF m 106 #[.val (.int p1), .val (.int p2), .val (.int p3), .val (.int p4), .val (.int p5), .val (.int (4 : Int32)), .val (.int va), .val (.int vb), .val (.int vc), .val (.int vd), .val (.ref b119), .val (.long (((0 : Int64) + (va.toInt64 * va.toInt64)) + (vb.toInt64 * vb.toInt64))), .second, .unset, .unset] [(.int (2 : Int32)), (.int (4 : Int32))])) _
    refine own_st (fun _ k => XS.icmpNo X121.here hx rfl (hb hby at_106) rfl (tlt (by decide : (2 : Int32) < (4 : Int32))).2.2.2 k) ?_
    show own_Goes p e below (T121.setTop (mkF m 109 #[.val (.int p1), .val (.int p2), .val (.int p3), .val (.int p4), .val (.int p5), .val (.int (4 : Int32)), .val (.int va), .val (.int vb), .val (.int vc), .val (.int vd), .val (.ref b119), .val (.long (((0 : Int64) + (va.toInt64 * va.toInt64)) + (vb.toInt64 * vb.toInt64))), .second, .unset, .unset] [])) _
    refine own_st (fun _ k => XS.aload X121.here hx rfl (hb hby at_109) rfl rfl k) ?_
    show own_Goes p e below (T121.setTop (mkF m 111 #[.val (.int p1), .val (.int p2), .val (.int p3), .val (.int p4), .val (.int p5), .val (.int (4 : Int32)), .val (.int va), .val (.int vb), .val (.int vc), .val (.int vd), .val (.ref b119), .val (.long (((0 : Int64) + (va.toInt64 * va.toInt64)) + (vb.toInt64 * vb.toInt64))), .second, .unset, .unset] [(.ref b119)])) _
    refine own_st (fun _ k => XS.iconst X121.here hx rfl (hb hby at_111) k) ?_
    show own_Goes p e below (T121.setTop (mkF m 112 #[.val (.int p1), .val (.int p2), .val (.int p3), .val (.int p4), .val (.int p5), .val (.int (4 : Int32)), .val (.int va), .val (.int vb), .val (.int vc), .val (.int vd), .val (.ref b119), .val (.long (((0 : Int64) + (va.toInt64 * va.toInt64)) + (vb.toInt64 * vb.toInt64))), .second, .unset, .unset] [(.int (2 : Int32)), (.ref b119)])) _
    refine own_st (fun _ k => XS.iload X121.here hx rfl (hb hby at_112) rfl k) ?_
    show own_Goes p e below (T121.setTop (mkF m 114 #[.val (.int p1), .val (.int p2), .val (.int p3), .val (.int p4), .val (.int p5), .val (.int (4 : Int32)), .val (.int va), .val (.int vb), .val (.int vc), .val (.int vd), .val (.ref b119), .val (.long (((0 : Int64) + (va.toInt64 * va.toInt64)) + (vb.toInt64 * vb.toInt64))), .second, .unset, .unset] [(.int vc), (.int (2 : Int32)), (.ref b119)])) _
    refine own_st (fun _ k => own_i2d X121.here hx rfl (hb hby at_114) rfl k) ?_
    show own_Goes p e below (T121.setTop (mkF m 115 #[.val (.int p1), .val (.int p2), .val (.int p3), .val (.int p4), .val (.int p5), .val (.int (4 : Int32)), .val (.int va), .val (.int vb), .val (.int vc), .val (.int vd), .val (.ref b119), .val (.long (((0 : Int64) + (va.toInt64 * va.toInt64)) + (vb.toInt64 * vb.toInt64))), .second, .unset, .unset] [(.double (FP.i2d vc)), (.int (2 : Int32)), (.ref b119)])) _
    obtain ⟨T122, h122, X122, e122, W122, V122, st122⟩ := own_stD (x := (FP.i2d vc)) (pc := 115) (Ls := #[.val (.int p1), .val (.int p2), .val (.int p3), .val (.int p4), .val (.int p5), .val (.int (4 : Int32)), .val (.int va), .val (.int vb), .val (.int vc), .val (.int vd), .val (.ref b119), .val (.long (((0 : Int64) + (va.toInt64 * va.toInt64)) + (vb.toInt64 * vb.toInt64))), .second, .unset, .unset]) (rest := []) (j := (2 : Int32)) X121 hx hZ e121 V121 2 (by decide) (by decide) (Nat.le_of_ble_eq_true rfl) (hb hby at_115)
    have V122 : Arv Z h122 b119 k119 .double (4 : Int32) [(.double (FP.i2d va)), (.double (FP.i2d vb)), (.double (FP.i2d vc)), (.double 0)] (.double 0) := V122
    have N122 := Fr.snoc X122 N121 g_b119
    refine own_st st122 ?_
    show own_Goes p e below (T122.setTop (mkF m 116 #[.val (.int p1), .val (.int p2), .val (.int p3), .val (.int p4), .val (.int p5), .val (.int (4 : Int32)), .val (.int va), .val (.int vb), .val (.int vc), .val (.int vd), .val (.ref b119), .val (.long (((0 : Int64) + (va.toInt64 * va.toInt64)) + (vb.toInt64 * vb.toInt64))), .second, .unset, .unset] [])) _
    refine own_st (fun _ k => XT.lload X122.here hx rfl (hb hby at_116) rfl k) ?_
    show own_Goes p e below (T122.setTop (mkF m 118 #[.val (.int p1), .val (.int p2), .val (.int p3), .val (.int p4), .val (.int p5), .val (.int (4 : Int32)), .val (.int va), .val (.int vb), .val (.int vc), .val (.int vd), .val (.ref b119), .val (.long (((0 : Int64) + (va.toInt64 * va.toInt64)) + (vb.toInt64 * vb.toInt64))), .second, .unset, .unset] [(.long (((0 : Int64) + (va.toInt64 * va.toInt64)) + (vb.toInt64 * vb.toInt64)))])) _
    refine own_st (fun _ k => XS.iload X122.here hx rfl (hb hby at_118) rfl k) ?_
    show own_Goes p e below (T122.setTop (mkF m 120 #[.val (.int p1), .val (.int p2), .val (.int p3), .val (.int p4), .val (.int p5), .val (.int (4 : Int32)), .val (.int va), .val (.int vb), .val (.int vc), .val (.int vd), .val (.ref b119), .val (.long (((0 : Int64) + (va.toInt64 * va.toInt64)) + (vb.toInt64 * vb.toInt64))), .second, .unset, .unset] [(.int vc), (.long (((0 : Int64) + (va.toInt64 * va.toInt64)) + (vb.toInt64 * vb.toInt64)))])) _
    refine own_st (fun _ k => XT.i2l X122.here hx rfl (hb hby at_120) rfl k) ?_
    show own_Goes p e below (T122.setTop (mkF m 121 #[.val (.int p1), .val (.int p2), .val (.int p3), .val (.int p4), .val (.int p5), .val (.int (4 : Int32)), .val (.int va), .val (.int vb), .val (.int vc), .val (.int vd), .val (.ref b119), .val (.long (((0 : Int64) + (va.toInt64 * va.toInt64)) + (vb.toInt64 * vb.toInt64))), .second, .unset, .unset] [(.long vc.toInt64), (.long (((0 : Int64) + (va.toInt64 * va.toInt64)) + (vb.toInt64 * vb.toInt64)))])) _
    refine own_st (fun _ k => XS.iload X122.here hx rfl (hb hby at_121) rfl k) ?_
    show own_Goes p e below (T122.setTop (mkF m 123 #[.val (.int p1), .val (.int p2), .val (.int p3), .val (.int p4), .val (.int p5), .val (.int (4 : Int32)), .val (.int va), .val (.int vb), .val (.int vc), .val (.int vd), .val (.ref b119), .val (.long (((0 : Int64) + (va.toInt64 * va.toInt64)) + (vb.toInt64 * vb.toInt64))), .second, .unset, .unset] [(.int vc), (.long vc.toInt64), (.long (((0 : Int64) + (va.toInt64 * va.toInt64)) + (vb.toInt64 * vb.toInt64)))])) _
    refine own_st (fun _ k => XT.i2l X122.here hx rfl (hb hby at_123) rfl k) ?_
    show own_Goes p e below (T122.setTop (mkF m 124 #[.val (.int p1), .val (.int p2), .val (.int p3), .val (.int p4), .val (.int p5), .val (.int (4 : Int32)), .val (.int va), .val (.int vb), .val (.int vc), .val (.int vd), .val (.ref b119), .val (.long (((0 : Int64) + (va.toInt64 * va.toInt64)) + (vb.toInt64 * vb.toInt64))), .second, .unset, .unset] [(.long vc.toInt64), (.long vc.toInt64), (.long (((0 : Int64) + (va.toInt64 * va.toInt64)) + (vb.toInt64 * vb.toInt64)))])) _
    refine own_st (fun _ k => XT.lmul X122.here hx rfl (hb hby at_124) rfl k) ?_
    show own_Goes p e below (T122.setTop (mkF m 125 #[.val (.int p1), .val (.int p2), .val (.int p3), .val (.int p4), .val (.int p5), .val (.int (4 : Int32)), .val (.int va), .val (.int vb), .val (.int vc), .val (.int vd), .val (.ref b119), .val (.long (((0 : Int64) + (va.toInt64 * va.toInt64)) + (vb.toInt64 * vb.toInt64))), .second, .unset, .unset] [(.long (vc.toInt64 * vc.toInt64)), (.long (((0 : Int64) + (va.toInt64 * va.toInt64)) + (vb.toInt64 * vb.toInt64)))])) _
    refine own_st (fun _ k => XT.ladd X122.here hx rfl (hb hby at_125) rfl k) ?_
    show own_Goes p e below (T122.setTop (mkF m 126 #[.val (.int p1), .val (.int p2), .val (.int p3), .val (.int p4), .val (.int p5), .val (.int (4 : Int32)), .val (.int va), .val (.int vb), .val (.int vc), .val (.int vd), .val (.ref b119), .val (.long (((0 : Int64) + (va.toInt64 * va.toInt64)) + (vb.toInt64 * vb.toInt64))), .second, .unset, .unset] [(.long ((((0 : Int64) + (va.toInt64 * va.toInt64)) + (vb.toInt64 * vb.toInt64)) + (vc.toInt64 * vc.toInt64)))])) _
    refine own_st (fun _ k => XT.lstore X122.here hx rfl (hb hby at_126) rfl (l' := #[.val (.int p1), .val (.int p2), .val (.int p3), .val (.int p4), .val (.int p5), .val (.int (4 : Int32)), .val (.int va), .val (.int vb), .val (.int vc), .val (.int vd), .val (.ref b119), .val (.long ((((0 : Int64) + (va.toInt64 * va.toInt64)) + (vb.toInt64 * vb.toInt64)) + (vc.toInt64 * vc.toInt64))), .second, .unset, .unset]) rfl k) ?_
    show own_Goes p e below (T122.setTop (mkF m 128 #[.val (.int p1), .val (.int p2), .val (.int p3), .val (.int p4), .val (.int p5), .val (.int (4 : Int32)), .val (.int va), .val (.int vb), .val (.int vc), .val (.int vd), .val (.ref b119), .val (.long ((((0 : Int64) + (va.toInt64 * va.toInt64)) + (vb.toInt64 * vb.toInt64)) + (vc.toInt64 * vc.toInt64))), .second, .unset, .unset] [])) _
    refine own_st (fun _ k => XS.iload X122.here hx rfl (hb hby at_128) rfl k) ?_
    show own_Goes p e below (T122.setTop (mkF m 130 #[.val (.int p1), .val (.int p2), .val (.int p3), .val (.int p4), .val (.int p5), .val (.int (4 : Int32)), .val (.int va), .val (.int vb), .val (.int vc), .val (.int vd), .val (.ref b119), .val (.long ((((0 : Int64) + (va.toInt64 * va.toInt64)) + (vb.toInt64 * vb.toInt64)) + (vc.toInt64 * vc.toInt64))), .second, .unset, .unset] [(.int (4 : Int32))])) _
    refine own_st (fun _ k => XS.iconst X122.here hx rfl (hb hby at_130) k) ?_
    show own_Goes p e below (T122.setTop (mkF m 131 #[.val (.int p1), .val (.int p2), .val (.int p3), .val (.int p4), .val (.int p5), .val (.int (4 : Int32)), .val (.int va), .val (.int vb), .val (.int vc), .val (.int vd), .val (.ref b119), .val (.long ((((0 : Int64) + (va.toInt64 * va.toInt64)) + (vb.toInt64 * vb.toInt64)) + (vc.toInt64 * vc.toInt64))), .second, .unset, .unset] [(.int (3 : Int32)), (.int (4 : Int32))])) _
    refine own_st (fun _ k => XS.icmpNo X122.here hx rfl (hb hby at_131) rfl (tlt (by decide : (3 : Int32) < (4 : Int32))).2.2.2 k) ?_
    show own_Goes p e below (T122.setTop (mkF m 134 #[.val (.int p1), .val (.int p2), .val (.int p3), .val (.int p4), .val (.int p5), .val (.int (4 : Int32)), .val (.int va), .val (.int vb), .val (.int vc), .val (.int vd), .val (.ref b119), .val (.long ((((0 : Int64) + (va.toInt64 * va.toInt64)) + (vb.toInt64 * vb.toInt64)) + (vc.toInt64 * vc.toInt64))), .second, .unset, .unset] [])) _
    refine own_st (fun _ k => XS.aload X122.here hx rfl (hb hby at_134) rfl rfl k) ?_
    show own_Goes p e below (T122.setTop (mkF m 136 #[.val (.int p1), .val (.int p2), .val (.int p3), .val (.int p4), .val (.int p5), .val (.int (4 : Int32)), .val (.int va), .val (.int vb), .val (.int vc), .val (.int vd), .val (.ref b119), .val (.long ((((0 : Int64) + (va.toInt64 * va.toInt64)) + (vb.toInt64 * vb.toInt64)) + (vc.toInt64 * vc.toInt64))), .second, .unset, .unset] [(.ref b119)])) _
    refine own_st (fun _ k => XS.iconst X122.here hx rfl (hb hby at_136) k) ?_
    show own_Goes p e below (T122.setTop (mkF m 137 #[.val (.int p1), .val (.int p2), .val (.int p3), .val (.int p4), .val (.int p5), .val (.int (4 : Int32)), .val (.int va), .val (.int vb), .val (.int vc), .val (.int vd), .val (.ref b119), .val (.long ((((0 : Int64) + (va.toInt64 * va.toInt64)) + (vb.toInt64 * vb.toInt64)) + (vc.toInt64 * vc.toInt64))), .second, .unset, .unset] [(.int (3 : Int32)), (.ref b119)])) _
    refine own_st (fun _ k => XS.iload X122.here hx rfl (hb hby at_137) rfl k) ?_
    show own_Goes p e below (T122.setTop (mkF m 139 #[.val (.int p1), .val (.int p2), .val (.int p3), .val (.int p4), .val (.int p5), .val (.int (4 : Int32)), .val (.int va), .val (.int vb), .val (.int vc), .val (.int vd), .val (.ref b119), .val (.long ((((0 : Int64) + (va.toInt64 * va.toInt64)) + (vb.toInt64 * vb.toInt64)) + (vc.toInt64 * vc.toInt64))), .second, .unset, .unset] [(.int vd), (.int (3 : Int32)), (.ref b119)])) _
    refine own_st (fun _ k => own_i2d X122.here hx rfl (hb hby at_139) rfl k) ?_
    show own_Goes p e below (T122.setTop (mkF m 140 #[.val (.int p1), .val (.int p2), .val (.int p3), .val (.int p4), .val (.int p5), .val (.int (4 : Int32)), .val (.int va), .val (.int vb), .val (.int vc), .val (.int vd), .val (.ref b119), .val (.long ((((0 : Int64) + (va.toInt64 * va.toInt64)) + (vb.toInt64 * vb.toInt64)) + (vc.toInt64 * vc.toInt64))), .second, .unset, .unset] [(.double (FP.i2d vd)), (.int (3 : Int32)), (.ref b119)])) _
    obtain ⟨T123, h123, X123, e123, W123, V123, st123⟩ := own_stD (x := (FP.i2d vd)) (pc := 140) (Ls := #[.val (.int p1), .val (.int p2), .val (.int p3), .val (.int p4), .val (.int p5), .val (.int (4 : Int32)), .val (.int va), .val (.int vb), .val (.int vc), .val (.int vd), .val (.ref b119), .val (.long ((((0 : Int64) + (va.toInt64 * va.toInt64)) + (vb.toInt64 * vb.toInt64)) + (vc.toInt64 * vc.toInt64))), .second, .unset, .unset]) (rest := []) (j := (3 : Int32)) X122 hx hZ e122 V122 3 (by decide) (by decide) (Nat.le_of_ble_eq_true rfl) (hb hby at_140)
    have V123 : Arv Z h123 b119 k119 .double (4 : Int32) [(.double (FP.i2d va)), (.double (FP.i2d vb)), (.double (FP.i2d vc)), (.double (FP.i2d vd))] (.double 0) := V123
    have N123 := Fr.snoc X123 N122 g_b119
    refine own_st st123 ?_
    show own_Goes p e below (T123.setTop (mkF m 141 #[.val (.int p1), .val (.int p2), .val (.int p3), .val (.int p4), .val (.int p5), .val (.int (4 : Int32)), .val (.int va), .val (.int vb), .val (.int vc), .val (.int vd), .val (.ref b119), .val (.long ((((0 : Int64) + (va.toInt64 * va.toInt64)) + (vb.toInt64 * vb.toInt64)) + (vc.toInt64 * vc.toInt64))), .second, .unset, .unset] [])) _
    refine own_st (fun _ k => XT.lload X123.here hx rfl (hb hby at_141) rfl k) ?_
    show own_Goes p e below (T123.setTop (mkF m 143 #[.val (.int p1), .val (.int p2), .val (.int p3), .val (.int p4), .val (.int p5), .val (.int (4 : Int32)), .val (.int va), .val (.int vb), .val (.int vc), .val (.int vd), .val (.ref b119), .val (.long ((((0 : Int64) + (va.toInt64 * va.toInt64)) + (vb.toInt64 * vb.toInt64)) + (vc.toInt64 * vc.toInt64))), .second, .unset, .unset] [(.long ((((0 : Int64) + (va.toInt64 * va.toInt64)) + (vb.toInt64 * vb.toInt64)) + (vc.toInt64 * vc.toInt64)))])) _
    refine own_st (fun _ k => XS.iload X123.here hx rfl (hb hby at_143) rfl k) ?_
    show own_Goes p e below (T123.setTop (mkF m 145 #[.val (.int p1), .val (.int p2), .val (.int p3), .val (.int p4), .val (.int p5), .val (.int (4 : Int32)), .val (.int va), .val (.int vb), .val (.int vc), .val (.int vd), .val (.ref b119), .val (.long ((((0 : Int64) + (va.toInt64 * va.toInt64)) + (vb.toInt64 * vb.toInt64)) + (vc.toInt64 * vc.toInt64))), .second, .unset, .unset] [(.int vd), (.long ((((0 : Int64) + (va.toInt64 * va.toInt64)) + (vb.toInt64 * vb.toInt64)) + (vc.toInt64 * vc.toInt64)))])) _
    refine own_st (fun _ k => XT.i2l X123.here hx rfl (hb hby at_145) rfl k) ?_
    show own_Goes p e below (T123.setTop (mkF m 146 #[.val (.int p1), .val (.int p2), .val (.int p3), .val (.int p4), .val (.int p5), .val (.int (4 : Int32)), .val (.int va), .val (.int vb), .val (.int vc), .val (.int vd), .val (.ref b119), .val (.long ((((0 : Int64) + (va.toInt64 * va.toInt64)) + (vb.toInt64 * vb.toInt64)) + (vc.toInt64 * vc.toInt64))), .second, .unset, .unset] [(.long vd.toInt64), (.long ((((0 : Int64) + (va.toInt64 * va.toInt64)) + (vb.toInt64 * vb.toInt64)) + (vc.toInt64 * vc.toInt64)))])) _
    refine own_st (fun _ k => XS.iload X123.here hx rfl (hb hby at_146) rfl k) ?_
    show own_Goes p e below (T123.setTop (mkF m 148 #[.val (.int p1), .val (.int p2), .val (.int p3), .val (.int p4), .val (.int p5), .val (.int (4 : Int32)), .val (.int va), .val (.int vb), .val (.int vc), .val (.int vd), .val (.ref b119), .val (.long ((((0 : Int64) + (va.toInt64 * va.toInt64)) + (vb.toInt64 * vb.toInt64)) + (vc.toInt64 * vc.toInt64))), .second, .unset, .unset] [(.int vd), (.long vd.toInt64), (.long ((((0 : Int64) + (va.toInt64 * va.toInt64)) + (vb.toInt64 * vb.toInt64)) + (vc.toInt64 * vc.toInt64)))])) _
    refine own_st (fun _ k => XT.i2l X123.here hx rfl (hb hby at_148) rfl k) ?_
    show own_Goes p e below (T123.setTop (mkF m 149 #[.val (.int p1), .val (.int p2), .val (.int p3), .val (.int p4), .val (.int p5), .val (.int (4 : Int32)), .val (.int va), .val (.int vb), .val (.int vc), .val (.int vd), .val (.ref b119), .val (.long ((((0 : Int64) + (va.toInt64 * va.toInt64)) + (vb.toInt64 * vb.toInt64)) + (vc.toInt64 * vc.toInt64))), .second, .unset, .unset] [(.long vd.toInt64), (.long vd.toInt64), (.long ((((0 : Int64) + (va.toInt64 * va.toInt64)) + (vb.toInt64 * vb.toInt64)) + (vc.toInt64 * vc.toInt64)))])) _
    refine own_st (fun _ k => XT.lmul X123.here hx rfl (hb hby at_149) rfl k) ?_
    show own_Goes p e below (T123.setTop (mkF m 150 #[.val (.int p1), .val (.int p2), .val (.int p3), .val (.int p4), .val (.int p5), .val (.int (4 : Int32)), .val (.int va), .val (.int vb), .val (.int vc), .val (.int vd), .val (.ref b119), .val (.long ((((0 : Int64) + (va.toInt64 * va.toInt64)) + (vb.toInt64 * vb.toInt64)) + (vc.toInt64 * vc.toInt64))), .second, .unset, .unset] [(.long (vd.toInt64 * vd.toInt64)), (.long ((((0 : Int64) + (va.toInt64 * va.toInt64)) + (vb.toInt64 * vb.toInt64)) + (vc.toInt64 * vc.toInt64)))])) _
    refine own_st (fun _ k => XT.ladd X123.here hx rfl (hb hby at_150) rfl k) ?_
    show own_Goes p e below (T123.setTop (mkF m 151 #[.val (.int p1), .val (.int p2), .val (.int p3), .val (.int p4), .val (.int p5), .val (.int (4 : Int32)), .val (.int va), .val (.int vb), .val (.int vc), .val (.int vd), .val (.ref b119), .val (.long ((((0 : Int64) + (va.toInt64 * va.toInt64)) + (vb.toInt64 * vb.toInt64)) + (vc.toInt64 * vc.toInt64))), .second, .unset, .unset] [(.long (((((0 : Int64) + (va.toInt64 * va.toInt64)) + (vb.toInt64 * vb.toInt64)) + (vc.toInt64 * vc.toInt64)) + (vd.toInt64 * vd.toInt64)))])) _
    refine own_st (fun _ k => XT.lstore X123.here hx rfl (hb hby at_151) rfl (l' := #[.val (.int p1), .val (.int p2), .val (.int p3), .val (.int p4), .val (.int p5), .val (.int (4 : Int32)), .val (.int va), .val (.int vb), .val (.int vc), .val (.int vd), .val (.ref b119), .val (.long (((((0 : Int64) + (va.toInt64 * va.toInt64)) + (vb.toInt64 * vb.toInt64)) + (vc.toInt64 * vc.toInt64)) + (vd.toInt64 * vd.toInt64))), .second, .unset, .unset]) rfl k) ?_
    show own_Goes p e below (T123.setTop (mkF m 153 #[.val (.int p1), .val (.int p2), .val (.int p3), .val (.int p4), .val (.int p5), .val (.int (4 : Int32)), .val (.int va), .val (.int vb), .val (.int vc), .val (.int vd), .val (.ref b119), .val (.long (((((0 : Int64) + (va.toInt64 * va.toInt64)) + (vb.toInt64 * vb.toInt64)) + (vc.toInt64 * vc.toInt64)) + (vd.toInt64 * vd.toInt64))), .second, .unset, .unset] [])) _
    have hL0 : (0 : Int64).toInt = 0 := by decide
    have hL1 : ((0 : Int64) + (va.toInt64 * va.toInt64)).toInt = 0 + va.toInt * va.toInt := own_lsum hL0 (by  omega) (by  omega) B_va
    have hL2 : (((0 : Int64) + (va.toInt64 * va.toInt64)) + (vb.toInt64 * vb.toInt64)).toInt = 0 + va.toInt * va.toInt + vb.toInt * vb.toInt := own_lsum hL1 (by have q0 := own_sq B_va; generalize va.toInt * va.toInt = t0 at *;  omega) (by have q0 := own_sq B_va; generalize va.toInt * va.toInt = t0 at *;  omega) B_vb
    have hL3 : ((((0 : Int64) + (va.toInt64 * va.toInt64)) + (vb.toInt64 * vb.toInt64)) + (vc.toInt64 * vc.toInt64)).toInt = 0 + va.toInt * va.toInt + vb.toInt * vb.toInt + vc.toInt * vc.toInt := own_lsum hL2 (by have q0 := own_sq B_va; generalize va.toInt * va.toInt = t0 at *; have q1 := own_sq B_vb; generalize vb.toInt * vb.toInt = t1 at *;  omega) (by have q0 := own_sq B_va; generalize va.toInt * va.toInt = t0 at *; have q1 := own_sq B_vb; generalize vb.toInt * vb.toInt = t1 at *;  omega) B_vc
    have hL4 : (((((0 : Int64) + (va.toInt64 * va.toInt64)) + (vb.toInt64 * vb.toInt64)) + (vc.toInt64 * vc.toInt64)) + (vd.toInt64 * vd.toInt64)).toInt = 0 + va.toInt * va.toInt + vb.toInt * vb.toInt + vc.toInt * vc.toInt + vd.toInt * vd.toInt := own_lsum hL3 (by have q0 := own_sq B_va; generalize va.toInt * va.toInt = t0 at *; have q1 := own_sq B_vb; generalize vb.toInt * vb.toInt = t1 at *; have q2 := own_sq B_vc; generalize vc.toInt * vc.toInt = t2 at *;  omega) (by have q0 := own_sq B_va; generalize va.toInt * va.toInt = t0 at *; have q1 := own_sq B_vb; generalize vb.toInt * vb.toInt = t1 at *; have q2 := own_sq B_vc; generalize vc.toInt * vc.toInt = t2 at *;  omega) B_vd
    have hLd : own_DI (0 + va.toInt * va.toInt + vb.toInt * vb.toInt + vc.toInt * vc.toInt + vd.toInt * vd.toInt) (FP.l2d (((((0 : Int64) + (va.toInt64 * va.toInt64)) + (vb.toInt64 * vb.toInt64)) + (vc.toInt64 * vc.toInt64)) + (vd.toInt64 * vd.toInt64))) := by rw [← hL4]; exact own_di_l2d (by rw [hL4]; have q0 := own_sq B_va; generalize va.toInt * va.toInt = t0 at *; have q1 := own_sq B_vb; generalize vb.toInt * vb.toInt = t1 at *; have q2 := own_sq B_vc; generalize vc.toInt * vc.toInt = t2 at *; have q3 := own_sq B_vd; generalize vd.toInt * vd.toInt = t3 at *;  omega)
    refine own_st (fun _ k => XS.aload X123.here hx rfl (hb hby at_153) rfl rfl k) ?_
    show own_Goes p e below (T123.setTop (mkF m 155 #[.val (.int p1), .val (.int p2), .val (.int p3), .val (.int p4), .val (.int p5), .val (.int (4 : Int32)), .val (.int va), .val (.int vb), .val (.int vc), .val (.int vd), .val (.ref b119), .val (.long (((((0 : Int64) + (va.toInt64 * va.toInt64)) + (vb.toInt64 * vb.toInt64)) + (vc.toInt64 * vc.toInt64)) + (vd.toInt64 * vd.toInt64))), .second, .unset, .unset] [(.ref b119)])) _
    have f125 := (Nat.le_trans (Nat.le_trans (Nat.le_trans (Nat.le_trans (Nat.le_trans Z0 E119.1) (Nat.le_of_eq W120.size.symm)) (Nat.le_of_eq W121.size.symm)) (Nat.le_of_eq W122.size.symm)) (Nat.le_of_eq W123.size.symm))
    obtain ⟨_, T124, h124, L124, X124, e124, ⟨r0, rfl, Dr, rfl, hh124⟩, st124⟩ := own_callS (argsL := [(.ref b119)]) (rest := []) (pc := 155) (W := 0) (Ls := #[.val (.int p1), .val (.int p2), .val (.int p3), .val (.int p4), .val (.int p5), .val (.int (4 : Int32)), .val (.int va), .val (.int vb), .val (.int vc), .val (.int vd), .val (.ref b119), .val (.long (((((0 : Int64) + (va.toInt64 * va.toInt64)) + (vb.toInt64 * vb.toInt64)) + (vc.toInt64 * vc.toInt64)) + (vd.toInt64 * vd.toInt64))), .second, .unset, .unset]) (S := [(.ref b119)]) X123 hx hZ hown (hw _ (List.mem_of_getElem? (i := 1) rfl)) (hw _ (List.mem_of_getElem? (i := 2) rfl)) (hw _ (List.mem_of_getElem? (i := 3) rfl)) (hw _ (List.mem_of_getElem? (i := 4) rfl)) (by decide) (rm14 l Z a0 hw [] b119 k119 (FP.i2d va) (FP.i2d vb) (FP.i2d vc) (FP.i2d vd) va.toInt vb.toInt vc.toInt vd.toInt h123 n0 f125 V123 (own_di_i2d va) B_va (own_di_i2d vb) B_vb (own_di_i2d vc) B_vc (own_di_i2d vd) B_vd) (by decide) (by decide) e123 (by rw [hml]; rfl) (lenOf pd___D_D rfl) rfl (Nat.le_of_eq rfl) (hb hby at_155) (by decide) (by decide)
    refine own_st st124 ?_
    show own_Goes p e below (T124.setTop (mkF m 158 #[.val (.int p1), .val (.int p2), .val (.int p3), .val (.int p4), .val (.int p5), .val (.int (4 : Int32)), .val (.int va), .val (.int vb), .val (.int vc), .val (.int vd), .val (.ref b119), .val (.long (((((0 : Int64) + (va.toInt64 * va.toInt64)) + (vb.toInt64 * vb.toInt64)) + (vc.toInt64 * vc.toInt64)) + (vd.toInt64 * vd.toInt64))), .second, .unset, .unset] [(.double r0)])) _
    refine own_st (fun _ k => own_dstore X124.here hx rfl (hb hby at_158) rfl (l' := #[.val (.int p1), .val (.int p2), .val (.int p3), .val (.int p4), .val (.int p5), .val (.int (4 : Int32)), .val (.int va), .val (.int vb), .val (.int vc), .val (.int vd), .val (.ref b119), .val (.long (((((0 : Int64) + (va.toInt64 * va.toInt64)) + (vb.toInt64 * vb.toInt64)) + (vc.toInt64 * vc.toInt64)) + (vd.toInt64 * vd.toInt64))), .second, .val (.double r0), .second]) rfl k) ?_
    show own_Goes p e below (T124.setTop (mkF m 160 #[.val (.int p1), .val (.int p2), .val (.int p3), .val (.int p4), .val (.int p5), .val (.int (4 : Int32)), .val (.int va), .val (.int vb), .val (.int vc), .val (.int vd), .val (.ref b119), .val (.long (((((0 : Int64) + (va.toInt64 * va.toInt64)) + (vb.toInt64 * vb.toInt64)) + (vc.toInt64 * vc.toInt64)) + (vd.toInt64 * vd.toInt64))), .second, .val (.double r0), .second] [])) _
    refine own_st (fun _ k => XT.dload X124.here hx rfl (hb hby at_160) rfl k) ?_
    show own_Goes p e below (T124.setTop (mkF m 162 #[.val (.int p1), .val (.int p2), .val (.int p3), .val (.int p4), .val (.int p5), .val (.int (4 : Int32)), .val (.int va), .val (.int vb), .val (.int vc), .val (.int vd), .val (.ref b119), .val (.long (((((0 : Int64) + (va.toInt64 * va.toInt64)) + (vb.toInt64 * vb.toInt64)) + (vc.toInt64 * vc.toInt64)) + (vd.toInt64 * vd.toInt64))), .second, .val (.double r0), .second] [(.double r0)])) _
    refine own_st (fun _ k => XT.lload X124.here hx rfl (hb hby at_162) rfl k) ?_
    show own_Goes p e below (T124.setTop (mkF m 164 #[.val (.int p1), .val (.int p2), .val (.int p3), .val (.int p4), .val (.int p5), .val (.int (4 : Int32)), .val (.int va), .val (.int vb), .val (.int vc), .val (.int vd), .val (.ref b119), .val (.long (((((0 : Int64) + (va.toInt64 * va.toInt64)) + (vb.toInt64 * vb.toInt64)) + (vc.toInt64 * vc.toInt64)) + (vd.toInt64 * vd.toInt64))), .second, .val (.double r0), .second] [(.long (((((0 : Int64) + (va.toInt64 * va.toInt64)) + (vb.toInt64 * vb.toInt64)) + (vc.toInt64 * vc.toInt64)) + (vd.toInt64 * vd.toInt64))), (.double r0)])) _
    refine own_st (fun _ k => own_l2d X124.here hx rfl (hb hby at_164) rfl k) ?_
    show own_Goes p e below (T124.setTop (mkF m 165 #[.val (.int p1), .val (.int p2), .val (.int p3), .val (.int p4), .val (.int p5), .val (.int (4 : Int32)), .val (.int va), .val (.int vb), .val (.int vc), .val (.int vd), .val (.ref b119), .val (.long (((((0 : Int64) + (va.toInt64 * va.toInt64)) + (vb.toInt64 * vb.toInt64)) + (vc.toInt64 * vc.toInt64)) + (vd.toInt64 * vd.toInt64))), .second, .val (.double r0), .second] [(.double (FP.l2d (((((0 : Int64) + (va.toInt64 * va.toInt64)) + (vb.toInt64 * vb.toInt64)) + (vc.toInt64 * vc.toInt64)) + (vd.toInt64 * vd.toInt64)))), (.double r0)])) _
    refine own_st (fun _ k => own_dcmp (o := .eq) X124.here hx rfl (hb hby at_165) rfl (by rw [own_di_cmp Dr hLd]; exact congrArg some (Jvm.FP.Core.compare_self_int _)) k) ?_
    show own_Goes p e below (T124.setTop (mkF m 166 #[.val (.int p1), .val (.int p2), .val (.int p3), .val (.int p4), .val (.int p5), .val (.int (4 : Int32)), .val (.int va), .val (.int vb), .val (.int vc), .val (.int vd), .val (.ref b119), .val (.long (((((0 : Int64) + (va.toInt64 * va.toInt64)) + (vb.toInt64 * vb.toInt64)) + (vc.toInt64 * vc.toInt64)) + (vd.toInt64 * vd.toInt64))), .second, .val (.double r0), .second] [(.int (own_ord .eq))])) _
    refine own_st (fun _ k => XS.ifNo X124.here hx rfl (hb hby at_166) rfl ((if0 _ _).trans (teq (by decide : (own_ord .eq) = (0 : Int32))).2) k) ?_
    show own_Goes p e below (T124.setTop (mkF m 169 #[.val (.int p1), .val (.int p2), .val (.int p3), .val (.int p4), .val (.int p5), .val (.int (4 : Int32)), .val (.int va), .val (.int vb), .val (.int vc), .val (.int vd), .val (.ref b119), .val (.long (((((0 : Int64) + (va.toInt64 * va.toInt64)) + (vb.toInt64 * vb.toInt64)) + (vc.toInt64 * vc.toInt64)) + (vd.toInt64 * vd.toInt64))), .second, .val (.double r0), .second] [])) _
    refine own_st (fun _ k => XS.iconst X124.here hx rfl (hb hby at_169) k) ?_
    show own_Goes p e below (T124.setTop (mkF m 170 #[.val (.int p1), .val (.int p2), .val (.int p3), .val (.int p4), .val (.int p5), .val (.int (4 : Int32)), .val (.int va), .val (.int vb), .val (.int vc), .val (.int vd), .val (.ref b119), .val (.long (((((0 : Int64) + (va.toInt64 * va.toInt64)) + (vb.toInt64 * vb.toInt64)) + (vc.toInt64 * vc.toInt64)) + (vd.toInt64 * vd.toInt64))), .second, .val (.double r0), .second] [(.int (1 : Int32))])) _
    refine own_st (fun _ k => XS.goto X124.here hx rfl (pc0 := 170) (pc' := 174) rfl (hb hby at_170) (by decide) (by decide) k) ?_
    show own_Goes p e below (T124.setTop (mkF m 174 #[.val (.int p1), .val (.int p2), .val (.int p3), .val (.int p4), .val (.int p5), .val (.int (4 : Int32)), .val (.int va), .val (.int vb), .val (.int vc), .val (.int vd), .val (.ref b119), .val (.long (((((0 : Int64) + (va.toInt64 * va.toInt64)) + (vb.toInt64 * vb.toInt64)) + (vc.toInt64 * vc.toInt64)) + (vd.toInt64 * vd.toInt64))), .second, .val (.double r0), .second] [(.int (1 : Int32))])) _
    exact own_retN (t := .boolean) (z' := (1 : Int32)) X124 hx hlk hret (by simp) (by decide) (hb hby at_174) (by decide) (by decide) (e124.trans hh124) ⟨rfl, N123⟩
set_option maxRecDepth 65536 in
set_option maxHeartbeats 40000000 in
theorem comes_1 {Post : Tables → Env → Array Value → State → Outcome → State → Prop} (hpost : ∀ tb e args s v u, (limb_1_1.after args s (.returned v) u = true ∧ limb_1_2.after args s (.returned v) u = true ∧ True) → FrameEnd s (.returned v) u (Jvm.fieldLocs frame_1_writes args s ++ Jvm.arrayLocs frame_1_arrays args s ++ Jvm.staticLocs frame_1_statics s) 16 128 → Post tb e args s (.returned v) u) :
    ArmFor flags0 classFile x code maxLocals ret World_1 tables_1 room_1 Calls_1 rest_1 Pre_1 Post := by
  intro l hfl _ _ p e ha hc hk s m args below hf hA hF happ hP
  obtain ⟨hcalls, hrest, hpre⟩ := hP
  obtain ⟨-, -, -, hnamed, -, -, -, hat⟩ := (Spec.applies_iff hf).mp happ
  obtain ⟨hg, hn⟩ := and_e (Cond.before_iff.mp (show (Jvm.Cond.and given_1 narrow_1).before args s = true from hpre))
  obtain ⟨hcount, g0⟩ := and_e hg
  obtain ⟨q0, g1⟩ := and_e g0
  obtain ⟨q1, g2⟩ := and_e g1
  obtain ⟨q2, g3⟩ := and_e g2
  obtain ⟨q3, g4⟩ := and_e g3
  have q4 := g4
  obtain ⟨w0, w1, w2, w3, w4, rfl⟩ : ∃ w0 w1 w2 w3 w4 : Value, args = #[w0, w1, w2, w3, w4] := by
    have hs : args.size = 5 := by simpa [Cond.value, given_1] using hcount
    obtain ⟨L⟩ := args
    match L, hs with
    | [w0, w1, w2, w3, w4], _ => exact ⟨w0, w1, w2, w3, w4, rfl⟩
  obtain ⟨i0, ei0⟩ := is_v q0
  obtain rfl : w0 = (.int i0) := Option.some.inj ei0
  obtain ⟨i1, ei1⟩ := is_v q1
  obtain rfl : w1 = (.int i1) := Option.some.inj ei1
  obtain ⟨i2, ei2⟩ := is_v q2
  obtain rfl : w2 = (.int i2) := Option.some.inj ei2
  obtain ⟨i3, ei3⟩ := is_v q3
  obtain rfl : w3 = (.int i3) := Option.some.inj ei3
  obtain ⟨i4, ei4⟩ := is_v q4
  obtain rfl : w4 = (.int i4) := Option.some.inj ei4
  have hw := fun d (hd : d ∈ tables_1) => atoms_spec (ws := Jvm.Cond.code x code maxLocals ret :: tables_1) hat d (List.mem_cons_of_mem _ hd)
  have hfit : Fit s := fun {y c} hc i hi => by
    obtain ⟨ha, rfl⟩ := Array.getElem?_eq_some_iff.mp hc
    have q := List.all_eq_true.mp ((Array.all_eq_true_iff_forall_mem.mp hF) _ (Array.getElem_mem ha)) i (List.mem_range.mpr hi)
    simpa [Array.getElem?_eq_getElem hi] using q
  obtain ⟨n, o, h1, h2, h3, _, L, rfl, ⟨rfl, N⟩, hq⟩ := rm0 l s _ hw tables_1 i0 i1 i2 i3 i4 s.heap s.heap.size (Nat.le_refl _)  p e ha hc hk s m _ below hf ((Spec.applies_iff_loose hf).mp happ).1 ⟨rfl, State.Warmed39.refl s, rfl⟩ trivial
  refine ⟨n, _, h1, h2, h3, hpost _ _ _ _ _ _ ⟨Cond.after_iff.mpr rfl, Cond.after_iff.mpr (eq_i res_at (Term.int_eval (1)) rfl), trivial⟩ ⟨hq.1, hq.2.1, (hq.2.2.sift fun y hy => Or.inr (N y hy)).mono (by decide) (by decide)⟩⟩
theorem main_1_1 : Claimed_1_1 := comes_1 fun _ _ _ _ _ _ h hF => ⟨h.1, hF⟩
theorem main_1_2 : Claimed_1_2 := comes_1 fun _ _ _ _ _ _ h hF => ⟨h.2.1, hF⟩
end Jvm.Pilot.@@N@@
namespace Jvm.Pilot.@@N@@
open Jvm Jvm.ClassFile Sem Op Lib Jvm.Free Jvm.Stand Jvm.Pilot.@@N@@.Jvm.D
/-! MADE BY PROGRAM (witnessworld.py) out of the Statement's table words and the real class files: 9 classes; the members and pool entries that the words name. The judged class is class 1, her method 1. -/
namespace start1
open Jvm.ClassFile
def u (s : String) : CpInfo := .utf8 (stringToUtf16 s)
/-- a pool by its gaps: so many unusable entries, then the entry; so many at the end -/
def gap : Nat → List CpInfo → List CpInfo
  | 0, r => r
  | n + 1, r => .unusable :: gap n r
def poolList (es : List (Nat × CpInfo)) (last : Nat) : List CpInfo := es.foldr (fun e r => gap e.1 (e.2 :: r)) (gap last [])
def pool (es : List (Nat × CpInfo)) (last : Nat) : Array CpInfo := ⟨poolList es last⟩
def fileOf (pool : Array CpInfo) (this : Nat) (attrs : Array Attribute := #[]) (ms : Array MethodInfo := #[]) (fl : Nat := 33) (sup : Nat := 0) (ifs : Array Nat := #[]) (fds : Array FieldInfo := #[]) : ClassFile where
  minorVersion := 0
  majorVersion := 65
  constantPool := pool
  accessFlags := fl
  thisClass := this
  superClass := sup
  interfaces := ifs
  fields := fds
  methods := ms
  attributes := attrs
def plain (name : String) (sup : Option ClassId) : Class where
  name := name
  kind := .ordinary
  loader := none
  accessFlags := 33
  super := sup
  interfaces := #[]
  cf := none
  fields := #[]
  methods := #[]
  instanceTypes := #[]
  staticTypes := #[]
  resolved := #[]
  callSites := []
  init := .initialized
  statics := none
  mirror := none

def pool0 : Array CpInfo := pool [(5, u "<init>"), (0, u "()V"), (1, .class_ 10), (1, u "java/lang/Object")] 113

def k0m0 : Method := { name := "<init>", desc := "()V", sig := { parameters := [], returnType := none }, accessFlags := 1, code := none }
/-- java/lang/Object -/
def k0 : Class := { plain "java/lang/Object" none with
  accessFlags := 33
  interfaces := #[]
  cf := some (fileOf pool0 8 #[] #[{ accessFlags := 1, nameIndex := 5, descriptorIndex := 6, attributes := #[] }] 33 0 #[] #[])
  fields := #[]
  methods := #[k0m0]
  instanceTypes := #[]
  staticTypes := #[]
  resolved := Array.replicate 124 none
  statics := none }

def pool1 : Array CpInfo := pool [(2, .class_ 4), (1, u "java/lang/Object"), (0, u "<init>"), (0, u "()V"), (0, .methodref 8 9), (0, .class_ 10), (0, .nameAndType 11 12), (0, u "com/example/forseti/forseti/core/QuantizedVectors"), (0, u "squaredLength"), (0, u "([D)D"), (0, .class_ 14), (0, u "com/example/forseti/forseti/core/QuantizedVectorsSquaredLengthPinLaw"), (2, u "law"), (0, u "(IIIII)Z")] 5

def k1m0 : Method := { name := "<init>", desc := "()V", sig := { parameters := [], returnType := none }, accessFlags := 2, code := none }
def k1c1 : Code := { maxStack := 6, maxLocals := 15, code := code, exceptionTable := #[], attributes := #[] }
def k1m1 : Method := { name := "law", desc := "(IIIII)Z", sig := { parameters := [.int, .int, .int, .int, .int], returnType := some .boolean }, accessFlags := 9, code := some k1c1 }
/-- com/example/forseti/forseti/core/QuantizedVectorsSquaredLengthPinLaw -/
def k1 : Class := { plain "com/example/forseti/forseti/core/QuantizedVectorsSquaredLengthPinLaw" (some 0) with
  accessFlags := 49
  interfaces := #[]
  cf := some (fileOf pool1 13 #[] #[{ accessFlags := 2, nameIndex := 5, descriptorIndex := 6, attributes := #[] }, { accessFlags := 9, nameIndex := 17, descriptorIndex := 18, attributes := #[] }] 49 2 #[] #[])
  fields := #[]
  methods := #[k1m0, k1m1]
  instanceTypes := #[]
  staticTypes := #[]
  resolved := Array.replicate 24 none
  statics := none }

def pool2 : Array CpInfo := pool [(2, .class_ 4), (1, u "java/lang/Object"), (6, .class_ 13), (1, u "com/example/forseti/forseti/core/QuantizedVectors"), (0, u "pages"), (0, u "Ljava/util/List;"), (4, u "savedPages"), (0, u "[Ljava/nio/ByteBuffer;"), (2, u "ordinals"), (0, u "[I"), (2, u "scales"), (0, u "[D"), (2, u "errors"), (2, u "squaredLengths"), (2, u "retired"), (0, u "[J"), (2, u "dims"), (0, u "I"), (3, u "([D)D"), (6, u "size"), (2, u "retiredCount"), (39, u "squaredLength"), (24, .class_ 123), (0, u "com/example/forseti/forseti/core/QuantizedVectors$Query"), (15, u "D"), (115, u "codesForm"), (0, u "Lcom/example/forseti/forseti/core/SavedForm;"), (6, u "codesAt"), (0, u "J"), (78, u "LARGEST_CODE"), (2, u "PAGE"), (1, u "SMALLEST_ESTIMATED"), (0, u "LARGEST_ESTIMATED"), (0, u "ROUNDING")] 83

def k2c0 : Code := { maxStack := 6, maxLocals := 8, code := prog_72_method_3_code, exceptionTable := #[], attributes := #[] }
def k2m0 : Method := { name := "squaredLength", desc := "([D)D", sig := { parameters := [(.array .double)], returnType := some .double }, accessFlags := 8, code := some k2c0 }
/-- com/example/forseti/forseti/core/QuantizedVectors -/
def k2 : Class := { plain "com/example/forseti/forseti/core/QuantizedVectors" (some 0) with
  accessFlags := 32
  interfaces := #[]
  cf := some (fileOf pool2 11 #[.nestMembers #[122]] #[{ accessFlags := 8, nameIndex := 97, descriptorIndex := 47, attributes := #[] }] 32 2 #[] #[{ accessFlags := 26, nameIndex := 343, descriptorIndex := 43, attributes := #[] }, { accessFlags := 26, nameIndex := 346, descriptorIndex := 43, attributes := #[] }, { accessFlags := 26, nameIndex := 348, descriptorIndex := 139, attributes := #[] }, { accessFlags := 26, nameIndex := 349, descriptorIndex := 139, attributes := #[] }, { accessFlags := 26, nameIndex := 350, descriptorIndex := 139, attributes := #[] }, { accessFlags := 18, nameIndex := 42, descriptorIndex := 43, attributes := #[] }, { accessFlags := 2, nameIndex := 54, descriptorIndex := 43, attributes := #[] }, { accessFlags := 2, nameIndex := 14, descriptorIndex := 15, attributes := #[] }, { accessFlags := 2, nameIndex := 20, descriptorIndex := 21, attributes := #[] }, { accessFlags := 2, nameIndex := 255, descriptorIndex := 256, attributes := #[] }, { accessFlags := 2, nameIndex := 263, descriptorIndex := 264, attributes := #[] }, { accessFlags := 2, nameIndex := 24, descriptorIndex := 25, attributes := #[] }, { accessFlags := 2, nameIndex := 28, descriptorIndex := 29, attributes := #[] }, { accessFlags := 2, nameIndex := 32, descriptorIndex := 29, attributes := #[] }, { accessFlags := 2, nameIndex := 35, descriptorIndex := 29, attributes := #[] }, { accessFlags := 2, nameIndex := 38, descriptorIndex := 39, attributes := #[] }, { accessFlags := 2, nameIndex := 57, descriptorIndex := 43, attributes := #[] }])
  fields := #[{ name := "LARGEST_CODE", type := .int, accessFlags := 26, slot := 0, constantValue := 0 }, { name := "PAGE", type := .int, accessFlags := 26, slot := 1, constantValue := 0 }, { name := "SMALLEST_ESTIMATED", type := .double, accessFlags := 26, slot := 2, constantValue := 0 }, { name := "LARGEST_ESTIMATED", type := .double, accessFlags := 26, slot := 3, constantValue := 0 }, { name := "ROUNDING", type := .double, accessFlags := 26, slot := 4, constantValue := 0 }, { name := "dims", type := .int, accessFlags := 18, slot := 0, constantValue := 0 }, { name := "size", type := .int, accessFlags := 2, slot := 1, constantValue := 0 }, { name := "pages", type := (.object "java/util/List"), accessFlags := 2, slot := 2, constantValue := 0 }, { name := "savedPages", type := (.array (.object "java/nio/ByteBuffer")), accessFlags := 2, slot := 3, constantValue := 0 }, { name := "codesForm", type := (.object "com/example/forseti/forseti/core/SavedForm"), accessFlags := 2, slot := 4, constantValue := 0 }, { name := "codesAt", type := .long, accessFlags := 2, slot := 5, constantValue := 0 }, { name := "ordinals", type := (.array .int), accessFlags := 2, slot := 6, constantValue := 0 }, { name := "scales", type := (.array .double), accessFlags := 2, slot := 7, constantValue := 0 }, { name := "errors", type := (.array .double), accessFlags := 2, slot := 8, constantValue := 0 }, { name := "squaredLengths", type := (.array .double), accessFlags := 2, slot := 9, constantValue := 0 }, { name := "retired", type := (.array .long), accessFlags := 2, slot := 10, constantValue := 0 }, { name := "retiredCount", type := .int, accessFlags := 2, slot := 11, constantValue := 0 }]
  methods := #[k2m0]
  instanceTypes := #[.int, .int, (.object "java/util/List"), (.array (.object "java/nio/ByteBuffer")), (.object "com/example/forseti/forseti/core/SavedForm"), .long, (.array .int), (.array .double), (.array .double), (.array .double), (.array .long), .int]
  staticTypes := #[.int, .int, .double, .double, .double]
  resolved := Array.replicate 434 none
  statics := none }

def pool3 : Array CpInfo := pool [(1, u "java/lang/Cloneable"), (0, .class_ 1), (0, u "java/lang/Object"), (0, .class_ 3)] 3

/-- java/lang/Cloneable -/
def k3 : Class := { plain "java/lang/Cloneable" (some 0) with
  accessFlags := 1537
  interfaces := #[]
  cf := some (fileOf pool3 2 #[] #[] 1537 4 #[] #[])
  fields := #[]
  methods := #[]
  instanceTypes := #[]
  staticTypes := #[]
  resolved := Array.replicate 8 none
  statics := none }

def pool4 : Array CpInfo := pool [(1, u "java/io/Serializable"), (0, .class_ 1), (0, u "java/lang/Object"), (0, .class_ 3)] 3

/-- java/io/Serializable -/
def k4 : Class := { plain "java/io/Serializable" (some 0) with
  accessFlags := 1537
  interfaces := #[]
  cf := some (fileOf pool4 2 #[] #[] 1537 4 #[] #[])
  fields := #[]
  methods := #[]
  instanceTypes := #[]
  staticTypes := #[]
  resolved := Array.replicate 8 none
  statics := none }

/-- the primitive byte -/
def k5 : Class := { plain "byte" none with kind := .primitive 'B', accessFlags := 0x411 }
/-- [B -/
def k6 : Class := { plain "[B" (some 0) with kind := .array 5 .byte, interfaces := #[3, 4], accessFlags := 1041 }

/-- the primitive int -/
def k7 : Class := { plain "int" none with kind := .primitive 'I', accessFlags := 0x411 }
/-- [I -/
def k8 : Class := { plain "[I" (some 0) with kind := .array 7 .int, interfaces := #[3, 4], accessFlags := 1041 }

def k9 : Class := { plain "double" none with kind := .primitive 'D', accessFlags := 0x411 }
def k10 : Class := { plain "[D" (some 0) with kind := .array 9 .double, interfaces := #[3, 4], accessFlags := 1041 }
def heap : Heap := #[]
def classes : Array Class := #[k0, k1, k2, k3, k4, k5, k6, k7, k8, k9, k10]
def interned : List (Array UInt16 × Addr) := []
def slotsUsed : Nat := 0
def theMethod : MethodId := ⟨1, 1⟩
def args0 : Array Value := #[.int 4, .int 7, .int 3, .int 3, .int 3]
def aboutOver (below : List Frame) : State where
  vm := { classes := classes, interned := interned.toArray }
  heap := heap
  slotsUsed := slotsUsed
  threads := #[{ frames := .invoking theMethod args0 :: below }]
def below0 : List Frame := [.native { method := ⟨0, 0⟩, args := #[] }]
def about1 : State := aboutOver below0
def p0 : Program := .bare "" "" ""
def e0 : Env := launch0.env 0 0 0
theorem w_frames : about1.frames = Frame.invoking theMethod args0 :: below0 := rfl
set_option maxRecDepth 65536 in
theorem w_args : argsFit about1.vm theMethod args0 = true := by decide +kernel
set_option maxRecDepth 65536 in
theorem w_heap : heapFits about1 = true := by decide +kernel
set_option maxRecDepth 65536 in
theorem w_runnable : about1.curStatus? = some .runnable := by decide +kernel
set_option maxRecDepth 65536 in
theorem w_alone : about1.alone = true := by decide +kernel
set_option maxRecDepth 65536 in
theorem w_named : about1.methodNamed? x = some theMethod := by decide +kernel
set_option maxRecDepth 65536 in
theorem w_hears : about1.hears theMethod below0 = true := by decide +kernel
set_option maxRecDepth 65536 in
theorem w_ripe : about1.ripe theMethod args0 below0 = true := by decide +kernel
theorem w_running : about1.status = .running := rfl
set_option maxRecDepth 65536 in
theorem w_room : about1.hasRoom e0.platform room_1 = true :=
  launch0.hasRoom_least _ room_1 (by decide +kernel) (by decide +kernel) (by decide +kernel) (by decide +kernel) (by decide +kernel) (by decide +kernel)
theorem allAtoms_all (ts : List Jvm.Cond) (a : Array Jvm.Value) (st : Jvm.State) : (allAtoms ts).before a st = ts.all (fun c => c.before a st) := by
  induction ts with
  | nil => rfl
  | cons c t ih =>
    show (Jvm.Cond.and c (allAtoms t)).before a st = _
    rw [Jvm.Cond.before_and, ih, List.all_cons]
def words1 : List Jvm.Cond := Jvm.Cond.code x code maxLocals ret :: tables_1
/-- a 'code' word, met by the world's own term for the bytes: nothing is compared byte by byte -/
theorem code_word {y : MethodName} {bytes : ByteArray} {mx : Nat} {rt : Option FieldType} {a : Array Value} {s : State} {m : MethodId} {meth : Method} {c : Code} (h1 : s.methodNamed? y = some m) (h2 : s.vm.method? m = some meth) (h3 : meth.code = some c) (h4 : c.code = bytes)
    (h5 : (c.maxLocals == mx && c.exceptionTable.isEmpty && decide (c.maxStack ≤ mostOperands) && decide (meth.sig.returnType = rt) && !meth.locks && decide (parseMethodDescriptor y.desc = some meth.sig)) = true) : (Jvm.Cond.code y bytes mx rt).before a s = true := by
  simp only [Bool.and_eq_true, beq_iff_eq, Bool.not_eq_true', decide_eq_true_eq] at h5
  obtain ⟨⟨⟨⟨⟨g1, g2⟩, g3⟩, g4⟩, g5⟩, g6⟩ := h5
  simp [Cond.before, Cond.holds, Cond.value, h1, h2, h3, h4, g1, g2, g3, g4, g5, g6]
def isCode : Jvm.Cond → Bool
  | .code _ _ _ _ => true
  | _ => false
theorem all_split {L : List Jvm.Cond} {P : Jvm.Cond → Bool} (h1 : L.all (fun c => isCode c || P c) = true) (h2 : ∀ c ∈ L.filter isCode, P c = true) : L.all P = true := by
  refine List.all_eq_true.mpr fun c hc => ?_
  have h := List.all_eq_true.mp h1 c hc
  rcases Bool.eq_false_or_eq_true (isCode c) with hi | hi
  · exact h2 c (List.mem_filter.mpr ⟨hc, hi⟩)
  · simpa [hi] using h
set_option maxRecDepth 65536 in
theorem w_c0 : (Jvm.Cond.code x code maxLocals ret).before args0 about1 = true := code_word (m := ⟨1, 1⟩) (meth := k1m1) (c := k1c1) (by decide +kernel) rfl rfl rfl (by decide +kernel)
set_option maxRecDepth 65536 in
theorem w_c1 : (Jvm.Cond.code ({ cls := "com/example/forseti/forseti/core/QuantizedVectors", name := "squaredLength", desc := "([D)D" } : Jvm.MethodName) prog_72_method_3_code (8 : Nat) (Option.some Jvm.ClassFile.FieldType.double)).before args0 about1 = true := code_word (m := ⟨2, 0⟩) (meth := k2m0) (c := k2c0) (by decide +kernel) rfl rfl rfl (by decide +kernel)
def codes1 : List Jvm.Cond := [Jvm.Cond.code x code maxLocals ret, Jvm.Cond.code ({ cls := "com/example/forseti/forseti/core/QuantizedVectors", name := "squaredLength", desc := "([D)D" } : Jvm.MethodName) prog_72_method_3_code (8 : Nat) (Option.some Jvm.ClassFile.FieldType.double)]
set_option maxRecDepth 65536 in
theorem codes_eq : words1.filter isCode = codes1 := rfl
theorem w_codes : ∀ c ∈ words1.filter isCode, c.before args0 about1 = true := by
  rw [codes_eq]
  intro c hc
  simp only [codes1, List.mem_cons, List.not_mem_nil, or_false] at hc
  rcases hc with rfl | rfl
  · exact w_c0
  · exact w_c1
set_option maxRecDepth 65536 in
theorem w_t1 : words1.all (fun c => isCode c || c.before args0 about1) = true := by decide +kernel
theorem w_tables : (allAtoms (Jvm.Cond.code x code maxLocals ret :: tables_1)).before args0 about1 = true := by
  rw [allAtoms_all]
  show words1.all (fun c => c.before args0 about1) = true
  refine all_split ?_ w_codes
  rw [w_t1]
set_option maxRecDepth 65536 in
theorem w_case : (Jvm.Cond.and given_1 narrow_1).before args0 about1 = true := by decide +kernel
theorem w_applies : (headSpec (Jvm.Cond.code x code maxLocals ret :: tables_1) room_1).applies x e0.platform about1 = true :=
  (Spec.applies_iff w_frames).mpr ⟨w_running, w_runnable, w_alone, w_named, w_hears, w_ripe, w_room, w_tables⟩
theorem atStart : AtStart classFile x code maxLocals ret World_1 tables_1 room_1 Calls_1 rest_1 Pre_1 launch0 p0 e0 about1 theMethod args0 below0 :=
  ⟨lists_1, trivial, launch0.admits_env _ _ _, launch0.least_env, fairChoices_fair.cas, fairChoices_fair.clock, w_frames, w_args, w_heap, w_applies, trivial, trivial, w_case⟩
end start1
theorem witness_1 : WitnessClaimed_1 := ⟨start1.p0, start1.e0, start1.about1, start1.theMethod, start1.args0, start1.below0, start1.atStart⟩
end Jvm.Pilot.@@N@@
