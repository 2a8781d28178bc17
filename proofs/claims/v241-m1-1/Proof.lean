import JvmDerived
import JvmDerived.Pilot.@@N@@Statement
import JvmDerived.Pilot.@@N@@Code
set_option linter.unusedVariables false
set_option linter.unusedSimpArgs false
namespace Jvm.Pilot.@@N@@
open Jvm Jvm.ClassFile Sem Op Lib Jvm.Free Jvm.Stand Jvm.LawKit Jvm.RoadKit Bundle Jvm.Pilot.@@N@@.Jvm.D
/-! 0. the walk's own layer: a run that comes to its end, step by step -/
def own_Goes (p : Program) (e : Env) (below : List Frame) (A : State) (G : Outcome → State → Prop) : Prop :=
  ∃ s₂ o, Steps p.tables e below A s₂ ∧ s₂.status = .running ∧ Ended s₂ below o ∧ G o s₂
def own_post (s : State) (Q : Option Value → Heap → List Loc → Prop) (rc rs : Nat) : Outcome → State → Prop :=
  fun o U' => ∃ v L, o = .returned v ∧ Q v U'.heap L ∧ FrameEnd s o U' L rc rs
section Own
variable {p : Program} {l : Launch} {e : Env} {R : Room} {s : State} {m : MethodId} {args : Array Value} {below : List Frame} {meth : Method} {c : Code} {T : State} {locs : List Loc} {cells slots : Nat} {G : Outcome → State → Prop} {Q : Option Value → Heap → List Loc → Prop} {rc rs : Nat} {Z : State} {a0 : Array Value} {h : Heap}
theorem own_st {A B : State} (st : ∀ t, Steps p.tables e below B t → Steps p.tables e below A t) (k : own_Goes p e below B G) : own_Goes p e below A G := by
  obtain ⟨s₂, o, h1, h2⟩ := k; exact ⟨s₂, o, st _ h1, h2⟩
theorem own_join {B : State} {K : (Outcome → State → Prop) → Prop} (h1 : K G) (h2 : K G → own_Goes p e below B G) : own_Goes p e below B G := h2 h1
theorem own_ret {S : List Value} {pc : Nat} {Ls : Array Slot} {w : Value} {t : FieldType} (X : Stand p l e R s m args below meth c T locs cells slots) (hlk : meth.locks = false) (hret : meth.sig.returnType = some t)
    (st : ∀ fs, (∀ (f : JFrame) (acts : List Action), f.method = m → f.locked = none → f.entered = [] → (doReturn e (T.setTop f) acts (some w)).1 = T.setFrames fs) → Steps p.tables e below (T.setTop (mkF m pc Ls S)) (T.setFrames fs))
    (hc : cells ≤ rc) (hs : slots ≤ rs) (eT : T.heap = h) (hq : Q (some w) h locs) : own_Goes p e below (T.setTop (mkF m pc Ls S)) (own_post s Q rc rs) := by
  subst eT
  obtain ⟨fs, hr, hrun, hended, hW, hsame⟩ := X.leave (v := some w) (fun h => by rw [hret] at h; cases h) hlk
  exact ⟨_, _, st fs hr, hrun, hended, _, _, rfl, hq, ⟨_, rfl⟩, hW, hsame.mono hc hs⟩
theorem own_retI {rest : List Value} {pc : Nat} {Ls : Array Slot} {z : Int32} (X : Stand p l e R s m args below meth c T locs cells slots) (hx : p.tables.exec = Jvm.exec) (hlk : meth.locks = false) (hret : meth.sig.returnType = some .int) (hd : decode c.code pc = .ok (.ireturn, 1))
    (hc : cells ≤ rc) (hs : slots ≤ rs) (eT : T.heap = h) (hq : Q (some (.int z)) h locs) : own_Goes p e below (T.setTop (mkF m pc Ls (.int z :: rest))) (own_post s Q rc rs) :=
  own_ret X hlk hret (fun fs hr => retOut X hx hret rfl (Or.inl ⟨rfl, Or.inl rfl, z, rfl⟩) hd hr) hc hs eT hq
theorem own_retN {rest : List Value} {pc : Nat} {Ls : Array Slot} {z z' : Int32} {t : FieldType} (X : Stand p l e R s m args below meth c T locs cells slots) (hx : p.tables.exec = Jvm.exec) (hlk : meth.locks = false) (hret : meth.sig.returnType = some t) (ht : t = .boolean ∨ t = .byte ∨ t = .char ∨ t = .short) (hn : nar t z = z') (hd : decode c.code pc = .ok (.ireturn, 1))
    (hc : cells ≤ rc) (hs : slots ≤ rs) (eT : T.heap = h) (hq : Q (some (.int z')) h locs) : own_Goes p e below (T.setTop (mkF m pc Ls (.int z :: rest))) (own_post s Q rc rs) :=
  own_ret X hlk hret (fun fs hr => retN X hx hret ht hd (by rw [hn]; exact hr)) hc hs eT hq
theorem own_retJ {rest : List Value} {pc : Nat} {Ls : Array Slot} {z : Int64} (X : Stand p l e R s m args below meth c T locs cells slots) (hx : p.tables.exec = Jvm.exec) (hlk : meth.locks = false) (hret : meth.sig.returnType = some .long) (hd : decode c.code pc = .ok (.lreturn, 1))
    (hc : cells ≤ rc) (hs : slots ≤ rs) (eT : T.heap = h) (hq : Q (some (.long z)) h locs) : own_Goes p e below (T.setTop (mkF m pc Ls (.long z :: rest))) (own_post s Q rc rs) :=
  own_ret X hlk hret (fun fs hr => retOut X hx hret rfl (Or.inr (Or.inl ⟨rfl, rfl, z, rfl⟩)) hd hr) hc hs eT hq
theorem own_retA {rest : List Value} {pc : Nat} {Ls : Array Slot} {w : Value} {t : FieldType} (X : Stand p l e R s m args below meth c T locs cells slots) (hx : p.tables.exec = Jvm.exec) (hlk : meth.locks = false) (hret : meth.sig.returnType = some t) (ht : t.isReference = true) (hw : w.isRef = true) (hn : narrow t w = w) (hd : decode c.code pc = .ok (.areturn, 1))
    (hc : cells ≤ rc) (hs : slots ≤ rs) (eT : T.heap = h) (hq : Q (some w) h locs) : own_Goes p e below (T.setTop (mkF m pc Ls (w :: rest))) (own_post s Q rc rs) :=
  own_ret X hlk hret (fun fs hr => retOut X hx hret hn (Or.inr (Or.inr (Or.inr (Or.inr ⟨rfl, ht, hw⟩)))) hd hr) hc hs eT hq
theorem own_retV {pc : Nat} {Ls : Array Slot} (X : Stand p l e R s m args below meth c T locs cells slots) (hx : p.tables.exec = Jvm.exec) (hlk : meth.locks = false) (hret : meth.sig.returnType = none) (hd : decode c.code pc = .ok (.return_, 1))
    (hc : cells ≤ rc) (hs : slots ≤ rs) (eT : T.heap = h) (hq : Q none h locs) : own_Goes p e below (T.setTop (mkF m pc Ls [])) (own_post s Q rc rs) := by
  subst eT
  obtain ⟨fs, hr, hrun, hended, hW, hsame⟩ := X.leave (v := none) (fun _ => rfl) hlk
  exact ⟨_, _, X.returnOut hx hret hd hr, hrun, hended, _, _, rfl, hq, ⟨_, rfl⟩, hW, hsame.mono hc hs⟩
/-- what a body's theorem says -/
abbrev own_Ct (l : Launch) (Z : State) (y : MethodName) (bytes : ByteArray) (maxL : Nat) (ret : Option FieldType) (ws : List Jvm.Cond) (rm : Room) (as' : Array Value) (h0 : Heap) (Q : Option Value → Heap → List Loc → Prop) (rc rs : Nat) : Prop :=
  MetFree l y (head1 (Jvm.Cond.code y bytes maxL ret :: ws) rm) (fun a U => a = as' ∧ Z.Warmed39 U.vm ∧ U.heap = h0) (fun _ _ _ _ _ => True) (fun _ U o U' => ∃ v L, o = .returned v ∧ Q v U'.heap L ∧ FrameEnd U o U' L rc rs)
theorem own_met {y : MethodName} {bytes : ByteArray} {maxL : Nat} {ret : Option FieldType} {ws : List Jvm.Cond} {rm : Room} {as' : Array Value} {h0 : Heap} (hp : plainFor y = true)
    (body : ∀ p e s m below meth c s₁, Stand p l e rm s m as' below meth c s₁ [] 0 0 → p.tables.exec = Jvm.exec → c.code = bytes → c.maxLocals = maxL → meth.sig.returnType = ret → meth.locks = false → meth.name = y.name → s.vm.findClass y.cls = some m.cls → Z.Warmed39 s.vm → s₁.heap = h0 →
      own_Goes p e below (s₁.setTop (entryFrame m as' maxL)) (own_post s Q rc rs)) : own_Ct l Z y bytes maxL ret ws rm as' h0 Q rc rs := by
  refine MetFree.of_bodySF hp hisR ?_
  intro p e s m args below meth c s₁ Bd hml0 hP hK
  obtain ⟨rfl, hZ, hh⟩ := hP
  exact body p e s m below meth c s₁ (Stand.of_body Bd) Bd.exec Bd.bytes hml0 Bd.returns Bd.notSynchronized (name_of_methodNamed Bd.named Bd.method).1 (findClass_of_methodNamed Bd.named) hZ (by rw [← hh, Bd.state]; rfl)
theorem own_callS {own : String} {index : Nat} {y : MethodName} {bytes : ByteArray} {maxL : Nat} {ret : Option FieldType} {rm : Room} {argsL rest : List Value} {pc W : Nat} {Ls : Array Slot} (X : Stand p l e R s m args below meth c T locs cells slots) (hx : p.tables.exec = Jvm.exec) (hZ : Z.Warmed39 s.vm) (hown : s.vm.findClass own = some m.cls)
    (w1 : (Jvm.Cond.methodLink own index y).before a0 Z = true) (w2 : (Jvm.Cond.static y).before a0 Z = true) (w3 : (Jvm.Cond.initialized y.cls).before a0 Z = true) (w4 : (Jvm.Cond.code y bytes maxL ret).before a0 Z = true) (hy : y.cls ≠ "java/lang/invoke/MethodHandle" ∧ y.cls ≠ "java/lang/invoke/VarHandle")
    (M : own_Ct l Z y bytes maxL ret [] rm argsL.toArray h Q rm.cells rm.slots) (hf : rm.frames + 1 ≤ R.frames) (hl : W + (maxL + 11) + rm.locals ≤ R.locals) (eT : T.heap = h) (hsize : Ls.size = c.maxLocals)
    (hlen : ∀ sig, parseMethodDescriptor y.desc = some sig → argsL.length = sig.parameters.length) {S : List Value} (hS : S = argsL.reverse ++ rest) (hW : (rest.map fun v => v.category).sum ≤ W) (hd : decode c.code pc = .ok (.invokestatic index, 3)) (hc : cells + rm.cells ≤ R.cells) (hs : slots + rm.slots ≤ R.slots) :
    ∃ v T' h' L, Stand p l e R s m args below meth c T' (locs ++ L) (cells + rm.cells) (slots + rm.slots) ∧ T'.heap = h' ∧ Q v h' L ∧ ∀ t, Steps p.tables e below (T'.setTop (mkF m (pc + 3) Ls (v.toList ++ rest))) t → Steps p.tables e below (T.setTop (mkF m pc Ls S)) t := by
  obtain ⟨v, _, ⟨T4, L4, k4, n4⟩, -, X4, ⟨Lc, hQ, l4, y4, z4⟩, st⟩ := Jvm.LawKit.callS X hx hown (mvT hZ w1) (mvT hZ w2) (mvT hZ w3) (mvT hZ w4) hy (backOf (W := W) M hZ w4 w3 hf hl) (g := mkF m pc Ls S) rfl hsize (argsL := argsL) (rest := rest) hlen hS (by show 2 * 0 + _ ≤ _; omega) hd (fun _ _ => ⟨rfl, eT, hc, hs⟩)
  dsimp only [Pt.U, Pt.locs, Pt.cells, Pt.slots] at X4 l4 y4 z4 st hQ
  subst l4 y4 z4
  exact ⟨v, T4, _, Lc, X4, rfl, hQ, st⟩
theorem own_callV {own C : String} {index : Nat} {y z : MethodName} {bytes : ByteArray} {maxL : Nat} {ret : Option FieldType} {rm : Room} {b : Addr} {argsL rest : List Value} {pc W : Nat} {Ls : Array Slot} (X : Stand p l e R s m args below meth c T locs cells slots) (hx : p.tables.exec = Jvm.exec) (hZ : Z.Warmed39 s.vm) (hown : s.vm.findClass own = some m.cls)
    (w1 : (Jvm.Cond.methodLink own index y).before a0 Z = true) (w2 : (Jvm.Cond.declares y).before a0 Z = true) (w5 : (Jvm.Cond.selects C y z).before a0 Z = true) (w6 : (Jvm.Cond.instanceMethod z).before a0 Z = true) (w3 : (Jvm.Cond.initialized z.cls).before a0 Z = true) (w4 : (Jvm.Cond.code z bytes maxL ret).before a0 Z = true) (hnf : NotFace s y) (hy : y.cls ≠ "java/lang/invoke/MethodHandle" ∧ y.cls ≠ "java/lang/invoke/VarHandle")
    (M : own_Ct l Z z bytes maxL ret [] rm (.ref b :: argsL).toArray h Q rm.cells rm.slots) (hf : rm.frames + 1 ≤ R.frames) (hl : W + (maxL + 11) + rm.locals ≤ R.locals) (eT : T.heap = h) (E : Exa Z h b C) (hsize : Ls.size = c.maxLocals)
    (hlen : ∀ sig, parseMethodDescriptor y.desc = some sig → argsL.length = sig.parameters.length) {S : List Value} (hS : S = argsL.reverse ++ .ref b :: rest) (hW : (rest.map fun v => v.category).sum ≤ W) (hd : decode c.code pc = .ok (.invokevirtual index, 3)) (hc : cells + rm.cells ≤ R.cells) (hs : slots + rm.slots ≤ R.slots) :
    ∃ v T' h' L, Stand p l e R s m args below meth c T' (locs ++ L) (cells + rm.cells) (slots + rm.slots) ∧ T'.heap = h' ∧ Q v h' L ∧ ∀ t, Steps p.tables e below (T'.setTop (mkF m (pc + 3) Ls (v.toList ++ rest))) t → Steps p.tables e below (T.setTop (mkF m pc Ls S)) t := by
  obtain ⟨cq, kq, qa, qb, qc⟩ := isOf hZ eT E
  obtain ⟨v, _, ⟨T4, L4, k4, n4⟩, -, X4, ⟨Lc, hQ, l4, y4, z4⟩, st⟩ := X.virtualBack hx (y := y) (z := z) hown (mvT hZ w1) (mvT hZ w2) hnf (mvT hZ w5) (mvT hZ w6) hy (backOf (W := W) M hZ w4 w3 hf hl) qa qc (g := mkF m pc Ls S) rfl hsize (Steps.refl _) (argsL := argsL) (rest := rest) hlen hS (by show 2 * 0 + _ ≤ _; omega) hd (fun _ _ => ⟨rfl, eT, hc, hs⟩)
  dsimp only [Pt.U, Pt.locs, Pt.cells, Pt.slots] at X4 l4 y4 z4 st hQ
  subst l4 y4 z4
  exact ⟨v, T4, _, Lc, X4, rfl, hQ, fun t k => st.trans k⟩
theorem own_callU {own C owner : String} {index : Nat} {y z : MethodName} {bytes : ByteArray} {maxL : Nat} {ret : Option FieldType} {rm : Room} {b : Addr} {argsL rest : List Value} {pc W : Nat} {Ls : Array Slot} (X : Stand p l e R s m args below meth c T locs cells slots) (hx : p.tables.exec = Jvm.exec) (hZ : Z.Warmed39 s.vm) (hown : s.vm.findClass own = some m.cls)
    (w1 : (Jvm.Cond.methodLink own index y).before a0 Z = true) (w0 : (Jvm.Cond.sameMethod y.cls owner y.name y.desc).before a0 Z = true) (w2 : (Jvm.Cond.declares ⟨owner, y.name, y.desc⟩).before a0 Z = true) (w5 : (Jvm.Cond.selects C y z).before a0 Z = true) (w6 : (Jvm.Cond.instanceMethod z).before a0 Z = true) (w3 : (Jvm.Cond.initialized z.cls).before a0 Z = true) (w4 : (Jvm.Cond.code z bytes maxL ret).before a0 Z = true) (hy : owner ≠ "java/lang/invoke/MethodHandle" ∧ owner ≠ "java/lang/invoke/VarHandle")
    (M : own_Ct l Z z bytes maxL ret [] rm (.ref b :: argsL).toArray h Q rm.cells rm.slots) (hf : rm.frames + 1 ≤ R.frames) (hl : W + (maxL + 11) + rm.locals ≤ R.locals) (eT : T.heap = h) (E : Exa Z h b C) (hsize : Ls.size = c.maxLocals)
    (hlen : ∀ sig, parseMethodDescriptor y.desc = some sig → argsL.length = sig.parameters.length) {S : List Value} (hS : S = argsL.reverse ++ .ref b :: rest) (hW : (rest.map fun v => v.category).sum ≤ W) (hd : decode c.code pc = .ok (.invokevirtual index, 3)) (hc : cells + rm.cells ≤ R.cells) (hs : slots + rm.slots ≤ R.slots) :
    ∃ v T' h' L, Stand p l e R s m args below meth c T' (locs ++ L) (cells + rm.cells) (slots + rm.slots) ∧ T'.heap = h' ∧ Q v h' L ∧ ∀ t, Steps p.tables e below (T'.setTop (mkF m (pc + 3) Ls (v.toList ++ rest))) t → Steps p.tables e below (T.setTop (mkF m pc Ls S)) t := by
  obtain ⟨cq, kq, qa, qb, qc⟩ := isOf hZ eT E
  obtain ⟨v, _, ⟨T4, L4, k4, n4⟩, -, X4, ⟨Lc, hQ, l4, y4, z4⟩, st⟩ := X.virtualBackUp hx (x := y) (y := z) hown (mvT hZ w1) (mvT hZ w0) (mvT hZ w2) hy (mvT hZ w5) (mvT hZ w6) (backOf (W := W) M hZ w4 w3 hf hl) qa qc (g := mkF m pc Ls S) rfl hsize (Steps.refl _) (argsL := argsL) (rest := rest) hlen hS (by show 2 * 0 + _ ≤ _; omega) hd (fun _ _ => ⟨rfl, eT, hc, hs⟩)
  dsimp only [Pt.U, Pt.locs, Pt.cells, Pt.slots] at X4 l4 y4 z4 st hQ
  subst l4 y4 z4
  exact ⟨v, T4, _, Lc, X4, rfl, hQ, fun t k => st.trans k⟩
theorem own_callP {own : String} {index : Nat} {y y' : MethodName} {bytes : ByteArray} {maxL : Nat} {ret : Option FieldType} {rm : Room} {b : Addr} {argsL rest : List Value} {pc W : Nat} {Ls : Array Slot} (X : Stand p l e R s m args below meth c T locs cells slots) (hx : p.tables.exec = Jvm.exec) (hZ : Z.Warmed39 s.vm) (hown : s.vm.findClass own = some m.cls)
    (w1 : (Jvm.Cond.methodLink own index y).before a0 Z = true) (w6 : (Jvm.Cond.instanceMethod y).before a0 Z = true) (w7 : (Jvm.Cond.privateMethod y).before a0 Z = true) (w5 : (Jvm.Cond.selects y.cls y' y').before a0 Z = true) (hy' : y'.cls = y.cls) (w3 : (Jvm.Cond.initialized y.cls).before a0 Z = true) (w4 : (Jvm.Cond.code y bytes maxL ret).before a0 Z = true) (hy : y.cls ≠ "java/lang/invoke/MethodHandle" ∧ y.cls ≠ "java/lang/invoke/VarHandle")
    (M : own_Ct l Z y bytes maxL ret [] rm (.ref b :: argsL).toArray h Q rm.cells rm.slots) (hf : rm.frames + 1 ≤ R.frames) (hl : W + (maxL + 11) + rm.locals ≤ R.locals) (eT : T.heap = h) {C : String} (E : Exa Z h b C) (hsize : Ls.size = c.maxLocals)
    (hlen : ∀ sig, parseMethodDescriptor y.desc = some sig → argsL.length = sig.parameters.length) {S : List Value} (hS : S = argsL.reverse ++ .ref b :: rest) (hW : (rest.map fun v => v.category).sum ≤ W) (hd : decode c.code pc = .ok (.invokevirtual index, 3)) (hc : cells + rm.cells ≤ R.cells) (hs : slots + rm.slots ≤ R.slots) :
    ∃ v T' h' L, Stand p l e R s m args below meth c T' (locs ++ L) (cells + rm.cells) (slots + rm.slots) ∧ T'.heap = h' ∧ Q v h' L ∧ ∀ t, Steps p.tables e below (T'.setTop (mkF m (pc + 3) Ls (v.toList ++ rest))) t → Steps p.tables e below (T.setTop (mkF m pc Ls S)) t := by
  obtain ⟨cq, q1, q2⟩ := E.cell
  have hpv : s.PrivateAt y := Cond.privateMethod_at (mvP hZ w7 (args := #[]))
  have hnf : NotFace s y' := notFace_of_selects (args := #[]) (mvT hZ w5)
  obtain ⟨c2, r2, m2, k1, k2, k3, k4, kP, hkP, hkPi⟩ := Cond.selects_spec (mvT (args := #[]) hZ w5)
  have k5 := findClass_of_methodNamed k3
  rw [hy'] at k5
  obtain ⟨v, _, ⟨T4, L4, k4, n4⟩, -, X4, ⟨Lc, hQ, l4, y4, z4⟩, st⟩ := X.privateBack hx hown (mvT hZ w1) (mvT hZ w6) (selects_self_of_private k5 hkP hkPi hpv (mvT hZ w6) hy) hpv (mvT hZ w4) hy (backOf (W := W) M hZ w4 w3 hf hl) (g := mkF m pc Ls S) rfl hsize (Steps.refl _) (a := b) (by rw [eT]; exact q1) q2 (argsL := argsL) (rest := rest) hlen hS (by show 2 * 0 + _ ≤ _; omega) hd (fun _ _ => ⟨rfl, eT, hc, hs⟩)
  dsimp only [Pt.U, Pt.locs, Pt.cells, Pt.slots] at X4 l4 y4 z4 st hQ
  subst l4 y4 z4
  exact ⟨v, T4, _, Lc, X4, rfl, hQ, fun t k => st.trans k⟩
theorem own_callI {own : String} {index : Nat} {y : MethodName} {bytes : ByteArray} {maxL : Nat} {rm : Room} {b : Addr} {argsL rest : List Value} {pc W : Nat} {Ls : Array Slot} (X : Stand p l e R s m args below meth c T locs cells slots) (hx : p.tables.exec = Jvm.exec) (hZ : Z.Warmed39 s.vm) (hown : s.vm.findClass own = some m.cls) (hi : y.name = "<init>")
    (w1 : (Jvm.Cond.methodLink own index y).before a0 Z = true) (w6 : (Jvm.Cond.instanceMethod y).before a0 Z = true) (w3 : (Jvm.Cond.initialized y.cls).before a0 Z = true) (w4 : (Jvm.Cond.code y bytes maxL none).before a0 Z = true) (hy : y.cls ≠ "java/lang/invoke/MethodHandle" ∧ y.cls ≠ "java/lang/invoke/VarHandle")
    (M : own_Ct l Z y bytes maxL none [] rm (.ref b :: argsL).toArray h Q rm.cells rm.slots) (hf : rm.frames + 1 ≤ R.frames) (hl : W + (maxL + 11) + rm.locals ≤ R.locals) (eT : T.heap = h) (hsize : Ls.size = c.maxLocals)
    (hlen : ∀ sig, parseMethodDescriptor y.desc = some sig → argsL.length = sig.parameters.length) {S : List Value} (hS : S = argsL.reverse ++ .ref b :: rest) (hW : (rest.map fun v => v.category).sum ≤ W) (hd : decode c.code pc = .ok (.invokespecial index, 3)) (hc : cells + rm.cells ≤ R.cells) (hs : slots + rm.slots ≤ R.slots) :
    ∃ v T' h' L, Stand p l e R s m args below meth c T' (locs ++ L) (cells + rm.cells) (slots + rm.slots) ∧ T'.heap = h' ∧ Q v h' L ∧ ∀ t, Steps p.tables e below (T'.setTop (mkF m (pc + 3) Ls (v.toList ++ rest))) t → Steps p.tables e below (T.setTop (mkF m pc Ls S)) t := by
  obtain ⟨v, _, ⟨T4, L4, k4, n4⟩, -, X4, ⟨Lc, hQ, l4, y4, z4⟩, st⟩ := X.specialBack hx hi hown (mvT hZ w1) (mvT hZ w6) (mvT hZ w4) hy (backOf (W := W) M hZ w4 w3 hf hl) (g := mkF m pc Ls S) rfl hsize (Steps.refl _) (a := b) (argsL := argsL) (rest := rest) hlen hS (by show 2 * 0 + _ ≤ _; omega) hd (fun _ _ => ⟨rfl, eT, hc, hs⟩)
  dsimp only [Pt.U, Pt.locs, Pt.cells, Pt.slots] at X4 l4 y4 z4 st hQ
  subst l4 y4 z4
  exact ⟨v, T4, _, Lc, X4, rfl, hQ, fun t k => st.trans k⟩
theorem own_eqI {st : State} {t : Term} {z : Int32} (k : (Jvm.Cond.eq t (Term.int z)).value args st none st [] = some true) : t.eval args st none [] st = some (.int z) := by
  simp only [Jvm.Cond.value, Term.eval] at k
  cases ht : t.eval args st none [] st with
  | none => simp [ht] at k
  | some q => cases q <;> simp [ht] at k ⊢; exact k
theorem own_eqR {st : State} {t u : Term} {b : Addr} (k : (Jvm.Cond.eq t u).value args st none st [] = some true) (hu : u.eval args st none [] st = some (.ref b)) : t.eval args st none [] st = some (.ref b) := by
  simp only [Jvm.Cond.value] at k
  cases ht : t.eval args st none [] st with
  | none => simp [ht] at k
  | some q => cases q <;> simp [ht, hu] at k ⊢; exact k
end Own

theorem pn_cognomen_NameCode : plainName "cognomen/NameCode" = true := by first | (simp [plainName, overriddenIn]; done) | decide +kernel
theorem pn_cognomen_NameCodeIsVowelPinLaw : plainName "cognomen/NameCodeIsVowelPinLaw" = true := by first | (simp [plainName, overriddenIn]; done) | decide +kernel
theorem pd__C_I : parseMethodDescriptor "(C)I" = some ⟨[.char], some .int⟩ := by decide +kernel
theorem pd__C_Z : parseMethodDescriptor "(C)Z" = some ⟨[.char], some .boolean⟩ := by decide +kernel
/-! the plain law -/
def own_isv (c : Int32) : Int32 := if ((17842449 : Int32) &&& ((1 : Int32) <<< ((c - (65 : Int32)) &&& 31))) = (0 : Int32) then 0 else 1
def own_vow (c : Int32) : Int32 := if c = (65 : Int32) ∨ c = (69 : Int32) ∨ c = (73 : Int32) ∨ c = (79 : Int32) ∨ c = (85 : Int32) ∨ c = (89 : Int32) then 1 else 0
theorem own_fin : ∀ k : Fin 26, own_isv (Int32.ofNat (65 + k.val)) = own_vow (Int32.ofNat (65 + k.val)) := by decide +kernel
theorem own_let (x : Int32) : ∃ c : Int32, ((65 : Int32) + ((x &&& (2147483647 : Int32)) % (26 : Int32))).toUInt32.toUInt16.toUInt32.toInt32 = c ∧ own_isv c = own_vow c := by
  have e1 : (x &&& (2147483647 : Int32)).toInt = x.toInt % (2 ^ 31 : Nat) := c_mask x _ 31 (by decide) (by decide)
  have e2 := (c_irem (x &&& (2147483647 : Int32)) (26 : Int32) 26 (by decide)).1 (by omega)
  have e3 := c_iadd (65 : Int32) ((x &&& (2147483647 : Int32)) % (26 : Int32))
  have e4 := c_i2c ((65 : Int32) + ((x &&& (2147483647 : Int32)) % (26 : Int32)))
  have e5 := rng32 ((65 : Int32) + ((x &&& (2147483647 : Int32)) % (26 : Int32)))
  have e6 : (65 : Int32).toInt = 65 := by decide
  refine ⟨_, rfl, ?_⟩
  generalize ((65 : Int32) + ((x &&& (2147483647 : Int32)) % (26 : Int32))) = s at *
  generalize s.toUInt32.toUInt16.toUInt32.toInt32 = c at *
  have e7 : 65 ≤ c.toInt ∧ c.toInt < 91 := by omega
  have e8 : c = Int32.ofNat (65 + (⟨(c.toInt - 65).toNat, by omega⟩ : Fin 26).val) := by
    apply Int32.toInt_inj.mp
    rw [Int32.toInt_ofNat_of_lt (by show 65 + (c.toInt - 65).toNat < _; omega)]
    show c.toInt = ((65 + (c.toInt - 65).toNat : Nat) : Int)
    omega
  rw [e8]; exact own_fin _

theorem d2_0 : decode prog_29_method_24_code 0 = .ok (.iconst 1, 1) := by decide +kernel
theorem d2_1 : decode prog_29_method_24_code 1 = .ok (.iload_n 0, 1) := by decide +kernel
theorem d2_2 : decode prog_29_method_24_code 2 = .ok (.bipush 65, 2) := by decide +kernel
theorem d2_4 : decode prog_29_method_24_code 4 = .ok (.isub, 1) := by decide +kernel
theorem d2_5 : decode prog_29_method_24_code 5 = .ok (.ishl, 1) := by decide +kernel
theorem d2_6 : decode prog_29_method_24_code 6 = .ok (.ireturn, 1) := by decide +kernel
theorem ef_2 (m : MethodId) (p1 : Int32) : entryFrame m #[(.int p1)] 1 = mkF m 0 #[.val (.int p1)] [] := by first | (simp [entryFrame, mkF, argsToLocals, Value.category]; done) | rfl
set_option maxRecDepth 65536 in
set_option maxHeartbeats 40000000 in
theorem rm2 (l : Launch) (Z : State) (a0 : Array Value) (hw : ∀ d ∈ tables_1, d.before a0 Z = true) (ws : List Jvm.Cond) (p1 : Int32) (h0 : Heap) (n0 : Nat) (Z0 : n0 ≤ h0.size)  :
    own_Ct l Z (⟨"cognomen/NameCode", "bit", "(C)I"⟩ : MethodName) prog_29_method_24_code 1 (some .int) ws ({ frames := 0, cells := 0, slots := 0, locals := 0 } : Room) #[(.int p1)] h0 (fun v h L => v = some (.int ((1 : Int32) <<< ((p1 - (65 : Int32)) &&& 31))) ∧ L = [] ∧ h = h0) ({ frames := 0, cells := 0, slots := 0, locals := 0 } : Room).cells ({ frames := 0, cells := 0, slots := 0, locals := 0 } : Room).slots := by
  refine own_met (plainFor_of_name pn_cognomen_NameCode) (fun p e s m below meth c s₁ X0 hx hby hml hret hlk hnm hown hZ e0 => ?_)
  have hml : c.maxLocals = 1 := hml
  have N0 := Fr.nil n0
  refine own_st (fun _ k => castTop (ef_2 m p1) k) ?_
  show own_Goes p e below (s₁.setTop (mkF m 0 #[.val (.int p1)] [])) _
  refine own_st (fun _ k => XS.iconst X0.here hx rfl (hb hby d2_0) k) ?_
  show own_Goes p e below (s₁.setTop (mkF m 1 #[.val (.int p1)] [(.int (1 : Int32))])) _
  refine own_st (fun _ k => XS.iloadN X0.here hx rfl (hb hby d2_1) rfl k) ?_
  show own_Goes p e below (s₁.setTop (mkF m 2 #[.val (.int p1)] [(.int p1), (.int (1 : Int32))])) _
  refine own_st (fun _ k => XS.bipush X0.here hx rfl (hb hby d2_2) k) ?_
  show own_Goes p e below (s₁.setTop (mkF m 4 #[.val (.int p1)] [(.int (65 : Int32)), (.int p1), (.int (1 : Int32))])) _
  refine own_st (fun _ k => XS.isub X0.here hx rfl (hb hby d2_4) rfl k) ?_
  show own_Goes p e below (s₁.setTop (mkF m 5 #[.val (.int p1)] [(.int (p1 - (65 : Int32))), (.int (1 : Int32))])) _
  refine own_st (fun _ k => XT.ishl X0.here hx rfl (hb hby d2_5) rfl k) ?_
  show own_Goes p e below (s₁.setTop (mkF m 6 #[.val (.int p1)] [(.int ((1 : Int32) <<< ((p1 - (65 : Int32)) &&& 31)))])) _
  exact own_retI X0 hx hlk hret (hb hby d2_6) (by decide) (by decide) e0 ⟨rfl, rfl, rfl⟩
theorem d1_0 : decode prog_29_method_22_code 0 = .ok (.getstatic 122, 3) := by decide +kernel
theorem d1_3 : decode prog_29_method_22_code 3 = .ok (.iload_n 0, 1) := by decide +kernel
theorem d1_4 : decode prog_29_method_22_code 4 = .ok (.invokestatic 107, 3) := by decide +kernel
theorem d1_7 : decode prog_29_method_22_code 7 = .ok (.iand, 1) := by decide +kernel
theorem d1_8 : decode prog_29_method_22_code 8 = .ok (.ifCond .eq 7, 3) := by decide +kernel
theorem d1_11 : decode prog_29_method_22_code 11 = .ok (.iconst 1, 1) := by decide +kernel
theorem d1_12 : decode prog_29_method_22_code 12 = .ok (.goto 4, 3) := by decide +kernel
theorem d1_15 : decode prog_29_method_22_code 15 = .ok (.iconst 0, 1) := by decide +kernel
theorem d1_16 : decode prog_29_method_22_code 16 = .ok (.ireturn, 1) := by decide +kernel
theorem ef_1 (m : MethodId) (p1 : Int32) : entryFrame m #[(.int p1)] 1 = mkF m 0 #[.val (.int p1)] [] := by first | (simp [entryFrame, mkF, argsToLocals, Value.category]; done) | rfl
set_option maxRecDepth 65536 in
set_option maxHeartbeats 40000000 in
theorem rm1 (l : Launch) (Z : State) (a0 : Array Value) (hw : ∀ d ∈ tables_1, d.before a0 Z = true) (ws : List Jvm.Cond) (p1 : Int32) (h0 : Heap) (n0 : Nat) (Z0 : n0 ≤ h0.size) (S1 : Sta Z h0 "cognomen/NameCode" "VOWELS" "I" (.int (17842449 : Int32))) :
    own_Ct l Z (⟨"cognomen/NameCode", "isVowel", "(C)Z"⟩ : MethodName) prog_29_method_22_code 1 (some .boolean) ws ({ frames := 1, cells := 0, slots := 0, locals := 13 } : Room) #[(.int p1)] h0 (fun v h L => v = some (.int (own_isv p1)) ∧ L = [] ∧ h = h0) ({ frames := 1, cells := 0, slots := 0, locals := 13 } : Room).cells ({ frames := 1, cells := 0, slots := 0, locals := 13 } : Room).slots := by
  refine own_met (plainFor_of_name pn_cognomen_NameCode) (fun p e s m below meth c s₁ X0 hx hby hml hret hlk hnm hown hZ e0 => ?_)
  have hml : c.maxLocals = 1 := hml
  have N0 := Fr.nil n0
  refine own_st (fun _ k => castTop (ef_1 m p1) k) ?_
  show own_Goes p e below (s₁.setTop (mkF m 0 #[.val (.int p1)] [])) _
  obtain ⟨T1, X1, e1, st1⟩ := getS2 X0 hx hZ hown (host := "") (Or.inl (hw _ (List.mem_of_getElem? (i := 5) rfl))) Via.refl e0 S1 (g := (mkF m 0 #[.val (.int p1)] [])) rfl (hb hby d1_0)
  refine own_st st1 ?_
  show own_Goes p e below (T1.setTop (mkF m 3 #[.val (.int p1)] [(.int (17842449 : Int32))])) _
  refine own_st (fun _ k => XS.iloadN X1.here hx rfl (hb hby d1_3) rfl k) ?_
  show own_Goes p e below (T1.setTop (mkF m 4 #[.val (.int p1)] [(.int p1), (.int (17842449 : Int32))])) _
  obtain ⟨_, T2, h2, L2, X2, e2, ⟨rfl, rfl, q2⟩, st2⟩ := own_callS (argsL := [(.int p1)]) (rest := [(.int (17842449 : Int32))]) (pc := 4) (W := 1) (Ls := #[.val (.int p1)]) (S := [(.int p1), (.int (17842449 : Int32))]) X1 hx hZ hown (hw _ (List.mem_of_getElem? (i := 7) rfl)) (hw _ (List.mem_of_getElem? (i := 8) rfl)) (hw _ (List.mem_of_getElem? (i := 3) rfl)) (hw _ (List.mem_of_getElem? (i := 9) rfl)) (by decide) (rm2 l Z a0 hw [] p1 h0 n0 Z0) (by decide) (by decide) e1 (by rw [hml]; rfl) (lenOf pd__C_I rfl) rfl (Nat.le_of_eq rfl) (hb hby d1_4) (by decide) (by decide)
  refine own_st st2 ?_
  show own_Goes p e below (T2.setTop (mkF m 7 #[.val (.int p1)] [(.int ((1 : Int32) <<< ((p1 - (65 : Int32)) &&& 31))), (.int (17842449 : Int32))])) _
  refine own_st (fun _ k => XS.iand X2.here hx rfl (hb hby d1_7) rfl k) ?_
  show own_Goes p e below (T2.setTop (mkF m 8 #[.val (.int p1)] [(.int ((17842449 : Int32) &&& ((1 : Int32) <<< ((p1 - (65 : Int32)) &&& 31))))])) _
  by_cases hc8_3 : ((17842449 : Int32) &&& ((1 : Int32) <<< ((p1 - (65 : Int32)) &&& 31))) = (0 : Int32)
  · refine own_st (fun _ k => XS.ifYes X2.here hx rfl (pc0 := 8) (pc' := 15) rfl (hb hby d1_8) rfl ((if0 _ _).trans (teq hc8_3).1) (by decide) (by decide) k) ?_
    show own_Goes p e below (T2.setTop (mkF m 15 #[.val (.int p1)] [])) _
    refine own_st (fun _ k => XS.iconst X2.here hx rfl (hb hby d1_15) k) ?_
    show own_Goes p e below (T2.setTop (mkF m 16 #[.val (.int p1)] [(.int (0 : Int32))])) _
    exact own_retN (t := .boolean) (z' := (0 : Int32)) X2 hx hlk hret (by simp) (by decide) (hb hby d1_16) (by decide) (by decide) (e2.trans q2) ⟨by first | rw [own_isv, if_pos (by assumption)] | rw [own_isv, if_neg (by assumption)], rfl, rfl⟩
  · refine own_st (fun _ k => XS.ifNo X2.here hx rfl (hb hby d1_8) rfl ((if0 _ _).trans (feq hc8_3).1) k) ?_
    show own_Goes p e below (T2.setTop (mkF m 11 #[.val (.int p1)] [])) _
    refine own_st (fun _ k => XS.iconst X2.here hx rfl (hb hby d1_11) k) ?_
    show own_Goes p e below (T2.setTop (mkF m 12 #[.val (.int p1)] [(.int (1 : Int32))])) _
    refine own_st (fun _ k => XS.goto X2.here hx rfl (pc0 := 12) (pc' := 16) rfl (hb hby d1_12) (by decide) (by decide) k) ?_
    show own_Goes p e below (T2.setTop (mkF m 16 #[.val (.int p1)] [(.int (1 : Int32))])) _
    exact own_retN (t := .boolean) (z' := (1 : Int32)) X2 hx hlk hret (by simp) (by decide) (hb hby d1_16) (by decide) (by decide) (e2.trans q2) ⟨by first | rw [own_isv, if_pos (by assumption)] | rw [own_isv, if_neg (by assumption)], rfl, rfl⟩
theorem ef_0 (m : MethodId) (p1 : Int32) : entryFrame m #[(.int p1)] maxLocals = mkF m 0 #[.val (.int p1), .unset, .unset] [] := by first | (simp [entryFrame, mkF, argsToLocals, Value.category, maxLocals]; done) | rfl
set_option maxRecDepth 65536 in
set_option maxHeartbeats 40000000 in
theorem rm0 (l : Launch) (Z : State) (a0 : Array Value) (hw : ∀ d ∈ tables_1, d.before a0 Z = true) (ws : List Jvm.Cond) (p1 : Int32) (h0 : Heap) (n0 : Nat) (Z0 : n0 ≤ h0.size) (S1 : Sta Z h0 "cognomen/NameCode" "VOWELS" "I" (.int (17842449 : Int32))) :
    own_Ct l Z x code maxLocals ret ws room_1 #[(.int p1)] h0 (fun v h L => v = some (.int (1 : Int32)) ∧ Fr n0 L) 0 0 := by
  refine own_met (plainFor_of_name pn_cognomen_NameCodeIsVowelPinLaw) (fun p e s m below meth c s₁ X0 hx hby hml hret hlk hnm hown hZ e0 => ?_)
  have hml : c.maxLocals = 3 := hml
  have N0 := Fr.nil n0
  refine own_st (fun _ k => castTop (ef_0 m p1) k) ?_
  show own_Goes p e below (s₁.setTop (mkF m 0 #[.val (.int p1), .unset, .unset] [])) _
  refine own_st (fun _ k => XS.bipush X0.here hx rfl (hb hby at_0) k) ?_
  show own_Goes p e below (s₁.setTop (mkF m 2 #[.val (.int p1), .unset, .unset] [(.int (65 : Int32))])) _
  refine own_st (fun _ k => XS.iloadN X0.here hx rfl (hb hby at_2) rfl k) ?_
  show own_Goes p e below (s₁.setTop (mkF m 3 #[.val (.int p1), .unset, .unset] [(.int p1), (.int (65 : Int32))])) _
  refine own_st (X0.ldcInt hx hown (mvT hZ (hw _ (List.mem_of_getElem? (i := 0) rfl))) (g := (mkF m 3 #[.val (.int p1), .unset, .unset] [(.int p1), (.int (65 : Int32))])) rfl (hb hby at_3)) ?_
  show own_Goes p e below (s₁.setTop (mkF m 5 #[.val (.int p1), .unset, .unset] [(.int (2147483647 : Int32)), (.int p1), (.int (65 : Int32))])) _
  refine own_st (fun _ k => XS.iand X0.here hx rfl (hb hby at_5) rfl k) ?_
  show own_Goes p e below (s₁.setTop (mkF m 6 #[.val (.int p1), .unset, .unset] [(.int (p1 &&& (2147483647 : Int32))), (.int (65 : Int32))])) _
  refine own_st (fun _ k => XS.bipush X0.here hx rfl (hb hby at_6) k) ?_
  show own_Goes p e below (s₁.setTop (mkF m 8 #[.val (.int p1), .unset, .unset] [(.int (26 : Int32)), (.int (p1 &&& (2147483647 : Int32))), (.int (65 : Int32))])) _
  refine own_st (fun _ k => iremM X0 hx rfl (hb hby at_8) rfl (by decide) k) ?_
  show own_Goes p e below (s₁.setTop (mkF m 9 #[.val (.int p1), .unset, .unset] [(.int ((p1 &&& (2147483647 : Int32)) % (26 : Int32))), (.int (65 : Int32))])) _
  refine own_st (fun _ k => XS.iadd X0.here hx rfl (hb hby at_9) rfl k) ?_
  show own_Goes p e below (s₁.setTop (mkF m 10 #[.val (.int p1), .unset, .unset] [(.int ((65 : Int32) + ((p1 &&& (2147483647 : Int32)) % (26 : Int32))))])) _
  refine own_st (fun _ k => XT.i2c X0.here hx rfl (hb hby at_10) rfl k) ?_
  show own_Goes p e below (s₁.setTop (mkF m 11 #[.val (.int p1), .unset, .unset] [(.int ((65 : Int32) + ((p1 &&& (2147483647 : Int32)) % (26 : Int32))).toUInt32.toUInt16.toUInt32.toInt32)])) _
  obtain ⟨c0, hc0, hv0⟩ := own_let p1
  rw [hc0]
  show own_Goes p e below (s₁.setTop (mkF m 11 #[.val (.int p1), .unset, .unset] [(.int c0)])) _
  refine own_st (fun _ k => XS.istoreN X0.here hx rfl (hb hby at_11) rfl (l' := #[.val (.int p1), .val (.int c0), .unset]) rfl k) ?_
  show own_Goes p e below (s₁.setTop (mkF m 12 #[.val (.int p1), .val (.int c0), .unset] [])) _
  refine own_join (K := fun G => ∀ b : Int32, b = own_vow c0 → own_Goes p e below (s₁.setTop (mkF m 53 #[.val (.int p1), .val (.int c0), .unset] [(.int b)])) G) ?_ ?_
  · intro b hb53
    show own_Goes p e below (s₁.setTop (mkF m 53 #[.val (.int p1), .val (.int c0), .unset] [(.int b)])) _
    refine own_st (fun _ k => XS.istoreN X0.here hx rfl (hb hby at_53) rfl (l' := #[.val (.int p1), .val (.int c0), .val (.int b)]) rfl k) ?_
    show own_Goes p e below (s₁.setTop (mkF m 54 #[.val (.int p1), .val (.int c0), .val (.int b)] [])) _
    refine own_st (fun _ k => XS.iloadN X0.here hx rfl (hb hby at_54) rfl k) ?_
    show own_Goes p e below (s₁.setTop (mkF m 55 #[.val (.int p1), .val (.int c0), .val (.int b)] [(.int c0)])) _
    obtain ⟨_, T1, h1, L1, X1, e1, ⟨rfl, rfl, q1⟩, st1⟩ := own_callS (argsL := [(.int c0)]) (rest := []) (pc := 55) (W := 0) (Ls := #[.val (.int p1), .val (.int c0), .val (.int b)]) (S := [(.int c0)]) X0 hx hZ hown (hw _ (List.mem_of_getElem? (i := 1) rfl)) (hw _ (List.mem_of_getElem? (i := 2) rfl)) (hw _ (List.mem_of_getElem? (i := 3) rfl)) (hw _ (List.mem_of_getElem? (i := 4) rfl)) (by decide) (rm1 l Z a0 hw [] c0 h0 n0 Z0 S1) (by decide) (by decide) e0 (by rw [hml]; rfl) (lenOf pd__C_Z rfl) rfl (Nat.le_of_eq rfl) (hb hby at_55) (by decide) (by decide)
    refine own_st st1 ?_
    show own_Goes p e below (T1.setTop (mkF m 58 #[.val (.int p1), .val (.int c0), .val (.int b)] [(.int (own_isv c0))])) _
    refine own_st (fun _ k => XS.iloadN X1.here hx rfl (hb hby at_58) rfl k) ?_
    show own_Goes p e below (T1.setTop (mkF m 59 #[.val (.int p1), .val (.int c0), .val (.int b)] [(.int b), (.int (own_isv c0))])) _
    refine own_st (fun _ k => XS.icmpNo X1.here hx rfl (hb hby at_59) rfl (teq (hv0.trans hb53.symm)).2 k) ?_
    show own_Goes p e below (T1.setTop (mkF m 62 #[.val (.int p1), .val (.int c0), .val (.int b)] [])) _
    refine own_st (fun _ k => XS.iconst X1.here hx rfl (hb hby at_62) k) ?_
    show own_Goes p e below (T1.setTop (mkF m 63 #[.val (.int p1), .val (.int c0), .val (.int b)] [(.int (1 : Int32))])) _
    refine own_st (fun _ k => XS.goto X1.here hx rfl (pc0 := 63) (pc' := 67) rfl (hb hby at_63) (by decide) (by decide) k) ?_
    show own_Goes p e below (T1.setTop (mkF m 67 #[.val (.int p1), .val (.int c0), .val (.int b)] [(.int (1 : Int32))])) _
    exact own_retN (t := .boolean) (z' := (1 : Int32)) X1 hx hlk hret (by simp) (by decide) (hb hby at_67) (by decide) (by decide) (e1.trans q1) ⟨rfl, N0⟩
  · intro J53
    show own_Goes p e below (s₁.setTop (mkF m 12 #[.val (.int p1), .val (.int c0), .unset] [])) _
    refine own_st (fun _ k => XS.iloadN X0.here hx rfl (hb hby at_12) rfl k) ?_
    show own_Goes p e below (s₁.setTop (mkF m 13 #[.val (.int p1), .val (.int c0), .unset] [(.int c0)])) _
    refine own_st (fun _ k => XS.bipush X0.here hx rfl (hb hby at_13) k) ?_
    show own_Goes p e below (s₁.setTop (mkF m 15 #[.val (.int p1), .val (.int c0), .unset] [(.int (65 : Int32)), (.int c0)])) _
    by_cases hc15_2 : c0 = (65 : Int32)
    · refine own_st (fun _ k => XS.icmpYes X0.here hx rfl (pc0 := 15) (pc' := 48) rfl (hb hby at_15) rfl (teq hc15_2).1 (by decide) (by decide) k) ?_
      show own_Goes p e below (s₁.setTop (mkF m 48 #[.val (.int p1), .val (.int c0), .unset] [])) _
      refine own_st (fun _ k => XS.iconst X0.here hx rfl (hb hby at_48) k) ?_
      show own_Goes p e below (s₁.setTop (mkF m 49 #[.val (.int p1), .val (.int c0), .unset] [(.int (1 : Int32))])) _
      refine own_st (fun _ k => XS.goto X0.here hx rfl (pc0 := 49) (pc' := 53) rfl (hb hby at_49) (by decide) (by decide) k) ?_
      show own_Goes p e below (s₁.setTop (mkF m 53 #[.val (.int p1), .val (.int c0), .unset] [(.int (1 : Int32))])) _
      exact J53 _ (by simp [own_vow, *])
    · refine own_st (fun _ k => XS.icmpNo X0.here hx rfl (hb hby at_15) rfl (feq hc15_2).1 k) ?_
      show own_Goes p e below (s₁.setTop (mkF m 18 #[.val (.int p1), .val (.int c0), .unset] [])) _
      refine own_st (fun _ k => XS.iloadN X0.here hx rfl (hb hby at_18) rfl k) ?_
      show own_Goes p e below (s₁.setTop (mkF m 19 #[.val (.int p1), .val (.int c0), .unset] [(.int c0)])) _
      refine own_st (fun _ k => XS.bipush X0.here hx rfl (hb hby at_19) k) ?_
      show own_Goes p e below (s₁.setTop (mkF m 21 #[.val (.int p1), .val (.int c0), .unset] [(.int (69 : Int32)), (.int c0)])) _
      by_cases hc21_3 : c0 = (69 : Int32)
      · refine own_st (fun _ k => XS.icmpYes X0.here hx rfl (pc0 := 21) (pc' := 48) rfl (hb hby at_21) rfl (teq hc21_3).1 (by decide) (by decide) k) ?_
        show own_Goes p e below (s₁.setTop (mkF m 48 #[.val (.int p1), .val (.int c0), .unset] [])) _
        refine own_st (fun _ k => XS.iconst X0.here hx rfl (hb hby at_48) k) ?_
        show own_Goes p e below (s₁.setTop (mkF m 49 #[.val (.int p1), .val (.int c0), .unset] [(.int (1 : Int32))])) _
        refine own_st (fun _ k => XS.goto X0.here hx rfl (pc0 := 49) (pc' := 53) rfl (hb hby at_49) (by decide) (by decide) k) ?_
        show own_Goes p e below (s₁.setTop (mkF m 53 #[.val (.int p1), .val (.int c0), .unset] [(.int (1 : Int32))])) _
        exact J53 _ (by simp [own_vow, *])
      · refine own_st (fun _ k => XS.icmpNo X0.here hx rfl (hb hby at_21) rfl (feq hc21_3).1 k) ?_
        show own_Goes p e below (s₁.setTop (mkF m 24 #[.val (.int p1), .val (.int c0), .unset] [])) _
        refine own_st (fun _ k => XS.iloadN X0.here hx rfl (hb hby at_24) rfl k) ?_
        show own_Goes p e below (s₁.setTop (mkF m 25 #[.val (.int p1), .val (.int c0), .unset] [(.int c0)])) _
        refine own_st (fun _ k => XS.bipush X0.here hx rfl (hb hby at_25) k) ?_
        show own_Goes p e below (s₁.setTop (mkF m 27 #[.val (.int p1), .val (.int c0), .unset] [(.int (73 : Int32)), (.int c0)])) _
        by_cases hc27_4 : c0 = (73 : Int32)
        · refine own_st (fun _ k => XS.icmpYes X0.here hx rfl (pc0 := 27) (pc' := 48) rfl (hb hby at_27) rfl (teq hc27_4).1 (by decide) (by decide) k) ?_
          show own_Goes p e below (s₁.setTop (mkF m 48 #[.val (.int p1), .val (.int c0), .unset] [])) _
          refine own_st (fun _ k => XS.iconst X0.here hx rfl (hb hby at_48) k) ?_
          show own_Goes p e below (s₁.setTop (mkF m 49 #[.val (.int p1), .val (.int c0), .unset] [(.int (1 : Int32))])) _
          refine own_st (fun _ k => XS.goto X0.here hx rfl (pc0 := 49) (pc' := 53) rfl (hb hby at_49) (by decide) (by decide) k) ?_
          show own_Goes p e below (s₁.setTop (mkF m 53 #[.val (.int p1), .val (.int c0), .unset] [(.int (1 : Int32))])) _
          exact J53 _ (by simp [own_vow, *])
        · refine own_st (fun _ k => XS.icmpNo X0.here hx rfl (hb hby at_27) rfl (feq hc27_4).1 k) ?_
          show own_Goes p e below (s₁.setTop (mkF m 30 #[.val (.int p1), .val (.int c0), .unset] [])) _
          refine own_st (fun _ k => XS.iloadN X0.here hx rfl (hb hby at_30) rfl k) ?_
          show own_Goes p e below (s₁.setTop (mkF m 31 #[.val (.int p1), .val (.int c0), .unset] [(.int c0)])) _
          refine own_st (fun _ k => XS.bipush X0.here hx rfl (hb hby at_31) k) ?_
          show own_Goes p e below (s₁.setTop (mkF m 33 #[.val (.int p1), .val (.int c0), .unset] [(.int (79 : Int32)), (.int c0)])) _
          by_cases hc33_5 : c0 = (79 : Int32)
          · refine own_st (fun _ k => XS.icmpYes X0.here hx rfl (pc0 := 33) (pc' := 48) rfl (hb hby at_33) rfl (teq hc33_5).1 (by decide) (by decide) k) ?_
            show own_Goes p e below (s₁.setTop (mkF m 48 #[.val (.int p1), .val (.int c0), .unset] [])) _
            refine own_st (fun _ k => XS.iconst X0.here hx rfl (hb hby at_48) k) ?_
            show own_Goes p e below (s₁.setTop (mkF m 49 #[.val (.int p1), .val (.int c0), .unset] [(.int (1 : Int32))])) _
            refine own_st (fun _ k => XS.goto X0.here hx rfl (pc0 := 49) (pc' := 53) rfl (hb hby at_49) (by decide) (by decide) k) ?_
            show own_Goes p e below (s₁.setTop (mkF m 53 #[.val (.int p1), .val (.int c0), .unset] [(.int (1 : Int32))])) _
            exact J53 _ (by simp [own_vow, *])
          · refine own_st (fun _ k => XS.icmpNo X0.here hx rfl (hb hby at_33) rfl (feq hc33_5).1 k) ?_
            show own_Goes p e below (s₁.setTop (mkF m 36 #[.val (.int p1), .val (.int c0), .unset] [])) _
            refine own_st (fun _ k => XS.iloadN X0.here hx rfl (hb hby at_36) rfl k) ?_
            show own_Goes p e below (s₁.setTop (mkF m 37 #[.val (.int p1), .val (.int c0), .unset] [(.int c0)])) _
            refine own_st (fun _ k => XS.bipush X0.here hx rfl (hb hby at_37) k) ?_
            show own_Goes p e below (s₁.setTop (mkF m 39 #[.val (.int p1), .val (.int c0), .unset] [(.int (85 : Int32)), (.int c0)])) _
            by_cases hc39_6 : c0 = (85 : Int32)
            · refine own_st (fun _ k => XS.icmpYes X0.here hx rfl (pc0 := 39) (pc' := 48) rfl (hb hby at_39) rfl (teq hc39_6).1 (by decide) (by decide) k) ?_
              show own_Goes p e below (s₁.setTop (mkF m 48 #[.val (.int p1), .val (.int c0), .unset] [])) _
              refine own_st (fun _ k => XS.iconst X0.here hx rfl (hb hby at_48) k) ?_
              show own_Goes p e below (s₁.setTop (mkF m 49 #[.val (.int p1), .val (.int c0), .unset] [(.int (1 : Int32))])) _
              refine own_st (fun _ k => XS.goto X0.here hx rfl (pc0 := 49) (pc' := 53) rfl (hb hby at_49) (by decide) (by decide) k) ?_
              show own_Goes p e below (s₁.setTop (mkF m 53 #[.val (.int p1), .val (.int c0), .unset] [(.int (1 : Int32))])) _
              exact J53 _ (by simp [own_vow, *])
            · refine own_st (fun _ k => XS.icmpNo X0.here hx rfl (hb hby at_39) rfl (feq hc39_6).1 k) ?_
              show own_Goes p e below (s₁.setTop (mkF m 42 #[.val (.int p1), .val (.int c0), .unset] [])) _
              refine own_st (fun _ k => XS.iloadN X0.here hx rfl (hb hby at_42) rfl k) ?_
              show own_Goes p e below (s₁.setTop (mkF m 43 #[.val (.int p1), .val (.int c0), .unset] [(.int c0)])) _
              refine own_st (fun _ k => XS.bipush X0.here hx rfl (hb hby at_43) k) ?_
              show own_Goes p e below (s₁.setTop (mkF m 45 #[.val (.int p1), .val (.int c0), .unset] [(.int (89 : Int32)), (.int c0)])) _
              by_cases hc45_7 : c0 = (89 : Int32)
              · refine own_st (fun _ k => XS.icmpNo X0.here hx rfl (hb hby at_45) rfl (teq hc45_7).2 k) ?_
                show own_Goes p e below (s₁.setTop (mkF m 48 #[.val (.int p1), .val (.int c0), .unset] [])) _
                refine own_st (fun _ k => XS.iconst X0.here hx rfl (hb hby at_48) k) ?_
                show own_Goes p e below (s₁.setTop (mkF m 49 #[.val (.int p1), .val (.int c0), .unset] [(.int (1 : Int32))])) _
                refine own_st (fun _ k => XS.goto X0.here hx rfl (pc0 := 49) (pc' := 53) rfl (hb hby at_49) (by decide) (by decide) k) ?_
                show own_Goes p e below (s₁.setTop (mkF m 53 #[.val (.int p1), .val (.int c0), .unset] [(.int (1 : Int32))])) _
                exact J53 _ (by simp [own_vow, *])
              · refine own_st (fun _ k => XS.icmpYes X0.here hx rfl (pc0 := 45) (pc' := 52) rfl (hb hby at_45) rfl (feq hc45_7).2 (by decide) (by decide) k) ?_
                show own_Goes p e below (s₁.setTop (mkF m 52 #[.val (.int p1), .val (.int c0), .unset] [])) _
                refine own_st (fun _ k => XS.iconst X0.here hx rfl (hb hby at_52) k) ?_
                show own_Goes p e below (s₁.setTop (mkF m 53 #[.val (.int p1), .val (.int c0), .unset] [(.int (0 : Int32))])) _
                exact J53 _ (by simp [own_vow, *])
set_option maxRecDepth 65536 in
set_option maxHeartbeats 40000000 in
theorem comes_1 {Post : Tables → Env → Array Value → State → Outcome → State → Prop} (hpost : ∀ tb e args s v u, (limb_1_1.after args s (.returned v) u = true ∧ limb_1_2.after args s (.returned v) u = true ∧ True) → FrameEnd s (.returned v) u (Jvm.fieldLocs frame_1_writes args s ++ Jvm.arrayLocs frame_1_arrays args s ++ Jvm.staticLocs frame_1_statics s) 0 0 → Post tb e args s (.returned v) u) :
    ArmFor flags0 classFile x code maxLocals ret World_1 tables_1 room_1 Calls_1 rest_1 Pre_1 Post := by
  intro l hfl _ _ p e ha hc hk s m args below hf hA hF happ hP
  obtain ⟨hcalls, hrest, hpre⟩ := hP
  obtain ⟨-, -, -, hnamed, -, -, -, hat⟩ := (Spec.applies_iff hf).mp happ
  obtain ⟨hg, hn⟩ := and_e (Cond.before_iff.mp (show (Jvm.Cond.and given_1 narrow_1).before args s = true from hpre))
  obtain ⟨hcount, g0⟩ := and_e hg
  have q0 := g0
  obtain ⟨w0, rfl⟩ : ∃ w0 : Value, args = #[w0] := by
    have hs : args.size = 1 := by simpa [Cond.value, given_1] using hcount
    obtain ⟨L⟩ := args
    match L, hs with
    | [w0], _ => exact ⟨w0, rfl⟩
  obtain ⟨i0, ei0⟩ := is_v q0
  obtain rfl : w0 = (.int i0) := Option.some.inj ei0
  have hw := fun d (hd : d ∈ tables_1) => atoms_spec (ws := Jvm.Cond.code x code maxLocals ret :: tables_1) hat d (List.mem_cons_of_mem _ hd)
  have hfit : Fit s := fun {y c} hc i hi => by
    obtain ⟨ha, rfl⟩ := Array.getElem?_eq_some_iff.mp hc
    have q := List.all_eq_true.mp ((Array.all_eq_true_iff_forall_mem.mp hF) _ (Array.getElem_mem ha)) i (List.mem_range.mpr hi)
    simpa [Array.getElem?_eq_getElem hi] using q
  have S1 : Sta s s.heap "cognomen/NameCode" "VOWELS" "I" (.int (17842449 : Int32)) := Sta.start (own_eqI hn) (Or.inr ⟨(hw _ (List.mem_of_getElem? (i := 3) rfl)), (hw _ (List.mem_of_getElem? (i := 6) rfl))⟩)
  obtain ⟨n, o, h1, h2, h3, _, L, rfl, ⟨rfl, N⟩, hq⟩ := rm0 l s _ hw tables_1 i0 s.heap s.heap.size (Nat.le_refl _) S1 p e ha hc hk s m _ below hf ((Spec.applies_iff_loose hf).mp happ).1 ⟨rfl, State.Warmed39.refl s, rfl⟩ trivial
  refine ⟨n, _, h1, h2, h3, hpost _ _ _ _ _ _ ⟨Cond.after_iff.mpr rfl, Cond.after_iff.mpr (eq_i res_at (Term.int_eval (1)) rfl), trivial⟩ ⟨hq.1, hq.2.1, (hq.2.2.sift fun y hy => Or.inr (N y hy)).mono (by decide) (by decide)⟩⟩
theorem main_1_1 : Claimed_1_1 := comes_1 fun _ _ _ _ _ _ h hF => ⟨h.1, hF⟩
theorem main_1_2 : Claimed_1_2 := comes_1 fun _ _ _ _ _ _ h hF => ⟨h.2.1, hF⟩
end Jvm.Pilot.@@N@@
namespace Jvm.Pilot.@@N@@
open Jvm Jvm.ClassFile Sem Op Lib Jvm.Free Jvm.Stand Jvm.Pilot.@@N@@.Jvm.D
/-! MADE BY PROGRAM (witnessworld.py) out of the Statement's table words and the real class files: 9 classes; the members and pool entries that the words name. The judged class is class 1, her method 1. -/
namespace start1
open Jvm.ClassFile
def u (s : String) : CpInfo := .utf8 (stringToUtf16 s)
/-- a pool by its gaps: so many unusable entries, then the entry; so many at the end -/
def gap : Nat → List CpInfo → List CpInfo
  | 0, r => r
  | n + 1, r => .unusable :: gap n r
def poolList (es : List (Nat × CpInfo)) (last : Nat) : List CpInfo := es.foldr (fun e r => gap e.1 (e.2 :: r)) (gap last [])
def pool (es : List (Nat × CpInfo)) (last : Nat) : Array CpInfo := ⟨poolList es last⟩
def fileOf (pool : Array CpInfo) (this : Nat) (attrs : Array Attribute := #[]) (ms : Array MethodInfo := #[]) (fl : Nat := 33) (sup : Nat := 0) (ifs : Array Nat := #[]) (fds : Array FieldInfo := #[]) : ClassFile where
  minorVersion := 0
  majorVersion := 65
  constantPool := pool
  accessFlags := fl
  thisClass := this
  superClass := sup
  interfaces := ifs
  fields := fds
  methods := ms
  attributes := attrs
def plain (name : String) (sup : Option ClassId) : Class where
  name := name
  kind := .ordinary
  loader := none
  accessFlags := 33
  super := sup
  interfaces := #[]
  cf := none
  fields := #[]
  methods := #[]
  instanceTypes := #[]
  staticTypes := #[]
  resolved := #[]
  callSites := []
  init := .initialized
  statics := none
  mirror := none

def pool0 : Array CpInfo := pool [(5, u "<init>"), (0, u "()V"), (1, .class_ 10), (1, u "java/lang/Object")] 113

def k0m0 : Method := { name := "<init>", desc := "()V", sig := { parameters := [], returnType := none }, accessFlags := 1, code := none }
/-- java/lang/Object -/
def k0 : Class := { plain "java/lang/Object" none with
  accessFlags := 33
  interfaces := #[]
  cf := some (fileOf pool0 8 #[] #[{ accessFlags := 1, nameIndex := 5, descriptorIndex := 6, attributes := #[] }] 33 0 #[] #[])
  fields := #[]
  methods := #[k0m0]
  instanceTypes := #[]
  staticTypes := #[]
  resolved := Array.replicate 124 none
  statics := none }

def pool1 : Array CpInfo := pool [(2, .class_ 4), (1, u "java/lang/Object"), (0, u "<init>"), (0, u "()V"), (0, .integer 2147483647), (0, .methodref 9 10), (0, .class_ 11), (0, .nameAndType 12 13), (0, u "cognomen/NameCode"), (0, u "isVowel"), (0, u "(C)Z"), (0, .class_ 15), (0, u "cognomen/NameCodeIsVowelPinLaw"), (2, u "law"), (0, u "(I)Z")] 3

def k1m0 : Method := { name := "<init>", desc := "()V", sig := { parameters := [], returnType := none }, accessFlags := 1, code := none }
def k1c1 : Code := { maxStack := 3, maxLocals := 3, code := code, exceptionTable := #[], attributes := #[] }
def k1m1 : Method := { name := "law", desc := "(I)Z", sig := { parameters := [.int], returnType := some .boolean }, accessFlags := 9, code := some k1c1 }
/-- cognomen/NameCodeIsVowelPinLaw -/
def k1 : Class := { plain "cognomen/NameCodeIsVowelPinLaw" (some 0) with
  accessFlags := 49
  interfaces := #[]
  cf := some (fileOf pool1 14 #[] #[{ accessFlags := 1, nameIndex := 5, descriptorIndex := 6, attributes := #[] }, { accessFlags := 9, nameIndex := 18, descriptorIndex := 19, attributes := #[] }] 49 2 #[] #[])
  fields := #[]
  methods := #[k1m0, k1m1]
  instanceTypes := #[]
  staticTypes := #[]
  resolved := Array.replicate 23 none
  statics := none }

def pool2 : Array CpInfo := pool [(2, .class_ 4), (1, u "java/lang/Object"), (6, u "length"), (2, .class_ 16), (1, u "cognomen/NameCode"), (0, u "letters"), (0, u "[C"), (2, u "respelled"), (6, u "I"), (72, u "isVowel"), (0, u "(C)Z"), (2, u "DROPPED_AFTER"), (0, u "[I"), (0, .methodref 14 108), (0, .nameAndType 109 110), (0, u "bit"), (0, u "(C)I"), (11, .fieldref 14 123), (0, .nameAndType 124 28), (0, u "VOWELS"), (2, u "VOWELS_H_W")] 61

def k2c0 : Code := { maxStack := 2, maxLocals := 1, code := prog_29_method_22_code, exceptionTable := #[], attributes := #[] }
def k2m0 : Method := { name := "isVowel", desc := "(C)Z", sig := { parameters := [.char], returnType := some .boolean }, accessFlags := 8, code := some k2c0 }
def k2c1 : Code := { maxStack := 3, maxLocals := 1, code := prog_29_method_24_code, exceptionTable := #[], attributes := #[] }
def k2m1 : Method := { name := "bit", desc := "(C)I", sig := { parameters := [.char], returnType := some .int }, accessFlags := 10, code := some k2c1 }
/-- cognomen/NameCode -/
def k2 : Class := { plain "cognomen/NameCode" (some 0) with
  accessFlags := 48
  interfaces := #[]
  cf := some (fileOf pool2 14 #[] #[{ accessFlags := 8, nameIndex := 101, descriptorIndex := 102, attributes := #[] }, { accessFlags := 10, nameIndex := 109, descriptorIndex := 110, attributes := #[] }] 48 2 #[] #[{ accessFlags := 26, nameIndex := 124, descriptorIndex := 28, attributes := #[] }, { accessFlags := 26, nameIndex := 127, descriptorIndex := 28, attributes := #[] }, { accessFlags := 26, nameIndex := 105, descriptorIndex := 106, attributes := #[] }, { accessFlags := 2, nameIndex := 17, descriptorIndex := 18, attributes := #[] }, { accessFlags := 2, nameIndex := 11, descriptorIndex := 28, attributes := #[] }, { accessFlags := 2, nameIndex := 21, descriptorIndex := 18, attributes := #[] }])
  fields := #[{ name := "VOWELS", type := .int, accessFlags := 26, slot := 0, constantValue := 0 }, { name := "VOWELS_H_W", type := .int, accessFlags := 26, slot := 1, constantValue := 0 }, { name := "DROPPED_AFTER", type := (.array .int), accessFlags := 26, slot := 2, constantValue := 0 }, { name := "letters", type := (.array .char), accessFlags := 2, slot := 0, constantValue := 0 }, { name := "length", type := .int, accessFlags := 2, slot := 1, constantValue := 0 }, { name := "respelled", type := (.array .char), accessFlags := 2, slot := 2, constantValue := 0 }]
  methods := #[k2m0, k2m1]
  instanceTypes := #[(.array .char), .int, (.array .char)]
  staticTypes := #[.int, .int, (.array .int)]
  resolved := Array.replicate 189 none
  statics := some 0 }

def pool3 : Array CpInfo := pool [(1, u "java/lang/Cloneable"), (0, .class_ 1), (0, u "java/lang/Object"), (0, .class_ 3)] 3

/-- java/lang/Cloneable -/
def k3 : Class := { plain "java/lang/Cloneable" (some 0) with
  accessFlags := 1537
  interfaces := #[]
  cf := some (fileOf pool3 2 #[] #[] 1537 4 #[] #[])
  fields := #[]
  methods := #[]
  instanceTypes := #[]
  staticTypes := #[]
  resolved := Array.replicate 8 none
  statics := none }

def pool4 : Array CpInfo := pool [(1, u "java/io/Serializable"), (0, .class_ 1), (0, u "java/lang/Object"), (0, .class_ 3)] 3

/-- java/io/Serializable -/
def k4 : Class := { plain "java/io/Serializable" (some 0) with
  accessFlags := 1537
  interfaces := #[]
  cf := some (fileOf pool4 2 #[] #[] 1537 4 #[] #[])
  fields := #[]
  methods := #[]
  instanceTypes := #[]
  staticTypes := #[]
  resolved := Array.replicate 8 none
  statics := none }

/-- the primitive byte -/
def k5 : Class := { plain "byte" none with kind := .primitive 'B', accessFlags := 0x411 }
/-- [B -/
def k6 : Class := { plain "[B" (some 0) with kind := .array 5 .byte, interfaces := #[3, 4], accessFlags := 1041 }

/-- the primitive int -/
def k7 : Class := { plain "int" none with kind := .primitive 'I', accessFlags := 0x411 }
/-- [I -/
def k8 : Class := { plain "[I" (some 0) with kind := .array 7 .int, interfaces := #[3, 4], accessFlags := 1041 }

def heap : Heap := #[{ cls := 2, slots := #[.int 17842449, .int 0, .null], vm := .statics 2 }]
def classes : Array Class := #[k0, k1, k2, k3, k4, k5, k6, k7, k8]
def interned : List (Array UInt16 × Addr) := []
def slotsUsed : Nat := 3
def theMethod : MethodId := ⟨1, 1⟩
def args0 : Array Value := #[.int 5]
def aboutOver (below : List Frame) : State where
  vm := { classes := classes, interned := interned.toArray }
  heap := heap
  slotsUsed := slotsUsed
  threads := #[{ frames := .invoking theMethod args0 :: below }]
def below0 : List Frame := [.native { method := ⟨0, 0⟩, args := #[] }]
def about1 : State := aboutOver below0
def p0 : Program := .bare "" "" ""
def e0 : Env := launch0.env 0 0 0
theorem w_frames : about1.frames = Frame.invoking theMethod args0 :: below0 := rfl
set_option maxRecDepth 65536 in
theorem w_args : argsFit about1.vm theMethod args0 = true := by decide +kernel
set_option maxRecDepth 65536 in
theorem w_heap : heapFits about1 = true := by decide +kernel
set_option maxRecDepth 65536 in
theorem w_runnable : about1.curStatus? = some .runnable := by decide +kernel
set_option maxRecDepth 65536 in
theorem w_alone : about1.alone = true := by decide +kernel
set_option maxRecDepth 65536 in
theorem w_named : about1.methodNamed? x = some theMethod := by decide +kernel
set_option maxRecDepth 65536 in
theorem w_hears : about1.hears theMethod below0 = true := by decide +kernel
set_option maxRecDepth 65536 in
theorem w_ripe : about1.ripe theMethod args0 below0 = true := by decide +kernel
theorem w_running : about1.status = .running := rfl
set_option maxRecDepth 65536 in
theorem w_room : about1.hasRoom e0.platform room_1 = true :=
  launch0.hasRoom_least _ room_1 (by decide +kernel) (by decide +kernel) (by decide +kernel) (by decide +kernel) (by decide +kernel) (by decide +kernel)
theorem allAtoms_all (ts : List Jvm.Cond) (a : Array Jvm.Value) (st : Jvm.State) : (allAtoms ts).before a st = ts.all (fun c => c.before a st) := by
  induction ts with
  | nil => rfl
  | cons c t ih =>
    show (Jvm.Cond.and c (allAtoms t)).before a st = _
    rw [Jvm.Cond.before_and, ih, List.all_cons]
def words1 : List Jvm.Cond := Jvm.Cond.code x code maxLocals ret :: tables_1
/-- a 'code' word, met by the world's own term for the bytes: nothing is compared byte by byte -/
theorem code_word {y : MethodName} {bytes : ByteArray} {mx : Nat} {rt : Option FieldType} {a : Array Value} {s : State} {m : MethodId} {meth : Method} {c : Code} (h1 : s.methodNamed? y = some m) (h2 : s.vm.method? m = some meth) (h3 : meth.code = some c) (h4 : c.code = bytes)
    (h5 : (c.maxLocals == mx && c.exceptionTable.isEmpty && decide (c.maxStack ≤ mostOperands) && decide (meth.sig.returnType = rt) && !meth.locks && decide (parseMethodDescriptor y.desc = some meth.sig)) = true) : (Jvm.Cond.code y bytes mx rt).before a s = true := by
  simp only [Bool.and_eq_true, beq_iff_eq, Bool.not_eq_true', decide_eq_true_eq] at h5
  obtain ⟨⟨⟨⟨⟨g1, g2⟩, g3⟩, g4⟩, g5⟩, g6⟩ := h5
  simp [Cond.before, Cond.holds, Cond.value, h1, h2, h3, h4, g1, g2, g3, g4, g5, g6]
def isCode : Jvm.Cond → Bool
  | .code _ _ _ _ => true
  | _ => false
theorem all_split {L : List Jvm.Cond} {P : Jvm.Cond → Bool} (h1 : L.all (fun c => isCode c || P c) = true) (h2 : ∀ c ∈ L.filter isCode, P c = true) : L.all P = true := by
  refine List.all_eq_true.mpr fun c hc => ?_
  have h := List.all_eq_true.mp h1 c hc
  rcases Bool.eq_false_or_eq_true (isCode c) with hi | hi
  · exact h2 c (List.mem_filter.mpr ⟨hc, hi⟩)
  · simpa [hi] using h
set_option maxRecDepth 65536 in
theorem w_c0 : (Jvm.Cond.code x code maxLocals ret).before args0 about1 = true := code_word (m := ⟨1, 1⟩) (meth := k1m1) (c := k1c1) (by decide +kernel) rfl rfl rfl (by decide +kernel)
set_option maxRecDepth 65536 in
theorem w_c1 : (Jvm.Cond.code ({ cls := "cognomen/NameCode", name := "isVowel", desc := "(C)Z" } : Jvm.MethodName) prog_29_method_22_code (1 : Nat) (Option.some Jvm.ClassFile.FieldType.boolean)).before args0 about1 = true := code_word (m := ⟨2, 0⟩) (meth := k2m0) (c := k2c0) (by decide +kernel) rfl rfl rfl (by decide +kernel)
set_option maxRecDepth 65536 in
theorem w_c2 : (Jvm.Cond.code ({ cls := "cognomen/NameCode", name := "bit", desc := "(C)I" } : Jvm.MethodName) prog_29_method_24_code (1 : Nat) (Option.some Jvm.ClassFile.FieldType.int)).before args0 about1 = true := code_word (m := ⟨2, 1⟩) (meth := k2m1) (c := k2c1) (by decide +kernel) rfl rfl rfl (by decide +kernel)
def codes1 : List Jvm.Cond := [Jvm.Cond.code x code maxLocals ret, Jvm.Cond.code ({ cls := "cognomen/NameCode", name := "isVowel", desc := "(C)Z" } : Jvm.MethodName) prog_29_method_22_code (1 : Nat) (Option.some Jvm.ClassFile.FieldType.boolean), Jvm.Cond.code ({ cls := "cognomen/NameCode", name := "bit", desc := "(C)I" } : Jvm.MethodName) prog_29_method_24_code (1 : Nat) (Option.some Jvm.ClassFile.FieldType.int)]
set_option maxRecDepth 65536 in
theorem codes_eq : words1.filter isCode = codes1 := rfl
theorem w_codes : ∀ c ∈ words1.filter isCode, c.before args0 about1 = true := by
  rw [codes_eq]
  intro c hc
  simp only [codes1, List.mem_cons, List.not_mem_nil, or_false] at hc
  rcases hc with rfl | rfl | rfl
  · exact w_c0
  · exact w_c1
  · exact w_c2
set_option maxRecDepth 65536 in
theorem w_t1 : words1.all (fun c => isCode c || c.before args0 about1) = true := by decide +kernel
theorem w_tables : (allAtoms (Jvm.Cond.code x code maxLocals ret :: tables_1)).before args0 about1 = true := by
  rw [allAtoms_all]
  show words1.all (fun c => c.before args0 about1) = true
  refine all_split ?_ w_codes
  rw [w_t1]
set_option maxRecDepth 65536 in
theorem w_case : (Jvm.Cond.and given_1 narrow_1).before args0 about1 = true := by decide +kernel
theorem w_applies : (headSpec (Jvm.Cond.code x code maxLocals ret :: tables_1) room_1).applies x e0.platform about1 = true :=
  (Spec.applies_iff w_frames).mpr ⟨w_running, w_runnable, w_alone, w_named, w_hears, w_ripe, w_room, w_tables⟩
theorem atStart : AtStart classFile x code maxLocals ret World_1 tables_1 room_1 Calls_1 rest_1 Pre_1 launch0 p0 e0 about1 theMethod args0 below0 :=
  ⟨lists_1, trivial, launch0.admits_env _ _ _, launch0.least_env, fairChoices_fair.cas, fairChoices_fair.clock, w_frames, w_args, w_heap, w_applies, trivial, trivial, w_case⟩
end start1
theorem witness_1 : WitnessClaimed_1 := ⟨start1.p0, start1.e0, start1.about1, start1.theMethod, start1.args0, start1.below0, start1.atStart⟩
end Jvm.Pilot.@@N@@
