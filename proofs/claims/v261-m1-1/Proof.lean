import JvmDerived
import JvmDerived.Pilot.@@N@@Statement
import JvmDerived.Pilot.@@N@@Code
set_option linter.unusedVariables false
set_option linter.unusedSimpArgs false
namespace Jvm.Pilot.@@N@@
open Jvm Jvm.ClassFile Sem Op Lib Jvm.Free Jvm.Stand Jvm.LawKit Jvm.RoadKit Bundle Jvm.Pilot.@@N@@.Jvm.D
/-! 0. the walk's own layer: a run that comes to its end, step by step -/
def own_Goes (p : Program) (e : Env) (below : List Frame) (A : State) (G : Outcome → State → Prop) : Prop :=
  ∃ s₂ o, Steps p.tables e below A s₂ ∧ s₂.status = .running ∧ Ended s₂ below o ∧ G o s₂
def own_post (s : State) (Q : Option Value → Heap → List Loc → Prop) (rc rs : Nat) : Outcome → State → Prop :=
  fun o U' => ∃ v L, o = .returned v ∧ Q v U'.heap L ∧ FrameEnd s o U' L rc rs
section Own
variable {p : Program} {l : Launch} {e : Env} {R : Room} {s : State} {m : MethodId} {args : Array Value} {below : List Frame} {meth : Method} {c : Code} {T : State} {locs : List Loc} {cells slots : Nat} {G : Outcome → State → Prop} {Q : Option Value → Heap → List Loc → Prop} {rc rs : Nat} {Z : State} {a0 : Array Value} {h : Heap}
theorem own_st {A B : State} (st : ∀ t, Steps p.tables e below B t → Steps p.tables e below A t) (k : own_Goes p e below B G) : own_Goes p e below A G := by
  obtain ⟨s₂, o, h1, h2⟩ := k; exact ⟨s₂, o, st _ h1, h2⟩
theorem own_join {B : State} {K : (Outcome → State → Prop) → Prop} (h1 : K G) (h2 : K G → own_Goes p e below B G) : own_Goes p e below B G := h2 h1
theorem own_ret {S : List Value} {pc : Nat} {Ls : Array Slot} {w : Value} {t : FieldType} (X : Stand p l e R s m args below meth c T locs cells slots) (hlk : meth.locks = false) (hret : meth.sig.returnType = some t)
    (st : ∀ fs, (∀ (f : JFrame) (acts : List Action), f.method = m → f.locked = none → f.entered = [] → (doReturn e (T.setTop f) acts (some w)).1 = T.setFrames fs) → Steps p.tables e below (T.setTop (mkF m pc Ls S)) (T.setFrames fs))
    (hc : cells ≤ rc) (hs : slots ≤ rs) (eT : T.heap = h) (hq : Q (some w) h locs) : own_Goes p e below (T.setTop (mkF m pc Ls S)) (own_post s Q rc rs) := by
  subst eT
  obtain ⟨fs, hr, hrun, hended, hW, hsame⟩ := X.leave (v := some w) (fun h => by rw [hret] at h; cases h) hlk
  exact ⟨_, _, st fs hr, hrun, hended, _, _, rfl, hq, ⟨_, rfl⟩, hW, hsame.mono hc hs⟩
theorem own_retI {rest : List Value} {pc : Nat} {Ls : Array Slot} {z : Int32} (X : Stand p l e R s m args below meth c T locs cells slots) (hx : p.tables.exec = Jvm.exec) (hlk : meth.locks = false) (hret : meth.sig.returnType = some .int) (hd : decode c.code pc = .ok (.ireturn, 1))
    (hc : cells ≤ rc) (hs : slots ≤ rs) (eT : T.heap = h) (hq : Q (some (.int z)) h locs) : own_Goes p e below (T.setTop (mkF m pc Ls (.int z :: rest))) (own_post s Q rc rs) :=
  own_ret X hlk hret (fun fs hr => retOut X hx hret rfl (Or.inl ⟨rfl, Or.inl rfl, z, rfl⟩) hd hr) hc hs eT hq
theorem own_retN {rest : List Value} {pc : Nat} {Ls : Array Slot} {z z' : Int32} {t : FieldType} (X : Stand p l e R s m args below meth c T locs cells slots) (hx : p.tables.exec = Jvm.exec) (hlk : meth.locks = false) (hret : meth.sig.returnType = some t) (ht : t = .boolean ∨ t = .byte ∨ t = .char ∨ t = .short) (hn : nar t z = z') (hd : decode c.code pc = .ok (.ireturn, 1))
    (hc : cells ≤ rc) (hs : slots ≤ rs) (eT : T.heap = h) (hq : Q (some (.int z')) h locs) : own_Goes p e below (T.setTop (mkF m pc Ls (.int z :: rest))) (own_post s Q rc rs) :=
  own_ret X hlk hret (fun fs hr => retN X hx hret ht hd (by rw [hn]; exact hr)) hc hs eT hq
theorem own_retJ {rest : List Value} {pc : Nat} {Ls : Array Slot} {z : Int64} (X : Stand p l e R s m args below meth c T locs cells slots) (hx : p.tables.exec = Jvm.exec) (hlk : meth.locks = false) (hret : meth.sig.returnType = some .long) (hd : decode c.code pc = .ok (.lreturn, 1))
    (hc : cells ≤ rc) (hs : slots ≤ rs) (eT : T.heap = h) (hq : Q (some (.long z)) h locs) : own_Goes p e below (T.setTop (mkF m pc Ls (.long z :: rest))) (own_post s Q rc rs) :=
  own_ret X hlk hret (fun fs hr => retOut X hx hret rfl (Or.inr (Or.inl ⟨rfl, rfl, z, rfl⟩)) hd hr) hc hs eT hq
theorem own_retA {rest : List Value} {pc : Nat} {Ls : Array Slot} {w : Value} {t : FieldType} (X : Stand p l e R s m args below meth c T locs cells slots) (hx : p.tables.exec = Jvm.exec) (hlk : meth.locks = false) (hret : meth.sig.returnType = some t) (ht : t.isReference = true) (hw : w.isRef = true) (hn : narrow t w = w) (hd : decode c.code pc = .ok (.areturn, 1))
    (hc : cells ≤ rc) (hs : slots ≤ rs) (eT : T.heap = h) (hq : Q (some w) h locs) : own_Goes p e below (T.setTop (mkF m pc Ls (w :: rest))) (own_post s Q rc rs) :=
  own_ret X hlk hret (fun fs hr => retOut X hx hret hn (Or.inr (Or.inr (Or.inr (Or.inr ⟨rfl, ht, hw⟩)))) hd hr) hc hs eT hq
theorem own_retV {pc : Nat} {Ls : Array Slot} (X : Stand p l e R s m args below meth c T locs cells slots) (hx : p.tables.exec = Jvm.exec) (hlk : meth.locks = false) (hret : meth.sig.returnType = none) (hd : decode c.code pc = .ok (.return_, 1))
    (hc : cells ≤ rc) (hs : slots ≤ rs) (eT : T.heap = h) (hq : Q none h locs) : own_Goes p e below (T.setTop (mkF m pc Ls [])) (own_post s Q rc rs) := by
  subst eT
  obtain ⟨fs, hr, hrun, hended, hW, hsame⟩ := X.leave (v := none) (fun _ => rfl) hlk
  exact ⟨_, _, X.returnOut hx hret hd hr, hrun, hended, _, _, rfl, hq, ⟨_, rfl⟩, hW, hsame.mono hc hs⟩
/-- what a body's theorem says -/
abbrev own_Ct (l : Launch) (Z : State) (y : MethodName) (bytes : ByteArray) (maxL : Nat) (ret : Option FieldType) (ws : List Jvm.Cond) (rm : Room) (as' : Array Value) (h0 : Heap) (Q : Option Value → Heap → List Loc → Prop) (rc rs : Nat) : Prop :=
  MetFree l y (head1 (Jvm.Cond.code y bytes maxL ret :: ws) rm) (fun a U => a = as' ∧ Z.Warmed39 U.vm ∧ U.heap = h0) (fun _ _ _ _ _ => True) (fun _ U o U' => ∃ v L, o = .returned v ∧ Q v U'.heap L ∧ FrameEnd U o U' L rc rs)
theorem own_met {y : MethodName} {bytes : ByteArray} {maxL : Nat} {ret : Option FieldType} {ws : List Jvm.Cond} {rm : Room} {as' : Array Value} {h0 : Heap} (hp : plainFor y = true)
    (body : ∀ p e s m below meth c s₁, Stand p l e rm s m as' below meth c s₁ [] 0 0 → p.tables.exec = Jvm.exec → c.code = bytes → c.maxLocals = maxL → meth.sig.returnType = ret → meth.locks = false → meth.name = y.name → s.vm.findClass y.cls = some m.cls → Z.Warmed39 s.vm → s₁.heap = h0 →
      own_Goes p e below (s₁.setTop (entryFrame m as' maxL)) (own_post s Q rc rs)) : own_Ct l Z y bytes maxL ret ws rm as' h0 Q rc rs := by
  refine MetFree.of_bodySF hp hisR ?_
  intro p e s m args below meth c s₁ Bd hml0 hP hK
  obtain ⟨rfl, hZ, hh⟩ := hP
  exact body p e s m below meth c s₁ (Stand.of_body Bd) Bd.exec Bd.bytes hml0 Bd.returns Bd.notSynchronized (name_of_methodNamed Bd.named Bd.method).1 (findClass_of_methodNamed Bd.named) hZ (by rw [← hh, Bd.state]; rfl)
theorem own_callS {own : String} {index : Nat} {y : MethodName} {bytes : ByteArray} {maxL : Nat} {ret : Option FieldType} {rm : Room} {argsL rest : List Value} {pc W : Nat} {Ls : Array Slot} (X : Stand p l e R s m args below meth c T locs cells slots) (hx : p.tables.exec = Jvm.exec) (hZ : Z.Warmed39 s.vm) (hown : s.vm.findClass own = some m.cls)
    (w1 : (Jvm.Cond.methodLink own index y).before a0 Z = true) (w2 : (Jvm.Cond.static y).before a0 Z = true) (w3 : (Jvm.Cond.initialized y.cls).before a0 Z = true) (w4 : (Jvm.Cond.code y bytes maxL ret).before a0 Z = true) (hy : y.cls ≠ "java/lang/invoke/MethodHandle" ∧ y.cls ≠ "java/lang/invoke/VarHandle")
    (M : own_Ct l Z y bytes maxL ret [] rm argsL.toArray h Q rm.cells rm.slots) (hf : rm.frames + 1 ≤ R.frames) (hl : W + (maxL + 11) + rm.locals ≤ R.locals) (eT : T.heap = h) (hsize : Ls.size = c.maxLocals)
    (hlen : ∀ sig, parseMethodDescriptor y.desc = some sig → argsL.length = sig.parameters.length) {S : List Value} (hS : S = argsL.reverse ++ rest) (hW : (rest.map fun v => v.category).sum ≤ W) (hd : decode c.code pc = .ok (.invokestatic index, 3)) (hc : cells + rm.cells ≤ R.cells) (hs : slots + rm.slots ≤ R.slots) :
    ∃ v T' h' L, Stand p l e R s m args below meth c T' (locs ++ L) (cells + rm.cells) (slots + rm.slots) ∧ T'.heap = h' ∧ Q v h' L ∧ ∀ t, Steps p.tables e below (T'.setTop (mkF m (pc + 3) Ls (v.toList ++ rest))) t → Steps p.tables e below (T.setTop (mkF m pc Ls S)) t := by
  obtain ⟨v, _, ⟨T4, L4, k4, n4⟩, -, X4, ⟨Lc, hQ, l4, y4, z4⟩, st⟩ := Jvm.LawKit.callS X hx hown (mvT hZ w1) (mvT hZ w2) (mvT hZ w3) (mvT hZ w4) hy (backOf (W := W) M hZ w4 w3 hf hl) (g := mkF m pc Ls S) rfl hsize (argsL := argsL) (rest := rest) hlen hS (by show 2 * 0 + _ ≤ _; omega) hd (fun _ _ => ⟨rfl, eT, hc, hs⟩)
  dsimp only [Pt.U, Pt.locs, Pt.cells, Pt.slots] at X4 l4 y4 z4 st hQ
  subst l4 y4 z4
  exact ⟨v, T4, _, Lc, X4, rfl, hQ, st⟩
theorem own_callV {own C : String} {index : Nat} {y z : MethodName} {bytes : ByteArray} {maxL : Nat} {ret : Option FieldType} {rm : Room} {b : Addr} {argsL rest : List Value} {pc W : Nat} {Ls : Array Slot} (X : Stand p l e R s m args below meth c T locs cells slots) (hx : p.tables.exec = Jvm.exec) (hZ : Z.Warmed39 s.vm) (hown : s.vm.findClass own = some m.cls)
    (w1 : (Jvm.Cond.methodLink own index y).before a0 Z = true) (w2 : (Jvm.Cond.declares y).before a0 Z = true) (w5 : (Jvm.Cond.selects C y z).before a0 Z = true) (w6 : (Jvm.Cond.instanceMethod z).before a0 Z = true) (w3 : (Jvm.Cond.initialized z.cls).before a0 Z = true) (w4 : (Jvm.Cond.code z bytes maxL ret).before a0 Z = true) (hnf : NotFace s y) (hy : y.cls ≠ "java/lang/invoke/MethodHandle" ∧ y.cls ≠ "java/lang/invoke/VarHandle")
    (M : own_Ct l Z z bytes maxL ret [] rm (.ref b :: argsL).toArray h Q rm.cells rm.slots) (hf : rm.frames + 1 ≤ R.frames) (hl : W + (maxL + 11) + rm.locals ≤ R.locals) (eT : T.heap = h) (E : Exa Z h b C) (hsize : Ls.size = c.maxLocals)
    (hlen : ∀ sig, parseMethodDescriptor y.desc = some sig → argsL.length = sig.parameters.length) {S : List Value} (hS : S = argsL.reverse ++ .ref b :: rest) (hW : (rest.map fun v => v.category).sum ≤ W) (hd : decode c.code pc = .ok (.invokevirtual index, 3)) (hc : cells + rm.cells ≤ R.cells) (hs : slots + rm.slots ≤ R.slots) :
    ∃ v T' h' L, Stand p l e R s m args below meth c T' (locs ++ L) (cells + rm.cells) (slots + rm.slots) ∧ T'.heap = h' ∧ Q v h' L ∧ ∀ t, Steps p.tables e below (T'.setTop (mkF m (pc + 3) Ls (v.toList ++ rest))) t → Steps p.tables e below (T.setTop (mkF m pc Ls S)) t := by
  obtain ⟨cq, kq, qa, qb, qc⟩ := isOf hZ eT E
  obtain ⟨v, _, ⟨T4, L4, k4, n4⟩, -, X4, ⟨Lc, hQ, l4, y4, z4⟩, st⟩ := X.virtualBack hx (y := y) (z := z) hown (mvT hZ w1) (mvT hZ w2) hnf (mvT hZ w5) (mvT hZ w6) hy (backOf (W := W) M hZ w4 w3 hf hl) qa qc (g := mkF m pc Ls S) rfl hsize (Steps.refl _) (argsL := argsL) (rest := rest) hlen hS (by show 2 * 0 + _ ≤ _; omega) hd (fun _ _ => ⟨rfl, eT, hc, hs⟩)
  dsimp only [Pt.U, Pt.locs, Pt.cells, Pt.slots] at X4 l4 y4 z4 st hQ
  subst l4 y4 z4
  exact ⟨v, T4, _, Lc, X4, rfl, hQ, fun t k => st.trans k⟩
theorem own_callU {own C owner : String} {index : Nat} {y z : MethodName} {bytes : ByteArray} {maxL : Nat} {ret : Option FieldType} {rm : Room} {b : Addr} {argsL rest : List Value} {pc W : Nat} {Ls : Array Slot} (X : Stand p l e R s m args below meth c T locs cells slots) (hx : p.tables.exec = Jvm.exec) (hZ : Z.Warmed39 s.vm) (hown : s.vm.findClass own = some m.cls)
    (w1 : (Jvm.Cond.methodLink own index y).before a0 Z = true) (w0 : (Jvm.Cond.sameMethod y.cls owner y.name y.desc).before a0 Z = true) (w2 : (Jvm.Cond.declares ⟨owner, y.name, y.desc⟩).before a0 Z = true) (w5 : (Jvm.Cond.selects C y z).before a0 Z = true) (w6 : (Jvm.Cond.instanceMethod z).before a0 Z = true) (w3 : (Jvm.Cond.initialized z.cls).before a0 Z = true) (w4 : (Jvm.Cond.code z bytes maxL ret).before a0 Z = true) (hy : owner ≠ "java/lang/invoke/MethodHandle" ∧ owner ≠ "java/lang/invoke/VarHandle")
    (M : own_Ct l Z z bytes maxL ret [] rm (.ref b :: argsL).toArray h Q rm.cells rm.slots) (hf : rm.frames + 1 ≤ R.frames) (hl : W + (maxL + 11) + rm.locals ≤ R.locals) (eT : T.heap = h) (E : Exa Z h b C) (hsize : Ls.size = c.maxLocals)
    (hlen : ∀ sig, parseMethodDescriptor y.desc = some sig → argsL.length = sig.parameters.length) {S : List Value} (hS : S = argsL.reverse ++ .ref b :: rest) (hW : (rest.map fun v => v.category).sum ≤ W) (hd : decode c.code pc = .ok (.invokevirtual index, 3)) (hc : cells + rm.cells ≤ R.cells) (hs : slots + rm.slots ≤ R.slots) :
    ∃ v T' h' L, Stand p l e R s m args below meth c T' (locs ++ L) (cells + rm.cells) (slots + rm.slots) ∧ T'.heap = h' ∧ Q v h' L ∧ ∀ t, Steps p.tables e below (T'.setTop (mkF m (pc + 3) Ls (v.toList ++ rest))) t → Steps p.tables e below (T.setTop (mkF m pc Ls S)) t := by
  obtain ⟨cq, kq, qa, qb, qc⟩ := isOf hZ eT E
  obtain ⟨v, _, ⟨T4, L4, k4, n4⟩, -, X4, ⟨Lc, hQ, l4, y4, z4⟩, st⟩ := X.virtualBackUp hx (x := y) (y := z) hown (mvT hZ w1) (mvT hZ w0) (mvT hZ w2) hy (mvT hZ w5) (mvT hZ w6) (backOf (W := W) M hZ w4 w3 hf hl) qa qc (g := mkF m pc Ls S) rfl hsize (Steps.refl _) (argsL := argsL) (rest := rest) hlen hS (by show 2 * 0 + _ ≤ _; omega) hd (fun _ _ => ⟨rfl, eT, hc, hs⟩)
  dsimp only [Pt.U, Pt.locs, Pt.cells, Pt.slots] at X4 l4 y4 z4 st hQ
  subst l4 y4 z4
  exact ⟨v, T4, _, Lc, X4, rfl, hQ, fun t k => st.trans k⟩
theorem own_callP {own : String} {index : Nat} {y y' : MethodName} {bytes : ByteArray} {maxL : Nat} {ret : Option FieldType} {rm : Room} {b : Addr} {argsL rest : List Value} {pc W : Nat} {Ls : Array Slot} (X : Stand p l e R s m args below meth c T locs cells slots) (hx : p.tables.exec = Jvm.exec) (hZ : Z.Warmed39 s.vm) (hown : s.vm.findClass own = some m.cls)
    (w1 : (Jvm.Cond.methodLink own index y).before a0 Z = true) (w6 : (Jvm.Cond.instanceMethod y).before a0 Z = true) (w7 : (Jvm.Cond.privateMethod y).before a0 Z = true) (w5 : (Jvm.Cond.selects y.cls y' y').before a0 Z = true) (hy' : y'.cls = y.cls) (w3 : (Jvm.Cond.initialized y.cls).before a0 Z = true) (w4 : (Jvm.Cond.code y bytes maxL ret).before a0 Z = true) (hy : y.cls ≠ "java/lang/invoke/MethodHandle" ∧ y.cls ≠ "java/lang/invoke/VarHandle")
    (M : own_Ct l Z y bytes maxL ret [] rm (.ref b :: argsL).toArray h Q rm.cells rm.slots) (hf : rm.frames + 1 ≤ R.frames) (hl : W + (maxL + 11) + rm.locals ≤ R.locals) (eT : T.heap = h) {C : String} (E : Exa Z h b C) (hsize : Ls.size = c.maxLocals)
    (hlen : ∀ sig, parseMethodDescriptor y.desc = some sig → argsL.length = sig.parameters.length) {S : List Value} (hS : S = argsL.reverse ++ .ref b :: rest) (hW : (rest.map fun v => v.category).sum ≤ W) (hd : decode c.code pc = .ok (.invokevirtual index, 3)) (hc : cells + rm.cells ≤ R.cells) (hs : slots + rm.slots ≤ R.slots) :
    ∃ v T' h' L, Stand p l e R s m args below meth c T' (locs ++ L) (cells + rm.cells) (slots + rm.slots) ∧ T'.heap = h' ∧ Q v h' L ∧ ∀ t, Steps p.tables e below (T'.setTop (mkF m (pc + 3) Ls (v.toList ++ rest))) t → Steps p.tables e below (T.setTop (mkF m pc Ls S)) t := by
  obtain ⟨cq, q1, q2⟩ := E.cell
  have hpv : s.PrivateAt y := Cond.privateMethod_at (mvP hZ w7 (args := #[]))
  have hnf : NotFace s y' := notFace_of_selects (args := #[]) (mvT hZ w5)
  obtain ⟨c2, r2, m2, k1, k2, k3, k4, kP, hkP, hkPi⟩ := Cond.selects_spec (mvT (args := #[]) hZ w5)
  have k5 := findClass_of_methodNamed k3
  rw [hy'] at k5
  obtain ⟨v, _, ⟨T4, L4, k4, n4⟩, -, X4, ⟨Lc, hQ, l4, y4, z4⟩, st⟩ := X.privateBack hx hown (mvT hZ w1) (mvT hZ w6) (selects_self_of_private k5 hkP hkPi hpv (mvT hZ w6) hy) hpv (mvT hZ w4) hy (backOf (W := W) M hZ w4 w3 hf hl) (g := mkF m pc Ls S) rfl hsize (Steps.refl _) (a := b) (by rw [eT]; exact q1) q2 (argsL := argsL) (rest := rest) hlen hS (by show 2 * 0 + _ ≤ _; omega) hd (fun _ _ => ⟨rfl, eT, hc, hs⟩)
  dsimp only [Pt.U, Pt.locs, Pt.cells, Pt.slots] at X4 l4 y4 z4 st hQ
  subst l4 y4 z4
  exact ⟨v, T4, _, Lc, X4, rfl, hQ, fun t k => st.trans k⟩
theorem own_callI {own : String} {index : Nat} {y : MethodName} {bytes : ByteArray} {maxL : Nat} {rm : Room} {b : Addr} {argsL rest : List Value} {pc W : Nat} {Ls : Array Slot} (X : Stand p l e R s m args below meth c T locs cells slots) (hx : p.tables.exec = Jvm.exec) (hZ : Z.Warmed39 s.vm) (hown : s.vm.findClass own = some m.cls) (hi : y.name = "<init>")
    (w1 : (Jvm.Cond.methodLink own index y).before a0 Z = true) (w6 : (Jvm.Cond.instanceMethod y).before a0 Z = true) (w3 : (Jvm.Cond.initialized y.cls).before a0 Z = true) (w4 : (Jvm.Cond.code y bytes maxL none).before a0 Z = true) (hy : y.cls ≠ "java/lang/invoke/MethodHandle" ∧ y.cls ≠ "java/lang/invoke/VarHandle")
    (M : own_Ct l Z y bytes maxL none [] rm (.ref b :: argsL).toArray h Q rm.cells rm.slots) (hf : rm.frames + 1 ≤ R.frames) (hl : W + (maxL + 11) + rm.locals ≤ R.locals) (eT : T.heap = h) (hsize : Ls.size = c.maxLocals)
    (hlen : ∀ sig, parseMethodDescriptor y.desc = some sig → argsL.length = sig.parameters.length) {S : List Value} (hS : S = argsL.reverse ++ .ref b :: rest) (hW : (rest.map fun v => v.category).sum ≤ W) (hd : decode c.code pc = .ok (.invokespecial index, 3)) (hc : cells + rm.cells ≤ R.cells) (hs : slots + rm.slots ≤ R.slots) :
    ∃ v T' h' L, Stand p l e R s m args below meth c T' (locs ++ L) (cells + rm.cells) (slots + rm.slots) ∧ T'.heap = h' ∧ Q v h' L ∧ ∀ t, Steps p.tables e below (T'.setTop (mkF m (pc + 3) Ls (v.toList ++ rest))) t → Steps p.tables e below (T.setTop (mkF m pc Ls S)) t := by
  obtain ⟨v, _, ⟨T4, L4, k4, n4⟩, -, X4, ⟨Lc, hQ, l4, y4, z4⟩, st⟩ := X.specialBack hx hi hown (mvT hZ w1) (mvT hZ w6) (mvT hZ w4) hy (backOf (W := W) M hZ w4 w3 hf hl) (g := mkF m pc Ls S) rfl hsize (Steps.refl _) (a := b) (argsL := argsL) (rest := rest) hlen hS (by show 2 * 0 + _ ≤ _; omega) hd (fun _ _ => ⟨rfl, eT, hc, hs⟩)
  dsimp only [Pt.U, Pt.locs, Pt.cells, Pt.slots] at X4 l4 y4 z4 st hQ
  subst l4 y4 z4
  exact ⟨v, T4, _, Lc, X4, rfl, hQ, fun t k => st.trans k⟩
theorem own_eqI {st : State} {t : Term} {z : Int32} (k : (Jvm.Cond.eq t (Term.int z)).value args st none st [] = some true) : t.eval args st none [] st = some (.int z) := by
  simp only [Jvm.Cond.value, Term.eval] at k
  cases ht : t.eval args st none [] st with
  | none => simp [ht] at k
  | some q => cases q <;> simp [ht] at k ⊢; exact k
theorem own_eqR {st : State} {t u : Term} {b : Addr} (k : (Jvm.Cond.eq t u).value args st none st [] = some true) (hu : u.eval args st none [] st = some (.ref b)) : t.eval args st none [] st = some (.ref b) := by
  simp only [Jvm.Cond.value] at k
  cases ht : t.eval args st none [] st with
  | none => simp [ht] at k
  | some q => cases q <;> simp [ht, hu] at k ⊢; exact k
end Own

theorem pn_com_example_ringwalk_ringwalk_layout_Ringwalk1 : plainName "com/example/ringwalk/ringwalk/layout/Ringwalk1" = true := by first | (simp [plainName, overriddenIn]; done) | decide +kernel
theorem pn_com_example_ringwalk_ringwalk_layout_Ringwalk1WithPointsPinLaw : plainName "com/example/ringwalk/ringwalk/layout/Ringwalk1WithPointsPinLaw" = true := by first | (simp [plainName, overriddenIn]; done) | decide +kernel
theorem pd___V : parseMethodDescriptor "()V" = some ⟨[], none⟩ := by decide +kernel
theorem pd__I_V : parseMethodDescriptor "(I)V" = some ⟨[.int], none⟩ := by decide +kernel
theorem pd__I_Lcom_example_ringwalk_ringwalk_layout_Ringwalk1_ : parseMethodDescriptor "(I)Lcom/example/ringwalk/ringwalk/layout/Ringwalk1;" = some ⟨[.int], some (.object "com/example/ringwalk/ringwalk/layout/Ringwalk1")⟩ := by decide +kernel
theorem pd___I : parseMethodDescriptor "()I" = some ⟨[], some .int⟩ := by decide +kernel
theorem pd__II_I : parseMethodDescriptor "(II)I" = some ⟨[.int, .int], some .int⟩ := by decide +kernel
section Own2
variable {p : Program} {l : Launch} {e : Env} {R : Room} {s : State} {m : MethodId} {args : Array Value} {below : List Frame} {meth : Method} {c : Code} {T : State} {locs : List Loc} {cells slots : Nat} {Z : State} {a0 : Array Value} {h : Heap} {a : Addr} {k : ClassId} {z j : Int32} {vs : List Value} {dv : Value} {pc : Nat} {Ls : Array Slot} {rest : List Value}
theorem own_stJ {x : Int64} (X : Stand p l e R s m args below meth c T locs cells slots) (hx : p.tables.exec = Jvm.exec) (hZ : Z.Warmed39 s.vm) (eT : T.heap = h) (F : Arv Z h a k .long z vs dv) (i : Nat) (hj : j.toNatClampNeg = i) (hz : ¬ j < 0 ∧ j < z) (hi : i < vs.length) (hd : decode c.code pc = .ok (.lastore, 1)) :
    ∃ T' h', Stand p l e R s m args below meth c T' (locs ++ [⟨a, j.toNatClampNeg⟩]) cells slots ∧ T'.heap = h' ∧ Wr h h' a j.toNatClampNeg (.long x) ∧ Arv Z h' a k .long z (vs.set i (.long x)) dv ∧ ∀ t, Steps p.tables e below (T'.setTop (mkF m (pc + 1) Ls rest)) t → Steps p.tables e below (T.setTop (mkF m pc Ls (.long x :: .int j :: .ref a :: rest))) t := by
  obtain ⟨cl, Ar, q, S, N, H, G⟩ := F
  obtain ⟨T', h', X', e', W, st⟩ := stJ X hx hZ eT Ar (j := j) (inb_of S hz) (g := mkF m pc Ls (.long x :: .int j :: .ref a :: rest)) rfl rfl hd
  exact ⟨T', h', X', e', W, Arv.set Ar q S N H G rfl W i hj hi, st⟩
theorem own_stB {x : Int32} (X : Stand p l e R s m args below meth c T locs cells slots) (hx : p.tables.exec = Jvm.exec) (hZ : Z.Warmed39 s.vm) (eT : T.heap = h) (F : Arv Z h a k .byte z vs dv) (i : Nat) (hj : j.toNatClampNeg = i) (hz : ¬ j < 0 ∧ j < z) (hi : i < vs.length) (hd : decode c.code pc = .ok (.bastore, 1)) :
    ∃ T' h', Stand p l e R s m args below meth c T' (locs ++ [⟨a, j.toNatClampNeg⟩]) cells slots ∧ T'.heap = h' ∧ Wr h h' a j.toNatClampNeg (.int x.toInt8.toInt32) ∧ Arv Z h' a k .byte z (vs.set i (.int x.toInt8.toInt32)) dv ∧ ∀ t, Steps p.tables e below (T'.setTop (mkF m (pc + 1) Ls rest)) t → Steps p.tables e below (T.setTop (mkF m pc Ls (.int x :: .int j :: .ref a :: rest))) t := by
  obtain ⟨cl, Ar, q, S, N, H, G⟩ := F
  obtain ⟨T', h', X', e', W, st⟩ := stB X hx hZ eT Ar (j := j) (inb_of S hz) (g := mkF m pc Ls (.int x :: .int j :: .ref a :: rest)) rfl rfl hd
  exact ⟨T', h', X', e', W, Arv.set Ar q S N H G (fits_nar_byte _) W i hj hi, st⟩
theorem own_stR {y : Addr} {ty : FieldType} (X : Stand p l e R s m args below meth c T locs cells slots) (hx : p.tables.exec = Jvm.exec) (hZ : Z.Warmed39 s.vm) (eT : T.heap = h) (F : Arv Z h a k ty z vs dv) (hty : ty.isReference = true) (hfit : fits ty (.ref y) = true) (hst : ∀ cl, Arr Z h a cl ty → cl.cls = k → Sto Z h a (.ref y)) (i : Nat) (hj : j.toNatClampNeg = i) (hz : ¬ j < 0 ∧ j < z) (hi : i < vs.length) (hd : decode c.code pc = .ok (.aastore, 1)) :
    ∃ T' h', Stand p l e R s m args below meth c T' (locs ++ [⟨a, j.toNatClampNeg⟩]) cells slots ∧ T'.heap = h' ∧ Wr h h' a j.toNatClampNeg (.ref y) ∧ Arv Z h' a k ty z (vs.set i (.ref y)) dv ∧ ∀ t, Steps p.tables e below (T'.setTop (mkF m (pc + 1) Ls rest)) t → Steps p.tables e below (T.setTop (mkF m pc Ls (.ref y :: .int j :: .ref a :: rest))) t := by
  obtain ⟨cl, Ar, q, S, N, H, G⟩ := F
  obtain ⟨T', h', X', e', W, st⟩ := stR X hx hZ eT Ar (j := j) (inb_of S hz) hty (hst cl Ar q) (g := mkF m pc Ls (.ref y :: .int j :: .ref a :: rest)) rfl rfl hd
  exact ⟨T', h', X', e', W, Arv.set Ar q S N H G hfit W i hj hi, st⟩
theorem own_ldJ {v : Value} (X : Stand p l e R s m args below meth c T locs cells slots) (hx : p.tables.exec = Jvm.exec) (hZ : Z.Warmed39 s.vm) (eT : T.heap = h) (F : Arv Z h a k .long z vs dv) (hz : ¬ j < 0 ∧ j < z) (hv : vs.getD j.toNatClampNeg dv = v) (hd : decode c.code pc = .ok (.laload, 1)) :
    ∀ t, Steps p.tables e below (T.setTop (mkF m (pc + 1) Ls (v :: rest))) t → Steps p.tables e below (T.setTop (mkF m pc Ls (.int j :: .ref a :: rest))) t := by
  obtain ⟨cl, Ar, q, S, N, H, G⟩ := F
  exact X.laload hx (j := j) (v := v) (by rw [eT]; exact Ar.1) (State.isArrayOf_alike hZ.alike Ar.2.1) Ar.2.2 (inb_of S hz) (H.at (inb_of S hz) hv) (g := mkF m pc Ls (.int j :: .ref a :: rest)) rfl rfl hd
theorem own_ldB {v : Value} (X : Stand p l e R s m args below meth c T locs cells slots) (hx : p.tables.exec = Jvm.exec) (hZ : Z.Warmed39 s.vm) (eT : T.heap = h) (F : Arv Z h a k .byte z vs dv) (hz : ¬ j < 0 ∧ j < z) (hv : vs.getD j.toNatClampNeg dv = v) (hd : decode c.code pc = .ok (.baload, 1)) :
    ∀ t, Steps p.tables e below (T.setTop (mkF m (pc + 1) Ls (v :: rest))) t → Steps p.tables e below (T.setTop (mkF m pc Ls (.int j :: .ref a :: rest))) t := by
  obtain ⟨cl, Ar, q, S, N, H, G⟩ := F
  exact X.baloadBytes hx (j := j) (v := v) (by rw [eT]; exact Ar.1) (State.isArrayOf_alike hZ.alike Ar.2.1) Ar.2.2 (inb_of S hz) (H.at (inb_of S hz) hv) (g := mkF m pc Ls (.int j :: .ref a :: rest)) rfl rfl hd
theorem own_ldR {v : Value} {ty : FieldType} (X : Stand p l e R s m args below meth c T locs cells slots) (hx : p.tables.exec = Jvm.exec) (hZ : Z.Warmed39 s.vm) (eT : T.heap = h) (F : Arv Z h a k ty z vs dv) (hty : ty.isReference = true) (hz : ¬ j < 0 ∧ j < z) (hv : vs.getD j.toNatClampNeg dv = v) (hd : decode c.code pc = .ok (.aaload, 1)) :
    ∀ t, Steps p.tables e below (T.setTop (mkF m (pc + 1) Ls (v :: rest))) t → Steps p.tables e below (T.setTop (mkF m pc Ls (.int j :: .ref a :: rest))) t := by
  obtain ⟨cl, Ar, q, S, N, H, G⟩ := F
  exact X.aaload hx (j := j) (v := v) (by rw [eT]; exact Ar.1) (State.isArrayOf_alike hZ.alike Ar.2.1) hty Ar.2.2 (inb_of S hz) (H.at (inb_of S hz) hv) (g := mkF m pc Ls (.int j :: .ref a :: rest)) rfl rfl hd
theorem own_len {ty : FieldType} (X : Stand p l e R s m args below meth c T locs cells slots) (hx : p.tables.exec = Jvm.exec) (hZ : Z.Warmed39 s.vm) (eT : T.heap = h) (F : Arv Z h a k ty z vs dv) (hd : decode c.code pc = .ok (.arraylength, 1)) :
    ∀ t, Steps p.tables e below (T.setTop (mkF m (pc + 1) Ls (.int z :: rest))) t → Steps p.tables e below (T.setTop (mkF m pc Ls (.ref a :: rest))) t := by
  obtain ⟨cl, Ar, q, S, N, H, G⟩ := F
  intro t kt
  refine X.arraylength hx (by rw [eT]; exact Ar.1) (State.isArrayOf_alike hZ.alike Ar.2.1) (g := mkF m pc Ls (.ref a :: rest)) rfl rfl hd t ?_
  rw [len_of S N]; exact kt
end Own2
/-! the plain law -/
def own_max (a b : Int32) : Int32 := if a < b then b else a
theorem own_max1 (x : Int32) : ¬ own_max (1 : Int32) x < (1 : Int32) := by
  unfold own_max; split
  · rename_i q; rw [Int32.lt_iff_toInt_lt] at q ⊢; omega
  · decide

theorem d4_0 : decode jdk_29_method_65_code 0 = .ok (.iload_n 0, 1) := by decide +kernel
theorem d4_1 : decode jdk_29_method_65_code 1 = .ok (.iload_n 1, 1) := by decide +kernel
theorem d4_2 : decode jdk_29_method_65_code 2 = .ok (.if_icmp .lt 7, 3) := by decide +kernel
theorem d4_5 : decode jdk_29_method_65_code 5 = .ok (.iload_n 0, 1) := by decide +kernel
theorem d4_6 : decode jdk_29_method_65_code 6 = .ok (.goto 4, 3) := by decide +kernel
theorem d4_9 : decode jdk_29_method_65_code 9 = .ok (.iload_n 1, 1) := by decide +kernel
theorem d4_10 : decode jdk_29_method_65_code 10 = .ok (.ireturn, 1) := by decide +kernel
theorem ef_4 (m : MethodId) (p1 : Int32) (p2 : Int32) : entryFrame m #[(.int p1), (.int p2)] 2 = mkF m 0 #[.val (.int p1), .val (.int p2)] [] := by first | (simp [entryFrame, mkF, argsToLocals, Value.category]; done) | rfl
set_option maxRecDepth 65536 in
set_option maxHeartbeats 40000000 in
theorem rm4 (l : Launch) (Z : State) (a0 : Array Value) (hw : ∀ d ∈ tables_1, d.before a0 Z = true) (ws : List Jvm.Cond) (p1 p2 : Int32) (h0 : Heap) (n0 : Nat) (Z0 : n0 ≤ h0.size)  :
    own_Ct l Z (⟨"java/lang/Math", "max", "(II)I"⟩ : MethodName) jdk_29_method_65_code 2 (some .int) ws ({ frames := 0, cells := 0, slots := 0, locals := 0 } : Room) #[(.int p1), (.int p2)] h0 (fun v h L => v = some (.int (own_max p1 p2)) ∧ L = [] ∧ h = h0) ({ frames := 0, cells := 0, slots := 0, locals := 0 } : Room).cells ({ frames := 0, cells := 0, slots := 0, locals := 0 } : Room).slots := by
  refine own_met (Jvm.Free.JP.mathPlain rfl (by decide +kernel)) (fun p e s m below meth c s₁ X0 hx hby hml hret hlk hnm hown hZ e0 => ?_)
  have hml : c.maxLocals = 2 := hml
  have N0 := Fr.nil n0
  refine own_st (fun _ k => castTop (ef_4 m p1 p2) k) ?_
  show own_Goes p e below (s₁.setTop (mkF m 0 #[.val (.int p1), .val (.int p2)] [])) _
  refine own_st (fun _ k => XS.iloadN X0.here hx rfl (hb hby d4_0) rfl k) ?_
  show own_Goes p e below (s₁.setTop (mkF m 1 #[.val (.int p1), .val (.int p2)] [(.int p1)])) _
  refine own_st (fun _ k => XS.iloadN X0.here hx rfl (hb hby d4_1) rfl k) ?_
  show own_Goes p e below (s₁.setTop (mkF m 2 #[.val (.int p1), .val (.int p2)] [(.int p2), (.int p1)])) _
  by_cases hc2_1 : p1 < p2
  · refine own_st (fun _ k => XS.icmpYes X0.here hx rfl (pc0 := 2) (pc' := 9) rfl (hb hby d4_2) rfl (tlt hc2_1).1 (by decide) (by decide) k) ?_
    show own_Goes p e below (s₁.setTop (mkF m 9 #[.val (.int p1), .val (.int p2)] [])) _
    refine own_st (fun _ k => XS.iloadN X0.here hx rfl (hb hby d4_9) rfl k) ?_
    show own_Goes p e below (s₁.setTop (mkF m 10 #[.val (.int p1), .val (.int p2)] [(.int p2)])) _
    exact own_retI X0 hx hlk hret (hb hby d4_10) (by decide) (by decide) e0 ⟨by first | rw [own_max, if_pos (by assumption)] | rw [own_max, if_neg (by assumption)], rfl, rfl⟩
  · refine own_st (fun _ k => XS.icmpNo X0.here hx rfl (hb hby d4_2) rfl (flt hc2_1).1 k) ?_
    show own_Goes p e below (s₁.setTop (mkF m 5 #[.val (.int p1), .val (.int p2)] [])) _
    refine own_st (fun _ k => XS.iloadN X0.here hx rfl (hb hby d4_5) rfl k) ?_
    show own_Goes p e below (s₁.setTop (mkF m 6 #[.val (.int p1), .val (.int p2)] [(.int p1)])) _
    refine own_st (fun _ k => XS.goto X0.here hx rfl (pc0 := 6) (pc' := 10) rfl (hb hby d4_6) (by decide) (by decide) k) ?_
    show own_Goes p e below (s₁.setTop (mkF m 10 #[.val (.int p1), .val (.int p2)] [(.int p1)])) _
    exact own_retI X0 hx hlk hret (hb hby d4_10) (by decide) (by decide) e0 ⟨by first | rw [own_max, if_pos (by assumption)] | rw [own_max, if_neg (by assumption)], rfl, rfl⟩
theorem d5_0 : decode prog_29_method_3_code 0 = .ok (.aload_n 0, 1) := by decide +kernel
theorem d5_1 : decode prog_29_method_3_code 1 = .ok (.getfield 7, 3) := by decide +kernel
theorem d5_4 : decode prog_29_method_3_code 4 = .ok (.ireturn, 1) := by decide +kernel
theorem ef_5 (m : MethodId) (a1 : Addr) : entryFrame m #[(.ref a1)] 1 = mkF m 0 #[.val (.ref a1)] [] := by first | (simp [entryFrame, mkF, argsToLocals, Value.category]; done) | rfl
set_option maxRecDepth 65536 in
set_option maxHeartbeats 40000000 in
theorem rm5 (l : Launch) (Z : State) (a0 : Array Value) (hw : ∀ d ∈ tables_1, d.before a0 Z = true) (ws : List Jvm.Cond) (a1 : Addr) (k1 : Int32) (h0 : Heap) (n0 : Nat) (Z0 : n0 ≤ h0.size) (F1 : Fld Z h0 a1 "com/example/ringwalk/ringwalk/layout/Ringwalk1" "pointsPerNode" "I" (.int k1)) :
    own_Ct l Z (⟨"com/example/ringwalk/ringwalk/layout/Ringwalk1", "pointsPerNode", "()I"⟩ : MethodName) prog_29_method_3_code 1 (some .int) ws ({ frames := 0, cells := 0, slots := 0, locals := 0 } : Room) #[(.ref a1)] h0 (fun v h L => v = some (.int k1) ∧ L = [] ∧ h = h0) ({ frames := 0, cells := 0, slots := 0, locals := 0 } : Room).cells ({ frames := 0, cells := 0, slots := 0, locals := 0 } : Room).slots := by
  refine own_met (plainFor_of_name pn_com_example_ringwalk_ringwalk_layout_Ringwalk1) (fun p e s m below meth c s₁ X0 hx hby hml hret hlk hnm hown hZ e0 => ?_)
  have hml : c.maxLocals = 1 := hml
  have N0 := Fr.nil n0
  refine own_st (fun _ k => castTop (ef_5 m a1) k) ?_
  show own_Goes p e below (s₁.setTop (mkF m 0 #[.val (.ref a1)] [])) _
  refine own_st (fun _ k => XS.aloadN X0.here hx rfl (hb hby d5_0) rfl rfl k) ?_
  show own_Goes p e below (s₁.setTop (mkF m 1 #[.val (.ref a1)] [(.ref a1)])) _
  obtain ⟨T1, X1, e1, st1⟩ := getF X0 hx hZ hown (host := "") (Or.inl (hw _ (List.mem_of_getElem? (i := 17) rfl))) Via.refl e0 F1 (g := (mkF m 1 #[.val (.ref a1)] [(.ref a1)])) rfl rfl (hb hby d5_1)
  refine own_st st1 ?_
  show own_Goes p e below (T1.setTop (mkF m 4 #[.val (.ref a1)] [(.int k1)])) _
  exact own_retI X1 hx hlk hret (hb hby d5_4) (by decide) (by decide) e1 ⟨rfl, rfl, rfl⟩
theorem d3_0 : decode prog_29_method_1_code 0 = .ok (.aload_n 0, 1) := by decide +kernel
theorem d3_1 : decode prog_29_method_1_code 1 = .ok (.invokespecial 1, 3) := by decide +kernel
theorem d3_4 : decode prog_29_method_1_code 4 = .ok (.aload_n 0, 1) := by decide +kernel
theorem d3_5 : decode prog_29_method_1_code 5 = .ok (.iload_n 1, 1) := by decide +kernel
theorem d3_6 : decode prog_29_method_1_code 6 = .ok (.putfield 7, 3) := by decide +kernel
theorem d3_9 : decode prog_29_method_1_code 9 = .ok (.return_, 1) := by decide +kernel
theorem ef_3 (m : MethodId) (a1 : Addr) (p1 : Int32) : entryFrame m #[(.ref a1), (.int p1)] 2 = mkF m 0 #[.val (.ref a1), .val (.int p1)] [] := by first | (simp [entryFrame, mkF, argsToLocals, Value.category]; done) | rfl
set_option maxRecDepth 65536 in
set_option maxHeartbeats 40000000 in
theorem rm3 (l : Launch) (Z : State) (a0 : Array Value) (hw : ∀ d ∈ tables_1, d.before a0 Z = true) (ws : List Jvm.Cond) (a1 : Addr) (p1 : Int32) (h0 : Heap) (n0 : Nat) (Z0 : n0 ≤ h0.size) (F1 : Fld Z h0 a1 "com/example/ringwalk/ringwalk/layout/Ringwalk1" "pointsPerNode" "I" (.int (0 : Int32))) (E1 : Exa Z h0 a1 "com/example/ringwalk/ringwalk/layout/Ringwalk1") (g1 : n0 ≤ a1) :
    own_Ct l Z (⟨"com/example/ringwalk/ringwalk/layout/Ringwalk1", "<init>", "(I)V"⟩ : MethodName) prog_29_method_1_code 2 none ws ({ frames := 1, cells := 0, slots := 0, locals := 12 } : Room) #[(.ref a1), (.int p1)] h0 (fun v h L => v = none ∧ Fr n0 L ∧ Keep h0 h [a1] ∧ Fld Z h a1 "com/example/ringwalk/ringwalk/layout/Ringwalk1" "pointsPerNode" "I" (.int p1)) ({ frames := 1, cells := 0, slots := 0, locals := 12 } : Room).cells ({ frames := 1, cells := 0, slots := 0, locals := 12 } : Room).slots := by
  refine own_met (plainFor_of_name pn_com_example_ringwalk_ringwalk_layout_Ringwalk1) (fun p e s m below meth c s₁ X0 hx hby hml hret hlk hnm hown hZ e0 => ?_)
  have hml : c.maxLocals = 2 := hml
  have N0 := Fr.nil n0
  refine own_st (fun _ k => castTop (ef_3 m a1 p1) k) ?_
  show own_Goes p e below (s₁.setTop (mkF m 0 #[.val (.ref a1), .val (.int p1)] [])) _
  refine own_st (fun _ k => XS.aloadN X0.here hx rfl (hb hby d3_0) rfl rfl k) ?_
  show own_Goes p e below (s₁.setTop (mkF m 1 #[.val (.ref a1), .val (.int p1)] [(.ref a1)])) _
  obtain ⟨T1, X1, e1, st1⟩ := initO X0 hx hZ hown (hw _ (List.mem_of_getElem? (i := 14) rfl)) (hw _ (List.mem_of_getElem? (i := 15) rfl)) (hw _ (List.mem_of_getElem? (i := 16) rfl)) e0 (g := (mkF m 1 #[.val (.ref a1), .val (.int p1)] [(.ref a1)])) rfl (by rw [hml]; rfl) rfl (hb hby d3_1) (by decide) (W := 0) (by show 2 * 0 + _ ≤ _; exact Nat.le_of_eq rfl) (by decide)
  refine own_st st1 ?_
  show own_Goes p e below (T1.setTop (mkF m 4 #[.val (.ref a1), .val (.int p1)] [])) _
  refine own_st (fun _ k => XS.aloadN X1.here hx rfl (hb hby d3_4) rfl rfl k) ?_
  show own_Goes p e below (T1.setTop (mkF m 5 #[.val (.ref a1), .val (.int p1)] [(.ref a1)])) _
  refine own_st (fun _ k => XS.iloadN X1.here hx rfl (hb hby d3_5) rfl k) ?_
  show own_Goes p e below (T1.setTop (mkF m 6 #[.val (.ref a1), .val (.int p1)] [(.int p1), (.ref a1)])) _
  obtain ⟨T2, h2, X2, e2, W2, st2⟩ := putF X1 hx hZ hown (host := "") (Or.inl (hw _ (List.mem_of_getElem? (i := 17) rfl))) Via.refl e1 F1 E1 (Or.inr ⟨(hw _ (List.mem_of_getElem? (i := 18) rfl)), rfl, hnm⟩) (hw _ (List.mem_of_getElem? (i := 10) rfl)) (ty := .int) (by decide) rfl rfl (g := (mkF m 6 #[.val (.ref a1), .val (.int p1)] [(.int p1), (.ref a1)])) rfl rfl (hb hby d3_6)
  have Fw2 := F1.same W2
  have N2 := Fr.snoc X2 N0 g1
  refine own_st st2 ?_
  show own_Goes p e below (T2.setTop (mkF m 9 #[.val (.ref a1), .val (.int p1)] [])) _
  have f3 := ((Keep.refl h0 [a1]).wr W2 (Or.inl (by simp)))
  exact own_retV X2 hx hlk hret (hb hby d3_9) (by decide) (by decide) e2 ⟨rfl, N2, f3, Fw2⟩
theorem d2_0 : decode prog_29_method_2_code 0 = .ok (.iload_n 0, 1) := by decide +kernel
theorem d2_1 : decode prog_29_method_2_code 1 = .ok (.iconst 1, 1) := by decide +kernel
theorem d2_2 : decode prog_29_method_2_code 2 = .ok (.if_icmp .ge 17, 3) := by decide +kernel
theorem d2_19 : decode prog_29_method_2_code 19 = .ok (.new 8, 3) := by decide +kernel
theorem d2_22 : decode prog_29_method_2_code 22 = .ok (.dup, 1) := by decide +kernel
theorem d2_23 : decode prog_29_method_2_code 23 = .ok (.iload_n 0, 1) := by decide +kernel
theorem d2_24 : decode prog_29_method_2_code 24 = .ok (.invokespecial 22, 3) := by decide +kernel
theorem d2_27 : decode prog_29_method_2_code 27 = .ok (.areturn, 1) := by decide +kernel
theorem ef_2 (m : MethodId) (p1 : Int32) : entryFrame m #[(.int p1)] 1 = mkF m 0 #[.val (.int p1)] [] := by first | (simp [entryFrame, mkF, argsToLocals, Value.category]; done) | rfl
set_option maxRecDepth 65536 in
set_option maxHeartbeats 40000000 in
theorem rm2 (l : Launch) (Z : State) (a0 : Array Value) (hw : ∀ d ∈ tables_1, d.before a0 Z = true) (ws : List Jvm.Cond) (p1 : Int32) (h0 : Heap) (n0 : Nat) (Z0 : n0 ≤ h0.size) (hp1 : ¬ p1 < (1 : Int32)) :
    own_Ct l Z (⟨"com/example/ringwalk/ringwalk/layout/Ringwalk1", "withPoints", "(I)Lcom/example/ringwalk/ringwalk/layout/Ringwalk1;"⟩ : MethodName) prog_29_method_2_code 1 (some (.object "com/example/ringwalk/ringwalk/layout/Ringwalk1")) ws ({ frames := 2, cells := 1, slots := 1, locals := 27 } : Room) #[(.int p1)] h0 (fun v h L => ∃ b : Addr, v = some (.ref b) ∧ n0 ≤ b ∧ h0.size ≤ b ∧ Fr n0 L ∧ Keep h0 h [] ∧ Exa Z h b "com/example/ringwalk/ringwalk/layout/Ringwalk1" ∧ Fld Z h b "com/example/ringwalk/ringwalk/layout/Ringwalk1" "pointsPerNode" "I" (.int p1)) ({ frames := 2, cells := 1, slots := 1, locals := 27 } : Room).cells ({ frames := 2, cells := 1, slots := 1, locals := 27 } : Room).slots := by
  refine own_met (plainFor_of_name pn_com_example_ringwalk_ringwalk_layout_Ringwalk1) (fun p e s m below meth c s₁ X0 hx hby hml hret hlk hnm hown hZ e0 => ?_)
  have hml : c.maxLocals = 1 := hml
  have N0 := Fr.nil n0
  refine own_st (fun _ k => castTop (ef_2 m p1) k) ?_
  show own_Goes p e below (s₁.setTop (mkF m 0 #[.val (.int p1)] [])) _
  refine own_st (fun _ k => XS.iloadN X0.here hx rfl (hb hby d2_0) rfl k) ?_
  show own_Goes p e below (s₁.setTop (mkF m 1 #[.val (.int p1)] [(.int p1)])) _
  refine own_st (fun _ k => XS.iconst X0.here hx rfl (hb hby d2_1) k) ?_
  show own_Goes p e below (s₁.setTop (mkF m 2 #[.val (.int p1)] [(.int (1 : Int32)), (.int p1)])) _
  refine own_st (fun _ k => XS.icmpYes X0.here hx rfl (pc0 := 2) (pc' := 19) rfl (hb hby d2_2) rfl (flt hp1).2.1 (by decide) (by decide) k) ?_
  show own_Goes p e below (s₁.setTop (mkF m 19 #[.val (.int p1)] [])) _
  obtain ⟨T1, h1, X1, e1, E1, A1, D1, -, st1⟩ := newO X0 hx hZ hown (hw _ (List.mem_of_getElem? (i := 9) rfl)) (hw _ (List.mem_of_getElem? (i := 10) rfl)) (hw _ (List.mem_of_getElem? (i := 7) rfl)) e0 (g := (mkF m 19 #[.val (.int p1)] [])) rfl (hb hby d2_19) (by decide) (by decide)
  obtain ⟨b1, g1⟩ : ∃ z, z = h0.size := ⟨_, rfl⟩
  rw [← g1] at A1 D1 st1
  have g_b1 : n0 ≤ b1 := Nat.le_trans Z0 (Nat.le_of_eq g1.symm)
  have sz_b1 : h0.size ≤ b1 := Nat.le_trans (Keep.refl h0 []).1 (Nat.le_of_eq g1.symm)
  have F_pointsPerNode_b1 : Fld Z h1 b1 "com/example/ringwalk/ringwalk/layout/Ringwalk1" "pointsPerNode" "I" (.int (0 : Int32)) := D1 (Or.inr (hw _ (List.mem_of_getElem? (i := 18) rfl))) (ty := .int) (by decide)
  refine own_st st1 ?_
  show own_Goes p e below (T1.setTop (mkF m 22 #[.val (.int p1)] [(.ref b1)])) _
  refine own_st (fun _ k => XS.dup X1.here hx rfl (hb hby d2_22) rfl rfl k) ?_
  show own_Goes p e below (T1.setTop (mkF m 23 #[.val (.int p1)] [(.ref b1), (.ref b1)])) _
  refine own_st (fun _ k => XS.iloadN X1.here hx rfl (hb hby d2_23) rfl k) ?_
  show own_Goes p e below (T1.setTop (mkF m 24 #[.val (.int p1)] [(.int p1), (.ref b1), (.ref b1)])) _
  have f3 := (Nat.le_trans Z0 E1.1)
  obtain ⟨_, T2, h2, L2, X2, e2, ⟨rfl, N2q, K2, F2⟩, st2⟩ := own_callI (argsL := [(.int p1)]) (rest := [(.ref b1)]) (pc := 24) (W := 1) (Ls := #[.val (.int p1)]) (S := [(.int p1), (.ref b1), (.ref b1)]) X1 hx hZ hown rfl (hw _ (List.mem_of_getElem? (i := 11) rfl)) (hw _ (List.mem_of_getElem? (i := 12) rfl)) (hw _ (List.mem_of_getElem? (i := 7) rfl)) (hw _ (List.mem_of_getElem? (i := 13) rfl)) (by decide) (rm3 l Z a0 hw [] b1 p1 h1 n0 f3 F_pointsPerNode_b1 A1 g_b1) (by decide) (by decide) e1 (by rw [hml]; rfl) (lenOf pd__I_V rfl) rfl (Nat.le_of_eq rfl) (hb hby d2_24) (by decide) (by decide)
  refine own_st st2 ?_
  have N2 := Fr.app N0 N2q
  show own_Goes p e below (T2.setTop (mkF m 27 #[.val (.int p1)] [(.ref b1)])) _
  have f4 := (((Keep.refl h0 []).ext E1).trans K2 (allS (Or.inr sz_b1) all0))
  have f5 := (A1.keep K2)
  exact own_retA X2 hx hlk hret rfl rfl rfl (hb hby d2_27) (by decide) (by decide) e2 ⟨b1, rfl, g_b1, sz_b1, N2, f4, f5, F2⟩
theorem ef_0 (m : MethodId) (p1 : Int32) (p2 : Int32) : entryFrame m #[(.int p1), (.int p2)] maxLocals = mkF m 0 #[.val (.int p1), .val (.int p2), .unset, .unset, .unset, .unset] [] := by first | (simp [entryFrame, mkF, argsToLocals, Value.category, maxLocals]; done) | rfl
set_option maxRecDepth 65536 in
set_option maxHeartbeats 40000000 in
theorem rm0 (l : Launch) (Z : State) (a0 : Array Value) (hw : ∀ d ∈ tables_1, d.before a0 Z = true) (ws : List Jvm.Cond) (p1 p2 : Int32) (al : Addr) (h0 : Heap) (n0 : Nat) (Z0 : n0 ≤ h0.size) (O0 : Old Z n0 h0) (S_al : Sta Z Z.heap "com/example/ringwalk/ringwalk/layout/Ringwalk1" "LAYOUT" "Lcom/example/ringwalk/ringwalk/layout/Ringwalk1;" (.ref al)) (E_al : Exa Z Z.heap al "com/example/ringwalk/ringwalk/layout/Ringwalk1") (F_al : Fld Z Z.heap al "com/example/ringwalk/ringwalk/layout/Ringwalk1" "pointsPerNode" "I" (.int (2500 : Int32))) :
    own_Ct l Z x code maxLocals ret ws room_1 #[(.int p1), (.int p2)] h0 (fun v h L => v = some (.int (1 : Int32)) ∧ Fr n0 L) 2 2 := by
  refine own_met (plainFor_of_name pn_com_example_ringwalk_ringwalk_layout_Ringwalk1WithPointsPinLaw) (fun p e s m below meth c s₁ X0 hx hby hml hret hlk hnm hown hZ e0 => ?_)
  have hml : c.maxLocals = 6 := hml
  have N0 := Fr.nil n0
  refine own_st (fun _ k => castTop (ef_0 m p1 p2) k) ?_
  show own_Goes p e below (s₁.setTop (mkF m 0 #[.val (.int p1), .val (.int p2), .unset, .unset, .unset, .unset] [])) _
  refine own_st (fun _ k => XS.iconst X0.here hx rfl (hb hby at_0) k) ?_
  show own_Goes p e below (s₁.setTop (mkF m 1 #[.val (.int p1), .val (.int p2), .unset, .unset, .unset, .unset] [(.int (1 : Int32))])) _
  refine own_st (fun _ k => XS.iloadN X0.here hx rfl (hb hby at_1) rfl k) ?_
  show own_Goes p e below (s₁.setTop (mkF m 2 #[.val (.int p1), .val (.int p2), .unset, .unset, .unset, .unset] [(.int p1), (.int (1 : Int32))])) _
  refine own_st (X0.ldcInt hx hown (mvT hZ (hw _ (List.mem_of_getElem? (i := 0) rfl))) (g := (mkF m 2 #[.val (.int p1), .val (.int p2), .unset, .unset, .unset, .unset] [(.int p1), (.int (1 : Int32))])) rfl (hb hby at_2)) ?_
  show own_Goes p e below (s₁.setTop (mkF m 4 #[.val (.int p1), .val (.int p2), .unset, .unset, .unset, .unset] [(.int (2147483647 : Int32)), (.int p1), (.int (1 : Int32))])) _
  refine own_st (fun _ k => XS.iand X0.here hx rfl (hb hby at_4) rfl k) ?_
  show own_Goes p e below (s₁.setTop (mkF m 5 #[.val (.int p1), .val (.int p2), .unset, .unset, .unset, .unset] [(.int (p1 &&& (2147483647 : Int32))), (.int (1 : Int32))])) _
  obtain ⟨_, T1, h1, L1, X1, e1, ⟨rfl, rfl, q1⟩, st1⟩ := own_callS (argsL := [(.int (1 : Int32)), (.int (p1 &&& (2147483647 : Int32)))]) (rest := []) (pc := 5) (W := 0) (Ls := #[.val (.int p1), .val (.int p2), .unset, .unset, .unset, .unset]) (S := [(.int (p1 &&& (2147483647 : Int32))), (.int (1 : Int32))]) X0 hx hZ hown (hw _ (List.mem_of_getElem? (i := 1) rfl)) (hw _ (List.mem_of_getElem? (i := 2) rfl)) (hw _ (List.mem_of_getElem? (i := 3) rfl)) (hw _ (List.mem_of_getElem? (i := 4) rfl)) (by decide) (rm4 l Z a0 hw [] (1 : Int32) (p1 &&& (2147483647 : Int32)) h0 n0 Z0) (by decide) (by decide) e0 (by rw [hml]; rfl) (lenOf pd__II_I rfl) rfl (Nat.le_of_eq rfl) (hb hby at_5) (by decide) (by decide)
  refine own_st st1 ?_
  show own_Goes p e below (T1.setTop (mkF m 8 #[.val (.int p1), .val (.int p2), .unset, .unset, .unset, .unset] [(.int (own_max (1 : Int32) (p1 &&& (2147483647 : Int32))))])) _
  obtain ⟨c1, h_c1⟩ : ∃ z, z = (own_max (1 : Int32) (p1 &&& (2147483647 : Int32))) := ⟨_, rfl⟩
  have hp_c1 : ¬ c1 < (1 : Int32) := by rw [h_c1]; exact own_max1 _
  rw [← h_c1]
  show own_Goes p e below (T1.setTop (mkF m 8 #[.val (.int p1), .val (.int p2), .unset, .unset, .unset, .unset] [(.int c1)])) _
  refine own_st (fun _ k => XS.istoreN X1.here hx rfl (hb hby at_8) rfl (l' := #[.val (.int p1), .val (.int p2), .val (.int c1), .unset, .unset, .unset]) rfl k) ?_
  show own_Goes p e below (T1.setTop (mkF m 9 #[.val (.int p1), .val (.int p2), .val (.int c1), .unset, .unset, .unset] [])) _
  refine own_st (fun _ k => XS.iconst X1.here hx rfl (hb hby at_9) k) ?_
  show own_Goes p e below (T1.setTop (mkF m 10 #[.val (.int p1), .val (.int p2), .val (.int c1), .unset, .unset, .unset] [(.int (1 : Int32))])) _
  refine own_st (fun _ k => XS.iloadN X1.here hx rfl (hb hby at_10) rfl k) ?_
  show own_Goes p e below (T1.setTop (mkF m 11 #[.val (.int p1), .val (.int p2), .val (.int c1), .unset, .unset, .unset] [(.int p2), (.int (1 : Int32))])) _
  refine own_st (X1.ldcInt hx hown (mvT hZ (hw _ (List.mem_of_getElem? (i := 0) rfl))) (g := (mkF m 11 #[.val (.int p1), .val (.int p2), .val (.int c1), .unset, .unset, .unset] [(.int p2), (.int (1 : Int32))])) rfl (hb hby at_11)) ?_
  show own_Goes p e below (T1.setTop (mkF m 13 #[.val (.int p1), .val (.int p2), .val (.int c1), .unset, .unset, .unset] [(.int (2147483647 : Int32)), (.int p2), (.int (1 : Int32))])) _
  refine own_st (fun _ k => XS.iand X1.here hx rfl (hb hby at_13) rfl k) ?_
  show own_Goes p e below (T1.setTop (mkF m 14 #[.val (.int p1), .val (.int p2), .val (.int c1), .unset, .unset, .unset] [(.int (p2 &&& (2147483647 : Int32))), (.int (1 : Int32))])) _
  obtain ⟨_, T2, h2, L2, X2, e2, ⟨rfl, rfl, q2⟩, st2⟩ := own_callS (argsL := [(.int (1 : Int32)), (.int (p2 &&& (2147483647 : Int32)))]) (rest := []) (pc := 14) (W := 0) (Ls := #[.val (.int p1), .val (.int p2), .val (.int c1), .unset, .unset, .unset]) (S := [(.int (p2 &&& (2147483647 : Int32))), (.int (1 : Int32))]) X1 hx hZ hown (hw _ (List.mem_of_getElem? (i := 1) rfl)) (hw _ (List.mem_of_getElem? (i := 2) rfl)) (hw _ (List.mem_of_getElem? (i := 3) rfl)) (hw _ (List.mem_of_getElem? (i := 4) rfl)) (by decide) (rm4 l Z a0 hw [] (1 : Int32) (p2 &&& (2147483647 : Int32)) h0 n0 Z0) (by decide) (by decide) (e1.trans q1) (by rw [hml]; rfl) (lenOf pd__II_I rfl) rfl (Nat.le_of_eq rfl) (hb hby at_14) (by decide) (by decide)
  refine own_st st2 ?_
  show own_Goes p e below (T2.setTop (mkF m 17 #[.val (.int p1), .val (.int p2), .val (.int c1), .unset, .unset, .unset] [(.int (own_max (1 : Int32) (p2 &&& (2147483647 : Int32))))])) _
  obtain ⟨c2, h_c2⟩ : ∃ z, z = (own_max (1 : Int32) (p2 &&& (2147483647 : Int32))) := ⟨_, rfl⟩
  have hp_c2 : ¬ c2 < (1 : Int32) := by rw [h_c2]; exact own_max1 _
  rw [← h_c2]
  show own_Goes p e below (T2.setTop (mkF m 17 #[.val (.int p1), .val (.int p2), .val (.int c1), .unset, .unset, .unset] [(.int c2)])) _
  refine own_st (fun _ k => XS.istoreN X2.here hx rfl (hb hby at_17) rfl (l' := #[.val (.int p1), .val (.int p2), .val (.int c1), .val (.int c2), .unset, .unset]) rfl k) ?_
  show own_Goes p e below (T2.setTop (mkF m 18 #[.val (.int p1), .val (.int p2), .val (.int c1), .val (.int c2), .unset, .unset] [])) _
  refine own_st (fun _ k => XS.iloadN X2.here hx rfl (hb hby at_18) rfl k) ?_
  show own_Goes p e below (T2.setTop (mkF m 19 #[.val (.int p1), .val (.int p2), .val (.int c1), .val (.int c2), .unset, .unset] [(.int c1)])) _
  obtain ⟨_, T3, h3, L3, X3, e3, ⟨b3, rfl, gb3, sb3, N3q, K3, A3, F3⟩, st3⟩ := own_callS (argsL := [(.int c1)]) (rest := []) (pc := 19) (W := 0) (Ls := #[.val (.int p1), .val (.int p2), .val (.int c1), .val (.int c2), .unset, .unset]) (S := [(.int c1)]) X2 hx hZ hown (hw _ (List.mem_of_getElem? (i := 5) rfl)) (hw _ (List.mem_of_getElem? (i := 6) rfl)) (hw _ (List.mem_of_getElem? (i := 7) rfl)) (hw _ (List.mem_of_getElem? (i := 8) rfl)) (by decide) (rm2 l Z a0 hw [] c1 h0 n0 Z0 hp_c1) (by decide) (by decide) (e2.trans q2) (by rw [hml]; rfl) (lenOf pd__I_Lcom_example_ringwalk_ringwalk_layout_Ringwalk1_ rfl) rfl (Nat.le_of_eq rfl) (hb hby at_19) (by decide) (by decide)
  refine own_st st3 ?_
  have N3 := Fr.app N0 N3q
  show own_Goes p e below (T3.setTop (mkF m 22 #[.val (.int p1), .val (.int p2), .val (.int c1), .val (.int c2), .unset, .unset] [(.ref b3)])) _
  refine own_st (fun _ k => XS.astore X3.here hx rfl (hb hby at_22) rfl rfl (l' := #[.val (.int p1), .val (.int p2), .val (.int c1), .val (.int c2), .val (.ref b3), .unset]) rfl k) ?_
  show own_Goes p e below (T3.setTop (mkF m 24 #[.val (.int p1), .val (.int p2), .val (.int c1), .val (.int c2), .val (.ref b3), .unset] [])) _
  refine own_st (fun _ k => XS.iloadN X3.here hx rfl (hb hby at_24) rfl k) ?_
  show own_Goes p e below (T3.setTop (mkF m 25 #[.val (.int p1), .val (.int p2), .val (.int c1), .val (.int c2), .val (.ref b3), .unset] [(.int c2)])) _
  have f5 := (Nat.le_trans Z0 K3.1)
  obtain ⟨_, T4, h4, L4, X4, e4, ⟨b4, rfl, gb4, sb4, N4q, K4, A4, F4⟩, st4⟩ := own_callS (argsL := [(.int c2)]) (rest := []) (pc := 25) (W := 0) (Ls := #[.val (.int p1), .val (.int p2), .val (.int c1), .val (.int c2), .val (.ref b3), .unset]) (S := [(.int c2)]) X3 hx hZ hown (hw _ (List.mem_of_getElem? (i := 5) rfl)) (hw _ (List.mem_of_getElem? (i := 6) rfl)) (hw _ (List.mem_of_getElem? (i := 7) rfl)) (hw _ (List.mem_of_getElem? (i := 8) rfl)) (by decide) (rm2 l Z a0 hw [] c2 h3 n0 f5 hp_c2) (by decide) (by decide) e3 (by rw [hml]; rfl) (lenOf pd__I_Lcom_example_ringwalk_ringwalk_layout_Ringwalk1_ rfl) rfl (Nat.le_of_eq rfl) (hb hby at_25) (by decide) (by decide)
  refine own_st st4 ?_
  have N4 := Fr.app N3 N4q
  show own_Goes p e below (T4.setTop (mkF m 28 #[.val (.int p1), .val (.int p2), .val (.int c1), .val (.int c2), .val (.ref b3), .unset] [(.ref b4)])) _
  refine own_st (fun _ k => XS.astore X4.here hx rfl (hb hby at_28) rfl rfl (l' := #[.val (.int p1), .val (.int p2), .val (.int c1), .val (.int c2), .val (.ref b3), .val (.ref b4)]) rfl k) ?_
  show own_Goes p e below (T4.setTop (mkF m 30 #[.val (.int p1), .val (.int p2), .val (.int c1), .val (.int c2), .val (.ref b3), .val (.ref b4)] [])) _
  refine own_st (fun _ k => XS.aload X4.here hx rfl (hb hby at_30) rfl rfl k) ?_
  show own_Goes p e below (T4.setTop (mkF m 32 #[.val (.int p1), .val (.int p2), .val (.int c1), .val (.int c2), .val (.ref b3), .val (.ref b4)] [(.ref b3)])) _
  refine own_st (fun _ k => XS.ifnullNo X4.here hx rfl (hb hby at_32) rfl k) ?_
  show own_Goes p e below (T4.setTop (mkF m 35 #[.val (.int p1), .val (.int p2), .val (.int c1), .val (.int c2), .val (.ref b3), .val (.ref b4)] [])) _
  refine own_st (fun _ k => XS.aload X4.here hx rfl (hb hby at_35) rfl rfl k) ?_
  show own_Goes p e below (T4.setTop (mkF m 37 #[.val (.int p1), .val (.int p2), .val (.int c1), .val (.int c2), .val (.ref b3), .val (.ref b4)] [(.ref b4)])) _
  refine own_st (fun _ k => XT.ifnonnullYes X4.here hx rfl (pc0 := 37) (pc' := 42) rfl (hb hby at_37) rfl (by decide) (by decide) k) ?_
  show own_Goes p e below (T4.setTop (mkF m 42 #[.val (.int p1), .val (.int p2), .val (.int c1), .val (.int c2), .val (.ref b3), .val (.ref b4)] [])) _
  refine own_st (fun _ k => XS.aload X4.here hx rfl (hb hby at_42) rfl rfl k) ?_
  show own_Goes p e below (T4.setTop (mkF m 44 #[.val (.int p1), .val (.int p2), .val (.int c1), .val (.int c2), .val (.ref b3), .val (.ref b4)] [(.ref b3)])) _
  have f7 := (F3.keep K4 nin0)
  have f8 := (Nat.le_trans f5 K4.1)
  have f9 := (A3.keep K4)
  obtain ⟨_, T6, h6, L6, X6, e6, ⟨rfl, rfl, q6⟩, st6⟩ := own_callV (argsL := []) (rest := []) (pc := 44) (W := 0) (Ls := #[.val (.int p1), .val (.int p2), .val (.int c1), .val (.int c2), .val (.ref b3), .val (.ref b4)]) (S := [(.ref b3)]) X4 hx hZ hown (hw _ (List.mem_of_getElem? (i := 19) rfl)) (hw _ (List.mem_of_getElem? (i := 20) rfl)) (hw _ (List.mem_of_getElem? (i := 22) rfl)) (hw _ (List.mem_of_getElem? (i := 21) rfl)) (hw _ (List.mem_of_getElem? (i := 7) rfl)) (hw _ (List.mem_of_getElem? (i := 23) rfl)) (notFace_of_selects (args := #[]) (mvT hZ (hw _ (List.mem_of_getElem? (i := 22) rfl)))) (by decide) (rm5 l Z a0 hw [] b3 c1 h4 n0 f8 f7) (by decide) (by decide) e4 f9 (by rw [hml]; rfl) (lenOf pd___I rfl) rfl (Nat.le_of_eq rfl) (hb hby at_44) (by decide) (by decide)
  refine own_st st6 ?_
  have N6 := Fr.app N4 (Fr.nil n0)
  show own_Goes p e below (T6.setTop (mkF m 47 #[.val (.int p1), .val (.int p2), .val (.int c1), .val (.int c2), .val (.ref b3), .val (.ref b4)] [(.int c1)])) _
  refine own_st (fun _ k => XS.iloadN X6.here hx rfl (hb hby at_47) rfl k) ?_
  show own_Goes p e below (T6.setTop (mkF m 48 #[.val (.int p1), .val (.int p2), .val (.int c1), .val (.int c2), .val (.ref b3), .val (.ref b4)] [(.int c1), (.int c1)])) _
  refine own_st (fun _ k => XS.icmpNo X6.here hx rfl (hb hby at_48) rfl (teq (rfl : c1 = c1)).2 k) ?_
  show own_Goes p e below (T6.setTop (mkF m 51 #[.val (.int p1), .val (.int p2), .val (.int c1), .val (.int c2), .val (.ref b3), .val (.ref b4)] [])) _
  refine own_st (fun _ k => XS.aload X6.here hx rfl (hb hby at_51) rfl rfl k) ?_
  show own_Goes p e below (T6.setTop (mkF m 53 #[.val (.int p1), .val (.int p2), .val (.int c1), .val (.int c2), .val (.ref b3), .val (.ref b4)] [(.ref b4)])) _
  obtain ⟨_, T10, h10, L10, X10, e10, ⟨rfl, rfl, q10⟩, st10⟩ := own_callV (argsL := []) (rest := []) (pc := 53) (W := 0) (Ls := #[.val (.int p1), .val (.int p2), .val (.int c1), .val (.int c2), .val (.ref b3), .val (.ref b4)]) (S := [(.ref b4)]) X6 hx hZ hown (hw _ (List.mem_of_getElem? (i := 19) rfl)) (hw _ (List.mem_of_getElem? (i := 20) rfl)) (hw _ (List.mem_of_getElem? (i := 22) rfl)) (hw _ (List.mem_of_getElem? (i := 21) rfl)) (hw _ (List.mem_of_getElem? (i := 7) rfl)) (hw _ (List.mem_of_getElem? (i := 23) rfl)) (notFace_of_selects (args := #[]) (mvT hZ (hw _ (List.mem_of_getElem? (i := 22) rfl)))) (by decide) (rm5 l Z a0 hw [] b4 c2 h4 n0 f8 F4) (by decide) (by decide) (e6.trans q6) A4 (by rw [hml]; rfl) (lenOf pd___I rfl) rfl (Nat.le_of_eq rfl) (hb hby at_53) (by decide) (by decide)
  refine own_st st10 ?_
  have N10 := Fr.app N6 (Fr.nil n0)
  show own_Goes p e below (T10.setTop (mkF m 56 #[.val (.int p1), .val (.int p2), .val (.int c1), .val (.int c2), .val (.ref b3), .val (.ref b4)] [(.int c2)])) _
  refine own_st (fun _ k => XS.iloadN X10.here hx rfl (hb hby at_56) rfl k) ?_
  show own_Goes p e below (T10.setTop (mkF m 57 #[.val (.int p1), .val (.int p2), .val (.int c1), .val (.int c2), .val (.ref b3), .val (.ref b4)] [(.int c2), (.int c2)])) _
  refine own_st (fun _ k => XS.icmpNo X10.here hx rfl (hb hby at_57) rfl (teq (rfl : c2 = c2)).2 k) ?_
  show own_Goes p e below (T10.setTop (mkF m 60 #[.val (.int p1), .val (.int p2), .val (.int c1), .val (.int c2), .val (.ref b3), .val (.ref b4)] [])) _
  have f11 := ((O0.keep K3 all0).keep K4 all0)
  obtain ⟨T12, X12, e12, st12⟩ := getS2 X10 hx hZ hown (host := "") (Or.inl (hw _ (List.mem_of_getElem? (i := 24) rfl))) Via.refl (e10.trans q10) (S_al.ext f11.2) (g := (mkF m 60 #[.val (.int p1), .val (.int p2), .val (.int c1), .val (.int c2), .val (.ref b3), .val (.ref b4)] [])) rfl (hb hby at_60)
  refine own_st st12 ?_
  show own_Goes p e below (T12.setTop (mkF m 63 #[.val (.int p1), .val (.int p2), .val (.int c1), .val (.int c2), .val (.ref b3), .val (.ref b4)] [(.ref al)])) _
  obtain ⟨_, T13, h13, L13, X13, e13, ⟨rfl, rfl, q13⟩, st13⟩ := own_callV (argsL := []) (rest := []) (pc := 63) (W := 0) (Ls := #[.val (.int p1), .val (.int p2), .val (.int c1), .val (.int c2), .val (.ref b3), .val (.ref b4)]) (S := [(.ref al)]) X12 hx hZ hown (hw _ (List.mem_of_getElem? (i := 19) rfl)) (hw _ (List.mem_of_getElem? (i := 20) rfl)) (hw _ (List.mem_of_getElem? (i := 22) rfl)) (hw _ (List.mem_of_getElem? (i := 21) rfl)) (hw _ (List.mem_of_getElem? (i := 7) rfl)) (hw _ (List.mem_of_getElem? (i := 23) rfl)) (notFace_of_selects (args := #[]) (mvT hZ (hw _ (List.mem_of_getElem? (i := 22) rfl)))) (by decide) (rm5 l Z a0 hw [] al (2500 : Int32) h4 n0 f8 (F_al.ext f11.2)) (by decide) (by decide) e12 (E_al.ext f11.2) (by rw [hml]; rfl) (lenOf pd___I rfl) rfl (Nat.le_of_eq rfl) (hb hby at_63) (by decide) (by decide)
  refine own_st st13 ?_
  have N13 := Fr.app N10 (Fr.nil n0)
  show own_Goes p e below (T13.setTop (mkF m 66 #[.val (.int p1), .val (.int p2), .val (.int c1), .val (.int c2), .val (.ref b3), .val (.ref b4)] [(.int (2500 : Int32))])) _
  refine own_st (fun _ k => XS.sipush X13.here hx rfl (hb hby at_66) k) ?_
  show own_Goes p e below (T13.setTop (mkF m 69 #[.val (.int p1), .val (.int p2), .val (.int c1), .val (.int c2), .val (.ref b3), .val (.ref b4)] [(.int (2500 : Int32)), (.int (2500 : Int32))])) _
  refine own_st (fun _ k => XS.icmpNo X13.here hx rfl (hb hby at_69) rfl (teq (by decide : (2500 : Int32) = (2500 : Int32))).2 k) ?_
  show own_Goes p e below (T13.setTop (mkF m 72 #[.val (.int p1), .val (.int p2), .val (.int c1), .val (.int c2), .val (.ref b3), .val (.ref b4)] [])) _
  refine own_st (fun _ k => XS.iconst X13.here hx rfl (hb hby at_72) k) ?_
  show own_Goes p e below (T13.setTop (mkF m 73 #[.val (.int p1), .val (.int p2), .val (.int c1), .val (.int c2), .val (.ref b3), .val (.ref b4)] [(.int (1 : Int32))])) _
  refine own_st (fun _ k => XS.goto X13.here hx rfl (pc0 := 73) (pc' := 77) rfl (hb hby at_73) (by decide) (by decide) k) ?_
  show own_Goes p e below (T13.setTop (mkF m 77 #[.val (.int p1), .val (.int p2), .val (.int c1), .val (.int c2), .val (.ref b3), .val (.ref b4)] [(.int (1 : Int32))])) _
  exact own_retN (t := .boolean) (z' := (1 : Int32)) X13 hx hlk hret (by simp) (by decide) (hb hby at_77) (by decide) (by decide) (e13.trans q13) ⟨rfl, N13⟩
set_option maxRecDepth 65536 in
set_option maxHeartbeats 40000000 in
theorem comes_1 {Post : Tables → Env → Array Value → State → Outcome → State → Prop} (hpost : ∀ tb e args s v u, (limb_1_1.after args s (.returned v) u = true ∧ limb_1_2.after args s (.returned v) u = true ∧ True) → FrameEnd s (.returned v) u (Jvm.fieldLocs frame_1_writes args s ++ Jvm.arrayLocs frame_1_arrays args s ++ Jvm.staticLocs frame_1_statics s) 16 128 → Post tb e args s (.returned v) u) :
    ArmFor flags0 classFile x code maxLocals ret World_1 tables_1 room_1 Calls_1 rest_1 Pre_1 Post := by
  intro l hfl _ _ p e ha hc hk s m args below hf hA hF happ hP
  obtain ⟨hcalls, hrest, hpre⟩ := hP
  obtain ⟨-, -, -, hnamed, -, -, -, hat⟩ := (Spec.applies_iff hf).mp happ
  obtain ⟨hg, hn⟩ := and_e (Cond.before_iff.mp (show (Jvm.Cond.and given_1 narrow_1).before args s = true from hpre))
  obtain ⟨hcount, g0⟩ := and_e hg
  obtain ⟨q0, g1⟩ := and_e g0
  have q1 := g1
  obtain ⟨w0, w1, rfl⟩ : ∃ w0 w1 : Value, args = #[w0, w1] := by
    have hs : args.size = 2 := by simpa [Cond.value, given_1] using hcount
    obtain ⟨L⟩ := args
    match L, hs with
    | [w0, w1], _ => exact ⟨w0, w1, rfl⟩
  obtain ⟨i0, ei0⟩ := is_v q0
  obtain rfl : w0 = (.int i0) := Option.some.inj ei0
  obtain ⟨i1, ei1⟩ := is_v q1
  obtain rfl : w1 = (.int i1) := Option.some.inj ei1
  have hw := fun d (hd : d ∈ tables_1) => atoms_spec (ws := Jvm.Cond.code x code maxLocals ret :: tables_1) hat d (List.mem_cons_of_mem _ hd)
  have hfit : Fit s := fun {y c} hc i hi => by
    obtain ⟨ha, rfl⟩ := Array.getElem?_eq_some_iff.mp hc
    have q := List.all_eq_true.mp ((Array.all_eq_true_iff_forall_mem.mp hF) _ (Array.getElem_mem ha)) i (List.mem_range.mpr hi)
    simpa [Array.getElem?_eq_getElem hi] using q
  obtain ⟨x_al, y_al⟩ := and_e hn
  obtain ⟨al, v_al⟩ := exa_v x_al
  have S_al := Sta.start v_al (Or.inr ⟨(hw _ (List.mem_of_getElem? (i := 7) rfl)), (hw _ (List.mem_of_getElem? (i := 25) rfl))⟩)
  have E_al := Exa.start v_al x_al
  have F_al := Fld.start ((fld_at v_al).symm.trans (own_eqI y_al))
  obtain ⟨n, o, h1, h2, h3, _, L, rfl, ⟨rfl, N⟩, hq⟩ := rm0 l s _ hw tables_1 i0 i1 al s.heap s.heap.size (Nat.le_refl _) (Old.start s) S_al E_al F_al p e ha hc hk s m _ below hf ((Spec.applies_iff_loose hf).mp happ).1 ⟨rfl, State.Warmed39.refl s, rfl⟩ trivial
  refine ⟨n, _, h1, h2, h3, hpost _ _ _ _ _ _ ⟨Cond.after_iff.mpr rfl, Cond.after_iff.mpr (eq_i res_at (Term.int_eval (1)) rfl), trivial⟩ ⟨hq.1, hq.2.1, (hq.2.2.sift fun y hy => Or.inr (N y hy)).mono (by decide) (by decide)⟩⟩
theorem main_1_1 : Claimed_1_1 := comes_1 fun _ _ _ _ _ _ h hF => ⟨h.1, hF⟩
theorem main_1_2 : Claimed_1_2 := comes_1 fun _ _ _ _ _ _ h hF => ⟨h.2.1, hF⟩
end Jvm.Pilot.@@N@@
namespace Jvm.Pilot.@@N@@
open Jvm Jvm.ClassFile Sem Op Lib Jvm.Free Jvm.Stand Jvm.Pilot.@@N@@.Jvm.D
/-! MADE BY PROGRAM (witnessworld.py) out of the Statement's table words and the real class files: 11 classes; the members and pool entries that the words name. The judged class is class 1, her method 1. -/
namespace start1
open Jvm.ClassFile
def u (s : String) : CpInfo := .utf8 (stringToUtf16 s)
/-- a pool by its gaps: so many unusable entries, then the entry; so many at the end -/
def gap : Nat → List CpInfo → List CpInfo
  | 0, r => r
  | n + 1, r => .unusable :: gap n r
def poolList (es : List (Nat × CpInfo)) (last : Nat) : List CpInfo := es.foldr (fun e r => gap e.1 (e.2 :: r)) (gap last [])
def pool (es : List (Nat × CpInfo)) (last : Nat) : Array CpInfo := ⟨poolList es last⟩
def fileOf (pool : Array CpInfo) (this : Nat) (attrs : Array Attribute := #[]) (ms : Array MethodInfo := #[]) (fl : Nat := 33) (sup : Nat := 0) (ifs : Array Nat := #[]) (fds : Array FieldInfo := #[]) : ClassFile where
  minorVersion := 0
  majorVersion := 65
  constantPool := pool
  accessFlags := fl
  thisClass := this
  superClass := sup
  interfaces := ifs
  fields := fds
  methods := ms
  attributes := attrs
def plain (name : String) (sup : Option ClassId) : Class where
  name := name
  kind := .ordinary
  loader := none
  accessFlags := 33
  super := sup
  interfaces := #[]
  cf := none
  fields := #[]
  methods := #[]
  instanceTypes := #[]
  staticTypes := #[]
  resolved := #[]
  callSites := []
  init := .initialized
  statics := none
  mirror := none

def pool0 : Array CpInfo := pool [(5, u "<init>"), (0, u "()V"), (1, .class_ 10), (1, u "java/lang/Object")] 113

def k0c0 : Code := { maxStack := 0, maxLocals := 1, code := object_method_1_code, exceptionTable := #[], attributes := #[] }
def k0m0 : Method := { name := "<init>", desc := "()V", sig := { parameters := [], returnType := none }, accessFlags := 1, code := some k0c0 }
/-- java/lang/Object -/
def k0 : Class := { plain "java/lang/Object" none with
  accessFlags := 33
  interfaces := #[]
  cf := some (fileOf pool0 8 #[] #[{ accessFlags := 1, nameIndex := 5, descriptorIndex := 6, attributes := #[] }] 33 0 #[] #[])
  fields := #[]
  methods := #[k0m0]
  instanceTypes := #[]
  staticTypes := #[]
  resolved := Array.replicate 124 none
  statics := none }

def pool1 : Array CpInfo := pool [(2, .class_ 4), (1, u "java/lang/Object"), (0, u "<init>"), (0, u "()V"), (0, .integer 2147483647), (0, .methodref 9 10), (0, .class_ 11), (0, .nameAndType 12 13), (0, u "java/lang/Math"), (0, u "max"), (0, u "(II)I"), (0, .methodref 15 16), (0, .class_ 17), (0, .nameAndType 18 19), (0, u "com/example/ringwalk/ringwalk/layout/Ringwalk1"), (0, u "withPoints"), (0, u "(I)Lcom/example/ringwalk/ringwalk/layout/Ringwalk1;"), (0, .methodref 15 21), (0, .nameAndType 22 23), (0, u "pointsPerNode"), (0, u "()I"), (0, .fieldref 15 25), (0, .nameAndType 26 27), (0, u "LAYOUT"), (0, u "Lcom/example/ringwalk/ringwalk/layout/Ringwalk1;"), (0, .class_ 29), (0, u "com/example/ringwalk/ringwalk/layout/Ringwalk1WithPointsPinLaw"), (2, u "law"), (0, u "(II)Z")] 3

def k1m0 : Method := { name := "<init>", desc := "()V", sig := { parameters := [], returnType := none }, accessFlags := 2, code := none }
def k1c1 : Code := { maxStack := 3, maxLocals := 6, code := code, exceptionTable := #[], attributes := #[] }
def k1m1 : Method := { name := "law", desc := "(II)Z", sig := { parameters := [.int, .int], returnType := some .boolean }, accessFlags := 9, code := some k1c1 }
/-- com/example/ringwalk/ringwalk/layout/Ringwalk1WithPointsPinLaw -/
def k1 : Class := { plain "com/example/ringwalk/ringwalk/layout/Ringwalk1WithPointsPinLaw" (some 0) with
  accessFlags := 49
  interfaces := #[]
  cf := some (fileOf pool1 28 #[] #[{ accessFlags := 2, nameIndex := 5, descriptorIndex := 6, attributes := #[] }, { accessFlags := 9, nameIndex := 32, descriptorIndex := 33, attributes := #[] }] 49 2 #[] #[])
  fields := #[]
  methods := #[k1m0, k1m1]
  instanceTypes := #[]
  staticTypes := #[]
  resolved := Array.replicate 37 none
  statics := none }

def pool2 : Array CpInfo := pool [(1, .class_ 2), (0, u "java/lang/Math"), (1, .class_ 6), (1, u "java/lang/Object"), (0, u "<init>"), (0, u "()V"), (89, .class_ 100), (1, u "java/lang/Math$RandomNumberGeneratorHolder"), (71, u "negativeZeroFloatBits"), (0, u "J"), (2, u "negativeZeroDoubleBits"), (21, u "max"), (46, u "$assertionsDisabled"), (0, u "Z"), (88, u "(II)I"), (2, u "twoToTheDoubleScaleDown"), (0, u "D"), (4, u "twoToTheDoubleScaleUp"), (9, u "E"), (3, u "PI"), (2, u "TAU"), (2, u "DEGREES_TO_RADIANS"), (0, u "RADIANS_TO_DEGREES")] 94

def k2m0 : Method := { name := "<init>", desc := "()V", sig := { parameters := [], returnType := none }, accessFlags := 2, code := none }
def k2c1 : Code := { maxStack := 2, maxLocals := 2, code := jdk_29_method_65_code, exceptionTable := #[], attributes := #[] }
def k2m1 : Method := { name := "max", desc := "(II)I", sig := { parameters := [.int, .int], returnType := some .int }, accessFlags := 9, code := some k2c1 }
/-- java/lang/Math -/
def k2 : Class := { plain "java/lang/Math" (some 0) with
  accessFlags := 49
  interfaces := #[]
  cf := some (fileOf pool2 1 #[.nestMembers #[98]] #[{ accessFlags := 2, nameIndex := 7, descriptorIndex := 8, attributes := #[] }, { accessFlags := 9, nameIndex := 198, descriptorIndex := 335, attributes := #[] }] 49 4 #[] #[{ accessFlags := 25, nameIndex := 354, descriptorIndex := 339, attributes := #[] }, { accessFlags := 25, nameIndex := 358, descriptorIndex := 339, attributes := #[] }, { accessFlags := 25, nameIndex := 361, descriptorIndex := 339, attributes := #[] }, { accessFlags := 26, nameIndex := 364, descriptorIndex := 339, attributes := #[] }, { accessFlags := 26, nameIndex := 365, descriptorIndex := 339, attributes := #[] }, { accessFlags := 26, nameIndex := 172, descriptorIndex := 173, attributes := #[] }, { accessFlags := 26, nameIndex := 176, descriptorIndex := 173, attributes := #[] }, { accessFlags := 8, nameIndex := 344, descriptorIndex := 339, attributes := #[] }, { accessFlags := 8, nameIndex := 338, descriptorIndex := 339, attributes := #[] }, { accessFlags := 4120, nameIndex := 245, descriptorIndex := 246, attributes := #[] }])
  fields := #[{ name := "E", type := .double, accessFlags := 25, slot := 0, constantValue := 0 }, { name := "PI", type := .double, accessFlags := 25, slot := 1, constantValue := 0 }, { name := "TAU", type := .double, accessFlags := 25, slot := 2, constantValue := 0 }, { name := "DEGREES_TO_RADIANS", type := .double, accessFlags := 26, slot := 3, constantValue := 0 }, { name := "RADIANS_TO_DEGREES", type := .double, accessFlags := 26, slot := 4, constantValue := 0 }, { name := "negativeZeroFloatBits", type := .long, accessFlags := 26, slot := 5, constantValue := 0 }, { name := "negativeZeroDoubleBits", type := .long, accessFlags := 26, slot := 6, constantValue := 0 }, { name := "twoToTheDoubleScaleUp", type := .double, accessFlags := 8, slot := 7, constantValue := 0 }, { name := "twoToTheDoubleScaleDown", type := .double, accessFlags := 8, slot := 8, constantValue := 0 }, { name := "$assertionsDisabled", type := .boolean, accessFlags := 4120, slot := 9, constantValue := 0 }]
  methods := #[k2m0, k2m1]
  instanceTypes := #[]
  staticTypes := #[.double, .double, .double, .double, .double, .long, .long, .double, .double, .boolean]
  resolved := Array.replicate 460 none
  statics := none }

def pool3 : Array CpInfo := pool [(1, .class_ 2), (0, u "com/example/ringwalk/ringwalk/layout/Layout"), (0, .class_ 4), (0, u "java/lang/Object")] 8

/-- com/example/ringwalk/ringwalk/layout/Layout -/
def k3 : Class := { plain "com/example/ringwalk/ringwalk/layout/Layout" (some 0) with
  accessFlags := 1537
  interfaces := #[]
  cf := some (fileOf pool3 1 #[] #[] 1537 3 #[] #[])
  fields := #[]
  methods := #[]
  instanceTypes := #[]
  staticTypes := #[]
  resolved := Array.replicate 13 none
  statics := none }

def pool4 : Array CpInfo := pool [(1, .methodref 2 3), (0, .class_ 4), (0, .nameAndType 5 6), (0, u "java/lang/Object"), (0, u "<init>"), (0, u "()V"), (0, .fieldref 8 9), (0, .class_ 10), (0, .nameAndType 11 12), (0, u "com/example/ringwalk/ringwalk/layout/Ringwalk1"), (0, u "pointsPerNode"), (0, u "I"), (9, .methodref 8 23), (0, .nameAndType 5 24), (0, u "(I)V"), (25, u "LAYOUT"), (0, u "Lcom/example/ringwalk/ringwalk/layout/Ringwalk1;"), (0, .class_ 53), (0, u "com/example/ringwalk/ringwalk/layout/Layout"), (0, u "DEFAULT_POINTS"), (4, u "withPoints"), (0, u "(I)Lcom/example/ringwalk/ringwalk/layout/Ringwalk1;"), (1, u "()I")] 27

def k4c0 : Code := { maxStack := 2, maxLocals := 2, code := prog_29_method_1_code, exceptionTable := #[], attributes := #[] }
def k4m0 : Method := { name := "<init>", desc := "(I)V", sig := { parameters := [.int], returnType := none }, accessFlags := 2, code := some k4c0 }
def k4c1 : Code := { maxStack := 3, maxLocals := 1, code := prog_29_method_2_code, exceptionTable := #[], attributes := #[] }
def k4m1 : Method := { name := "withPoints", desc := "(I)Lcom/example/ringwalk/ringwalk/layout/Ringwalk1;", sig := { parameters := [.int], returnType := some (.object "com/example/ringwalk/ringwalk/layout/Ringwalk1") }, accessFlags := 9, code := some k4c1 }
def k4c2 : Code := { maxStack := 1, maxLocals := 1, code := prog_29_method_3_code, exceptionTable := #[], attributes := #[] }
def k4m2 : Method := { name := "pointsPerNode", desc := "()I", sig := { parameters := [], returnType := some .int }, accessFlags := 1, code := some k4c2 }
/-- com/example/ringwalk/ringwalk/layout/Ringwalk1 -/
def k4 : Class := { plain "com/example/ringwalk/ringwalk/layout/Ringwalk1" (some 0) with
  accessFlags := 49
  interfaces := #[3]
  cf := some (fileOf pool4 8 #[] #[{ accessFlags := 2, nameIndex := 5, descriptorIndex := 24, attributes := #[] }, { accessFlags := 9, nameIndex := 59, descriptorIndex := 60, attributes := #[] }, { accessFlags := 1, nameIndex := 11, descriptorIndex := 62, attributes := #[] }] 49 2 #[52] #[{ accessFlags := 26, nameIndex := 54, descriptorIndex := 12, attributes := #[] }, { accessFlags := 25, nameIndex := 50, descriptorIndex := 51, attributes := #[] }, { accessFlags := 18, nameIndex := 11, descriptorIndex := 12, attributes := #[] }])
  fields := #[{ name := "DEFAULT_POINTS", type := .int, accessFlags := 26, slot := 0, constantValue := 0 }, { name := "LAYOUT", type := (.object "com/example/ringwalk/ringwalk/layout/Ringwalk1"), accessFlags := 25, slot := 1, constantValue := 0 }, { name := "pointsPerNode", type := .int, accessFlags := 18, slot := 0, constantValue := 0 }]
  methods := #[k4m0, k4m1, k4m2]
  instanceTypes := #[.int]
  staticTypes := #[.int, (.object "com/example/ringwalk/ringwalk/layout/Ringwalk1")]
  resolved := Array.replicate 90 none
  statics := some 0 }

def pool5 : Array CpInfo := pool [(1, u "java/lang/Cloneable"), (0, .class_ 1), (0, u "java/lang/Object"), (0, .class_ 3)] 3

/-- java/lang/Cloneable -/
def k5 : Class := { plain "java/lang/Cloneable" (some 0) with
  accessFlags := 1537
  interfaces := #[]
  cf := some (fileOf pool5 2 #[] #[] 1537 4 #[] #[])
  fields := #[]
  methods := #[]
  instanceTypes := #[]
  staticTypes := #[]
  resolved := Array.replicate 8 none
  statics := none }

def pool6 : Array CpInfo := pool [(1, u "java/io/Serializable"), (0, .class_ 1), (0, u "java/lang/Object"), (0, .class_ 3)] 3

/-- java/io/Serializable -/
def k6 : Class := { plain "java/io/Serializable" (some 0) with
  accessFlags := 1537
  interfaces := #[]
  cf := some (fileOf pool6 2 #[] #[] 1537 4 #[] #[])
  fields := #[]
  methods := #[]
  instanceTypes := #[]
  staticTypes := #[]
  resolved := Array.replicate 8 none
  statics := none }

/-- the primitive byte -/
def k7 : Class := { plain "byte" none with kind := .primitive 'B', accessFlags := 0x411 }
/-- [B -/
def k8 : Class := { plain "[B" (some 0) with kind := .array 7 .byte, interfaces := #[5, 6], accessFlags := 1041 }

/-- the primitive int -/
def k9 : Class := { plain "int" none with kind := .primitive 'I', accessFlags := 0x411 }
/-- [I -/
def k10 : Class := { plain "[I" (some 0) with kind := .array 9 .int, interfaces := #[5, 6], accessFlags := 1041 }

def heap : Heap := #[{ cls := 4, slots := #[.int 0, .ref 1], vm := .statics 4 },
  { cls := 4, slots := #[.int 2500], vm := .none }]
def classes : Array Class := #[k0, k1, k2, k3, k4, k5, k6, k7, k8, k9, k10]
def interned : List (Array UInt16 × Addr) := []
def slotsUsed : Nat := 3
def theMethod : MethodId := ⟨1, 1⟩
def args0 : Array Value := #[.int 5, .int 7]
def aboutOver (below : List Frame) : State where
  vm := { classes := classes, interned := interned.toArray }
  heap := heap
  slotsUsed := slotsUsed
  threads := #[{ frames := .invoking theMethod args0 :: below }]
def below0 : List Frame := [.native { method := ⟨0, 0⟩, args := #[] }]
def about1 : State := aboutOver below0
def p0 : Program := .bare "" "" ""
def e0 : Env := launch0.env 0 0 0
theorem w_frames : about1.frames = Frame.invoking theMethod args0 :: below0 := rfl
set_option maxRecDepth 65536 in
theorem w_args : argsFit about1.vm theMethod args0 = true := by decide +kernel
set_option maxRecDepth 65536 in
theorem w_heap : heapFits about1 = true := by decide +kernel
set_option maxRecDepth 65536 in
theorem w_runnable : about1.curStatus? = some .runnable := by decide +kernel
set_option maxRecDepth 65536 in
theorem w_alone : about1.alone = true := by decide +kernel
set_option maxRecDepth 65536 in
theorem w_named : about1.methodNamed? x = some theMethod := by decide +kernel
set_option maxRecDepth 65536 in
theorem w_hears : about1.hears theMethod below0 = true := by decide +kernel
set_option maxRecDepth 65536 in
theorem w_ripe : about1.ripe theMethod args0 below0 = true := by decide +kernel
theorem w_running : about1.status = .running := rfl
set_option maxRecDepth 65536 in
theorem w_room : about1.hasRoom e0.platform room_1 = true :=
  launch0.hasRoom_least _ room_1 (by decide +kernel) (by decide +kernel) (by decide +kernel) (by decide +kernel) (by decide +kernel) (by decide +kernel)
theorem allAtoms_all (ts : List Jvm.Cond) (a : Array Jvm.Value) (st : Jvm.State) : (allAtoms ts).before a st = ts.all (fun c => c.before a st) := by
  induction ts with
  | nil => rfl
  | cons c t ih =>
    show (Jvm.Cond.and c (allAtoms t)).before a st = _
    rw [Jvm.Cond.before_and, ih, List.all_cons]
def words1 : List Jvm.Cond := Jvm.Cond.code x code maxLocals ret :: tables_1
/-- a 'code' word, met by the world's own term for the bytes: nothing is compared byte by byte -/
theorem code_word {y : MethodName} {bytes : ByteArray} {mx : Nat} {rt : Option FieldType} {a : Array Value} {s : State} {m : MethodId} {meth : Method} {c : Code} (h1 : s.methodNamed? y = some m) (h2 : s.vm.method? m = some meth) (h3 : meth.code = some c) (h4 : c.code = bytes)
    (h5 : (c.maxLocals == mx && c.exceptionTable.isEmpty && decide (c.maxStack ≤ mostOperands) && decide (meth.sig.returnType = rt) && !meth.locks && decide (parseMethodDescriptor y.desc = some meth.sig)) = true) : (Jvm.Cond.code y bytes mx rt).before a s = true := by
  simp only [Bool.and_eq_true, beq_iff_eq, Bool.not_eq_true', decide_eq_true_eq] at h5
  obtain ⟨⟨⟨⟨⟨g1, g2⟩, g3⟩, g4⟩, g5⟩, g6⟩ := h5
  simp [Cond.before, Cond.holds, Cond.value, h1, h2, h3, h4, g1, g2, g3, g4, g5, g6]
def isCode : Jvm.Cond → Bool
  | .code _ _ _ _ => true
  | _ => false
theorem all_split {L : List Jvm.Cond} {P : Jvm.Cond → Bool} (h1 : L.all (fun c => isCode c || P c) = true) (h2 : ∀ c ∈ L.filter isCode, P c = true) : L.all P = true := by
  refine List.all_eq_true.mpr fun c hc => ?_
  have h := List.all_eq_true.mp h1 c hc
  rcases Bool.eq_false_or_eq_true (isCode c) with hi | hi
  · exact h2 c (List.mem_filter.mpr ⟨hc, hi⟩)
  · simpa [hi] using h
set_option maxRecDepth 65536 in
theorem w_c0 : (Jvm.Cond.code x code maxLocals ret).before args0 about1 = true := code_word (m := ⟨1, 1⟩) (meth := k1m1) (c := k1c1) (by decide +kernel) rfl rfl rfl (by decide +kernel)
set_option maxRecDepth 65536 in
theorem w_c1 : (Jvm.Cond.code ({ cls := "java/lang/Math", name := "max", desc := "(II)I" } : Jvm.MethodName) jdk_29_method_65_code (2 : Nat) (Option.some Jvm.ClassFile.FieldType.int)).before args0 about1 = true := code_word (m := ⟨2, 1⟩) (meth := k2m1) (c := k2c1) (by decide +kernel) rfl rfl rfl (by decide +kernel)
set_option maxRecDepth 65536 in
theorem w_c2 : (Jvm.Cond.code ({ cls := "com/example/ringwalk/ringwalk/layout/Ringwalk1", name := "withPoints", desc := "(I)Lcom/example/ringwalk/ringwalk/layout/Ringwalk1;" } : Jvm.MethodName) prog_29_method_2_code (1 : Nat) (Option.some (Jvm.ClassFile.FieldType.object "com/example/ringwalk/ringwalk/layout/Ringwalk1"))).before args0 about1 = true := code_word (m := ⟨4, 1⟩) (meth := k4m1) (c := k4c1) (by decide +kernel) rfl rfl rfl (by decide +kernel)
set_option maxRecDepth 65536 in
theorem w_c3 : (Jvm.Cond.code ({ cls := "com/example/ringwalk/ringwalk/layout/Ringwalk1", name := "<init>", desc := "(I)V" } : Jvm.MethodName) prog_29_method_1_code (2 : Nat) (Option.none : Option Jvm.ClassFile.FieldType)).before args0 about1 = true := code_word (m := ⟨4, 0⟩) (meth := k4m0) (c := k4c0) (by decide +kernel) rfl rfl rfl (by decide +kernel)
set_option maxRecDepth 65536 in
theorem w_c4 : (Jvm.Cond.code ({ cls := "java/lang/Object", name := "<init>", desc := "()V" } : Jvm.MethodName) object_method_1_code (1 : Nat) (Option.none : Option Jvm.ClassFile.FieldType)).before args0 about1 = true := code_word (m := ⟨0, 0⟩) (meth := k0m0) (c := k0c0) (by decide +kernel) rfl rfl rfl (by decide +kernel)
set_option maxRecDepth 65536 in
theorem w_c5 : (Jvm.Cond.code ({ cls := "com/example/ringwalk/ringwalk/layout/Ringwalk1", name := "pointsPerNode", desc := "()I" } : Jvm.MethodName) prog_29_method_3_code (1 : Nat) (Option.some Jvm.ClassFile.FieldType.int)).before args0 about1 = true := code_word (m := ⟨4, 2⟩) (meth := k4m2) (c := k4c2) (by decide +kernel) rfl rfl rfl (by decide +kernel)
def codes1 : List Jvm.Cond := [Jvm.Cond.code x code maxLocals ret, Jvm.Cond.code ({ cls := "java/lang/Math", name := "max", desc := "(II)I" } : Jvm.MethodName) jdk_29_method_65_code (2 : Nat) (Option.some Jvm.ClassFile.FieldType.int), Jvm.Cond.code ({ cls := "com/example/ringwalk/ringwalk/layout/Ringwalk1", name := "withPoints", desc := "(I)Lcom/example/ringwalk/ringwalk/layout/Ringwalk1;" } : Jvm.MethodName) prog_29_method_2_code (1 : Nat) (Option.some (Jvm.ClassFile.FieldType.object "com/example/ringwalk/ringwalk/layout/Ringwalk1")), Jvm.Cond.code ({ cls := "com/example/ringwalk/ringwalk/layout/Ringwalk1", name := "<init>", desc := "(I)V" } : Jvm.MethodName) prog_29_method_1_code (2 : Nat) (Option.none : Option Jvm.ClassFile.FieldType), Jvm.Cond.code ({ cls := "java/lang/Object", name := "<init>", desc := "()V" } : Jvm.MethodName) object_method_1_code (1 : Nat) (Option.none : Option Jvm.ClassFile.FieldType), Jvm.Cond.code ({ cls := "com/example/ringwalk/ringwalk/layout/Ringwalk1", name := "pointsPerNode", desc := "()I" } : Jvm.MethodName) prog_29_method_3_code (1 : Nat) (Option.some Jvm.ClassFile.FieldType.int)]
set_option maxRecDepth 65536 in
theorem codes_eq : words1.filter isCode = codes1 := rfl
theorem w_codes : ∀ c ∈ words1.filter isCode, c.before args0 about1 = true := by
  rw [codes_eq]
  intro c hc
  simp only [codes1, List.mem_cons, List.not_mem_nil, or_false] at hc
  rcases hc with rfl | rfl | rfl | rfl | rfl | rfl
  · exact w_c0
  · exact w_c1
  · exact w_c2
  · exact w_c3
  · exact w_c4
  · exact w_c5
set_option maxRecDepth 65536 in
theorem w_t1 : (words1.take 24).all (fun c => isCode c || c.before args0 about1) = true := by decide +kernel
set_option maxRecDepth 65536 in
theorem w_t2 : (words1.drop 24).all (fun c => isCode c || c.before args0 about1) = true := by decide +kernel
theorem w_tables : (allAtoms (Jvm.Cond.code x code maxLocals ret :: tables_1)).before args0 about1 = true := by
  rw [allAtoms_all]
  show words1.all (fun c => c.before args0 about1) = true
  refine all_split ?_ w_codes
  rw [← List.take_append_drop 24 words1, List.all_append, w_t1, w_t2]
  rfl
set_option maxRecDepth 65536 in
theorem w_case : (Jvm.Cond.and given_1 narrow_1).before args0 about1 = true := by decide +kernel
theorem w_applies : (headSpec (Jvm.Cond.code x code maxLocals ret :: tables_1) room_1).applies x e0.platform about1 = true :=
  (Spec.applies_iff w_frames).mpr ⟨w_running, w_runnable, w_alone, w_named, w_hears, w_ripe, w_room, w_tables⟩
theorem atStart : AtStart classFile x code maxLocals ret World_1 tables_1 room_1 Calls_1 rest_1 Pre_1 launch0 p0 e0 about1 theMethod args0 below0 :=
  ⟨lists_1, trivial, launch0.admits_env _ _ _, launch0.least_env, fairChoices_fair.cas, fairChoices_fair.clock, w_frames, w_args, w_heap, w_applies, trivial, trivial, w_case⟩
end start1
theorem witness_1 : WitnessClaimed_1 := ⟨start1.p0, start1.e0, start1.about1, start1.theMethod, start1.args0, start1.below0, start1.atStart⟩
end Jvm.Pilot.@@N@@
