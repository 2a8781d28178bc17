import JvmDerived
import JvmDerived.Pilot.@@N@@Statement
import JvmDerived.Pilot.@@N@@Code
set_option linter.unusedVariables false
set_option linter.unusedSimpArgs false
namespace Jvm.Pilot.@@N@@
open Jvm Jvm.ClassFile Sem Op Lib Jvm.Free Jvm.Stand Jvm.LawKit Jvm.RoadKit Bundle Jvm.Pilot.@@N@@.Jvm.D
/-! 0. the walk's own layer: a run that comes to its end, step by step -/
def own_Goes (p : Program) (e : Env) (below : List Frame) (A : State) (G : Outcome → State → Prop) : Prop :=
  ∃ s₂ o, Steps p.tables e below A s₂ ∧ s₂.status = .running ∧ Ended s₂ below o ∧ G o s₂
def own_post (s : State) (Q : Option Value → Heap → List Loc → Prop) (rc rs : Nat) : Outcome → State → Prop :=
  fun o U' => ∃ v L, o = .returned v ∧ Q v U'.heap L ∧ FrameEnd s o U' L rc rs
section Own
variable {p : Program} {l : Launch} {e : Env} {R : Room} {s : State} {m : MethodId} {args : Array Value} {below : List Frame} {meth : Method} {c : Code} {T : State} {locs : List Loc} {cells slots : Nat} {G : Outcome → State → Prop} {Q : Option Value → Heap → List Loc → Prop} {rc rs : Nat} {Z : State} {a0 : Array Value} {h : Heap}
theorem own_st {A B : State} (st : ∀ t, Steps p.tables e below B t → Steps p.tables e below A t) (k : own_Goes p e below B G) : own_Goes p e below A G := by
  obtain ⟨s₂, o, h1, h2⟩ := k; exact ⟨s₂, o, st _ h1, h2⟩
theorem own_join {B : State} {K : (Outcome → State → Prop) → Prop} (h1 : K G) (h2 : K G → own_Goes p e below B G) : own_Goes p e below B G := h2 h1
theorem own_ret {S : List Value} {pc : Nat} {Ls : Array Slot} {w : Value} {t : FieldType} (X : Stand p l e R s m args below meth c T locs cells slots) (hlk : meth.locks = false) (hret : meth.sig.returnType = some t)
    (st : ∀ fs, (∀ (f : JFrame) (acts : List Action), f.method = m → f.locked = none → f.entered = [] → (doReturn e (T.setTop f) acts (some w)).1 = T.setFrames fs) → Steps p.tables e below (T.setTop (mkF m pc Ls S)) (T.setFrames fs))
    (hc : cells ≤ rc) (hs : slots ≤ rs) (eT : T.heap = h) (hq : Q (some w) h locs) : own_Goes p e below (T.setTop (mkF m pc Ls S)) (own_post s Q rc rs) := by
  subst eT
  obtain ⟨fs, hr, hrun, hended, hW, hsame⟩ := X.leave (v := some w) (fun h => by rw [hret] at h; cases h) hlk
  exact ⟨_, _, st fs hr, hrun, hended, _, _, rfl, hq, ⟨_, rfl⟩, hW, hsame.mono hc hs⟩
theorem own_retI {rest : List Value} {pc : Nat} {Ls : Array Slot} {z : Int32} (X : Stand p l e R s m args below meth c T locs cells slots) (hx : p.tables.exec = Jvm.exec) (hlk : meth.locks = false) (hret : meth.sig.returnType = some .int) (hd : decode c.code pc = .ok (.ireturn, 1))
    (hc : cells ≤ rc) (hs : slots ≤ rs) (eT : T.heap = h) (hq : Q (some (.int z)) h locs) : own_Goes p e below (T.setTop (mkF m pc Ls (.int z :: rest))) (own_post s Q rc rs) :=
  own_ret X hlk hret (fun fs hr => retOut X hx hret rfl (Or.inl ⟨rfl, Or.inl rfl, z, rfl⟩) hd hr) hc hs eT hq
theorem own_retN {rest : List Value} {pc : Nat} {Ls : Array Slot} {z z' : Int32} {t : FieldType} (X : Stand p l e R s m args below meth c T locs cells slots) (hx : p.tables.exec = Jvm.exec) (hlk : meth.locks = false) (hret : meth.sig.returnType = some t) (ht : t = .boolean ∨ t = .byte ∨ t = .char ∨ t = .short) (hn : nar t z = z') (hd : decode c.code pc = .ok (.ireturn, 1))
    (hc : cells ≤ rc) (hs : slots ≤ rs) (eT : T.heap = h) (hq : Q (some (.int z')) h locs) : own_Goes p e below (T.setTop (mkF m pc Ls (.int z :: rest))) (own_post s Q rc rs) :=
  own_ret X hlk hret (fun fs hr => retN X hx hret ht hd (by rw [hn]; exact hr)) hc hs eT hq
theorem own_retJ {rest : List Value} {pc : Nat} {Ls : Array Slot} {z : Int64} (X : Stand p l e R s m args below meth c T locs cells slots) (hx : p.tables.exec = Jvm.exec) (hlk : meth.locks = false) (hret : meth.sig.returnType = some .long) (hd : decode c.code pc = .ok (.lreturn, 1))
    (hc : cells ≤ rc) (hs : slots ≤ rs) (eT : T.heap = h) (hq : Q (some (.long z)) h locs) : own_Goes p e below (T.setTop (mkF m pc Ls (.long z :: rest))) (own_post s Q rc rs) :=
  own_ret X hlk hret (fun fs hr => retOut X hx hret rfl (Or.inr (Or.inl ⟨rfl, rfl, z, rfl⟩)) hd hr) hc hs eT hq
theorem own_retA {rest : List Value} {pc : Nat} {Ls : Array Slot} {w : Value} {t : FieldType} (X : Stand p l e R s m args below meth c T locs cells slots) (hx : p.tables.exec = Jvm.exec) (hlk : meth.locks = false) (hret : meth.sig.returnType = some t) (ht : t.isReference = true) (hw : w.isRef = true) (hn : narrow t w = w) (hd : decode c.code pc = .ok (.areturn, 1))
    (hc : cells ≤ rc) (hs : slots ≤ rs) (eT : T.heap = h) (hq : Q (some w) h locs) : own_Goes p e below (T.setTop (mkF m pc Ls (w :: rest))) (own_post s Q rc rs) :=
  own_ret X hlk hret (fun fs hr => retOut X hx hret hn (Or.inr (Or.inr (Or.inr (Or.inr ⟨rfl, ht, hw⟩)))) hd hr) hc hs eT hq
theorem own_retV {pc : Nat} {Ls : Array Slot} (X : Stand p l e R s m args below meth c T locs cells slots) (hx : p.tables.exec = Jvm.exec) (hlk : meth.locks = false) (hret : meth.sig.returnType = none) (hd : decode c.code pc = .ok (.return_, 1))
    (hc : cells ≤ rc) (hs : slots ≤ rs) (eT : T.heap = h) (hq : Q none h locs) : own_Goes p e below (T.setTop (mkF m pc Ls [])) (own_post s Q rc rs) := by
  subst eT
  obtain ⟨fs, hr, hrun, hended, hW, hsame⟩ := X.leave (v := none) (fun _ => rfl) hlk
  exact ⟨_, _, X.returnOut hx hret hd hr, hrun, hended, _, _, rfl, hq, ⟨_, rfl⟩, hW, hsame.mono hc hs⟩
/-- what a body's theorem says -/
abbrev own_Ct (l : Launch) (Z : State) (y : MethodName) (bytes : ByteArray) (maxL : Nat) (ret : Option FieldType) (ws : List Jvm.Cond) (rm : Room) (as' : Array Value) (h0 : Heap) (Q : Option Value → Heap → List Loc → Prop) (rc rs : Nat) : Prop :=
  MetFree l y (head1 (Jvm.Cond.code y bytes maxL ret :: ws) rm) (fun a U => a = as' ∧ Z.Warmed39 U.vm ∧ U.heap = h0) (fun _ _ _ _ _ => True) (fun _ U o U' => ∃ v L, o = .returned v ∧ Q v U'.heap L ∧ FrameEnd U o U' L rc rs)
theorem own_met {y : MethodName} {bytes : ByteArray} {maxL : Nat} {ret : Option FieldType} {ws : List Jvm.Cond} {rm : Room} {as' : Array Value} {h0 : Heap} (hp : plainFor y = true)
    (body : ∀ p e s m below meth c s₁, Stand p l e rm s m as' below meth c s₁ [] 0 0 → p.tables.exec = Jvm.exec → c.code = bytes → c.maxLocals = maxL → meth.sig.returnType = ret → meth.locks = false → meth.name = y.name → s.vm.findClass y.cls = some m.cls → Z.Warmed39 s.vm → s₁.heap = h0 →
      own_Goes p e below (s₁.setTop (entryFrame m as' maxL)) (own_post s Q rc rs)) : own_Ct l Z y bytes maxL ret ws rm as' h0 Q rc rs := by
  refine MetFree.of_bodySF hp hisR ?_
  intro p e s m args below meth c s₁ Bd hml0 hP hK
  obtain ⟨rfl, hZ, hh⟩ := hP
  exact body p e s m below meth c s₁ (Stand.of_body Bd) Bd.exec Bd.bytes hml0 Bd.returns Bd.notSynchronized (name_of_methodNamed Bd.named Bd.method).1 (findClass_of_methodNamed Bd.named) hZ (by rw [← hh, Bd.state]; rfl)
theorem own_callS {own : String} {index : Nat} {y : MethodName} {bytes : ByteArray} {maxL : Nat} {ret : Option FieldType} {rm : Room} {argsL rest : List Value} {pc W : Nat} {Ls : Array Slot} (X : Stand p l e R s m args below meth c T locs cells slots) (hx : p.tables.exec = Jvm.exec) (hZ : Z.Warmed39 s.vm) (hown : s.vm.findClass own = some m.cls)
    (w1 : (Jvm.Cond.methodLink own index y).before a0 Z = true) (w2 : (Jvm.Cond.static y).before a0 Z = true) (w3 : (Jvm.Cond.initialized y.cls).before a0 Z = true) (w4 : (Jvm.Cond.code y bytes maxL ret).before a0 Z = true) (hy : y.cls ≠ "java/lang/invoke/MethodHandle" ∧ y.cls ≠ "java/lang/invoke/VarHandle")
    (M : own_Ct l Z y bytes maxL ret [] rm argsL.toArray h Q rm.cells rm.slots) (hf : rm.frames + 1 ≤ R.frames) (hl : W + (maxL + 11) + rm.locals ≤ R.locals) (eT : T.heap = h) (hsize : Ls.size = c.maxLocals)
    (hlen : ∀ sig, parseMethodDescriptor y.desc = some sig → argsL.length = sig.parameters.length) {S : List Value} (hS : S = argsL.reverse ++ rest) (hW : (rest.map fun v => v.category).sum ≤ W) (hd : decode c.code pc = .ok (.invokestatic index, 3)) (hc : cells + rm.cells ≤ R.cells) (hs : slots + rm.slots ≤ R.slots) :
    ∃ v T' h' L, Stand p l e R s m args below meth c T' (locs ++ L) (cells + rm.cells) (slots + rm.slots) ∧ T'.heap = h' ∧ Q v h' L ∧ ∀ t, Steps p.tables e below (T'.setTop (mkF m (pc + 3) Ls (v.toList ++ rest))) t → Steps p.tables e below (T.setTop (mkF m pc Ls S)) t := by
  obtain ⟨v, _, ⟨T4, L4, k4, n4⟩, -, X4, ⟨Lc, hQ, l4, y4, z4⟩, st⟩ := Jvm.LawKit.callS X hx hown (mvT hZ w1) (mvT hZ w2) (mvT hZ w3) (mvT hZ w4) hy (backOf (W := W) M hZ w4 w3 hf hl) (g := mkF m pc Ls S) rfl hsize (argsL := argsL) (rest := rest) hlen hS (by show 2 * 0 + _ ≤ _; omega) hd (fun _ _ => ⟨rfl, eT, hc, hs⟩)
  dsimp only [Pt.U, Pt.locs, Pt.cells, Pt.slots] at X4 l4 y4 z4 st hQ
  subst l4 y4 z4
  exact ⟨v, T4, _, Lc, X4, rfl, hQ, st⟩
theorem own_callV {own C : String} {index : Nat} {y z : MethodName} {bytes : ByteArray} {maxL : Nat} {ret : Option FieldType} {rm : Room} {b : Addr} {argsL rest : List Value} {pc W : Nat} {Ls : Array Slot} (X : Stand p l e R s m args below meth c T locs cells slots) (hx : p.tables.exec = Jvm.exec) (hZ : Z.Warmed39 s.vm) (hown : s.vm.findClass own = some m.cls)
    (w1 : (Jvm.Cond.methodLink own index y).before a0 Z = true) (w2 : (Jvm.Cond.declares y).before a0 Z = true) (w5 : (Jvm.Cond.selects C y z).before a0 Z = true) (w6 : (Jvm.Cond.instanceMethod z).before a0 Z = true) (w3 : (Jvm.Cond.initialized z.cls).before a0 Z = true) (w4 : (Jvm.Cond.code z bytes maxL ret).before a0 Z = true) (hnf : NotFace s y) (hy : y.cls ≠ "java/lang/invoke/MethodHandle" ∧ y.cls ≠ "java/lang/invoke/VarHandle")
    (M : own_Ct l Z z bytes maxL ret [] rm (.ref b :: argsL).toArray h Q rm.cells rm.slots) (hf : rm.frames + 1 ≤ R.frames) (hl : W + (maxL + 11) + rm.locals ≤ R.locals) (eT : T.heap = h) (E : Exa Z h b C) (hsize : Ls.size = c.maxLocals)
    (hlen : ∀ sig, parseMethodDescriptor y.desc = some sig → argsL.length = sig.parameters.length) {S : List Value} (hS : S = argsL.reverse ++ .ref b :: rest) (hW : (rest.map fun v => v.category).sum ≤ W) (hd : decode c.code pc = .ok (.invokevirtual index, 3)) (hc : cells + rm.cells ≤ R.cells) (hs : slots + rm.slots ≤ R.slots) :
    ∃ v T' h' L, Stand p l e R s m args below meth c T' (locs ++ L) (cells + rm.cells) (slots + rm.slots) ∧ T'.heap = h' ∧ Q v h' L ∧ ∀ t, Steps p.tables e below (T'.setTop (mkF m (pc + 3) Ls (v.toList ++ rest))) t → Steps p.tables e below (T.setTop (mkF m pc Ls S)) t := by
  obtain ⟨cq, kq, qa, qb, qc⟩ := isOf hZ eT E
  obtain ⟨v, _, ⟨T4, L4, k4, n4⟩, -, X4, ⟨Lc, hQ, l4, y4, z4⟩, st⟩ := X.virtualBack hx (y := y) (z := z) hown (mvT hZ w1) (mvT hZ w2) hnf (mvT hZ w5) (mvT hZ w6) hy (backOf (W := W) M hZ w4 w3 hf hl) qa qc (g := mkF m pc Ls S) rfl hsize (Steps.refl _) (argsL := argsL) (rest := rest) hlen hS (by show 2 * 0 + _ ≤ _; omega) hd (fun _ _ => ⟨rfl, eT, hc, hs⟩)
  dsimp only [Pt.U, Pt.locs, Pt.cells, Pt.slots] at X4 l4 y4 z4 st hQ
  subst l4 y4 z4
  exact ⟨v, T4, _, Lc, X4, rfl, hQ, fun t k => st.trans k⟩
theorem own_callU {own C owner : String} {index : Nat} {y z : MethodName} {bytes : ByteArray} {maxL : Nat} {ret : Option FieldType} {rm : Room} {b : Addr} {argsL rest : List Value} {pc W : Nat} {Ls : Array Slot} (X : Stand p l e R s m args below meth c T locs cells slots) (hx : p.tables.exec = Jvm.exec) (hZ : Z.Warmed39 s.vm) (hown : s.vm.findClass own = some m.cls)
    (w1 : (Jvm.Cond.methodLink own index y).before a0 Z = true) (w0 : (Jvm.Cond.sameMethod y.cls owner y.name y.desc).before a0 Z = true) (w2 : (Jvm.Cond.declares ⟨owner, y.name, y.desc⟩).before a0 Z = true) (w5 : (Jvm.Cond.selects C y z).before a0 Z = true) (w6 : (Jvm.Cond.instanceMethod z).before a0 Z = true) (w3 : (Jvm.Cond.initialized z.cls).before a0 Z = true) (w4 : (Jvm.Cond.code z bytes maxL ret).before a0 Z = true) (hy : owner ≠ "java/lang/invoke/MethodHandle" ∧ owner ≠ "java/lang/invoke/VarHandle")
    (M : own_Ct l Z z bytes maxL ret [] rm (.ref b :: argsL).toArray h Q rm.cells rm.slots) (hf : rm.frames + 1 ≤ R.frames) (hl : W + (maxL + 11) + rm.locals ≤ R.locals) (eT : T.heap = h) (E : Exa Z h b C) (hsize : Ls.size = c.maxLocals)
    (hlen : ∀ sig, parseMethodDescriptor y.desc = some sig → argsL.length = sig.parameters.length) {S : List Value} (hS : S = argsL.reverse ++ .ref b :: rest) (hW : (rest.map fun v => v.category).sum ≤ W) (hd : decode c.code pc = .ok (.invokevirtual index, 3)) (hc : cells + rm.cells ≤ R.cells) (hs : slots + rm.slots ≤ R.slots) :
    ∃ v T' h' L, Stand p l e R s m args below meth c T' (locs ++ L) (cells + rm.cells) (slots + rm.slots) ∧ T'.heap = h' ∧ Q v h' L ∧ ∀ t, Steps p.tables e below (T'.setTop (mkF m (pc + 3) Ls (v.toList ++ rest))) t → Steps p.tables e below (T.setTop (mkF m pc Ls S)) t := by
  obtain ⟨cq, kq, qa, qb, qc⟩ := isOf hZ eT E
  obtain ⟨v, _, ⟨T4, L4, k4, n4⟩, -, X4, ⟨Lc, hQ, l4, y4, z4⟩, st⟩ := X.virtualBackUp hx (x := y) (y := z) hown (mvT hZ w1) (mvT hZ w0) (mvT hZ w2) hy (mvT hZ w5) (mvT hZ w6) (backOf (W := W) M hZ w4 w3 hf hl) qa qc (g := mkF m pc Ls S) rfl hsize (Steps.refl _) (argsL := argsL) (rest := rest) hlen hS (by show 2 * 0 + _ ≤ _; omega) hd (fun _ _ => ⟨rfl, eT, hc, hs⟩)
  dsimp only [Pt.U, Pt.locs, Pt.cells, Pt.slots] at X4 l4 y4 z4 st hQ
  subst l4 y4 z4
  exact ⟨v, T4, _, Lc, X4, rfl, hQ, fun t k => st.trans k⟩
theorem own_callP {own : String} {index : Nat} {y y' : MethodName} {bytes : ByteArray} {maxL : Nat} {ret : Option FieldType} {rm : Room} {b : Addr} {argsL rest : List Value} {pc W : Nat} {Ls : Array Slot} (X : Stand p l e R s m args below meth c T locs cells slots) (hx : p.tables.exec = Jvm.exec) (hZ : Z.Warmed39 s.vm) (hown : s.vm.findClass own = some m.cls)
    (w1 : (Jvm.Cond.methodLink own index y).before a0 Z = true) (w6 : (Jvm.Cond.instanceMethod y).before a0 Z = true) (w7 : (Jvm.Cond.privateMethod y).before a0 Z = true) (w5 : (Jvm.Cond.selects y.cls y' y').before a0 Z = true) (hy' : y'.cls = y.cls) (w3 : (Jvm.Cond.initialized y.cls).before a0 Z = true) (w4 : (Jvm.Cond.code y bytes maxL ret).before a0 Z = true) (hy : y.cls ≠ "java/lang/invoke/MethodHandle" ∧ y.cls ≠ "java/lang/invoke/VarHandle")
    (M : own_Ct l Z y bytes maxL ret [] rm (.ref b :: argsL).toArray h Q rm.cells rm.slots) (hf : rm.frames + 1 ≤ R.frames) (hl : W + (maxL + 11) + rm.locals ≤ R.locals) (eT : T.heap = h) {C : String} (E : Exa Z h b C) (hsize : Ls.size = c.maxLocals)
    (hlen : ∀ sig, parseMethodDescriptor y.desc = some sig → argsL.length = sig.parameters.length) {S : List Value} (hS : S = argsL.reverse ++ .ref b :: rest) (hW : (rest.map fun v => v.category).sum ≤ W) (hd : decode c.code pc = .ok (.invokevirtual index, 3)) (hc : cells + rm.cells ≤ R.cells) (hs : slots + rm.slots ≤ R.slots) :
    ∃ v T' h' L, Stand p l e R s m args below meth c T' (locs ++ L) (cells + rm.cells) (slots + rm.slots) ∧ T'.heap = h' ∧ Q v h' L ∧ ∀ t, Steps p.tables e below (T'.setTop (mkF m (pc + 3) Ls (v.toList ++ rest))) t → Steps p.tables e below (T.setTop (mkF m pc Ls S)) t := by
  obtain ⟨cq, q1, q2⟩ := E.cell
  have hpv : s.PrivateAt y := Cond.privateMethod_at (mvP hZ w7 (args := #[]))
  have hnf : NotFace s y' := notFace_of_selects (args := #[]) (mvT hZ w5)
  obtain ⟨c2, r2, m2, k1, k2, k3, k4, kP, hkP, hkPi⟩ := Cond.selects_spec (mvT (args := #[]) hZ w5)
  have k5 := findClass_of_methodNamed k3
  rw [hy'] at k5
  obtain ⟨v, _, ⟨T4, L4, k4, n4⟩, -, X4, ⟨Lc, hQ, l4, y4, z4⟩, st⟩ := X.privateBack hx hown (mvT hZ w1) (mvT hZ w6) (selects_self_of_private k5 hkP hkPi hpv (mvT hZ w6) hy) hpv (mvT hZ w4) hy (backOf (W := W) M hZ w4 w3 hf hl) (g := mkF m pc Ls S) rfl hsize (Steps.refl _) (a := b) (by rw [eT]; exact q1) q2 (argsL := argsL) (rest := rest) hlen hS (by show 2 * 0 + _ ≤ _; omega) hd (fun _ _ => ⟨rfl, eT, hc, hs⟩)
  dsimp only [Pt.U, Pt.locs, Pt.cells, Pt.slots] at X4 l4 y4 z4 st hQ
  subst l4 y4 z4
  exact ⟨v, T4, _, Lc, X4, rfl, hQ, fun t k => st.trans k⟩
theorem own_callI {own : String} {index : Nat} {y : MethodName} {bytes : ByteArray} {maxL : Nat} {rm : Room} {b : Addr} {argsL rest : List Value} {pc W : Nat} {Ls : Array Slot} (X : Stand p l e R s m args below meth c T locs cells slots) (hx : p.tables.exec = Jvm.exec) (hZ : Z.Warmed39 s.vm) (hown : s.vm.findClass own = some m.cls) (hi : y.name = "<init>")
    (w1 : (Jvm.Cond.methodLink own index y).before a0 Z = true) (w6 : (Jvm.Cond.instanceMethod y).before a0 Z = true) (w3 : (Jvm.Cond.initialized y.cls).before a0 Z = true) (w4 : (Jvm.Cond.code y bytes maxL none).before a0 Z = true) (hy : y.cls ≠ "java/lang/invoke/MethodHandle" ∧ y.cls ≠ "java/lang/invoke/VarHandle")
    (M : own_Ct l Z y bytes maxL none [] rm (.ref b :: argsL).toArray h Q rm.cells rm.slots) (hf : rm.frames + 1 ≤ R.frames) (hl : W + (maxL + 11) + rm.locals ≤ R.locals) (eT : T.heap = h) (hsize : Ls.size = c.maxLocals)
    (hlen : ∀ sig, parseMethodDescriptor y.desc = some sig → argsL.length = sig.parameters.length) {S : List Value} (hS : S = argsL.reverse ++ .ref b :: rest) (hW : (rest.map fun v => v.category).sum ≤ W) (hd : decode c.code pc = .ok (.invokespecial index, 3)) (hc : cells + rm.cells ≤ R.cells) (hs : slots + rm.slots ≤ R.slots) :
    ∃ v T' h' L, Stand p l e R s m args below meth c T' (locs ++ L) (cells + rm.cells) (slots + rm.slots) ∧ T'.heap = h' ∧ Q v h' L ∧ ∀ t, Steps p.tables e below (T'.setTop (mkF m (pc + 3) Ls (v.toList ++ rest))) t → Steps p.tables e below (T.setTop (mkF m pc Ls S)) t := by
  obtain ⟨v, _, ⟨T4, L4, k4, n4⟩, -, X4, ⟨Lc, hQ, l4, y4, z4⟩, st⟩ := X.specialBack hx hi hown (mvT hZ w1) (mvT hZ w6) (mvT hZ w4) hy (backOf (W := W) M hZ w4 w3 hf hl) (g := mkF m pc Ls S) rfl hsize (Steps.refl _) (a := b) (argsL := argsL) (rest := rest) hlen hS (by show 2 * 0 + _ ≤ _; omega) hd (fun _ _ => ⟨rfl, eT, hc, hs⟩)
  dsimp only [Pt.U, Pt.locs, Pt.cells, Pt.slots] at X4 l4 y4 z4 st hQ
  subst l4 y4 z4
  exact ⟨v, T4, _, Lc, X4, rfl, hQ, fun t k => st.trans k⟩
theorem own_eqI {st : State} {t : Term} {z : Int32} (k : (Jvm.Cond.eq t (Term.int z)).value args st none st [] = some true) : t.eval args st none [] st = some (.int z) := by
  simp only [Jvm.Cond.value, Term.eval] at k
  cases ht : t.eval args st none [] st with
  | none => simp [ht] at k
  | some q => cases q <;> simp [ht] at k ⊢; exact k
theorem own_eqR {st : State} {t u : Term} {b : Addr} (k : (Jvm.Cond.eq t u).value args st none st [] = some true) (hu : u.eval args st none [] st = some (.ref b)) : t.eval args st none [] st = some (.ref b) := by
  simp only [Jvm.Cond.value] at k
  cases ht : t.eval args st none [] st with
  | none => simp [ht] at k
  | some q => cases q <;> simp [ht, hu] at k ⊢; exact k
end Own

theorem pn_com_example_undo_chain_undochain_sql_DateAdd_Unit : plainName "com/example/undo_chain/undochain/sql/DateAdd$Unit" = true := by first | (simp [plainName, overriddenIn]; done) | decide +kernel
theorem pn_com_example_undo_chain_undochain_sql_DateAddIsDaysPinLaw : plainName "com/example/undo_chain/undochain/sql/DateAddIsDaysPinLaw" = true := by first | (simp [plainName, overriddenIn]; done) | decide +kernel
theorem pd___Z : parseMethodDescriptor "()Z" = some ⟨[], some .boolean⟩ := by decide +kernel
section Own2
variable {p : Program} {l : Launch} {e : Env} {R : Room} {s : State} {m : MethodId} {args : Array Value} {below : List Frame} {meth : Method} {c : Code} {T : State} {locs : List Loc} {cells slots : Nat} {Z : State} {a0 : Array Value} {h : Heap} {a : Addr} {k : ClassId} {z j : Int32} {vs : List Value} {dv : Value} {pc : Nat} {Ls : Array Slot} {rest : List Value}
theorem own_stJ {x : Int64} (X : Stand p l e R s m args below meth c T locs cells slots) (hx : p.tables.exec = Jvm.exec) (hZ : Z.Warmed39 s.vm) (eT : T.heap = h) (F : Arv Z h a k .long z vs dv) (i : Nat) (hj : j.toNatClampNeg = i) (hz : ¬ j < 0 ∧ j < z) (hi : i < vs.length) (hd : decode c.code pc = .ok (.lastore, 1)) :
    ∃ T' h', Stand p l e R s m args below meth c T' (locs ++ [⟨a, j.toNatClampNeg⟩]) cells slots ∧ T'.heap = h' ∧ Wr h h' a j.toNatClampNeg (.long x) ∧ Arv Z h' a k .long z (vs.set i (.long x)) dv ∧ ∀ t, Steps p.tables e below (T'.setTop (mkF m (pc + 1) Ls rest)) t → Steps p.tables e below (T.setTop (mkF m pc Ls (.long x :: .int j :: .ref a :: rest))) t := by
  obtain ⟨cl, Ar, q, S, N, H, G⟩ := F
  obtain ⟨T', h', X', e', W, st⟩ := stJ X hx hZ eT Ar (j := j) (inb_of S hz) (g := mkF m pc Ls (.long x :: .int j :: .ref a :: rest)) rfl rfl hd
  exact ⟨T', h', X', e', W, Arv.set Ar q S N H G rfl W i hj hi, st⟩
theorem own_stB {x : Int32} (X : Stand p l e R s m args below meth c T locs cells slots) (hx : p.tables.exec = Jvm.exec) (hZ : Z.Warmed39 s.vm) (eT : T.heap = h) (F : Arv Z h a k .byte z vs dv) (i : Nat) (hj : j.toNatClampNeg = i) (hz : ¬ j < 0 ∧ j < z) (hi : i < vs.length) (hd : decode c.code pc = .ok (.bastore, 1)) :
    ∃ T' h', Stand p l e R s m args below meth c T' (locs ++ [⟨a, j.toNatClampNeg⟩]) cells slots ∧ T'.heap = h' ∧ Wr h h' a j.toNatClampNeg (.int x.toInt8.toInt32) ∧ Arv Z h' a k .byte z (vs.set i (.int x.toInt8.toInt32)) dv ∧ ∀ t, Steps p.tables e below (T'.setTop (mkF m (pc + 1) Ls rest)) t → Steps p.tables e below (T.setTop (mkF m pc Ls (.int x :: .int j :: .ref a :: rest))) t := by
  obtain ⟨cl, Ar, q, S, N, H, G⟩ := F
  obtain ⟨T', h', X', e', W, st⟩ := stB X hx hZ eT Ar (j := j) (inb_of S hz) (g := mkF m pc Ls (.int x :: .int j :: .ref a :: rest)) rfl rfl hd
  exact ⟨T', h', X', e', W, Arv.set Ar q S N H G (fits_nar_byte _) W i hj hi, st⟩
theorem own_stR {y : Addr} {ty : FieldType} (X : Stand p l e R s m args below meth c T locs cells slots) (hx : p.tables.exec = Jvm.exec) (hZ : Z.Warmed39 s.vm) (eT : T.heap = h) (F : Arv Z h a k ty z vs dv) (hty : ty.isReference = true) (hfit : fits ty (.ref y) = true) (hst : ∀ cl, Arr Z h a cl ty → cl.cls = k → Sto Z h a (.ref y)) (i : Nat) (hj : j.toNatClampNeg = i) (hz : ¬ j < 0 ∧ j < z) (hi : i < vs.length) (hd : decode c.code pc = .ok (.aastore, 1)) :
    ∃ T' h', Stand p l e R s m args below meth c T' (locs ++ [⟨a, j.toNatClampNeg⟩]) cells slots ∧ T'.heap = h' ∧ Wr h h' a j.toNatClampNeg (.ref y) ∧ Arv Z h' a k ty z (vs.set i (.ref y)) dv ∧ ∀ t, Steps p.tables e below (T'.setTop (mkF m (pc + 1) Ls rest)) t → Steps p.tables e below (T.setTop (mkF m pc Ls (.ref y :: .int j :: .ref a :: rest))) t := by
  obtain ⟨cl, Ar, q, S, N, H, G⟩ := F
  obtain ⟨T', h', X', e', W, st⟩ := stR X hx hZ eT Ar (j := j) (inb_of S hz) hty (hst cl Ar q) (g := mkF m pc Ls (.ref y :: .int j :: .ref a :: rest)) rfl rfl hd
  exact ⟨T', h', X', e', W, Arv.set Ar q S N H G hfit W i hj hi, st⟩
theorem own_ldJ {v : Value} (X : Stand p l e R s m args below meth c T locs cells slots) (hx : p.tables.exec = Jvm.exec) (hZ : Z.Warmed39 s.vm) (eT : T.heap = h) (F : Arv Z h a k .long z vs dv) (hz : ¬ j < 0 ∧ j < z) (hv : vs.getD j.toNatClampNeg dv = v) (hd : decode c.code pc = .ok (.laload, 1)) :
    ∀ t, Steps p.tables e below (T.setTop (mkF m (pc + 1) Ls (v :: rest))) t → Steps p.tables e below (T.setTop (mkF m pc Ls (.int j :: .ref a :: rest))) t := by
  obtain ⟨cl, Ar, q, S, N, H, G⟩ := F
  exact X.laload hx (j := j) (v := v) (by rw [eT]; exact Ar.1) (State.isArrayOf_alike hZ.alike Ar.2.1) Ar.2.2 (inb_of S hz) (H.at (inb_of S hz) hv) (g := mkF m pc Ls (.int j :: .ref a :: rest)) rfl rfl hd
theorem own_ldB {v : Value} (X : Stand p l e R s m args below meth c T locs cells slots) (hx : p.tables.exec = Jvm.exec) (hZ : Z.Warmed39 s.vm) (eT : T.heap = h) (F : Arv Z h a k .byte z vs dv) (hz : ¬ j < 0 ∧ j < z) (hv : vs.getD j.toNatClampNeg dv = v) (hd : decode c.code pc = .ok (.baload, 1)) :
    ∀ t, Steps p.tables e below (T.setTop (mkF m (pc + 1) Ls (v :: rest))) t → Steps p.tables e below (T.setTop (mkF m pc Ls (.int j :: .ref a :: rest))) t := by
  obtain ⟨cl, Ar, q, S, N, H, G⟩ := F
  exact X.baloadBytes hx (j := j) (v := v) (by rw [eT]; exact Ar.1) (State.isArrayOf_alike hZ.alike Ar.2.1) Ar.2.2 (inb_of S hz) (H.at (inb_of S hz) hv) (g := mkF m pc Ls (.int j :: .ref a :: rest)) rfl rfl hd
theorem own_ldR {v : Value} {ty : FieldType} (X : Stand p l e R s m args below meth c T locs cells slots) (hx : p.tables.exec = Jvm.exec) (hZ : Z.Warmed39 s.vm) (eT : T.heap = h) (F : Arv Z h a k ty z vs dv) (hty : ty.isReference = true) (hz : ¬ j < 0 ∧ j < z) (hv : vs.getD j.toNatClampNeg dv = v) (hd : decode c.code pc = .ok (.aaload, 1)) :
    ∀ t, Steps p.tables e below (T.setTop (mkF m (pc + 1) Ls (v :: rest))) t → Steps p.tables e below (T.setTop (mkF m pc Ls (.int j :: .ref a :: rest))) t := by
  obtain ⟨cl, Ar, q, S, N, H, G⟩ := F
  exact X.aaload hx (j := j) (v := v) (by rw [eT]; exact Ar.1) (State.isArrayOf_alike hZ.alike Ar.2.1) hty Ar.2.2 (inb_of S hz) (H.at (inb_of S hz) hv) (g := mkF m pc Ls (.int j :: .ref a :: rest)) rfl rfl hd
theorem own_len {ty : FieldType} (X : Stand p l e R s m args below meth c T locs cells slots) (hx : p.tables.exec = Jvm.exec) (hZ : Z.Warmed39 s.vm) (eT : T.heap = h) (F : Arv Z h a k ty z vs dv) (hd : decode c.code pc = .ok (.arraylength, 1)) :
    ∀ t, Steps p.tables e below (T.setTop (mkF m (pc + 1) Ls (.int z :: rest))) t → Steps p.tables e below (T.setTop (mkF m pc Ls (.ref a :: rest))) t := by
  obtain ⟨cl, Ar, q, S, N, H, G⟩ := F
  intro t kt
  refine X.arraylength hx (by rw [eT]; exact Ar.1) (State.isArrayOf_alike hZ.alike Ar.2.1) (g := mkF m pc Ls (.ref a :: rest)) rfl rfl hd t ?_
  rw [len_of S N]; exact kt
end Own2
/-! the plain law -/
def own_b5 (a d4 d5 d6 d7 d8 : Addr) : Int32 := if a = d4 then 1 else if a = d5 then 1 else if a = d6 then 1 else if a = d7 then 1 else if a = d8 then 1 else 0
theorem own_mod9 (x : Int32) : ∃ c : Int32, ((x &&& (2147483647 : Int32)) % (9 : Int32)) = c ∧ (c = 0 ∨ c = 1 ∨ c = 2 ∨ c = 3 ∨ c = 4 ∨ c = 5 ∨ c = 6 ∨ c = 7 ∨ c = 8) := by
  have e1 : (x &&& (2147483647 : Int32)).toInt = x.toInt % (2 ^ 31 : Nat) := c_mask x _ 31 (by decide) (by decide)
  have e2 := (c_irem (x &&& (2147483647 : Int32)) (9 : Int32) 9 (by decide)).1 (by omega)
  refine ⟨_, rfl, ?_⟩
  generalize ((x &&& (2147483647 : Int32)) % (9 : Int32)) = c at *
  have c0 : (0 : Int32).toInt = 0 := by decide
  have c1 : (1 : Int32).toInt = 1 := by decide
  have c2 : (2 : Int32).toInt = 2 := by decide
  have c3 : (3 : Int32).toInt = 3 := by decide
  have c4 : (4 : Int32).toInt = 4 := by decide
  have c5 : (5 : Int32).toInt = 5 := by decide
  have c6 : (6 : Int32).toInt = 6 := by decide
  have c7 : (7 : Int32).toInt = 7 := by decide
  have c8 : (8 : Int32).toInt = 8 := by decide
  simp only [← Int32.toInt_inj, c0, c1, c2, c3, c4, c5, c6, c7, c8]; omega

theorem d1_0 : decode prog_178_method_5_code 0 = .ok (.aload_n 0, 1) := by decide +kernel
theorem d1_1 : decode prog_178_method_5_code 1 = .ok (.getstatic 16, 3) := by decide +kernel
theorem d1_4 : decode prog_178_method_5_code 4 = .ok (.if_acmp .eq 31, 3) := by decide +kernel
theorem d1_7 : decode prog_178_method_5_code 7 = .ok (.aload_n 0, 1) := by decide +kernel
theorem d1_8 : decode prog_178_method_5_code 8 = .ok (.getstatic 19, 3) := by decide +kernel
theorem d1_11 : decode prog_178_method_5_code 11 = .ok (.if_acmp .eq 24, 3) := by decide +kernel
theorem d1_14 : decode prog_178_method_5_code 14 = .ok (.aload_n 0, 1) := by decide +kernel
theorem d1_15 : decode prog_178_method_5_code 15 = .ok (.getstatic 22, 3) := by decide +kernel
theorem d1_18 : decode prog_178_method_5_code 18 = .ok (.if_acmp .eq 17, 3) := by decide +kernel
theorem d1_21 : decode prog_178_method_5_code 21 = .ok (.aload_n 0, 1) := by decide +kernel
theorem d1_22 : decode prog_178_method_5_code 22 = .ok (.getstatic 25, 3) := by decide +kernel
theorem d1_25 : decode prog_178_method_5_code 25 = .ok (.if_acmp .eq 10, 3) := by decide +kernel
theorem d1_28 : decode prog_178_method_5_code 28 = .ok (.aload_n 0, 1) := by decide +kernel
theorem d1_29 : decode prog_178_method_5_code 29 = .ok (.getstatic 28, 3) := by decide +kernel
theorem d1_32 : decode prog_178_method_5_code 32 = .ok (.if_acmp .ne 7, 3) := by decide +kernel
theorem d1_35 : decode prog_178_method_5_code 35 = .ok (.iconst 1, 1) := by decide +kernel
theorem d1_36 : decode prog_178_method_5_code 36 = .ok (.goto 4, 3) := by decide +kernel
theorem d1_39 : decode prog_178_method_5_code 39 = .ok (.iconst 0, 1) := by decide +kernel
theorem d1_40 : decode prog_178_method_5_code 40 = .ok (.ireturn, 1) := by decide +kernel
theorem ef_1 (m : MethodId) (a1 : Addr) : entryFrame m #[(.ref a1)] 1 = mkF m 0 #[.val (.ref a1)] [] := by first | (simp [entryFrame, mkF, argsToLocals, Value.category]; done) | rfl
set_option maxRecDepth 65536 in
set_option maxHeartbeats 40000000 in
theorem rm1 (l : Launch) (Z : State) (a0 : Array Value) (hw : ∀ d ∈ tables_1, d.before a0 Z = true) (ws : List Jvm.Cond) (a1 d4 d5 d6 d7 d8 : Addr) (r1 : Int32) (h0 : Heap) (n0 : Nat) (Z0 : n0 ≤ h0.size) (S4 : Sta Z h0 "com/example/undo_chain/undochain/sql/DateAdd$Unit" "DAY" "Lcom/example/undo_chain/undochain/sql/DateAdd$Unit;" (.ref d4)) (S5 : Sta Z h0 "com/example/undo_chain/undochain/sql/DateAdd$Unit" "WEEK" "Lcom/example/undo_chain/undochain/sql/DateAdd$Unit;" (.ref d5)) (S6 : Sta Z h0 "com/example/undo_chain/undochain/sql/DateAdd$Unit" "MONTH" "Lcom/example/undo_chain/undochain/sql/DateAdd$Unit;" (.ref d6)) (S7 : Sta Z h0 "com/example/undo_chain/undochain/sql/DateAdd$Unit" "QUARTER" "Lcom/example/undo_chain/undochain/sql/DateAdd$Unit;" (.ref d7)) (S8 : Sta Z h0 "com/example/undo_chain/undochain/sql/DateAdd$Unit" "YEAR" "Lcom/example/undo_chain/undochain/sql/DateAdd$Unit;" (.ref d8)) (hr1 : r1 = own_b5 a1 d4 d5 d6 d7 d8) :
    own_Ct l Z (⟨"com/example/undo_chain/undochain/sql/DateAdd$Unit", "isDays", "()Z"⟩ : MethodName) prog_178_method_5_code 1 (some .boolean) ws ({ frames := 0, cells := 0, slots := 0, locals := 0 } : Room) #[(.ref a1)] h0 (fun v h L => v = some (.int r1) ∧ L = [] ∧ h = h0) ({ frames := 0, cells := 0, slots := 0, locals := 0 } : Room).cells ({ frames := 0, cells := 0, slots := 0, locals := 0 } : Room).slots := by
  refine own_met (plainFor_of_name pn_com_example_undo_chain_undochain_sql_DateAdd_Unit) (fun p e s m below meth c s₁ X0 hx hby hml hret hlk hnm hown hZ e0 => ?_)
  have hml : c.maxLocals = 1 := hml
  have N0 := Fr.nil n0
  refine own_st (fun _ k => castTop (ef_1 m a1) k) ?_
  show own_Goes p e below (s₁.setTop (mkF m 0 #[.val (.ref a1)] [])) _
  refine own_st (fun _ k => XS.aloadN X0.here hx rfl (hb hby d1_0) rfl rfl k) ?_
  show own_Goes p e below (s₁.setTop (mkF m 1 #[.val (.ref a1)] [(.ref a1)])) _
  obtain ⟨T101, X101, e101, st101⟩ := getS2 X0 hx hZ hown (host := "") (Or.inl (hw _ (List.mem_of_getElem? (i := 36) rfl))) Via.refl e0 S4 (g := (mkF m 1 #[.val (.ref a1)] [(.ref a1)])) rfl (hb hby d1_1)
  refine own_st st101 ?_
  show own_Goes p e below (T101.setTop (mkF m 4 #[.val (.ref a1)] [(.ref d4), (.ref a1)])) _
  by_cases ha4_102 : a1 = d4
  · refine own_st (fun _ k => Jvm.RoadKit.acmp (g := (mkF m 4 #[.val (.ref a1)] [(.ref d4), (.ref a1)])) X101 hx rfl rfl rfl (pc0 := 4) (pc' := 35) (same := true) rfl (hb hby d1_4) rfl (decide_eq_true (congrArg Value.ref ha4_102)) (by decide) (by decide) k) ?_
    show own_Goes p e below (T101.setTop (mkF m 35 #[.val (.ref a1)] [])) _
    refine own_st (fun _ k => XS.iconst X101.here hx rfl (hb hby d1_35) k) ?_
    show own_Goes p e below (T101.setTop (mkF m 36 #[.val (.ref a1)] [(.int (1 : Int32))])) _
    refine own_st (fun _ k => XS.goto X101.here hx rfl (pc0 := 36) (pc' := 40) rfl (hb hby d1_36) (by decide) (by decide) k) ?_
    show own_Goes p e below (T101.setTop (mkF m 40 #[.val (.ref a1)] [(.int (1 : Int32))])) _
    exact own_retN (t := .boolean) (z' := (1 : Int32)) X101 hx hlk hret (by simp) (by decide) (hb hby d1_40) (by decide) (by decide) e101 ⟨by rw [hr1, own_b5, if_pos ha4_102], rfl, rfl⟩
  · refine own_st (fun _ k => Jvm.RoadKit.acmp (g := (mkF m 4 #[.val (.ref a1)] [(.ref d4), (.ref a1)])) X101 hx rfl rfl rfl (pc0 := 4) (pc' := 7) (same := false) rfl (hb hby d1_4) rfl (decide_eq_false fun q => ha4_102 (Value.ref.inj q)) (by decide) (by decide) k) ?_
    show own_Goes p e below (T101.setTop (mkF m 7 #[.val (.ref a1)] [])) _
    refine own_st (fun _ k => XS.aloadN X101.here hx rfl (hb hby d1_7) rfl rfl k) ?_
    show own_Goes p e below (T101.setTop (mkF m 8 #[.val (.ref a1)] [(.ref a1)])) _
    obtain ⟨T103, X103, e103, st103⟩ := getS2 X101 hx hZ hown (host := "") (Or.inl (hw _ (List.mem_of_getElem? (i := 37) rfl))) Via.refl e101 S5 (g := (mkF m 8 #[.val (.ref a1)] [(.ref a1)])) rfl (hb hby d1_8)
    refine own_st st103 ?_
    show own_Goes p e below (T103.setTop (mkF m 11 #[.val (.ref a1)] [(.ref d5), (.ref a1)])) _
    by_cases ha11_104 : a1 = d5
    · refine own_st (fun _ k => Jvm.RoadKit.acmp (g := (mkF m 11 #[.val (.ref a1)] [(.ref d5), (.ref a1)])) X103 hx rfl rfl rfl (pc0 := 11) (pc' := 35) (same := true) rfl (hb hby d1_11) rfl (decide_eq_true (congrArg Value.ref ha11_104)) (by decide) (by decide) k) ?_
      show own_Goes p e below (T103.setTop (mkF m 35 #[.val (.ref a1)] [])) _
      refine own_st (fun _ k => XS.iconst X103.here hx rfl (hb hby d1_35) k) ?_
      show own_Goes p e below (T103.setTop (mkF m 36 #[.val (.ref a1)] [(.int (1 : Int32))])) _
      refine own_st (fun _ k => XS.goto X103.here hx rfl (pc0 := 36) (pc' := 40) rfl (hb hby d1_36) (by decide) (by decide) k) ?_
      show own_Goes p e below (T103.setTop (mkF m 40 #[.val (.ref a1)] [(.int (1 : Int32))])) _
      exact own_retN (t := .boolean) (z' := (1 : Int32)) X103 hx hlk hret (by simp) (by decide) (hb hby d1_40) (by decide) (by decide) e103 ⟨by rw [hr1, own_b5, if_neg ha4_102, if_pos ha11_104], rfl, rfl⟩
    · refine own_st (fun _ k => Jvm.RoadKit.acmp (g := (mkF m 11 #[.val (.ref a1)] [(.ref d5), (.ref a1)])) X103 hx rfl rfl rfl (pc0 := 11) (pc' := 14) (same := false) rfl (hb hby d1_11) rfl (decide_eq_false fun q => ha11_104 (Value.ref.inj q)) (by decide) (by decide) k) ?_
      show own_Goes p e below (T103.setTop (mkF m 14 #[.val (.ref a1)] [])) _
      refine own_st (fun _ k => XS.aloadN X103.here hx rfl (hb hby d1_14) rfl rfl k) ?_
      show own_Goes p e below (T103.setTop (mkF m 15 #[.val (.ref a1)] [(.ref a1)])) _
      obtain ⟨T105, X105, e105, st105⟩ := getS2 X103 hx hZ hown (host := "") (Or.inl (hw _ (List.mem_of_getElem? (i := 38) rfl))) Via.refl e103 S6 (g := (mkF m 15 #[.val (.ref a1)] [(.ref a1)])) rfl (hb hby d1_15)
      refine own_st st105 ?_
      show own_Goes p e below (T105.setTop (mkF m 18 #[.val (.ref a1)] [(.ref d6), (.ref a1)])) _
      by_cases ha18_106 : a1 = d6
      · refine own_st (fun _ k => Jvm.RoadKit.acmp (g := (mkF m 18 #[.val (.ref a1)] [(.ref d6), (.ref a1)])) X105 hx rfl rfl rfl (pc0 := 18) (pc' := 35) (same := true) rfl (hb hby d1_18) rfl (decide_eq_true (congrArg Value.ref ha18_106)) (by decide) (by decide) k) ?_
        show own_Goes p e below (T105.setTop (mkF m 35 #[.val (.ref a1)] [])) _
        refine own_st (fun _ k => XS.iconst X105.here hx rfl (hb hby d1_35) k) ?_
        show own_Goes p e below (T105.setTop (mkF m 36 #[.val (.ref a1)] [(.int (1 : Int32))])) _
        refine own_st (fun _ k => XS.goto X105.here hx rfl (pc0 := 36) (pc' := 40) rfl (hb hby d1_36) (by decide) (by decide) k) ?_
        show own_Goes p e below (T105.setTop (mkF m 40 #[.val (.ref a1)] [(.int (1 : Int32))])) _
        exact own_retN (t := .boolean) (z' := (1 : Int32)) X105 hx hlk hret (by simp) (by decide) (hb hby d1_40) (by decide) (by decide) e105 ⟨by rw [hr1, own_b5, if_neg ha4_102, if_neg ha11_104, if_pos ha18_106], rfl, rfl⟩
      · refine own_st (fun _ k => Jvm.RoadKit.acmp (g := (mkF m 18 #[.val (.ref a1)] [(.ref d6), (.ref a1)])) X105 hx rfl rfl rfl (pc0 := 18) (pc' := 21) (same := false) rfl (hb hby d1_18) rfl (decide_eq_false fun q => ha18_106 (Value.ref.inj q)) (by decide) (by decide) k) ?_
        show own_Goes p e below (T105.setTop (mkF m 21 #[.val (.ref a1)] [])) _
        refine own_st (fun _ k => XS.aloadN X105.here hx rfl (hb hby d1_21) rfl rfl k) ?_
        show own_Goes p e below (T105.setTop (mkF m 22 #[.val (.ref a1)] [(.ref a1)])) _
        obtain ⟨T107, X107, e107, st107⟩ := getS2 X105 hx hZ hown (host := "") (Or.inl (hw _ (List.mem_of_getElem? (i := 39) rfl))) Via.refl e105 S7 (g := (mkF m 22 #[.val (.ref a1)] [(.ref a1)])) rfl (hb hby d1_22)
        refine own_st st107 ?_
        show own_Goes p e below (T107.setTop (mkF m 25 #[.val (.ref a1)] [(.ref d7), (.ref a1)])) _
        by_cases ha25_108 : a1 = d7
        · refine own_st (fun _ k => Jvm.RoadKit.acmp (g := (mkF m 25 #[.val (.ref a1)] [(.ref d7), (.ref a1)])) X107 hx rfl rfl rfl (pc0 := 25) (pc' := 35) (same := true) rfl (hb hby d1_25) rfl (decide_eq_true (congrArg Value.ref ha25_108)) (by decide) (by decide) k) ?_
          show own_Goes p e below (T107.setTop (mkF m 35 #[.val (.ref a1)] [])) _
          refine own_st (fun _ k => XS.iconst X107.here hx rfl (hb hby d1_35) k) ?_
          show own_Goes p e below (T107.setTop (mkF m 36 #[.val (.ref a1)] [(.int (1 : Int32))])) _
          refine own_st (fun _ k => XS.goto X107.here hx rfl (pc0 := 36) (pc' := 40) rfl (hb hby d1_36) (by decide) (by decide) k) ?_
          show own_Goes p e below (T107.setTop (mkF m 40 #[.val (.ref a1)] [(.int (1 : Int32))])) _
          exact own_retN (t := .boolean) (z' := (1 : Int32)) X107 hx hlk hret (by simp) (by decide) (hb hby d1_40) (by decide) (by decide) e107 ⟨by rw [hr1, own_b5, if_neg ha4_102, if_neg ha11_104, if_neg ha18_106, if_pos ha25_108], rfl, rfl⟩
        · refine own_st (fun _ k => Jvm.RoadKit.acmp (g := (mkF m 25 #[.val (.ref a1)] [(.ref d7), (.ref a1)])) X107 hx rfl rfl rfl (pc0 := 25) (pc' := 28) (same := false) rfl (hb hby d1_25) rfl (decide_eq_false fun q => ha25_108 (Value.ref.inj q)) (by decide) (by decide) k) ?_
          show own_Goes p e below (T107.setTop (mkF m 28 #[.val (.ref a1)] [])) _
          refine own_st (fun _ k => XS.aloadN X107.here hx rfl (hb hby d1_28) rfl rfl k) ?_
          show own_Goes p e below (T107.setTop (mkF m 29 #[.val (.ref a1)] [(.ref a1)])) _
          obtain ⟨T109, X109, e109, st109⟩ := getS2 X107 hx hZ hown (host := "") (Or.inl (hw _ (List.mem_of_getElem? (i := 40) rfl))) Via.refl e107 S8 (g := (mkF m 29 #[.val (.ref a1)] [(.ref a1)])) rfl (hb hby d1_29)
          refine own_st st109 ?_
          show own_Goes p e below (T109.setTop (mkF m 32 #[.val (.ref a1)] [(.ref d8), (.ref a1)])) _
          by_cases ha32_110 : a1 = d8
          · refine own_st (fun _ k => Jvm.RoadKit.acmp (g := (mkF m 32 #[.val (.ref a1)] [(.ref d8), (.ref a1)])) X109 hx rfl rfl rfl (pc0 := 32) (pc' := 35) (same := true) rfl (hb hby d1_32) rfl (decide_eq_true (congrArg Value.ref ha32_110)) (by decide) (by decide) k) ?_
            show own_Goes p e below (T109.setTop (mkF m 35 #[.val (.ref a1)] [])) _
            refine own_st (fun _ k => XS.iconst X109.here hx rfl (hb hby d1_35) k) ?_
            show own_Goes p e below (T109.setTop (mkF m 36 #[.val (.ref a1)] [(.int (1 : Int32))])) _
            refine own_st (fun _ k => XS.goto X109.here hx rfl (pc0 := 36) (pc' := 40) rfl (hb hby d1_36) (by decide) (by decide) k) ?_
            show own_Goes p e below (T109.setTop (mkF m 40 #[.val (.ref a1)] [(.int (1 : Int32))])) _
            exact own_retN (t := .boolean) (z' := (1 : Int32)) X109 hx hlk hret (by simp) (by decide) (hb hby d1_40) (by decide) (by decide) e109 ⟨by rw [hr1, own_b5, if_neg ha4_102, if_neg ha11_104, if_neg ha18_106, if_neg ha25_108, if_pos ha32_110], rfl, rfl⟩
          · refine own_st (fun _ k => Jvm.RoadKit.acmp (g := (mkF m 32 #[.val (.ref a1)] [(.ref d8), (.ref a1)])) X109 hx rfl rfl rfl (pc0 := 32) (pc' := 39) (same := false) rfl (hb hby d1_32) rfl (decide_eq_false fun q => ha32_110 (Value.ref.inj q)) (by decide) (by decide) k) ?_
            show own_Goes p e below (T109.setTop (mkF m 39 #[.val (.ref a1)] [])) _
            refine own_st (fun _ k => XS.iconst X109.here hx rfl (hb hby d1_39) k) ?_
            show own_Goes p e below (T109.setTop (mkF m 40 #[.val (.ref a1)] [(.int (0 : Int32))])) _
            exact own_retN (t := .boolean) (z' := (0 : Int32)) X109 hx hlk hret (by simp) (by decide) (hb hby d1_40) (by decide) (by decide) e109 ⟨by rw [hr1, own_b5, if_neg ha4_102, if_neg ha11_104, if_neg ha18_106, if_neg ha25_108, if_neg ha32_110], rfl, rfl⟩
theorem ef_0 (m : MethodId) (p1 : Int32) : entryFrame m #[(.int p1)] maxLocals = mkF m 0 #[.val (.int p1), .unset, .unset, .unset, .unset] [] := by first | (simp [entryFrame, mkF, argsToLocals, Value.category, maxLocals]; done) | rfl
set_option maxRecDepth 65536 in
set_option maxHeartbeats 40000000 in
theorem rm0 (l : Launch) (Z : State) (a0 : Array Value) (hw : ∀ d ∈ tables_1, d.before a0 Z = true) (ws : List Jvm.Cond) (p1 : Int32) (d0 d1 d2 d3 d4 d5 d6 d7 d8 : Addr) (h0 : Heap) (n0 : Nat) (Z0 : n0 ≤ h0.size) (O0 : Old Z n0 h0) (Sx0 : Sta Z Z.heap "com/example/undo_chain/undochain/sql/DateAdd$Unit" "MICROSECOND" "Lcom/example/undo_chain/undochain/sql/DateAdd$Unit;" (.ref d0)) (Ex0 : Exa Z Z.heap d0 "com/example/undo_chain/undochain/sql/DateAdd$Unit") (Fx0 : Fld Z Z.heap d0 "java/lang/Enum" "ordinal" "I" (.int (0 : Int32))) (Sx1 : Sta Z Z.heap "com/example/undo_chain/undochain/sql/DateAdd$Unit" "SECOND" "Lcom/example/undo_chain/undochain/sql/DateAdd$Unit;" (.ref d1)) (Ex1 : Exa Z Z.heap d1 "com/example/undo_chain/undochain/sql/DateAdd$Unit") (Fx1 : Fld Z Z.heap d1 "java/lang/Enum" "ordinal" "I" (.int (1 : Int32))) (Sx2 : Sta Z Z.heap "com/example/undo_chain/undochain/sql/DateAdd$Unit" "MINUTE" "Lcom/example/undo_chain/undochain/sql/DateAdd$Unit;" (.ref d2)) (Ex2 : Exa Z Z.heap d2 "com/example/undo_chain/undochain/sql/DateAdd$Unit") (Fx2 : Fld Z Z.heap d2 "java/lang/Enum" "ordinal" "I" (.int (2 : Int32))) (Sx3 : Sta Z Z.heap "com/example/undo_chain/undochain/sql/DateAdd$Unit" "HOUR" "Lcom/example/undo_chain/undochain/sql/DateAdd$Unit;" (.ref d3)) (Ex3 : Exa Z Z.heap d3 "com/example/undo_chain/undochain/sql/DateAdd$Unit") (Fx3 : Fld Z Z.heap d3 "java/lang/Enum" "ordinal" "I" (.int (3 : Int32))) (Sx4 : Sta Z Z.heap "com/example/undo_chain/undochain/sql/DateAdd$Unit" "DAY" "Lcom/example/undo_chain/undochain/sql/DateAdd$Unit;" (.ref d4)) (Ex4 : Exa Z Z.heap d4 "com/example/undo_chain/undochain/sql/DateAdd$Unit") (Fx4 : Fld Z Z.heap d4 "java/lang/Enum" "ordinal" "I" (.int (4 : Int32))) (Sx5 : Sta Z Z.heap "com/example/undo_chain/undochain/sql/DateAdd$Unit" "WEEK" "Lcom/example/undo_chain/undochain/sql/DateAdd$Unit;" (.ref d5)) (Ex5 : Exa Z Z.heap d5 "com/example/undo_chain/undochain/sql/DateAdd$Unit") (Fx5 : Fld Z Z.heap d5 "java/lang/Enum" "ordinal" "I" (.int (5 : Int32))) (Sx6 : Sta Z Z.heap "com/example/undo_chain/undochain/sql/DateAdd$Unit" "MONTH" "Lcom/example/undo_chain/undochain/sql/DateAdd$Unit;" (.ref d6)) (Ex6 : Exa Z Z.heap d6 "com/example/undo_chain/undochain/sql/DateAdd$Unit") (Fx6 : Fld Z Z.heap d6 "java/lang/Enum" "ordinal" "I" (.int (6 : Int32))) (Sx7 : Sta Z Z.heap "com/example/undo_chain/undochain/sql/DateAdd$Unit" "QUARTER" "Lcom/example/undo_chain/undochain/sql/DateAdd$Unit;" (.ref d7)) (Ex7 : Exa Z Z.heap d7 "com/example/undo_chain/undochain/sql/DateAdd$Unit") (Fx7 : Fld Z Z.heap d7 "java/lang/Enum" "ordinal" "I" (.int (7 : Int32))) (Sx8 : Sta Z Z.heap "com/example/undo_chain/undochain/sql/DateAdd$Unit" "YEAR" "Lcom/example/undo_chain/undochain/sql/DateAdd$Unit;" (.ref d8)) (Ex8 : Exa Z Z.heap d8 "com/example/undo_chain/undochain/sql/DateAdd$Unit") (Fx8 : Fld Z Z.heap d8 "java/lang/Enum" "ordinal" "I" (.int (8 : Int32))) :
    own_Ct l Z x code maxLocals ret ws room_1 #[(.int p1)] h0 (fun v h L => v = some (.int (1 : Int32)) ∧ Fr n0 L) 2 18 := by
  refine own_met (plainFor_of_name pn_com_example_undo_chain_undochain_sql_DateAddIsDaysPinLaw) (fun p e s m below meth c s₁ X0 hx hby hml hret hlk hnm hown hZ e0 => ?_)
  have hml : c.maxLocals = 5 := hml
  have N0 := Fr.nil n0
  refine own_st (fun _ k => castTop (ef_0 m p1) k) ?_
  show own_Goes p e below (s₁.setTop (mkF m 0 #[.val (.int p1), .unset, .unset, .unset, .unset] [])) _
  refine own_st (fun _ k => XS.bipush X0.here hx rfl (hb hby at_0) k) ?_
  show own_Goes p e below (s₁.setTop (mkF m 2 #[.val (.int p1), .unset, .unset, .unset, .unset] [(.int (9 : Int32))])) _
  obtain ⟨T101, h101, k101, X101, e101, E101, A101, O101, st101⟩ := newR X0 hx hZ hown (hw _ (List.mem_of_getElem? (i := 0) rfl)) (hw _ (List.mem_of_getElem? (i := 1) rfl)) e0 (g := (mkF m 2 #[.val (.int p1), .unset, .unset, .unset, .unset] [(.int (9 : Int32))])) rfl (hb hby at_2) rfl (by decide) (cap := 9) (by decide) (by decide) (by decide) (by decide)
  obtain ⟨b101, g101⟩ : ∃ z, z = h0.size := ⟨_, rfl⟩
  rw [← g101] at A101 st101
  have g_b101 : n0 ≤ b101 := Nat.le_trans Z0 (Nat.le_of_eq g101.symm)
  have ne_d0_b101 : d0 ≠ b101 := by rw [g101]; exact Nat.ne_of_lt ((Ex0.ext O0.2)).lt
  have ne_d1_b101 : d1 ≠ b101 := by rw [g101]; exact Nat.ne_of_lt ((Ex1.ext O0.2)).lt
  have ne_d2_b101 : d2 ≠ b101 := by rw [g101]; exact Nat.ne_of_lt ((Ex2.ext O0.2)).lt
  have ne_d3_b101 : d3 ≠ b101 := by rw [g101]; exact Nat.ne_of_lt ((Ex3.ext O0.2)).lt
  have ne_d4_b101 : d4 ≠ b101 := by rw [g101]; exact Nat.ne_of_lt ((Ex4.ext O0.2)).lt
  have ne_d5_b101 : d5 ≠ b101 := by rw [g101]; exact Nat.ne_of_lt ((Ex5.ext O0.2)).lt
  have ne_d6_b101 : d6 ≠ b101 := by rw [g101]; exact Nat.ne_of_lt ((Ex6.ext O0.2)).lt
  have ne_d7_b101 : d7 ≠ b101 := by rw [g101]; exact Nat.ne_of_lt ((Ex7.ext O0.2)).lt
  have ne_d8_b101 : d8 ≠ b101 := by rw [g101]; exact Nat.ne_of_lt ((Ex8.ext O0.2)).lt
  have V_b101 : Arv Z h101 b101 k101 (.object "com/example/undo_chain/undochain/sql/DateAdd$Unit") (9 : Int32) [.null, .null, .null, .null, .null, .null, .null, .null, .null] .null := Arv.pad (Arv.new A101 (by decide)) (pad_rep [] _ 9)
  refine own_st st101 ?_
  show own_Goes p e below (T101.setTop (mkF m 5 #[.val (.int p1), .unset, .unset, .unset, .unset] [(.ref b101)])) _
  refine own_st (fun _ k => XS.dup X101.here hx rfl (hb hby at_5) rfl rfl k) ?_
  show own_Goes p e below (T101.setTop (mkF m 6 #[.val (.int p1), .unset, .unset, .unset, .unset] [(.ref b101), (.ref b101)])) _
  refine own_st (fun _ k => XS.iconst X101.here hx rfl (hb hby at_6) k) ?_
  show own_Goes p e below (T101.setTop (mkF m 7 #[.val (.int p1), .unset, .unset, .unset, .unset] [(.int (0 : Int32)), (.ref b101), (.ref b101)])) _
  have f102 := (O0.ext E101)
  obtain ⟨T103, X103, e103, st103⟩ := getS2 X101 hx hZ hown (host := "") (Or.inl (hw _ (List.mem_of_getElem? (i := 2) rfl))) Via.refl e101 (Sx0.ext f102.2) (g := (mkF m 7 #[.val (.int p1), .unset, .unset, .unset, .unset] [(.int (0 : Int32)), (.ref b101), (.ref b101)])) rfl (hb hby at_7)
  refine own_st st103 ?_
  show own_Goes p e below (T103.setTop (mkF m 10 #[.val (.int p1), .unset, .unset, .unset, .unset] [(.ref d0), (.int (0 : Int32)), (.ref b101), (.ref b101)])) _
  obtain ⟨T104, h104, X104, e104, W104, V104, st104⟩ := own_stR (y := d0) (pc := 10) (Ls := #[.val (.int p1), .unset, .unset, .unset, .unset]) (rest := [(.ref b101)]) (j := (0 : Int32)) X103 hx hZ e103 V_b101 rfl rfl (fun cl Ar hq0 => Sto.ofV Ar hq0 O101 (Ins.self (Ex0.ext f102.2))) 0 (by decide) (by decide) (Nat.le_of_ble_eq_true rfl) (hb hby at_10)
  have V104 : Arv Z h104 b101 k101 (.object "com/example/undo_chain/undochain/sql/DateAdd$Unit") (9 : Int32) [(.ref d0), .null, .null, .null, .null, .null, .null, .null, .null] .null := V104
  have N104 := Fr.snoc X104 N0 g_b101
  refine own_st st104 ?_
  show own_Goes p e below (T104.setTop (mkF m 11 #[.val (.int p1), .unset, .unset, .unset, .unset] [(.ref b101)])) _
  refine own_st (fun _ k => XS.dup X104.here hx rfl (hb hby at_11) rfl rfl k) ?_
  show own_Goes p e below (T104.setTop (mkF m 12 #[.val (.int p1), .unset, .unset, .unset, .unset] [(.ref b101), (.ref b101)])) _
  refine own_st (fun _ k => XS.iconst X104.here hx rfl (hb hby at_12) k) ?_
  show own_Goes p e below (T104.setTop (mkF m 13 #[.val (.int p1), .unset, .unset, .unset, .unset] [(.int (1 : Int32)), (.ref b101), (.ref b101)])) _
  have f105 := (f102.wr W104 g_b101)
  obtain ⟨T106, X106, e106, st106⟩ := getS2 X104 hx hZ hown (host := "") (Or.inl (hw _ (List.mem_of_getElem? (i := 6) rfl))) Via.refl e104 (Sx1.ext f105.2) (g := (mkF m 13 #[.val (.int p1), .unset, .unset, .unset, .unset] [(.int (1 : Int32)), (.ref b101), (.ref b101)])) rfl (hb hby at_13)
  refine own_st st106 ?_
  show own_Goes p e below (T106.setTop (mkF m 16 #[.val (.int p1), .unset, .unset, .unset, .unset] [(.ref d1), (.int (1 : Int32)), (.ref b101), (.ref b101)])) _
  obtain ⟨T107, h107, X107, e107, W107, V107, st107⟩ := own_stR (y := d1) (pc := 16) (Ls := #[.val (.int p1), .unset, .unset, .unset, .unset]) (rest := [(.ref b101)]) (j := (1 : Int32)) X106 hx hZ e106 V104 rfl rfl (fun cl Ar hq0 => Sto.ofV Ar hq0 O101 (Ins.self (Ex1.ext f105.2))) 1 (by decide) (by decide) (Nat.le_of_ble_eq_true rfl) (hb hby at_16)
  have V107 : Arv Z h107 b101 k101 (.object "com/example/undo_chain/undochain/sql/DateAdd$Unit") (9 : Int32) [(.ref d0), (.ref d1), .null, .null, .null, .null, .null, .null, .null] .null := V107
  have N107 := Fr.snoc X107 N104 g_b101
  refine own_st st107 ?_
  show own_Goes p e below (T107.setTop (mkF m 17 #[.val (.int p1), .unset, .unset, .unset, .unset] [(.ref b101)])) _
  refine own_st (fun _ k => XS.dup X107.here hx rfl (hb hby at_17) rfl rfl k) ?_
  show own_Goes p e below (T107.setTop (mkF m 18 #[.val (.int p1), .unset, .unset, .unset, .unset] [(.ref b101), (.ref b101)])) _
  refine own_st (fun _ k => XS.iconst X107.here hx rfl (hb hby at_18) k) ?_
  show own_Goes p e below (T107.setTop (mkF m 19 #[.val (.int p1), .unset, .unset, .unset, .unset] [(.int (2 : Int32)), (.ref b101), (.ref b101)])) _
  have f108 := (f105.wr W107 g_b101)
  obtain ⟨T109, X109, e109, st109⟩ := getS2 X107 hx hZ hown (host := "") (Or.inl (hw _ (List.mem_of_getElem? (i := 8) rfl))) Via.refl e107 (Sx2.ext f108.2) (g := (mkF m 19 #[.val (.int p1), .unset, .unset, .unset, .unset] [(.int (2 : Int32)), (.ref b101), (.ref b101)])) rfl (hb hby at_19)
  refine own_st st109 ?_
  show own_Goes p e below (T109.setTop (mkF m 22 #[.val (.int p1), .unset, .unset, .unset, .unset] [(.ref d2), (.int (2 : Int32)), (.ref b101), (.ref b101)])) _
  obtain ⟨T110, h110, X110, e110, W110, V110, st110⟩ := own_stR (y := d2) (pc := 22) (Ls := #[.val (.int p1), .unset, .unset, .unset, .unset]) (rest := [(.ref b101)]) (j := (2 : Int32)) X109 hx hZ e109 V107 rfl rfl (fun cl Ar hq0 => Sto.ofV Ar hq0 O101 (Ins.self (Ex2.ext f108.2))) 2 (by decide) (by decide) (Nat.le_of_ble_eq_true rfl) (hb hby at_22)
  have V110 : Arv Z h110 b101 k101 (.object "com/example/undo_chain/undochain/sql/DateAdd$Unit") (9 : Int32) [(.ref d0), (.ref d1), (.ref d2), .null, .null, .null, .null, .null, .null] .null := V110
  have N110 := Fr.snoc X110 N107 g_b101
  refine own_st st110 ?_
  show own_Goes p e below (T110.setTop (mkF m 23 #[.val (.int p1), .unset, .unset, .unset, .unset] [(.ref b101)])) _
  refine own_st (fun _ k => XS.dup X110.here hx rfl (hb hby at_23) rfl rfl k) ?_
  show own_Goes p e below (T110.setTop (mkF m 24 #[.val (.int p1), .unset, .unset, .unset, .unset] [(.ref b101), (.ref b101)])) _
  refine own_st (fun _ k => XS.iconst X110.here hx rfl (hb hby at_24) k) ?_
  show own_Goes p e below (T110.setTop (mkF m 25 #[.val (.int p1), .unset, .unset, .unset, .unset] [(.int (3 : Int32)), (.ref b101), (.ref b101)])) _
  have f111 := (f108.wr W110 g_b101)
  obtain ⟨T112, X112, e112, st112⟩ := getS2 X110 hx hZ hown (host := "") (Or.inl (hw _ (List.mem_of_getElem? (i := 10) rfl))) Via.refl e110 (Sx3.ext f111.2) (g := (mkF m 25 #[.val (.int p1), .unset, .unset, .unset, .unset] [(.int (3 : Int32)), (.ref b101), (.ref b101)])) rfl (hb hby at_25)
  refine own_st st112 ?_
  show own_Goes p e below (T112.setTop (mkF m 28 #[.val (.int p1), .unset, .unset, .unset, .unset] [(.ref d3), (.int (3 : Int32)), (.ref b101), (.ref b101)])) _
  obtain ⟨T113, h113, X113, e113, W113, V113, st113⟩ := own_stR (y := d3) (pc := 28) (Ls := #[.val (.int p1), .unset, .unset, .unset, .unset]) (rest := [(.ref b101)]) (j := (3 : Int32)) X112 hx hZ e112 V110 rfl rfl (fun cl Ar hq0 => Sto.ofV Ar hq0 O101 (Ins.self (Ex3.ext f111.2))) 3 (by decide) (by decide) (Nat.le_of_ble_eq_true rfl) (hb hby at_28)
  have V113 : Arv Z h113 b101 k101 (.object "com/example/undo_chain/undochain/sql/DateAdd$Unit") (9 : Int32) [(.ref d0), (.ref d1), (.ref d2), (.ref d3), .null, .null, .null, .null, .null] .null := V113
  have N113 := Fr.snoc X113 N110 g_b101
  refine own_st st113 ?_
  show own_Goes p e below (T113.setTop (mkF m 29 #[.val (.int p1), .unset, .unset, .unset, .unset] [(.ref b101)])) _
  refine own_st (fun _ k => XS.dup X113.here hx rfl (hb hby at_29) rfl rfl k) ?_
  show own_Goes p e below (T113.setTop (mkF m 30 #[.val (.int p1), .unset, .unset, .unset, .unset] [(.ref b101), (.ref b101)])) _
  refine own_st (fun _ k => XS.iconst X113.here hx rfl (hb hby at_30) k) ?_
  show own_Goes p e below (T113.setTop (mkF m 31 #[.val (.int p1), .unset, .unset, .unset, .unset] [(.int (4 : Int32)), (.ref b101), (.ref b101)])) _
  have f114 := (f111.wr W113 g_b101)
  obtain ⟨T115, X115, e115, st115⟩ := getS2 X113 hx hZ hown (host := "") (Or.inl (hw _ (List.mem_of_getElem? (i := 12) rfl))) Via.refl e113 (Sx4.ext f114.2) (g := (mkF m 31 #[.val (.int p1), .unset, .unset, .unset, .unset] [(.int (4 : Int32)), (.ref b101), (.ref b101)])) rfl (hb hby at_31)
  refine own_st st115 ?_
  show own_Goes p e below (T115.setTop (mkF m 34 #[.val (.int p1), .unset, .unset, .unset, .unset] [(.ref d4), (.int (4 : Int32)), (.ref b101), (.ref b101)])) _
  obtain ⟨T116, h116, X116, e116, W116, V116, st116⟩ := own_stR (y := d4) (pc := 34) (Ls := #[.val (.int p1), .unset, .unset, .unset, .unset]) (rest := [(.ref b101)]) (j := (4 : Int32)) X115 hx hZ e115 V113 rfl rfl (fun cl Ar hq0 => Sto.ofV Ar hq0 O101 (Ins.self (Ex4.ext f114.2))) 4 (by decide) (by decide) (Nat.le_of_ble_eq_true rfl) (hb hby at_34)
  have V116 : Arv Z h116 b101 k101 (.object "com/example/undo_chain/undochain/sql/DateAdd$Unit") (9 : Int32) [(.ref d0), (.ref d1), (.ref d2), (.ref d3), (.ref d4), .null, .null, .null, .null] .null := V116
  have N116 := Fr.snoc X116 N113 g_b101
  refine own_st st116 ?_
  show own_Goes p e below (T116.setTop (mkF m 35 #[.val (.int p1), .unset, .unset, .unset, .unset] [(.ref b101)])) _
  refine own_st (fun _ k => XS.dup X116.here hx rfl (hb hby at_35) rfl rfl k) ?_
  show own_Goes p e below (T116.setTop (mkF m 36 #[.val (.int p1), .unset, .unset, .unset, .unset] [(.ref b101), (.ref b101)])) _
  refine own_st (fun _ k => XS.iconst X116.here hx rfl (hb hby at_36) k) ?_
  show own_Goes p e below (T116.setTop (mkF m 37 #[.val (.int p1), .unset, .unset, .unset, .unset] [(.int (5 : Int32)), (.ref b101), (.ref b101)])) _
  have f117 := (f114.wr W116 g_b101)
  obtain ⟨T118, X118, e118, st118⟩ := getS2 X116 hx hZ hown (host := "") (Or.inl (hw _ (List.mem_of_getElem? (i := 14) rfl))) Via.refl e116 (Sx5.ext f117.2) (g := (mkF m 37 #[.val (.int p1), .unset, .unset, .unset, .unset] [(.int (5 : Int32)), (.ref b101), (.ref b101)])) rfl (hb hby at_37)
  refine own_st st118 ?_
  show own_Goes p e below (T118.setTop (mkF m 40 #[.val (.int p1), .unset, .unset, .unset, .unset] [(.ref d5), (.int (5 : Int32)), (.ref b101), (.ref b101)])) _
  obtain ⟨T119, h119, X119, e119, W119, V119, st119⟩ := own_stR (y := d5) (pc := 40) (Ls := #[.val (.int p1), .unset, .unset, .unset, .unset]) (rest := [(.ref b101)]) (j := (5 : Int32)) X118 hx hZ e118 V116 rfl rfl (fun cl Ar hq0 => Sto.ofV Ar hq0 O101 (Ins.self (Ex5.ext f117.2))) 5 (by decide) (by decide) (Nat.le_of_ble_eq_true rfl) (hb hby at_40)
  have V119 : Arv Z h119 b101 k101 (.object "com/example/undo_chain/undochain/sql/DateAdd$Unit") (9 : Int32) [(.ref d0), (.ref d1), (.ref d2), (.ref d3), (.ref d4), (.ref d5), .null, .null, .null] .null := V119
  have N119 := Fr.snoc X119 N116 g_b101
  refine own_st st119 ?_
  show own_Goes p e below (T119.setTop (mkF m 41 #[.val (.int p1), .unset, .unset, .unset, .unset] [(.ref b101)])) _
  refine own_st (fun _ k => XS.dup X119.here hx rfl (hb hby at_41) rfl rfl k) ?_
  show own_Goes p e below (T119.setTop (mkF m 42 #[.val (.int p1), .unset, .unset, .unset, .unset] [(.ref b101), (.ref b101)])) _
  refine own_st (fun _ k => XS.bipush X119.here hx rfl (hb hby at_42) k) ?_
  show own_Goes p e below (T119.setTop (mkF m 44 #[.val (.int p1), .unset, .unset, .unset, .unset] [(.int (6 : Int32)), (.ref b101), (.ref b101)])) _
  have f120 := (f117.wr W119 g_b101)
  obtain ⟨T121, X121, e121, st121⟩ := getS2 X119 hx hZ hown (host := "") (Or.inl (hw _ (List.mem_of_getElem? (i := 16) rfl))) Via.refl e119 (Sx6.ext f120.2) (g := (mkF m 44 #[.val (.int p1), .unset, .unset, .unset, .unset] [(.int (6 : Int32)), (.ref b101), (.ref b101)])) rfl (hb hby at_44)
  refine own_st st121 ?_
  show own_Goes p e below (T121.setTop (mkF m 47 #[.val (.int p1), .unset, .unset, .unset, .unset] [(.ref d6), (.int (6 : Int32)), (.ref b101), (.ref b101)])) _
  obtain ⟨T122, h122, X122, e122, W122, V122, st122⟩ := own_stR (y := d6) (pc := 47) (Ls := #[.val (.int p1), .unset, .unset, .unset, .unset]) (rest := [(.ref b101)]) (j := (6 : Int32)) X121 hx hZ e121 V119 rfl rfl (fun cl Ar hq0 => Sto.ofV Ar hq0 O101 (Ins.self (Ex6.ext f120.2))) 6 (by decide) (by decide) (Nat.le_of_ble_eq_true rfl) (hb hby at_47)
  have V122 : Arv Z h122 b101 k101 (.object "com/example/undo_chain/undochain/sql/DateAdd$Unit") (9 : Int32) [(.ref d0), (.ref d1), (.ref d2), (.ref d3), (.ref d4), (.ref d5), (.ref d6), .null, .null] .null := V122
  have N122 := Fr.snoc X122 N119 g_b101
  refine own_st st122 ?_
  show own_Goes p e below (T122.setTop (mkF m 48 #[.val (.int p1), .unset, .unset, .unset, .unset] [(.ref b101)])) _
  refine own_st (fun _ k => XS.dup X122.here hx rfl (hb hby at_48) rfl rfl k) ?_
  show own_Goes p e below (T122.setTop (mkF m 49 #[.val (.int p1), .unset, .unset, .unset, .unset] [(.ref b101), (.ref b101)])) _
  refine own_st (fun _ k => XS.bipush X122.here hx rfl (hb hby at_49) k) ?_
  show own_Goes p e below (T122.setTop (mkF m 51 #[.val (.int p1), .unset, .unset, .unset, .unset] [(.int (7 : Int32)), (.ref b101), (.ref b101)])) _
  have f123 := (f120.wr W122 g_b101)
  obtain ⟨T124, X124, e124, st124⟩ := getS2 X122 hx hZ hown (host := "") (Or.inl (hw _ (List.mem_of_getElem? (i := 18) rfl))) Via.refl e122 (Sx7.ext f123.2) (g := (mkF m 51 #[.val (.int p1), .unset, .unset, .unset, .unset] [(.int (7 : Int32)), (.ref b101), (.ref b101)])) rfl (hb hby at_51)
  refine own_st st124 ?_
  show own_Goes p e below (T124.setTop (mkF m 54 #[.val (.int p1), .unset, .unset, .unset, .unset] [(.ref d7), (.int (7 : Int32)), (.ref b101), (.ref b101)])) _
  obtain ⟨T125, h125, X125, e125, W125, V125, st125⟩ := own_stR (y := d7) (pc := 54) (Ls := #[.val (.int p1), .unset, .unset, .unset, .unset]) (rest := [(.ref b101)]) (j := (7 : Int32)) X124 hx hZ e124 V122 rfl rfl (fun cl Ar hq0 => Sto.ofV Ar hq0 O101 (Ins.self (Ex7.ext f123.2))) 7 (by decide) (by decide) (Nat.le_of_ble_eq_true rfl) (hb hby at_54)
  have V125 : Arv Z h125 b101 k101 (.object "com/example/undo_chain/undochain/sql/DateAdd$Unit") (9 : Int32) [(.ref d0), (.ref d1), (.ref d2), (.ref d3), (.ref d4), (.ref d5), (.ref d6), (.ref d7), .null] .null := V125
  have N125 := Fr.snoc X125 N122 g_b101
  refine own_st st125 ?_
  show own_Goes p e below (T125.setTop (mkF m 55 #[.val (.int p1), .unset, .unset, .unset, .unset] [(.ref b101)])) _
  refine own_st (fun _ k => XS.dup X125.here hx rfl (hb hby at_55) rfl rfl k) ?_
  show own_Goes p e below (T125.setTop (mkF m 56 #[.val (.int p1), .unset, .unset, .unset, .unset] [(.ref b101), (.ref b101)])) _
  refine own_st (fun _ k => XS.bipush X125.here hx rfl (hb hby at_56) k) ?_
  show own_Goes p e below (T125.setTop (mkF m 58 #[.val (.int p1), .unset, .unset, .unset, .unset] [(.int (8 : Int32)), (.ref b101), (.ref b101)])) _
  have f126 := (f123.wr W125 g_b101)
  obtain ⟨T127, X127, e127, st127⟩ := getS2 X125 hx hZ hown (host := "") (Or.inl (hw _ (List.mem_of_getElem? (i := 20) rfl))) Via.refl e125 (Sx8.ext f126.2) (g := (mkF m 58 #[.val (.int p1), .unset, .unset, .unset, .unset] [(.int (8 : Int32)), (.ref b101), (.ref b101)])) rfl (hb hby at_58)
  refine own_st st127 ?_
  show own_Goes p e below (T127.setTop (mkF m 61 #[.val (.int p1), .unset, .unset, .unset, .unset] [(.ref d8), (.int (8 : Int32)), (.ref b101), (.ref b101)])) _
  obtain ⟨T128, h128, X128, e128, W128, V128, st128⟩ := own_stR (y := d8) (pc := 61) (Ls := #[.val (.int p1), .unset, .unset, .unset, .unset]) (rest := [(.ref b101)]) (j := (8 : Int32)) X127 hx hZ e127 V125 rfl rfl (fun cl Ar hq0 => Sto.ofV Ar hq0 O101 (Ins.self (Ex8.ext f126.2))) 8 (by decide) (by decide) (Nat.le_of_ble_eq_true rfl) (hb hby at_61)
  have V128 : Arv Z h128 b101 k101 (.object "com/example/undo_chain/undochain/sql/DateAdd$Unit") (9 : Int32) [(.ref d0), (.ref d1), (.ref d2), (.ref d3), (.ref d4), (.ref d5), (.ref d6), (.ref d7), (.ref d8)] .null := V128
  have N128 := Fr.snoc X128 N125 g_b101
  refine own_st st128 ?_
  show own_Goes p e below (T128.setTop (mkF m 62 #[.val (.int p1), .unset, .unset, .unset, .unset] [(.ref b101)])) _
  refine own_st (fun _ k => XS.astoreN X128.here hx rfl (hb hby at_62) rfl rfl (l' := #[.val (.int p1), .val (.ref b101), .unset, .unset, .unset]) rfl k) ?_
  show own_Goes p e below (T128.setTop (mkF m 63 #[.val (.int p1), .val (.ref b101), .unset, .unset, .unset] [])) _
  refine own_st (fun _ k => XS.bipush X128.here hx rfl (hb hby at_63) k) ?_
  show own_Goes p e below (T128.setTop (mkF m 65 #[.val (.int p1), .val (.ref b101), .unset, .unset, .unset] [(.int (9 : Int32))])) _
  have f129 := (f126.wr W128 g_b101)
  have f130 := (Nat.le_trans (Nat.le_trans (Nat.le_trans (Nat.le_trans (Nat.le_trans (Nat.le_trans (Nat.le_trans (Nat.le_trans (Nat.le_trans (Nat.le_trans Z0 E101.1) (Nat.le_of_eq W104.size.symm)) (Nat.le_of_eq W107.size.symm)) (Nat.le_of_eq W110.size.symm)) (Nat.le_of_eq W113.size.symm)) (Nat.le_of_eq W116.size.symm)) (Nat.le_of_eq W119.size.symm)) (Nat.le_of_eq W122.size.symm)) (Nat.le_of_eq W125.size.symm)) (Nat.le_of_eq W128.size.symm))
  obtain ⟨T131, h131, k131, X131, e131, E131, A131, st131⟩ := newP X128 hx hZ (hw _ (List.mem_of_getElem? (i := 22) rfl)) e128 (g := (mkF m 65 #[.val (.int p1), .val (.ref b101), .unset, .unset, .unset] [(.int (9 : Int32))])) rfl (hb hby at_65) rfl (by decide) (cap := 9) (by decide) (by decide) (by decide) (by decide)
  obtain ⟨b131, g131⟩ : ∃ z, z = h128.size := ⟨_, rfl⟩
  rw [← g131] at A131 st131
  have g_b131 : n0 ≤ b131 := Nat.le_trans f130 (Nat.le_of_eq g131.symm)
  have ne_d0_b131 : d0 ≠ b131 := by rw [g131]; exact Nat.ne_of_lt ((Ex0.ext f129.2)).lt
  have ne_d1_b131 : d1 ≠ b131 := by rw [g131]; exact Nat.ne_of_lt ((Ex1.ext f129.2)).lt
  have ne_d2_b131 : d2 ≠ b131 := by rw [g131]; exact Nat.ne_of_lt ((Ex2.ext f129.2)).lt
  have ne_d3_b131 : d3 ≠ b131 := by rw [g131]; exact Nat.ne_of_lt ((Ex3.ext f129.2)).lt
  have ne_d4_b131 : d4 ≠ b131 := by rw [g131]; exact Nat.ne_of_lt ((Ex4.ext f129.2)).lt
  have ne_d5_b131 : d5 ≠ b131 := by rw [g131]; exact Nat.ne_of_lt ((Ex5.ext f129.2)).lt
  have ne_d6_b131 : d6 ≠ b131 := by rw [g131]; exact Nat.ne_of_lt ((Ex6.ext f129.2)).lt
  have ne_d7_b131 : d7 ≠ b131 := by rw [g131]; exact Nat.ne_of_lt ((Ex7.ext f129.2)).lt
  have ne_d8_b131 : d8 ≠ b131 := by rw [g131]; exact Nat.ne_of_lt ((Ex8.ext f129.2)).lt
  have ne_b101_b131 : b101 ≠ b131 := by rw [g131]; exact Nat.ne_of_lt (V128).lt
  have V_b131 : Arv Z h131 b131 k131 .long (9 : Int32) [(.long (0 : Int64)), (.long (0 : Int64)), (.long (0 : Int64)), (.long (0 : Int64)), (.long (0 : Int64)), (.long (0 : Int64)), (.long (0 : Int64)), (.long (0 : Int64)), (.long (0 : Int64))] (.long (0 : Int64)) := Arv.pad (Arv.new A131 (by decide)) (pad_rep [] _ 9)
  refine own_st st131 ?_
  show own_Goes p e below (T131.setTop (mkF m 67 #[.val (.int p1), .val (.ref b101), .unset, .unset, .unset] [(.ref b131)])) _
  refine own_st (fun _ k => XS.dup X131.here hx rfl (hb hby at_67) rfl rfl k) ?_
  show own_Goes p e below (T131.setTop (mkF m 68 #[.val (.int p1), .val (.ref b101), .unset, .unset, .unset] [(.ref b131), (.ref b131)])) _
  refine own_st (fun _ k => XS.iconst X131.here hx rfl (hb hby at_68) k) ?_
  show own_Goes p e below (T131.setTop (mkF m 69 #[.val (.int p1), .val (.ref b101), .unset, .unset, .unset] [(.int (0 : Int32)), (.ref b131), (.ref b131)])) _
  refine own_st (fun _ k => XT.lconst X131.here hx rfl (hb hby at_69) k) ?_
  show own_Goes p e below (T131.setTop (mkF m 70 #[.val (.int p1), .val (.ref b101), .unset, .unset, .unset] [(.long (0 : Int64)), (.int (0 : Int32)), (.ref b131), (.ref b131)])) _
  obtain ⟨T132, h132, X132, e132, W132, V132, st132⟩ := own_stJ (x := (0 : Int64)) (pc := 70) (Ls := #[.val (.int p1), .val (.ref b101), .unset, .unset, .unset]) (rest := [(.ref b131)]) (j := (0 : Int32)) X131 hx hZ e131 V_b131 0 (by decide) (by decide) (Nat.le_of_ble_eq_true rfl) (hb hby at_70)
  have V132 : Arv Z h132 b131 k131 .long (9 : Int32) [(.long (0 : Int64)), (.long (0 : Int64)), (.long (0 : Int64)), (.long (0 : Int64)), (.long (0 : Int64)), (.long (0 : Int64)), (.long (0 : Int64)), (.long (0 : Int64)), (.long (0 : Int64))] (.long (0 : Int64)) := V132
  have N132 := Fr.snoc X132 N128 g_b131
  refine own_st st132 ?_
  show own_Goes p e below (T132.setTop (mkF m 71 #[.val (.int p1), .val (.ref b101), .unset, .unset, .unset] [(.ref b131)])) _
  refine own_st (fun _ k => XS.dup X132.here hx rfl (hb hby at_71) rfl rfl k) ?_
  show own_Goes p e below (T132.setTop (mkF m 72 #[.val (.int p1), .val (.ref b101), .unset, .unset, .unset] [(.ref b131), (.ref b131)])) _
  refine own_st (fun _ k => XS.iconst X132.here hx rfl (hb hby at_72) k) ?_
  show own_Goes p e below (T132.setTop (mkF m 73 #[.val (.int p1), .val (.ref b101), .unset, .unset, .unset] [(.int (1 : Int32)), (.ref b131), (.ref b131)])) _
  refine own_st (fun _ k => XT.lconst X132.here hx rfl (hb hby at_73) k) ?_
  show own_Goes p e below (T132.setTop (mkF m 74 #[.val (.int p1), .val (.ref b101), .unset, .unset, .unset] [(.long (1 : Int64)), (.int (1 : Int32)), (.ref b131), (.ref b131)])) _
  obtain ⟨T133, h133, X133, e133, W133, V133, st133⟩ := own_stJ (x := (1 : Int64)) (pc := 74) (Ls := #[.val (.int p1), .val (.ref b101), .unset, .unset, .unset]) (rest := [(.ref b131)]) (j := (1 : Int32)) X132 hx hZ e132 V132 1 (by decide) (by decide) (Nat.le_of_ble_eq_true rfl) (hb hby at_74)
  have V133 : Arv Z h133 b131 k131 .long (9 : Int32) [(.long (0 : Int64)), (.long (1 : Int64)), (.long (0 : Int64)), (.long (0 : Int64)), (.long (0 : Int64)), (.long (0 : Int64)), (.long (0 : Int64)), (.long (0 : Int64)), (.long (0 : Int64))] (.long (0 : Int64)) := V133
  have N133 := Fr.snoc X133 N132 g_b131
  refine own_st st133 ?_
  show own_Goes p e below (T133.setTop (mkF m 75 #[.val (.int p1), .val (.ref b101), .unset, .unset, .unset] [(.ref b131)])) _
  refine own_st (fun _ k => XS.dup X133.here hx rfl (hb hby at_75) rfl rfl k) ?_
  show own_Goes p e below (T133.setTop (mkF m 76 #[.val (.int p1), .val (.ref b101), .unset, .unset, .unset] [(.ref b131), (.ref b131)])) _
  refine own_st (fun _ k => XS.iconst X133.here hx rfl (hb hby at_76) k) ?_
  show own_Goes p e below (T133.setTop (mkF m 77 #[.val (.int p1), .val (.ref b101), .unset, .unset, .unset] [(.int (2 : Int32)), (.ref b131), (.ref b131)])) _
  refine own_st (X133.ldc2Long hx hown (mvT hZ (hw _ (List.mem_of_getElem? (i := 23) rfl))) (g := (mkF m 77 #[.val (.int p1), .val (.ref b101), .unset, .unset, .unset] [(.int (2 : Int32)), (.ref b131), (.ref b131)])) rfl (hb hby at_77)) ?_
  show own_Goes p e below (T133.setTop (mkF m 80 #[.val (.int p1), .val (.ref b101), .unset, .unset, .unset] [(.long (60 : Int64)), (.int (2 : Int32)), (.ref b131), (.ref b131)])) _
  obtain ⟨T134, h134, X134, e134, W134, V134, st134⟩ := own_stJ (x := (60 : Int64)) (pc := 80) (Ls := #[.val (.int p1), .val (.ref b101), .unset, .unset, .unset]) (rest := [(.ref b131)]) (j := (2 : Int32)) X133 hx hZ e133 V133 2 (by decide) (by decide) (Nat.le_of_ble_eq_true rfl) (hb hby at_80)
  have V134 : Arv Z h134 b131 k131 .long (9 : Int32) [(.long (0 : Int64)), (.long (1 : Int64)), (.long (60 : Int64)), (.long (0 : Int64)), (.long (0 : Int64)), (.long (0 : Int64)), (.long (0 : Int64)), (.long (0 : Int64)), (.long (0 : Int64))] (.long (0 : Int64)) := V134
  have N134 := Fr.snoc X134 N133 g_b131
  refine own_st st134 ?_
  show own_Goes p e below (T134.setTop (mkF m 81 #[.val (.int p1), .val (.ref b101), .unset, .unset, .unset] [(.ref b131)])) _
  refine own_st (fun _ k => XS.dup X134.here hx rfl (hb hby at_81) rfl rfl k) ?_
  show own_Goes p e below (T134.setTop (mkF m 82 #[.val (.int p1), .val (.ref b101), .unset, .unset, .unset] [(.ref b131), (.ref b131)])) _
  refine own_st (fun _ k => XS.iconst X134.here hx rfl (hb hby at_82) k) ?_
  show own_Goes p e below (T134.setTop (mkF m 83 #[.val (.int p1), .val (.ref b101), .unset, .unset, .unset] [(.int (3 : Int32)), (.ref b131), (.ref b131)])) _
  refine own_st (X134.ldc2Long hx hown (mvT hZ (hw _ (List.mem_of_getElem? (i := 24) rfl))) (g := (mkF m 83 #[.val (.int p1), .val (.ref b101), .unset, .unset, .unset] [(.int (3 : Int32)), (.ref b131), (.ref b131)])) rfl (hb hby at_83)) ?_
  show own_Goes p e below (T134.setTop (mkF m 86 #[.val (.int p1), .val (.ref b101), .unset, .unset, .unset] [(.long (3600 : Int64)), (.int (3 : Int32)), (.ref b131), (.ref b131)])) _
  obtain ⟨T135, h135, X135, e135, W135, V135, st135⟩ := own_stJ (x := (3600 : Int64)) (pc := 86) (Ls := #[.val (.int p1), .val (.ref b101), .unset, .unset, .unset]) (rest := [(.ref b131)]) (j := (3 : Int32)) X134 hx hZ e134 V134 3 (by decide) (by decide) (Nat.le_of_ble_eq_true rfl) (hb hby at_86)
  have V135 : Arv Z h135 b131 k131 .long (9 : Int32) [(.long (0 : Int64)), (.long (1 : Int64)), (.long (60 : Int64)), (.long (3600 : Int64)), (.long (0 : Int64)), (.long (0 : Int64)), (.long (0 : Int64)), (.long (0 : Int64)), (.long (0 : Int64))] (.long (0 : Int64)) := V135
  have N135 := Fr.snoc X135 N134 g_b131
  refine own_st st135 ?_
  show own_Goes p e below (T135.setTop (mkF m 87 #[.val (.int p1), .val (.ref b101), .unset, .unset, .unset] [(.ref b131)])) _
  refine own_st (fun _ k => XS.dup X135.here hx rfl (hb hby at_87) rfl rfl k) ?_
  show own_Goes p e below (T135.setTop (mkF m 88 #[.val (.int p1), .val (.ref b101), .unset, .unset, .unset] [(.ref b131), (.ref b131)])) _
  refine own_st (fun _ k => XS.iconst X135.here hx rfl (hb hby at_88) k) ?_
  show own_Goes p e below (T135.setTop (mkF m 89 #[.val (.int p1), .val (.ref b101), .unset, .unset, .unset] [(.int (4 : Int32)), (.ref b131), (.ref b131)])) _
  refine own_st (X135.ldc2Long hx hown (mvT hZ (hw _ (List.mem_of_getElem? (i := 25) rfl))) (g := (mkF m 89 #[.val (.int p1), .val (.ref b101), .unset, .unset, .unset] [(.int (4 : Int32)), (.ref b131), (.ref b131)])) rfl (hb hby at_89)) ?_
  show own_Goes p e below (T135.setTop (mkF m 92 #[.val (.int p1), .val (.ref b101), .unset, .unset, .unset] [(.long (86400 : Int64)), (.int (4 : Int32)), (.ref b131), (.ref b131)])) _
  obtain ⟨T136, h136, X136, e136, W136, V136, st136⟩ := own_stJ (x := (86400 : Int64)) (pc := 92) (Ls := #[.val (.int p1), .val (.ref b101), .unset, .unset, .unset]) (rest := [(.ref b131)]) (j := (4 : Int32)) X135 hx hZ e135 V135 4 (by decide) (by decide) (Nat.le_of_ble_eq_true rfl) (hb hby at_92)
  have V136 : Arv Z h136 b131 k131 .long (9 : Int32) [(.long (0 : Int64)), (.long (1 : Int64)), (.long (60 : Int64)), (.long (3600 : Int64)), (.long (86400 : Int64)), (.long (0 : Int64)), (.long (0 : Int64)), (.long (0 : Int64)), (.long (0 : Int64))] (.long (0 : Int64)) := V136
  have N136 := Fr.snoc X136 N135 g_b131
  refine own_st st136 ?_
  show own_Goes p e below (T136.setTop (mkF m 93 #[.val (.int p1), .val (.ref b101), .unset, .unset, .unset] [(.ref b131)])) _
  refine own_st (fun _ k => XS.dup X136.here hx rfl (hb hby at_93) rfl rfl k) ?_
  show own_Goes p e below (T136.setTop (mkF m 94 #[.val (.int p1), .val (.ref b101), .unset, .unset, .unset] [(.ref b131), (.ref b131)])) _
  refine own_st (fun _ k => XS.iconst X136.here hx rfl (hb hby at_94) k) ?_
  show own_Goes p e below (T136.setTop (mkF m 95 #[.val (.int p1), .val (.ref b101), .unset, .unset, .unset] [(.int (5 : Int32)), (.ref b131), (.ref b131)])) _
  refine own_st (X136.ldc2Long hx hown (mvT hZ (hw _ (List.mem_of_getElem? (i := 26) rfl))) (g := (mkF m 95 #[.val (.int p1), .val (.ref b101), .unset, .unset, .unset] [(.int (5 : Int32)), (.ref b131), (.ref b131)])) rfl (hb hby at_95)) ?_
  show own_Goes p e below (T136.setTop (mkF m 98 #[.val (.int p1), .val (.ref b101), .unset, .unset, .unset] [(.long (604800 : Int64)), (.int (5 : Int32)), (.ref b131), (.ref b131)])) _
  obtain ⟨T137, h137, X137, e137, W137, V137, st137⟩ := own_stJ (x := (604800 : Int64)) (pc := 98) (Ls := #[.val (.int p1), .val (.ref b101), .unset, .unset, .unset]) (rest := [(.ref b131)]) (j := (5 : Int32)) X136 hx hZ e136 V136 5 (by decide) (by decide) (Nat.le_of_ble_eq_true rfl) (hb hby at_98)
  have V137 : Arv Z h137 b131 k131 .long (9 : Int32) [(.long (0 : Int64)), (.long (1 : Int64)), (.long (60 : Int64)), (.long (3600 : Int64)), (.long (86400 : Int64)), (.long (604800 : Int64)), (.long (0 : Int64)), (.long (0 : Int64)), (.long (0 : Int64))] (.long (0 : Int64)) := V137
  have N137 := Fr.snoc X137 N136 g_b131
  refine own_st st137 ?_
  show own_Goes p e below (T137.setTop (mkF m 99 #[.val (.int p1), .val (.ref b101), .unset, .unset, .unset] [(.ref b131)])) _
  refine own_st (fun _ k => XS.dup X137.here hx rfl (hb hby at_99) rfl rfl k) ?_
  show own_Goes p e below (T137.setTop (mkF m 100 #[.val (.int p1), .val (.ref b101), .unset, .unset, .unset] [(.ref b131), (.ref b131)])) _
  refine own_st (fun _ k => XS.bipush X137.here hx rfl (hb hby at_100) k) ?_
  show own_Goes p e below (T137.setTop (mkF m 102 #[.val (.int p1), .val (.ref b101), .unset, .unset, .unset] [(.int (6 : Int32)), (.ref b131), (.ref b131)])) _
  refine own_st (X137.ldc2Long hx hown (mvT hZ (hw _ (List.mem_of_getElem? (i := 27) rfl))) (g := (mkF m 102 #[.val (.int p1), .val (.ref b101), .unset, .unset, .unset] [(.int (6 : Int32)), (.ref b131), (.ref b131)])) rfl (hb hby at_102)) ?_
  show own_Goes p e below (T137.setTop (mkF m 105 #[.val (.int p1), .val (.ref b101), .unset, .unset, .unset] [(.long (2419200 : Int64)), (.int (6 : Int32)), (.ref b131), (.ref b131)])) _
  obtain ⟨T138, h138, X138, e138, W138, V138, st138⟩ := own_stJ (x := (2419200 : Int64)) (pc := 105) (Ls := #[.val (.int p1), .val (.ref b101), .unset, .unset, .unset]) (rest := [(.ref b131)]) (j := (6 : Int32)) X137 hx hZ e137 V137 6 (by decide) (by decide) (Nat.le_of_ble_eq_true rfl) (hb hby at_105)
  have V138 : Arv Z h138 b131 k131 .long (9 : Int32) [(.long (0 : Int64)), (.long (1 : Int64)), (.long (60 : Int64)), (.long (3600 : Int64)), (.long (86400 : Int64)), (.long (604800 : Int64)), (.long (2419200 : Int64)), (.long (0 : Int64)), (.long (0 : Int64))] (.long (0 : Int64)) := V138
  have N138 := Fr.snoc X138 N137 g_b131
  refine own_st st138 ?_
  show own_Goes p e below (T138.setTop (mkF m 106 #[.val (.int p1), .val (.ref b101), .unset, .unset, .unset] [(.ref b131)])) _
  refine own_st (fun _ k => XS.dup X138.here hx rfl (hb hby at_106) rfl rfl k) ?_
  show own_Goes p e below (T138.setTop (mkF m 107 #[.val (.int p1), .val (.ref b101), .unset, .unset, .unset] [(.ref b131), (.ref b131)])) _
  refine own_st (fun _ k => XS.bipush X138.here hx rfl (hb hby at_107) k) ?_
  show own_Goes p e below (T138.setTop (mkF m 109 #[.val (.int p1), .val (.ref b101), .unset, .unset, .unset] [(.int (7 : Int32)), (.ref b131), (.ref b131)])) _
  refine own_st (X138.ldc2Long hx hown (mvT hZ (hw _ (List.mem_of_getElem? (i := 28) rfl))) (g := (mkF m 109 #[.val (.int p1), .val (.ref b101), .unset, .unset, .unset] [(.int (7 : Int32)), (.ref b131), (.ref b131)])) rfl (hb hby at_109)) ?_
  show own_Goes p e below (T138.setTop (mkF m 112 #[.val (.int p1), .val (.ref b101), .unset, .unset, .unset] [(.long (7689600 : Int64)), (.int (7 : Int32)), (.ref b131), (.ref b131)])) _
  obtain ⟨T139, h139, X139, e139, W139, V139, st139⟩ := own_stJ (x := (7689600 : Int64)) (pc := 112) (Ls := #[.val (.int p1), .val (.ref b101), .unset, .unset, .unset]) (rest := [(.ref b131)]) (j := (7 : Int32)) X138 hx hZ e138 V138 7 (by decide) (by decide) (Nat.le_of_ble_eq_true rfl) (hb hby at_112)
  have V139 : Arv Z h139 b131 k131 .long (9 : Int32) [(.long (0 : Int64)), (.long (1 : Int64)), (.long (60 : Int64)), (.long (3600 : Int64)), (.long (86400 : Int64)), (.long (604800 : Int64)), (.long (2419200 : Int64)), (.long (7689600 : Int64)), (.long (0 : Int64))] (.long (0 : Int64)) := V139
  have N139 := Fr.snoc X139 N138 g_b131
  refine own_st st139 ?_
  show own_Goes p e below (T139.setTop (mkF m 113 #[.val (.int p1), .val (.ref b101), .unset, .unset, .unset] [(.ref b131)])) _
  refine own_st (fun _ k => XS.dup X139.here hx rfl (hb hby at_113) rfl rfl k) ?_
  show own_Goes p e below (T139.setTop (mkF m 114 #[.val (.int p1), .val (.ref b101), .unset, .unset, .unset] [(.ref b131), (.ref b131)])) _
  refine own_st (fun _ k => XS.bipush X139.here hx rfl (hb hby at_114) k) ?_
  show own_Goes p e below (T139.setTop (mkF m 116 #[.val (.int p1), .val (.ref b101), .unset, .unset, .unset] [(.int (8 : Int32)), (.ref b131), (.ref b131)])) _
  refine own_st (X139.ldc2Long hx hown (mvT hZ (hw _ (List.mem_of_getElem? (i := 29) rfl))) (g := (mkF m 116 #[.val (.int p1), .val (.ref b101), .unset, .unset, .unset] [(.int (8 : Int32)), (.ref b131), (.ref b131)])) rfl (hb hby at_116)) ?_
  show own_Goes p e below (T139.setTop (mkF m 119 #[.val (.int p1), .val (.ref b101), .unset, .unset, .unset] [(.long (31536000 : Int64)), (.int (8 : Int32)), (.ref b131), (.ref b131)])) _
  obtain ⟨T140, h140, X140, e140, W140, V140, st140⟩ := own_stJ (x := (31536000 : Int64)) (pc := 119) (Ls := #[.val (.int p1), .val (.ref b101), .unset, .unset, .unset]) (rest := [(.ref b131)]) (j := (8 : Int32)) X139 hx hZ e139 V139 8 (by decide) (by decide) (Nat.le_of_ble_eq_true rfl) (hb hby at_119)
  have V140 : Arv Z h140 b131 k131 .long (9 : Int32) [(.long (0 : Int64)), (.long (1 : Int64)), (.long (60 : Int64)), (.long (3600 : Int64)), (.long (86400 : Int64)), (.long (604800 : Int64)), (.long (2419200 : Int64)), (.long (7689600 : Int64)), (.long (31536000 : Int64))] (.long (0 : Int64)) := V140
  have N140 := Fr.snoc X140 N139 g_b131
  refine own_st st140 ?_
  show own_Goes p e below (T140.setTop (mkF m 120 #[.val (.int p1), .val (.ref b101), .unset, .unset, .unset] [(.ref b131)])) _
  refine own_st (fun _ k => XS.astoreN X140.here hx rfl (hb hby at_120) rfl rfl (l' := #[.val (.int p1), .val (.ref b101), .val (.ref b131), .unset, .unset]) rfl k) ?_
  show own_Goes p e below (T140.setTop (mkF m 121 #[.val (.int p1), .val (.ref b101), .val (.ref b131), .unset, .unset] [])) _
  refine own_st (fun _ k => XS.iloadN X140.here hx rfl (hb hby at_121) rfl k) ?_
  show own_Goes p e below (T140.setTop (mkF m 122 #[.val (.int p1), .val (.ref b101), .val (.ref b131), .unset, .unset] [(.int p1)])) _
  refine own_st (X140.ldcInt hx hown (mvT hZ (hw _ (List.mem_of_getElem? (i := 30) rfl))) (g := (mkF m 122 #[.val (.int p1), .val (.ref b101), .val (.ref b131), .unset, .unset] [(.int p1)])) rfl (hb hby at_122)) ?_
  show own_Goes p e below (T140.setTop (mkF m 124 #[.val (.int p1), .val (.ref b101), .val (.ref b131), .unset, .unset] [(.int (2147483647 : Int32)), (.int p1)])) _
  refine own_st (fun _ k => XS.iand X140.here hx rfl (hb hby at_124) rfl k) ?_
  show own_Goes p e below (T140.setTop (mkF m 125 #[.val (.int p1), .val (.ref b101), .val (.ref b131), .unset, .unset] [(.int (p1 &&& (2147483647 : Int32)))])) _
  refine own_st (fun _ k => XS.bipush X140.here hx rfl (hb hby at_125) k) ?_
  show own_Goes p e below (T140.setTop (mkF m 127 #[.val (.int p1), .val (.ref b101), .val (.ref b131), .unset, .unset] [(.int (9 : Int32)), (.int (p1 &&& (2147483647 : Int32)))])) _
  refine own_st (fun _ k => iremM X140 hx rfl (hb hby at_127) rfl (by decide) k) ?_
  show own_Goes p e below (T140.setTop (mkF m 128 #[.val (.int p1), .val (.ref b101), .val (.ref b131), .unset, .unset] [(.int ((p1 &&& (2147483647 : Int32)) % (9 : Int32)))])) _
  obtain ⟨k0, hk0, hv0⟩ := own_mod9 p1
  rw [hk0]
  rcases hv0 with rfl | rfl | rfl | rfl | rfl | rfl | rfl | rfl | rfl
  · show own_Goes p e below (T140.setTop (mkF m 128 #[.val (.int p1), .val (.ref b101), .val (.ref b131), .unset, .unset] [(.int (0 : Int32))])) _
    refine own_st (fun _ k => XS.istoreN X140.here hx rfl (hb hby at_128) rfl (l' := #[.val (.int p1), .val (.ref b101), .val (.ref b131), .val (.int (0 : Int32)), .unset]) rfl k) ?_
    show own_Goes p e below (T140.setTop (mkF m 129 #[.val (.int p1), .val (.ref b101), .val (.ref b131), .val (.int (0 : Int32)), .unset] [])) _
    refine own_st (fun _ k => XS.aloadN X140.here hx rfl (hb hby at_129) rfl rfl k) ?_
    show own_Goes p e below (T140.setTop (mkF m 130 #[.val (.int p1), .val (.ref b101), .val (.ref b131), .val (.int (0 : Int32)), .unset] [(.ref b131)])) _
    refine own_st (fun _ k => XS.iloadN X140.here hx rfl (hb hby at_130) rfl k) ?_
    show own_Goes p e below (T140.setTop (mkF m 131 #[.val (.int p1), .val (.ref b101), .val (.ref b131), .val (.int (0 : Int32)), .unset] [(.int (0 : Int32)), (.ref b131)])) _
    refine own_st (own_ldJ (v := (.long (0 : Int64))) (pc := 131) (Ls := #[.val (.int p1), .val (.ref b101), .val (.ref b131), .val (.int (0 : Int32)), .unset]) (rest := []) (j := (0 : Int32)) X140 hx hZ e140 V140 (by decide) rfl (hb hby at_131)) ?_
    show own_Goes p e below (T140.setTop (mkF m 132 #[.val (.int p1), .val (.ref b101), .val (.ref b131), .val (.int (0 : Int32)), .unset] [(.long (0 : Int64))])) _
    refine own_st (X140.ldc2Long hx hown (mvT hZ (hw _ (List.mem_of_getElem? (i := 25) rfl))) (g := (mkF m 132 #[.val (.int p1), .val (.ref b101), .val (.ref b131), .val (.int (0 : Int32)), .unset] [(.long (0 : Int64))])) rfl (hb hby at_132)) ?_
    show own_Goes p e below (T140.setTop (mkF m 135 #[.val (.int p1), .val (.ref b101), .val (.ref b131), .val (.int (0 : Int32)), .unset] [(.long (86400 : Int64)), (.long (0 : Int64))])) _
    refine own_st (fun _ k => XT.lcmp X140.here hx rfl (hb hby at_135) rfl k) ?_
    show own_Goes p e below (T140.setTop (mkF m 136 #[.val (.int p1), .val (.ref b101), .val (.ref b131), .val (.int (0 : Int32)), .unset] [(.int (XT.cmpL (0 : Int64) (86400 : Int64)))])) _
    refine own_st (fun _ k => XS.ifYes X140.here hx rfl (pc0 := 136) (pc' := 143) rfl (hb hby at_136) rfl ((if0 _ _).trans (tlt (by decide : (XT.cmpL (0 : Int64) (86400 : Int64)) < (0 : Int32))).1) (by decide) (by decide) k) ?_
    show own_Goes p e below (T140.setTop (mkF m 143 #[.val (.int p1), .val (.ref b101), .val (.ref b131), .val (.int (0 : Int32)), .unset] [])) _
    refine own_st (fun _ k => XS.iconst X140.here hx rfl (hb hby at_143) k) ?_
    show own_Goes p e below (T140.setTop (mkF m 144 #[.val (.int p1), .val (.ref b101), .val (.ref b131), .val (.int (0 : Int32)), .unset] [(.int (0 : Int32))])) _
    refine own_st (fun _ k => XS.istore X140.here hx rfl (hb hby at_144) rfl (l' := #[.val (.int p1), .val (.ref b101), .val (.ref b131), .val (.int (0 : Int32)), .val (.int (0 : Int32))]) rfl k) ?_
    show own_Goes p e below (T140.setTop (mkF m 146 #[.val (.int p1), .val (.ref b101), .val (.ref b131), .val (.int (0 : Int32)), .val (.int (0 : Int32))] [])) _
    refine own_st (fun _ k => XS.aloadN X140.here hx rfl (hb hby at_146) rfl rfl k) ?_
    show own_Goes p e below (T140.setTop (mkF m 147 #[.val (.int p1), .val (.ref b101), .val (.ref b131), .val (.int (0 : Int32)), .val (.int (0 : Int32))] [(.ref b101)])) _
    refine own_st (fun _ k => XS.iloadN X140.here hx rfl (hb hby at_147) rfl k) ?_
    show own_Goes p e below (T140.setTop (mkF m 148 #[.val (.int p1), .val (.ref b101), .val (.ref b131), .val (.int (0 : Int32)), .val (.int (0 : Int32))] [(.int (0 : Int32)), (.ref b101)])) _
    have f141 := ((((((((((V128.ext E131).other W132 ne_b101_b131).other W133 ne_b101_b131).other W134 ne_b101_b131).other W135 ne_b101_b131).other W136 ne_b101_b131).other W137 ne_b101_b131).other W138 ne_b101_b131).other W139 ne_b101_b131).other W140 ne_b101_b131)
    refine own_st (own_ldR (v := (.ref d0)) (pc := 148) (Ls := #[.val (.int p1), .val (.ref b101), .val (.ref b131), .val (.int (0 : Int32)), .val (.int (0 : Int32))]) (rest := []) (j := (0 : Int32)) X140 hx hZ e140 f141 rfl (by decide) rfl (hb hby at_148)) ?_
    show own_Goes p e below (T140.setTop (mkF m 149 #[.val (.int p1), .val (.ref b101), .val (.ref b131), .val (.int (0 : Int32)), .val (.int (0 : Int32))] [(.ref d0)])) _
    have f143 := (Nat.le_trans (Nat.le_trans (Nat.le_trans (Nat.le_trans (Nat.le_trans (Nat.le_trans (Nat.le_trans (Nat.le_trans (Nat.le_trans (Nat.le_trans f130 E131.1) (Nat.le_of_eq W132.size.symm)) (Nat.le_of_eq W133.size.symm)) (Nat.le_of_eq W134.size.symm)) (Nat.le_of_eq W135.size.symm)) (Nat.le_of_eq W136.size.symm)) (Nat.le_of_eq W137.size.symm)) (Nat.le_of_eq W138.size.symm)) (Nat.le_of_eq W139.size.symm)) (Nat.le_of_eq W140.size.symm))
    have f144 := ((((((((((f129.ext E131).wr W132 g_b131).wr W133 g_b131).wr W134 g_b131).wr W135 g_b131).wr W136 g_b131).wr W137 g_b131).wr W138 g_b131).wr W139 g_b131).wr W140 g_b131)
    obtain ⟨_, T142, h142, L142, X142, e142, ⟨rfl, rfl, q142⟩, st142⟩ := own_callV (argsL := []) (rest := []) (pc := 149) (W := 0) (Ls := #[.val (.int p1), .val (.ref b101), .val (.ref b131), .val (.int (0 : Int32)), .val (.int (0 : Int32))]) (S := [(.ref d0)]) X140 hx hZ hown (hw _ (List.mem_of_getElem? (i := 31) rfl)) (hw _ (List.mem_of_getElem? (i := 32) rfl)) (hw _ (List.mem_of_getElem? (i := 34) rfl)) (hw _ (List.mem_of_getElem? (i := 33) rfl)) (hw _ (List.mem_of_getElem? (i := 3) rfl)) (hw _ (List.mem_of_getElem? (i := 35) rfl)) (notFace_of_selects (args := #[]) (mvT hZ (hw _ (List.mem_of_getElem? (i := 34) rfl)))) (by decide) (rm1 l Z a0 hw [] d0 d4 d5 d6 d7 d8 (0 : Int32) h140 n0 f143 (Sx4.ext f144.2) (Sx5.ext f144.2) (Sx6.ext f144.2) (Sx7.ext f144.2) (Sx8.ext f144.2) (by rw [own_b5, if_neg (Fx0.ne Fx4 (by decide)), if_neg (Fx0.ne Fx5 (by decide)), if_neg (Fx0.ne Fx6 (by decide)), if_neg (Fx0.ne Fx7 (by decide)), if_neg (Fx0.ne Fx8 (by decide))])) (by decide) (by decide) e140 (Ex0.ext f144.2) (by rw [hml]; rfl) (lenOf pd___Z rfl) rfl (Nat.le_of_eq rfl) (hb hby at_149) (by decide) (by decide)
    refine own_st st142 ?_
    have N142 := Fr.app N140 (Fr.nil n0)
    show own_Goes p e below (T142.setTop (mkF m 152 #[.val (.int p1), .val (.ref b101), .val (.ref b131), .val (.int (0 : Int32)), .val (.int (0 : Int32))] [(.int (0 : Int32))])) _
    refine own_st (fun _ k => XS.iload X142.here hx rfl (hb hby at_152) rfl k) ?_
    show own_Goes p e below (T142.setTop (mkF m 154 #[.val (.int p1), .val (.ref b101), .val (.ref b131), .val (.int (0 : Int32)), .val (.int (0 : Int32))] [(.int (0 : Int32)), (.int (0 : Int32))])) _
    refine own_st (fun _ k => XS.icmpNo X142.here hx rfl (hb hby at_154) rfl (teq (by decide : (0 : Int32) = (0 : Int32))).2 k) ?_
    show own_Goes p e below (T142.setTop (mkF m 157 #[.val (.int p1), .val (.ref b101), .val (.ref b131), .val (.int (0 : Int32)), .val (.int (0 : Int32))] [])) _
    refine own_st (fun _ k => XS.iconst X142.here hx rfl (hb hby at_157) k) ?_
    show own_Goes p e below (T142.setTop (mkF m 158 #[.val (.int p1), .val (.ref b101), .val (.ref b131), .val (.int (0 : Int32)), .val (.int (0 : Int32))] [(.int (1 : Int32))])) _
    refine own_st (fun _ k => XS.goto X142.here hx rfl (pc0 := 158) (pc' := 162) rfl (hb hby at_158) (by decide) (by decide) k) ?_
    show own_Goes p e below (T142.setTop (mkF m 162 #[.val (.int p1), .val (.ref b101), .val (.ref b131), .val (.int (0 : Int32)), .val (.int (0 : Int32))] [(.int (1 : Int32))])) _
    exact own_retN (t := .boolean) (z' := (1 : Int32)) X142 hx hlk hret (by simp) (by decide) (hb hby at_162) (by decide) (by decide) (e142.trans q142) ⟨rfl, N142⟩
  · show own_Goes p e below (T140.setTop (mkF m 128 #[.val (.int p1), .val (.ref b101), .val (.ref b131), .unset, .unset] [(.int (1 : Int32))])) _
    refine own_st (fun _ k => XS.istoreN X140.here hx rfl (hb hby at_128) rfl (l' := #[.val (.int p1), .val (.ref b101), .val (.ref b131), .val (.int (1 : Int32)), .unset]) rfl k) ?_
    show own_Goes p e below (T140.setTop (mkF m 129 #[.val (.int p1), .val (.ref b101), .val (.ref b131), .val (.int (1 : Int32)), .unset] [])) _
    refine own_st (fun _ k => XS.aloadN X140.here hx rfl (hb hby at_129) rfl rfl k) ?_
    show own_Goes p e below (T140.setTop (mkF m 130 #[.val (.int p1), .val (.ref b101), .val (.ref b131), .val (.int (1 : Int32)), .unset] [(.ref b131)])) _
    refine own_st (fun _ k => XS.iloadN X140.here hx rfl (hb hby at_130) rfl k) ?_
    show own_Goes p e below (T140.setTop (mkF m 131 #[.val (.int p1), .val (.ref b101), .val (.ref b131), .val (.int (1 : Int32)), .unset] [(.int (1 : Int32)), (.ref b131)])) _
    refine own_st (own_ldJ (v := (.long (1 : Int64))) (pc := 131) (Ls := #[.val (.int p1), .val (.ref b101), .val (.ref b131), .val (.int (1 : Int32)), .unset]) (rest := []) (j := (1 : Int32)) X140 hx hZ e140 V140 (by decide) rfl (hb hby at_131)) ?_
    show own_Goes p e below (T140.setTop (mkF m 132 #[.val (.int p1), .val (.ref b101), .val (.ref b131), .val (.int (1 : Int32)), .unset] [(.long (1 : Int64))])) _
    refine own_st (X140.ldc2Long hx hown (mvT hZ (hw _ (List.mem_of_getElem? (i := 25) rfl))) (g := (mkF m 132 #[.val (.int p1), .val (.ref b101), .val (.ref b131), .val (.int (1 : Int32)), .unset] [(.long (1 : Int64))])) rfl (hb hby at_132)) ?_
    show own_Goes p e below (T140.setTop (mkF m 135 #[.val (.int p1), .val (.ref b101), .val (.ref b131), .val (.int (1 : Int32)), .unset] [(.long (86400 : Int64)), (.long (1 : Int64))])) _
    refine own_st (fun _ k => XT.lcmp X140.here hx rfl (hb hby at_135) rfl k) ?_
    show own_Goes p e below (T140.setTop (mkF m 136 #[.val (.int p1), .val (.ref b101), .val (.ref b131), .val (.int (1 : Int32)), .unset] [(.int (XT.cmpL (1 : Int64) (86400 : Int64)))])) _
    refine own_st (fun _ k => XS.ifYes X140.here hx rfl (pc0 := 136) (pc' := 143) rfl (hb hby at_136) rfl ((if0 _ _).trans (tlt (by decide : (XT.cmpL (1 : Int64) (86400 : Int64)) < (0 : Int32))).1) (by decide) (by decide) k) ?_
    show own_Goes p e below (T140.setTop (mkF m 143 #[.val (.int p1), .val (.ref b101), .val (.ref b131), .val (.int (1 : Int32)), .unset] [])) _
    refine own_st (fun _ k => XS.iconst X140.here hx rfl (hb hby at_143) k) ?_
    show own_Goes p e below (T140.setTop (mkF m 144 #[.val (.int p1), .val (.ref b101), .val (.ref b131), .val (.int (1 : Int32)), .unset] [(.int (0 : Int32))])) _
    refine own_st (fun _ k => XS.istore X140.here hx rfl (hb hby at_144) rfl (l' := #[.val (.int p1), .val (.ref b101), .val (.ref b131), .val (.int (1 : Int32)), .val (.int (0 : Int32))]) rfl k) ?_
    show own_Goes p e below (T140.setTop (mkF m 146 #[.val (.int p1), .val (.ref b101), .val (.ref b131), .val (.int (1 : Int32)), .val (.int (0 : Int32))] [])) _
    refine own_st (fun _ k => XS.aloadN X140.here hx rfl (hb hby at_146) rfl rfl k) ?_
    show own_Goes p e below (T140.setTop (mkF m 147 #[.val (.int p1), .val (.ref b101), .val (.ref b131), .val (.int (1 : Int32)), .val (.int (0 : Int32))] [(.ref b101)])) _
    refine own_st (fun _ k => XS.iloadN X140.here hx rfl (hb hby at_147) rfl k) ?_
    show own_Goes p e below (T140.setTop (mkF m 148 #[.val (.int p1), .val (.ref b101), .val (.ref b131), .val (.int (1 : Int32)), .val (.int (0 : Int32))] [(.int (1 : Int32)), (.ref b101)])) _
    have f145 := ((((((((((V128.ext E131).other W132 ne_b101_b131).other W133 ne_b101_b131).other W134 ne_b101_b131).other W135 ne_b101_b131).other W136 ne_b101_b131).other W137 ne_b101_b131).other W138 ne_b101_b131).other W139 ne_b101_b131).other W140 ne_b101_b131)
    refine own_st (own_ldR (v := (.ref d1)) (pc := 148) (Ls := #[.val (.int p1), .val (.ref b101), .val (.ref b131), .val (.int (1 : Int32)), .val (.int (0 : Int32))]) (rest := []) (j := (1 : Int32)) X140 hx hZ e140 f145 rfl (by decide) rfl (hb hby at_148)) ?_
    show own_Goes p e below (T140.setTop (mkF m 149 #[.val (.int p1), .val (.ref b101), .val (.ref b131), .val (.int (1 : Int32)), .val (.int (0 : Int32))] [(.ref d1)])) _
    have f147 := (Nat.le_trans (Nat.le_trans (Nat.le_trans (Nat.le_trans (Nat.le_trans (Nat.le_trans (Nat.le_trans (Nat.le_trans (Nat.le_trans (Nat.le_trans f130 E131.1) (Nat.le_of_eq W132.size.symm)) (Nat.le_of_eq W133.size.symm)) (Nat.le_of_eq W134.size.symm)) (Nat.le_of_eq W135.size.symm)) (Nat.le_of_eq W136.size.symm)) (Nat.le_of_eq W137.size.symm)) (Nat.le_of_eq W138.size.symm)) (Nat.le_of_eq W139.size.symm)) (Nat.le_of_eq W140.size.symm))
    have f148 := ((((((((((f129.ext E131).wr W132 g_b131).wr W133 g_b131).wr W134 g_b131).wr W135 g_b131).wr W136 g_b131).wr W137 g_b131).wr W138 g_b131).wr W139 g_b131).wr W140 g_b131)
    obtain ⟨_, T146, h146, L146, X146, e146, ⟨rfl, rfl, q146⟩, st146⟩ := own_callV (argsL := []) (rest := []) (pc := 149) (W := 0) (Ls := #[.val (.int p1), .val (.ref b101), .val (.ref b131), .val (.int (1 : Int32)), .val (.int (0 : Int32))]) (S := [(.ref d1)]) X140 hx hZ hown (hw _ (List.mem_of_getElem? (i := 31) rfl)) (hw _ (List.mem_of_getElem? (i := 32) rfl)) (hw _ (List.mem_of_getElem? (i := 34) rfl)) (hw _ (List.mem_of_getElem? (i := 33) rfl)) (hw _ (List.mem_of_getElem? (i := 3) rfl)) (hw _ (List.mem_of_getElem? (i := 35) rfl)) (notFace_of_selects (args := #[]) (mvT hZ (hw _ (List.mem_of_getElem? (i := 34) rfl)))) (by decide) (rm1 l Z a0 hw [] d1 d4 d5 d6 d7 d8 (0 : Int32) h140 n0 f147 (Sx4.ext f148.2) (Sx5.ext f148.2) (Sx6.ext f148.2) (Sx7.ext f148.2) (Sx8.ext f148.2) (by rw [own_b5, if_neg (Fx1.ne Fx4 (by decide)), if_neg (Fx1.ne Fx5 (by decide)), if_neg (Fx1.ne Fx6 (by decide)), if_neg (Fx1.ne Fx7 (by decide)), if_neg (Fx1.ne Fx8 (by decide))])) (by decide) (by decide) e140 (Ex1.ext f148.2) (by rw [hml]; rfl) (lenOf pd___Z rfl) rfl (Nat.le_of_eq rfl) (hb hby at_149) (by decide) (by decide)
    refine own_st st146 ?_
    have N146 := Fr.app N140 (Fr.nil n0)
    show own_Goes p e below (T146.setTop (mkF m 152 #[.val (.int p1), .val (.ref b101), .val (.ref b131), .val (.int (1 : Int32)), .val (.int (0 : Int32))] [(.int (0 : Int32))])) _
    refine own_st (fun _ k => XS.iload X146.here hx rfl (hb hby at_152) rfl k) ?_
    show own_Goes p e below (T146.setTop (mkF m 154 #[.val (.int p1), .val (.ref b101), .val (.ref b131), .val (.int (1 : Int32)), .val (.int (0 : Int32))] [(.int (0 : Int32)), (.int (0 : Int32))])) _
    refine own_st (fun _ k => XS.icmpNo X146.here hx rfl (hb hby at_154) rfl (teq (by decide : (0 : Int32) = (0 : Int32))).2 k) ?_
    show own_Goes p e below (T146.setTop (mkF m 157 #[.val (.int p1), .val (.ref b101), .val (.ref b131), .val (.int (1 : Int32)), .val (.int (0 : Int32))] [])) _
    refine own_st (fun _ k => XS.iconst X146.here hx rfl (hb hby at_157) k) ?_
    show own_Goes p e below (T146.setTop (mkF m 158 #[.val (.int p1), .val (.ref b101), .val (.ref b131), .val (.int (1 : Int32)), .val (.int (0 : Int32))] [(.int (1 : Int32))])) _
    refine own_st (fun _ k => XS.goto X146.here hx rfl (pc0 := 158) (pc' := 162) rfl (hb hby at_158) (by decide) (by decide) k) ?_
    show own_Goes p e below (T146.setTop (mkF m 162 #[.val (.int p1), .val (.ref b101), .val (.ref b131), .val (.int (1 : Int32)), .val (.int (0 : Int32))] [(.int (1 : Int32))])) _
    exact own_retN (t := .boolean) (z' := (1 : Int32)) X146 hx hlk hret (by simp) (by decide) (hb hby at_162) (by decide) (by decide) (e146.trans q146) ⟨rfl, N146⟩
  · show own_Goes p e below (T140.setTop (mkF m 128 #[.val (.int p1), .val (.ref b101), .val (.ref b131), .unset, .unset] [(.int (2 : Int32))])) _
    refine own_st (fun _ k => XS.istoreN X140.here hx rfl (hb hby at_128) rfl (l' := #[.val (.int p1), .val (.ref b101), .val (.ref b131), .val (.int (2 : Int32)), .unset]) rfl k) ?_
    show own_Goes p e below (T140.setTop (mkF m 129 #[.val (.int p1), .val (.ref b101), .val (.ref b131), .val (.int (2 : Int32)), .unset] [])) _
    refine own_st (fun _ k => XS.aloadN X140.here hx rfl (hb hby at_129) rfl rfl k) ?_
    show own_Goes p e below (T140.setTop (mkF m 130 #[.val (.int p1), .val (.ref b101), .val (.ref b131), .val (.int (2 : Int32)), .unset] [(.ref b131)])) _
    refine own_st (fun _ k => XS.iloadN X140.here hx rfl (hb hby at_130) rfl k) ?_
    show own_Goes p e below (T140.setTop (mkF m 131 #[.val (.int p1), .val (.ref b101), .val (.ref b131), .val (.int (2 : Int32)), .unset] [(.int (2 : Int32)), (.ref b131)])) _
    refine own_st (own_ldJ (v := (.long (60 : Int64))) (pc := 131) (Ls := #[.val (.int p1), .val (.ref b101), .val (.ref b131), .val (.int (2 : Int32)), .unset]) (rest := []) (j := (2 : Int32)) X140 hx hZ e140 V140 (by decide) rfl (hb hby at_131)) ?_
    show own_Goes p e below (T140.setTop (mkF m 132 #[.val (.int p1), .val (.ref b101), .val (.ref b131), .val (.int (2 : Int32)), .unset] [(.long (60 : Int64))])) _
    refine own_st (X140.ldc2Long hx hown (mvT hZ (hw _ (List.mem_of_getElem? (i := 25) rfl))) (g := (mkF m 132 #[.val (.int p1), .val (.ref b101), .val (.ref b131), .val (.int (2 : Int32)), .unset] [(.long (60 : Int64))])) rfl (hb hby at_132)) ?_
    show own_Goes p e below (T140.setTop (mkF m 135 #[.val (.int p1), .val (.ref b101), .val (.ref b131), .val (.int (2 : Int32)), .unset] [(.long (86400 : Int64)), (.long (60 : Int64))])) _
    refine own_st (fun _ k => XT.lcmp X140.here hx rfl (hb hby at_135) rfl k) ?_
    show own_Goes p e below (T140.setTop (mkF m 136 #[.val (.int p1), .val (.ref b101), .val (.ref b131), .val (.int (2 : Int32)), .unset] [(.int (XT.cmpL (60 : Int64) (86400 : Int64)))])) _
    refine own_st (fun _ k => XS.ifYes X140.here hx rfl (pc0 := 136) (pc' := 143) rfl (hb hby at_136) rfl ((if0 _ _).trans (tlt (by decide : (XT.cmpL (60 : Int64) (86400 : Int64)) < (0 : Int32))).1) (by decide) (by decide) k) ?_
    show own_Goes p e below (T140.setTop (mkF m 143 #[.val (.int p1), .val (.ref b101), .val (.ref b131), .val (.int (2 : Int32)), .unset] [])) _
    refine own_st (fun _ k => XS.iconst X140.here hx rfl (hb hby at_143) k) ?_
    show own_Goes p e below (T140.setTop (mkF m 144 #[.val (.int p1), .val (.ref b101), .val (.ref b131), .val (.int (2 : Int32)), .unset] [(.int (0 : Int32))])) _
    refine own_st (fun _ k => XS.istore X140.here hx rfl (hb hby at_144) rfl (l' := #[.val (.int p1), .val (.ref b101), .val (.ref b131), .val (.int (2 : Int32)), .val (.int (0 : Int32))]) rfl k) ?_
    show own_Goes p e below (T140.setTop (mkF m 146 #[.val (.int p1), .val (.ref b101), .val (.ref b131), .val (.int (2 : Int32)), .val (.int (0 : Int32))] [])) _
    refine own_st (fun _ k => XS.aloadN X140.here hx rfl (hb hby at_146) rfl rfl k) ?_
    show own_Goes p e below (T140.setTop (mkF m 147 #[.val (.int p1), .val (.ref b101), .val (.ref b131), .val (.int (2 : Int32)), .val (.int (0 : Int32))] [(.ref b101)])) _
    refine own_st (fun _ k => XS.iloadN X140.here hx rfl (hb hby at_147) rfl k) ?_
    show own_Goes p e below (T140.setTop (mkF m 148 #[.val (.int p1), .val (.ref b101), .val (.ref b131), .val (.int (2 : Int32)), .val (.int (0 : Int32))] [(.int (2 : Int32)), (.ref b101)])) _
    have f149 := ((((((((((V128.ext E131).other W132 ne_b101_b131).other W133 ne_b101_b131).other W134 ne_b101_b131).other W135 ne_b101_b131).other W136 ne_b101_b131).other W137 ne_b101_b131).other W138 ne_b101_b131).other W139 ne_b101_b131).other W140 ne_b101_b131)
    refine own_st (own_ldR (v := (.ref d2)) (pc := 148) (Ls := #[.val (.int p1), .val (.ref b101), .val (.ref b131), .val (.int (2 : Int32)), .val (.int (0 : Int32))]) (rest := []) (j := (2 : Int32)) X140 hx hZ e140 f149 rfl (by decide) rfl (hb hby at_148)) ?_
    show own_Goes p e below (T140.setTop (mkF m 149 #[.val (.int p1), .val (.ref b101), .val (.ref b131), .val (.int (2 : Int32)), .val (.int (0 : Int32))] [(.ref d2)])) _
    have f151 := (Nat.le_trans (Nat.le_trans (Nat.le_trans (Nat.le_trans (Nat.le_trans (Nat.le_trans (Nat.le_trans (Nat.le_trans (Nat.le_trans (Nat.le_trans f130 E131.1) (Nat.le_of_eq W132.size.symm)) (Nat.le_of_eq W133.size.symm)) (Nat.le_of_eq W134.size.symm)) (Nat.le_of_eq W135.size.symm)) (Nat.le_of_eq W136.size.symm)) (Nat.le_of_eq W137.size.symm)) (Nat.le_of_eq W138.size.symm)) (Nat.le_of_eq W139.size.symm)) (Nat.le_of_eq W140.size.symm))
    have f152 := ((((((((((f129.ext E131).wr W132 g_b131).wr W133 g_b131).wr W134 g_b131).wr W135 g_b131).wr W136 g_b131).wr W137 g_b131).wr W138 g_b131).wr W139 g_b131).wr W140 g_b131)
    obtain ⟨_, T150, h150, L150, X150, e150, ⟨rfl, rfl, q150⟩, st150⟩ := own_callV (argsL := []) (rest := []) (pc := 149) (W := 0) (Ls := #[.val (.int p1), .val (.ref b101), .val (.ref b131), .val (.int (2 : Int32)), .val (.int (0 : Int32))]) (S := [(.ref d2)]) X140 hx hZ hown (hw _ (List.mem_of_getElem? (i := 31) rfl)) (hw _ (List.mem_of_getElem? (i := 32) rfl)) (hw _ (List.mem_of_getElem? (i := 34) rfl)) (hw _ (List.mem_of_getElem? (i := 33) rfl)) (hw _ (List.mem_of_getElem? (i := 3) rfl)) (hw _ (List.mem_of_getElem? (i := 35) rfl)) (notFace_of_selects (args := #[]) (mvT hZ (hw _ (List.mem_of_getElem? (i := 34) rfl)))) (by decide) (rm1 l Z a0 hw [] d2 d4 d5 d6 d7 d8 (0 : Int32) h140 n0 f151 (Sx4.ext f152.2) (Sx5.ext f152.2) (Sx6.ext f152.2) (Sx7.ext f152.2) (Sx8.ext f152.2) (by rw [own_b5, if_neg (Fx2.ne Fx4 (by decide)), if_neg (Fx2.ne Fx5 (by decide)), if_neg (Fx2.ne Fx6 (by decide)), if_neg (Fx2.ne Fx7 (by decide)), if_neg (Fx2.ne Fx8 (by decide))])) (by decide) (by decide) e140 (Ex2.ext f152.2) (by rw [hml]; rfl) (lenOf pd___Z rfl) rfl (Nat.le_of_eq rfl) (hb hby at_149) (by decide) (by decide)
    refine own_st st150 ?_
    have N150 := Fr.app N140 (Fr.nil n0)
    show own_Goes p e below (T150.setTop (mkF m 152 #[.val (.int p1), .val (.ref b101), .val (.ref b131), .val (.int (2 : Int32)), .val (.int (0 : Int32))] [(.int (0 : Int32))])) _
    refine own_st (fun _ k => XS.iload X150.here hx rfl (hb hby at_152) rfl k) ?_
    show own_Goes p e below (T150.setTop (mkF m 154 #[.val (.int p1), .val (.ref b101), .val (.ref b131), .val (.int (2 : Int32)), .val (.int (0 : Int32))] [(.int (0 : Int32)), (.int (0 : Int32))])) _
    refine own_st (fun _ k => XS.icmpNo X150.here hx rfl (hb hby at_154) rfl (teq (by decide : (0 : Int32) = (0 : Int32))).2 k) ?_
    show own_Goes p e below (T150.setTop (mkF m 157 #[.val (.int p1), .val (.ref b101), .val (.ref b131), .val (.int (2 : Int32)), .val (.int (0 : Int32))] [])) _
    refine own_st (fun _ k => XS.iconst X150.here hx rfl (hb hby at_157) k) ?_
    show own_Goes p e below (T150.setTop (mkF m 158 #[.val (.int p1), .val (.ref b101), .val (.ref b131), .val (.int (2 : Int32)), .val (.int (0 : Int32))] [(.int (1 : Int32))])) _
    refine own_st (fun _ k => XS.goto X150.here hx rfl (pc0 := 158) (pc' := 162) rfl (hb hby at_158) (by decide) (by decide) k) ?_
    show own_Goes p e below (T150.setTop (mkF m 162 #[.val (.int p1), .val (.ref b101), .val (.ref b131), .val (.int (2 : Int32)), .val (.int (0 : Int32))] [(.int (1 : Int32))])) _
    exact own_retN (t := .boolean) (z' := (1 : Int32)) X150 hx hlk hret (by simp) (by decide) (hb hby at_162) (by decide) (by decide) (e150.trans q150) ⟨rfl, N150⟩
  · show own_Goes p e below (T140.setTop (mkF m 128 #[.val (.int p1), .val (.ref b101), .val (.ref b131), .unset, .unset] [(.int (3 : Int32))])) _
    refine own_st (fun _ k => XS.istoreN X140.here hx rfl (hb hby at_128) rfl (l' := #[.val (.int p1), .val (.ref b101), .val (.ref b131), .val (.int (3 : Int32)), .unset]) rfl k) ?_
    show own_Goes p e below (T140.setTop (mkF m 129 #[.val (.int p1), .val (.ref b101), .val (.ref b131), .val (.int (3 : Int32)), .unset] [])) _
    refine own_st (fun _ k => XS.aloadN X140.here hx rfl (hb hby at_129) rfl rfl k) ?_
    show own_Goes p e below (T140.setTop (mkF m 130 #[.val (.int p1), .val (.ref b101), .val (.ref b131), .val (.int (3 : Int32)), .unset] [(.ref b131)])) _
    refine own_st (fun _ k => XS.iloadN X140.here hx rfl (hb hby at_130) rfl k) ?_
    show own_Goes p e below (T140.setTop (mkF m 131 #[.val (.int p1), .val (.ref b101), .val (.ref b131), .val (.int (3 : Int32)), .unset] [(.int (3 : Int32)), (.ref b131)])) _
    refine own_st (own_ldJ (v := (.long (3600 : Int64))) (pc := 131) (Ls := #[.val (.int p1), .val (.ref b101), .val (.ref b131), .val (.int (3 : Int32)), .unset]) (rest := []) (j := (3 : Int32)) X140 hx hZ e140 V140 (by decide) rfl (hb hby at_131)) ?_
    show own_Goes p e below (T140.setTop (mkF m 132 #[.val (.int p1), .val (.ref b101), .val (.ref b131), .val (.int (3 : Int32)), .unset] [(.long (3600 : Int64))])) _
    refine own_st (X140.ldc2Long hx hown (mvT hZ (hw _ (List.mem_of_getElem? (i := 25) rfl))) (g := (mkF m 132 #[.val (.int p1), .val (.ref b101), .val (.ref b131), .val (.int (3 : Int32)), .unset] [(.long (3600 : Int64))])) rfl (hb hby at_132)) ?_
    show own_Goes p e below (T140.setTop (mkF m 135 #[.val (.int p1), .val (.ref b101), .val (.ref b131), .val (.int (3 : Int32)), .unset] [(.long (86400 : Int64)), (.long (3600 : Int64))])) _
    refine own_st (fun _ k => XT.lcmp X140.here hx rfl (hb hby at_135) rfl k) ?_
    show own_Goes p e below (T140.setTop (mkF m 136 #[.val (.int p1), .val (.ref b101), .val (.ref b131), .val (.int (3 : Int32)), .unset] [(.int (XT.cmpL (3600 : Int64) (86400 : Int64)))])) _
    refine own_st (fun _ k => XS.ifYes X140.here hx rfl (pc0 := 136) (pc' := 143) rfl (hb hby at_136) rfl ((if0 _ _).trans (tlt (by decide : (XT.cmpL (3600 : Int64) (86400 : Int64)) < (0 : Int32))).1) (by decide) (by decide) k) ?_
    show own_Goes p e below (T140.setTop (mkF m 143 #[.val (.int p1), .val (.ref b101), .val (.ref b131), .val (.int (3 : Int32)), .unset] [])) _
    refine own_st (fun _ k => XS.iconst X140.here hx rfl (hb hby at_143) k) ?_
    show own_Goes p e below (T140.setTop (mkF m 144 #[.val (.int p1), .val (.ref b101), .val (.ref b131), .val (.int (3 : Int32)), .unset] [(.int (0 : Int32))])) _
    refine own_st (fun _ k => XS.istore X140.here hx rfl (hb hby at_144) rfl (l' := #[.val (.int p1), .val (.ref b101), .val (.ref b131), .val (.int (3 : Int32)), .val (.int (0 : Int32))]) rfl k) ?_
    show own_Goes p e below (T140.setTop (mkF m 146 #[.val (.int p1), .val (.ref b101), .val (.ref b131), .val (.int (3 : Int32)), .val (.int (0 : Int32))] [])) _
    refine own_st (fun _ k => XS.aloadN X140.here hx rfl (hb hby at_146) rfl rfl k) ?_
    show own_Goes p e below (T140.setTop (mkF m 147 #[.val (.int p1), .val (.ref b101), .val (.ref b131), .val (.int (3 : Int32)), .val (.int (0 : Int32))] [(.ref b101)])) _
    refine own_st (fun _ k => XS.iloadN X140.here hx rfl (hb hby at_147) rfl k) ?_
    show own_Goes p e below (T140.setTop (mkF m 148 #[.val (.int p1), .val (.ref b101), .val (.ref b131), .val (.int (3 : Int32)), .val (.int (0 : Int32))] [(.int (3 : Int32)), (.ref b101)])) _
    have f153 := ((((((((((V128.ext E131).other W132 ne_b101_b131).other W133 ne_b101_b131).other W134 ne_b101_b131).other W135 ne_b101_b131).other W136 ne_b101_b131).other W137 ne_b101_b131).other W138 ne_b101_b131).other W139 ne_b101_b131).other W140 ne_b101_b131)
    refine own_st (own_ldR (v := (.ref d3)) (pc := 148) (Ls := #[.val (.int p1), .val (.ref b101), .val (.ref b131), .val (.int (3 : Int32)), .val (.int (0 : Int32))]) (rest := []) (j := (3 : Int32)) X140 hx hZ e140 f153 rfl (by decide) rfl (hb hby at_148)) ?_
    show own_Goes p e below (T140.setTop (mkF m 149 #[.val (.int p1), .val (.ref b101), .val (.ref b131), .val (.int (3 : Int32)), .val (.int (0 : Int32))] [(.ref d3)])) _
    have f155 := (Nat.le_trans (Nat.le_trans (Nat.le_trans (Nat.le_trans (Nat.le_trans (Nat.le_trans (Nat.le_trans (Nat.le_trans (Nat.le_trans (Nat.le_trans f130 E131.1) (Nat.le_of_eq W132.size.symm)) (Nat.le_of_eq W133.size.symm)) (Nat.le_of_eq W134.size.symm)) (Nat.le_of_eq W135.size.symm)) (Nat.le_of_eq W136.size.symm)) (Nat.le_of_eq W137.size.symm)) (Nat.le_of_eq W138.size.symm)) (Nat.le_of_eq W139.size.symm)) (Nat.le_of_eq W140.size.symm))
    have f156 := ((((((((((f129.ext E131).wr W132 g_b131).wr W133 g_b131).wr W134 g_b131).wr W135 g_b131).wr W136 g_b131).wr W137 g_b131).wr W138 g_b131).wr W139 g_b131).wr W140 g_b131)
    obtain ⟨_, T154, h154, L154, X154, e154, ⟨rfl, rfl, q154⟩, st154⟩ := own_callV (argsL := []) (rest := []) (pc := 149) (W := 0) (Ls := #[.val (.int p1), .val (.ref b101), .val (.ref b131), .val (.int (3 : Int32)), .val (.int (0 : Int32))]) (S := [(.ref d3)]) X140 hx hZ hown (hw _ (List.mem_of_getElem? (i := 31) rfl)) (hw _ (List.mem_of_getElem? (i := 32) rfl)) (hw _ (List.mem_of_getElem? (i := 34) rfl)) (hw _ (List.mem_of_getElem? (i := 33) rfl)) (hw _ (List.mem_of_getElem? (i := 3) rfl)) (hw _ (List.mem_of_getElem? (i := 35) rfl)) (notFace_of_selects (args := #[]) (mvT hZ (hw _ (List.mem_of_getElem? (i := 34) rfl)))) (by decide) (rm1 l Z a0 hw [] d3 d4 d5 d6 d7 d8 (0 : Int32) h140 n0 f155 (Sx4.ext f156.2) (Sx5.ext f156.2) (Sx6.ext f156.2) (Sx7.ext f156.2) (Sx8.ext f156.2) (by rw [own_b5, if_neg (Fx3.ne Fx4 (by decide)), if_neg (Fx3.ne Fx5 (by decide)), if_neg (Fx3.ne Fx6 (by decide)), if_neg (Fx3.ne Fx7 (by decide)), if_neg (Fx3.ne Fx8 (by decide))])) (by decide) (by decide) e140 (Ex3.ext f156.2) (by rw [hml]; rfl) (lenOf pd___Z rfl) rfl (Nat.le_of_eq rfl) (hb hby at_149) (by decide) (by decide)
    refine own_st st154 ?_
    have N154 := Fr.app N140 (Fr.nil n0)
    show own_Goes p e below (T154.setTop (mkF m 152 #[.val (.int p1), .val (.ref b101), .val (.ref b131), .val (.int (3 : Int32)), .val (.int (0 : Int32))] [(.int (0 : Int32))])) _
    refine own_st (fun _ k => XS.iload X154.here hx rfl (hb hby at_152) rfl k) ?_
    show own_Goes p e below (T154.setTop (mkF m 154 #[.val (.int p1), .val (.ref b101), .val (.ref b131), .val (.int (3 : Int32)), .val (.int (0 : Int32))] [(.int (0 : Int32)), (.int (0 : Int32))])) _
    refine own_st (fun _ k => XS.icmpNo X154.here hx rfl (hb hby at_154) rfl (teq (by decide : (0 : Int32) = (0 : Int32))).2 k) ?_
    show own_Goes p e below (T154.setTop (mkF m 157 #[.val (.int p1), .val (.ref b101), .val (.ref b131), .val (.int (3 : Int32)), .val (.int (0 : Int32))] [])) _
    refine own_st (fun _ k => XS.iconst X154.here hx rfl (hb hby at_157) k) ?_
    show own_Goes p e below (T154.setTop (mkF m 158 #[.val (.int p1), .val (.ref b101), .val (.ref b131), .val (.int (3 : Int32)), .val (.int (0 : Int32))] [(.int (1 : Int32))])) _
    refine own_st (fun _ k => XS.goto X154.here hx rfl (pc0 := 158) (pc' := 162) rfl (hb hby at_158) (by decide) (by decide) k) ?_
    show own_Goes p e below (T154.setTop (mkF m 162 #[.val (.int p1), .val (.ref b101), .val (.ref b131), .val (.int (3 : Int32)), .val (.int (0 : Int32))] [(.int (1 : Int32))])) _
    exact own_retN (t := .boolean) (z' := (1 : Int32)) X154 hx hlk hret (by simp) (by decide) (hb hby at_162) (by decide) (by decide) (e154.trans q154) ⟨rfl, N154⟩
  · show own_Goes p e below (T140.setTop (mkF m 128 #[.val (.int p1), .val (.ref b101), .val (.ref b131), .unset, .unset] [(.int (4 : Int32))])) _
    refine own_st (fun _ k => XS.istoreN X140.here hx rfl (hb hby at_128) rfl (l' := #[.val (.int p1), .val (.ref b101), .val (.ref b131), .val (.int (4 : Int32)), .unset]) rfl k) ?_
    show own_Goes p e below (T140.setTop (mkF m 129 #[.val (.int p1), .val (.ref b101), .val (.ref b131), .val (.int (4 : Int32)), .unset] [])) _
    refine own_st (fun _ k => XS.aloadN X140.here hx rfl (hb hby at_129) rfl rfl k) ?_
    show own_Goes p e below (T140.setTop (mkF m 130 #[.val (.int p1), .val (.ref b101), .val (.ref b131), .val (.int (4 : Int32)), .unset] [(.ref b131)])) _
    refine own_st (fun _ k => XS.iloadN X140.here hx rfl (hb hby at_130) rfl k) ?_
    show own_Goes p e below (T140.setTop (mkF m 131 #[.val (.int p1), .val (.ref b101), .val (.ref b131), .val (.int (4 : Int32)), .unset] [(.int (4 : Int32)), (.ref b131)])) _
    refine own_st (own_ldJ (v := (.long (86400 : Int64))) (pc := 131) (Ls := #[.val (.int p1), .val (.ref b101), .val (.ref b131), .val (.int (4 : Int32)), .unset]) (rest := []) (j := (4 : Int32)) X140 hx hZ e140 V140 (by decide) rfl (hb hby at_131)) ?_
    show own_Goes p e below (T140.setTop (mkF m 132 #[.val (.int p1), .val (.ref b101), .val (.ref b131), .val (.int (4 : Int32)), .unset] [(.long (86400 : Int64))])) _
    refine own_st (X140.ldc2Long hx hown (mvT hZ (hw _ (List.mem_of_getElem? (i := 25) rfl))) (g := (mkF m 132 #[.val (.int p1), .val (.ref b101), .val (.ref b131), .val (.int (4 : Int32)), .unset] [(.long (86400 : Int64))])) rfl (hb hby at_132)) ?_
    show own_Goes p e below (T140.setTop (mkF m 135 #[.val (.int p1), .val (.ref b101), .val (.ref b131), .val (.int (4 : Int32)), .unset] [(.long (86400 : Int64)), (.long (86400 : Int64))])) _
    refine own_st (fun _ k => XT.lcmp X140.here hx rfl (hb hby at_135) rfl k) ?_
    show own_Goes p e below (T140.setTop (mkF m 136 #[.val (.int p1), .val (.ref b101), .val (.ref b131), .val (.int (4 : Int32)), .unset] [(.int (XT.cmpL (86400 : Int64) (86400 : Int64)))])) _
    refine own_st (fun _ k => XS.ifNo X140.here hx rfl (hb hby at_136) rfl ((if0 _ _).trans (flt (by decide : ¬ ((XT.cmpL (86400 : Int64) (86400 : Int64)) < (0 : Int32)))).1) k) ?_
    show own_Goes p e below (T140.setTop (mkF m 139 #[.val (.int p1), .val (.ref b101), .val (.ref b131), .val (.int (4 : Int32)), .unset] [])) _
    refine own_st (fun _ k => XS.iconst X140.here hx rfl (hb hby at_139) k) ?_
    show own_Goes p e below (T140.setTop (mkF m 140 #[.val (.int p1), .val (.ref b101), .val (.ref b131), .val (.int (4 : Int32)), .unset] [(.int (1 : Int32))])) _
    refine own_st (fun _ k => XS.goto X140.here hx rfl (pc0 := 140) (pc' := 144) rfl (hb hby at_140) (by decide) (by decide) k) ?_
    show own_Goes p e below (T140.setTop (mkF m 144 #[.val (.int p1), .val (.ref b101), .val (.ref b131), .val (.int (4 : Int32)), .unset] [(.int (1 : Int32))])) _
    refine own_st (fun _ k => XS.istore X140.here hx rfl (hb hby at_144) rfl (l' := #[.val (.int p1), .val (.ref b101), .val (.ref b131), .val (.int (4 : Int32)), .val (.int (1 : Int32))]) rfl k) ?_
    show own_Goes p e below (T140.setTop (mkF m 146 #[.val (.int p1), .val (.ref b101), .val (.ref b131), .val (.int (4 : Int32)), .val (.int (1 : Int32))] [])) _
    refine own_st (fun _ k => XS.aloadN X140.here hx rfl (hb hby at_146) rfl rfl k) ?_
    show own_Goes p e below (T140.setTop (mkF m 147 #[.val (.int p1), .val (.ref b101), .val (.ref b131), .val (.int (4 : Int32)), .val (.int (1 : Int32))] [(.ref b101)])) _
    refine own_st (fun _ k => XS.iloadN X140.here hx rfl (hb hby at_147) rfl k) ?_
    show own_Goes p e below (T140.setTop (mkF m 148 #[.val (.int p1), .val (.ref b101), .val (.ref b131), .val (.int (4 : Int32)), .val (.int (1 : Int32))] [(.int (4 : Int32)), (.ref b101)])) _
    have f157 := ((((((((((V128.ext E131).other W132 ne_b101_b131).other W133 ne_b101_b131).other W134 ne_b101_b131).other W135 ne_b101_b131).other W136 ne_b101_b131).other W137 ne_b101_b131).other W138 ne_b101_b131).other W139 ne_b101_b131).other W140 ne_b101_b131)
    refine own_st (own_ldR (v := (.ref d4)) (pc := 148) (Ls := #[.val (.int p1), .val (.ref b101), .val (.ref b131), .val (.int (4 : Int32)), .val (.int (1 : Int32))]) (rest := []) (j := (4 : Int32)) X140 hx hZ e140 f157 rfl (by decide) rfl (hb hby at_148)) ?_
    show own_Goes p e below (T140.setTop (mkF m 149 #[.val (.int p1), .val (.ref b101), .val (.ref b131), .val (.int (4 : Int32)), .val (.int (1 : Int32))] [(.ref d4)])) _
    have f159 := (Nat.le_trans (Nat.le_trans (Nat.le_trans (Nat.le_trans (Nat.le_trans (Nat.le_trans (Nat.le_trans (Nat.le_trans (Nat.le_trans (Nat.le_trans f130 E131.1) (Nat.le_of_eq W132.size.symm)) (Nat.le_of_eq W133.size.symm)) (Nat.le_of_eq W134.size.symm)) (Nat.le_of_eq W135.size.symm)) (Nat.le_of_eq W136.size.symm)) (Nat.le_of_eq W137.size.symm)) (Nat.le_of_eq W138.size.symm)) (Nat.le_of_eq W139.size.symm)) (Nat.le_of_eq W140.size.symm))
    have f160 := ((((((((((f129.ext E131).wr W132 g_b131).wr W133 g_b131).wr W134 g_b131).wr W135 g_b131).wr W136 g_b131).wr W137 g_b131).wr W138 g_b131).wr W139 g_b131).wr W140 g_b131)
    obtain ⟨_, T158, h158, L158, X158, e158, ⟨rfl, rfl, q158⟩, st158⟩ := own_callV (argsL := []) (rest := []) (pc := 149) (W := 0) (Ls := #[.val (.int p1), .val (.ref b101), .val (.ref b131), .val (.int (4 : Int32)), .val (.int (1 : Int32))]) (S := [(.ref d4)]) X140 hx hZ hown (hw _ (List.mem_of_getElem? (i := 31) rfl)) (hw _ (List.mem_of_getElem? (i := 32) rfl)) (hw _ (List.mem_of_getElem? (i := 34) rfl)) (hw _ (List.mem_of_getElem? (i := 33) rfl)) (hw _ (List.mem_of_getElem? (i := 3) rfl)) (hw _ (List.mem_of_getElem? (i := 35) rfl)) (notFace_of_selects (args := #[]) (mvT hZ (hw _ (List.mem_of_getElem? (i := 34) rfl)))) (by decide) (rm1 l Z a0 hw [] d4 d4 d5 d6 d7 d8 (1 : Int32) h140 n0 f159 (Sx4.ext f160.2) (Sx5.ext f160.2) (Sx6.ext f160.2) (Sx7.ext f160.2) (Sx8.ext f160.2) (by rw [own_b5, if_pos rfl])) (by decide) (by decide) e140 (Ex4.ext f160.2) (by rw [hml]; rfl) (lenOf pd___Z rfl) rfl (Nat.le_of_eq rfl) (hb hby at_149) (by decide) (by decide)
    refine own_st st158 ?_
    have N158 := Fr.app N140 (Fr.nil n0)
    show own_Goes p e below (T158.setTop (mkF m 152 #[.val (.int p1), .val (.ref b101), .val (.ref b131), .val (.int (4 : Int32)), .val (.int (1 : Int32))] [(.int (1 : Int32))])) _
    refine own_st (fun _ k => XS.iload X158.here hx rfl (hb hby at_152) rfl k) ?_
    show own_Goes p e below (T158.setTop (mkF m 154 #[.val (.int p1), .val (.ref b101), .val (.ref b131), .val (.int (4 : Int32)), .val (.int (1 : Int32))] [(.int (1 : Int32)), (.int (1 : Int32))])) _
    refine own_st (fun _ k => XS.icmpNo X158.here hx rfl (hb hby at_154) rfl (teq (by decide : (1 : Int32) = (1 : Int32))).2 k) ?_
    show own_Goes p e below (T158.setTop (mkF m 157 #[.val (.int p1), .val (.ref b101), .val (.ref b131), .val (.int (4 : Int32)), .val (.int (1 : Int32))] [])) _
    refine own_st (fun _ k => XS.iconst X158.here hx rfl (hb hby at_157) k) ?_
    show own_Goes p e below (T158.setTop (mkF m 158 #[.val (.int p1), .val (.ref b101), .val (.ref b131), .val (.int (4 : Int32)), .val (.int (1 : Int32))] [(.int (1 : Int32))])) _
    refine own_st (fun _ k => XS.goto X158.here hx rfl (pc0 := 158) (pc' := 162) rfl (hb hby at_158) (by decide) (by decide) k) ?_
    show own_Goes p e below (T158.setTop (mkF m 162 #[.val (.int p1), .val (.ref b101), .val (.ref b131), .val (.int (4 : Int32)), .val (.int (1 : Int32))] [(.int (1 : Int32))])) _
    exact own_retN (t := .boolean) (z' := (1 : Int32)) X158 hx hlk hret (by simp) (by decide) (hb hby at_162) (by decide) (by decide) (e158.trans q158) ⟨rfl, N158⟩
  · show own_Goes p e below (T140.setTop (mkF m 128 #[.val (.int p1), .val (.ref b101), .val (.ref b131), .unset, .unset] [(.int (5 : Int32))])) _
    refine own_st (fun _ k => XS.istoreN X140.here hx rfl (hb hby at_128) rfl (l' := #[.val (.int p1), .val (.ref b101), .val (.ref b131), .val (.int (5 : Int32)), .unset]) rfl k) ?_
    show own_Goes p e below (T140.setTop (mkF m 129 #[.val (.int p1), .val (.ref b101), .val (.ref b131), .val (.int (5 : Int32)), .unset] [])) _
    refine own_st (fun _ k => XS.aloadN X140.here hx rfl (hb hby at_129) rfl rfl k) ?_
    show own_Goes p e below (T140.setTop (mkF m 130 #[.val (.int p1), .val (.ref b101), .val (.ref b131), .val (.int (5 : Int32)), .unset] [(.ref b131)])) _
    refine own_st (fun _ k => XS.iloadN X140.here hx rfl (hb hby at_130) rfl k) ?_
    show own_Goes p e below (T140.setTop (mkF m 131 #[.val (.int p1), .val (.ref b101), .val (.ref b131), .val (.int (5 : Int32)), .unset] [(.int (5 : Int32)), (.ref b131)])) _
    refine own_st (own_ldJ (v := (.long (604800 : Int64))) (pc := 131) (Ls := #[.val (.int p1), .val (.ref b101), .val (.ref b131), .val (.int (5 : Int32)), .unset]) (rest := []) (j := (5 : Int32)) X140 hx hZ e140 V140 (by decide) rfl (hb hby at_131)) ?_
    show own_Goes p e below (T140.setTop (mkF m 132 #[.val (.int p1), .val (.ref b101), .val (.ref b131), .val (.int (5 : Int32)), .unset] [(.long (604800 : Int64))])) _
    refine own_st (X140.ldc2Long hx hown (mvT hZ (hw _ (List.mem_of_getElem? (i := 25) rfl))) (g := (mkF m 132 #[.val (.int p1), .val (.ref b101), .val (.ref b131), .val (.int (5 : Int32)), .unset] [(.long (604800 : Int64))])) rfl (hb hby at_132)) ?_
    show own_Goes p e below (T140.setTop (mkF m 135 #[.val (.int p1), .val (.ref b101), .val (.ref b131), .val (.int (5 : Int32)), .unset] [(.long (86400 : Int64)), (.long (604800 : Int64))])) _
    refine own_st (fun _ k => XT.lcmp X140.here hx rfl (hb hby at_135) rfl k) ?_
    show own_Goes p e below (T140.setTop (mkF m 136 #[.val (.int p1), .val (.ref b101), .val (.ref b131), .val (.int (5 : Int32)), .unset] [(.int (XT.cmpL (604800 : Int64) (86400 : Int64)))])) _
    refine own_st (fun _ k => XS.ifNo X140.here hx rfl (hb hby at_136) rfl ((if0 _ _).trans (flt (by decide : ¬ ((XT.cmpL (604800 : Int64) (86400 : Int64)) < (0 : Int32)))).1) k) ?_
    show own_Goes p e below (T140.setTop (mkF m 139 #[.val (.int p1), .val (.ref b101), .val (.ref b131), .val (.int (5 : Int32)), .unset] [])) _
    refine own_st (fun _ k => XS.iconst X140.here hx rfl (hb hby at_139) k) ?_
    show own_Goes p e below (T140.setTop (mkF m 140 #[.val (.int p1), .val (.ref b101), .val (.ref b131), .val (.int (5 : Int32)), .unset] [(.int (1 : Int32))])) _
    refine own_st (fun _ k => XS.goto X140.here hx rfl (pc0 := 140) (pc' := 144) rfl (hb hby at_140) (by decide) (by decide) k) ?_
    show own_Goes p e below (T140.setTop (mkF m 144 #[.val (.int p1), .val (.ref b101), .val (.ref b131), .val (.int (5 : Int32)), .unset] [(.int (1 : Int32))])) _
    refine own_st (fun _ k => XS.istore X140.here hx rfl (hb hby at_144) rfl (l' := #[.val (.int p1), .val (.ref b101), .val (.ref b131), .val (.int (5 : Int32)), .val (.int (1 : Int32))]) rfl k) ?_
    show own_Goes p e below (T140.setTop (mkF m 146 #[.val (.int p1), .val (.ref b101), .val (.ref b131), .val (.int (5 : Int32)), .val (.int (1 : Int32))] [])) _
    refine own_st (fun _ k => XS.aloadN X140.here hx rfl (hb hby at_146) rfl rfl k) ?_
    show own_Goes p e below (T140.setTop (mkF m 147 #[.val (.int p1), .val (.ref b101), .val (.ref b131), .val (.int (5 : Int32)), .val (.int (1 : Int32))] [(.ref b101)])) _
    refine own_st (fun _ k => XS.iloadN X140.here hx rfl (hb hby at_147) rfl k) ?_
    show own_Goes p e below (T140.setTop (mkF m 148 #[.val (.int p1), .val (.ref b101), .val (.ref b131), .val (.int (5 : Int32)), .val (.int (1 : Int32))] [(.int (5 : Int32)), (.ref b101)])) _
    have f161 := ((((((((((V128.ext E131).other W132 ne_b101_b131).other W133 ne_b101_b131).other W134 ne_b101_b131).other W135 ne_b101_b131).other W136 ne_b101_b131).other W137 ne_b101_b131).other W138 ne_b101_b131).other W139 ne_b101_b131).other W140 ne_b101_b131)
    refine own_st (own_ldR (v := (.ref d5)) (pc := 148) (Ls := #[.val (.int p1), .val (.ref b101), .val (.ref b131), .val (.int (5 : Int32)), .val (.int (1 : Int32))]) (rest := []) (j := (5 : Int32)) X140 hx hZ e140 f161 rfl (by decide) rfl (hb hby at_148)) ?_
    show own_Goes p e below (T140.setTop (mkF m 149 #[.val (.int p1), .val (.ref b101), .val (.ref b131), .val (.int (5 : Int32)), .val (.int (1 : Int32))] [(.ref d5)])) _
    have f163 := (Nat.le_trans (Nat.le_trans (Nat.le_trans (Nat.le_trans (Nat.le_trans (Nat.le_trans (Nat.le_trans (Nat.le_trans (Nat.le_trans (Nat.le_trans f130 E131.1) (Nat.le_of_eq W132.size.symm)) (Nat.le_of_eq W133.size.symm)) (Nat.le_of_eq W134.size.symm)) (Nat.le_of_eq W135.size.symm)) (Nat.le_of_eq W136.size.symm)) (Nat.le_of_eq W137.size.symm)) (Nat.le_of_eq W138.size.symm)) (Nat.le_of_eq W139.size.symm)) (Nat.le_of_eq W140.size.symm))
    have f164 := ((((((((((f129.ext E131).wr W132 g_b131).wr W133 g_b131).wr W134 g_b131).wr W135 g_b131).wr W136 g_b131).wr W137 g_b131).wr W138 g_b131).wr W139 g_b131).wr W140 g_b131)
    obtain ⟨_, T162, h162, L162, X162, e162, ⟨rfl, rfl, q162⟩, st162⟩ := own_callV (argsL := []) (rest := []) (pc := 149) (W := 0) (Ls := #[.val (.int p1), .val (.ref b101), .val (.ref b131), .val (.int (5 : Int32)), .val (.int (1 : Int32))]) (S := [(.ref d5)]) X140 hx hZ hown (hw _ (List.mem_of_getElem? (i := 31) rfl)) (hw _ (List.mem_of_getElem? (i := 32) rfl)) (hw _ (List.mem_of_getElem? (i := 34) rfl)) (hw _ (List.mem_of_getElem? (i := 33) rfl)) (hw _ (List.mem_of_getElem? (i := 3) rfl)) (hw _ (List.mem_of_getElem? (i := 35) rfl)) (notFace_of_selects (args := #[]) (mvT hZ (hw _ (List.mem_of_getElem? (i := 34) rfl)))) (by decide) (rm1 l Z a0 hw [] d5 d4 d5 d6 d7 d8 (1 : Int32) h140 n0 f163 (Sx4.ext f164.2) (Sx5.ext f164.2) (Sx6.ext f164.2) (Sx7.ext f164.2) (Sx8.ext f164.2) (by rw [own_b5, if_neg (Fx5.ne Fx4 (by decide)), if_pos rfl])) (by decide) (by decide) e140 (Ex5.ext f164.2) (by rw [hml]; rfl) (lenOf pd___Z rfl) rfl (Nat.le_of_eq rfl) (hb hby at_149) (by decide) (by decide)
    refine own_st st162 ?_
    have N162 := Fr.app N140 (Fr.nil n0)
    show own_Goes p e below (T162.setTop (mkF m 152 #[.val (.int p1), .val (.ref b101), .val (.ref b131), .val (.int (5 : Int32)), .val (.int (1 : Int32))] [(.int (1 : Int32))])) _
    refine own_st (fun _ k => XS.iload X162.here hx rfl (hb hby at_152) rfl k) ?_
    show own_Goes p e below (T162.setTop (mkF m 154 #[.val (.int p1), .val (.ref b101), .val (.ref b131), .val (.int (5 : Int32)), .val (.int (1 : Int32))] [(.int (1 : Int32)), (.int (1 : Int32))])) _
    refine own_st (fun _ k => XS.icmpNo X162.here hx rfl (hb hby at_154) rfl (teq (by decide : (1 : Int32) = (1 : Int32))).2 k) ?_
    show own_Goes p e below (T162.setTop (mkF m 157 #[.val (.int p1), .val (.ref b101), .val (.ref b131), .val (.int (5 : Int32)), .val (.int (1 : Int32))] [])) _
    refine own_st (fun _ k => XS.iconst X162.here hx rfl (hb hby at_157) k) ?_
    show own_Goes p e below (T162.setTop (mkF m 158 #[.val (.int p1), .val (.ref b101), .val (.ref b131), .val (.int (5 : Int32)), .val (.int (1 : Int32))] [(.int (1 : Int32))])) _
    refine own_st (fun _ k => XS.goto X162.here hx rfl (pc0 := 158) (pc' := 162) rfl (hb hby at_158) (by decide) (by decide) k) ?_
    show own_Goes p e below (T162.setTop (mkF m 162 #[.val (.int p1), .val (.ref b101), .val (.ref b131), .val (.int (5 : Int32)), .val (.int (1 : Int32))] [(.int (1 : Int32))])) _
    exact own_retN (t := .boolean) (z' := (1 : Int32)) X162 hx hlk hret (by simp) (by decide) (hb hby at_162) (by decide) (by decide) (e162.trans q162) ⟨rfl, N162⟩
  · show own_Goes p e below (T140.setTop (mkF m 128 #[.val (.int p1), .val (.ref b101), .val (.ref b131), .unset, .unset] [(.int (6 : Int32))])) _
    refine own_st (fun _ k => XS.istoreN X140.here hx rfl (hb hby at_128) rfl (l' := #[.val (.int p1), .val (.ref b101), .val (.ref b131), .val (.int (6 : Int32)), .unset]) rfl k) ?_
    show own_Goes p e below (T140.setTop (mkF m 129 #[.val (.int p1), .val (.ref b101), .val (.ref b131), .val (.int (6 : Int32)), .unset] [])) _
    refine own_st (fun _ k => XS.aloadN X140.here hx rfl (hb hby at_129) rfl rfl k) ?_
    show own_Goes p e below (T140.setTop (mkF m 130 #[.val (.int p1), .val (.ref b101), .val (.ref b131), .val (.int (6 : Int32)), .unset] [(.ref b131)])) _
    refine own_st (fun _ k => XS.iloadN X140.here hx rfl (hb hby at_130) rfl k) ?_
    show own_Goes p e below (T140.setTop (mkF m 131 #[.val (.int p1), .val (.ref b101), .val (.ref b131), .val (.int (6 : Int32)), .unset] [(.int (6 : Int32)), (.ref b131)])) _
    refine own_st (own_ldJ (v := (.long (2419200 : Int64))) (pc := 131) (Ls := #[.val (.int p1), .val (.ref b101), .val (.ref b131), .val (.int (6 : Int32)), .unset]) (rest := []) (j := (6 : Int32)) X140 hx hZ e140 V140 (by decide) rfl (hb hby at_131)) ?_
    show own_Goes p e below (T140.setTop (mkF m 132 #[.val (.int p1), .val (.ref b101), .val (.ref b131), .val (.int (6 : Int32)), .unset] [(.long (2419200 : Int64))])) _
    refine own_st (X140.ldc2Long hx hown (mvT hZ (hw _ (List.mem_of_getElem? (i := 25) rfl))) (g := (mkF m 132 #[.val (.int p1), .val (.ref b101), .val (.ref b131), .val (.int (6 : Int32)), .unset] [(.long (2419200 : Int64))])) rfl (hb hby at_132)) ?_
    show own_Goes p e below (T140.setTop (mkF m 135 #[.val (.int p1), .val (.ref b101), .val (.ref b131), .val (.int (6 : Int32)), .unset] [(.long (86400 : Int64)), (.long (2419200 : Int64))])) _
    refine own_st (fun _ k => XT.lcmp X140.here hx rfl (hb hby at_135) rfl k) ?_
    show own_Goes p e below (T140.setTop (mkF m 136 #[.val (.int p1), .val (.ref b101), .val (.ref b131), .val (.int (6 : Int32)), .unset] [(.int (XT.cmpL (2419200 : Int64) (86400 : Int64)))])) _
    refine own_st (fun _ k => XS.ifNo X140.here hx rfl (hb hby at_136) rfl ((if0 _ _).trans (flt (by decide : ¬ ((XT.cmpL (2419200 : Int64) (86400 : Int64)) < (0 : Int32)))).1) k) ?_
    show own_Goes p e below (T140.setTop (mkF m 139 #[.val (.int p1), .val (.ref b101), .val (.ref b131), .val (.int (6 : Int32)), .unset] [])) _
    refine own_st (fun _ k => XS.iconst X140.here hx rfl (hb hby at_139) k) ?_
    show own_Goes p e below (T140.setTop (mkF m 140 #[.val (.int p1), .val (.ref b101), .val (.ref b131), .val (.int (6 : Int32)), .unset] [(.int (1 : Int32))])) _
    refine own_st (fun _ k => XS.goto X140.here hx rfl (pc0 := 140) (pc' := 144) rfl (hb hby at_140) (by decide) (by decide) k) ?_
    show own_Goes p e below (T140.setTop (mkF m 144 #[.val (.int p1), .val (.ref b101), .val (.ref b131), .val (.int (6 : Int32)), .unset] [(.int (1 : Int32))])) _
    refine own_st (fun _ k => XS.istore X140.here hx rfl (hb hby at_144) rfl (l' := #[.val (.int p1), .val (.ref b101), .val (.ref b131), .val (.int (6 : Int32)), .val (.int (1 : Int32))]) rfl k) ?_
    show own_Goes p e below (T140.setTop (mkF m 146 #[.val (.int p1), .val (.ref b101), .val (.ref b131), .val (.int (6 : Int32)), .val (.int (1 : Int32))] [])) _
    refine own_st (fun _ k => XS.aloadN X140.here hx rfl (hb hby at_146) rfl rfl k) ?_
    show own_Goes p e below (T140.setTop (mkF m 147 #[.val (.int p1), .val (.ref b101), .val (.ref b131), .val (.int (6 : Int32)), .val (.int (1 : Int32))] [(.ref b101)])) _
    refine own_st (fun _ k => XS.iloadN X140.here hx rfl (hb hby at_147) rfl k) ?_
    show own_Goes p e below (T140.setTop (mkF m 148 #[.val (.int p1), .val (.ref b101), .val (.ref b131), .val (.int (6 : Int32)), .val (.int (1 : Int32))] [(.int (6 : Int32)), (.ref b101)])) _
    have f165 := ((((((((((V128.ext E131).other W132 ne_b101_b131).other W133 ne_b101_b131).other W134 ne_b101_b131).other W135 ne_b101_b131).other W136 ne_b101_b131).other W137 ne_b101_b131).other W138 ne_b101_b131).other W139 ne_b101_b131).other W140 ne_b101_b131)
    refine own_st (own_ldR (v := (.ref d6)) (pc := 148) (Ls := #[.val (.int p1), .val (.ref b101), .val (.ref b131), .val (.int (6 : Int32)), .val (.int (1 : Int32))]) (rest := []) (j := (6 : Int32)) X140 hx hZ e140 f165 rfl (by decide) rfl (hb hby at_148)) ?_
    show own_Goes p e below (T140.setTop (mkF m 149 #[.val (.int p1), .val (.ref b101), .val (.ref b131), .val (.int (6 : Int32)), .val (.int (1 : Int32))] [(.ref d6)])) _
    have f167 := (Nat.le_trans (Nat.le_trans (Nat.le_trans (Nat.le_trans (Nat.le_trans (Nat.le_trans (Nat.le_trans (Nat.le_trans (Nat.le_trans (Nat.le_trans f130 E131.1) (Nat.le_of_eq W132.size.symm)) (Nat.le_of_eq W133.size.symm)) (Nat.le_of_eq W134.size.symm)) (Nat.le_of_eq W135.size.symm)) (Nat.le_of_eq W136.size.symm)) (Nat.le_of_eq W137.size.symm)) (Nat.le_of_eq W138.size.symm)) (Nat.le_of_eq W139.size.symm)) (Nat.le_of_eq W140.size.symm))
    have f168 := ((((((((((f129.ext E131).wr W132 g_b131).wr W133 g_b131).wr W134 g_b131).wr W135 g_b131).wr W136 g_b131).wr W137 g_b131).wr W138 g_b131).wr W139 g_b131).wr W140 g_b131)
    obtain ⟨_, T166, h166, L166, X166, e166, ⟨rfl, rfl, q166⟩, st166⟩ := own_callV (argsL := []) (rest := []) (pc := 149) (W := 0) (Ls := #[.val (.int p1), .val (.ref b101), .val (.ref b131), .val (.int (6 : Int32)), .val (.int (1 : Int32))]) (S := [(.ref d6)]) X140 hx hZ hown (hw _ (List.mem_of_getElem? (i := 31) rfl)) (hw _ (List.mem_of_getElem? (i := 32) rfl)) (hw _ (List.mem_of_getElem? (i := 34) rfl)) (hw _ (List.mem_of_getElem? (i := 33) rfl)) (hw _ (List.mem_of_getElem? (i := 3) rfl)) (hw _ (List.mem_of_getElem? (i := 35) rfl)) (notFace_of_selects (args := #[]) (mvT hZ (hw _ (List.mem_of_getElem? (i := 34) rfl)))) (by decide) (rm1 l Z a0 hw [] d6 d4 d5 d6 d7 d8 (1 : Int32) h140 n0 f167 (Sx4.ext f168.2) (Sx5.ext f168.2) (Sx6.ext f168.2) (Sx7.ext f168.2) (Sx8.ext f168.2) (by rw [own_b5, if_neg (Fx6.ne Fx4 (by decide)), if_neg (Fx6.ne Fx5 (by decide)), if_pos rfl])) (by decide) (by decide) e140 (Ex6.ext f168.2) (by rw [hml]; rfl) (lenOf pd___Z rfl) rfl (Nat.le_of_eq rfl) (hb hby at_149) (by decide) (by decide)
    refine own_st st166 ?_
    have N166 := Fr.app N140 (Fr.nil n0)
    show own_Goes p e below (T166.setTop (mkF m 152 #[.val (.int p1), .val (.ref b101), .val (.ref b131), .val (.int (6 : Int32)), .val (.int (1 : Int32))] [(.int (1 : Int32))])) _
    refine own_st (fun _ k => XS.iload X166.here hx rfl (hb hby at_152) rfl k) ?_
    show own_Goes p e below (T166.setTop (mkF m 154 #[.val (.int p1), .val (.ref b101), .val (.ref b131), .val (.int (6 : Int32)), .val (.int (1 : Int32))] [(.int (1 : Int32)), (.int (1 : Int32))])) _
    refine own_st (fun _ k => XS.icmpNo X166.here hx rfl (hb hby at_154) rfl (teq (by decide : (1 : Int32) = (1 : Int32))).2 k) ?_
    show own_Goes p e below (T166.setTop (mkF m 157 #[.val (.int p1), .val (.ref b101), .val (.ref b131), .val (.int (6 : Int32)), .val (.int (1 : Int32))] [])) _
    refine own_st (fun _ k => XS.iconst X166.here hx rfl (hb hby at_157) k) ?_
    show own_Goes p e below (T166.setTop (mkF m 158 #[.val (.int p1), .val (.ref b101), .val (.ref b131), .val (.int (6 : Int32)), .val (.int (1 : Int32))] [(.int (1 : Int32))])) _
    refine own_st (fun _ k => XS.goto X166.here hx rfl (pc0 := 158) (pc' := 162) rfl (hb hby at_158) (by decide) (by decide) k) ?_
    show own_Goes p e below (T166.setTop (mkF m 162 #[.val (.int p1), .val (.ref b101), .val (.ref b131), .val (.int (6 : Int32)), .val (.int (1 : Int32))] [(.int (1 : Int32))])) _
    exact own_retN (t := .boolean) (z' := (1 : Int32)) X166 hx hlk hret (by simp) (by decide) (hb hby at_162) (by decide) (by decide) (e166.trans q166) ⟨rfl, N166⟩
  · show own_Goes p e below (T140.setTop (mkF m 128 #[.val (.int p1), .val (.ref b101), .val (.ref b131), .unset, .unset] [(.int (7 : Int32))])) _
    refine own_st (fun _ k => XS.istoreN X140.here hx rfl (hb hby at_128) rfl (l' := #[.val (.int p1), .val (.ref b101), .val (.ref b131), .val (.int (7 : Int32)), .unset]) rfl k) ?_
    show own_Goes p e below (T140.setTop (mkF m 129 #[.val (.int p1), .val (.ref b101), .val (.ref b131), .val (.int (7 : Int32)), .unset] [])) _
    refine own_st (fun _ k => XS.aloadN X140.here hx rfl (hb hby at_129) rfl rfl k) ?_
    show own_Goes p e below (T140.setTop (mkF m 130 #[.val (.int p1), .val (.ref b101), .val (.ref b131), .val (.int (7 : Int32)), .unset] [(.ref b131)])) _
    refine own_st (fun _ k => XS.iloadN X140.here hx rfl (hb hby at_130) rfl k) ?_
    show own_Goes p e below (T140.setTop (mkF m 131 #[.val (.int p1), .val (.ref b101), .val (.ref b131), .val (.int (7 : Int32)), .unset] [(.int (7 : Int32)), (.ref b131)])) _
    refine own_st (own_ldJ (v := (.long (7689600 : Int64))) (pc := 131) (Ls := #[.val (.int p1), .val (.ref b101), .val (.ref b131), .val (.int (7 : Int32)), .unset]) (rest := []) (j := (7 : Int32)) X140 hx hZ e140 V140 (by decide) rfl (hb hby at_131)) ?_
    show own_Goes p e below (T140.setTop (mkF m 132 #[.val (.int p1), .val (.ref b101), .val (.ref b131), .val (.int (7 : Int32)), .unset] [(.long (7689600 : Int64))])) _
    refine own_st (X140.ldc2Long hx hown (mvT hZ (hw _ (List.mem_of_getElem? (i := 25) rfl))) (g := (mkF m 132 #[.val (.int p1), .val (.ref b101), .val (.ref b131), .val (.int (7 : Int32)), .unset] [(.long (7689600 : Int64))])) rfl (hb hby at_132)) ?_
    show own_Goes p e below (T140.setTop (mkF m 135 #[.val (.int p1), .val (.ref b101), .val (.ref b131), .val (.int (7 : Int32)), .unset] [(.long (86400 : Int64)), (.long (7689600 : Int64))])) _
    refine own_st (fun _ k => XT.lcmp X140.here hx rfl (hb hby at_135) rfl k) ?_
    show own_Goes p e below (T140.setTop (mkF m 136 #[.val (.int p1), .val (.ref b101), .val (.ref b131), .val (.int (7 : Int32)), .unset] [(.int (XT.cmpL (7689600 : Int64) (86400 : Int64)))])) _
    refine own_st (fun _ k => XS.ifNo X140.here hx rfl (hb hby at_136) rfl ((if0 _ _).trans (flt (by decide : ¬ ((XT.cmpL (7689600 : Int64) (86400 : Int64)) < (0 : Int32)))).1) k) ?_
    show own_Goes p e below (T140.setTop (mkF m 139 #[.val (.int p1), .val (.ref b101), .val (.ref b131), .val (.int (7 : Int32)), .unset] [])) _
    refine own_st (fun _ k => XS.iconst X140.here hx rfl (hb hby at_139) k) ?_
    show own_Goes p e below (T140.setTop (mkF m 140 #[.val (.int p1), .val (.ref b101), .val (.ref b131), .val (.int (7 : Int32)), .unset] [(.int (1 : Int32))])) _
    refine own_st (fun _ k => XS.goto X140.here hx rfl (pc0 := 140) (pc' := 144) rfl (hb hby at_140) (by decide) (by decide) k) ?_
    show own_Goes p e below (T140.setTop (mkF m 144 #[.val (.int p1), .val (.ref b101), .val (.ref b131), .val (.int (7 : Int32)), .unset] [(.int (1 : Int32))])) _
    refine own_st (fun _ k => XS.istore X140.here hx rfl (hb hby at_144) rfl (l' := #[.val (.int p1), .val (.ref b101), .val (.ref b131), .val (.int (7 : Int32)), .val (.int (1 : Int32))]) rfl k) ?_
    show own_Goes p e below (T140.setTop (mkF m 146 #[.val (.int p1), .val (.ref b101), .val (.ref b131), .val (.int (7 : Int32)), .val (.int (1 : Int32))] [])) _
    refine own_st (fun _ k => XS.aloadN X140.here hx rfl (hb hby at_146) rfl rfl k) ?_
    show own_Goes p e below (T140.setTop (mkF m 147 #[.val (.int p1), .val (.ref b101), .val (.ref b131), .val (.int (7 : Int32)), .val (.int (1 : Int32))] [(.ref b101)])) _
    refine own_st (fun _ k => XS.iloadN X140.here hx rfl (hb hby at_147) rfl k) ?_
    show own_Goes p e below (T140.setTop (mkF m 148 #[.val (.int p1), .val (.ref b101), .val (.ref b131), .val (.int (7 : Int32)), .val (.int (1 : Int32))] [(.int (7 : Int32)), (.ref b101)])) _
    have f169 := ((((((((((V128.ext E131).other W132 ne_b101_b131).other W133 ne_b101_b131).other W134 ne_b101_b131).other W135 ne_b101_b131).other W136 ne_b101_b131).other W137 ne_b101_b131).other W138 ne_b101_b131).other W139 ne_b101_b131).other W140 ne_b101_b131)
    refine own_st (own_ldR (v := (.ref d7)) (pc := 148) (Ls := #[.val (.int p1), .val (.ref b101), .val (.ref b131), .val (.int (7 : Int32)), .val (.int (1 : Int32))]) (rest := []) (j := (7 : Int32)) X140 hx hZ e140 f169 rfl (by decide) rfl (hb hby at_148)) ?_
    show own_Goes p e below (T140.setTop (mkF m 149 #[.val (.int p1), .val (.ref b101), .val (.ref b131), .val (.int (7 : Int32)), .val (.int (1 : Int32))] [(.ref d7)])) _
    have f171 := (Nat.le_trans (Nat.le_trans (Nat.le_trans (Nat.le_trans (Nat.le_trans (Nat.le_trans (Nat.le_trans (Nat.le_trans (Nat.le_trans (Nat.le_trans f130 E131.1) (Nat.le_of_eq W132.size.symm)) (Nat.le_of_eq W133.size.symm)) (Nat.le_of_eq W134.size.symm)) (Nat.le_of_eq W135.size.symm)) (Nat.le_of_eq W136.size.symm)) (Nat.le_of_eq W137.size.symm)) (Nat.le_of_eq W138.size.symm)) (Nat.le_of_eq W139.size.symm)) (Nat.le_of_eq W140.size.symm))
    have f172 := ((((((((((f129.ext E131).wr W132 g_b131).wr W133 g_b131).wr W134 g_b131).wr W135 g_b131).wr W136 g_b131).wr W137 g_b131).wr W138 g_b131).wr W139 g_b131).wr W140 g_b131)
    obtain ⟨_, T170, h170, L170, X170, e170, ⟨rfl, rfl, q170⟩, st170⟩ := own_callV (argsL := []) (rest := []) (pc := 149) (W := 0) (Ls := #[.val (.int p1), .val (.ref b101), .val (.ref b131), .val (.int (7 : Int32)), .val (.int (1 : Int32))]) (S := [(.ref d7)]) X140 hx hZ hown (hw _ (List.mem_of_getElem? (i := 31) rfl)) (hw _ (List.mem_of_getElem? (i := 32) rfl)) (hw _ (List.mem_of_getElem? (i := 34) rfl)) (hw _ (List.mem_of_getElem? (i := 33) rfl)) (hw _ (List.mem_of_getElem? (i := 3) rfl)) (hw _ (List.mem_of_getElem? (i := 35) rfl)) (notFace_of_selects (args := #[]) (mvT hZ (hw _ (List.mem_of_getElem? (i := 34) rfl)))) (by decide) (rm1 l Z a0 hw [] d7 d4 d5 d6 d7 d8 (1 : Int32) h140 n0 f171 (Sx4.ext f172.2) (Sx5.ext f172.2) (Sx6.ext f172.2) (Sx7.ext f172.2) (Sx8.ext f172.2) (by rw [own_b5, if_neg (Fx7.ne Fx4 (by decide)), if_neg (Fx7.ne Fx5 (by decide)), if_neg (Fx7.ne Fx6 (by decide)), if_pos rfl])) (by decide) (by decide) e140 (Ex7.ext f172.2) (by rw [hml]; rfl) (lenOf pd___Z rfl) rfl (Nat.le_of_eq rfl) (hb hby at_149) (by decide) (by decide)
    refine own_st st170 ?_
    have N170 := Fr.app N140 (Fr.nil n0)
    show own_Goes p e below (T170.setTop (mkF m 152 #[.val (.int p1), .val (.ref b101), .val (.ref b131), .val (.int (7 : Int32)), .val (.int (1 : Int32))] [(.int (1 : Int32))])) _
    refine own_st (fun _ k => XS.iload X170.here hx rfl (hb hby at_152) rfl k) ?_
    show own_Goes p e below (T170.setTop (mkF m 154 #[.val (.int p1), .val (.ref b101), .val (.ref b131), .val (.int (7 : Int32)), .val (.int (1 : Int32))] [(.int (1 : Int32)), (.int (1 : Int32))])) _
    refine own_st (fun _ k => XS.icmpNo X170.here hx rfl (hb hby at_154) rfl (teq (by decide : (1 : Int32) = (1 : Int32))).2 k) ?_
    show own_Goes p e below (T170.setTop (mkF m 157 #[.val (.int p1), .val (.ref b101), .val (.ref b131), .val (.int (7 : Int32)), .val (.int (1 : Int32))] [])) _
    refine own_st (fun _ k => XS.iconst X170.here hx rfl (hb hby at_157) k) ?_
    show own_Goes p e below (T170.setTop (mkF m 158 #[.val (.int p1), .val (.ref b101), .val (.ref b131), .val (.int (7 : Int32)), .val (.int (1 : Int32))] [(.int (1 : Int32))])) _
    refine own_st (fun _ k => XS.goto X170.here hx rfl (pc0 := 158) (pc' := 162) rfl (hb hby at_158) (by decide) (by decide) k) ?_
    show own_Goes p e below (T170.setTop (mkF m 162 #[.val (.int p1), .val (.ref b101), .val (.ref b131), .val (.int (7 : Int32)), .val (.int (1 : Int32))] [(.int (1 : Int32))])) _
    exact own_retN (t := .boolean) (z' := (1 : Int32)) X170 hx hlk hret (by simp) (by decide) (hb hby at_162) (by decide) (by decide) (e170.trans q170) ⟨rfl, N170⟩
  · show own_Goes p e below (T140.setTop (mkF m 128 #[.val (.int p1), .val (.ref b101), .val (.ref b131), .unset, .unset] [(.int (8 : Int32))])) _
    refine own_st (fun _ k => XS.istoreN X140.here hx rfl (hb hby at_128) rfl (l' := #[.val (.int p1), .val (.ref b101), .val (.ref b131), .val (.int (8 : Int32)), .unset]) rfl k) ?_
    show own_Goes p e below (T140.setTop (mkF m 129 #[.val (.int p1), .val (.ref b101), .val (.ref b131), .val (.int (8 : Int32)), .unset] [])) _
    refine own_st (fun _ k => XS.aloadN X140.here hx rfl (hb hby at_129) rfl rfl k) ?_
    show own_Goes p e below (T140.setTop (mkF m 130 #[.val (.int p1), .val (.ref b101), .val (.ref b131), .val (.int (8 : Int32)), .unset] [(.ref b131)])) _
    refine own_st (fun _ k => XS.iloadN X140.here hx rfl (hb hby at_130) rfl k) ?_
    show own_Goes p e below (T140.setTop (mkF m 131 #[.val (.int p1), .val (.ref b101), .val (.ref b131), .val (.int (8 : Int32)), .unset] [(.int (8 : Int32)), (.ref b131)])) _
    refine own_st (own_ldJ (v := (.long (31536000 : Int64))) (pc := 131) (Ls := #[.val (.int p1), .val (.ref b101), .val (.ref b131), .val (.int (8 : Int32)), .unset]) (rest := []) (j := (8 : Int32)) X140 hx hZ e140 V140 (by decide) rfl (hb hby at_131)) ?_
    show own_Goes p e below (T140.setTop (mkF m 132 #[.val (.int p1), .val (.ref b101), .val (.ref b131), .val (.int (8 : Int32)), .unset] [(.long (31536000 : Int64))])) _
    refine own_st (X140.ldc2Long hx hown (mvT hZ (hw _ (List.mem_of_getElem? (i := 25) rfl))) (g := (mkF m 132 #[.val (.int p1), .val (.ref b101), .val (.ref b131), .val (.int (8 : Int32)), .unset] [(.long (31536000 : Int64))])) rfl (hb hby at_132)) ?_
    show own_Goes p e below (T140.setTop (mkF m 135 #[.val (.int p1), .val (.ref b101), .val (.ref b131), .val (.int (8 : Int32)), .unset] [(.long (86400 : Int64)), (.long (31536000 : Int64))])) _
    refine own_st (fun _ k => XT.lcmp X140.here hx rfl (hb hby at_135) rfl k) ?_
    show own_Goes p e below (T140.setTop (mkF m 136 #[.val (.int p1), .val (.ref b101), .val (.ref b131), .val (.int (8 : Int32)), .unset] [(.int (XT.cmpL (31536000 : Int64) (86400 : Int64)))])) _
    refine own_st (fun _ k => XS.ifNo X140.here hx rfl (hb hby at_136) rfl ((if0 _ _).trans (flt (by decide : ¬ ((XT.cmpL (31536000 : Int64) (86400 : Int64)) < (0 : Int32)))).1) k) ?_
    show own_Goes p e below (T140.setTop (mkF m 139 #[.val (.int p1), .val (.ref b101), .val (.ref b131), .val (.int (8 : Int32)), .unset] [])) _
    refine own_st (fun _ k => XS.iconst X140.here hx rfl (hb hby at_139) k) ?_
    show own_Goes p e below (T140.setTop (mkF m 140 #[.val (.int p1), .val (.ref b101), .val (.ref b131), .val (.int (8 : Int32)), .unset] [(.int (1 : Int32))])) _
    refine own_st (fun _ k => XS.goto X140.here hx rfl (pc0 := 140) (pc' := 144) rfl (hb hby at_140) (by decide) (by decide) k) ?_
    show own_Goes p e below (T140.setTop (mkF m 144 #[.val (.int p1), .val (.ref b101), .val (.ref b131), .val (.int (8 : Int32)), .unset] [(.int (1 : Int32))])) _
    refine own_st (fun _ k => XS.istore X140.here hx rfl (hb hby at_144) rfl (l' := #[.val (.int p1), .val (.ref b101), .val (.ref b131), .val (.int (8 : Int32)), .val (.int (1 : Int32))]) rfl k) ?_
    show own_Goes p e below (T140.setTop (mkF m 146 #[.val (.int p1), .val (.ref b101), .val (.ref b131), .val (.int (8 : Int32)), .val (.int (1 : Int32))] [])) _
    refine own_st (fun _ k => XS.aloadN X140.here hx rfl (hb hby at_146) rfl rfl k) ?_
    show own_Goes p e below (T140.setTop (mkF m 147 #[.val (.int p1), .val (.ref b101), .val (.ref b131), .val (.int (8 : Int32)), .val (.int (1 : Int32))] [(.ref b101)])) _
    refine own_st (fun _ k => XS.iloadN X140.here hx rfl (hb hby at_147) rfl k) ?_
    show own_Goes p e below (T140.setTop (mkF m 148 #[.val (.int p1), .val (.ref b101), .val (.ref b131), .val (.int (8 : Int32)), .val (.int (1 : Int32))] [(.int (8 : Int32)), (.ref b101)])) _
    have f173 := ((((((((((V128.ext E131).other W132 ne_b101_b131).other W133 ne_b101_b131).other W134 ne_b101_b131).other W135 ne_b101_b131).other W136 ne_b101_b131).other W137 ne_b101_b131).other W138 ne_b101_b131).other W139 ne_b101_b131).other W140 ne_b101_b131)
    refine own_st (own_ldR (v := (.ref d8)) (pc := 148) (Ls := #[.val (.int p1), .val (.ref b101), .val (.ref b131), .val (.int (8 : Int32)), .val (.int (1 : Int32))]) (rest := []) (j := (8 : Int32)) X140 hx hZ e140 f173 rfl (by decide) rfl (hb hby at_148)) ?_
    show own_Goes p e below (T140.setTop (mkF m 149 #[.val (.int p1), .val (.ref b101), .val (.ref b131), .val (.int (8 : Int32)), .val (.int (1 : Int32))] [(.ref d8)])) _
    have f175 := (Nat.le_trans (Nat.le_trans (Nat.le_trans (Nat.le_trans (Nat.le_trans (Nat.le_trans (Nat.le_trans (Nat.le_trans (Nat.le_trans (Nat.le_trans f130 E131.1) (Nat.le_of_eq W132.size.symm)) (Nat.le_of_eq W133.size.symm)) (Nat.le_of_eq W134.size.symm)) (Nat.le_of_eq W135.size.symm)) (Nat.le_of_eq W136.size.symm)) (Nat.le_of_eq W137.size.symm)) (Nat.le_of_eq W138.size.symm)) (Nat.le_of_eq W139.size.symm)) (Nat.le_of_eq W140.size.symm))
    have f176 := ((((((((((f129.ext E131).wr W132 g_b131).wr W133 g_b131).wr W134 g_b131).wr W135 g_b131).wr W136 g_b131).wr W137 g_b131).wr W138 g_b131).wr W139 g_b131).wr W140 g_b131)
    obtain ⟨_, T174, h174, L174, X174, e174, ⟨rfl, rfl, q174⟩, st174⟩ := own_callV (argsL := []) (rest := []) (pc := 149) (W := 0) (Ls := #[.val (.int p1), .val (.ref b101), .val (.ref b131), .val (.int (8 : Int32)), .val (.int (1 : Int32))]) (S := [(.ref d8)]) X140 hx hZ hown (hw _ (List.mem_of_getElem? (i := 31) rfl)) (hw _ (List.mem_of_getElem? (i := 32) rfl)) (hw _ (List.mem_of_getElem? (i := 34) rfl)) (hw _ (List.mem_of_getElem? (i := 33) rfl)) (hw _ (List.mem_of_getElem? (i := 3) rfl)) (hw _ (List.mem_of_getElem? (i := 35) rfl)) (notFace_of_selects (args := #[]) (mvT hZ (hw _ (List.mem_of_getElem? (i := 34) rfl)))) (by decide) (rm1 l Z a0 hw [] d8 d4 d5 d6 d7 d8 (1 : Int32) h140 n0 f175 (Sx4.ext f176.2) (Sx5.ext f176.2) (Sx6.ext f176.2) (Sx7.ext f176.2) (Sx8.ext f176.2) (by rw [own_b5, if_neg (Fx8.ne Fx4 (by decide)), if_neg (Fx8.ne Fx5 (by decide)), if_neg (Fx8.ne Fx6 (by decide)), if_neg (Fx8.ne Fx7 (by decide)), if_pos rfl])) (by decide) (by decide) e140 (Ex8.ext f176.2) (by rw [hml]; rfl) (lenOf pd___Z rfl) rfl (Nat.le_of_eq rfl) (hb hby at_149) (by decide) (by decide)
    refine own_st st174 ?_
    have N174 := Fr.app N140 (Fr.nil n0)
    show own_Goes p e below (T174.setTop (mkF m 152 #[.val (.int p1), .val (.ref b101), .val (.ref b131), .val (.int (8 : Int32)), .val (.int (1 : Int32))] [(.int (1 : Int32))])) _
    refine own_st (fun _ k => XS.iload X174.here hx rfl (hb hby at_152) rfl k) ?_
    show own_Goes p e below (T174.setTop (mkF m 154 #[.val (.int p1), .val (.ref b101), .val (.ref b131), .val (.int (8 : Int32)), .val (.int (1 : Int32))] [(.int (1 : Int32)), (.int (1 : Int32))])) _
    refine own_st (fun _ k => XS.icmpNo X174.here hx rfl (hb hby at_154) rfl (teq (by decide : (1 : Int32) = (1 : Int32))).2 k) ?_
    show own_Goes p e below (T174.setTop (mkF m 157 #[.val (.int p1), .val (.ref b101), .val (.ref b131), .val (.int (8 : Int32)), .val (.int (1 : Int32))] [])) _
    refine own_st (fun _ k => XS.iconst X174.here hx rfl (hb hby at_157) k) ?_
    show own_Goes p e below (T174.setTop (mkF m 158 #[.val (.int p1), .val (.ref b101), .val (.ref b131), .val (.int (8 : Int32)), .val (.int (1 : Int32))] [(.int (1 : Int32))])) _
    refine own_st (fun _ k => XS.goto X174.here hx rfl (pc0 := 158) (pc' := 162) rfl (hb hby at_158) (by decide) (by decide) k) ?_
    show own_Goes p e below (T174.setTop (mkF m 162 #[.val (.int p1), .val (.ref b101), .val (.ref b131), .val (.int (8 : Int32)), .val (.int (1 : Int32))] [(.int (1 : Int32))])) _
    exact own_retN (t := .boolean) (z' := (1 : Int32)) X174 hx hlk hret (by simp) (by decide) (hb hby at_162) (by decide) (by decide) (e174.trans q174) ⟨rfl, N174⟩
set_option maxRecDepth 65536 in
set_option maxHeartbeats 40000000 in
theorem comes_1 {Post : Tables → Env → Array Value → State → Outcome → State → Prop} (hpost : ∀ tb e args s v u, (limb_1_1.after args s (.returned v) u = true ∧ limb_1_2.after args s (.returned v) u = true ∧ True) → FrameEnd s (.returned v) u (Jvm.fieldLocs frame_1_writes args s ++ Jvm.arrayLocs frame_1_arrays args s ++ Jvm.staticLocs frame_1_statics s) 16 128 → Post tb e args s (.returned v) u) :
    ArmFor flags0 classFile x code maxLocals ret World_1 tables_1 room_1 Calls_1 rest_1 Pre_1 Post := by
  intro l hfl _ _ p e ha hc hk s m args below hf hA hF happ hP
  obtain ⟨hcalls, hrest, hpre⟩ := hP
  obtain ⟨-, -, -, hnamed, -, -, -, hat⟩ := (Spec.applies_iff hf).mp happ
  obtain ⟨hg, hn⟩ := and_e (Cond.before_iff.mp (show (Jvm.Cond.and given_1 narrow_1).before args s = true from hpre))
  obtain ⟨hcount, g0⟩ := and_e hg
  have q0 := g0
  obtain ⟨w0, rfl⟩ : ∃ w0 : Value, args = #[w0] := by
    have hs : args.size = 1 := by simpa [Cond.value, given_1] using hcount
    obtain ⟨L⟩ := args
    match L, hs with
    | [w0], _ => exact ⟨w0, rfl⟩
  obtain ⟨i0, ei0⟩ := is_v q0
  obtain rfl : w0 = (.int i0) := Option.some.inj ei0
  have hw := fun d (hd : d ∈ tables_1) => atoms_spec (ws := Jvm.Cond.code x code maxLocals ret :: tables_1) hat d (List.mem_cons_of_mem _ hd)
  have hfit : Fit s := fun {y c} hc i hi => by
    obtain ⟨ha, rfl⟩ := Array.getElem?_eq_some_iff.mp hc
    have q := List.all_eq_true.mp ((Array.all_eq_true_iff_forall_mem.mp hF) _ (Array.getElem_mem ha)) i (List.mem_range.mpr hi)
    simpa [Array.getElem?_eq_getElem hi] using q
  obtain ⟨x0, hn⟩ := and_e hn
  obtain ⟨x1, hn⟩ := and_e hn
  obtain ⟨x2, hn⟩ := and_e hn
  obtain ⟨x3, hn⟩ := and_e hn
  obtain ⟨x4, hn⟩ := and_e hn
  obtain ⟨x5, hn⟩ := and_e hn
  obtain ⟨x6, hn⟩ := and_e hn
  obtain ⟨x7, hn⟩ := and_e hn
  obtain ⟨x8, hn⟩ := and_e hn
  obtain ⟨y0, hn⟩ := and_e hn
  obtain ⟨y4, hn⟩ := and_e hn
  obtain ⟨y5, hn⟩ := and_e hn
  obtain ⟨y6, hn⟩ := and_e hn
  obtain ⟨y7, hn⟩ := and_e hn
  obtain ⟨y8, hn⟩ := and_e hn
  obtain ⟨y3, hn⟩ := and_e hn
  obtain ⟨y2, hn⟩ := and_e hn
  have y1 := hn
  obtain ⟨d0, v0⟩ := exa_v x0
  have S0 := Sta.start v0 (Or.inr ⟨(hw _ (List.mem_of_getElem? (i := 3) rfl)), (hw _ (List.mem_of_getElem? (i := 4) rfl))⟩)
  have E0 := Exa.start v0 x0
  have F0 := Fld.start ((fld_at v0).symm.trans (own_eqI y0))
  obtain ⟨d1, v1⟩ := exa_v x1
  have S1 := Sta.start v1 (Or.inr ⟨(hw _ (List.mem_of_getElem? (i := 3) rfl)), (hw _ (List.mem_of_getElem? (i := 7) rfl))⟩)
  have E1 := Exa.start v1 x1
  have F1 := Fld.start ((fld_at v1).symm.trans (own_eqI y1))
  obtain ⟨d2, v2⟩ := exa_v x2
  have S2 := Sta.start v2 (Or.inr ⟨(hw _ (List.mem_of_getElem? (i := 3) rfl)), (hw _ (List.mem_of_getElem? (i := 9) rfl))⟩)
  have E2 := Exa.start v2 x2
  have F2 := Fld.start ((fld_at v2).symm.trans (own_eqI y2))
  obtain ⟨d3, v3⟩ := exa_v x3
  have S3 := Sta.start v3 (Or.inr ⟨(hw _ (List.mem_of_getElem? (i := 3) rfl)), (hw _ (List.mem_of_getElem? (i := 11) rfl))⟩)
  have E3 := Exa.start v3 x3
  have F3 := Fld.start ((fld_at v3).symm.trans (own_eqI y3))
  obtain ⟨d4, v4⟩ := exa_v x4
  have S4 := Sta.start v4 (Or.inr ⟨(hw _ (List.mem_of_getElem? (i := 3) rfl)), (hw _ (List.mem_of_getElem? (i := 13) rfl))⟩)
  have E4 := Exa.start v4 x4
  have F4 := Fld.start ((fld_at v4).symm.trans (own_eqI y4))
  obtain ⟨d5, v5⟩ := exa_v x5
  have S5 := Sta.start v5 (Or.inr ⟨(hw _ (List.mem_of_getElem? (i := 3) rfl)), (hw _ (List.mem_of_getElem? (i := 15) rfl))⟩)
  have E5 := Exa.start v5 x5
  have F5 := Fld.start ((fld_at v5).symm.trans (own_eqI y5))
  obtain ⟨d6, v6⟩ := exa_v x6
  have S6 := Sta.start v6 (Or.inr ⟨(hw _ (List.mem_of_getElem? (i := 3) rfl)), (hw _ (List.mem_of_getElem? (i := 17) rfl))⟩)
  have E6 := Exa.start v6 x6
  have F6 := Fld.start ((fld_at v6).symm.trans (own_eqI y6))
  obtain ⟨d7, v7⟩ := exa_v x7
  have S7 := Sta.start v7 (Or.inr ⟨(hw _ (List.mem_of_getElem? (i := 3) rfl)), (hw _ (List.mem_of_getElem? (i := 19) rfl))⟩)
  have E7 := Exa.start v7 x7
  have F7 := Fld.start ((fld_at v7).symm.trans (own_eqI y7))
  obtain ⟨d8, v8⟩ := exa_v x8
  have S8 := Sta.start v8 (Or.inr ⟨(hw _ (List.mem_of_getElem? (i := 3) rfl)), (hw _ (List.mem_of_getElem? (i := 21) rfl))⟩)
  have E8 := Exa.start v8 x8
  have F8 := Fld.start ((fld_at v8).symm.trans (own_eqI y8))
  obtain ⟨n, o, h1, h2, h3, _, L, rfl, ⟨rfl, N⟩, hq⟩ := rm0 l s _ hw tables_1 i0 d0 d1 d2 d3 d4 d5 d6 d7 d8 s.heap s.heap.size (Nat.le_refl _) (Old.start s) S0 E0 F0 S1 E1 F1 S2 E2 F2 S3 E3 F3 S4 E4 F4 S5 E5 F5 S6 E6 F6 S7 E7 F7 S8 E8 F8 p e ha hc hk s m _ below hf ((Spec.applies_iff_loose hf).mp happ).1 ⟨rfl, State.Warmed39.refl s, rfl⟩ trivial
  refine ⟨n, _, h1, h2, h3, hpost _ _ _ _ _ _ ⟨Cond.after_iff.mpr rfl, Cond.after_iff.mpr (eq_i res_at (Term.int_eval (1)) rfl), trivial⟩ ⟨hq.1, hq.2.1, (hq.2.2.sift fun y hy => Or.inr (N y hy)).mono (by decide) (by decide)⟩⟩
theorem main_1_1 : Claimed_1_1 := comes_1 fun _ _ _ _ _ _ h hF => ⟨h.1, hF⟩
theorem main_1_2 : Claimed_1_2 := comes_1 fun _ _ _ _ _ _ h hF => ⟨h.2.1, hF⟩
end Jvm.Pilot.@@N@@
namespace Jvm.Pilot.@@N@@
open Jvm Jvm.ClassFile Sem Op Lib Jvm.Free Jvm.Stand Jvm.Pilot.@@N@@.Jvm.D
/-! MADE BY PROGRAM (witnessworld.py) out of the Statement's table words and the real class files: 15 classes; the members and pool entries that the words name. The judged class is class 1, her method 1. -/
namespace start1
open Jvm.ClassFile
def u (s : String) : CpInfo := .utf8 (stringToUtf16 s)
/-- a pool by its gaps: so many unusable entries, then the entry; so many at the end -/
def gap : Nat → List CpInfo → List CpInfo
  | 0, r => r
  | n + 1, r => .unusable :: gap n r
def poolList (es : List (Nat × CpInfo)) (last : Nat) : List CpInfo := es.foldr (fun e r => gap e.1 (e.2 :: r)) (gap last [])
def pool (es : List (Nat × CpInfo)) (last : Nat) : Array CpInfo := ⟨poolList es last⟩
def fileOf (pool : Array CpInfo) (this : Nat) (attrs : Array Attribute := #[]) (ms : Array MethodInfo := #[]) (fl : Nat := 33) (sup : Nat := 0) (ifs : Array Nat := #[]) (fds : Array FieldInfo := #[]) : ClassFile where
  minorVersion := 0
  majorVersion := 65
  constantPool := pool
  accessFlags := fl
  thisClass := this
  superClass := sup
  interfaces := ifs
  fields := fds
  methods := ms
  attributes := attrs
def plain (name : String) (sup : Option ClassId) : Class where
  name := name
  kind := .ordinary
  loader := none
  accessFlags := 33
  super := sup
  interfaces := #[]
  cf := none
  fields := #[]
  methods := #[]
  instanceTypes := #[]
  staticTypes := #[]
  resolved := #[]
  callSites := []
  init := .initialized
  statics := none
  mirror := none

def pool0 : Array CpInfo := pool [(5, u "<init>"), (0, u "()V"), (1, .class_ 10), (1, u "java/lang/Object")] 113

def k0m0 : Method := { name := "<init>", desc := "()V", sig := { parameters := [], returnType := none }, accessFlags := 1, code := none }
/-- java/lang/Object -/
def k0 : Class := { plain "java/lang/Object" none with
  accessFlags := 33
  interfaces := #[]
  cf := some (fileOf pool0 8 #[] #[{ accessFlags := 1, nameIndex := 5, descriptorIndex := 6, attributes := #[] }] 33 0 #[] #[])
  fields := #[]
  methods := #[k0m0]
  instanceTypes := #[]
  staticTypes := #[]
  resolved := Array.replicate 124 none
  statics := none }

def pool1 : Array CpInfo := pool [(2, .class_ 4), (1, u "java/lang/Object"), (0, u "<init>"), (0, u "()V"), (0, .class_ 8), (0, u "com/example/undo_chain/undochain/sql/DateAdd$Unit"), (0, .fieldref 7 10), (0, .nameAndType 11 12), (0, u "MICROSECOND"), (0, u "Lcom/example/undo_chain/undochain/sql/DateAdd$Unit;"), (0, .fieldref 7 14), (0, .nameAndType 15 12), (0, u "SECOND"), (0, .fieldref 7 17), (0, .nameAndType 18 12), (0, u "MINUTE"), (0, .fieldref 7 20), (0, .nameAndType 21 12), (0, u "HOUR"), (0, .fieldref 7 23), (0, .nameAndType 24 12), (0, u "DAY"), (0, .fieldref 7 26), (0, .nameAndType 27 12), (0, u "WEEK"), (0, .fieldref 7 29), (0, .nameAndType 30 12), (0, u "MONTH"), (0, .fieldref 7 32), (0, .nameAndType 33 12), (0, u "QUARTER"), (0, .fieldref 7 35), (0, .nameAndType 36 12), (0, u "YEAR"), (0, .long 60), (1, .long 3600), (1, .long 86400), (1, .long 604800), (1, .long 2419200), (1, .long 7689600), (1, .long 31536000), (1, .integer 2147483647), (0, .methodref 7 53), (0, .nameAndType 54 55), (0, u "isDays"), (0, u "()Z"), (0, .class_ 57), (0, u "com/example/undo_chain/undochain/sql/DateAddIsDaysPinLaw"), (2, u "law"), (0, u "(I)Z")] 11

def k1m0 : Method := { name := "<init>", desc := "()V", sig := { parameters := [], returnType := none }, accessFlags := 2, code := none }
def k1c1 : Code := { maxStack := 5, maxLocals := 5, code := code, exceptionTable := #[], attributes := #[] }
def k1m1 : Method := { name := "law", desc := "(I)Z", sig := { parameters := [.int], returnType := some .boolean }, accessFlags := 9, code := some k1c1 }
/-- com/example/undo_chain/undochain/sql/DateAddIsDaysPinLaw -/
def k1 : Class := { plain "com/example/undo_chain/undochain/sql/DateAddIsDaysPinLaw" (some 0) with
  accessFlags := 49
  interfaces := #[]
  cf := some (fileOf pool1 56 #[] #[{ accessFlags := 2, nameIndex := 5, descriptorIndex := 6, attributes := #[] }, { accessFlags := 9, nameIndex := 60, descriptorIndex := 61, attributes := #[] }] 49 2 #[] #[])
  fields := #[]
  methods := #[k1m0, k1m1]
  instanceTypes := #[]
  staticTypes := #[]
  resolved := Array.replicate 73 none
  statics := none }

def pool2 : Array CpInfo := pool [(1, .class_ 2), (0, u "java/lang/constant/Constable"), (0, .class_ 4), (0, u "java/lang/Object")] 6

/-- java/lang/constant/Constable -/
def k2 : Class := { plain "java/lang/constant/Constable" (some 0) with
  accessFlags := 1537
  interfaces := #[]
  cf := some (fileOf pool2 1 #[] #[] 1537 3 #[] #[])
  fields := #[]
  methods := #[]
  instanceTypes := #[]
  staticTypes := #[]
  resolved := Array.replicate 11 none
  statics := none }

def pool3 : Array CpInfo := pool [(1, .class_ 2), (0, u "java/lang/Comparable"), (0, .class_ 4), (0, u "java/lang/Object")] 7

/-- java/lang/Comparable -/
def k3 : Class := { plain "java/lang/Comparable" (some 0) with
  accessFlags := 1537
  interfaces := #[]
  cf := some (fileOf pool3 1 #[] #[] 1537 3 #[] #[])
  fields := #[]
  methods := #[]
  instanceTypes := #[]
  staticTypes := #[]
  resolved := Array.replicate 12 none
  statics := none }

def pool4 : Array CpInfo := pool [(1, .class_ 2), (0, u "java/io/Serializable"), (0, .class_ 4), (0, u "java/lang/Object")] 2

/-- java/io/Serializable -/
def k4 : Class := { plain "java/io/Serializable" (some 0) with
  accessFlags := 1537
  interfaces := #[]
  cf := some (fileOf pool4 1 #[] #[] 1537 3 #[] #[])
  fields := #[]
  methods := #[]
  instanceTypes := #[]
  staticTypes := #[]
  resolved := Array.replicate 7 none
  statics := none }

def pool5 : Array CpInfo := pool [(2, .class_ 4), (1, u "java/lang/Enum"), (0, u "name"), (0, u "Ljava/lang/String;"), (2, u "ordinal"), (0, u "I"), (1, .class_ 14), (1, u "java/lang/Object"), (4, u "hash"), (86, .class_ 108), (1, u "java/lang/Enum$EnumDesc"), (2, .class_ 112), (0, u "java/lang/constant/Constable"), (0, .class_ 114), (0, u "java/lang/Comparable"), (0, .class_ 116), (0, u "java/io/Serializable")] 87

/-- java/lang/Enum -/
def k5 : Class := { plain "java/lang/Enum" (some 0) with
  accessFlags := 1057
  interfaces := #[2, 3, 4]
  cf := some (fileOf pool5 2 #[.nestMembers #[106]] #[] 1057 12 #[111, 113, 115] #[{ accessFlags := 18, nameIndex := 5, descriptorIndex := 6, attributes := #[] }, { accessFlags := 18, nameIndex := 9, descriptorIndex := 10, attributes := #[] }, { accessFlags := 2, nameIndex := 19, descriptorIndex := 10, attributes := #[] }])
  fields := #[{ name := "name", type := (.object "java/lang/String"), accessFlags := 18, slot := 0, constantValue := 0 }, { name := "ordinal", type := .int, accessFlags := 18, slot := 1, constantValue := 0 }, { name := "hash", type := .int, accessFlags := 2, slot := 2, constantValue := 0 }]
  methods := #[]
  instanceTypes := #[(.object "java/lang/String"), .int, .int]
  staticTypes := #[]
  resolved := Array.replicate 204 none
  statics := none }

def pool6 : Array CpInfo := pool [(1, .class_ 2), (0, u "com/example/undo_chain/undochain/sql/DateAdd$Unit"), (2, u "MICROSECOND"), (0, u "Lcom/example/undo_chain/undochain/sql/DateAdd$Unit;"), (2, u "SECOND"), (2, u "MINUTE"), (2, u "HOUR"), (0, .fieldref 1 17), (0, .nameAndType 18 6), (0, u "DAY"), (0, .fieldref 1 20), (0, .nameAndType 21 6), (0, u "WEEK"), (0, .fieldref 1 23), (0, .nameAndType 24 6), (0, u "MONTH"), (0, .fieldref 1 26), (0, .nameAndType 27 6), (0, u "QUARTER"), (0, .fieldref 1 29), (0, .nameAndType 30 6), (0, u "YEAR"), (2, u "$VALUES"), (0, u "[Lcom/example/undo_chain/undochain/sql/DateAdd$Unit;"), (6, .class_ 43), (1, u "java/lang/Enum"), (8, u "UNITS"), (61, u "isDays"), (0, u "()Z"), (5, .class_ 122), (0, u "com/example/undo_chain/undochain/sql/DateAdd")] 3

def k6c0 : Code := { maxStack := 2, maxLocals := 1, code := prog_178_method_5_code, exceptionTable := #[], attributes := #[] }
def k6m0 : Method := { name := "isDays", desc := "()Z", sig := { parameters := [], returnType := some .boolean }, accessFlags := 0, code := some k6c0 }
/-- com/example/undo_chain/undochain/sql/DateAdd$Unit -/
def k6 : Class := { plain "com/example/undo_chain/undochain/sql/DateAdd$Unit" (some 5) with
  accessFlags := 16433
  interfaces := #[]
  cf := some (fileOf pool6 1 #[.nestHost 121] #[{ accessFlags := 0, nameIndex := 114, descriptorIndex := 115, attributes := #[] }] 16433 41 #[] #[{ accessFlags := 16409, nameIndex := 5, descriptorIndex := 6, attributes := #[] }, { accessFlags := 16409, nameIndex := 9, descriptorIndex := 6, attributes := #[] }, { accessFlags := 16409, nameIndex := 12, descriptorIndex := 6, attributes := #[] }, { accessFlags := 16409, nameIndex := 15, descriptorIndex := 6, attributes := #[] }, { accessFlags := 16409, nameIndex := 18, descriptorIndex := 6, attributes := #[] }, { accessFlags := 16409, nameIndex := 21, descriptorIndex := 6, attributes := #[] }, { accessFlags := 16409, nameIndex := 24, descriptorIndex := 6, attributes := #[] }, { accessFlags := 16409, nameIndex := 27, descriptorIndex := 6, attributes := #[] }, { accessFlags := 16409, nameIndex := 30, descriptorIndex := 6, attributes := #[] }, { accessFlags := 26, nameIndex := 52, descriptorIndex := 34, attributes := #[] }, { accessFlags := 4122, nameIndex := 33, descriptorIndex := 34, attributes := #[] }])
  fields := #[{ name := "MICROSECOND", type := (.object "com/example/undo_chain/undochain/sql/DateAdd$Unit"), accessFlags := 16409, slot := 0, constantValue := 0 }, { name := "SECOND", type := (.object "com/example/undo_chain/undochain/sql/DateAdd$Unit"), accessFlags := 16409, slot := 1, constantValue := 0 }, { name := "MINUTE", type := (.object "com/example/undo_chain/undochain/sql/DateAdd$Unit"), accessFlags := 16409, slot := 2, constantValue := 0 }, { name := "HOUR", type := (.object "com/example/undo_chain/undochain/sql/DateAdd$Unit"), accessFlags := 16409, slot := 3, constantValue := 0 }, { name := "DAY", type := (.object "com/example/undo_chain/undochain/sql/DateAdd$Unit"), accessFlags := 16409, slot := 4, constantValue := 0 }, { name := "WEEK", type := (.object "com/example/undo_chain/undochain/sql/DateAdd$Unit"), accessFlags := 16409, slot := 5, constantValue := 0 }, { name := "MONTH", type := (.object "com/example/undo_chain/undochain/sql/DateAdd$Unit"), accessFlags := 16409, slot := 6, constantValue := 0 }, { name := "QUARTER", type := (.object "com/example/undo_chain/undochain/sql/DateAdd$Unit"), accessFlags := 16409, slot := 7, constantValue := 0 }, { name := "YEAR", type := (.object "com/example/undo_chain/undochain/sql/DateAdd$Unit"), accessFlags := 16409, slot := 8, constantValue := 0 }, { name := "UNITS", type := (.array (.object "com/example/undo_chain/undochain/sql/DateAdd$Unit")), accessFlags := 26, slot := 9, constantValue := 0 }, { name := "$VALUES", type := (.array (.object "com/example/undo_chain/undochain/sql/DateAdd$Unit")), accessFlags := 4122, slot := 10, constantValue := 0 }]
  methods := #[k6m0]
  instanceTypes := #[(.object "java/lang/String"), .int, .int]
  staticTypes := #[(.object "com/example/undo_chain/undochain/sql/DateAdd$Unit"), (.object "com/example/undo_chain/undochain/sql/DateAdd$Unit"), (.object "com/example/undo_chain/undochain/sql/DateAdd$Unit"), (.object "com/example/undo_chain/undochain/sql/DateAdd$Unit"), (.object "com/example/undo_chain/undochain/sql/DateAdd$Unit"), (.object "com/example/undo_chain/undochain/sql/DateAdd$Unit"), (.object "com/example/undo_chain/undochain/sql/DateAdd$Unit"), (.object "com/example/undo_chain/undochain/sql/DateAdd$Unit"), (.object "com/example/undo_chain/undochain/sql/DateAdd$Unit"), (.array (.object "com/example/undo_chain/undochain/sql/DateAdd$Unit")), (.array (.object "com/example/undo_chain/undochain/sql/DateAdd$Unit"))]
  resolved := Array.replicate 126 none
  statics := some 0 }

def pool7 : Array CpInfo := pool [(1, u "java/lang/Cloneable"), (0, .class_ 1), (0, u "java/lang/Object"), (0, .class_ 3)] 3

/-- java/lang/Cloneable -/
def k7 : Class := { plain "java/lang/Cloneable" (some 0) with
  accessFlags := 1537
  interfaces := #[]
  cf := some (fileOf pool7 2 #[] #[] 1537 4 #[] #[])
  fields := #[]
  methods := #[]
  instanceTypes := #[]
  staticTypes := #[]
  resolved := Array.replicate 8 none
  statics := none }

/-- the primitive byte -/
def k8 : Class := { plain "byte" none with kind := .primitive 'B', accessFlags := 0x411 }
/-- [B -/
def k9 : Class := { plain "[B" (some 0) with kind := .array 8 .byte, interfaces := #[7, 4], accessFlags := 1041 }

/-- the primitive int -/
def k10 : Class := { plain "int" none with kind := .primitive 'I', accessFlags := 0x411 }
/-- [I -/
def k11 : Class := { plain "[I" (some 0) with kind := .array 10 .int, interfaces := #[7, 4], accessFlags := 1041 }

/-- the primitive long -/
def k12 : Class := { plain "long" none with kind := .primitive 'J', accessFlags := 0x411 }
/-- [J -/
def k13 : Class := { plain "[J" (some 0) with kind := .array 12 .long, interfaces := #[7, 4], accessFlags := 1041 }

/-- [Lcom/example/undo_chain/undochain/sql/DateAdd$Unit; -/
def k14 : Class := { plain "[Lcom/example/undo_chain/undochain/sql/DateAdd$Unit;" (some 0) with kind := .array 6 (.object "com/example/undo_chain/undochain/sql/DateAdd$Unit"), interfaces := #[7, 4], accessFlags := 1041 }

def heap : Heap := #[{ cls := 6, slots := #[.ref 1, .ref 2, .ref 3, .ref 4, .ref 5, .ref 6, .ref 7, .ref 8, .ref 9, .null, .null], vm := .statics 6 },
  { cls := 6, slots := #[.null, .int 0, .int 0], vm := .none },
  { cls := 6, slots := #[.null, .int 1, .int 0], vm := .none },
  { cls := 6, slots := #[.null, .int 2, .int 0], vm := .none },
  { cls := 6, slots := #[.null, .int 3, .int 0], vm := .none },
  { cls := 6, slots := #[.null, .int 4, .int 0], vm := .none },
  { cls := 6, slots := #[.null, .int 5, .int 0], vm := .none },
  { cls := 6, slots := #[.null, .int 6, .int 0], vm := .none },
  { cls := 6, slots := #[.null, .int 7, .int 0], vm := .none },
  { cls := 6, slots := #[.null, .int 8, .int 0], vm := .none }]
def classes : Array Class := #[k0, k1, k2, k3, k4, k5, k6, k7, k8, k9, k10, k11, k12, k13, k14]
def interned : List (Array UInt16 × Addr) := []
def slotsUsed : Nat := 38
def theMethod : MethodId := ⟨1, 1⟩
def args0 : Array Value := #[.int 5]
def aboutOver (below : List Frame) : State where
  vm := { classes := classes, interned := interned.toArray }
  heap := heap
  slotsUsed := slotsUsed
  threads := #[{ frames := .invoking theMethod args0 :: below }]
def below0 : List Frame := [.native { method := ⟨0, 0⟩, args := #[] }]
def about1 : State := aboutOver below0
def p0 : Program := .bare "" "" ""
def e0 : Env := launch0.env 0 0 0
theorem w_frames : about1.frames = Frame.invoking theMethod args0 :: below0 := rfl
set_option maxRecDepth 65536 in
theorem w_args : argsFit about1.vm theMethod args0 = true := by decide +kernel
set_option maxRecDepth 65536 in
theorem w_heap : heapFits about1 = true := by decide +kernel
set_option maxRecDepth 65536 in
theorem w_runnable : about1.curStatus? = some .runnable := by decide +kernel
set_option maxRecDepth 65536 in
theorem w_alone : about1.alone = true := by decide +kernel
set_option maxRecDepth 65536 in
theorem w_named : about1.methodNamed? x = some theMethod := by decide +kernel
set_option maxRecDepth 65536 in
theorem w_hears : about1.hears theMethod below0 = true := by decide +kernel
set_option maxRecDepth 65536 in
theorem w_ripe : about1.ripe theMethod args0 below0 = true := by decide +kernel
theorem w_running : about1.status = .running := rfl
set_option maxRecDepth 65536 in
theorem w_room : about1.hasRoom e0.platform room_1 = true :=
  launch0.hasRoom_least _ room_1 (by decide +kernel) (by decide +kernel) (by decide +kernel) (by decide +kernel) (by decide +kernel) (by decide +kernel)
theorem allAtoms_all (ts : List Jvm.Cond) (a : Array Jvm.Value) (st : Jvm.State) : (allAtoms ts).before a st = ts.all (fun c => c.before a st) := by
  induction ts with
  | nil => rfl
  | cons c t ih =>
    show (Jvm.Cond.and c (allAtoms t)).before a st = _
    rw [Jvm.Cond.before_and, ih, List.all_cons]
def words1 : List Jvm.Cond := Jvm.Cond.code x code maxLocals ret :: tables_1
/-- a 'code' word, met by the world's own term for the bytes: nothing is compared byte by byte -/
theorem code_word {y : MethodName} {bytes : ByteArray} {mx : Nat} {rt : Option FieldType} {a : Array Value} {s : State} {m : MethodId} {meth : Method} {c : Code} (h1 : s.methodNamed? y = some m) (h2 : s.vm.method? m = some meth) (h3 : meth.code = some c) (h4 : c.code = bytes)
    (h5 : (c.maxLocals == mx && c.exceptionTable.isEmpty && decide (c.maxStack ≤ mostOperands) && decide (meth.sig.returnType = rt) && !meth.locks && decide (parseMethodDescriptor y.desc = some meth.sig)) = true) : (Jvm.Cond.code y bytes mx rt).before a s = true := by
  simp only [Bool.and_eq_true, beq_iff_eq, Bool.not_eq_true', decide_eq_true_eq] at h5
  obtain ⟨⟨⟨⟨⟨g1, g2⟩, g3⟩, g4⟩, g5⟩, g6⟩ := h5
  simp [Cond.before, Cond.holds, Cond.value, h1, h2, h3, h4, g1, g2, g3, g4, g5, g6]
def isCode : Jvm.Cond → Bool
  | .code _ _ _ _ => true
  | _ => false
theorem all_split {L : List Jvm.Cond} {P : Jvm.Cond → Bool} (h1 : L.all (fun c => isCode c || P c) = true) (h2 : ∀ c ∈ L.filter isCode, P c = true) : L.all P = true := by
  refine List.all_eq_true.mpr fun c hc => ?_
  have h := List.all_eq_true.mp h1 c hc
  rcases Bool.eq_false_or_eq_true (isCode c) with hi | hi
  · exact h2 c (List.mem_filter.mpr ⟨hc, hi⟩)
  · simpa [hi] using h
set_option maxRecDepth 65536 in
theorem w_c0 : (Jvm.Cond.code x code maxLocals ret).before args0 about1 = true := code_word (m := ⟨1, 1⟩) (meth := k1m1) (c := k1c1) (by decide +kernel) rfl rfl rfl (by decide +kernel)
set_option maxRecDepth 65536 in
theorem w_c1 : (Jvm.Cond.code ({ cls := "com/example/undo_chain/undochain/sql/DateAdd$Unit", name := "isDays", desc := "()Z" } : Jvm.MethodName) prog_178_method_5_code (1 : Nat) (Option.some Jvm.ClassFile.FieldType.boolean)).before args0 about1 = true := code_word (m := ⟨6, 0⟩) (meth := k6m0) (c := k6c0) (by decide +kernel) rfl rfl rfl (by decide +kernel)
def codes1 : List Jvm.Cond := [Jvm.Cond.code x code maxLocals ret, Jvm.Cond.code ({ cls := "com/example/undo_chain/undochain/sql/DateAdd$Unit", name := "isDays", desc := "()Z" } : Jvm.MethodName) prog_178_method_5_code (1 : Nat) (Option.some Jvm.ClassFile.FieldType.boolean)]
set_option maxRecDepth 65536 in
theorem codes_eq : words1.filter isCode = codes1 := rfl
theorem w_codes : ∀ c ∈ words1.filter isCode, c.before args0 about1 = true := by
  rw [codes_eq]
  intro c hc
  simp only [codes1, List.mem_cons, List.not_mem_nil, or_false] at hc
  rcases hc with rfl | rfl
  · exact w_c0
  · exact w_c1
set_option maxRecDepth 65536 in
theorem w_t1 : (words1.take 24).all (fun c => isCode c || c.before args0 about1) = true := by decide +kernel
set_option maxRecDepth 65536 in
theorem w_t2 : (words1.drop 24).all (fun c => isCode c || c.before args0 about1) = true := by decide +kernel
theorem w_tables : (allAtoms (Jvm.Cond.code x code maxLocals ret :: tables_1)).before args0 about1 = true := by
  rw [allAtoms_all]
  show words1.all (fun c => c.before args0 about1) = true
  refine all_split ?_ w_codes
  rw [← List.take_append_drop 24 words1, List.all_append, w_t1, w_t2]
  rfl
set_option maxRecDepth 65536 in
theorem w_case : (Jvm.Cond.and given_1 narrow_1).before args0 about1 = true := by decide +kernel
theorem w_applies : (headSpec (Jvm.Cond.code x code maxLocals ret :: tables_1) room_1).applies x e0.platform about1 = true :=
  (Spec.applies_iff w_frames).mpr ⟨w_running, w_runnable, w_alone, w_named, w_hears, w_ripe, w_room, w_tables⟩
theorem atStart : AtStart classFile x code maxLocals ret World_1 tables_1 room_1 Calls_1 rest_1 Pre_1 launch0 p0 e0 about1 theMethod args0 below0 :=
  ⟨lists_1, trivial, launch0.admits_env _ _ _, launch0.least_env, fairChoices_fair.cas, fairChoices_fair.clock, w_frames, w_args, w_heap, w_applies, trivial, trivial, w_case⟩
end start1
theorem witness_1 : WitnessClaimed_1 := ⟨start1.p0, start1.e0, start1.about1, start1.theMethod, start1.args0, start1.below0, start1.atStart⟩
end Jvm.Pilot.@@N@@
