import JvmDerived
import JvmDerived.Pilot.@@N@@Statement
import JvmDerived.Pilot.@@N@@Code
set_option linter.unusedVariables false
set_option linter.unusedSimpArgs false
namespace Jvm.Pilot.@@N@@
open Jvm Jvm.ClassFile Sem Op Lib Jvm.Free Jvm.Stand Jvm.LawKit Jvm.RoadKit Bundle Jvm.Pilot.@@N@@.Jvm.D
/-! 0. the walk's own layer: a run that comes to its end, step by step -/
def own_Goes (p : Program) (e : Env) (below : List Frame) (A : State) (G : Outcome → State → Prop) : Prop :=
  ∃ s₂ o, Steps p.tables e below A s₂ ∧ s₂.status = .running ∧ Ended s₂ below o ∧ G o s₂
def own_post (s : State) (Q : Option Value → Heap → List Loc → Prop) (rc rs : Nat) : Outcome → State → Prop :=
  fun o U' => ∃ v L, o = .returned v ∧ Q v U'.heap L ∧ FrameEnd s o U' L rc rs
section Own
variable {p : Program} {l : Launch} {e : Env} {R : Room} {s : State} {m : MethodId} {args : Array Value} {below : List Frame} {meth : Method} {c : Code} {T : State} {locs : List Loc} {cells slots : Nat} {G : Outcome → State → Prop} {Q : Option Value → Heap → List Loc → Prop} {rc rs : Nat} {Z : State} {a0 : Array Value} {h : Heap}
theorem own_st {A B : State} (st : ∀ t, Steps p.tables e below B t → Steps p.tables e below A t) (k : own_Goes p e below B G) : own_Goes p e below A G := by
  obtain ⟨s₂, o, h1, h2⟩ := k; exact ⟨s₂, o, st _ h1, h2⟩
theorem own_join {B : State} {K : (Outcome → State → Prop) → Prop} (h1 : K G) (h2 : K G → own_Goes p e below B G) : own_Goes p e below B G := h2 h1
theorem own_ret {S : List Value} {pc : Nat} {Ls : Array Slot} {w : Value} {t : FieldType} (X : Stand p l e R s m args below meth c T locs cells slots) (hlk : meth.locks = false) (hret : meth.sig.returnType = some t)
    (st : ∀ fs, (∀ (f : JFrame) (acts : List Action), f.method = m → f.locked = none → f.entered = [] → (doReturn e (T.setTop f) acts (some w)).1 = T.setFrames fs) → Steps p.tables e below (T.setTop (mkF m pc Ls S)) (T.setFrames fs))
    (hc : cells ≤ rc) (hs : slots ≤ rs) (eT : T.heap = h) (hq : Q (some w) h locs) : own_Goes p e below (T.setTop (mkF m pc Ls S)) (own_post s Q rc rs) := by
  subst eT
  obtain ⟨fs, hr, hrun, hended, hW, hsame⟩ := X.leave (v := some w) (fun h => by rw [hret] at h; cases h) hlk
  exact ⟨_, _, st fs hr, hrun, hended, _, _, rfl, hq, ⟨_, rfl⟩, hW, hsame.mono hc hs⟩
theorem own_retI {rest : List Value} {pc : Nat} {Ls : Array Slot} {z : Int32} (X : Stand p l e R s m args below meth c T locs cells slots) (hx : p.tables.exec = Jvm.exec) (hlk : meth.locks = false) (hret : meth.sig.returnType = some .int) (hd : decode c.code pc = .ok (.ireturn, 1))
    (hc : cells ≤ rc) (hs : slots ≤ rs) (eT : T.heap = h) (hq : Q (some (.int z)) h locs) : own_Goes p e below (T.setTop (mkF m pc Ls (.int z :: rest))) (own_post s Q rc rs) :=
  own_ret X hlk hret (fun fs hr => retOut X hx hret rfl (Or.inl ⟨rfl, Or.inl rfl, z, rfl⟩) hd hr) hc hs eT hq
theorem own_retN {rest : List Value} {pc : Nat} {Ls : Array Slot} {z z' : Int32} {t : FieldType} (X : Stand p l e R s m args below meth c T locs cells slots) (hx : p.tables.exec = Jvm.exec) (hlk : meth.locks = false) (hret : meth.sig.returnType = some t) (ht : t = .boolean ∨ t = .byte ∨ t = .char ∨ t = .short) (hn : nar t z = z') (hd : decode c.code pc = .ok (.ireturn, 1))
    (hc : cells ≤ rc) (hs : slots ≤ rs) (eT : T.heap = h) (hq : Q (some (.int z')) h locs) : own_Goes p e below (T.setTop (mkF m pc Ls (.int z :: rest))) (own_post s Q rc rs) :=
  own_ret X hlk hret (fun fs hr => retN X hx hret ht hd (by rw [hn]; exact hr)) hc hs eT hq
theorem own_retJ {rest : List Value} {pc : Nat} {Ls : Array Slot} {z : Int64} (X : Stand p l e R s m args below meth c T locs cells slots) (hx : p.tables.exec = Jvm.exec) (hlk : meth.locks = false) (hret : meth.sig.returnType = some .long) (hd : decode c.code pc = .ok (.lreturn, 1))
    (hc : cells ≤ rc) (hs : slots ≤ rs) (eT : T.heap = h) (hq : Q (some (.long z)) h locs) : own_Goes p e below (T.setTop (mkF m pc Ls (.long z :: rest))) (own_post s Q rc rs) :=
  own_ret X hlk hret (fun fs hr => retOut X hx hret rfl (Or.inr (Or.inl ⟨rfl, rfl, z, rfl⟩)) hd hr) hc hs eT hq
theorem own_retA {rest : List Value} {pc : Nat} {Ls : Array Slot} {w : Value} {t : FieldType} (X : Stand p l e R s m args below meth c T locs cells slots) (hx : p.tables.exec = Jvm.exec) (hlk : meth.locks = false) (hret : meth.sig.returnType = some t) (ht : t.isReference = true) (hw : w.isRef = true) (hn : narrow t w = w) (hd : decode c.code pc = .ok (.areturn, 1))
    (hc : cells ≤ rc) (hs : slots ≤ rs) (eT : T.heap = h) (hq : Q (some w) h locs) : own_Goes p e below (T.setTop (mkF m pc Ls (w :: rest))) (own_post s Q rc rs) :=
  own_ret X hlk hret (fun fs hr => retOut X hx hret hn (Or.inr (Or.inr (Or.inr (Or.inr ⟨rfl, ht, hw⟩)))) hd hr) hc hs eT hq
theorem own_retV {pc : Nat} {Ls : Array Slot} (X : Stand p l e R s m args below meth c T locs cells slots) (hx : p.tables.exec = Jvm.exec) (hlk : meth.locks = false) (hret : meth.sig.returnType = none) (hd : decode c.code pc = .ok (.return_, 1))
    (hc : cells ≤ rc) (hs : slots ≤ rs) (eT : T.heap = h) (hq : Q none h locs) : own_Goes p e below (T.setTop (mkF m pc Ls [])) (own_post s Q rc rs) := by
  subst eT
  obtain ⟨fs, hr, hrun, hended, hW, hsame⟩ := X.leave (v := none) (fun _ => rfl) hlk
  exact ⟨_, _, X.returnOut hx hret hd hr, hrun, hended, _, _, rfl, hq, ⟨_, rfl⟩, hW, hsame.mono hc hs⟩
/-- what a body's theorem says -/
abbrev own_Ct (l : Launch) (Z : State) (y : MethodName) (bytes : ByteArray) (maxL : Nat) (ret : Option FieldType) (ws : List Jvm.Cond) (rm : Room) (as' : Array Value) (h0 : Heap) (Q : Option Value → Heap → List Loc → Prop) (rc rs : Nat) : Prop :=
  MetFree l y (head1 (Jvm.Cond.code y bytes maxL ret :: ws) rm) (fun a U => a = as' ∧ Z.Warmed39 U.vm ∧ U.heap = h0) (fun _ _ _ _ _ => True) (fun _ U o U' => ∃ v L, o = .returned v ∧ Q v U'.heap L ∧ FrameEnd U o U' L rc rs)
theorem own_met {y : MethodName} {bytes : ByteArray} {maxL : Nat} {ret : Option FieldType} {ws : List Jvm.Cond} {rm : Room} {as' : Array Value} {h0 : Heap} (hp : plainFor y = true)
    (body : ∀ p e s m below meth c s₁, Stand p l e rm s m as' below meth c s₁ [] 0 0 → p.tables.exec = Jvm.exec → c.code = bytes → c.maxLocals = maxL → meth.sig.returnType = ret → meth.locks = false → meth.name = y.name → s.vm.findClass y.cls = some m.cls → Z.Warmed39 s.vm → s₁.heap = h0 →
      own_Goes p e below (s₁.setTop (entryFrame m as' maxL)) (own_post s Q rc rs)) : own_Ct l Z y bytes maxL ret ws rm as' h0 Q rc rs := by
  refine MetFree.of_bodySF hp hisR ?_
  intro p e s m args below meth c s₁ Bd hml0 hP hK
  obtain ⟨rfl, hZ, hh⟩ := hP
  exact body p e s m below meth c s₁ (Stand.of_body Bd) Bd.exec Bd.bytes hml0 Bd.returns Bd.notSynchronized (name_of_methodNamed Bd.named Bd.method).1 (findClass_of_methodNamed Bd.named) hZ (by rw [← hh, Bd.state]; rfl)
theorem own_callS {own : String} {index : Nat} {y : MethodName} {bytes : ByteArray} {maxL : Nat} {ret : Option FieldType} {rm : Room} {argsL rest : List Value} {pc W : Nat} {Ls : Array Slot} (X : Stand p l e R s m args below meth c T locs cells slots) (hx : p.tables.exec = Jvm.exec) (hZ : Z.Warmed39 s.vm) (hown : s.vm.findClass own = some m.cls)
    (w1 : (Jvm.Cond.methodLink own index y).before a0 Z = true) (w2 : (Jvm.Cond.static y).before a0 Z = true) (w3 : (Jvm.Cond.initialized y.cls).before a0 Z = true) (w4 : (Jvm.Cond.code y bytes maxL ret).before a0 Z = true) (hy : y.cls ≠ "java/lang/invoke/MethodHandle" ∧ y.cls ≠ "java/lang/invoke/VarHandle")
    (M : own_Ct l Z y bytes maxL ret [] rm argsL.toArray h Q rm.cells rm.slots) (hf : rm.frames + 1 ≤ R.frames) (hl : W + (maxL + 11) + rm.locals ≤ R.locals) (eT : T.heap = h) (hsize : Ls.size = c.maxLocals)
    (hlen : ∀ sig, parseMethodDescriptor y.desc = some sig → argsL.length = sig.parameters.length) {S : List Value} (hS : S = argsL.reverse ++ rest) (hW : (rest.map fun v => v.category).sum ≤ W) (hd : decode c.code pc = .ok (.invokestatic index, 3)) (hc : cells + rm.cells ≤ R.cells) (hs : slots + rm.slots ≤ R.slots) :
    ∃ v T' h' L, Stand p l e R s m args below meth c T' (locs ++ L) (cells + rm.cells) (slots + rm.slots) ∧ T'.heap = h' ∧ Q v h' L ∧ ∀ t, Steps p.tables e below (T'.setTop (mkF m (pc + 3) Ls (v.toList ++ rest))) t → Steps p.tables e below (T.setTop (mkF m pc Ls S)) t := by
  obtain ⟨v, _, ⟨T4, L4, k4, n4⟩, -, X4, ⟨Lc, hQ, l4, y4, z4⟩, st⟩ := Jvm.LawKit.callS X hx hown (mvT hZ w1) (mvT hZ w2) (mvT hZ w3) (mvT hZ w4) hy (backOf (W := W) M hZ w4 w3 hf hl) (g := mkF m pc Ls S) rfl hsize (argsL := argsL) (rest := rest) hlen hS (by show 2 * 0 + _ ≤ _; omega) hd (fun _ _ => ⟨rfl, eT, hc, hs⟩)
  dsimp only [Pt.U, Pt.locs, Pt.cells, Pt.slots] at X4 l4 y4 z4 st hQ
  subst l4 y4 z4
  exact ⟨v, T4, _, Lc, X4, rfl, hQ, st⟩
theorem own_callV {own C : String} {index : Nat} {y z : MethodName} {bytes : ByteArray} {maxL : Nat} {ret : Option FieldType} {rm : Room} {b : Addr} {argsL rest : List Value} {pc W : Nat} {Ls : Array Slot} (X : Stand p l e R s m args below meth c T locs cells slots) (hx : p.tables.exec = Jvm.exec) (hZ : Z.Warmed39 s.vm) (hown : s.vm.findClass own = some m.cls)
    (w1 : (Jvm.Cond.methodLink own index y).before a0 Z = true) (w2 : (Jvm.Cond.declares y).before a0 Z = true) (w5 : (Jvm.Cond.selects C y z).before a0 Z = true) (w6 : (Jvm.Cond.instanceMethod z).before a0 Z = true) (w3 : (Jvm.Cond.initialized z.cls).before a0 Z = true) (w4 : (Jvm.Cond.code z bytes maxL ret).before a0 Z = true) (hnf : NotFace s y) (hy : y.cls ≠ "java/lang/invoke/MethodHandle" ∧ y.cls ≠ "java/lang/invoke/VarHandle")
    (M : own_Ct l Z z bytes maxL ret [] rm (.ref b :: argsL).toArray h Q rm.cells rm.slots) (hf : rm.frames + 1 ≤ R.frames) (hl : W + (maxL + 11) + rm.locals ≤ R.locals) (eT : T.heap = h) (E : Exa Z h b C) (hsize : Ls.size = c.maxLocals)
    (hlen : ∀ sig, parseMethodDescriptor y.desc = some sig → argsL.length = sig.parameters.length) {S : List Value} (hS : S = argsL.reverse ++ .ref b :: rest) (hW : (rest.map fun v => v.category).sum ≤ W) (hd : decode c.code pc = .ok (.invokevirtual index, 3)) (hc : cells + rm.cells ≤ R.cells) (hs : slots + rm.slots ≤ R.slots) :
    ∃ v T' h' L, Stand p l e R s m args below meth c T' (locs ++ L) (cells + rm.cells) (slots + rm.slots) ∧ T'.heap = h' ∧ Q v h' L ∧ ∀ t, Steps p.tables e below (T'.setTop (mkF m (pc + 3) Ls (v.toList ++ rest))) t → Steps p.tables e below (T.setTop (mkF m pc Ls S)) t := by
  obtain ⟨cq, kq, qa, qb, qc⟩ := isOf hZ eT E
  obtain ⟨v, _, ⟨T4, L4, k4, n4⟩, -, X4, ⟨Lc, hQ, l4, y4, z4⟩, st⟩ := X.virtualBack hx (y := y) (z := z) hown (mvT hZ w1) (mvT hZ w2) hnf (mvT hZ w5) (mvT hZ w6) hy (backOf (W := W) M hZ w4 w3 hf hl) qa qc (g := mkF m pc Ls S) rfl hsize (Steps.refl _) (argsL := argsL) (rest := rest) hlen hS (by show 2 * 0 + _ ≤ _; omega) hd (fun _ _ => ⟨rfl, eT, hc, hs⟩)
  dsimp only [Pt.U, Pt.locs, Pt.cells, Pt.slots] at X4 l4 y4 z4 st hQ
  subst l4 y4 z4
  exact ⟨v, T4, _, Lc, X4, rfl, hQ, fun t k => st.trans k⟩
theorem own_callU {own C owner : String} {index : Nat} {y z : MethodName} {bytes : ByteArray} {maxL : Nat} {ret : Option FieldType} {rm : Room} {b : Addr} {argsL rest : List Value} {pc W : Nat} {Ls : Array Slot} (X : Stand p l e R s m args below meth c T locs cells slots) (hx : p.tables.exec = Jvm.exec) (hZ : Z.Warmed39 s.vm) (hown : s.vm.findClass own = some m.cls)
    (w1 : (Jvm.Cond.methodLink own index y).before a0 Z = true) (w0 : (Jvm.Cond.sameMethod y.cls owner y.name y.desc).before a0 Z = true) (w2 : (Jvm.Cond.declares ⟨owner, y.name, y.desc⟩).before a0 Z = true) (w5 : (Jvm.Cond.selects C y z).before a0 Z = true) (w6 : (Jvm.Cond.instanceMethod z).before a0 Z = true) (w3 : (Jvm.Cond.initialized z.cls).before a0 Z = true) (w4 : (Jvm.Cond.code z bytes maxL ret).before a0 Z = true) (hy : owner ≠ "java/lang/invoke/MethodHandle" ∧ owner ≠ "java/lang/invoke/VarHandle")
    (M : own_Ct l Z z bytes maxL ret [] rm (.ref b :: argsL).toArray h Q rm.cells rm.slots) (hf : rm.frames + 1 ≤ R.frames) (hl : W + (maxL + 11) + rm.locals ≤ R.locals) (eT : T.heap = h) (E : Exa Z h b C) (hsize : Ls.size = c.maxLocals)
    (hlen : ∀ sig, parseMethodDescriptor y.desc = some sig → argsL.length = sig.parameters.length) {S : List Value} (hS : S = argsL.reverse ++ .ref b :: rest) (hW : (rest.map fun v => v.category).sum ≤ W) (hd : decode c.code pc = .ok (.invokevirtual index, 3)) (hc : cells + rm.cells ≤ R.cells) (hs : slots + rm.slots ≤ R.slots) :
    ∃ v T' h' L, Stand p l e R s m args below meth c T' (locs ++ L) (cells + rm.cells) (slots + rm.slots) ∧ T'.heap = h' ∧ Q v h' L ∧ ∀ t, Steps p.tables e below (T'.setTop (mkF m (pc + 3) Ls (v.toList ++ rest))) t → Steps p.tables e below (T.setTop (mkF m pc Ls S)) t := by
  obtain ⟨cq, kq, qa, qb, qc⟩ := isOf hZ eT E
  obtain ⟨v, _, ⟨T4, L4, k4, n4⟩, -, X4, ⟨Lc, hQ, l4, y4, z4⟩, st⟩ := X.virtualBackUp hx (x := y) (y := z) hown (mvT hZ w1) (mvT hZ w0) (mvT hZ w2) hy (mvT hZ w5) (mvT hZ w6) (backOf (W := W) M hZ w4 w3 hf hl) qa qc (g := mkF m pc Ls S) rfl hsize (Steps.refl _) (argsL := argsL) (rest := rest) hlen hS (by show 2 * 0 + _ ≤ _; omega) hd (fun _ _ => ⟨rfl, eT, hc, hs⟩)
  dsimp only [Pt.U, Pt.locs, Pt.cells, Pt.slots] at X4 l4 y4 z4 st hQ
  subst l4 y4 z4
  exact ⟨v, T4, _, Lc, X4, rfl, hQ, fun t k => st.trans k⟩
theorem own_callP {own : String} {index : Nat} {y y' : MethodName} {bytes : ByteArray} {maxL : Nat} {ret : Option FieldType} {rm : Room} {b : Addr} {argsL rest : List Value} {pc W : Nat} {Ls : Array Slot} (X : Stand p l e R s m args below meth c T locs cells slots) (hx : p.tables.exec = Jvm.exec) (hZ : Z.Warmed39 s.vm) (hown : s.vm.findClass own = some m.cls)
    (w1 : (Jvm.Cond.methodLink own index y).before a0 Z = true) (w6 : (Jvm.Cond.instanceMethod y).before a0 Z = true) (w7 : (Jvm.Cond.privateMethod y).before a0 Z = true) (w5 : (Jvm.Cond.selects y.cls y' y').before a0 Z = true) (hy' : y'.cls = y.cls) (w3 : (Jvm.Cond.initialized y.cls).before a0 Z = true) (w4 : (Jvm.Cond.code y bytes maxL ret).before a0 Z = true) (hy : y.cls ≠ "java/lang/invoke/MethodHandle" ∧ y.cls ≠ "java/lang/invoke/VarHandle")
    (M : own_Ct l Z y bytes maxL ret [] rm (.ref b :: argsL).toArray h Q rm.cells rm.slots) (hf : rm.frames + 1 ≤ R.frames) (hl : W + (maxL + 11) + rm.locals ≤ R.locals) (eT : T.heap = h) {C : String} (E : Exa Z h b C) (hsize : Ls.size = c.maxLocals)
    (hlen : ∀ sig, parseMethodDescriptor y.desc = some sig → argsL.length = sig.parameters.length) {S : List Value} (hS : S = argsL.reverse ++ .ref b :: rest) (hW : (rest.map fun v => v.category).sum ≤ W) (hd : decode c.code pc = .ok (.invokevirtual index, 3)) (hc : cells + rm.cells ≤ R.cells) (hs : slots + rm.slots ≤ R.slots) :
    ∃ v T' h' L, Stand p l e R s m args below meth c T' (locs ++ L) (cells + rm.cells) (slots + rm.slots) ∧ T'.heap = h' ∧ Q v h' L ∧ ∀ t, Steps p.tables e below (T'.setTop (mkF m (pc + 3) Ls (v.toList ++ rest))) t → Steps p.tables e below (T.setTop (mkF m pc Ls S)) t := by
  obtain ⟨cq, q1, q2⟩ := E.cell
  have hpv : s.PrivateAt y := Cond.privateMethod_at (mvP hZ w7 (args := #[]))
  have hnf : NotFace s y' := notFace_of_selects (args := #[]) (mvT hZ w5)
  obtain ⟨c2, r2, m2, k1, k2, k3, k4, kP, hkP, hkPi⟩ := Cond.selects_spec (mvT (args := #[]) hZ w5)
  have k5 := findClass_of_methodNamed k3
  rw [hy'] at k5
  obtain ⟨v, _, ⟨T4, L4, k4, n4⟩, -, X4, ⟨Lc, hQ, l4, y4, z4⟩, st⟩ := X.privateBack hx hown (mvT hZ w1) (mvT hZ w6) (selects_self_of_private k5 hkP hkPi hpv (mvT hZ w6) hy) hpv (mvT hZ w4) hy (backOf (W := W) M hZ w4 w3 hf hl) (g := mkF m pc Ls S) rfl hsize (Steps.refl _) (a := b) (by rw [eT]; exact q1) q2 (argsL := argsL) (rest := rest) hlen hS (by show 2 * 0 + _ ≤ _; omega) hd (fun _ _ => ⟨rfl, eT, hc, hs⟩)
  dsimp only [Pt.U, Pt.locs, Pt.cells, Pt.slots] at X4 l4 y4 z4 st hQ
  subst l4 y4 z4
  exact ⟨v, T4, _, Lc, X4, rfl, hQ, fun t k => st.trans k⟩
theorem own_callI {own : String} {index : Nat} {y : MethodName} {bytes : ByteArray} {maxL : Nat} {rm : Room} {b : Addr} {argsL rest : List Value} {pc W : Nat} {Ls : Array Slot} (X : Stand p l e R s m args below meth c T locs cells slots) (hx : p.tables.exec = Jvm.exec) (hZ : Z.Warmed39 s.vm) (hown : s.vm.findClass own = some m.cls) (hi : y.name = "<init>")
    (w1 : (Jvm.Cond.methodLink own index y).before a0 Z = true) (w6 : (Jvm.Cond.instanceMethod y).before a0 Z = true) (w3 : (Jvm.Cond.initialized y.cls).before a0 Z = true) (w4 : (Jvm.Cond.code y bytes maxL none).before a0 Z = true) (hy : y.cls ≠ "java/lang/invoke/MethodHandle" ∧ y.cls ≠ "java/lang/invoke/VarHandle")
    (M : own_Ct l Z y bytes maxL none [] rm (.ref b :: argsL).toArray h Q rm.cells rm.slots) (hf : rm.frames + 1 ≤ R.frames) (hl : W + (maxL + 11) + rm.locals ≤ R.locals) (eT : T.heap = h) (hsize : Ls.size = c.maxLocals)
    (hlen : ∀ sig, parseMethodDescriptor y.desc = some sig → argsL.length = sig.parameters.length) {S : List Value} (hS : S = argsL.reverse ++ .ref b :: rest) (hW : (rest.map fun v => v.category).sum ≤ W) (hd : decode c.code pc = .ok (.invokespecial index, 3)) (hc : cells + rm.cells ≤ R.cells) (hs : slots + rm.slots ≤ R.slots) :
    ∃ v T' h' L, Stand p l e R s m args below meth c T' (locs ++ L) (cells + rm.cells) (slots + rm.slots) ∧ T'.heap = h' ∧ Q v h' L ∧ ∀ t, Steps p.tables e below (T'.setTop (mkF m (pc + 3) Ls (v.toList ++ rest))) t → Steps p.tables e below (T.setTop (mkF m pc Ls S)) t := by
  obtain ⟨v, _, ⟨T4, L4, k4, n4⟩, -, X4, ⟨Lc, hQ, l4, y4, z4⟩, st⟩ := X.specialBack hx hi hown (mvT hZ w1) (mvT hZ w6) (mvT hZ w4) hy (backOf (W := W) M hZ w4 w3 hf hl) (g := mkF m pc Ls S) rfl hsize (Steps.refl _) (a := b) (argsL := argsL) (rest := rest) hlen hS (by show 2 * 0 + _ ≤ _; omega) hd (fun _ _ => ⟨rfl, eT, hc, hs⟩)
  dsimp only [Pt.U, Pt.locs, Pt.cells, Pt.slots] at X4 l4 y4 z4 st hQ
  subst l4 y4 z4
  exact ⟨v, T4, _, Lc, X4, rfl, hQ, fun t k => st.trans k⟩
theorem own_eqI {st : State} {t : Term} {z : Int32} (k : (Jvm.Cond.eq t (Term.int z)).value args st none st [] = some true) : t.eval args st none [] st = some (.int z) := by
  simp only [Jvm.Cond.value, Term.eval] at k
  cases ht : t.eval args st none [] st with
  | none => simp [ht] at k
  | some q => cases q <;> simp [ht] at k ⊢; exact k
theorem own_eqR {st : State} {t u : Term} {b : Addr} (k : (Jvm.Cond.eq t u).value args st none st [] = some true) (hu : u.eval args st none [] st = some (.ref b)) : t.eval args st none [] st = some (.ref b) := by
  simp only [Jvm.Cond.value] at k
  cases ht : t.eval args st none [] st with
  | none => simp [ht] at k
  | some q => cases q <;> simp [ht, hu] at k ⊢; exact k
end Own

theorem pn_com_example_undo_chain_undochain_sql_FloatingPoint : plainName "com/example/undo_chain/undochain/sql/FloatingPoint" = true := by first | (simp [plainName, overriddenIn]; done) | decide +kernel
theorem pn_com_example_undo_chain_undochain_sql_FloatingPointComparePinLaw : plainName "com/example/undo_chain/undochain/sql/FloatingPointComparePinLaw" = true := by first | (simp [plainName, overriddenIn]; done) | decide +kernel
theorem pd__DD_I : parseMethodDescriptor "(DD)I" = some ⟨[.double, .double], some .int⟩ := by decide +kernel
section Own2
variable {p : Program} {l : Launch} {e : Env} {R : Room} {s : State} {m : MethodId} {args : Array Value} {below : List Frame} {meth : Method} {c : Code} {T : State} {locs : List Loc} {cells slots : Nat} {Z : State} {a0 : Array Value} {h : Heap} {a : Addr} {k : ClassId} {z j : Int32} {vs : List Value} {dv : Value} {pc : Nat} {Ls : Array Slot} {rest : List Value}
theorem own_stJ {x : Int64} (X : Stand p l e R s m args below meth c T locs cells slots) (hx : p.tables.exec = Jvm.exec) (hZ : Z.Warmed39 s.vm) (eT : T.heap = h) (F : Arv Z h a k .long z vs dv) (i : Nat) (hj : j.toNatClampNeg = i) (hz : ¬ j < 0 ∧ j < z) (hi : i < vs.length) (hd : decode c.code pc = .ok (.lastore, 1)) :
    ∃ T' h', Stand p l e R s m args below meth c T' (locs ++ [⟨a, j.toNatClampNeg⟩]) cells slots ∧ T'.heap = h' ∧ Wr h h' a j.toNatClampNeg (.long x) ∧ Arv Z h' a k .long z (vs.set i (.long x)) dv ∧ ∀ t, Steps p.tables e below (T'.setTop (mkF m (pc + 1) Ls rest)) t → Steps p.tables e below (T.setTop (mkF m pc Ls (.long x :: .int j :: .ref a :: rest))) t := by
  obtain ⟨cl, Ar, q, S, N, H, G⟩ := F
  obtain ⟨T', h', X', e', W, st⟩ := stJ X hx hZ eT Ar (j := j) (inb_of S hz) (g := mkF m pc Ls (.long x :: .int j :: .ref a :: rest)) rfl rfl hd
  exact ⟨T', h', X', e', W, Arv.set Ar q S N H G rfl W i hj hi, st⟩
theorem own_stB {x : Int32} (X : Stand p l e R s m args below meth c T locs cells slots) (hx : p.tables.exec = Jvm.exec) (hZ : Z.Warmed39 s.vm) (eT : T.heap = h) (F : Arv Z h a k .byte z vs dv) (i : Nat) (hj : j.toNatClampNeg = i) (hz : ¬ j < 0 ∧ j < z) (hi : i < vs.length) (hd : decode c.code pc = .ok (.bastore, 1)) :
    ∃ T' h', Stand p l e R s m args below meth c T' (locs ++ [⟨a, j.toNatClampNeg⟩]) cells slots ∧ T'.heap = h' ∧ Wr h h' a j.toNatClampNeg (.int x.toInt8.toInt32) ∧ Arv Z h' a k .byte z (vs.set i (.int x.toInt8.toInt32)) dv ∧ ∀ t, Steps p.tables e below (T'.setTop (mkF m (pc + 1) Ls rest)) t → Steps p.tables e below (T.setTop (mkF m pc Ls (.int x :: .int j :: .ref a :: rest))) t := by
  obtain ⟨cl, Ar, q, S, N, H, G⟩ := F
  obtain ⟨T', h', X', e', W, st⟩ := stB X hx hZ eT Ar (j := j) (inb_of S hz) (g := mkF m pc Ls (.int x :: .int j :: .ref a :: rest)) rfl rfl hd
  exact ⟨T', h', X', e', W, Arv.set Ar q S N H G (fits_nar_byte _) W i hj hi, st⟩
theorem own_stR {y : Addr} {ty : FieldType} (X : Stand p l e R s m args below meth c T locs cells slots) (hx : p.tables.exec = Jvm.exec) (hZ : Z.Warmed39 s.vm) (eT : T.heap = h) (F : Arv Z h a k ty z vs dv) (hty : ty.isReference = true) (hfit : fits ty (.ref y) = true) (hst : ∀ cl, Arr Z h a cl ty → cl.cls = k → Sto Z h a (.ref y)) (i : Nat) (hj : j.toNatClampNeg = i) (hz : ¬ j < 0 ∧ j < z) (hi : i < vs.length) (hd : decode c.code pc = .ok (.aastore, 1)) :
    ∃ T' h', Stand p l e R s m args below meth c T' (locs ++ [⟨a, j.toNatClampNeg⟩]) cells slots ∧ T'.heap = h' ∧ Wr h h' a j.toNatClampNeg (.ref y) ∧ Arv Z h' a k ty z (vs.set i (.ref y)) dv ∧ ∀ t, Steps p.tables e below (T'.setTop (mkF m (pc + 1) Ls rest)) t → Steps p.tables e below (T.setTop (mkF m pc Ls (.ref y :: .int j :: .ref a :: rest))) t := by
  obtain ⟨cl, Ar, q, S, N, H, G⟩ := F
  obtain ⟨T', h', X', e', W, st⟩ := stR X hx hZ eT Ar (j := j) (inb_of S hz) hty (hst cl Ar q) (g := mkF m pc Ls (.ref y :: .int j :: .ref a :: rest)) rfl rfl hd
  exact ⟨T', h', X', e', W, Arv.set Ar q S N H G hfit W i hj hi, st⟩
theorem own_ldJ {v : Value} (X : Stand p l e R s m args below meth c T locs cells slots) (hx : p.tables.exec = Jvm.exec) (hZ : Z.Warmed39 s.vm) (eT : T.heap = h) (F : Arv Z h a k .long z vs dv) (hz : ¬ j < 0 ∧ j < z) (hv : vs.getD j.toNatClampNeg dv = v) (hd : decode c.code pc = .ok (.laload, 1)) :
    ∀ t, Steps p.tables e below (T.setTop (mkF m (pc + 1) Ls (v :: rest))) t → Steps p.tables e below (T.setTop (mkF m pc Ls (.int j :: .ref a :: rest))) t := by
  obtain ⟨cl, Ar, q, S, N, H, G⟩ := F
  exact X.laload hx (j := j) (v := v) (by rw [eT]; exact Ar.1) (State.isArrayOf_alike hZ.alike Ar.2.1) Ar.2.2 (inb_of S hz) (H.at (inb_of S hz) hv) (g := mkF m pc Ls (.int j :: .ref a :: rest)) rfl rfl hd
theorem own_ldB {v : Value} (X : Stand p l e R s m args below meth c T locs cells slots) (hx : p.tables.exec = Jvm.exec) (hZ : Z.Warmed39 s.vm) (eT : T.heap = h) (F : Arv Z h a k .byte z vs dv) (hz : ¬ j < 0 ∧ j < z) (hv : vs.getD j.toNatClampNeg dv = v) (hd : decode c.code pc = .ok (.baload, 1)) :
    ∀ t, Steps p.tables e below (T.setTop (mkF m (pc + 1) Ls (v :: rest))) t → Steps p.tables e below (T.setTop (mkF m pc Ls (.int j :: .ref a :: rest))) t := by
  obtain ⟨cl, Ar, q, S, N, H, G⟩ := F
  exact X.baloadBytes hx (j := j) (v := v) (by rw [eT]; exact Ar.1) (State.isArrayOf_alike hZ.alike Ar.2.1) Ar.2.2 (inb_of S hz) (H.at (inb_of S hz) hv) (g := mkF m pc Ls (.int j :: .ref a :: rest)) rfl rfl hd
theorem own_ldR {v : Value} {ty : FieldType} (X : Stand p l e R s m args below meth c T locs cells slots) (hx : p.tables.exec = Jvm.exec) (hZ : Z.Warmed39 s.vm) (eT : T.heap = h) (F : Arv Z h a k ty z vs dv) (hty : ty.isReference = true) (hz : ¬ j < 0 ∧ j < z) (hv : vs.getD j.toNatClampNeg dv = v) (hd : decode c.code pc = .ok (.aaload, 1)) :
    ∀ t, Steps p.tables e below (T.setTop (mkF m (pc + 1) Ls (v :: rest))) t → Steps p.tables e below (T.setTop (mkF m pc Ls (.int j :: .ref a :: rest))) t := by
  obtain ⟨cl, Ar, q, S, N, H, G⟩ := F
  exact X.aaload hx (j := j) (v := v) (by rw [eT]; exact Ar.1) (State.isArrayOf_alike hZ.alike Ar.2.1) hty Ar.2.2 (inb_of S hz) (H.at (inb_of S hz) hv) (g := mkF m pc Ls (.int j :: .ref a :: rest)) rfl rfl hd
theorem own_len {ty : FieldType} (X : Stand p l e R s m args below meth c T locs cells slots) (hx : p.tables.exec = Jvm.exec) (hZ : Z.Warmed39 s.vm) (eT : T.heap = h) (F : Arv Z h a k ty z vs dv) (hd : decode c.code pc = .ok (.arraylength, 1)) :
    ∀ t, Steps p.tables e below (T.setTop (mkF m (pc + 1) Ls (.int z :: rest))) t → Steps p.tables e below (T.setTop (mkF m pc Ls (.ref a :: rest))) t := by
  obtain ⟨cl, Ar, q, S, N, H, G⟩ := F
  intro t kt
  refine X.arraylength hx (by rw [eT]; exact Ar.1) (State.isArrayOf_alike hZ.alike Ar.2.1) (g := mkF m pc Ls (.ref a :: rest)) rfl rfl hd t ?_
  rw [len_of S N]; exact kt
end Own2
section Own3
variable {tb : Tables} [Ours tb] {e : Env} {below : List Frame} {T target : State} {m : MethodId} {c : Code} {g : JFrame}
theorem own_dstoreN (h : At T m c below) (hx : tb.exec = Jvm.exec) (hg : g.method = m) {k : Fin 4} {x : UInt64} {rest : List Value} {l' : Array Slot} (hd : decode c.code g.pc = .ok (.dstore_n k, 1)) (hs : g.stack = .double x :: rest) (hl : storeLocals g.locals k.val (.double x) = some l')
    (hr : Steps tb e below (T.setTop { g with pc := g.pc + 1, stack := rest, locals := l' }) target) : Steps tb e below (T.setTop g) target := by
  subst hg
  jvm_step h [h.top, hx, hd, hs, hl]
  exact hr
theorem own_dstore (h : At T m c below) (hx : tb.exec = Jvm.exec) (hg : g.method = m) {k : Nat} {x : UInt64} {rest : List Value} {l' : Array Slot} (hd : decode c.code g.pc = .ok (.dstore k, 2)) (hs : g.stack = .double x :: rest) (hl : storeLocals g.locals k (.double x) = some l')
    (hr : Steps tb e below (T.setTop { g with pc := g.pc + 2, stack := rest, locals := l' }) target) : Steps tb e below (T.setTop g) target := by
  subst hg
  jvm_step h [h.top, hx, hd, hs, hl]
  exact hr
theorem own_i2d (h : At T m c below) (hx : tb.exec = Jvm.exec) (hg : g.method = m) {x : Int32} {rest : List Value} (hd : decode c.code g.pc = .ok (.i2d, 1)) (hs : g.stack = .int x :: rest)
    (hr : Steps tb e below (T.setTop { g with pc := g.pc + 1, stack := .double (FP.i2d x) :: rest }) target) : Steps tb e below (T.setTop g) target := by
  subst hg
  jvm_step h [h.top, hx, hd, hs]
  exact hr
theorem own_l2d (h : At T m c below) (hx : tb.exec = Jvm.exec) (hg : g.method = m) {x : Int64} {rest : List Value} (hd : decode c.code g.pc = .ok (.l2d, 1)) (hs : g.stack = .long x :: rest)
    (hr : Steps tb e below (T.setTop { g with pc := g.pc + 1, stack := .double (FP.l2d x) :: rest }) target) : Steps tb e below (T.setTop g) target := by
  subst hg
  jvm_step h [h.top, hx, hd, hs]
  exact hr
theorem own_dneg (h : At T m c below) (hx : tb.exec = Jvm.exec) (hg : g.method = m) {x : UInt64} {rest : List Value} (hd : decode c.code g.pc = .ok (.dneg, 1)) (hs : g.stack = .double x :: rest)
    (hr : Steps tb e below (T.setTop { g with pc := g.pc + 1, stack := .double (FP.dneg x) :: rest }) target) : Steps tb e below (T.setTop g) target := by
  subst hg
  jvm_step h [h.top, hx, hd, hs]
  exact hr
theorem own_dconst0 (h : At T m c below) (hx : tb.exec = Jvm.exec) (hg : g.method = m) (hd : decode c.code g.pc = .ok (.dconst 0, 1))
    (hr : Steps tb e below (T.setTop { g with pc := g.pc + 1, stack := .double FP.dconst0 :: g.stack }) target) : Steps tb e below (T.setTop g) target := by
  subst hg
  jvm_step h [h.top, hx, hd]
  exact hr
/-- what a comparison of two numbers pushes -/
def own_ord : Ordering → Int32
  | .lt => -1
  | .eq => 0
  | .gt => 1
theorem own_dcmp (h : At T m c below) (hx : tb.exec = Jvm.exec) (hg : g.method = m) {op : CmpOp} {x y : UInt64} {o : Ordering} {rest : List Value} (hd : decode c.code g.pc = .ok (.dcmp op, 1)) (hs : g.stack = .double y :: .double x :: rest) (hc : FP.dcmp x y = some o)
    (hr : Steps tb e below (T.setTop { g with pc := g.pc + 1, stack := .int (own_ord o) :: rest }) target) : Steps tb e below (T.setTop g) target := by
  subst hg
  jvm_step h [h.top, hx, hd, hs, hc, cmpValue]
  cases o <;> exact hr
theorem own_dadd (h : At T m c below) (hx : tb.exec = Jvm.exec) (hg : g.method = m) {x y : UInt64} {rest : List Value} (hd : decode c.code g.pc = .ok (.dadd, 1)) (hs : g.stack = .double y :: .double x :: rest) (hn : Jvm.Free.Fl.NoNaN64 (FP.dadd x y))
    (hr : Steps tb e below (T.setTop { g with pc := g.pc + 1, stack := .double (FP.dadd x y) :: rest }) target) : Steps tb e below (T.setTop g) target := by
  obtain ⟨gm, gpc, gl, gs, gk, ge, gr⟩ := g
  dsimp only at hg hs hd hr
  subst hg hs
  jvm_step h [hx, hd, Op.dadd.at_number h.top hn]
  exact hr
theorem own_dmul (h : At T m c below) (hx : tb.exec = Jvm.exec) (hg : g.method = m) {x y : UInt64} {rest : List Value} (hd : decode c.code g.pc = .ok (.dmul, 1)) (hs : g.stack = .double y :: .double x :: rest) (hn : Jvm.Free.Fl.NoNaN64 (FP.dmul x y))
    (hr : Steps tb e below (T.setTop { g with pc := g.pc + 1, stack := .double (FP.dmul x y) :: rest }) target) : Steps tb e below (T.setTop g) target := by
  obtain ⟨gm, gpc, gl, gs, gk, ge, gr⟩ := g
  dsimp only at hg hs hd hr
  subst hg hs
  jvm_step h [hx, hd, Op.dmul.at_number h.top hn]
  exact hr
end Own3
section Own4
variable {p : Program} {l : Launch} {e : Env} {R : Room} {s : State} {m : MethodId} {args : Array Value} {below : List Frame} {meth : Method} {c : Code} {T : State} {locs : List Loc} {cells slots : Nat} {Q : Option Value → Heap → List Loc → Prop} {rc rs : Nat} {h : Heap}
theorem own_retD {rest : List Value} {pc : Nat} {Ls : Array Slot} {z : UInt64} (X : Stand p l e R s m args below meth c T locs cells slots) (hx : p.tables.exec = Jvm.exec) (hlk : meth.locks = false) (hret : meth.sig.returnType = some .double) (hd : decode c.code pc = .ok (.dreturn, 1))
    (hc : cells ≤ rc) (hs : slots ≤ rs) (eT : T.heap = h) (hq : Q (some (.double z)) h locs) : own_Goes p e below (T.setTop (mkF m pc Ls (.double z :: rest))) (own_post s Q rc rs) :=
  own_ret X hlk hret (fun fs hr => retOut X hx hret rfl (Or.inr (Or.inr (Or.inl ⟨rfl, rfl, z, rfl⟩))) hd hr) hc hs eT hq
end Own4
/-! whole numbers as doubles: the library's DInt, said of the machine's own functions -/
abbrev own_DI (i : Int) (a : UInt64) : Prop := Jvm.FP.Core.DInt i a
theorem own_di_i2d (a : Int32) : own_DI a.toInt (FP.i2d a) := Jvm.FP.Core.i2d_int a
theorem own_di_nn {i : Int} {a : UInt64} (h : own_DI i a) : Jvm.FP.Core.val64 a ≠ .nan := fun q => by
  unfold own_DI Jvm.FP.Core.DInt at h; rw [q] at h; exact h
theorem own_di_nan {i : Int} {a : UInt64} (h : own_DI i a) : Jvm.FP.Core.dIsNaN a = false := by
  cases q : Jvm.FP.Core.dIsNaN a with
  | false => rfl
  | true => exact absurd ((Jvm.FP.Core.dIsNaN_iff a).mp q) (own_di_nn h)
theorem own_di_neg {i : Int} {a : UInt64} (h : own_DI i a) : own_DI (-i) (FP.dneg a) := by
  rw [FP.dneg_core (own_di_nan h)]; exact Jvm.FP.Core.dneg_int h
theorem own_di_cmp {i j : Int} {a b : UInt64} (ha : own_DI i a) (hb : own_DI j b) : FP.dcmp a b = some (compare i j) := Jvm.FP.Core.dcmp_int ha hb
theorem own_di_no {i : Int} {a : UInt64} (h : own_DI i a) : Jvm.Free.Fl.NoNaN64 a := Jvm.Free.Fl.noNaN64_no.mpr (own_di_nan h)
theorem own_di_add {i j : Int} {a b : UInt64} (ha : own_DI i a) (hb : own_DI j b) (h : (i + j).natAbs ≤ 2 ^ 53) : own_DI (i + j) (FP.dadd a b) := Jvm.FP.Core.dadd_int ha hb h
theorem own_di_mul {i j : Int} {a b : UInt64} (ha : own_DI i a) (hb : own_DI j b) (h : (i * j).natAbs ≤ 2 ^ 53) : own_DI (i * j) (FP.dmul a b) := Jvm.FP.Core.dmul_int ha hb h
theorem own_di_l2d {a : Int64} (h : a.toInt.natAbs ≤ 2 ^ 53) : own_DI a.toInt (FP.l2d a) := Jvm.FP.Core.l2d_int h
theorem own_di_0 : own_DI 0 FP.dconst0 := by
  show Jvm.FP.Core.Whole 0 (Jvm.FP.Core.val64 Jvm.FP.Core.dconst0)
  rw [Jvm.FP.Core.val64_dconst0]
  show Jvm.FP.Core.signed false (0 * 2 ^ (Jvm.FP.Core.b64.qmin).toNat) = 0 * ((2 ^ (-(Jvm.FP.Core.b64.qmin)).toNat : Nat) : Int)
  rw [Nat.zero_mul, Int.zero_mul]; rfl
section Own5
variable {p : Program} {l : Launch} {e : Env} {R : Room} {s : State} {m : MethodId} {args : Array Value} {below : List Frame} {meth : Method} {c : Code} {T : State} {locs : List Loc} {cells slots : Nat} {Z : State} {h : Heap} {a : Addr} {k : ClassId} {z j : Int32} {vs : List Value} {dv : Value} {pc : Nat} {Ls : Array Slot} {rest : List Value}
theorem own_stD {x : UInt64} (X : Stand p l e R s m args below meth c T locs cells slots) (hx : p.tables.exec = Jvm.exec) (hZ : Z.Warmed39 s.vm) (eT : T.heap = h) (F : Arv Z h a k .double z vs dv) (i : Nat) (hj : j.toNatClampNeg = i) (hz : ¬ j < 0 ∧ j < z) (hi : i < vs.length) (hd : decode c.code pc = .ok (.dastore, 1)) :
    ∃ T' h', Stand p l e R s m args below meth c T' (locs ++ [⟨a, j.toNatClampNeg⟩]) cells slots ∧ T'.heap = h' ∧ Wr h h' a j.toNatClampNeg (.double x) ∧ Arv Z h' a k .double z (vs.set i (.double x)) dv ∧ ∀ t, Steps p.tables e below (T'.setTop (mkF m (pc + 1) Ls rest)) t → Steps p.tables e below (T.setTop (mkF m pc Ls (.double x :: .int j :: .ref a :: rest))) t := by
  obtain ⟨cl, Ar, q, S, N, H, G⟩ := F
  obtain ⟨X', st⟩ := X.dastore hx (by rw [eT]; exact Ar.1) (State.isArrayOf_alike hZ.alike Ar.2.1) Ar.2.2 (inb_of S hz) (g := mkF m pc Ls (.double x :: .int j :: .ref a :: rest)) rfl rfl hd
  have W : Wr h (h.setIfInBounds a (cl.setSlot j.toNatClampNeg (.double x))) a j.toNatClampNeg (.double x) := ⟨cl, Ar.1, Ar.plain, Nat.lt_of_not_le fun q => inb_of S hz (Or.inr q), rfl⟩
  exact ⟨_, _, X', by rw [← eT]; rfl, W, Arv.set Ar q S N H G rfl W i hj hi, st⟩
theorem own_ldD {v : Value} (X : Stand p l e R s m args below meth c T locs cells slots) (hx : p.tables.exec = Jvm.exec) (hZ : Z.Warmed39 s.vm) (eT : T.heap = h) (F : Arv Z h a k .double z vs dv) (hz : ¬ j < 0 ∧ j < z) (hv : vs.getD j.toNatClampNeg dv = v) (hd : decode c.code pc = .ok (.daload, 1)) :
    ∀ t, Steps p.tables e below (T.setTop (mkF m (pc + 1) Ls (v :: rest))) t → Steps p.tables e below (T.setTop (mkF m pc Ls (.int j :: .ref a :: rest))) t := by
  obtain ⟨cl, Ar, q, S, N, H, G⟩ := F
  exact X.daload hx (j := j) (v := v) (by rw [eT]; exact Ar.1) (State.isArrayOf_alike hZ.alike Ar.2.1) Ar.2.2 (inb_of S hz) (H.at (inb_of S hz) hv) (g := mkF m pc Ls (.int j :: .ref a :: rest)) rfl rfl hd
end Own5
/-! the plain law -/
theorem own_o1 {o : Ordering} (h : own_ord o < (0 : Int32)) : (-1 : Int32) = own_ord o := by revert h; cases o <;> decide
theorem own_o2 {o : Ordering} (h : (0 : Int32) < own_ord o) : (1 : Int32) = own_ord o := by revert h; cases o <;> decide
theorem own_o3 {o : Ordering} (h : ¬ own_ord o < (0 : Int32)) (k : ¬ (0 : Int32) < own_ord o) : (0 : Int32) = own_ord o := by revert h k; cases o <;> decide
theorem own_cmp3 (i j : Int) : own_ord (compare i j) = if i < j then (-1 : Int32) else if i = j then 0 else 1 := by
  show own_ord (compareOfLessAndEq i j) = _
  unfold compareOfLessAndEq
  split
  · rfl
  · split <;> rfl
theorem own_cl (x y : Int64) : (XT.cmpL x y < (0 : Int32) ↔ x.toInt < y.toInt) ∧ ((0 : Int32) < XT.cmpL x y ↔ y.toInt < x.toInt) := by
  unfold XT.cmpL
  by_cases h1 : y < x
  · rw [if_pos h1]; rw [Int64.lt_iff_toInt_lt] at h1
    exact ⟨⟨fun q => absurd q (by decide), fun q => by omega⟩, ⟨fun _ => h1, fun _ => by decide⟩⟩
  · rw [if_neg h1]; rw [Int64.lt_iff_toInt_lt] at h1
    by_cases h2 : x = y
    · rw [if_pos h2]; subst h2
      exact ⟨⟨fun q => absurd q (by decide), fun q => absurd q h1⟩, ⟨fun q => absurd q (by decide), fun q => absurd q h1⟩⟩
    · rw [if_neg h2]; rw [← Int64.toInt_inj] at h2
      exact ⟨⟨fun _ => by omega, fun _ => by decide⟩, ⟨fun q => absurd q (by decide), fun q => absurd q h1⟩⟩
theorem own_pos (a : Int32) : own_DI a.toInt64.toInt (FP.i2d a) := by rw [c_i2l]; exact own_di_i2d a
theorem own_neg (a : Int32) : own_DI (-a.toInt64).toInt (FP.dneg (FP.i2d a)) := by
  have q : (-a.toInt64).toInt = -a.toInt := by
    have e1 := c_lneg a.toInt64
    have e2 := rng64 (-a.toInt64)
    have e3 := rng32 a
    rw [c_i2l] at e1; omega
  rw [q]; exact own_di_neg (own_di_i2d a)

theorem d1_0 : decode prog_204_method_3_code 0 = .ok (.dload_n 0, 1) := by decide +kernel
theorem d1_1 : decode prog_204_method_3_code 1 = .ok (.dload_n 2, 1) := by decide +kernel
theorem d1_2 : decode prog_204_method_3_code 2 = .ok (.dcmp .g, 1) := by decide +kernel
theorem d1_3 : decode prog_204_method_3_code 3 = .ok (.ifCond .ge 9, 3) := by decide +kernel
theorem d1_6 : decode prog_204_method_3_code 6 = .ok (.iconst (-1), 1) := by decide +kernel
theorem d1_7 : decode prog_204_method_3_code 7 = .ok (.istore 4, 2) := by decide +kernel
theorem d1_9 : decode prog_204_method_3_code 9 = .ok (.goto 18, 3) := by decide +kernel
theorem d1_12 : decode prog_204_method_3_code 12 = .ok (.dload_n 0, 1) := by decide +kernel
theorem d1_13 : decode prog_204_method_3_code 13 = .ok (.dload_n 2, 1) := by decide +kernel
theorem d1_14 : decode prog_204_method_3_code 14 = .ok (.dcmp .l, 1) := by decide +kernel
theorem d1_15 : decode prog_204_method_3_code 15 = .ok (.ifCond .le 9, 3) := by decide +kernel
theorem d1_18 : decode prog_204_method_3_code 18 = .ok (.iconst 1, 1) := by decide +kernel
theorem d1_19 : decode prog_204_method_3_code 19 = .ok (.istore 4, 2) := by decide +kernel
theorem d1_21 : decode prog_204_method_3_code 21 = .ok (.goto 6, 3) := by decide +kernel
theorem d1_24 : decode prog_204_method_3_code 24 = .ok (.iconst 0, 1) := by decide +kernel
theorem d1_25 : decode prog_204_method_3_code 25 = .ok (.istore 4, 2) := by decide +kernel
theorem d1_27 : decode prog_204_method_3_code 27 = .ok (.iload 4, 2) := by decide +kernel
theorem d1_29 : decode prog_204_method_3_code 29 = .ok (.ireturn, 1) := by decide +kernel
theorem ef_1 (m : MethodId) (x1 : UInt64) (x2 : UInt64) : entryFrame m #[(.double x1), (.double x2)] 5 = mkF m 0 #[.val (.double x1), .second, .val (.double x2), .second, .unset] [] := by first | (simp [entryFrame, mkF, argsToLocals, Value.category]; done) | rfl
set_option maxRecDepth 65536 in
set_option maxHeartbeats 40000000 in
theorem rm1 (l : Launch) (Z : State) (a0 : Array Value) (hw : ∀ d ∈ tables_1, d.before a0 Z = true) (ws : List Jvm.Cond) (x1 x2 : UInt64) (i1 j1 : Int) (h0 : Heap) (n0 : Nat) (Z0 : n0 ≤ h0.size) (D1 : own_DI i1 x1) (D2 : own_DI j1 x2) :
    own_Ct l Z (⟨"com/example/undo_chain/undochain/sql/FloatingPoint", "compare", "(DD)I"⟩ : MethodName) prog_204_method_3_code 5 (some .int) ws ({ frames := 0, cells := 0, slots := 0, locals := 0 } : Room) #[(.double x1), (.double x2)] h0 (fun v h L => v = some (.int (own_ord (compare i1 j1))) ∧ L = [] ∧ h = h0) ({ frames := 0, cells := 0, slots := 0, locals := 0 } : Room).cells ({ frames := 0, cells := 0, slots := 0, locals := 0 } : Room).slots := by
  refine own_met (plainFor_of_name pn_com_example_undo_chain_undochain_sql_FloatingPoint) (fun p e s m below meth c s₁ X0 hx hby hml hret hlk hnm hown hZ e0 => ?_)
  have hml : c.maxLocals = 5 := hml
  have N0 := Fr.nil n0
  refine own_st (fun _ k => castTop (ef_1 m x1 x2) k) ?_
  show own_Goes p e below (s₁.setTop (mkF m 0 #[.val (.double x1), .second, .val (.double x2), .second, .unset] [])) _
  refine own_st (fun _ k => XT.dloadN X0.here hx rfl (hb hby d1_0) rfl k) ?_
  show own_Goes p e below (s₁.setTop (mkF m 1 #[.val (.double x1), .second, .val (.double x2), .second, .unset] [(.double x1)])) _
  refine own_st (fun _ k => XT.dloadN X0.here hx rfl (hb hby d1_1) rfl k) ?_
  show own_Goes p e below (s₁.setTop (mkF m 2 #[.val (.double x1), .second, .val (.double x2), .second, .unset] [(.double x2), (.double x1)])) _
  refine own_st (fun _ k => own_dcmp (o := compare i1 j1) X0.here hx rfl (hb hby d1_2) rfl (own_di_cmp D1 D2) k) ?_
  show own_Goes p e below (s₁.setTop (mkF m 3 #[.val (.double x1), .second, .val (.double x2), .second, .unset] [(.int (own_ord (compare i1 j1)))])) _
  by_cases hc3_101 : (own_ord (compare i1 j1)) < (0 : Int32)
  · refine own_st (fun _ k => XS.ifNo X0.here hx rfl (hb hby d1_3) rfl ((if0 _ _).trans (tlt hc3_101).2.1) k) ?_
    show own_Goes p e below (s₁.setTop (mkF m 6 #[.val (.double x1), .second, .val (.double x2), .second, .unset] [])) _
    refine own_st (fun _ k => XS.iconst X0.here hx rfl (hb hby d1_6) k) ?_
    show own_Goes p e below (s₁.setTop (mkF m 7 #[.val (.double x1), .second, .val (.double x2), .second, .unset] [(.int (-1 : Int32))])) _
    refine own_st (fun _ k => XS.istore X0.here hx rfl (hb hby d1_7) rfl (l' := #[.val (.double x1), .second, .val (.double x2), .second, .val (.int (-1 : Int32))]) rfl k) ?_
    show own_Goes p e below (s₁.setTop (mkF m 9 #[.val (.double x1), .second, .val (.double x2), .second, .val (.int (-1 : Int32))] [])) _
    refine own_st (fun _ k => XS.goto X0.here hx rfl (pc0 := 9) (pc' := 27) rfl (hb hby d1_9) (by decide) (by decide) k) ?_
    show own_Goes p e below (s₁.setTop (mkF m 27 #[.val (.double x1), .second, .val (.double x2), .second, .val (.int (-1 : Int32))] [])) _
    refine own_st (fun _ k => XS.iload X0.here hx rfl (hb hby d1_27) rfl k) ?_
    show own_Goes p e below (s₁.setTop (mkF m 29 #[.val (.double x1), .second, .val (.double x2), .second, .val (.int (-1 : Int32))] [(.int (-1 : Int32))])) _
    exact own_retI X0 hx hlk hret (hb hby d1_29) (by decide) (by decide) e0 ⟨congrArg (fun z => some (Value.int z)) (own_o1 hc3_101), rfl, rfl⟩
  · refine own_st (fun _ k => XS.ifYes X0.here hx rfl (pc0 := 3) (pc' := 12) rfl (hb hby d1_3) rfl ((if0 _ _).trans (flt hc3_101).2.1) (by decide) (by decide) k) ?_
    show own_Goes p e below (s₁.setTop (mkF m 12 #[.val (.double x1), .second, .val (.double x2), .second, .unset] [])) _
    refine own_st (fun _ k => XT.dloadN X0.here hx rfl (hb hby d1_12) rfl k) ?_
    show own_Goes p e below (s₁.setTop (mkF m 13 #[.val (.double x1), .second, .val (.double x2), .second, .unset] [(.double x1)])) _
    refine own_st (fun _ k => XT.dloadN X0.here hx rfl (hb hby d1_13) rfl k) ?_
    show own_Goes p e below (s₁.setTop (mkF m 14 #[.val (.double x1), .second, .val (.double x2), .second, .unset] [(.double x2), (.double x1)])) _
    refine own_st (fun _ k => own_dcmp (o := compare i1 j1) X0.here hx rfl (hb hby d1_14) rfl (own_di_cmp D1 D2) k) ?_
    show own_Goes p e below (s₁.setTop (mkF m 15 #[.val (.double x1), .second, .val (.double x2), .second, .unset] [(.int (own_ord (compare i1 j1)))])) _
    by_cases hc15_102 : (0 : Int32) < (own_ord (compare i1 j1))
    · refine own_st (fun _ k => XS.ifNo X0.here hx rfl (hb hby d1_15) rfl ((if0 _ _).trans (tlt hc15_102).2.2.2) k) ?_
      show own_Goes p e below (s₁.setTop (mkF m 18 #[.val (.double x1), .second, .val (.double x2), .second, .unset] [])) _
      refine own_st (fun _ k => XS.iconst X0.here hx rfl (hb hby d1_18) k) ?_
      show own_Goes p e below (s₁.setTop (mkF m 19 #[.val (.double x1), .second, .val (.double x2), .second, .unset] [(.int (1 : Int32))])) _
      refine own_st (fun _ k => XS.istore X0.here hx rfl (hb hby d1_19) rfl (l' := #[.val (.double x1), .second, .val (.double x2), .second, .val (.int (1 : Int32))]) rfl k) ?_
      show own_Goes p e below (s₁.setTop (mkF m 21 #[.val (.double x1), .second, .val (.double x2), .second, .val (.int (1 : Int32))] [])) _
      refine own_st (fun _ k => XS.goto X0.here hx rfl (pc0 := 21) (pc' := 27) rfl (hb hby d1_21) (by decide) (by decide) k) ?_
      show own_Goes p e below (s₁.setTop (mkF m 27 #[.val (.double x1), .second, .val (.double x2), .second, .val (.int (1 : Int32))] [])) _
      refine own_st (fun _ k => XS.iload X0.here hx rfl (hb hby d1_27) rfl k) ?_
      show own_Goes p e below (s₁.setTop (mkF m 29 #[.val (.double x1), .second, .val (.double x2), .second, .val (.int (1 : Int32))] [(.int (1 : Int32))])) _
      exact own_retI X0 hx hlk hret (hb hby d1_29) (by decide) (by decide) e0 ⟨congrArg (fun z => some (Value.int z)) (own_o2 hc15_102), rfl, rfl⟩
    · refine own_st (fun _ k => XS.ifYes X0.here hx rfl (pc0 := 15) (pc' := 24) rfl (hb hby d1_15) rfl ((if0 _ _).trans (flt hc15_102).2.2.2) (by decide) (by decide) k) ?_
      show own_Goes p e below (s₁.setTop (mkF m 24 #[.val (.double x1), .second, .val (.double x2), .second, .unset] [])) _
      refine own_st (fun _ k => XS.iconst X0.here hx rfl (hb hby d1_24) k) ?_
      show own_Goes p e below (s₁.setTop (mkF m 25 #[.val (.double x1), .second, .val (.double x2), .second, .unset] [(.int (0 : Int32))])) _
      refine own_st (fun _ k => XS.istore X0.here hx rfl (hb hby d1_25) rfl (l' := #[.val (.double x1), .second, .val (.double x2), .second, .val (.int (0 : Int32))]) rfl k) ?_
      show own_Goes p e below (s₁.setTop (mkF m 27 #[.val (.double x1), .second, .val (.double x2), .second, .val (.int (0 : Int32))] [])) _
      refine own_st (fun _ k => XS.iload X0.here hx rfl (hb hby d1_27) rfl k) ?_
      show own_Goes p e below (s₁.setTop (mkF m 29 #[.val (.double x1), .second, .val (.double x2), .second, .val (.int (0 : Int32))] [(.int (0 : Int32))])) _
      exact own_retI X0 hx hlk hret (hb hby d1_29) (by decide) (by decide) e0 ⟨congrArg (fun z => some (Value.int z)) (own_o3 hc3_101 hc15_102), rfl, rfl⟩
theorem ef_0 (m : MethodId) (p1 : Int32) (p2 : Int32) (p3 : Int32) : entryFrame m #[(.int p1), (.int p2), (.int p3)] maxLocals = mkF m 0 #[.val (.int p1), .val (.int p2), .val (.int p3), .unset, .unset, .unset, .unset, .unset, .unset, .unset, .unset, .unset, .unset, .unset, .unset, .unset] [] := by first | (simp [entryFrame, mkF, argsToLocals, Value.category, maxLocals]; done) | rfl
set_option maxRecDepth 65536 in
set_option maxHeartbeats 40000000 in
theorem rm0 (l : Launch) (Z : State) (a0 : Array Value) (hw : ∀ d ∈ tables_1, d.before a0 Z = true) (ws : List Jvm.Cond) (p1 p2 p3 : Int32) (h0 : Heap) (n0 : Nat) (Z0 : n0 ≤ h0.size)  :
    own_Ct l Z x code maxLocals ret ws room_1 #[(.int p1), (.int p2), (.int p3)] h0 (fun v h L => v = some (.int (1 : Int32)) ∧ Fr n0 L) 0 0 := by
  refine own_met (plainFor_of_name pn_com_example_undo_chain_undochain_sql_FloatingPointComparePinLaw) (fun p e s m below meth c s₁ X0 hx hby hml hret hlk hnm hown hZ e0 => ?_)
  have hml : c.maxLocals = 16 := hml
  have N0 := Fr.nil n0
  refine own_st (fun _ k => castTop (ef_0 m p1 p2 p3) k) ?_
  show own_Goes p e below (s₁.setTop (mkF m 0 #[.val (.int p1), .val (.int p2), .val (.int p3), .unset, .unset, .unset, .unset, .unset, .unset, .unset, .unset, .unset, .unset, .unset, .unset, .unset] [])) _
  refine own_join (K := fun G => ∀ (l3 l4 l5 l6 : Int32) (la lb : Int64) (x1 x2 : UInt64), own_DI la.toInt x1 → own_DI lb.toInt x2 → own_Goes p e below (s₁.setTop (mkF m 112 #[.val (.int p1), .val (.int p2), .val (.int p3), .val (.int l3), .val (.int l4), .val (.int l5), .val (.int l6), .val (.long la), .second, .val (.long lb), .second, .val (.double x1), .second, .val (.double x2), .second, .unset] [])) G) ?_ ?_
  · intro l3 l4 l5 l6 la lb x1 x2 D1 D2
    show own_Goes p e below (s₁.setTop (mkF m 112 #[.val (.int p1), .val (.int p2), .val (.int p3), .val (.int l3), .val (.int l4), .val (.int l5), .val (.int l6), .val (.long la), .second, .val (.long lb), .second, .val (.double x1), .second, .val (.double x2), .second, .unset] [])) _
    refine own_st (fun _ k => XT.lload X0.here hx rfl (hb hby at_112) rfl k) ?_
    show own_Goes p e below (s₁.setTop (mkF m 114 #[.val (.int p1), .val (.int p2), .val (.int p3), .val (.int l3), .val (.int l4), .val (.int l5), .val (.int l6), .val (.long la), .second, .val (.long lb), .second, .val (.double x1), .second, .val (.double x2), .second, .unset] [(.long la)])) _
    refine own_st (fun _ k => XT.lload X0.here hx rfl (hb hby at_114) rfl k) ?_
    show own_Goes p e below (s₁.setTop (mkF m 116 #[.val (.int p1), .val (.int p2), .val (.int p3), .val (.int l3), .val (.int l4), .val (.int l5), .val (.int l6), .val (.long la), .second, .val (.long lb), .second, .val (.double x1), .second, .val (.double x2), .second, .unset] [(.long lb), (.long la)])) _
    refine own_st (fun _ k => XT.lcmp X0.here hx rfl (hb hby at_116) rfl k) ?_
    show own_Goes p e below (s₁.setTop (mkF m 117 #[.val (.int p1), .val (.int p2), .val (.int p3), .val (.int l3), .val (.int l4), .val (.int l5), .val (.int l6), .val (.long la), .second, .val (.long lb), .second, .val (.double x1), .second, .val (.double x2), .second, .unset] [(.int (XT.cmpL la lb))])) _
    by_cases hc117_101 : (XT.cmpL la lb) < (0 : Int32)
    · refine own_st (fun _ k => XS.ifNo X0.here hx rfl (hb hby at_117) rfl ((if0 _ _).trans (tlt hc117_101).2.1) k) ?_
      show own_Goes p e below (s₁.setTop (mkF m 120 #[.val (.int p1), .val (.int p2), .val (.int p3), .val (.int l3), .val (.int l4), .val (.int l5), .val (.int l6), .val (.long la), .second, .val (.long lb), .second, .val (.double x1), .second, .val (.double x2), .second, .unset] [])) _
      refine own_st (fun _ k => XS.iconst X0.here hx rfl (hb hby at_120) k) ?_
      show own_Goes p e below (s₁.setTop (mkF m 121 #[.val (.int p1), .val (.int p2), .val (.int p3), .val (.int l3), .val (.int l4), .val (.int l5), .val (.int l6), .val (.long la), .second, .val (.long lb), .second, .val (.double x1), .second, .val (.double x2), .second, .unset] [(.int (-1 : Int32))])) _
      refine own_st (fun _ k => XS.istore X0.here hx rfl (hb hby at_121) rfl (l' := #[.val (.int p1), .val (.int p2), .val (.int p3), .val (.int l3), .val (.int l4), .val (.int l5), .val (.int l6), .val (.long la), .second, .val (.long lb), .second, .val (.double x1), .second, .val (.double x2), .second, .val (.int (-1 : Int32))]) rfl k) ?_
      show own_Goes p e below (s₁.setTop (mkF m 123 #[.val (.int p1), .val (.int p2), .val (.int p3), .val (.int l3), .val (.int l4), .val (.int l5), .val (.int l6), .val (.long la), .second, .val (.long lb), .second, .val (.double x1), .second, .val (.double x2), .second, .val (.int (-1 : Int32))] [])) _
      refine own_st (fun _ k => XS.goto X0.here hx rfl (pc0 := 123) (pc' := 143) rfl (hb hby at_123) (by decide) (by decide) k) ?_
      show own_Goes p e below (s₁.setTop (mkF m 143 #[.val (.int p1), .val (.int p2), .val (.int p3), .val (.int l3), .val (.int l4), .val (.int l5), .val (.int l6), .val (.long la), .second, .val (.long lb), .second, .val (.double x1), .second, .val (.double x2), .second, .val (.int (-1 : Int32))] [])) _
      refine own_st (fun _ k => XT.dload X0.here hx rfl (hb hby at_143) rfl k) ?_
      show own_Goes p e below (s₁.setTop (mkF m 145 #[.val (.int p1), .val (.int p2), .val (.int p3), .val (.int l3), .val (.int l4), .val (.int l5), .val (.int l6), .val (.long la), .second, .val (.long lb), .second, .val (.double x1), .second, .val (.double x2), .second, .val (.int (-1 : Int32))] [(.double x1)])) _
      refine own_st (fun _ k => XT.dload X0.here hx rfl (hb hby at_145) rfl k) ?_
      show own_Goes p e below (s₁.setTop (mkF m 147 #[.val (.int p1), .val (.int p2), .val (.int p3), .val (.int l3), .val (.int l4), .val (.int l5), .val (.int l6), .val (.long la), .second, .val (.long lb), .second, .val (.double x1), .second, .val (.double x2), .second, .val (.int (-1 : Int32))] [(.double x2), (.double x1)])) _
      obtain ⟨_, T102, h102, L102, X102, e102, ⟨rfl, rfl, q102⟩, st102⟩ := own_callS (argsL := [(.double x1), (.double x2)]) (rest := []) (pc := 147) (W := 0) (Ls := #[.val (.int p1), .val (.int p2), .val (.int p3), .val (.int l3), .val (.int l4), .val (.int l5), .val (.int l6), .val (.long la), .second, .val (.long lb), .second, .val (.double x1), .second, .val (.double x2), .second, .val (.int (-1 : Int32))]) (S := [(.double x2), (.double x1)]) X0 hx hZ hown (hw _ (List.mem_of_getElem? (i := 0) rfl)) (hw _ (List.mem_of_getElem? (i := 1) rfl)) (hw _ (List.mem_of_getElem? (i := 2) rfl)) (hw _ (List.mem_of_getElem? (i := 3) rfl)) (by decide) (rm1 l Z a0 hw [] x1 x2 la.toInt lb.toInt h0 n0 Z0 D1 D2) (by decide) (by decide) e0 (by rw [hml]; rfl) (lenOf pd__DD_I rfl) rfl (Nat.le_of_eq rfl) (hb hby at_147) (by decide) (by decide)
      refine own_st st102 ?_
      show own_Goes p e below (T102.setTop (mkF m 150 #[.val (.int p1), .val (.int p2), .val (.int p3), .val (.int l3), .val (.int l4), .val (.int l5), .val (.int l6), .val (.long la), .second, .val (.long lb), .second, .val (.double x1), .second, .val (.double x2), .second, .val (.int (-1 : Int32))] [(.int (own_ord (compare la.toInt lb.toInt)))])) _
      refine own_st (fun _ k => XS.iload X102.here hx rfl (hb hby at_150) rfl k) ?_
      show own_Goes p e below (T102.setTop (mkF m 152 #[.val (.int p1), .val (.int p2), .val (.int p3), .val (.int l3), .val (.int l4), .val (.int l5), .val (.int l6), .val (.long la), .second, .val (.long lb), .second, .val (.double x1), .second, .val (.double x2), .second, .val (.int (-1 : Int32))] [(.int (-1 : Int32)), (.int (own_ord (compare la.toInt lb.toInt)))])) _
      refine own_st (fun _ k => XS.icmpNo X102.here hx rfl (hb hby at_152) rfl (teq (by rw [own_cmp3]; simp only [(own_cl _ _).1, (own_cl _ _).2] at hc117_101; first | rw [if_pos (by assumption)] | (rw [if_neg (by omega), if_neg (by omega)]) | (rw [if_neg (by omega), if_pos (by omega)]) : (own_ord (compare la.toInt lb.toInt)) = (-1 : Int32))).2 k) ?_
      show own_Goes p e below (T102.setTop (mkF m 155 #[.val (.int p1), .val (.int p2), .val (.int p3), .val (.int l3), .val (.int l4), .val (.int l5), .val (.int l6), .val (.long la), .second, .val (.long lb), .second, .val (.double x1), .second, .val (.double x2), .second, .val (.int (-1 : Int32))] [])) _
      refine own_st (fun _ k => XS.iconst X102.here hx rfl (hb hby at_155) k) ?_
      show own_Goes p e below (T102.setTop (mkF m 156 #[.val (.int p1), .val (.int p2), .val (.int p3), .val (.int l3), .val (.int l4), .val (.int l5), .val (.int l6), .val (.long la), .second, .val (.long lb), .second, .val (.double x1), .second, .val (.double x2), .second, .val (.int (-1 : Int32))] [(.int (1 : Int32))])) _
      refine own_st (fun _ k => XS.goto X102.here hx rfl (pc0 := 156) (pc' := 160) rfl (hb hby at_156) (by decide) (by decide) k) ?_
      show own_Goes p e below (T102.setTop (mkF m 160 #[.val (.int p1), .val (.int p2), .val (.int p3), .val (.int l3), .val (.int l4), .val (.int l5), .val (.int l6), .val (.long la), .second, .val (.long lb), .second, .val (.double x1), .second, .val (.double x2), .second, .val (.int (-1 : Int32))] [(.int (1 : Int32))])) _
      exact own_retN (t := .boolean) (z' := (1 : Int32)) X102 hx hlk hret (by simp) (by decide) (hb hby at_160) (by decide) (by decide) (e102.trans q102) ⟨rfl, N0⟩
    · refine own_st (fun _ k => XS.ifYes X0.here hx rfl (pc0 := 117) (pc' := 126) rfl (hb hby at_117) rfl ((if0 _ _).trans (flt hc117_101).2.1) (by decide) (by decide) k) ?_
      show own_Goes p e below (s₁.setTop (mkF m 126 #[.val (.int p1), .val (.int p2), .val (.int p3), .val (.int l3), .val (.int l4), .val (.int l5), .val (.int l6), .val (.long la), .second, .val (.long lb), .second, .val (.double x1), .second, .val (.double x2), .second, .unset] [])) _
      refine own_st (fun _ k => XT.lload X0.here hx rfl (hb hby at_126) rfl k) ?_
      show own_Goes p e below (s₁.setTop (mkF m 128 #[.val (.int p1), .val (.int p2), .val (.int p3), .val (.int l3), .val (.int l4), .val (.int l5), .val (.int l6), .val (.long la), .second, .val (.long lb), .second, .val (.double x1), .second, .val (.double x2), .second, .unset] [(.long la)])) _
      refine own_st (fun _ k => XT.lload X0.here hx rfl (hb hby at_128) rfl k) ?_
      show own_Goes p e below (s₁.setTop (mkF m 130 #[.val (.int p1), .val (.int p2), .val (.int p3), .val (.int l3), .val (.int l4), .val (.int l5), .val (.int l6), .val (.long la), .second, .val (.long lb), .second, .val (.double x1), .second, .val (.double x2), .second, .unset] [(.long lb), (.long la)])) _
      refine own_st (fun _ k => XT.lcmp X0.here hx rfl (hb hby at_130) rfl k) ?_
      show own_Goes p e below (s₁.setTop (mkF m 131 #[.val (.int p1), .val (.int p2), .val (.int p3), .val (.int l3), .val (.int l4), .val (.int l5), .val (.int l6), .val (.long la), .second, .val (.long lb), .second, .val (.double x1), .second, .val (.double x2), .second, .unset] [(.int (XT.cmpL la lb))])) _
      by_cases hc131_103 : (0 : Int32) < (XT.cmpL la lb)
      · refine own_st (fun _ k => XS.ifNo X0.here hx rfl (hb hby at_131) rfl ((if0 _ _).trans (tlt hc131_103).2.2.2) k) ?_
        show own_Goes p e below (s₁.setTop (mkF m 134 #[.val (.int p1), .val (.int p2), .val (.int p3), .val (.int l3), .val (.int l4), .val (.int l5), .val (.int l6), .val (.long la), .second, .val (.long lb), .second, .val (.double x1), .second, .val (.double x2), .second, .unset] [])) _
        refine own_st (fun _ k => XS.iconst X0.here hx rfl (hb hby at_134) k) ?_
        show own_Goes p e below (s₁.setTop (mkF m 135 #[.val (.int p1), .val (.int p2), .val (.int p3), .val (.int l3), .val (.int l4), .val (.int l5), .val (.int l6), .val (.long la), .second, .val (.long lb), .second, .val (.double x1), .second, .val (.double x2), .second, .unset] [(.int (1 : Int32))])) _
        refine own_st (fun _ k => XS.istore X0.here hx rfl (hb hby at_135) rfl (l' := #[.val (.int p1), .val (.int p2), .val (.int p3), .val (.int l3), .val (.int l4), .val (.int l5), .val (.int l6), .val (.long la), .second, .val (.long lb), .second, .val (.double x1), .second, .val (.double x2), .second, .val (.int (1 : Int32))]) rfl k) ?_
        show own_Goes p e below (s₁.setTop (mkF m 137 #[.val (.int p1), .val (.int p2), .val (.int p3), .val (.int l3), .val (.int l4), .val (.int l5), .val (.int l6), .val (.long la), .second, .val (.long lb), .second, .val (.double x1), .second, .val (.double x2), .second, .val (.int (1 : Int32))] [])) _
        refine own_st (fun _ k => XS.goto X0.here hx rfl (pc0 := 137) (pc' := 143) rfl (hb hby at_137) (by decide) (by decide) k) ?_
        show own_Goes p e below (s₁.setTop (mkF m 143 #[.val (.int p1), .val (.int p2), .val (.int p3), .val (.int l3), .val (.int l4), .val (.int l5), .val (.int l6), .val (.long la), .second, .val (.long lb), .second, .val (.double x1), .second, .val (.double x2), .second, .val (.int (1 : Int32))] [])) _
        refine own_st (fun _ k => XT.dload X0.here hx rfl (hb hby at_143) rfl k) ?_
        show own_Goes p e below (s₁.setTop (mkF m 145 #[.val (.int p1), .val (.int p2), .val (.int p3), .val (.int l3), .val (.int l4), .val (.int l5), .val (.int l6), .val (.long la), .second, .val (.long lb), .second, .val (.double x1), .second, .val (.double x2), .second, .val (.int (1 : Int32))] [(.double x1)])) _
        refine own_st (fun _ k => XT.dload X0.here hx rfl (hb hby at_145) rfl k) ?_
        show own_Goes p e below (s₁.setTop (mkF m 147 #[.val (.int p1), .val (.int p2), .val (.int p3), .val (.int l3), .val (.int l4), .val (.int l5), .val (.int l6), .val (.long la), .second, .val (.long lb), .second, .val (.double x1), .second, .val (.double x2), .second, .val (.int (1 : Int32))] [(.double x2), (.double x1)])) _
        obtain ⟨_, T104, h104, L104, X104, e104, ⟨rfl, rfl, q104⟩, st104⟩ := own_callS (argsL := [(.double x1), (.double x2)]) (rest := []) (pc := 147) (W := 0) (Ls := #[.val (.int p1), .val (.int p2), .val (.int p3), .val (.int l3), .val (.int l4), .val (.int l5), .val (.int l6), .val (.long la), .second, .val (.long lb), .second, .val (.double x1), .second, .val (.double x2), .second, .val (.int (1 : Int32))]) (S := [(.double x2), (.double x1)]) X0 hx hZ hown (hw _ (List.mem_of_getElem? (i := 0) rfl)) (hw _ (List.mem_of_getElem? (i := 1) rfl)) (hw _ (List.mem_of_getElem? (i := 2) rfl)) (hw _ (List.mem_of_getElem? (i := 3) rfl)) (by decide) (rm1 l Z a0 hw [] x1 x2 la.toInt lb.toInt h0 n0 Z0 D1 D2) (by decide) (by decide) e0 (by rw [hml]; rfl) (lenOf pd__DD_I rfl) rfl (Nat.le_of_eq rfl) (hb hby at_147) (by decide) (by decide)
        refine own_st st104 ?_
        show own_Goes p e below (T104.setTop (mkF m 150 #[.val (.int p1), .val (.int p2), .val (.int p3), .val (.int l3), .val (.int l4), .val (.int l5), .val (.int l6), .val (.long la), .second, .val (.long lb), .second, .val (.double x1), .second, .val (.double x2), .second, .val (.int (1 : Int32))] [(.int (own_ord (compare la.toInt lb.toInt)))])) _
        refine own_st (fun _ k => XS.iload X104.here hx rfl (hb hby at_150) rfl k) ?_
        show own_Goes p e below (T104.setTop (mkF m 152 #[.val (.int p1), .val (.int p2), .val (.int p3), .val (.int l3), .val (.int l4), .val (.int l5), .val (.int l6), .val (.long la), .second, .val (.long lb), .second, .val (.double x1), .second, .val (.double x2), .second, .val (.int (1 : Int32))] [(.int (1 : Int32)), (.int (own_ord (compare la.toInt lb.toInt)))])) _
        refine own_st (fun _ k => XS.icmpNo X104.here hx rfl (hb hby at_152) rfl (teq (by rw [own_cmp3]; simp only [(own_cl _ _).1, (own_cl _ _).2] at hc117_101 hc131_103; first | rw [if_pos (by assumption)] | (rw [if_neg (by omega), if_neg (by omega)]) | (rw [if_neg (by omega), if_pos (by omega)]) : (own_ord (compare la.toInt lb.toInt)) = (1 : Int32))).2 k) ?_
        show own_Goes p e below (T104.setTop (mkF m 155 #[.val (.int p1), .val (.int p2), .val (.int p3), .val (.int l3), .val (.int l4), .val (.int l5), .val (.int l6), .val (.long la), .second, .val (.long lb), .second, .val (.double x1), .second, .val (.double x2), .second, .val (.int (1 : Int32))] [])) _
        refine own_st (fun _ k => XS.iconst X104.here hx rfl (hb hby at_155) k) ?_
        show own_Goes p e below (T104.setTop (mkF m 156 #[.val (.int p1), .val (.int p2), .val (.int p3), .val (.int l3), .val (.int l4), .val (.int l5), .val (.int l6), .val (.long la), .second, .val (.long lb), .second, .val (.double x1), .second, .val (.double x2), .second, .val (.int (1 : Int32))] [(.int (1 : Int32))])) _
        refine own_st (fun _ k => XS.goto X104.here hx rfl (pc0 := 156) (pc' := 160) rfl (hb hby at_156) (by decide) (by decide) k) ?_
        show own_Goes p e below (T104.setTop (mkF m 160 #[.val (.int p1), .val (.int p2), .val (.int p3), .val (.int l3), .val (.int l4), .val (.int l5), .val (.int l6), .val (.long la), .second, .val (.long lb), .second, .val (.double x1), .second, .val (.double x2), .second, .val (.int (1 : Int32))] [(.int (1 : Int32))])) _
        exact own_retN (t := .boolean) (z' := (1 : Int32)) X104 hx hlk hret (by simp) (by decide) (hb hby at_160) (by decide) (by decide) (e104.trans q104) ⟨rfl, N0⟩
      · refine own_st (fun _ k => XS.ifYes X0.here hx rfl (pc0 := 131) (pc' := 140) rfl (hb hby at_131) rfl ((if0 _ _).trans (flt hc131_103).2.2.2) (by decide) (by decide) k) ?_
        show own_Goes p e below (s₁.setTop (mkF m 140 #[.val (.int p1), .val (.int p2), .val (.int p3), .val (.int l3), .val (.int l4), .val (.int l5), .val (.int l6), .val (.long la), .second, .val (.long lb), .second, .val (.double x1), .second, .val (.double x2), .second, .unset] [])) _
        refine own_st (fun _ k => XS.iconst X0.here hx rfl (hb hby at_140) k) ?_
        show own_Goes p e below (s₁.setTop (mkF m 141 #[.val (.int p1), .val (.int p2), .val (.int p3), .val (.int l3), .val (.int l4), .val (.int l5), .val (.int l6), .val (.long la), .second, .val (.long lb), .second, .val (.double x1), .second, .val (.double x2), .second, .unset] [(.int (0 : Int32))])) _
        refine own_st (fun _ k => XS.istore X0.here hx rfl (hb hby at_141) rfl (l' := #[.val (.int p1), .val (.int p2), .val (.int p3), .val (.int l3), .val (.int l4), .val (.int l5), .val (.int l6), .val (.long la), .second, .val (.long lb), .second, .val (.double x1), .second, .val (.double x2), .second, .val (.int (0 : Int32))]) rfl k) ?_
        show own_Goes p e below (s₁.setTop (mkF m 143 #[.val (.int p1), .val (.int p2), .val (.int p3), .val (.int l3), .val (.int l4), .val (.int l5), .val (.int l6), .val (.long la), .second, .val (.long lb), .second, .val (.double x1), .second, .val (.double x2), .second, .val (.int (0 : Int32))] [])) _
        refine own_st (fun _ k => XT.dload X0.here hx rfl (hb hby at_143) rfl k) ?_
        show own_Goes p e below (s₁.setTop (mkF m 145 #[.val (.int p1), .val (.int p2), .val (.int p3), .val (.int l3), .val (.int l4), .val (.int l5), .val (.int l6), .val (.long la), .second, .val (.long lb), .second, .val (.double x1), .second, .val (.double x2), .second, .val (.int (0 : Int32))] [(.double x1)])) _
        refine own_st (fun _ k => XT.dload X0.here hx rfl (hb hby at_145) rfl k) ?_
        show own_Goes p e below (s₁.setTop (mkF m 147 #[.val (.int p1), .val (.int p2), .val (.int p3), .val (.int l3), .val (.int l4), .val (.int l5), .val (.int l6), .val (.long la), .second, .val (.long lb), .second, .val (.double x1), .second, .val (.double x2), .second, .val (.int (0 : Int32))] [(.double x2), (.double x1)])) _
        obtain ⟨_, T105, h105, L105, X105, e105, ⟨rfl, rfl, q105⟩, st105⟩ := own_callS (argsL := [(.double x1), (.double x2)]) (rest := []) (pc := 147) (W := 0) (Ls := #[.val (.int p1), .val (.int p2), .val (.int p3), .val (.int l3), .val (.int l4), .val (.int l5), .val (.int l6), .val (.long la), .second, .val (.long lb), .second, .val (.double x1), .second, .val (.double x2), .second, .val (.int (0 : Int32))]) (S := [(.double x2), (.double x1)]) X0 hx hZ hown (hw _ (List.mem_of_getElem? (i := 0) rfl)) (hw _ (List.mem_of_getElem? (i := 1) rfl)) (hw _ (List.mem_of_getElem? (i := 2) rfl)) (hw _ (List.mem_of_getElem? (i := 3) rfl)) (by decide) (rm1 l Z a0 hw [] x1 x2 la.toInt lb.toInt h0 n0 Z0 D1 D2) (by decide) (by decide) e0 (by rw [hml]; rfl) (lenOf pd__DD_I rfl) rfl (Nat.le_of_eq rfl) (hb hby at_147) (by decide) (by decide)
        refine own_st st105 ?_
        show own_Goes p e below (T105.setTop (mkF m 150 #[.val (.int p1), .val (.int p2), .val (.int p3), .val (.int l3), .val (.int l4), .val (.int l5), .val (.int l6), .val (.long la), .second, .val (.long lb), .second, .val (.double x1), .second, .val (.double x2), .second, .val (.int (0 : Int32))] [(.int (own_ord (compare la.toInt lb.toInt)))])) _
        refine own_st (fun _ k => XS.iload X105.here hx rfl (hb hby at_150) rfl k) ?_
        show own_Goes p e below (T105.setTop (mkF m 152 #[.val (.int p1), .val (.int p2), .val (.int p3), .val (.int l3), .val (.int l4), .val (.int l5), .val (.int l6), .val (.long la), .second, .val (.long lb), .second, .val (.double x1), .second, .val (.double x2), .second, .val (.int (0 : Int32))] [(.int (0 : Int32)), (.int (own_ord (compare la.toInt lb.toInt)))])) _
        refine own_st (fun _ k => XS.icmpNo X105.here hx rfl (hb hby at_152) rfl (teq (by rw [own_cmp3]; simp only [(own_cl _ _).1, (own_cl _ _).2] at hc117_101 hc131_103; first | rw [if_pos (by assumption)] | (rw [if_neg (by omega), if_neg (by omega)]) | (rw [if_neg (by omega), if_pos (by omega)]) : (own_ord (compare la.toInt lb.toInt)) = (0 : Int32))).2 k) ?_
        show own_Goes p e below (T105.setTop (mkF m 155 #[.val (.int p1), .val (.int p2), .val (.int p3), .val (.int l3), .val (.int l4), .val (.int l5), .val (.int l6), .val (.long la), .second, .val (.long lb), .second, .val (.double x1), .second, .val (.double x2), .second, .val (.int (0 : Int32))] [])) _
        refine own_st (fun _ k => XS.iconst X105.here hx rfl (hb hby at_155) k) ?_
        show own_Goes p e below (T105.setTop (mkF m 156 #[.val (.int p1), .val (.int p2), .val (.int p3), .val (.int l3), .val (.int l4), .val (.int l5), .val (.int l6), .val (.long la), .second, .val (.long lb), .second, .val (.double x1), .second, .val (.double x2), .second, .val (.int (0 : Int32))] [(.int (1 : Int32))])) _
        refine own_st (fun _ k => XS.goto X105.here hx rfl (pc0 := 156) (pc' := 160) rfl (hb hby at_156) (by decide) (by decide) k) ?_
        show own_Goes p e below (T105.setTop (mkF m 160 #[.val (.int p1), .val (.int p2), .val (.int p3), .val (.int l3), .val (.int l4), .val (.int l5), .val (.int l6), .val (.long la), .second, .val (.long lb), .second, .val (.double x1), .second, .val (.double x2), .second, .val (.int (0 : Int32))] [(.int (1 : Int32))])) _
        exact own_retN (t := .boolean) (z' := (1 : Int32)) X105 hx hlk hret (by simp) (by decide) (hb hby at_160) (by decide) (by decide) (e105.trans q105) ⟨rfl, N0⟩
  · intro J112
    show own_Goes p e below (s₁.setTop (mkF m 0 #[.val (.int p1), .val (.int p2), .val (.int p3), .unset, .unset, .unset, .unset, .unset, .unset, .unset, .unset, .unset, .unset, .unset, .unset, .unset] [])) _
    refine own_st (fun _ k => XS.iloadN X0.here hx rfl (hb hby at_0) rfl k) ?_
    show own_Goes p e below (s₁.setTop (mkF m 1 #[.val (.int p1), .val (.int p2), .val (.int p3), .unset, .unset, .unset, .unset, .unset, .unset, .unset, .unset, .unset, .unset, .unset, .unset, .unset] [(.int p3)])) _
    refine own_st (fun _ k => XS.iconst X0.here hx rfl (hb hby at_1) k) ?_
    show own_Goes p e below (s₁.setTop (mkF m 2 #[.val (.int p1), .val (.int p2), .val (.int p3), .unset, .unset, .unset, .unset, .unset, .unset, .unset, .unset, .unset, .unset, .unset, .unset, .unset] [(.int (1 : Int32)), (.int p3)])) _
    refine own_st (fun _ k => XS.iand X0.here hx rfl (hb hby at_2) rfl k) ?_
    show own_Goes p e below (s₁.setTop (mkF m 3 #[.val (.int p1), .val (.int p2), .val (.int p3), .unset, .unset, .unset, .unset, .unset, .unset, .unset, .unset, .unset, .unset, .unset, .unset, .unset] [(.int (p3 &&& (1 : Int32)))])) _
    by_cases hc3_106 : (p3 &&& (1 : Int32)) = (0 : Int32)
    · refine own_st (fun _ k => XS.ifYes X0.here hx rfl (pc0 := 3) (pc' := 10) rfl (hb hby at_3) rfl ((if0 _ _).trans (teq hc3_106).1) (by decide) (by decide) k) ?_
      show own_Goes p e below (s₁.setTop (mkF m 10 #[.val (.int p1), .val (.int p2), .val (.int p3), .unset, .unset, .unset, .unset, .unset, .unset, .unset, .unset, .unset, .unset, .unset, .unset, .unset] [])) _
      refine own_st (fun _ k => XS.iconst X0.here hx rfl (hb hby at_10) k) ?_
      show own_Goes p e below (s₁.setTop (mkF m 11 #[.val (.int p1), .val (.int p2), .val (.int p3), .unset, .unset, .unset, .unset, .unset, .unset, .unset, .unset, .unset, .unset, .unset, .unset, .unset] [(.int (0 : Int32))])) _
      refine own_st (fun _ k => XS.istoreN X0.here hx rfl (hb hby at_11) rfl (l' := #[.val (.int p1), .val (.int p2), .val (.int p3), .val (.int (0 : Int32)), .unset, .unset, .unset, .unset, .unset, .unset, .unset, .unset, .unset, .unset, .unset, .unset]) rfl k) ?_
      show own_Goes p e below (s₁.setTop (mkF m 12 #[.val (.int p1), .val (.int p2), .val (.int p3), .val (.int (0 : Int32)), .unset, .unset, .unset, .unset, .unset, .unset, .unset, .unset, .unset, .unset, .unset, .unset] [])) _
      refine own_st (fun _ k => XS.iloadN X0.here hx rfl (hb hby at_12) rfl k) ?_
      show own_Goes p e below (s₁.setTop (mkF m 13 #[.val (.int p1), .val (.int p2), .val (.int p3), .val (.int (0 : Int32)), .unset, .unset, .unset, .unset, .unset, .unset, .unset, .unset, .unset, .unset, .unset, .unset] [(.int p3)])) _
      refine own_st (fun _ k => XS.iconst X0.here hx rfl (hb hby at_13) k) ?_
      show own_Goes p e below (s₁.setTop (mkF m 14 #[.val (.int p1), .val (.int p2), .val (.int p3), .val (.int (0 : Int32)), .unset, .unset, .unset, .unset, .unset, .unset, .unset, .unset, .unset, .unset, .unset, .unset] [(.int (2 : Int32)), (.int p3)])) _
      refine own_st (fun _ k => XS.iand X0.here hx rfl (hb hby at_14) rfl k) ?_
      show own_Goes p e below (s₁.setTop (mkF m 15 #[.val (.int p1), .val (.int p2), .val (.int p3), .val (.int (0 : Int32)), .unset, .unset, .unset, .unset, .unset, .unset, .unset, .unset, .unset, .unset, .unset, .unset] [(.int (p3 &&& (2 : Int32)))])) _
      by_cases hc15_107 : (p3 &&& (2 : Int32)) = (0 : Int32)
      · refine own_st (fun _ k => XS.ifYes X0.here hx rfl (pc0 := 15) (pc' := 22) rfl (hb hby at_15) rfl ((if0 _ _).trans (teq hc15_107).1) (by decide) (by decide) k) ?_
        show own_Goes p e below (s₁.setTop (mkF m 22 #[.val (.int p1), .val (.int p2), .val (.int p3), .val (.int (0 : Int32)), .unset, .unset, .unset, .unset, .unset, .unset, .unset, .unset, .unset, .unset, .unset, .unset] [])) _
        refine own_st (fun _ k => XS.iconst X0.here hx rfl (hb hby at_22) k) ?_
        show own_Goes p e below (s₁.setTop (mkF m 23 #[.val (.int p1), .val (.int p2), .val (.int p3), .val (.int (0 : Int32)), .unset, .unset, .unset, .unset, .unset, .unset, .unset, .unset, .unset, .unset, .unset, .unset] [(.int (0 : Int32))])) _
        refine own_st (fun _ k => XS.istore X0.here hx rfl (hb hby at_23) rfl (l' := #[.val (.int p1), .val (.int p2), .val (.int p3), .val (.int (0 : Int32)), .val (.int (0 : Int32)), .unset, .unset, .unset, .unset, .unset, .unset, .unset, .unset, .unset, .unset, .unset]) rfl k) ?_
        show own_Goes p e below (s₁.setTop (mkF m 25 #[.val (.int p1), .val (.int p2), .val (.int p3), .val (.int (0 : Int32)), .val (.int (0 : Int32)), .unset, .unset, .unset, .unset, .unset, .unset, .unset, .unset, .unset, .unset, .unset] [])) _
        refine own_st (fun _ k => XS.iloadN X0.here hx rfl (hb hby at_25) rfl k) ?_
        show own_Goes p e below (s₁.setTop (mkF m 26 #[.val (.int p1), .val (.int p2), .val (.int p3), .val (.int (0 : Int32)), .val (.int (0 : Int32)), .unset, .unset, .unset, .unset, .unset, .unset, .unset, .unset, .unset, .unset, .unset] [(.int p3)])) _
        refine own_st (fun _ k => XS.iconst X0.here hx rfl (hb hby at_26) k) ?_
        show own_Goes p e below (s₁.setTop (mkF m 27 #[.val (.int p1), .val (.int p2), .val (.int p3), .val (.int (0 : Int32)), .val (.int (0 : Int32)), .unset, .unset, .unset, .unset, .unset, .unset, .unset, .unset, .unset, .unset, .unset] [(.int (4 : Int32)), (.int p3)])) _
        refine own_st (fun _ k => XS.iand X0.here hx rfl (hb hby at_27) rfl k) ?_
        show own_Goes p e below (s₁.setTop (mkF m 28 #[.val (.int p1), .val (.int p2), .val (.int p3), .val (.int (0 : Int32)), .val (.int (0 : Int32)), .unset, .unset, .unset, .unset, .unset, .unset, .unset, .unset, .unset, .unset, .unset] [(.int (p3 &&& (4 : Int32)))])) _
        by_cases hc28_108 : (p3 &&& (4 : Int32)) = (0 : Int32)
        · refine own_st (fun _ k => XS.ifYes X0.here hx rfl (pc0 := 28) (pc' := 35) rfl (hb hby at_28) rfl ((if0 _ _).trans (teq hc28_108).1) (by decide) (by decide) k) ?_
          show own_Goes p e below (s₁.setTop (mkF m 35 #[.val (.int p1), .val (.int p2), .val (.int p3), .val (.int (0 : Int32)), .val (.int (0 : Int32)), .unset, .unset, .unset, .unset, .unset, .unset, .unset, .unset, .unset, .unset, .unset] [])) _
          refine own_st (fun _ k => XS.iconst X0.here hx rfl (hb hby at_35) k) ?_
          show own_Goes p e below (s₁.setTop (mkF m 36 #[.val (.int p1), .val (.int p2), .val (.int p3), .val (.int (0 : Int32)), .val (.int (0 : Int32)), .unset, .unset, .unset, .unset, .unset, .unset, .unset, .unset, .unset, .unset, .unset] [(.int (0 : Int32))])) _
          refine own_st (fun _ k => XS.istore X0.here hx rfl (hb hby at_36) rfl (l' := #[.val (.int p1), .val (.int p2), .val (.int p3), .val (.int (0 : Int32)), .val (.int (0 : Int32)), .val (.int (0 : Int32)), .unset, .unset, .unset, .unset, .unset, .unset, .unset, .unset, .unset, .unset]) rfl k) ?_
          show own_Goes p e below (s₁.setTop (mkF m 38 #[.val (.int p1), .val (.int p2), .val (.int p3), .val (.int (0 : Int32)), .val (.int (0 : Int32)), .val (.int (0 : Int32)), .unset, .unset, .unset, .unset, .unset, .unset, .unset, .unset, .unset, .unset] [])) _
          refine own_st (fun _ k => XS.iload X0.here hx rfl (hb hby at_38) rfl k) ?_
          show own_Goes p e below (s₁.setTop (mkF m 40 #[.val (.int p1), .val (.int p2), .val (.int p3), .val (.int (0 : Int32)), .val (.int (0 : Int32)), .val (.int (0 : Int32)), .unset, .unset, .unset, .unset, .unset, .unset, .unset, .unset, .unset, .unset] [(.int (0 : Int32))])) _
          refine own_st (fun _ k => XS.ifYes X0.here hx rfl (pc0 := 40) (pc' := 47) rfl (hb hby at_40) rfl ((if0 _ _).trans (teq (by decide : (0 : Int32) = (0 : Int32))).1) (by decide) (by decide) k) ?_
          show own_Goes p e below (s₁.setTop (mkF m 47 #[.val (.int p1), .val (.int p2), .val (.int p3), .val (.int (0 : Int32)), .val (.int (0 : Int32)), .val (.int (0 : Int32)), .unset, .unset, .unset, .unset, .unset, .unset, .unset, .unset, .unset, .unset] [])) _
          refine own_st (fun _ k => XS.iloadN X0.here hx rfl (hb hby at_47) rfl k) ?_
          show own_Goes p e below (s₁.setTop (mkF m 48 #[.val (.int p1), .val (.int p2), .val (.int p3), .val (.int (0 : Int32)), .val (.int (0 : Int32)), .val (.int (0 : Int32)), .unset, .unset, .unset, .unset, .unset, .unset, .unset, .unset, .unset, .unset] [(.int p2)])) _
          refine own_st (fun _ k => XS.istore X0.here hx rfl (hb hby at_48) rfl (l' := #[.val (.int p1), .val (.int p2), .val (.int p3), .val (.int (0 : Int32)), .val (.int (0 : Int32)), .val (.int (0 : Int32)), .val (.int p2), .unset, .unset, .unset, .unset, .unset, .unset, .unset, .unset, .unset]) rfl k) ?_
          show own_Goes p e below (s₁.setTop (mkF m 50 #[.val (.int p1), .val (.int p2), .val (.int p3), .val (.int (0 : Int32)), .val (.int (0 : Int32)), .val (.int (0 : Int32)), .val (.int p2), .unset, .unset, .unset, .unset, .unset, .unset, .unset, .unset, .unset] [])) _
          refine own_st (fun _ k => XS.iloadN X0.here hx rfl (hb hby at_50) rfl k) ?_
          show own_Goes p e below (s₁.setTop (mkF m 51 #[.val (.int p1), .val (.int p2), .val (.int p3), .val (.int (0 : Int32)), .val (.int (0 : Int32)), .val (.int (0 : Int32)), .val (.int p2), .unset, .unset, .unset, .unset, .unset, .unset, .unset, .unset, .unset] [(.int (0 : Int32))])) _
          refine own_st (fun _ k => XS.ifYes X0.here hx rfl (pc0 := 51) (pc' := 60) rfl (hb hby at_51) rfl ((if0 _ _).trans (teq (by decide : (0 : Int32) = (0 : Int32))).1) (by decide) (by decide) k) ?_
          show own_Goes p e below (s₁.setTop (mkF m 60 #[.val (.int p1), .val (.int p2), .val (.int p3), .val (.int (0 : Int32)), .val (.int (0 : Int32)), .val (.int (0 : Int32)), .val (.int p2), .unset, .unset, .unset, .unset, .unset, .unset, .unset, .unset, .unset] [])) _
          refine own_st (fun _ k => XS.iloadN X0.here hx rfl (hb hby at_60) rfl k) ?_
          show own_Goes p e below (s₁.setTop (mkF m 61 #[.val (.int p1), .val (.int p2), .val (.int p3), .val (.int (0 : Int32)), .val (.int (0 : Int32)), .val (.int (0 : Int32)), .val (.int p2), .unset, .unset, .unset, .unset, .unset, .unset, .unset, .unset, .unset] [(.int p1)])) _
          refine own_st (fun _ k => XT.i2l X0.here hx rfl (hb hby at_61) rfl k) ?_
          show own_Goes p e below (s₁.setTop (mkF m 62 #[.val (.int p1), .val (.int p2), .val (.int p3), .val (.int (0 : Int32)), .val (.int (0 : Int32)), .val (.int (0 : Int32)), .val (.int p2), .unset, .unset, .unset, .unset, .unset, .unset, .unset, .unset, .unset] [(.long p1.toInt64)])) _
          refine own_st (fun _ k => XT.lstore X0.here hx rfl (hb hby at_62) rfl (l' := #[.val (.int p1), .val (.int p2), .val (.int p3), .val (.int (0 : Int32)), .val (.int (0 : Int32)), .val (.int (0 : Int32)), .val (.int p2), .val (.long p1.toInt64), .second, .unset, .unset, .unset, .unset, .unset, .unset, .unset]) rfl k) ?_
          show own_Goes p e below (s₁.setTop (mkF m 64 #[.val (.int p1), .val (.int p2), .val (.int p3), .val (.int (0 : Int32)), .val (.int (0 : Int32)), .val (.int (0 : Int32)), .val (.int p2), .val (.long p1.toInt64), .second, .unset, .unset, .unset, .unset, .unset, .unset, .unset] [])) _
          refine own_st (fun _ k => XS.iload X0.here hx rfl (hb hby at_64) rfl k) ?_
          show own_Goes p e below (s₁.setTop (mkF m 66 #[.val (.int p1), .val (.int p2), .val (.int p3), .val (.int (0 : Int32)), .val (.int (0 : Int32)), .val (.int (0 : Int32)), .val (.int p2), .val (.long p1.toInt64), .second, .unset, .unset, .unset, .unset, .unset, .unset, .unset] [(.int (0 : Int32))])) _
          refine own_st (fun _ k => XS.ifYes X0.here hx rfl (pc0 := 66) (pc' := 76) rfl (hb hby at_66) rfl ((if0 _ _).trans (teq (by decide : (0 : Int32) = (0 : Int32))).1) (by decide) (by decide) k) ?_
          show own_Goes p e below (s₁.setTop (mkF m 76 #[.val (.int p1), .val (.int p2), .val (.int p3), .val (.int (0 : Int32)), .val (.int (0 : Int32)), .val (.int (0 : Int32)), .val (.int p2), .val (.long p1.toInt64), .second, .unset, .unset, .unset, .unset, .unset, .unset, .unset] [])) _
          refine own_st (fun _ k => XS.iload X0.here hx rfl (hb hby at_76) rfl k) ?_
          show own_Goes p e below (s₁.setTop (mkF m 78 #[.val (.int p1), .val (.int p2), .val (.int p3), .val (.int (0 : Int32)), .val (.int (0 : Int32)), .val (.int (0 : Int32)), .val (.int p2), .val (.long p1.toInt64), .second, .unset, .unset, .unset, .unset, .unset, .unset, .unset] [(.int p2)])) _
          refine own_st (fun _ k => XT.i2l X0.here hx rfl (hb hby at_78) rfl k) ?_
          show own_Goes p e below (s₁.setTop (mkF m 79 #[.val (.int p1), .val (.int p2), .val (.int p3), .val (.int (0 : Int32)), .val (.int (0 : Int32)), .val (.int (0 : Int32)), .val (.int p2), .val (.long p1.toInt64), .second, .unset, .unset, .unset, .unset, .unset, .unset, .unset] [(.long p2.toInt64)])) _
          refine own_st (fun _ k => XT.lstore X0.here hx rfl (hb hby at_79) rfl (l' := #[.val (.int p1), .val (.int p2), .val (.int p3), .val (.int (0 : Int32)), .val (.int (0 : Int32)), .val (.int (0 : Int32)), .val (.int p2), .val (.long p1.toInt64), .second, .val (.long p2.toInt64), .second, .unset, .unset, .unset, .unset, .unset]) rfl k) ?_
          show own_Goes p e below (s₁.setTop (mkF m 81 #[.val (.int p1), .val (.int p2), .val (.int p3), .val (.int (0 : Int32)), .val (.int (0 : Int32)), .val (.int (0 : Int32)), .val (.int p2), .val (.long p1.toInt64), .second, .val (.long p2.toInt64), .second, .unset, .unset, .unset, .unset, .unset] [])) _
          refine own_st (fun _ k => XS.iloadN X0.here hx rfl (hb hby at_81) rfl k) ?_
          show own_Goes p e below (s₁.setTop (mkF m 82 #[.val (.int p1), .val (.int p2), .val (.int p3), .val (.int (0 : Int32)), .val (.int (0 : Int32)), .val (.int (0 : Int32)), .val (.int p2), .val (.long p1.toInt64), .second, .val (.long p2.toInt64), .second, .unset, .unset, .unset, .unset, .unset] [(.int (0 : Int32))])) _
          refine own_st (fun _ k => XS.ifYes X0.here hx rfl (pc0 := 82) (pc' := 91) rfl (hb hby at_82) rfl ((if0 _ _).trans (teq (by decide : (0 : Int32) = (0 : Int32))).1) (by decide) (by decide) k) ?_
          show own_Goes p e below (s₁.setTop (mkF m 91 #[.val (.int p1), .val (.int p2), .val (.int p3), .val (.int (0 : Int32)), .val (.int (0 : Int32)), .val (.int (0 : Int32)), .val (.int p2), .val (.long p1.toInt64), .second, .val (.long p2.toInt64), .second, .unset, .unset, .unset, .unset, .unset] [])) _
          refine own_st (fun _ k => XS.iloadN X0.here hx rfl (hb hby at_91) rfl k) ?_
          show own_Goes p e below (s₁.setTop (mkF m 92 #[.val (.int p1), .val (.int p2), .val (.int p3), .val (.int (0 : Int32)), .val (.int (0 : Int32)), .val (.int (0 : Int32)), .val (.int p2), .val (.long p1.toInt64), .second, .val (.long p2.toInt64), .second, .unset, .unset, .unset, .unset, .unset] [(.int p1)])) _
          refine own_st (fun _ k => own_i2d X0.here hx rfl (hb hby at_92) rfl k) ?_
          show own_Goes p e below (s₁.setTop (mkF m 93 #[.val (.int p1), .val (.int p2), .val (.int p3), .val (.int (0 : Int32)), .val (.int (0 : Int32)), .val (.int (0 : Int32)), .val (.int p2), .val (.long p1.toInt64), .second, .val (.long p2.toInt64), .second, .unset, .unset, .unset, .unset, .unset] [(.double (FP.i2d p1))])) _
          refine own_st (fun _ k => own_dstore X0.here hx rfl (hb hby at_93) rfl (l' := #[.val (.int p1), .val (.int p2), .val (.int p3), .val (.int (0 : Int32)), .val (.int (0 : Int32)), .val (.int (0 : Int32)), .val (.int p2), .val (.long p1.toInt64), .second, .val (.long p2.toInt64), .second, .val (.double (FP.i2d p1)), .second, .unset, .unset, .unset]) rfl k) ?_
          show own_Goes p e below (s₁.setTop (mkF m 95 #[.val (.int p1), .val (.int p2), .val (.int p3), .val (.int (0 : Int32)), .val (.int (0 : Int32)), .val (.int (0 : Int32)), .val (.int p2), .val (.long p1.toInt64), .second, .val (.long p2.toInt64), .second, .val (.double (FP.i2d p1)), .second, .unset, .unset, .unset] [])) _
          refine own_st (fun _ k => XS.iload X0.here hx rfl (hb hby at_95) rfl k) ?_
          show own_Goes p e below (s₁.setTop (mkF m 97 #[.val (.int p1), .val (.int p2), .val (.int p3), .val (.int (0 : Int32)), .val (.int (0 : Int32)), .val (.int (0 : Int32)), .val (.int p2), .val (.long p1.toInt64), .second, .val (.long p2.toInt64), .second, .val (.double (FP.i2d p1)), .second, .unset, .unset, .unset] [(.int (0 : Int32))])) _
          refine own_st (fun _ k => XS.ifYes X0.here hx rfl (pc0 := 97) (pc' := 107) rfl (hb hby at_97) rfl ((if0 _ _).trans (teq (by decide : (0 : Int32) = (0 : Int32))).1) (by decide) (by decide) k) ?_
          show own_Goes p e below (s₁.setTop (mkF m 107 #[.val (.int p1), .val (.int p2), .val (.int p3), .val (.int (0 : Int32)), .val (.int (0 : Int32)), .val (.int (0 : Int32)), .val (.int p2), .val (.long p1.toInt64), .second, .val (.long p2.toInt64), .second, .val (.double (FP.i2d p1)), .second, .unset, .unset, .unset] [])) _
          refine own_st (fun _ k => XS.iload X0.here hx rfl (hb hby at_107) rfl k) ?_
          show own_Goes p e below (s₁.setTop (mkF m 109 #[.val (.int p1), .val (.int p2), .val (.int p3), .val (.int (0 : Int32)), .val (.int (0 : Int32)), .val (.int (0 : Int32)), .val (.int p2), .val (.long p1.toInt64), .second, .val (.long p2.toInt64), .second, .val (.double (FP.i2d p1)), .second, .unset, .unset, .unset] [(.int p2)])) _
          refine own_st (fun _ k => own_i2d X0.here hx rfl (hb hby at_109) rfl k) ?_
          show own_Goes p e below (s₁.setTop (mkF m 110 #[.val (.int p1), .val (.int p2), .val (.int p3), .val (.int (0 : Int32)), .val (.int (0 : Int32)), .val (.int (0 : Int32)), .val (.int p2), .val (.long p1.toInt64), .second, .val (.long p2.toInt64), .second, .val (.double (FP.i2d p1)), .second, .unset, .unset, .unset] [(.double (FP.i2d p2))])) _
          refine own_st (fun _ k => own_dstore X0.here hx rfl (hb hby at_110) rfl (l' := #[.val (.int p1), .val (.int p2), .val (.int p3), .val (.int (0 : Int32)), .val (.int (0 : Int32)), .val (.int (0 : Int32)), .val (.int p2), .val (.long p1.toInt64), .second, .val (.long p2.toInt64), .second, .val (.double (FP.i2d p1)), .second, .val (.double (FP.i2d p2)), .second, .unset]) rfl k) ?_
          show own_Goes p e below (s₁.setTop (mkF m 112 #[.val (.int p1), .val (.int p2), .val (.int p3), .val (.int (0 : Int32)), .val (.int (0 : Int32)), .val (.int (0 : Int32)), .val (.int p2), .val (.long p1.toInt64), .second, .val (.long p2.toInt64), .second, .val (.double (FP.i2d p1)), .second, .val (.double (FP.i2d p2)), .second, .unset] [])) _
          exact J112 _ _ _ _ _ _ _ _ (own_pos p1) (own_pos p2)
        · refine own_st (fun _ k => XS.ifNo X0.here hx rfl (hb hby at_28) rfl ((if0 _ _).trans (feq hc28_108).1) k) ?_
          show own_Goes p e below (s₁.setTop (mkF m 31 #[.val (.int p1), .val (.int p2), .val (.int p3), .val (.int (0 : Int32)), .val (.int (0 : Int32)), .unset, .unset, .unset, .unset, .unset, .unset, .unset, .unset, .unset, .unset, .unset] [])) _
          refine own_st (fun _ k => XS.iconst X0.here hx rfl (hb hby at_31) k) ?_
          show own_Goes p e below (s₁.setTop (mkF m 32 #[.val (.int p1), .val (.int p2), .val (.int p3), .val (.int (0 : Int32)), .val (.int (0 : Int32)), .unset, .unset, .unset, .unset, .unset, .unset, .unset, .unset, .unset, .unset, .unset] [(.int (1 : Int32))])) _
          refine own_st (fun _ k => XS.goto X0.here hx rfl (pc0 := 32) (pc' := 36) rfl (hb hby at_32) (by decide) (by decide) k) ?_
          show own_Goes p e below (s₁.setTop (mkF m 36 #[.val (.int p1), .val (.int p2), .val (.int p3), .val (.int (0 : Int32)), .val (.int (0 : Int32)), .unset, .unset, .unset, .unset, .unset, .unset, .unset, .unset, .unset, .unset, .unset] [(.int (1 : Int32))])) _
          refine own_st (fun _ k => XS.istore X0.here hx rfl (hb hby at_36) rfl (l' := #[.val (.int p1), .val (.int p2), .val (.int p3), .val (.int (0 : Int32)), .val (.int (0 : Int32)), .val (.int (1 : Int32)), .unset, .unset, .unset, .unset, .unset, .unset, .unset, .unset, .unset, .unset]) rfl k) ?_
          show own_Goes p e below (s₁.setTop (mkF m 38 #[.val (.int p1), .val (.int p2), .val (.int p3), .val (.int (0 : Int32)), .val (.int (0 : Int32)), .val (.int (1 : Int32)), .unset, .unset, .unset, .unset, .unset, .unset, .unset, .unset, .unset, .unset] [])) _
          refine own_st (fun _ k => XS.iload X0.here hx rfl (hb hby at_38) rfl k) ?_
          show own_Goes p e below (s₁.setTop (mkF m 40 #[.val (.int p1), .val (.int p2), .val (.int p3), .val (.int (0 : Int32)), .val (.int (0 : Int32)), .val (.int (1 : Int32)), .unset, .unset, .unset, .unset, .unset, .unset, .unset, .unset, .unset, .unset] [(.int (1 : Int32))])) _
          refine own_st (fun _ k => XS.ifNo X0.here hx rfl (hb hby at_40) rfl ((if0 _ _).trans (feq (by decide : ¬ ((1 : Int32) = (0 : Int32)))).1) k) ?_
          show own_Goes p e below (s₁.setTop (mkF m 43 #[.val (.int p1), .val (.int p2), .val (.int p3), .val (.int (0 : Int32)), .val (.int (0 : Int32)), .val (.int (1 : Int32)), .unset, .unset, .unset, .unset, .unset, .unset, .unset, .unset, .unset, .unset] [])) _
          refine own_st (fun _ k => XS.iloadN X0.here hx rfl (hb hby at_43) rfl k) ?_
          show own_Goes p e below (s₁.setTop (mkF m 44 #[.val (.int p1), .val (.int p2), .val (.int p3), .val (.int (0 : Int32)), .val (.int (0 : Int32)), .val (.int (1 : Int32)), .unset, .unset, .unset, .unset, .unset, .unset, .unset, .unset, .unset, .unset] [(.int p1)])) _
          refine own_st (fun _ k => XS.goto X0.here hx rfl (pc0 := 44) (pc' := 48) rfl (hb hby at_44) (by decide) (by decide) k) ?_
          show own_Goes p e below (s₁.setTop (mkF m 48 #[.val (.int p1), .val (.int p2), .val (.int p3), .val (.int (0 : Int32)), .val (.int (0 : Int32)), .val (.int (1 : Int32)), .unset, .unset, .unset, .unset, .unset, .unset, .unset, .unset, .unset, .unset] [(.int p1)])) _
          refine own_st (fun _ k => XS.istore X0.here hx rfl (hb hby at_48) rfl (l' := #[.val (.int p1), .val (.int p2), .val (.int p3), .val (.int (0 : Int32)), .val (.int (0 : Int32)), .val (.int (1 : Int32)), .val (.int p1), .unset, .unset, .unset, .unset, .unset, .unset, .unset, .unset, .unset]) rfl k) ?_
          show own_Goes p e below (s₁.setTop (mkF m 50 #[.val (.int p1), .val (.int p2), .val (.int p3), .val (.int (0 : Int32)), .val (.int (0 : Int32)), .val (.int (1 : Int32)), .val (.int p1), .unset, .unset, .unset, .unset, .unset, .unset, .unset, .unset, .unset] [])) _
          refine own_st (fun _ k => XS.iloadN X0.here hx rfl (hb hby at_50) rfl k) ?_
          show own_Goes p e below (s₁.setTop (mkF m 51 #[.val (.int p1), .val (.int p2), .val (.int p3), .val (.int (0 : Int32)), .val (.int (0 : Int32)), .val (.int (1 : Int32)), .val (.int p1), .unset, .unset, .unset, .unset, .unset, .unset, .unset, .unset, .unset] [(.int (0 : Int32))])) _
          refine own_st (fun _ k => XS.ifYes X0.here hx rfl (pc0 := 51) (pc' := 60) rfl (hb hby at_51) rfl ((if0 _ _).trans (teq (by decide : (0 : Int32) = (0 : Int32))).1) (by decide) (by decide) k) ?_
          show own_Goes p e below (s₁.setTop (mkF m 60 #[.val (.int p1), .val (.int p2), .val (.int p3), .val (.int (0 : Int32)), .val (.int (0 : Int32)), .val (.int (1 : Int32)), .val (.int p1), .unset, .unset, .unset, .unset, .unset, .unset, .unset, .unset, .unset] [])) _
          refine own_st (fun _ k => XS.iloadN X0.here hx rfl (hb hby at_60) rfl k) ?_
          show own_Goes p e below (s₁.setTop (mkF m 61 #[.val (.int p1), .val (.int p2), .val (.int p3), .val (.int (0 : Int32)), .val (.int (0 : Int32)), .val (.int (1 : Int32)), .val (.int p1), .unset, .unset, .unset, .unset, .unset, .unset, .unset, .unset, .unset] [(.int p1)])) _
          refine own_st (fun _ k => XT.i2l X0.here hx rfl (hb hby at_61) rfl k) ?_
          show own_Goes p e below (s₁.setTop (mkF m 62 #[.val (.int p1), .val (.int p2), .val (.int p3), .val (.int (0 : Int32)), .val (.int (0 : Int32)), .val (.int (1 : Int32)), .val (.int p1), .unset, .unset, .unset, .unset, .unset, .unset, .unset, .unset, .unset] [(.long p1.toInt64)])) _
          refine own_st (fun _ k => XT.lstore X0.here hx rfl (hb hby at_62) rfl (l' := #[.val (.int p1), .val (.int p2), .val (.int p3), .val (.int (0 : Int32)), .val (.int (0 : Int32)), .val (.int (1 : Int32)), .val (.int p1), .val (.long p1.toInt64), .second, .unset, .unset, .unset, .unset, .unset, .unset, .unset]) rfl k) ?_
          show own_Goes p e below (s₁.setTop (mkF m 64 #[.val (.int p1), .val (.int p2), .val (.int p3), .val (.int (0 : Int32)), .val (.int (0 : Int32)), .val (.int (1 : Int32)), .val (.int p1), .val (.long p1.toInt64), .second, .unset, .unset, .unset, .unset, .unset, .unset, .unset] [])) _
          refine own_st (fun _ k => XS.iload X0.here hx rfl (hb hby at_64) rfl k) ?_
          show own_Goes p e below (s₁.setTop (mkF m 66 #[.val (.int p1), .val (.int p2), .val (.int p3), .val (.int (0 : Int32)), .val (.int (0 : Int32)), .val (.int (1 : Int32)), .val (.int p1), .val (.long p1.toInt64), .second, .unset, .unset, .unset, .unset, .unset, .unset, .unset] [(.int (0 : Int32))])) _
          refine own_st (fun _ k => XS.ifYes X0.here hx rfl (pc0 := 66) (pc' := 76) rfl (hb hby at_66) rfl ((if0 _ _).trans (teq (by decide : (0 : Int32) = (0 : Int32))).1) (by decide) (by decide) k) ?_
          show own_Goes p e below (s₁.setTop (mkF m 76 #[.val (.int p1), .val (.int p2), .val (.int p3), .val (.int (0 : Int32)), .val (.int (0 : Int32)), .val (.int (1 : Int32)), .val (.int p1), .val (.long p1.toInt64), .second, .unset, .unset, .unset, .unset, .unset, .unset, .unset] [])) _
          refine own_st (fun _ k => XS.iload X0.here hx rfl (hb hby at_76) rfl k) ?_
          show own_Goes p e below (s₁.setTop (mkF m 78 #[.val (.int p1), .val (.int p2), .val (.int p3), .val (.int (0 : Int32)), .val (.int (0 : Int32)), .val (.int (1 : Int32)), .val (.int p1), .val (.long p1.toInt64), .second, .unset, .unset, .unset, .unset, .unset, .unset, .unset] [(.int p1)])) _
          refine own_st (fun _ k => XT.i2l X0.here hx rfl (hb hby at_78) rfl k) ?_
          show own_Goes p e below (s₁.setTop (mkF m 79 #[.val (.int p1), .val (.int p2), .val (.int p3), .val (.int (0 : Int32)), .val (.int (0 : Int32)), .val (.int (1 : Int32)), .val (.int p1), .val (.long p1.toInt64), .second, .unset, .unset, .unset, .unset, .unset, .unset, .unset] [(.long p1.toInt64)])) _
          refine own_st (fun _ k => XT.lstore X0.here hx rfl (hb hby at_79) rfl (l' := #[.val (.int p1), .val (.int p2), .val (.int p3), .val (.int (0 : Int32)), .val (.int (0 : Int32)), .val (.int (1 : Int32)), .val (.int p1), .val (.long p1.toInt64), .second, .val (.long p1.toInt64), .second, .unset, .unset, .unset, .unset, .unset]) rfl k) ?_
          show own_Goes p e below (s₁.setTop (mkF m 81 #[.val (.int p1), .val (.int p2), .val (.int p3), .val (.int (0 : Int32)), .val (.int (0 : Int32)), .val (.int (1 : Int32)), .val (.int p1), .val (.long p1.toInt64), .second, .val (.long p1.toInt64), .second, .unset, .unset, .unset, .unset, .unset] [])) _
          refine own_st (fun _ k => XS.iloadN X0.here hx rfl (hb hby at_81) rfl k) ?_
          show own_Goes p e below (s₁.setTop (mkF m 82 #[.val (.int p1), .val (.int p2), .val (.int p3), .val (.int (0 : Int32)), .val (.int (0 : Int32)), .val (.int (1 : Int32)), .val (.int p1), .val (.long p1.toInt64), .second, .val (.long p1.toInt64), .second, .unset, .unset, .unset, .unset, .unset] [(.int (0 : Int32))])) _
          refine own_st (fun _ k => XS.ifYes X0.here hx rfl (pc0 := 82) (pc' := 91) rfl (hb hby at_82) rfl ((if0 _ _).trans (teq (by decide : (0 : Int32) = (0 : Int32))).1) (by decide) (by decide) k) ?_
          show own_Goes p e below (s₁.setTop (mkF m 91 #[.val (.int p1), .val (.int p2), .val (.int p3), .val (.int (0 : Int32)), .val (.int (0 : Int32)), .val (.int (1 : Int32)), .val (.int p1), .val (.long p1.toInt64), .second, .val (.long p1.toInt64), .second, .unset, .unset, .unset, .unset, .unset] [])) _
          refine own_st (fun _ k => XS.iloadN X0.here hx rfl (hb hby at_91) rfl k) ?_
          show own_Goes p e below (s₁.setTop (mkF m 92 #[.val (.int p1), .val (.int p2), .val (.int p3), .val (.int (0 : Int32)), .val (.int (0 : Int32)), .val (.int (1 : Int32)), .val (.int p1), .val (.long p1.toInt64), .second, .val (.long p1.toInt64), .second, .unset, .unset, .unset, .unset, .unset] [(.int p1)])) _
          refine own_st (fun _ k => own_i2d X0.here hx rfl (hb hby at_92) rfl k) ?_
          show own_Goes p e below (s₁.setTop (mkF m 93 #[.val (.int p1), .val (.int p2), .val (.int p3), .val (.int (0 : Int32)), .val (.int (0 : Int32)), .val (.int (1 : Int32)), .val (.int p1), .val (.long p1.toInt64), .second, .val (.long p1.toInt64), .second, .unset, .unset, .unset, .unset, .unset] [(.double (FP.i2d p1))])) _
          refine own_st (fun _ k => own_dstore X0.here hx rfl (hb hby at_93) rfl (l' := #[.val (.int p1), .val (.int p2), .val (.int p3), .val (.int (0 : Int32)), .val (.int (0 : Int32)), .val (.int (1 : Int32)), .val (.int p1), .val (.long p1.toInt64), .second, .val (.long p1.toInt64), .second, .val (.double (FP.i2d p1)), .second, .unset, .unset, .unset]) rfl k) ?_
          show own_Goes p e below (s₁.setTop (mkF m 95 #[.val (.int p1), .val (.int p2), .val (.int p3), .val (.int (0 : Int32)), .val (.int (0 : Int32)), .val (.int (1 : Int32)), .val (.int p1), .val (.long p1.toInt64), .second, .val (.long p1.toInt64), .second, .val (.double (FP.i2d p1)), .second, .unset, .unset, .unset] [])) _
          refine own_st (fun _ k => XS.iload X0.here hx rfl (hb hby at_95) rfl k) ?_
          show own_Goes p e below (s₁.setTop (mkF m 97 #[.val (.int p1), .val (.int p2), .val (.int p3), .val (.int (0 : Int32)), .val (.int (0 : Int32)), .val (.int (1 : Int32)), .val (.int p1), .val (.long p1.toInt64), .second, .val (.long p1.toInt64), .second, .val (.double (FP.i2d p1)), .second, .unset, .unset, .unset] [(.int (0 : Int32))])) _
          refine own_st (fun _ k => XS.ifYes X0.here hx rfl (pc0 := 97) (pc' := 107) rfl (hb hby at_97) rfl ((if0 _ _).trans (teq (by decide : (0 : Int32) = (0 : Int32))).1) (by decide) (by decide) k) ?_
          show own_Goes p e below (s₁.setTop (mkF m 107 #[.val (.int p1), .val (.int p2), .val (.int p3), .val (.int (0 : Int32)), .val (.int (0 : Int32)), .val (.int (1 : Int32)), .val (.int p1), .val (.long p1.toInt64), .second, .val (.long p1.toInt64), .second, .val (.double (FP.i2d p1)), .second, .unset, .unset, .unset] [])) _
          refine own_st (fun _ k => XS.iload X0.here hx rfl (hb hby at_107) rfl k) ?_
          show own_Goes p e below (s₁.setTop (mkF m 109 #[.val (.int p1), .val (.int p2), .val (.int p3), .val (.int (0 : Int32)), .val (.int (0 : Int32)), .val (.int (1 : Int32)), .val (.int p1), .val (.long p1.toInt64), .second, .val (.long p1.toInt64), .second, .val (.double (FP.i2d p1)), .second, .unset, .unset, .unset] [(.int p1)])) _
          refine own_st (fun _ k => own_i2d X0.here hx rfl (hb hby at_109) rfl k) ?_
          show own_Goes p e below (s₁.setTop (mkF m 110 #[.val (.int p1), .val (.int p2), .val (.int p3), .val (.int (0 : Int32)), .val (.int (0 : Int32)), .val (.int (1 : Int32)), .val (.int p1), .val (.long p1.toInt64), .second, .val (.long p1.toInt64), .second, .val (.double (FP.i2d p1)), .second, .unset, .unset, .unset] [(.double (FP.i2d p1))])) _
          refine own_st (fun _ k => own_dstore X0.here hx rfl (hb hby at_110) rfl (l' := #[.val (.int p1), .val (.int p2), .val (.int p3), .val (.int (0 : Int32)), .val (.int (0 : Int32)), .val (.int (1 : Int32)), .val (.int p1), .val (.long p1.toInt64), .second, .val (.long p1.toInt64), .second, .val (.double (FP.i2d p1)), .second, .val (.double (FP.i2d p1)), .second, .unset]) rfl k) ?_
          show own_Goes p e below (s₁.setTop (mkF m 112 #[.val (.int p1), .val (.int p2), .val (.int p3), .val (.int (0 : Int32)), .val (.int (0 : Int32)), .val (.int (1 : Int32)), .val (.int p1), .val (.long p1.toInt64), .second, .val (.long p1.toInt64), .second, .val (.double (FP.i2d p1)), .second, .val (.double (FP.i2d p1)), .second, .unset] [])) _
          exact J112 _ _ _ _ _ _ _ _ (own_pos p1) (own_pos p1)
      · refine own_st (fun _ k => XS.ifNo X0.here hx rfl (hb hby at_15) rfl ((if0 _ _).trans (feq hc15_107).1) k) ?_
        show own_Goes p e below (s₁.setTop (mkF m 18 #[.val (.int p1), .val (.int p2), .val (.int p3), .val (.int (0 : Int32)), .unset, .unset, .unset, .unset, .unset, .unset, .unset, .unset, .unset, .unset, .unset, .unset] [])) _
        refine own_st (fun _ k => XS.iconst X0.here hx rfl (hb hby at_18) k) ?_
        show own_Goes p e below (s₁.setTop (mkF m 19 #[.val (.int p1), .val (.int p2), .val (.int p3), .val (.int (0 : Int32)), .unset, .unset, .unset, .unset, .unset, .unset, .unset, .unset, .unset, .unset, .unset, .unset] [(.int (1 : Int32))])) _
        refine own_st (fun _ k => XS.goto X0.here hx rfl (pc0 := 19) (pc' := 23) rfl (hb hby at_19) (by decide) (by decide) k) ?_
        show own_Goes p e below (s₁.setTop (mkF m 23 #[.val (.int p1), .val (.int p2), .val (.int p3), .val (.int (0 : Int32)), .unset, .unset, .unset, .unset, .unset, .unset, .unset, .unset, .unset, .unset, .unset, .unset] [(.int (1 : Int32))])) _
        refine own_st (fun _ k => XS.istore X0.here hx rfl (hb hby at_23) rfl (l' := #[.val (.int p1), .val (.int p2), .val (.int p3), .val (.int (0 : Int32)), .val (.int (1 : Int32)), .unset, .unset, .unset, .unset, .unset, .unset, .unset, .unset, .unset, .unset, .unset]) rfl k) ?_
        show own_Goes p e below (s₁.setTop (mkF m 25 #[.val (.int p1), .val (.int p2), .val (.int p3), .val (.int (0 : Int32)), .val (.int (1 : Int32)), .unset, .unset, .unset, .unset, .unset, .unset, .unset, .unset, .unset, .unset, .unset] [])) _
        refine own_st (fun _ k => XS.iloadN X0.here hx rfl (hb hby at_25) rfl k) ?_
        show own_Goes p e below (s₁.setTop (mkF m 26 #[.val (.int p1), .val (.int p2), .val (.int p3), .val (.int (0 : Int32)), .val (.int (1 : Int32)), .unset, .unset, .unset, .unset, .unset, .unset, .unset, .unset, .unset, .unset, .unset] [(.int p3)])) _
        refine own_st (fun _ k => XS.iconst X0.here hx rfl (hb hby at_26) k) ?_
        show own_Goes p e below (s₁.setTop (mkF m 27 #[.val (.int p1), .val (.int p2), .val (.int p3), .val (.int (0 : Int32)), .val (.int (1 : Int32)), .unset, .unset, .unset, .unset, .unset, .unset, .unset, .unset, .unset, .unset, .unset] [(.int (4 : Int32)), (.int p3)])) _
        refine own_st (fun _ k => XS.iand X0.here hx rfl (hb hby at_27) rfl k) ?_
        show own_Goes p e below (s₁.setTop (mkF m 28 #[.val (.int p1), .val (.int p2), .val (.int p3), .val (.int (0 : Int32)), .val (.int (1 : Int32)), .unset, .unset, .unset, .unset, .unset, .unset, .unset, .unset, .unset, .unset, .unset] [(.int (p3 &&& (4 : Int32)))])) _
        by_cases hc28_109 : (p3 &&& (4 : Int32)) = (0 : Int32)
        · refine own_st (fun _ k => XS.ifYes X0.here hx rfl (pc0 := 28) (pc' := 35) rfl (hb hby at_28) rfl ((if0 _ _).trans (teq hc28_109).1) (by decide) (by decide) k) ?_
          show own_Goes p e below (s₁.setTop (mkF m 35 #[.val (.int p1), .val (.int p2), .val (.int p3), .val (.int (0 : Int32)), .val (.int (1 : Int32)), .unset, .unset, .unset, .unset, .unset, .unset, .unset, .unset, .unset, .unset, .unset] [])) _
          refine own_st (fun _ k => XS.iconst X0.here hx rfl (hb hby at_35) k) ?_
          show own_Goes p e below (s₁.setTop (mkF m 36 #[.val (.int p1), .val (.int p2), .val (.int p3), .val (.int (0 : Int32)), .val (.int (1 : Int32)), .unset, .unset, .unset, .unset, .unset, .unset, .unset, .unset, .unset, .unset, .unset] [(.int (0 : Int32))])) _
          refine own_st (fun _ k => XS.istore X0.here hx rfl (hb hby at_36) rfl (l' := #[.val (.int p1), .val (.int p2), .val (.int p3), .val (.int (0 : Int32)), .val (.int (1 : Int32)), .val (.int (0 : Int32)), .unset, .unset, .unset, .unset, .unset, .unset, .unset, .unset, .unset, .unset]) rfl k) ?_
          show own_Goes p e below (s₁.setTop (mkF m 38 #[.val (.int p1), .val (.int p2), .val (.int p3), .val (.int (0 : Int32)), .val (.int (1 : Int32)), .val (.int (0 : Int32)), .unset, .unset, .unset, .unset, .unset, .unset, .unset, .unset, .unset, .unset] [])) _
          refine own_st (fun _ k => XS.iload X0.here hx rfl (hb hby at_38) rfl k) ?_
          show own_Goes p e below (s₁.setTop (mkF m 40 #[.val (.int p1), .val (.int p2), .val (.int p3), .val (.int (0 : Int32)), .val (.int (1 : Int32)), .val (.int (0 : Int32)), .unset, .unset, .unset, .unset, .unset, .unset, .unset, .unset, .unset, .unset] [(.int (0 : Int32))])) _
          refine own_st (fun _ k => XS.ifYes X0.here hx rfl (pc0 := 40) (pc' := 47) rfl (hb hby at_40) rfl ((if0 _ _).trans (teq (by decide : (0 : Int32) = (0 : Int32))).1) (by decide) (by decide) k) ?_
          show own_Goes p e below (s₁.setTop (mkF m 47 #[.val (.int p1), .val (.int p2), .val (.int p3), .val (.int (0 : Int32)), .val (.int (1 : Int32)), .val (.int (0 : Int32)), .unset, .unset, .unset, .unset, .unset, .unset, .unset, .unset, .unset, .unset] [])) _
          refine own_st (fun _ k => XS.iloadN X0.here hx rfl (hb hby at_47) rfl k) ?_
          show own_Goes p e below (s₁.setTop (mkF m 48 #[.val (.int p1), .val (.int p2), .val (.int p3), .val (.int (0 : Int32)), .val (.int (1 : Int32)), .val (.int (0 : Int32)), .unset, .unset, .unset, .unset, .unset, .unset, .unset, .unset, .unset, .unset] [(.int p2)])) _
          refine own_st (fun _ k => XS.istore X0.here hx rfl (hb hby at_48) rfl (l' := #[.val (.int p1), .val (.int p2), .val (.int p3), .val (.int (0 : Int32)), .val (.int (1 : Int32)), .val (.int (0 : Int32)), .val (.int p2), .unset, .unset, .unset, .unset, .unset, .unset, .unset, .unset, .unset]) rfl k) ?_
          show own_Goes p e below (s₁.setTop (mkF m 50 #[.val (.int p1), .val (.int p2), .val (.int p3), .val (.int (0 : Int32)), .val (.int (1 : Int32)), .val (.int (0 : Int32)), .val (.int p2), .unset, .unset, .unset, .unset, .unset, .unset, .unset, .unset, .unset] [])) _
          refine own_st (fun _ k => XS.iloadN X0.here hx rfl (hb hby at_50) rfl k) ?_
          show own_Goes p e below (s₁.setTop (mkF m 51 #[.val (.int p1), .val (.int p2), .val (.int p3), .val (.int (0 : Int32)), .val (.int (1 : Int32)), .val (.int (0 : Int32)), .val (.int p2), .unset, .unset, .unset, .unset, .unset, .unset, .unset, .unset, .unset] [(.int (0 : Int32))])) _
          refine own_st (fun _ k => XS.ifYes X0.here hx rfl (pc0 := 51) (pc' := 60) rfl (hb hby at_51) rfl ((if0 _ _).trans (teq (by decide : (0 : Int32) = (0 : Int32))).1) (by decide) (by decide) k) ?_
          show own_Goes p e below (s₁.setTop (mkF m 60 #[.val (.int p1), .val (.int p2), .val (.int p3), .val (.int (0 : Int32)), .val (.int (1 : Int32)), .val (.int (0 : Int32)), .val (.int p2), .unset, .unset, .unset, .unset, .unset, .unset, .unset, .unset, .unset] [])) _
          refine own_st (fun _ k => XS.iloadN X0.here hx rfl (hb hby at_60) rfl k) ?_
          show own_Goes p e below (s₁.setTop (mkF m 61 #[.val (.int p1), .val (.int p2), .val (.int p3), .val (.int (0 : Int32)), .val (.int (1 : Int32)), .val (.int (0 : Int32)), .val (.int p2), .unset, .unset, .unset, .unset, .unset, .unset, .unset, .unset, .unset] [(.int p1)])) _
          refine own_st (fun _ k => XT.i2l X0.here hx rfl (hb hby at_61) rfl k) ?_
          show own_Goes p e below (s₁.setTop (mkF m 62 #[.val (.int p1), .val (.int p2), .val (.int p3), .val (.int (0 : Int32)), .val (.int (1 : Int32)), .val (.int (0 : Int32)), .val (.int p2), .unset, .unset, .unset, .unset, .unset, .unset, .unset, .unset, .unset] [(.long p1.toInt64)])) _
          refine own_st (fun _ k => XT.lstore X0.here hx rfl (hb hby at_62) rfl (l' := #[.val (.int p1), .val (.int p2), .val (.int p3), .val (.int (0 : Int32)), .val (.int (1 : Int32)), .val (.int (0 : Int32)), .val (.int p2), .val (.long p1.toInt64), .second, .unset, .unset, .unset, .unset, .unset, .unset, .unset]) rfl k) ?_
          show own_Goes p e below (s₁.setTop (mkF m 64 #[.val (.int p1), .val (.int p2), .val (.int p3), .val (.int (0 : Int32)), .val (.int (1 : Int32)), .val (.int (0 : Int32)), .val (.int p2), .val (.long p1.toInt64), .second, .unset, .unset, .unset, .unset, .unset, .unset, .unset] [])) _
          refine own_st (fun _ k => XS.iload X0.here hx rfl (hb hby at_64) rfl k) ?_
          show own_Goes p e below (s₁.setTop (mkF m 66 #[.val (.int p1), .val (.int p2), .val (.int p3), .val (.int (0 : Int32)), .val (.int (1 : Int32)), .val (.int (0 : Int32)), .val (.int p2), .val (.long p1.toInt64), .second, .unset, .unset, .unset, .unset, .unset, .unset, .unset] [(.int (1 : Int32))])) _
          refine own_st (fun _ k => XS.ifNo X0.here hx rfl (hb hby at_66) rfl ((if0 _ _).trans (feq (by decide : ¬ ((1 : Int32) = (0 : Int32)))).1) k) ?_
          show own_Goes p e below (s₁.setTop (mkF m 69 #[.val (.int p1), .val (.int p2), .val (.int p3), .val (.int (0 : Int32)), .val (.int (1 : Int32)), .val (.int (0 : Int32)), .val (.int p2), .val (.long p1.toInt64), .second, .unset, .unset, .unset, .unset, .unset, .unset, .unset] [])) _
          refine own_st (fun _ k => XS.iload X0.here hx rfl (hb hby at_69) rfl k) ?_
          show own_Goes p e below (s₁.setTop (mkF m 71 #[.val (.int p1), .val (.int p2), .val (.int p3), .val (.int (0 : Int32)), .val (.int (1 : Int32)), .val (.int (0 : Int32)), .val (.int p2), .val (.long p1.toInt64), .second, .unset, .unset, .unset, .unset, .unset, .unset, .unset] [(.int p2)])) _
          refine own_st (fun _ k => XT.i2l X0.here hx rfl (hb hby at_71) rfl k) ?_
          show own_Goes p e below (s₁.setTop (mkF m 72 #[.val (.int p1), .val (.int p2), .val (.int p3), .val (.int (0 : Int32)), .val (.int (1 : Int32)), .val (.int (0 : Int32)), .val (.int p2), .val (.long p1.toInt64), .second, .unset, .unset, .unset, .unset, .unset, .unset, .unset] [(.long p2.toInt64)])) _
          refine own_st (fun _ k => XT.lneg X0.here hx rfl (hb hby at_72) rfl k) ?_
          show own_Goes p e below (s₁.setTop (mkF m 73 #[.val (.int p1), .val (.int p2), .val (.int p3), .val (.int (0 : Int32)), .val (.int (1 : Int32)), .val (.int (0 : Int32)), .val (.int p2), .val (.long p1.toInt64), .second, .unset, .unset, .unset, .unset, .unset, .unset, .unset] [(.long (-p2.toInt64))])) _
          refine own_st (fun _ k => XS.goto X0.here hx rfl (pc0 := 73) (pc' := 79) rfl (hb hby at_73) (by decide) (by decide) k) ?_
          show own_Goes p e below (s₁.setTop (mkF m 79 #[.val (.int p1), .val (.int p2), .val (.int p3), .val (.int (0 : Int32)), .val (.int (1 : Int32)), .val (.int (0 : Int32)), .val (.int p2), .val (.long p1.toInt64), .second, .unset, .unset, .unset, .unset, .unset, .unset, .unset] [(.long (-p2.toInt64))])) _
          refine own_st (fun _ k => XT.lstore X0.here hx rfl (hb hby at_79) rfl (l' := #[.val (.int p1), .val (.int p2), .val (.int p3), .val (.int (0 : Int32)), .val (.int (1 : Int32)), .val (.int (0 : Int32)), .val (.int p2), .val (.long p1.toInt64), .second, .val (.long (-p2.toInt64)), .second, .unset, .unset, .unset, .unset, .unset]) rfl k) ?_
          show own_Goes p e below (s₁.setTop (mkF m 81 #[.val (.int p1), .val (.int p2), .val (.int p3), .val (.int (0 : Int32)), .val (.int (1 : Int32)), .val (.int (0 : Int32)), .val (.int p2), .val (.long p1.toInt64), .second, .val (.long (-p2.toInt64)), .second, .unset, .unset, .unset, .unset, .unset] [])) _
          refine own_st (fun _ k => XS.iloadN X0.here hx rfl (hb hby at_81) rfl k) ?_
          show own_Goes p e below (s₁.setTop (mkF m 82 #[.val (.int p1), .val (.int p2), .val (.int p3), .val (.int (0 : Int32)), .val (.int (1 : Int32)), .val (.int (0 : Int32)), .val (.int p2), .val (.long p1.toInt64), .second, .val (.long (-p2.toInt64)), .second, .unset, .unset, .unset, .unset, .unset] [(.int (0 : Int32))])) _
          refine own_st (fun _ k => XS.ifYes X0.here hx rfl (pc0 := 82) (pc' := 91) rfl (hb hby at_82) rfl ((if0 _ _).trans (teq (by decide : (0 : Int32) = (0 : Int32))).1) (by decide) (by decide) k) ?_
          show own_Goes p e below (s₁.setTop (mkF m 91 #[.val (.int p1), .val (.int p2), .val (.int p3), .val (.int (0 : Int32)), .val (.int (1 : Int32)), .val (.int (0 : Int32)), .val (.int p2), .val (.long p1.toInt64), .second, .val (.long (-p2.toInt64)), .second, .unset, .unset, .unset, .unset, .unset] [])) _
          refine own_st (fun _ k => XS.iloadN X0.here hx rfl (hb hby at_91) rfl k) ?_
          show own_Goes p e below (s₁.setTop (mkF m 92 #[.val (.int p1), .val (.int p2), .val (.int p3), .val (.int (0 : Int32)), .val (.int (1 : Int32)), .val (.int (0 : Int32)), .val (.int p2), .val (.long p1.toInt64), .second, .val (.long (-p2.toInt64)), .second, .unset, .unset, .unset, .unset, .unset] [(.int p1)])) _
          refine own_st (fun _ k => own_i2d X0.here hx rfl (hb hby at_92) rfl k) ?_
          show own_Goes p e below (s₁.setTop (mkF m 93 #[.val (.int p1), .val (.int p2), .val (.int p3), .val (.int (0 : Int32)), .val (.int (1 : Int32)), .val (.int (0 : Int32)), .val (.int p2), .val (.long p1.toInt64), .second, .val (.long (-p2.toInt64)), .second, .unset, .unset, .unset, .unset, .unset] [(.double (FP.i2d p1))])) _
          refine own_st (fun _ k => own_dstore X0.here hx rfl (hb hby at_93) rfl (l' := #[.val (.int p1), .val (.int p2), .val (.int p3), .val (.int (0 : Int32)), .val (.int (1 : Int32)), .val (.int (0 : Int32)), .val (.int p2), .val (.long p1.toInt64), .second, .val (.long (-p2.toInt64)), .second, .val (.double (FP.i2d p1)), .second, .unset, .unset, .unset]) rfl k) ?_
          show own_Goes p e below (s₁.setTop (mkF m 95 #[.val (.int p1), .val (.int p2), .val (.int p3), .val (.int (0 : Int32)), .val (.int (1 : Int32)), .val (.int (0 : Int32)), .val (.int p2), .val (.long p1.toInt64), .second, .val (.long (-p2.toInt64)), .second, .val (.double (FP.i2d p1)), .second, .unset, .unset, .unset] [])) _
          refine own_st (fun _ k => XS.iload X0.here hx rfl (hb hby at_95) rfl k) ?_
          show own_Goes p e below (s₁.setTop (mkF m 97 #[.val (.int p1), .val (.int p2), .val (.int p3), .val (.int (0 : Int32)), .val (.int (1 : Int32)), .val (.int (0 : Int32)), .val (.int p2), .val (.long p1.toInt64), .second, .val (.long (-p2.toInt64)), .second, .val (.double (FP.i2d p1)), .second, .unset, .unset, .unset] [(.int (1 : Int32))])) _
          refine own_st (fun _ k => XS.ifNo X0.here hx rfl (hb hby at_97) rfl ((if0 _ _).trans (feq (by decide : ¬ ((1 : Int32) = (0 : Int32)))).1) k) ?_
          show own_Goes p e below (s₁.setTop (mkF m 100 #[.val (.int p1), .val (.int p2), .val (.int p3), .val (.int (0 : Int32)), .val (.int (1 : Int32)), .val (.int (0 : Int32)), .val (.int p2), .val (.long p1.toInt64), .second, .val (.long (-p2.toInt64)), .second, .val (.double (FP.i2d p1)), .second, .unset, .unset, .unset] [])) _
          refine own_st (fun _ k => XS.iload X0.here hx rfl (hb hby at_100) rfl k) ?_
          show own_Goes p e below (s₁.setTop (mkF m 102 #[.val (.int p1), .val (.int p2), .val (.int p3), .val (.int (0 : Int32)), .val (.int (1 : Int32)), .val (.int (0 : Int32)), .val (.int p2), .val (.long p1.toInt64), .second, .val (.long (-p2.toInt64)), .second, .val (.double (FP.i2d p1)), .second, .unset, .unset, .unset] [(.int p2)])) _
          refine own_st (fun _ k => own_i2d X0.here hx rfl (hb hby at_102) rfl k) ?_
          show own_Goes p e below (s₁.setTop (mkF m 103 #[.val (.int p1), .val (.int p2), .val (.int p3), .val (.int (0 : Int32)), .val (.int (1 : Int32)), .val (.int (0 : Int32)), .val (.int p2), .val (.long p1.toInt64), .second, .val (.long (-p2.toInt64)), .second, .val (.double (FP.i2d p1)), .second, .unset, .unset, .unset] [(.double (FP.i2d p2))])) _
          refine own_st (fun _ k => own_dneg X0.here hx rfl (hb hby at_103) rfl k) ?_
          show own_Goes p e below (s₁.setTop (mkF m 104 #[.val (.int p1), .val (.int p2), .val (.int p3), .val (.int (0 : Int32)), .val (.int (1 : Int32)), .val (.int (0 : Int32)), .val (.int p2), .val (.long p1.toInt64), .second, .val (.long (-p2.toInt64)), .second, .val (.double (FP.i2d p1)), .second, .unset, .unset, .unset] [(.double (FP.dneg (FP.i2d p2)))])) _
          refine own_st (fun _ k => XS.goto X0.here hx rfl (pc0 := 104) (pc' := 110) rfl (hb hby at_104) (by decide) (by decide) k) ?_
          show own_Goes p e below (s₁.setTop (mkF m 110 #[.val (.int p1), .val (.int p2), .val (.int p3), .val (.int (0 : Int32)), .val (.int (1 : Int32)), .val (.int (0 : Int32)), .val (.int p2), .val (.long p1.toInt64), .second, .val (.long (-p2.toInt64)), .second, .val (.double (FP.i2d p1)), .second, .unset, .unset, .unset] [(.double (FP.dneg (FP.i2d p2)))])) _
          refine own_st (fun _ k => own_dstore X0.here hx rfl (hb hby at_110) rfl (l' := #[.val (.int p1), .val (.int p2), .val (.int p3), .val (.int (0 : Int32)), .val (.int (1 : Int32)), .val (.int (0 : Int32)), .val (.int p2), .val (.long p1.toInt64), .second, .val (.long (-p2.toInt64)), .second, .val (.double (FP.i2d p1)), .second, .val (.double (FP.dneg (FP.i2d p2))), .second, .unset]) rfl k) ?_
          show own_Goes p e below (s₁.setTop (mkF m 112 #[.val (.int p1), .val (.int p2), .val (.int p3), .val (.int (0 : Int32)), .val (.int (1 : Int32)), .val (.int (0 : Int32)), .val (.int p2), .val (.long p1.toInt64), .second, .val (.long (-p2.toInt64)), .second, .val (.double (FP.i2d p1)), .second, .val (.double (FP.dneg (FP.i2d p2))), .second, .unset] [])) _
          exact J112 _ _ _ _ _ _ _ _ (own_pos p1) (own_neg p2)
        · refine own_st (fun _ k => XS.ifNo X0.here hx rfl (hb hby at_28) rfl ((if0 _ _).trans (feq hc28_109).1) k) ?_
          show own_Goes p e below (s₁.setTop (mkF m 31 #[.val (.int p1), .val (.int p2), .val (.int p3), .val (.int (0 : Int32)), .val (.int (1 : Int32)), .unset, .unset, .unset, .unset, .unset, .unset, .unset, .unset, .unset, .unset, .unset] [])) _
          refine own_st (fun _ k => XS.iconst X0.here hx rfl (hb hby at_31) k) ?_
          show own_Goes p e below (s₁.setTop (mkF m 32 #[.val (.int p1), .val (.int p2), .val (.int p3), .val (.int (0 : Int32)), .val (.int (1 : Int32)), .unset, .unset, .unset, .unset, .unset, .unset, .unset, .unset, .unset, .unset, .unset] [(.int (1 : Int32))])) _
          refine own_st (fun _ k => XS.goto X0.here hx rfl (pc0 := 32) (pc' := 36) rfl (hb hby at_32) (by decide) (by decide) k) ?_
          show own_Goes p e below (s₁.setTop (mkF m 36 #[.val (.int p1), .val (.int p2), .val (.int p3), .val (.int (0 : Int32)), .val (.int (1 : Int32)), .unset, .unset, .unset, .unset, .unset, .unset, .unset, .unset, .unset, .unset, .unset] [(.int (1 : Int32))])) _
          refine own_st (fun _ k => XS.istore X0.here hx rfl (hb hby at_36) rfl (l' := #[.val (.int p1), .val (.int p2), .val (.int p3), .val (.int (0 : Int32)), .val (.int (1 : Int32)), .val (.int (1 : Int32)), .unset, .unset, .unset, .unset, .unset, .unset, .unset, .unset, .unset, .unset]) rfl k) ?_
          show own_Goes p e below (s₁.setTop (mkF m 38 #[.val (.int p1), .val (.int p2), .val (.int p3), .val (.int (0 : Int32)), .val (.int (1 : Int32)), .val (.int (1 : Int32)), .unset, .unset, .unset, .unset, .unset, .unset, .unset, .unset, .unset, .unset] [])) _
          refine own_st (fun _ k => XS.iload X0.here hx rfl (hb hby at_38) rfl k) ?_
          show own_Goes p e below (s₁.setTop (mkF m 40 #[.val (.int p1), .val (.int p2), .val (.int p3), .val (.int (0 : Int32)), .val (.int (1 : Int32)), .val (.int (1 : Int32)), .unset, .unset, .unset, .unset, .unset, .unset, .unset, .unset, .unset, .unset] [(.int (1 : Int32))])) _
          refine own_st (fun _ k => XS.ifNo X0.here hx rfl (hb hby at_40) rfl ((if0 _ _).trans (feq (by decide : ¬ ((1 : Int32) = (0 : Int32)))).1) k) ?_
          show own_Goes p e below (s₁.setTop (mkF m 43 #[.val (.int p1), .val (.int p2), .val (.int p3), .val (.int (0 : Int32)), .val (.int (1 : Int32)), .val (.int (1 : Int32)), .unset, .unset, .unset, .unset, .unset, .unset, .unset, .unset, .unset, .unset] [])) _
          refine own_st (fun _ k => XS.iloadN X0.here hx rfl (hb hby at_43) rfl k) ?_
          show own_Goes p e below (s₁.setTop (mkF m 44 #[.val (.int p1), .val (.int p2), .val (.int p3), .val (.int (0 : Int32)), .val (.int (1 : Int32)), .val (.int (1 : Int32)), .unset, .unset, .unset, .unset, .unset, .unset, .unset, .unset, .unset, .unset] [(.int p1)])) _
          refine own_st (fun _ k => XS.goto X0.here hx rfl (pc0 := 44) (pc' := 48) rfl (hb hby at_44) (by decide) (by decide) k) ?_
          show own_Goes p e below (s₁.setTop (mkF m 48 #[.val (.int p1), .val (.int p2), .val (.int p3), .val (.int (0 : Int32)), .val (.int (1 : Int32)), .val (.int (1 : Int32)), .unset, .unset, .unset, .unset, .unset, .unset, .unset, .unset, .unset, .unset] [(.int p1)])) _
          refine own_st (fun _ k => XS.istore X0.here hx rfl (hb hby at_48) rfl (l' := #[.val (.int p1), .val (.int p2), .val (.int p3), .val (.int (0 : Int32)), .val (.int (1 : Int32)), .val (.int (1 : Int32)), .val (.int p1), .unset, .unset, .unset, .unset, .unset, .unset, .unset, .unset, .unset]) rfl k) ?_
          show own_Goes p e below (s₁.setTop (mkF m 50 #[.val (.int p1), .val (.int p2), .val (.int p3), .val (.int (0 : Int32)), .val (.int (1 : Int32)), .val (.int (1 : Int32)), .val (.int p1), .unset, .unset, .unset, .unset, .unset, .unset, .unset, .unset, .unset] [])) _
          refine own_st (fun _ k => XS.iloadN X0.here hx rfl (hb hby at_50) rfl k) ?_
          show own_Goes p e below (s₁.setTop (mkF m 51 #[.val (.int p1), .val (.int p2), .val (.int p3), .val (.int (0 : Int32)), .val (.int (1 : Int32)), .val (.int (1 : Int32)), .val (.int p1), .unset, .unset, .unset, .unset, .unset, .unset, .unset, .unset, .unset] [(.int (0 : Int32))])) _
          refine own_st (fun _ k => XS.ifYes X0.here hx rfl (pc0 := 51) (pc' := 60) rfl (hb hby at_51) rfl ((if0 _ _).trans (teq (by decide : (0 : Int32) = (0 : Int32))).1) (by decide) (by decide) k) ?_
          show own_Goes p e below (s₁.setTop (mkF m 60 #[.val (.int p1), .val (.int p2), .val (.int p3), .val (.int (0 : Int32)), .val (.int (1 : Int32)), .val (.int (1 : Int32)), .val (.int p1), .unset, .unset, .unset, .unset, .unset, .unset, .unset, .unset, .unset] [])) _
          refine own_st (fun _ k => XS.iloadN X0.here hx rfl (hb hby at_60) rfl k) ?_
          show own_Goes p e below (s₁.setTop (mkF m 61 #[.val (.int p1), .val (.int p2), .val (.int p3), .val (.int (0 : Int32)), .val (.int (1 : Int32)), .val (.int (1 : Int32)), .val (.int p1), .unset, .unset, .unset, .unset, .unset, .unset, .unset, .unset, .unset] [(.int p1)])) _
          refine own_st (fun _ k => XT.i2l X0.here hx rfl (hb hby at_61) rfl k) ?_
          show own_Goes p e below (s₁.setTop (mkF m 62 #[.val (.int p1), .val (.int p2), .val (.int p3), .val (.int (0 : Int32)), .val (.int (1 : Int32)), .val (.int (1 : Int32)), .val (.int p1), .unset, .unset, .unset, .unset, .unset, .unset, .unset, .unset, .unset] [(.long p1.toInt64)])) _
          refine own_st (fun _ k => XT.lstore X0.here hx rfl (hb hby at_62) rfl (l' := #[.val (.int p1), .val (.int p2), .val (.int p3), .val (.int (0 : Int32)), .val (.int (1 : Int32)), .val (.int (1 : Int32)), .val (.int p1), .val (.long p1.toInt64), .second, .unset, .unset, .unset, .unset, .unset, .unset, .unset]) rfl k) ?_
          show own_Goes p e below (s₁.setTop (mkF m 64 #[.val (.int p1), .val (.int p2), .val (.int p3), .val (.int (0 : Int32)), .val (.int (1 : Int32)), .val (.int (1 : Int32)), .val (.int p1), .val (.long p1.toInt64), .second, .unset, .unset, .unset, .unset, .unset, .unset, .unset] [])) _
          refine own_st (fun _ k => XS.iload X0.here hx rfl (hb hby at_64) rfl k) ?_
          show own_Goes p e below (s₁.setTop (mkF m 66 #[.val (.int p1), .val (.int p2), .val (.int p3), .val (.int (0 : Int32)), .val (.int (1 : Int32)), .val (.int (1 : Int32)), .val (.int p1), .val (.long p1.toInt64), .second, .unset, .unset, .unset, .unset, .unset, .unset, .unset] [(.int (1 : Int32))])) _
          refine own_st (fun _ k => XS.ifNo X0.here hx rfl (hb hby at_66) rfl ((if0 _ _).trans (feq (by decide : ¬ ((1 : Int32) = (0 : Int32)))).1) k) ?_
          show own_Goes p e below (s₁.setTop (mkF m 69 #[.val (.int p1), .val (.int p2), .val (.int p3), .val (.int (0 : Int32)), .val (.int (1 : Int32)), .val (.int (1 : Int32)), .val (.int p1), .val (.long p1.toInt64), .second, .unset, .unset, .unset, .unset, .unset, .unset, .unset] [])) _
          refine own_st (fun _ k => XS.iload X0.here hx rfl (hb hby at_69) rfl k) ?_
          show own_Goes p e below (s₁.setTop (mkF m 71 #[.val (.int p1), .val (.int p2), .val (.int p3), .val (.int (0 : Int32)), .val (.int (1 : Int32)), .val (.int (1 : Int32)), .val (.int p1), .val (.long p1.toInt64), .second, .unset, .unset, .unset, .unset, .unset, .unset, .unset] [(.int p1)])) _
          refine own_st (fun _ k => XT.i2l X0.here hx rfl (hb hby at_71) rfl k) ?_
          show own_Goes p e below (s₁.setTop (mkF m 72 #[.val (.int p1), .val (.int p2), .val (.int p3), .val (.int (0 : Int32)), .val (.int (1 : Int32)), .val (.int (1 : Int32)), .val (.int p1), .val (.long p1.toInt64), .second, .unset, .unset, .unset, .unset, .unset, .unset, .unset] [(.long p1.toInt64)])) _
          refine own_st (fun _ k => XT.lneg X0.here hx rfl (hb hby at_72) rfl k) ?_
          show own_Goes p e below (s₁.setTop (mkF m 73 #[.val (.int p1), .val (.int p2), .val (.int p3), .val (.int (0 : Int32)), .val (.int (1 : Int32)), .val (.int (1 : Int32)), .val (.int p1), .val (.long p1.toInt64), .second, .unset, .unset, .unset, .unset, .unset, .unset, .unset] [(.long (-p1.toInt64))])) _
          refine own_st (fun _ k => XS.goto X0.here hx rfl (pc0 := 73) (pc' := 79) rfl (hb hby at_73) (by decide) (by decide) k) ?_
          show own_Goes p e below (s₁.setTop (mkF m 79 #[.val (.int p1), .val (.int p2), .val (.int p3), .val (.int (0 : Int32)), .val (.int (1 : Int32)), .val (.int (1 : Int32)), .val (.int p1), .val (.long p1.toInt64), .second, .unset, .unset, .unset, .unset, .unset, .unset, .unset] [(.long (-p1.toInt64))])) _
          refine own_st (fun _ k => XT.lstore X0.here hx rfl (hb hby at_79) rfl (l' := #[.val (.int p1), .val (.int p2), .val (.int p3), .val (.int (0 : Int32)), .val (.int (1 : Int32)), .val (.int (1 : Int32)), .val (.int p1), .val (.long p1.toInt64), .second, .val (.long (-p1.toInt64)), .second, .unset, .unset, .unset, .unset, .unset]) rfl k) ?_
          show own_Goes p e below (s₁.setTop (mkF m 81 #[.val (.int p1), .val (.int p2), .val (.int p3), .val (.int (0 : Int32)), .val (.int (1 : Int32)), .val (.int (1 : Int32)), .val (.int p1), .val (.long p1.toInt64), .second, .val (.long (-p1.toInt64)), .second, .unset, .unset, .unset, .unset, .unset] [])) _
          refine own_st (fun _ k => XS.iloadN X0.here hx rfl (hb hby at_81) rfl k) ?_
          show own_Goes p e below (s₁.setTop (mkF m 82 #[.val (.int p1), .val (.int p2), .val (.int p3), .val (.int (0 : Int32)), .val (.int (1 : Int32)), .val (.int (1 : Int32)), .val (.int p1), .val (.long p1.toInt64), .second, .val (.long (-p1.toInt64)), .second, .unset, .unset, .unset, .unset, .unset] [(.int (0 : Int32))])) _
          refine own_st (fun _ k => XS.ifYes X0.here hx rfl (pc0 := 82) (pc' := 91) rfl (hb hby at_82) rfl ((if0 _ _).trans (teq (by decide : (0 : Int32) = (0 : Int32))).1) (by decide) (by decide) k) ?_
          show own_Goes p e below (s₁.setTop (mkF m 91 #[.val (.int p1), .val (.int p2), .val (.int p3), .val (.int (0 : Int32)), .val (.int (1 : Int32)), .val (.int (1 : Int32)), .val (.int p1), .val (.long p1.toInt64), .second, .val (.long (-p1.toInt64)), .second, .unset, .unset, .unset, .unset, .unset] [])) _
          refine own_st (fun _ k => XS.iloadN X0.here hx rfl (hb hby at_91) rfl k) ?_
          show own_Goes p e below (s₁.setTop (mkF m 92 #[.val (.int p1), .val (.int p2), .val (.int p3), .val (.int (0 : Int32)), .val (.int (1 : Int32)), .val (.int (1 : Int32)), .val (.int p1), .val (.long p1.toInt64), .second, .val (.long (-p1.toInt64)), .second, .unset, .unset, .unset, .unset, .unset] [(.int p1)])) _
          refine own_st (fun _ k => own_i2d X0.here hx rfl (hb hby at_92) rfl k) ?_
          show own_Goes p e below (s₁.setTop (mkF m 93 #[.val (.int p1), .val (.int p2), .val (.int p3), .val (.int (0 : Int32)), .val (.int (1 : Int32)), .val (.int (1 : Int32)), .val (.int p1), .val (.long p1.toInt64), .second, .val (.long (-p1.toInt64)), .second, .unset, .unset, .unset, .unset, .unset] [(.double (FP.i2d p1))])) _
          refine own_st (fun _ k => own_dstore X0.here hx rfl (hb hby at_93) rfl (l' := #[.val (.int p1), .val (.int p2), .val (.int p3), .val (.int (0 : Int32)), .val (.int (1 : Int32)), .val (.int (1 : Int32)), .val (.int p1), .val (.long p1.toInt64), .second, .val (.long (-p1.toInt64)), .second, .val (.double (FP.i2d p1)), .second, .unset, .unset, .unset]) rfl k) ?_
          show own_Goes p e below (s₁.setTop (mkF m 95 #[.val (.int p1), .val (.int p2), .val (.int p3), .val (.int (0 : Int32)), .val (.int (1 : Int32)), .val (.int (1 : Int32)), .val (.int p1), .val (.long p1.toInt64), .second, .val (.long (-p1.toInt64)), .second, .val (.double (FP.i2d p1)), .second, .unset, .unset, .unset] [])) _
          refine own_st (fun _ k => XS.iload X0.here hx rfl (hb hby at_95) rfl k) ?_
          show own_Goes p e below (s₁.setTop (mkF m 97 #[.val (.int p1), .val (.int p2), .val (.int p3), .val (.int (0 : Int32)), .val (.int (1 : Int32)), .val (.int (1 : Int32)), .val (.int p1), .val (.long p1.toInt64), .second, .val (.long (-p1.toInt64)), .second, .val (.double (FP.i2d p1)), .second, .unset, .unset, .unset] [(.int (1 : Int32))])) _
          refine own_st (fun _ k => XS.ifNo X0.here hx rfl (hb hby at_97) rfl ((if0 _ _).trans (feq (by decide : ¬ ((1 : Int32) = (0 : Int32)))).1) k) ?_
          show own_Goes p e below (s₁.setTop (mkF m 100 #[.val (.int p1), .val (.int p2), .val (.int p3), .val (.int (0 : Int32)), .val (.int (1 : Int32)), .val (.int (1 : Int32)), .val (.int p1), .val (.long p1.toInt64), .second, .val (.long (-p1.toInt64)), .second, .val (.double (FP.i2d p1)), .second, .unset, .unset, .unset] [])) _
          refine own_st (fun _ k => XS.iload X0.here hx rfl (hb hby at_100) rfl k) ?_
          show own_Goes p e below (s₁.setTop (mkF m 102 #[.val (.int p1), .val (.int p2), .val (.int p3), .val (.int (0 : Int32)), .val (.int (1 : Int32)), .val (.int (1 : Int32)), .val (.int p1), .val (.long p1.toInt64), .second, .val (.long (-p1.toInt64)), .second, .val (.double (FP.i2d p1)), .second, .unset, .unset, .unset] [(.int p1)])) _
          refine own_st (fun _ k => own_i2d X0.here hx rfl (hb hby at_102) rfl k) ?_
          show own_Goes p e below (s₁.setTop (mkF m 103 #[.val (.int p1), .val (.int p2), .val (.int p3), .val (.int (0 : Int32)), .val (.int (1 : Int32)), .val (.int (1 : Int32)), .val (.int p1), .val (.long p1.toInt64), .second, .val (.long (-p1.toInt64)), .second, .val (.double (FP.i2d p1)), .second, .unset, .unset, .unset] [(.double (FP.i2d p1))])) _
          refine own_st (fun _ k => own_dneg X0.here hx rfl (hb hby at_103) rfl k) ?_
          show own_Goes p e below (s₁.setTop (mkF m 104 #[.val (.int p1), .val (.int p2), .val (.int p3), .val (.int (0 : Int32)), .val (.int (1 : Int32)), .val (.int (1 : Int32)), .val (.int p1), .val (.long p1.toInt64), .second, .val (.long (-p1.toInt64)), .second, .val (.double (FP.i2d p1)), .second, .unset, .unset, .unset] [(.double (FP.dneg (FP.i2d p1)))])) _
          refine own_st (fun _ k => XS.goto X0.here hx rfl (pc0 := 104) (pc' := 110) rfl (hb hby at_104) (by decide) (by decide) k) ?_
          show own_Goes p e below (s₁.setTop (mkF m 110 #[.val (.int p1), .val (.int p2), .val (.int p3), .val (.int (0 : Int32)), .val (.int (1 : Int32)), .val (.int (1 : Int32)), .val (.int p1), .val (.long p1.toInt64), .second, .val (.long (-p1.toInt64)), .second, .val (.double (FP.i2d p1)), .second, .unset, .unset, .unset] [(.double (FP.dneg (FP.i2d p1)))])) _
          refine own_st (fun _ k => own_dstore X0.here hx rfl (hb hby at_110) rfl (l' := #[.val (.int p1), .val (.int p2), .val (.int p3), .val (.int (0 : Int32)), .val (.int (1 : Int32)), .val (.int (1 : Int32)), .val (.int p1), .val (.long p1.toInt64), .second, .val (.long (-p1.toInt64)), .second, .val (.double (FP.i2d p1)), .second, .val (.double (FP.dneg (FP.i2d p1))), .second, .unset]) rfl k) ?_
          show own_Goes p e below (s₁.setTop (mkF m 112 #[.val (.int p1), .val (.int p2), .val (.int p3), .val (.int (0 : Int32)), .val (.int (1 : Int32)), .val (.int (1 : Int32)), .val (.int p1), .val (.long p1.toInt64), .second, .val (.long (-p1.toInt64)), .second, .val (.double (FP.i2d p1)), .second, .val (.double (FP.dneg (FP.i2d p1))), .second, .unset] [])) _
          exact J112 _ _ _ _ _ _ _ _ (own_pos p1) (own_neg p1)
    · refine own_st (fun _ k => XS.ifNo X0.here hx rfl (hb hby at_3) rfl ((if0 _ _).trans (feq hc3_106).1) k) ?_
      show own_Goes p e below (s₁.setTop (mkF m 6 #[.val (.int p1), .val (.int p2), .val (.int p3), .unset, .unset, .unset, .unset, .unset, .unset, .unset, .unset, .unset, .unset, .unset, .unset, .unset] [])) _
      refine own_st (fun _ k => XS.iconst X0.here hx rfl (hb hby at_6) k) ?_
      show own_Goes p e below (s₁.setTop (mkF m 7 #[.val (.int p1), .val (.int p2), .val (.int p3), .unset, .unset, .unset, .unset, .unset, .unset, .unset, .unset, .unset, .unset, .unset, .unset, .unset] [(.int (1 : Int32))])) _
      refine own_st (fun _ k => XS.goto X0.here hx rfl (pc0 := 7) (pc' := 11) rfl (hb hby at_7) (by decide) (by decide) k) ?_
      show own_Goes p e below (s₁.setTop (mkF m 11 #[.val (.int p1), .val (.int p2), .val (.int p3), .unset, .unset, .unset, .unset, .unset, .unset, .unset, .unset, .unset, .unset, .unset, .unset, .unset] [(.int (1 : Int32))])) _
      refine own_st (fun _ k => XS.istoreN X0.here hx rfl (hb hby at_11) rfl (l' := #[.val (.int p1), .val (.int p2), .val (.int p3), .val (.int (1 : Int32)), .unset, .unset, .unset, .unset, .unset, .unset, .unset, .unset, .unset, .unset, .unset, .unset]) rfl k) ?_
      show own_Goes p e below (s₁.setTop (mkF m 12 #[.val (.int p1), .val (.int p2), .val (.int p3), .val (.int (1 : Int32)), .unset, .unset, .unset, .unset, .unset, .unset, .unset, .unset, .unset, .unset, .unset, .unset] [])) _
      refine own_st (fun _ k => XS.iloadN X0.here hx rfl (hb hby at_12) rfl k) ?_
      show own_Goes p e below (s₁.setTop (mkF m 13 #[.val (.int p1), .val (.int p2), .val (.int p3), .val (.int (1 : Int32)), .unset, .unset, .unset, .unset, .unset, .unset, .unset, .unset, .unset, .unset, .unset, .unset] [(.int p3)])) _
      refine own_st (fun _ k => XS.iconst X0.here hx rfl (hb hby at_13) k) ?_
      show own_Goes p e below (s₁.setTop (mkF m 14 #[.val (.int p1), .val (.int p2), .val (.int p3), .val (.int (1 : Int32)), .unset, .unset, .unset, .unset, .unset, .unset, .unset, .unset, .unset, .unset, .unset, .unset] [(.int (2 : Int32)), (.int p3)])) _
      refine own_st (fun _ k => XS.iand X0.here hx rfl (hb hby at_14) rfl k) ?_
      show own_Goes p e below (s₁.setTop (mkF m 15 #[.val (.int p1), .val (.int p2), .val (.int p3), .val (.int (1 : Int32)), .unset, .unset, .unset, .unset, .unset, .unset, .unset, .unset, .unset, .unset, .unset, .unset] [(.int (p3 &&& (2 : Int32)))])) _
      by_cases hc15_110 : (p3 &&& (2 : Int32)) = (0 : Int32)
      · refine own_st (fun _ k => XS.ifYes X0.here hx rfl (pc0 := 15) (pc' := 22) rfl (hb hby at_15) rfl ((if0 _ _).trans (teq hc15_110).1) (by decide) (by decide) k) ?_
        show own_Goes p e below (s₁.setTop (mkF m 22 #[.val (.int p1), .val (.int p2), .val (.int p3), .val (.int (1 : Int32)), .unset, .unset, .unset, .unset, .unset, .unset, .unset, .unset, .unset, .unset, .unset, .unset] [])) _
        refine own_st (fun _ k => XS.iconst X0.here hx rfl (hb hby at_22) k) ?_
        show own_Goes p e below (s₁.setTop (mkF m 23 #[.val (.int p1), .val (.int p2), .val (.int p3), .val (.int (1 : Int32)), .unset, .unset, .unset, .unset, .unset, .unset, .unset, .unset, .unset, .unset, .unset, .unset] [(.int (0 : Int32))])) _
        refine own_st (fun _ k => XS.istore X0.here hx rfl (hb hby at_23) rfl (l' := #[.val (.int p1), .val (.int p2), .val (.int p3), .val (.int (1 : Int32)), .val (.int (0 : Int32)), .unset, .unset, .unset, .unset, .unset, .unset, .unset, .unset, .unset, .unset, .unset]) rfl k) ?_
        show own_Goes p e below (s₁.setTop (mkF m 25 #[.val (.int p1), .val (.int p2), .val (.int p3), .val (.int (1 : Int32)), .val (.int (0 : Int32)), .unset, .unset, .unset, .unset, .unset, .unset, .unset, .unset, .unset, .unset, .unset] [])) _
        refine own_st (fun _ k => XS.iloadN X0.here hx rfl (hb hby at_25) rfl k) ?_
        show own_Goes p e below (s₁.setTop (mkF m 26 #[.val (.int p1), .val (.int p2), .val (.int p3), .val (.int (1 : Int32)), .val (.int (0 : Int32)), .unset, .unset, .unset, .unset, .unset, .unset, .unset, .unset, .unset, .unset, .unset] [(.int p3)])) _
        refine own_st (fun _ k => XS.iconst X0.here hx rfl (hb hby at_26) k) ?_
        show own_Goes p e below (s₁.setTop (mkF m 27 #[.val (.int p1), .val (.int p2), .val (.int p3), .val (.int (1 : Int32)), .val (.int (0 : Int32)), .unset, .unset, .unset, .unset, .unset, .unset, .unset, .unset, .unset, .unset, .unset] [(.int (4 : Int32)), (.int p3)])) _
        refine own_st (fun _ k => XS.iand X0.here hx rfl (hb hby at_27) rfl k) ?_
        show own_Goes p e below (s₁.setTop (mkF m 28 #[.val (.int p1), .val (.int p2), .val (.int p3), .val (.int (1 : Int32)), .val (.int (0 : Int32)), .unset, .unset, .unset, .unset, .unset, .unset, .unset, .unset, .unset, .unset, .unset] [(.int (p3 &&& (4 : Int32)))])) _
        by_cases hc28_111 : (p3 &&& (4 : Int32)) = (0 : Int32)
        · refine own_st (fun _ k => XS.ifYes X0.here hx rfl (pc0 := 28) (pc' := 35) rfl (hb hby at_28) rfl ((if0 _ _).trans (teq hc28_111).1) (by decide) (by decide) k) ?_
          show own_Goes p e below (s₁.setTop (mkF m 35 #[.val (.int p1), .val (.int p2), .val (.int p3), .val (.int (1 : Int32)), .val (.int (0 : Int32)), .unset, .unset, .unset, .unset, .unset, .unset, .unset, .unset, .unset, .unset, .unset] [])) _
          refine own_st (fun _ k => XS.iconst X0.here hx rfl (hb hby at_35) k) ?_
          show own_Goes p e below (s₁.setTop (mkF m 36 #[.val (.int p1), .val (.int p2), .val (.int p3), .val (.int (1 : Int32)), .val (.int (0 : Int32)), .unset, .unset, .unset, .unset, .unset, .unset, .unset, .unset, .unset, .unset, .unset] [(.int (0 : Int32))])) _
          refine own_st (fun _ k => XS.istore X0.here hx rfl (hb hby at_36) rfl (l' := #[.val (.int p1), .val (.int p2), .val (.int p3), .val (.int (1 : Int32)), .val (.int (0 : Int32)), .val (.int (0 : Int32)), .unset, .unset, .unset, .unset, .unset, .unset, .unset, .unset, .unset, .unset]) rfl k) ?_
          show own_Goes p e below (s₁.setTop (mkF m 38 #[.val (.int p1), .val (.int p2), .val (.int p3), .val (.int (1 : Int32)), .val (.int (0 : Int32)), .val (.int (0 : Int32)), .unset, .unset, .unset, .unset, .unset, .unset, .unset, .unset, .unset, .unset] [])) _
          refine own_st (fun _ k => XS.iload X0.here hx rfl (hb hby at_38) rfl k) ?_
          show own_Goes p e below (s₁.setTop (mkF m 40 #[.val (.int p1), .val (.int p2), .val (.int p3), .val (.int (1 : Int32)), .val (.int (0 : Int32)), .val (.int (0 : Int32)), .unset, .unset, .unset, .unset, .unset, .unset, .unset, .unset, .unset, .unset] [(.int (0 : Int32))])) _
          refine own_st (fun _ k => XS.ifYes X0.here hx rfl (pc0 := 40) (pc' := 47) rfl (hb hby at_40) rfl ((if0 _ _).trans (teq (by decide : (0 : Int32) = (0 : Int32))).1) (by decide) (by decide) k) ?_
          show own_Goes p e below (s₁.setTop (mkF m 47 #[.val (.int p1), .val (.int p2), .val (.int p3), .val (.int (1 : Int32)), .val (.int (0 : Int32)), .val (.int (0 : Int32)), .unset, .unset, .unset, .unset, .unset, .unset, .unset, .unset, .unset, .unset] [])) _
          refine own_st (fun _ k => XS.iloadN X0.here hx rfl (hb hby at_47) rfl k) ?_
          show own_Goes p e below (s₁.setTop (mkF m 48 #[.val (.int p1), .val (.int p2), .val (.int p3), .val (.int (1 : Int32)), .val (.int (0 : Int32)), .val (.int (0 : Int32)), .unset, .unset, .unset, .unset, .unset, .unset, .unset, .unset, .unset, .unset] [(.int p2)])) _
          refine own_st (fun _ k => XS.istore X0.here hx rfl (hb hby at_48) rfl (l' := #[.val (.int p1), .val (.int p2), .val (.int p3), .val (.int (1 : Int32)), .val (.int (0 : Int32)), .val (.int (0 : Int32)), .val (.int p2), .unset, .unset, .unset, .unset, .unset, .unset, .unset, .unset, .unset]) rfl k) ?_
          show own_Goes p e below (s₁.setTop (mkF m 50 #[.val (.int p1), .val (.int p2), .val (.int p3), .val (.int (1 : Int32)), .val (.int (0 : Int32)), .val (.int (0 : Int32)), .val (.int p2), .unset, .unset, .unset, .unset, .unset, .unset, .unset, .unset, .unset] [])) _
          refine own_st (fun _ k => XS.iloadN X0.here hx rfl (hb hby at_50) rfl k) ?_
          show own_Goes p e below (s₁.setTop (mkF m 51 #[.val (.int p1), .val (.int p2), .val (.int p3), .val (.int (1 : Int32)), .val (.int (0 : Int32)), .val (.int (0 : Int32)), .val (.int p2), .unset, .unset, .unset, .unset, .unset, .unset, .unset, .unset, .unset] [(.int (1 : Int32))])) _
          refine own_st (fun _ k => XS.ifNo X0.here hx rfl (hb hby at_51) rfl ((if0 _ _).trans (feq (by decide : ¬ ((1 : Int32) = (0 : Int32)))).1) k) ?_
          show own_Goes p e below (s₁.setTop (mkF m 54 #[.val (.int p1), .val (.int p2), .val (.int p3), .val (.int (1 : Int32)), .val (.int (0 : Int32)), .val (.int (0 : Int32)), .val (.int p2), .unset, .unset, .unset, .unset, .unset, .unset, .unset, .unset, .unset] [])) _
          refine own_st (fun _ k => XS.iloadN X0.here hx rfl (hb hby at_54) rfl k) ?_
          show own_Goes p e below (s₁.setTop (mkF m 55 #[.val (.int p1), .val (.int p2), .val (.int p3), .val (.int (1 : Int32)), .val (.int (0 : Int32)), .val (.int (0 : Int32)), .val (.int p2), .unset, .unset, .unset, .unset, .unset, .unset, .unset, .unset, .unset] [(.int p1)])) _
          refine own_st (fun _ k => XT.i2l X0.here hx rfl (hb hby at_55) rfl k) ?_
          show own_Goes p e below (s₁.setTop (mkF m 56 #[.val (.int p1), .val (.int p2), .val (.int p3), .val (.int (1 : Int32)), .val (.int (0 : Int32)), .val (.int (0 : Int32)), .val (.int p2), .unset, .unset, .unset, .unset, .unset, .unset, .unset, .unset, .unset] [(.long p1.toInt64)])) _
          refine own_st (fun _ k => XT.lneg X0.here hx rfl (hb hby at_56) rfl k) ?_
          show own_Goes p e below (s₁.setTop (mkF m 57 #[.val (.int p1), .val (.int p2), .val (.int p3), .val (.int (1 : Int32)), .val (.int (0 : Int32)), .val (.int (0 : Int32)), .val (.int p2), .unset, .unset, .unset, .unset, .unset, .unset, .unset, .unset, .unset] [(.long (-p1.toInt64))])) _
          refine own_st (fun _ k => XS.goto X0.here hx rfl (pc0 := 57) (pc' := 62) rfl (hb hby at_57) (by decide) (by decide) k) ?_
          show own_Goes p e below (s₁.setTop (mkF m 62 #[.val (.int p1), .val (.int p2), .val (.int p3), .val (.int (1 : Int32)), .val (.int (0 : Int32)), .val (.int (0 : Int32)), .val (.int p2), .unset, .unset, .unset, .unset, .unset, .unset, .unset, .unset, .unset] [(.long (-p1.toInt64))])) _
          refine own_st (fun _ k => XT.lstore X0.here hx rfl (hb hby at_62) rfl (l' := #[.val (.int p1), .val (.int p2), .val (.int p3), .val (.int (1 : Int32)), .val (.int (0 : Int32)), .val (.int (0 : Int32)), .val (.int p2), .val (.long (-p1.toInt64)), .second, .unset, .unset, .unset, .unset, .unset, .unset, .unset]) rfl k) ?_
          show own_Goes p e below (s₁.setTop (mkF m 64 #[.val (.int p1), .val (.int p2), .val (.int p3), .val (.int (1 : Int32)), .val (.int (0 : Int32)), .val (.int (0 : Int32)), .val (.int p2), .val (.long (-p1.toInt64)), .second, .unset, .unset, .unset, .unset, .unset, .unset, .unset] [])) _
          refine own_st (fun _ k => XS.iload X0.here hx rfl (hb hby at_64) rfl k) ?_
          show own_Goes p e below (s₁.setTop (mkF m 66 #[.val (.int p1), .val (.int p2), .val (.int p3), .val (.int (1 : Int32)), .val (.int (0 : Int32)), .val (.int (0 : Int32)), .val (.int p2), .val (.long (-p1.toInt64)), .second, .unset, .unset, .unset, .unset, .unset, .unset, .unset] [(.int (0 : Int32))])) _
          refine own_st (fun _ k => XS.ifYes X0.here hx rfl (pc0 := 66) (pc' := 76) rfl (hb hby at_66) rfl ((if0 _ _).trans (teq (by decide : (0 : Int32) = (0 : Int32))).1) (by decide) (by decide) k) ?_
          show own_Goes p e below (s₁.setTop (mkF m 76 #[.val (.int p1), .val (.int p2), .val (.int p3), .val (.int (1 : Int32)), .val (.int (0 : Int32)), .val (.int (0 : Int32)), .val (.int p2), .val (.long (-p1.toInt64)), .second, .unset, .unset, .unset, .unset, .unset, .unset, .unset] [])) _
          refine own_st (fun _ k => XS.iload X0.here hx rfl (hb hby at_76) rfl k) ?_
          show own_Goes p e below (s₁.setTop (mkF m 78 #[.val (.int p1), .val (.int p2), .val (.int p3), .val (.int (1 : Int32)), .val (.int (0 : Int32)), .val (.int (0 : Int32)), .val (.int p2), .val (.long (-p1.toInt64)), .second, .unset, .unset, .unset, .unset, .unset, .unset, .unset] [(.int p2)])) _
          refine own_st (fun _ k => XT.i2l X0.here hx rfl (hb hby at_78) rfl k) ?_
          show own_Goes p e below (s₁.setTop (mkF m 79 #[.val (.int p1), .val (.int p2), .val (.int p3), .val (.int (1 : Int32)), .val (.int (0 : Int32)), .val (.int (0 : Int32)), .val (.int p2), .val (.long (-p1.toInt64)), .second, .unset, .unset, .unset, .unset, .unset, .unset, .unset] [(.long p2.toInt64)])) _
          refine own_st (fun _ k => XT.lstore X0.here hx rfl (hb hby at_79) rfl (l' := #[.val (.int p1), .val (.int p2), .val (.int p3), .val (.int (1 : Int32)), .val (.int (0 : Int32)), .val (.int (0 : Int32)), .val (.int p2), .val (.long (-p1.toInt64)), .second, .val (.long p2.toInt64), .second, .unset, .unset, .unset, .unset, .unset]) rfl k) ?_
          show own_Goes p e below (s₁.setTop (mkF m 81 #[.val (.int p1), .val (.int p2), .val (.int p3), .val (.int (1 : Int32)), .val (.int (0 : Int32)), .val (.int (0 : Int32)), .val (.int p2), .val (.long (-p1.toInt64)), .second, .val (.long p2.toInt64), .second, .unset, .unset, .unset, .unset, .unset] [])) _
          refine own_st (fun _ k => XS.iloadN X0.here hx rfl (hb hby at_81) rfl k) ?_
          show own_Goes p e below (s₁.setTop (mkF m 82 #[.val (.int p1), .val (.int p2), .val (.int p3), .val (.int (1 : Int32)), .val (.int (0 : Int32)), .val (.int (0 : Int32)), .val (.int p2), .val (.long (-p1.toInt64)), .second, .val (.long p2.toInt64), .second, .unset, .unset, .unset, .unset, .unset] [(.int (1 : Int32))])) _
          refine own_st (fun _ k => XS.ifNo X0.here hx rfl (hb hby at_82) rfl ((if0 _ _).trans (feq (by decide : ¬ ((1 : Int32) = (0 : Int32)))).1) k) ?_
          show own_Goes p e below (s₁.setTop (mkF m 85 #[.val (.int p1), .val (.int p2), .val (.int p3), .val (.int (1 : Int32)), .val (.int (0 : Int32)), .val (.int (0 : Int32)), .val (.int p2), .val (.long (-p1.toInt64)), .second, .val (.long p2.toInt64), .second, .unset, .unset, .unset, .unset, .unset] [])) _
          refine own_st (fun _ k => XS.iloadN X0.here hx rfl (hb hby at_85) rfl k) ?_
          show own_Goes p e below (s₁.setTop (mkF m 86 #[.val (.int p1), .val (.int p2), .val (.int p3), .val (.int (1 : Int32)), .val (.int (0 : Int32)), .val (.int (0 : Int32)), .val (.int p2), .val (.long (-p1.toInt64)), .second, .val (.long p2.toInt64), .second, .unset, .unset, .unset, .unset, .unset] [(.int p1)])) _
          refine own_st (fun _ k => own_i2d X0.here hx rfl (hb hby at_86) rfl k) ?_
          show own_Goes p e below (s₁.setTop (mkF m 87 #[.val (.int p1), .val (.int p2), .val (.int p3), .val (.int (1 : Int32)), .val (.int (0 : Int32)), .val (.int (0 : Int32)), .val (.int p2), .val (.long (-p1.toInt64)), .second, .val (.long p2.toInt64), .second, .unset, .unset, .unset, .unset, .unset] [(.double (FP.i2d p1))])) _
          refine own_st (fun _ k => own_dneg X0.here hx rfl (hb hby at_87) rfl k) ?_
          show own_Goes p e below (s₁.setTop (mkF m 88 #[.val (.int p1), .val (.int p2), .val (.int p3), .val (.int (1 : Int32)), .val (.int (0 : Int32)), .val (.int (0 : Int32)), .val (.int p2), .val (.long (-p1.toInt64)), .second, .val (.long p2.toInt64), .second, .unset, .unset, .unset, .unset, .unset] [(.double (FP.dneg (FP.i2d p1)))])) _
          refine own_st (fun _ k => XS.goto X0.here hx rfl (pc0 := 88) (pc' := 93) rfl (hb hby at_88) (by decide) (by decide) k) ?_
          show own_Goes p e below (s₁.setTop (mkF m 93 #[.val (.int p1), .val (.int p2), .val (.int p3), .val (.int (1 : Int32)), .val (.int (0 : Int32)), .val (.int (0 : Int32)), .val (.int p2), .val (.long (-p1.toInt64)), .second, .val (.long p2.toInt64), .second, .unset, .unset, .unset, .unset, .unset] [(.double (FP.dneg (FP.i2d p1)))])) _
          refine own_st (fun _ k => own_dstore X0.here hx rfl (hb hby at_93) rfl (l' := #[.val (.int p1), .val (.int p2), .val (.int p3), .val (.int (1 : Int32)), .val (.int (0 : Int32)), .val (.int (0 : Int32)), .val (.int p2), .val (.long (-p1.toInt64)), .second, .val (.long p2.toInt64), .second, .val (.double (FP.dneg (FP.i2d p1))), .second, .unset, .unset, .unset]) rfl k) ?_
          show own_Goes p e below (s₁.setTop (mkF m 95 #[.val (.int p1), .val (.int p2), .val (.int p3), .val (.int (1 : Int32)), .val (.int (0 : Int32)), .val (.int (0 : Int32)), .val (.int p2), .val (.long (-p1.toInt64)), .second, .val (.long p2.toInt64), .second, .val (.double (FP.dneg (FP.i2d p1))), .second, .unset, .unset, .unset] [])) _
          refine own_st (fun _ k => XS.iload X0.here hx rfl (hb hby at_95) rfl k) ?_
          show own_Goes p e below (s₁.setTop (mkF m 97 #[.val (.int p1), .val (.int p2), .val (.int p3), .val (.int (1 : Int32)), .val (.int (0 : Int32)), .val (.int (0 : Int32)), .val (.int p2), .val (.long (-p1.toInt64)), .second, .val (.long p2.toInt64), .second, .val (.double (FP.dneg (FP.i2d p1))), .second, .unset, .unset, .unset] [(.int (0 : Int32))])) _
          refine own_st (fun _ k => XS.ifYes X0.here hx rfl (pc0 := 97) (pc' := 107) rfl (hb hby at_97) rfl ((if0 _ _).trans (teq (by decide : (0 : Int32) = (0 : Int32))).1) (by decide) (by decide) k) ?_
          show own_Goes p e below (s₁.setTop (mkF m 107 #[.val (.int p1), .val (.int p2), .val (.int p3), .val (.int (1 : Int32)), .val (.int (0 : Int32)), .val (.int (0 : Int32)), .val (.int p2), .val (.long (-p1.toInt64)), .second, .val (.long p2.toInt64), .second, .val (.double (FP.dneg (FP.i2d p1))), .second, .unset, .unset, .unset] [])) _
          refine own_st (fun _ k => XS.iload X0.here hx rfl (hb hby at_107) rfl k) ?_
          show own_Goes p e below (s₁.setTop (mkF m 109 #[.val (.int p1), .val (.int p2), .val (.int p3), .val (.int (1 : Int32)), .val (.int (0 : Int32)), .val (.int (0 : Int32)), .val (.int p2), .val (.long (-p1.toInt64)), .second, .val (.long p2.toInt64), .second, .val (.double (FP.dneg (FP.i2d p1))), .second, .unset, .unset, .unset] [(.int p2)])) _
          refine own_st (fun _ k => own_i2d X0.here hx rfl (hb hby at_109) rfl k) ?_
          show own_Goes p e below (s₁.setTop (mkF m 110 #[.val (.int p1), .val (.int p2), .val (.int p3), .val (.int (1 : Int32)), .val (.int (0 : Int32)), .val (.int (0 : Int32)), .val (.int p2), .val (.long (-p1.toInt64)), .second, .val (.long p2.toInt64), .second, .val (.double (FP.dneg (FP.i2d p1))), .second, .unset, .unset, .unset] [(.double (FP.i2d p2))])) _
          refine own_st (fun _ k => own_dstore X0.here hx rfl (hb hby at_110) rfl (l' := #[.val (.int p1), .val (.int p2), .val (.int p3), .val (.int (1 : Int32)), .val (.int (0 : Int32)), .val (.int (0 : Int32)), .val (.int p2), .val (.long (-p1.toInt64)), .second, .val (.long p2.toInt64), .second, .val (.double (FP.dneg (FP.i2d p1))), .second, .val (.double (FP.i2d p2)), .second, .unset]) rfl k) ?_
          show own_Goes p e below (s₁.setTop (mkF m 112 #[.val (.int p1), .val (.int p2), .val (.int p3), .val (.int (1 : Int32)), .val (.int (0 : Int32)), .val (.int (0 : Int32)), .val (.int p2), .val (.long (-p1.toInt64)), .second, .val (.long p2.toInt64), .second, .val (.double (FP.dneg (FP.i2d p1))), .second, .val (.double (FP.i2d p2)), .second, .unset] [])) _
          exact J112 _ _ _ _ _ _ _ _ (own_neg p1) (own_pos p2)
        · refine own_st (fun _ k => XS.ifNo X0.here hx rfl (hb hby at_28) rfl ((if0 _ _).trans (feq hc28_111).1) k) ?_
          show own_Goes p e below (s₁.setTop (mkF m 31 #[.val (.int p1), .val (.int p2), .val (.int p3), .val (.int (1 : Int32)), .val (.int (0 : Int32)), .unset, .unset, .unset, .unset, .unset, .unset, .unset, .unset, .unset, .unset, .unset] [])) _
          refine own_st (fun _ k => XS.iconst X0.here hx rfl (hb hby at_31) k) ?_
          show own_Goes p e below (s₁.setTop (mkF m 32 #[.val (.int p1), .val (.int p2), .val (.int p3), .val (.int (1 : Int32)), .val (.int (0 : Int32)), .unset, .unset, .unset, .unset, .unset, .unset, .unset, .unset, .unset, .unset, .unset] [(.int (1 : Int32))])) _
          refine own_st (fun _ k => XS.goto X0.here hx rfl (pc0 := 32) (pc' := 36) rfl (hb hby at_32) (by decide) (by decide) k) ?_
          show own_Goes p e below (s₁.setTop (mkF m 36 #[.val (.int p1), .val (.int p2), .val (.int p3), .val (.int (1 : Int32)), .val (.int (0 : Int32)), .unset, .unset, .unset, .unset, .unset, .unset, .unset, .unset, .unset, .unset, .unset] [(.int (1 : Int32))])) _
          refine own_st (fun _ k => XS.istore X0.here hx rfl (hb hby at_36) rfl (l' := #[.val (.int p1), .val (.int p2), .val (.int p3), .val (.int (1 : Int32)), .val (.int (0 : Int32)), .val (.int (1 : Int32)), .unset, .unset, .unset, .unset, .unset, .unset, .unset, .unset, .unset, .unset]) rfl k) ?_
          show own_Goes p e below (s₁.setTop (mkF m 38 #[.val (.int p1), .val (.int p2), .val (.int p3), .val (.int (1 : Int32)), .val (.int (0 : Int32)), .val (.int (1 : Int32)), .unset, .unset, .unset, .unset, .unset, .unset, .unset, .unset, .unset, .unset] [])) _
          refine own_st (fun _ k => XS.iload X0.here hx rfl (hb hby at_38) rfl k) ?_
          show own_Goes p e below (s₁.setTop (mkF m 40 #[.val (.int p1), .val (.int p2), .val (.int p3), .val (.int (1 : Int32)), .val (.int (0 : Int32)), .val (.int (1 : Int32)), .unset, .unset, .unset, .unset, .unset, .unset, .unset, .unset, .unset, .unset] [(.int (1 : Int32))])) _
          refine own_st (fun _ k => XS.ifNo X0.here hx rfl (hb hby at_40) rfl ((if0 _ _).trans (feq (by decide : ¬ ((1 : Int32) = (0 : Int32)))).1) k) ?_
          show own_Goes p e below (s₁.setTop (mkF m 43 #[.val (.int p1), .val (.int p2), .val (.int p3), .val (.int (1 : Int32)), .val (.int (0 : Int32)), .val (.int (1 : Int32)), .unset, .unset, .unset, .unset, .unset, .unset, .unset, .unset, .unset, .unset] [])) _
          refine own_st (fun _ k => XS.iloadN X0.here hx rfl (hb hby at_43) rfl k) ?_
          show own_Goes p e below (s₁.setTop (mkF m 44 #[.val (.int p1), .val (.int p2), .val (.int p3), .val (.int (1 : Int32)), .val (.int (0 : Int32)), .val (.int (1 : Int32)), .unset, .unset, .unset, .unset, .unset, .unset, .unset, .unset, .unset, .unset] [(.int p1)])) _
          refine own_st (fun _ k => XS.goto X0.here hx rfl (pc0 := 44) (pc' := 48) rfl (hb hby at_44) (by decide) (by decide) k) ?_
          show own_Goes p e below (s₁.setTop (mkF m 48 #[.val (.int p1), .val (.int p2), .val (.int p3), .val (.int (1 : Int32)), .val (.int (0 : Int32)), .val (.int (1 : Int32)), .unset, .unset, .unset, .unset, .unset, .unset, .unset, .unset, .unset, .unset] [(.int p1)])) _
          refine own_st (fun _ k => XS.istore X0.here hx rfl (hb hby at_48) rfl (l' := #[.val (.int p1), .val (.int p2), .val (.int p3), .val (.int (1 : Int32)), .val (.int (0 : Int32)), .val (.int (1 : Int32)), .val (.int p1), .unset, .unset, .unset, .unset, .unset, .unset, .unset, .unset, .unset]) rfl k) ?_
          show own_Goes p e below (s₁.setTop (mkF m 50 #[.val (.int p1), .val (.int p2), .val (.int p3), .val (.int (1 : Int32)), .val (.int (0 : Int32)), .val (.int (1 : Int32)), .val (.int p1), .unset, .unset, .unset, .unset, .unset, .unset, .unset, .unset, .unset] [])) _
          refine own_st (fun _ k => XS.iloadN X0.here hx rfl (hb hby at_50) rfl k) ?_
          show own_Goes p e below (s₁.setTop (mkF m 51 #[.val (.int p1), .val (.int p2), .val (.int p3), .val (.int (1 : Int32)), .val (.int (0 : Int32)), .val (.int (1 : Int32)), .val (.int p1), .unset, .unset, .unset, .unset, .unset, .unset, .unset, .unset, .unset] [(.int (1 : Int32))])) _
          refine own_st (fun _ k => XS.ifNo X0.here hx rfl (hb hby at_51) rfl ((if0 _ _).trans (feq (by decide : ¬ ((1 : Int32) = (0 : Int32)))).1) k) ?_
          show own_Goes p e below (s₁.setTop (mkF m 54 #[.val (.int p1), .val (.int p2), .val (.int p3), .val (.int (1 : Int32)), .val (.int (0 : Int32)), .val (.int (1 : Int32)), .val (.int p1), .unset, .unset, .unset, .unset, .unset, .unset, .unset, .unset, .unset] [])) _
          refine own_st (fun _ k => XS.iloadN X0.here hx rfl (hb hby at_54) rfl k) ?_
          show own_Goes p e below (s₁.setTop (mkF m 55 #[.val (.int p1), .val (.int p2), .val (.int p3), .val (.int (1 : Int32)), .val (.int (0 : Int32)), .val (.int (1 : Int32)), .val (.int p1), .unset, .unset, .unset, .unset, .unset, .unset, .unset, .unset, .unset] [(.int p1)])) _
          refine own_st (fun _ k => XT.i2l X0.here hx rfl (hb hby at_55) rfl k) ?_
          show own_Goes p e below (s₁.setTop (mkF m 56 #[.val (.int p1), .val (.int p2), .val (.int p3), .val (.int (1 : Int32)), .val (.int (0 : Int32)), .val (.int (1 : Int32)), .val (.int p1), .unset, .unset, .unset, .unset, .unset, .unset, .unset, .unset, .unset] [(.long p1.toInt64)])) _
          refine own_st (fun _ k => XT.lneg X0.here hx rfl (hb hby at_56) rfl k) ?_
          show own_Goes p e below (s₁.setTop (mkF m 57 #[.val (.int p1), .val (.int p2), .val (.int p3), .val (.int (1 : Int32)), .val (.int (0 : Int32)), .val (.int (1 : Int32)), .val (.int p1), .unset, .unset, .unset, .unset, .unset, .unset, .unset, .unset, .unset] [(.long (-p1.toInt64))])) _
          refine own_st (fun _ k => XS.goto X0.here hx rfl (pc0 := 57) (pc' := 62) rfl (hb hby at_57) (by decide) (by decide) k) ?_
          show own_Goes p e below (s₁.setTop (mkF m 62 #[.val (.int p1), .val (.int p2), .val (.int p3), .val (.int (1 : Int32)), .val (.int (0 : Int32)), .val (.int (1 : Int32)), .val (.int p1), .unset, .unset, .unset, .unset, .unset, .unset, .unset, .unset, .unset] [(.long (-p1.toInt64))])) _
          refine own_st (fun _ k => XT.lstore X0.here hx rfl (hb hby at_62) rfl (l' := #[.val (.int p1), .val (.int p2), .val (.int p3), .val (.int (1 : Int32)), .val (.int (0 : Int32)), .val (.int (1 : Int32)), .val (.int p1), .val (.long (-p1.toInt64)), .second, .unset, .unset, .unset, .unset, .unset, .unset, .unset]) rfl k) ?_
          show own_Goes p e below (s₁.setTop (mkF m 64 #[.val (.int p1), .val (.int p2), .val (.int p3), .val (.int (1 : Int32)), .val (.int (0 : Int32)), .val (.int (1 : Int32)), .val (.int p1), .val (.long (-p1.toInt64)), .second, .unset, .unset, .unset, .unset, .unset, .unset, .unset] [])) _
          refine own_st (fun _ k => XS.iload X0.here hx rfl (hb hby at_64) rfl k) ?_
          show own_Goes p e below (s₁.setTop (mkF m 66 #[.val (.int p1), .val (.int p2), .val (.int p3), .val (.int (1 : Int32)), .val (.int (0 : Int32)), .val (.int (1 : Int32)), .val (.int p1), .val (.long (-p1.toInt64)), .second, .unset, .unset, .unset, .unset, .unset, .unset, .unset] [(.int (0 : Int32))])) _
          refine own_st (fun _ k => XS.ifYes X0.here hx rfl (pc0 := 66) (pc' := 76) rfl (hb hby at_66) rfl ((if0 _ _).trans (teq (by decide : (0 : Int32) = (0 : Int32))).1) (by decide) (by decide) k) ?_
          show own_Goes p e below (s₁.setTop (mkF m 76 #[.val (.int p1), .val (.int p2), .val (.int p3), .val (.int (1 : Int32)), .val (.int (0 : Int32)), .val (.int (1 : Int32)), .val (.int p1), .val (.long (-p1.toInt64)), .second, .unset, .unset, .unset, .unset, .unset, .unset, .unset] [])) _
          refine own_st (fun _ k => XS.iload X0.here hx rfl (hb hby at_76) rfl k) ?_
          show own_Goes p e below (s₁.setTop (mkF m 78 #[.val (.int p1), .val (.int p2), .val (.int p3), .val (.int (1 : Int32)), .val (.int (0 : Int32)), .val (.int (1 : Int32)), .val (.int p1), .val (.long (-p1.toInt64)), .second, .unset, .unset, .unset, .unset, .unset, .unset, .unset] [(.int p1)])) _
          refine own_st (fun _ k => XT.i2l X0.here hx rfl (hb hby at_78) rfl k) ?_
          show own_Goes p e below (s₁.setTop (mkF m 79 #[.val (.int p1), .val (.int p2), .val (.int p3), .val (.int (1 : Int32)), .val (.int (0 : Int32)), .val (.int (1 : Int32)), .val (.int p1), .val (.long (-p1.toInt64)), .second, .unset, .unset, .unset, .unset, .unset, .unset, .unset] [(.long p1.toInt64)])) _
          refine own_st (fun _ k => XT.lstore X0.here hx rfl (hb hby at_79) rfl (l' := #[.val (.int p1), .val (.int p2), .val (.int p3), .val (.int (1 : Int32)), .val (.int (0 : Int32)), .val (.int (1 : Int32)), .val (.int p1), .val (.long (-p1.toInt64)), .second, .val (.long p1.toInt64), .second, .unset, .unset, .unset, .unset, .unset]) rfl k) ?_
          show own_Goes p e below (s₁.setTop (mkF m 81 #[.val (.int p1), .val (.int p2), .val (.int p3), .val (.int (1 : Int32)), .val (.int (0 : Int32)), .val (.int (1 : Int32)), .val (.int p1), .val (.long (-p1.toInt64)), .second, .val (.long p1.toInt64), .second, .unset, .unset, .unset, .unset, .unset] [])) _
          refine own_st (fun _ k => XS.iloadN X0.here hx rfl (hb hby at_81) rfl k) ?_
          show own_Goes p e below (s₁.setTop (mkF m 82 #[.val (.int p1), .val (.int p2), .val (.int p3), .val (.int (1 : Int32)), .val (.int (0 : Int32)), .val (.int (1 : Int32)), .val (.int p1), .val (.long (-p1.toInt64)), .second, .val (.long p1.toInt64), .second, .unset, .unset, .unset, .unset, .unset] [(.int (1 : Int32))])) _
          refine own_st (fun _ k => XS.ifNo X0.here hx rfl (hb hby at_82) rfl ((if0 _ _).trans (feq (by decide : ¬ ((1 : Int32) = (0 : Int32)))).1) k) ?_
          show own_Goes p e below (s₁.setTop (mkF m 85 #[.val (.int p1), .val (.int p2), .val (.int p3), .val (.int (1 : Int32)), .val (.int (0 : Int32)), .val (.int (1 : Int32)), .val (.int p1), .val (.long (-p1.toInt64)), .second, .val (.long p1.toInt64), .second, .unset, .unset, .unset, .unset, .unset] [])) _
          refine own_st (fun _ k => XS.iloadN X0.here hx rfl (hb hby at_85) rfl k) ?_
          show own_Goes p e below (s₁.setTop (mkF m 86 #[.val (.int p1), .val (.int p2), .val (.int p3), .val (.int (1 : Int32)), .val (.int (0 : Int32)), .val (.int (1 : Int32)), .val (.int p1), .val (.long (-p1.toInt64)), .second, .val (.long p1.toInt64), .second, .unset, .unset, .unset, .unset, .unset] [(.int p1)])) _
          refine own_st (fun _ k => own_i2d X0.here hx rfl (hb hby at_86) rfl k) ?_
          show own_Goes p e below (s₁.setTop (mkF m 87 #[.val (.int p1), .val (.int p2), .val (.int p3), .val (.int (1 : Int32)), .val (.int (0 : Int32)), .val (.int (1 : Int32)), .val (.int p1), .val (.long (-p1.toInt64)), .second, .val (.long p1.toInt64), .second, .unset, .unset, .unset, .unset, .unset] [(.double (FP.i2d p1))])) _
          refine own_st (fun _ k => own_dneg X0.here hx rfl (hb hby at_87) rfl k) ?_
          show own_Goes p e below (s₁.setTop (mkF m 88 #[.val (.int p1), .val (.int p2), .val (.int p3), .val (.int (1 : Int32)), .val (.int (0 : Int32)), .val (.int (1 : Int32)), .val (.int p1), .val (.long (-p1.toInt64)), .second, .val (.long p1.toInt64), .second, .unset, .unset, .unset, .unset, .unset] [(.double (FP.dneg (FP.i2d p1)))])) _
          refine own_st (fun _ k => XS.goto X0.here hx rfl (pc0 := 88) (pc' := 93) rfl (hb hby at_88) (by decide) (by decide) k) ?_
          show own_Goes p e below (s₁.setTop (mkF m 93 #[.val (.int p1), .val (.int p2), .val (.int p3), .val (.int (1 : Int32)), .val (.int (0 : Int32)), .val (.int (1 : Int32)), .val (.int p1), .val (.long (-p1.toInt64)), .second, .val (.long p1.toInt64), .second, .unset, .unset, .unset, .unset, .unset] [(.double (FP.dneg (FP.i2d p1)))])) _
          refine own_st (fun _ k => own_dstore X0.here hx rfl (hb hby at_93) rfl (l' := #[.val (.int p1), .val (.int p2), .val (.int p3), .val (.int (1 : Int32)), .val (.int (0 : Int32)), .val (.int (1 : Int32)), .val (.int p1), .val (.long (-p1.toInt64)), .second, .val (.long p1.toInt64), .second, .val (.double (FP.dneg (FP.i2d p1))), .second, .unset, .unset, .unset]) rfl k) ?_
          show own_Goes p e below (s₁.setTop (mkF m 95 #[.val (.int p1), .val (.int p2), .val (.int p3), .val (.int (1 : Int32)), .val (.int (0 : Int32)), .val (.int (1 : Int32)), .val (.int p1), .val (.long (-p1.toInt64)), .second, .val (.long p1.toInt64), .second, .val (.double (FP.dneg (FP.i2d p1))), .second, .unset, .unset, .unset] [])) _
          refine own_st (fun _ k => XS.iload X0.here hx rfl (hb hby at_95) rfl k) ?_
          show own_Goes p e below (s₁.setTop (mkF m 97 #[.val (.int p1), .val (.int p2), .val (.int p3), .val (.int (1 : Int32)), .val (.int (0 : Int32)), .val (.int (1 : Int32)), .val (.int p1), .val (.long (-p1.toInt64)), .second, .val (.long p1.toInt64), .second, .val (.double (FP.dneg (FP.i2d p1))), .second, .unset, .unset, .unset] [(.int (0 : Int32))])) _
          refine own_st (fun _ k => XS.ifYes X0.here hx rfl (pc0 := 97) (pc' := 107) rfl (hb hby at_97) rfl ((if0 _ _).trans (teq (by decide : (0 : Int32) = (0 : Int32))).1) (by decide) (by decide) k) ?_
          show own_Goes p e below (s₁.setTop (mkF m 107 #[.val (.int p1), .val (.int p2), .val (.int p3), .val (.int (1 : Int32)), .val (.int (0 : Int32)), .val (.int (1 : Int32)), .val (.int p1), .val (.long (-p1.toInt64)), .second, .val (.long p1.toInt64), .second, .val (.double (FP.dneg (FP.i2d p1))), .second, .unset, .unset, .unset] [])) _
          refine own_st (fun _ k => XS.iload X0.here hx rfl (hb hby at_107) rfl k) ?_
          show own_Goes p e below (s₁.setTop (mkF m 109 #[.val (.int p1), .val (.int p2), .val (.int p3), .val (.int (1 : Int32)), .val (.int (0 : Int32)), .val (.int (1 : Int32)), .val (.int p1), .val (.long (-p1.toInt64)), .second, .val (.long p1.toInt64), .second, .val (.double (FP.dneg (FP.i2d p1))), .second, .unset, .unset, .unset] [(.int p1)])) _
          refine own_st (fun _ k => own_i2d X0.here hx rfl (hb hby at_109) rfl k) ?_
          show own_Goes p e below (s₁.setTop (mkF m 110 #[.val (.int p1), .val (.int p2), .val (.int p3), .val (.int (1 : Int32)), .val (.int (0 : Int32)), .val (.int (1 : Int32)), .val (.int p1), .val (.long (-p1.toInt64)), .second, .val (.long p1.toInt64), .second, .val (.double (FP.dneg (FP.i2d p1))), .second, .unset, .unset, .unset] [(.double (FP.i2d p1))])) _
          refine own_st (fun _ k => own_dstore X0.here hx rfl (hb hby at_110) rfl (l' := #[.val (.int p1), .val (.int p2), .val (.int p3), .val (.int (1 : Int32)), .val (.int (0 : Int32)), .val (.int (1 : Int32)), .val (.int p1), .val (.long (-p1.toInt64)), .second, .val (.long p1.toInt64), .second, .val (.double (FP.dneg (FP.i2d p1))), .second, .val (.double (FP.i2d p1)), .second, .unset]) rfl k) ?_
          show own_Goes p e below (s₁.setTop (mkF m 112 #[.val (.int p1), .val (.int p2), .val (.int p3), .val (.int (1 : Int32)), .val (.int (0 : Int32)), .val (.int (1 : Int32)), .val (.int p1), .val (.long (-p1.toInt64)), .second, .val (.long p1.toInt64), .second, .val (.double (FP.dneg (FP.i2d p1))), .second, .val (.double (FP.i2d p1)), .second, .unset] [])) _
          exact J112 _ _ _ _ _ _ _ _ (own_neg p1) (own_pos p1)
      · refine own_st (fun _ k => XS.ifNo X0.here hx rfl (hb hby at_15) rfl ((if0 _ _).trans (feq hc15_110).1) k) ?_
        show own_Goes p e below (s₁.setTop (mkF m 18 #[.val (.int p1), .val (.int p2), .val (.int p3), .val (.int (1 : Int32)), .unset, .unset, .unset, .unset, .unset, .unset, .unset, .unset, .unset, .unset, .unset, .unset] [])) _
        refine own_st (fun _ k => XS.iconst X0.here hx rfl (hb hby at_18) k) ?_
        show own_Goes p e below (s₁.setTop (mkF m 19 #[.val (.int p1), .val (.int p2), .val (.int p3), .val (.int (1 : Int32)), .unset, .unset, .unset, .unset, .unset, .unset, .unset, .unset, .unset, .unset, .unset, .unset] [(.int (1 : Int32))])) _
        refine own_st (fun _ k => XS.goto X0.here hx rfl (pc0 := 19) (pc' := 23) rfl (hb hby at_19) (by decide) (by decide) k) ?_
        show own_Goes p e below (s₁.setTop (mkF m 23 #[.val (.int p1), .val (.int p2), .val (.int p3), .val (.int (1 : Int32)), .unset, .unset, .unset, .unset, .unset, .unset, .unset, .unset, .unset, .unset, .unset, .unset] [(.int (1 : Int32))])) _
        refine own_st (fun _ k => XS.istore X0.here hx rfl (hb hby at_23) rfl (l' := #[.val (.int p1), .val (.int p2), .val (.int p3), .val (.int (1 : Int32)), .val (.int (1 : Int32)), .unset, .unset, .unset, .unset, .unset, .unset, .unset, .unset, .unset, .unset, .unset]) rfl k) ?_
        show own_Goes p e below (s₁.setTop (mkF m 25 #[.val (.int p1), .val (.int p2), .val (.int p3), .val (.int (1 : Int32)), .val (.int (1 : Int32)), .unset, .unset, .unset, .unset, .unset, .unset, .unset, .unset, .unset, .unset, .unset] [])) _
        refine own_st (fun _ k => XS.iloadN X0.here hx rfl (hb hby at_25) rfl k) ?_
        show own_Goes p e below (s₁.setTop (mkF m 26 #[.val (.int p1), .val (.int p2), .val (.int p3), .val (.int (1 : Int32)), .val (.int (1 : Int32)), .unset, .unset, .unset, .unset, .unset, .unset, .unset, .unset, .unset, .unset, .unset] [(.int p3)])) _
        refine own_st (fun _ k => XS.iconst X0.here hx rfl (hb hby at_26) k) ?_
        show own_Goes p e below (s₁.setTop (mkF m 27 #[.val (.int p1), .val (.int p2), .val (.int p3), .val (.int (1 : Int32)), .val (.int (1 : Int32)), .unset, .unset, .unset, .unset, .unset, .unset, .unset, .unset, .unset, .unset, .unset] [(.int (4 : Int32)), (.int p3)])) _
        refine own_st (fun _ k => XS.iand X0.here hx rfl (hb hby at_27) rfl k) ?_
        show own_Goes p e below (s₁.setTop (mkF m 28 #[.val (.int p1), .val (.int p2), .val (.int p3), .val (.int (1 : Int32)), .val (.int (1 : Int32)), .unset, .unset, .unset, .unset, .unset, .unset, .unset, .unset, .unset, .unset, .unset] [(.int (p3 &&& (4 : Int32)))])) _
        by_cases hc28_112 : (p3 &&& (4 : Int32)) = (0 : Int32)
        · refine own_st (fun _ k => XS.ifYes X0.here hx rfl (pc0 := 28) (pc' := 35) rfl (hb hby at_28) rfl ((if0 _ _).trans (teq hc28_112).1) (by decide) (by decide) k) ?_
          show own_Goes p e below (s₁.setTop (mkF m 35 #[.val (.int p1), .val (.int p2), .val (.int p3), .val (.int (1 : Int32)), .val (.int (1 : Int32)), .unset, .unset, .unset, .unset, .unset, .unset, .unset, .unset, .unset, .unset, .unset] [])) _
          refine own_st (fun _ k => XS.iconst X0.here hx rfl (hb hby at_35) k) ?_
          show own_Goes p e below (s₁.setTop (mkF m 36 #[.val (.int p1), .val (.int p2), .val (.int p3), .val (.int (1 : Int32)), .val (.int (1 : Int32)), .unset, .unset, .unset, .unset, .unset, .unset, .unset, .unset, .unset, .unset, .unset] [(.int (0 : Int32))])) _
          refine own_st (fun _ k => XS.istore X0.here hx rfl (hb hby at_36) rfl (l' := #[.val (.int p1), .val (.int p2), .val (.int p3), .val (.int (1 : Int32)), .val (.int (1 : Int32)), .val (.int (0 : Int32)), .unset, .unset, .unset, .unset, .unset, .unset, .unset, .unset, .unset, .unset]) rfl k) ?_
          show own_Goes p e below (s₁.setTop (mkF m 38 #[.val (.int p1), .val (.int p2), .val (.int p3), .val (.int (1 : Int32)), .val (.int (1 : Int32)), .val (.int (0 : Int32)), .unset, .unset, .unset, .unset, .unset, .unset, .unset, .unset, .unset, .unset] [])) _
          refine own_st (fun _ k => XS.iload X0.here hx rfl (hb hby at_38) rfl k) ?_
          show own_Goes p e below (s₁.setTop (mkF m 40 #[.val (.int p1), .val (.int p2), .val (.int p3), .val (.int (1 : Int32)), .val (.int (1 : Int32)), .val (.int (0 : Int32)), .unset, .unset, .unset, .unset, .unset, .unset, .unset, .unset, .unset, .unset] [(.int (0 : Int32))])) _
          refine own_st (fun _ k => XS.ifYes X0.here hx rfl (pc0 := 40) (pc' := 47) rfl (hb hby at_40) rfl ((if0 _ _).trans (teq (by decide : (0 : Int32) = (0 : Int32))).1) (by decide) (by decide) k) ?_
          show own_Goes p e below (s₁.setTop (mkF m 47 #[.val (.int p1), .val (.int p2), .val (.int p3), .val (.int (1 : Int32)), .val (.int (1 : Int32)), .val (.int (0 : Int32)), .unset, .unset, .unset, .unset, .unset, .unset, .unset, .unset, .unset, .unset] [])) _
          refine own_st (fun _ k => XS.iloadN X0.here hx rfl (hb hby at_47) rfl k) ?_
          show own_Goes p e below (s₁.setTop (mkF m 48 #[.val (.int p1), .val (.int p2), .val (.int p3), .val (.int (1 : Int32)), .val (.int (1 : Int32)), .val (.int (0 : Int32)), .unset, .unset, .unset, .unset, .unset, .unset, .unset, .unset, .unset, .unset] [(.int p2)])) _
          refine own_st (fun _ k => XS.istore X0.here hx rfl (hb hby at_48) rfl (l' := #[.val (.int p1), .val (.int p2), .val (.int p3), .val (.int (1 : Int32)), .val (.int (1 : Int32)), .val (.int (0 : Int32)), .val (.int p2), .unset, .unset, .unset, .unset, .unset, .unset, .unset, .unset, .unset]) rfl k) ?_
          show own_Goes p e below (s₁.setTop (mkF m 50 #[.val (.int p1), .val (.int p2), .val (.int p3), .val (.int (1 : Int32)), .val (.int (1 : Int32)), .val (.int (0 : Int32)), .val (.int p2), .unset, .unset, .unset, .unset, .unset, .unset, .unset, .unset, .unset] [])) _
          refine own_st (fun _ k => XS.iloadN X0.here hx rfl (hb hby at_50) rfl k) ?_
          show own_Goes p e below (s₁.setTop (mkF m 51 #[.val (.int p1), .val (.int p2), .val (.int p3), .val (.int (1 : Int32)), .val (.int (1 : Int32)), .val (.int (0 : Int32)), .val (.int p2), .unset, .unset, .unset, .unset, .unset, .unset, .unset, .unset, .unset] [(.int (1 : Int32))])) _
          refine own_st (fun _ k => XS.ifNo X0.here hx rfl (hb hby at_51) rfl ((if0 _ _).trans (feq (by decide : ¬ ((1 : Int32) = (0 : Int32)))).1) k) ?_
          show own_Goes p e below (s₁.setTop (mkF m 54 #[.val (.int p1), .val (.int p2), .val (.int p3), .val (.int (1 : Int32)), .val (.int (1 : Int32)), .val (.int (0 : Int32)), .val (.int p2), .unset, .unset, .unset, .unset, .unset, .unset, .unset, .unset, .unset] [])) _
          refine own_st (fun _ k => XS.iloadN X0.here hx rfl (hb hby at_54) rfl k) ?_
          show own_Goes p e below (s₁.setTop (mkF m 55 #[.val (.int p1), .val (.int p2), .val (.int p3), .val (.int (1 : Int32)), .val (.int (1 : Int32)), .val (.int (0 : Int32)), .val (.int p2), .unset, .unset, .unset, .unset, .unset, .unset, .unset, .unset, .unset] [(.int p1)])) _
          refine own_st (fun _ k => XT.i2l X0.here hx rfl (hb hby at_55) rfl k) ?_
          show own_Goes p e below (s₁.setTop (mkF m 56 #[.val (.int p1), .val (.int p2), .val (.int p3), .val (.int (1 : Int32)), .val (.int (1 : Int32)), .val (.int (0 : Int32)), .val (.int p2), .unset, .unset, .unset, .unset, .unset, .unset, .unset, .unset, .unset] [(.long p1.toInt64)])) _
          refine own_st (fun _ k => XT.lneg X0.here hx rfl (hb hby at_56) rfl k) ?_
          show own_Goes p e below (s₁.setTop (mkF m 57 #[.val (.int p1), .val (.int p2), .val (.int p3), .val (.int (1 : Int32)), .val (.int (1 : Int32)), .val (.int (0 : Int32)), .val (.int p2), .unset, .unset, .unset, .unset, .unset, .unset, .unset, .unset, .unset] [(.long (-p1.toInt64))])) _
          refine own_st (fun _ k => XS.goto X0.here hx rfl (pc0 := 57) (pc' := 62) rfl (hb hby at_57) (by decide) (by decide) k) ?_
          show own_Goes p e below (s₁.setTop (mkF m 62 #[.val (.int p1), .val (.int p2), .val (.int p3), .val (.int (1 : Int32)), .val (.int (1 : Int32)), .val (.int (0 : Int32)), .val (.int p2), .unset, .unset, .unset, .unset, .unset, .unset, .unset, .unset, .unset] [(.long (-p1.toInt64))])) _
          refine own_st (fun _ k => XT.lstore X0.here hx rfl (hb hby at_62) rfl (l' := #[.val (.int p1), .val (.int p2), .val (.int p3), .val (.int (1 : Int32)), .val (.int (1 : Int32)), .val (.int (0 : Int32)), .val (.int p2), .val (.long (-p1.toInt64)), .second, .unset, .unset, .unset, .unset, .unset, .unset, .unset]) rfl k) ?_
          show own_Goes p e below (s₁.setTop (mkF m 64 #[.val (.int p1), .val (.int p2), .val (.int p3), .val (.int (1 : Int32)), .val (.int (1 : Int32)), .val (.int (0 : Int32)), .val (.int p2), .val (.long (-p1.toInt64)), .second, .unset, .unset, .unset, .unset, .unset, .unset, .unset] [])) _
          refine own_st (fun _ k => XS.iload X0.here hx rfl (hb hby at_64) rfl k) ?_
          show own_Goes p e below (s₁.setTop (mkF m 66 #[.val (.int p1), .val (.int p2), .val (.int p3), .val (.int (1 : Int32)), .val (.int (1 : Int32)), .val (.int (0 : Int32)), .val (.int p2), .val (.long (-p1.toInt64)), .second, .unset, .unset, .unset, .unset, .unset, .unset, .unset] [(.int (1 : Int32))])) _
          refine own_st (fun _ k => XS.ifNo X0.here hx rfl (hb hby at_66) rfl ((if0 _ _).trans (feq (by decide : ¬ ((1 : Int32) = (0 : Int32)))).1) k) ?_
          show own_Goes p e below (s₁.setTop (mkF m 69 #[.val (.int p1), .val (.int p2), .val (.int p3), .val (.int (1 : Int32)), .val (.int (1 : Int32)), .val (.int (0 : Int32)), .val (.int p2), .val (.long (-p1.toInt64)), .second, .unset, .unset, .unset, .unset, .unset, .unset, .unset] [])) _
          refine own_st (fun _ k => XS.iload X0.here hx rfl (hb hby at_69) rfl k) ?_
          show own_Goes p e below (s₁.setTop (mkF m 71 #[.val (.int p1), .val (.int p2), .val (.int p3), .val (.int (1 : Int32)), .val (.int (1 : Int32)), .val (.int (0 : Int32)), .val (.int p2), .val (.long (-p1.toInt64)), .second, .unset, .unset, .unset, .unset, .unset, .unset, .unset] [(.int p2)])) _
          refine own_st (fun _ k => XT.i2l X0.here hx rfl (hb hby at_71) rfl k) ?_
          show own_Goes p e below (s₁.setTop (mkF m 72 #[.val (.int p1), .val (.int p2), .val (.int p3), .val (.int (1 : Int32)), .val (.int (1 : Int32)), .val (.int (0 : Int32)), .val (.int p2), .val (.long (-p1.toInt64)), .second, .unset, .unset, .unset, .unset, .unset, .unset, .unset] [(.long p2.toInt64)])) _
          refine own_st (fun _ k => XT.lneg X0.here hx rfl (hb hby at_72) rfl k) ?_
          show own_Goes p e below (s₁.setTop (mkF m 73 #[.val (.int p1), .val (.int p2), .val (.int p3), .val (.int (1 : Int32)), .val (.int (1 : Int32)), .val (.int (0 : Int32)), .val (.int p2), .val (.long (-p1.toInt64)), .second, .unset, .unset, .unset, .unset, .unset, .unset, .unset] [(.long (-p2.toInt64))])) _
          refine own_st (fun _ k => XS.goto X0.here hx rfl (pc0 := 73) (pc' := 79) rfl (hb hby at_73) (by decide) (by decide) k) ?_
          show own_Goes p e below (s₁.setTop (mkF m 79 #[.val (.int p1), .val (.int p2), .val (.int p3), .val (.int (1 : Int32)), .val (.int (1 : Int32)), .val (.int (0 : Int32)), .val (.int p2), .val (.long (-p1.toInt64)), .second, .unset, .unset, .unset, .unset, .unset, .unset, .unset] [(.long (-p2.toInt64))])) _
          refine own_st (fun _ k => XT.lstore X0.here hx rfl (hb hby at_79) rfl (l' := #[.val (.int p1), .val (.int p2), .val (.int p3), .val (.int (1 : Int32)), .val (.int (1 : Int32)), .val (.int (0 : Int32)), .val (.int p2), .val (.long (-p1.toInt64)), .second, .val (.long (-p2.toInt64)), .second, .unset, .unset, .unset, .unset, .unset]) rfl k) ?_
          show own_Goes p e below (s₁.setTop (mkF m 81 #[.val (.int p1), .val (.int p2), .val (.int p3), .val (.int (1 : Int32)), .val (.int (1 : Int32)), .val (.int (0 : Int32)), .val (.int p2), .val (.long (-p1.toInt64)), .second, .val (.long (-p2.toInt64)), .second, .unset, .unset, .unset, .unset, .unset] [])) _
          refine own_st (fun _ k => XS.iloadN X0.here hx rfl (hb hby at_81) rfl k) ?_
          show own_Goes p e below (s₁.setTop (mkF m 82 #[.val (.int p1), .val (.int p2), .val (.int p3), .val (.int (1 : Int32)), .val (.int (1 : Int32)), .val (.int (0 : Int32)), .val (.int p2), .val (.long (-p1.toInt64)), .second, .val (.long (-p2.toInt64)), .second, .unset, .unset, .unset, .unset, .unset] [(.int (1 : Int32))])) _
          refine own_st (fun _ k => XS.ifNo X0.here hx rfl (hb hby at_82) rfl ((if0 _ _).trans (feq (by decide : ¬ ((1 : Int32) = (0 : Int32)))).1) k) ?_
          show own_Goes p e below (s₁.setTop (mkF m 85 #[.val (.int p1), .val (.int p2), .val (.int p3), .val (.int (1 : Int32)), .val (.int (1 : Int32)), .val (.int (0 : Int32)), .val (.int p2), .val (.long (-p1.toInt64)), .second, .val (.long (-p2.toInt64)), .second, .unset, .unset, .unset, .unset, .unset] [])) _
          refine own_st (fun _ k => XS.iloadN X0.here hx rfl (hb hby at_85) rfl k) ?_
          show own_Goes p e below (s₁.setTop (mkF m 86 #[.val (.int p1), .val (.int p2), .val (.int p3), .val (.int (1 : Int32)), .val (.int (1 : Int32)), .val (.int (0 : Int32)), .val (.int p2), .val (.long (-p1.toInt64)), .second, .val (.long (-p2.toInt64)), .second, .unset, .unset, .unset, .unset, .unset] [(.int p1)])) _
          refine own_st (fun _ k => own_i2d X0.here hx rfl (hb hby at_86) rfl k) ?_
          show own_Goes p e below (s₁.setTop (mkF m 87 #[.val (.int p1), .val (.int p2), .val (.int p3), .val (.int (1 : Int32)), .val (.int (1 : Int32)), .val (.int (0 : Int32)), .val (.int p2), .val (.long (-p1.toInt64)), .second, .val (.long (-p2.toInt64)), .second, .unset, .unset, .unset, .unset, .unset] [(.double (FP.i2d p1))])) _
          refine own_st (fun _ k => own_dneg X0.here hx rfl (hb hby at_87) rfl k) ?_
          show own_Goes p e below (s₁.setTop (mkF m 88 #[.val (.int p1), .val (.int p2), .val (.int p3), .val (.int (1 : Int32)), .val (.int (1 : Int32)), .val (.int (0 : Int32)), .val (.int p2), .val (.long (-p1.toInt64)), .second, .val (.long (-p2.toInt64)), .second, .unset, .unset, .unset, .unset, .unset] [(.double (FP.dneg (FP.i2d p1)))])) _
          refine own_st (fun _ k => XS.goto X0.here hx rfl (pc0 := 88) (pc' := 93) rfl (hb hby at_88) (by decide) (by decide) k) ?_
          show own_Goes p e below (s₁.setTop (mkF m 93 #[.val (.int p1), .val (.int p2), .val (.int p3), .val (.int (1 : Int32)), .val (.int (1 : Int32)), .val (.int (0 : Int32)), .val (.int p2), .val (.long (-p1.toInt64)), .second, .val (.long (-p2.toInt64)), .second, .unset, .unset, .unset, .unset, .unset] [(.double (FP.dneg (FP.i2d p1)))])) _
          refine own_st (fun _ k => own_dstore X0.here hx rfl (hb hby at_93) rfl (l' := #[.val (.int p1), .val (.int p2), .val (.int p3), .val (.int (1 : Int32)), .val (.int (1 : Int32)), .val (.int (0 : Int32)), .val (.int p2), .val (.long (-p1.toInt64)), .second, .val (.long (-p2.toInt64)), .second, .val (.double (FP.dneg (FP.i2d p1))), .second, .unset, .unset, .unset]) rfl k) ?_
          show own_Goes p e below (s₁.setTop (mkF m 95 #[.val (.int p1), .val (.int p2), .val (.int p3), .val (.int (1 : Int32)), .val (.int (1 : Int32)), .val (.int (0 : Int32)), .val (.int p2), .val (.long (-p1.toInt64)), .second, .val (.long (-p2.toInt64)), .second, .val (.double (FP.dneg (FP.i2d p1))), .second, .unset, .unset, .unset] [])) _
          refine own_st (fun _ k => XS.iload X0.here hx rfl (hb hby at_95) rfl k) ?_
          show own_Goes p e below (s₁.setTop (mkF m 97 #[.val (.int p1), .val (.int p2), .val (.int p3), .val (.int (1 : Int32)), .val (.int (1 : Int32)), .val (.int (0 : Int32)), .val (.int p2), .val (.long (-p1.toInt64)), .second, .val (.long (-p2.toInt64)), .second, .val (.double (FP.dneg (FP.i2d p1))), .second, .unset, .unset, .unset] [(.int (1 : Int32))])) _
          refine own_st (fun _ k => XS.ifNo X0.here hx rfl (hb hby at_97) rfl ((if0 _ _).trans (feq (by decide : ¬ ((1 : Int32) = (0 : Int32)))).1) k) ?_
          show own_Goes p e below (s₁.setTop (mkF m 100 #[.val (.int p1), .val (.int p2), .val (.int p3), .val (.int (1 : Int32)), .val (.int (1 : Int32)), .val (.int (0 : Int32)), .val (.int p2), .val (.long (-p1.toInt64)), .second, .val (.long (-p2.toInt64)), .second, .val (.double (FP.dneg (FP.i2d p1))), .second, .unset, .unset, .unset] [])) _
          refine own_st (fun _ k => XS.iload X0.here hx rfl (hb hby at_100) rfl k) ?_
          show own_Goes p e below (s₁.setTop (mkF m 102 #[.val (.int p1), .val (.int p2), .val (.int p3), .val (.int (1 : Int32)), .val (.int (1 : Int32)), .val (.int (0 : Int32)), .val (.int p2), .val (.long (-p1.toInt64)), .second, .val (.long (-p2.toInt64)), .second, .val (.double (FP.dneg (FP.i2d p1))), .second, .unset, .unset, .unset] [(.int p2)])) _
          refine own_st (fun _ k => own_i2d X0.here hx rfl (hb hby at_102) rfl k) ?_
          show own_Goes p e below (s₁.setTop (mkF m 103 #[.val (.int p1), .val (.int p2), .val (.int p3), .val (.int (1 : Int32)), .val (.int (1 : Int32)), .val (.int (0 : Int32)), .val (.int p2), .val (.long (-p1.toInt64)), .second, .val (.long (-p2.toInt64)), .second, .val (.double (FP.dneg (FP.i2d p1))), .second, .unset, .unset, .unset] [(.double (FP.i2d p2))])) _
          refine own_st (fun _ k => own_dneg X0.here hx rfl (hb hby at_103) rfl k) ?_
          show own_Goes p e below (s₁.setTop (mkF m 104 #[.val (.int p1), .val (.int p2), .val (.int p3), .val (.int (1 : Int32)), .val (.int (1 : Int32)), .val (.int (0 : Int32)), .val (.int p2), .val (.long (-p1.toInt64)), .second, .val (.long (-p2.toInt64)), .second, .val (.double (FP.dneg (FP.i2d p1))), .second, .unset, .unset, .unset] [(.double (FP.dneg (FP.i2d p2)))])) _
          refine own_st (fun _ k => XS.goto X0.here hx rfl (pc0 := 104) (pc' := 110) rfl (hb hby at_104) (by decide) (by decide) k) ?_
          show own_Goes p e below (s₁.setTop (mkF m 110 #[.val (.int p1), .val (.int p2), .val (.int p3), .val (.int (1 : Int32)), .val (.int (1 : Int32)), .val (.int (0 : Int32)), .val (.int p2), .val (.long (-p1.toInt64)), .second, .val (.long (-p2.toInt64)), .second, .val (.double (FP.dneg (FP.i2d p1))), .second, .unset, .unset, .unset] [(.double (FP.dneg (FP.i2d p2)))])) _
          refine own_st (fun _ k => own_dstore X0.here hx rfl (hb hby at_110) rfl (l' := #[.val (.int p1), .val (.int p2), .val (.int p3), .val (.int (1 : Int32)), .val (.int (1 : Int32)), .val (.int (0 : Int32)), .val (.int p2), .val (.long (-p1.toInt64)), .second, .val (.long (-p2.toInt64)), .second, .val (.double (FP.dneg (FP.i2d p1))), .second, .val (.double (FP.dneg (FP.i2d p2))), .second, .unset]) rfl k) ?_
          show own_Goes p e below (s₁.setTop (mkF m 112 #[.val (.int p1), .val (.int p2), .val (.int p3), .val (.int (1 : Int32)), .val (.int (1 : Int32)), .val (.int (0 : Int32)), .val (.int p2), .val (.long (-p1.toInt64)), .second, .val (.long (-p2.toInt64)), .second, .val (.double (FP.dneg (FP.i2d p1))), .second, .val (.double (FP.dneg (FP.i2d p2))), .second, .unset] [])) _
          exact J112 _ _ _ _ _ _ _ _ (own_neg p1) (own_neg p2)
        · refine own_st (fun _ k => XS.ifNo X0.here hx rfl (hb hby at_28) rfl ((if0 _ _).trans (feq hc28_112).1) k) ?_
          show own_Goes p e below (s₁.setTop (mkF m 31 #[.val (.int p1), .val (.int p2), .val (.int p3), .val (.int (1 : Int32)), .val (.int (1 : Int32)), .unset, .unset, .unset, .unset, .unset, .unset, .unset, .unset, .unset, .unset, .unset] [])) _
          refine own_st (fun _ k => XS.iconst X0.here hx rfl (hb hby at_31) k) ?_
          show own_Goes p e below (s₁.setTop (mkF m 32 #[.val (.int p1), .val (.int p2), .val (.int p3), .val (.int (1 : Int32)), .val (.int (1 : Int32)), .unset, .unset, .unset, .unset, .unset, .unset, .unset, .unset, .unset, .unset, .unset] [(.int (1 : Int32))])) _
          refine own_st (fun _ k => XS.goto X0.here hx rfl (pc0 := 32) (pc' := 36) rfl (hb hby at_32) (by decide) (by decide) k) ?_
          show own_Goes p e below (s₁.setTop (mkF m 36 #[.val (.int p1), .val (.int p2), .val (.int p3), .val (.int (1 : Int32)), .val (.int (1 : Int32)), .unset, .unset, .unset, .unset, .unset, .unset, .unset, .unset, .unset, .unset, .unset] [(.int (1 : Int32))])) _
          refine own_st (fun _ k => XS.istore X0.here hx rfl (hb hby at_36) rfl (l' := #[.val (.int p1), .val (.int p2), .val (.int p3), .val (.int (1 : Int32)), .val (.int (1 : Int32)), .val (.int (1 : Int32)), .unset, .unset, .unset, .unset, .unset, .unset, .unset, .unset, .unset, .unset]) rfl k) ?_
          show own_Goes p e below (s₁.setTop (mkF m 38 #[.val (.int p1), .val (.int p2), .val (.int p3), .val (.int (1 : Int32)), .val (.int (1 : Int32)), .val (.int (1 : Int32)), .unset, .unset, .unset, .unset, .unset, .unset, .unset, .unset, .unset, .unset] [])) _
          refine own_st (fun _ k => XS.iload X0.here hx rfl (hb hby at_38) rfl k) ?_
          show own_Goes p e below (s₁.setTop (mkF m 40 #[.val (.int p1), .val (.int p2), .val (.int p3), .val (.int (1 : Int32)), .val (.int (1 : Int32)), .val (.int (1 : Int32)), .unset, .unset, .unset, .unset, .unset, .unset, .unset, .unset, .unset, .unset] [(.int (1 : Int32))])) _
          refine own_st (fun _ k => XS.ifNo X0.here hx rfl (hb hby at_40) rfl ((if0 _ _).trans (feq (by decide : ¬ ((1 : Int32) = (0 : Int32)))).1) k) ?_
          show own_Goes p e below (s₁.setTop (mkF m 43 #[.val (.int p1), .val (.int p2), .val (.int p3), .val (.int (1 : Int32)), .val (.int (1 : Int32)), .val (.int (1 : Int32)), .unset, .unset, .unset, .unset, .unset, .unset, .unset, .unset, .unset, .unset] [])) _
          refine own_st (fun _ k => XS.iloadN X0.here hx rfl (hb hby at_43) rfl k) ?_
          show own_Goes p e below (s₁.setTop (mkF m 44 #[.val (.int p1), .val (.int p2), .val (.int p3), .val (.int (1 : Int32)), .val (.int (1 : Int32)), .val (.int (1 : Int32)), .unset, .unset, .unset, .unset, .unset, .unset, .unset, .unset, .unset, .unset] [(.int p1)])) _
          refine own_st (fun _ k => XS.goto X0.here hx rfl (pc0 := 44) (pc' := 48) rfl (hb hby at_44) (by decide) (by decide) k) ?_
          show own_Goes p e below (s₁.setTop (mkF m 48 #[.val (.int p1), .val (.int p2), .val (.int p3), .val (.int (1 : Int32)), .val (.int (1 : Int32)), .val (.int (1 : Int32)), .unset, .unset, .unset, .unset, .unset, .unset, .unset, .unset, .unset, .unset] [(.int p1)])) _
          refine own_st (fun _ k => XS.istore X0.here hx rfl (hb hby at_48) rfl (l' := #[.val (.int p1), .val (.int p2), .val (.int p3), .val (.int (1 : Int32)), .val (.int (1 : Int32)), .val (.int (1 : Int32)), .val (.int p1), .unset, .unset, .unset, .unset, .unset, .unset, .unset, .unset, .unset]) rfl k) ?_
          show own_Goes p e below (s₁.setTop (mkF m 50 #[.val (.int p1), .val (.int p2), .val (.int p3), .val (.int (1 : Int32)), .val (.int (1 : Int32)), .val (.int (1 : Int32)), .val (.int p1), .unset, .unset, .unset, .unset, .unset, .unset, .unset, .unset, .unset] [])) _
          refine own_st (fun _ k => XS.iloadN X0.here hx rfl (hb hby at_50) rfl k) ?_
          show own_Goes p e below (s₁.setTop (mkF m 51 #[.val (.int p1), .val (.int p2), .val (.int p3), .val (.int (1 : Int32)), .val (.int (1 : Int32)), .val (.int (1 : Int32)), .val (.int p1), .unset, .unset, .unset, .unset, .unset, .unset, .unset, .unset, .unset] [(.int (1 : Int32))])) _
          refine own_st (fun _ k => XS.ifNo X0.here hx rfl (hb hby at_51) rfl ((if0 _ _).trans (feq (by decide : ¬ ((1 : Int32) = (0 : Int32)))).1) k) ?_
          show own_Goes p e below (s₁.setTop (mkF m 54 #[.val (.int p1), .val (.int p2), .val (.int p3), .val (.int (1 : Int32)), .val (.int (1 : Int32)), .val (.int (1 : Int32)), .val (.int p1), .unset, .unset, .unset, .unset, .unset, .unset, .unset, .unset, .unset] [])) _
          refine own_st (fun _ k => XS.iloadN X0.here hx rfl (hb hby at_54) rfl k) ?_
          show own_Goes p e below (s₁.setTop (mkF m 55 #[.val (.int p1), .val (.int p2), .val (.int p3), .val (.int (1 : Int32)), .val (.int (1 : Int32)), .val (.int (1 : Int32)), .val (.int p1), .unset, .unset, .unset, .unset, .unset, .unset, .unset, .unset, .unset] [(.int p1)])) _
          refine own_st (fun _ k => XT.i2l X0.here hx rfl (hb hby at_55) rfl k) ?_
          show own_Goes p e below (s₁.setTop (mkF m 56 #[.val (.int p1), .val (.int p2), .val (.int p3), .val (.int (1 : Int32)), .val (.int (1 : Int32)), .val (.int (1 : Int32)), .val (.int p1), .unset, .unset, .unset, .unset, .unset, .unset, .unset, .unset, .unset] [(.long p1.toInt64)])) _
          refine own_st (fun _ k => XT.lneg X0.here hx rfl (hb hby at_56) rfl k) ?_
          show own_Goes p e below (s₁.setTop (mkF m 57 #[.val (.int p1), .val (.int p2), .val (.int p3), .val (.int (1 : Int32)), .val (.int (1 : Int32)), .val (.int (1 : Int32)), .val (.int p1), .unset, .unset, .unset, .unset, .unset, .unset, .unset, .unset, .unset] [(.long (-p1.toInt64))])) _
          refine own_st (fun _ k => XS.goto X0.here hx rfl (pc0 := 57) (pc' := 62) rfl (hb hby at_57) (by decide) (by decide) k) ?_
          show own_Goes p e below (s₁.setTop (mkF m 62 #[.val (.int p1), .val (.int p2), .val (.int p3), .val (.int (1 : Int32)), .val (.int (1 : Int32)), .val (.int (1 : Int32)), .val (.int p1), .unset, .unset, .unset, .unset, .unset, .unset, .unset, .unset, .unset] [(.long (-p1.toInt64))])) _
          refine own_st (fun _ k => XT.lstore X0.here hx rfl (hb hby at_62) rfl (l' := #[.val (.int p1), .val (.int p2), .val (.int p3), .val (.int (1 : Int32)), .val (.int (1 : Int32)), .val (.int (1 : Int32)), .val (.int p1), .val (.long (-p1.toInt64)), .second, .unset, .unset, .unset, .unset, .unset, .unset, .unset]) rfl k) ?_
          show own_Goes p e below (s₁.setTop (mkF m 64 #[.val (.int p1), .val (.int p2), .val (.int p3), .val (.int (1 : Int32)), .val (.int (1 : Int32)), .val (.int (1 : Int32)), .val (.int p1), .val (.long (-p1.toInt64)), .second, .unset, .unset, .unset, .unset, .unset, .unset, .unset] [])) _
          refine own_st (fun _ k => XS.iload X0.here hx rfl (hb hby at_64) rfl k) ?_
          show own_Goes p e below (s₁.setTop (mkF m 66 #[.val (.int p1), .val (.int p2), .val (.int p3), .val (.int (1 : Int32)), .val (.int (1 : Int32)), .val (.int (1 : Int32)), .val (.int p1), .val (.long (-p1.toInt64)), .second, .unset, .unset, .unset, .unset, .unset, .unset, .unset] [(.int (1 : Int32))])) _
          refine own_st (fun _ k => XS.ifNo X0.here hx rfl (hb hby at_66) rfl ((if0 _ _).trans (feq (by decide : ¬ ((1 : Int32) = (0 : Int32)))).1) k) ?_
          show own_Goes p e below (s₁.setTop (mkF m 69 #[.val (.int p1), .val (.int p2), .val (.int p3), .val (.int (1 : Int32)), .val (.int (1 : Int32)), .val (.int (1 : Int32)), .val (.int p1), .val (.long (-p1.toInt64)), .second, .unset, .unset, .unset, .unset, .unset, .unset, .unset] [])) _
          refine own_st (fun _ k => XS.iload X0.here hx rfl (hb hby at_69) rfl k) ?_
          show own_Goes p e below (s₁.setTop (mkF m 71 #[.val (.int p1), .val (.int p2), .val (.int p3), .val (.int (1 : Int32)), .val (.int (1 : Int32)), .val (.int (1 : Int32)), .val (.int p1), .val (.long (-p1.toInt64)), .second, .unset, .unset, .unset, .unset, .unset, .unset, .unset] [(.int p1)])) _
          refine own_st (fun _ k => XT.i2l X0.here hx rfl (hb hby at_71) rfl k) ?_
          show own_Goes p e below (s₁.setTop (mkF m 72 #[.val (.int p1), .val (.int p2), .val (.int p3), .val (.int (1 : Int32)), .val (.int (1 : Int32)), .val (.int (1 : Int32)), .val (.int p1), .val (.long (-p1.toInt64)), .second, .unset, .unset, .unset, .unset, .unset, .unset, .unset] [(.long p1.toInt64)])) _
          refine own_st (fun _ k => XT.lneg X0.here hx rfl (hb hby at_72) rfl k) ?_
          show own_Goes p e below (s₁.setTop (mkF m 73 #[.val (.int p1), .val (.int p2), .val (.int p3), .val (.int (1 : Int32)), .val (.int (1 : Int32)), .val (.int (1 : Int32)), .val (.int p1), .val (.long (-p1.toInt64)), .second, .unset, .unset, .unset, .unset, .unset, .unset, .unset] [(.long (-p1.toInt64))])) _
          refine own_st (fun _ k => XS.goto X0.here hx rfl (pc0 := 73) (pc' := 79) rfl (hb hby at_73) (by decide) (by decide) k) ?_
          show own_Goes p e below (s₁.setTop (mkF m 79 #[.val (.int p1), .val (.int p2), .val (.int p3), .val (.int (1 : Int32)), .val (.int (1 : Int32)), .val (.int (1 : Int32)), .val (.int p1), .val (.long (-p1.toInt64)), .second, .unset, .unset, .unset, .unset, .unset, .unset, .unset] [(.long (-p1.toInt64))])) _
          refine own_st (fun _ k => XT.lstore X0.here hx rfl (hb hby at_79) rfl (l' := #[.val (.int p1), .val (.int p2), .val (.int p3), .val (.int (1 : Int32)), .val (.int (1 : Int32)), .val (.int (1 : Int32)), .val (.int p1), .val (.long (-p1.toInt64)), .second, .val (.long (-p1.toInt64)), .second, .unset, .unset, .unset, .unset, .unset]) rfl k) ?_
          show own_Goes p e below (s₁.setTop (mkF m 81 #[.val (.int p1), .val (.int p2), .val (.int p3), .val (.int (1 : Int32)), .val (.int (1 : Int32)), .val (.int (1 : Int32)), .val (.int p1), .val (.long (-p1.toInt64)), .second, .val (.long (-p1.toInt64)), .second, .unset, .unset, .unset, .unset, .unset] [])) _
          refine own_st (fun _ k => XS.iloadN X0.here hx rfl (hb hby at_81) rfl k) ?_
          show own_Goes p e below (s₁.setTop (mkF m 82 #[.val (.int p1), .val (.int p2), .val (.int p3), .val (.int (1 : Int32)), .val (.int (1 : Int32)), .val (.int (1 : Int32)), .val (.int p1), .val (.long (-p1.toInt64)), .second, .val (.long (-p1.toInt64)), .second, .unset, .unset, .unset, .unset, .unset] [(.int (1 : Int32))])) _
          refine own_st (fun _ k => XS.ifNo X0.here hx rfl (hb hby at_82) rfl ((if0 _ _).trans (feq (by decide : ¬ ((1 : Int32) = (0 : Int32)))).1) k) ?_
          show own_Goes p e below (s₁.setTop (mkF m 85 #[.val (.int p1), .val (.int p2), .val (.int p3), .val (.int (1 : Int32)), .val (.int (1 : Int32)), .val (.int (1 : Int32)), .val (.int p1), .val (.long (-p1.toInt64)), .second, .val (.long (-p1.toInt64)), .second, .unset, .unset, .unset, .unset, .unset] [])) _
          refine own_st (fun _ k => XS.iloadN X0.here hx rfl (hb hby at_85) rfl k) ?_
          show own_Goes p e below (s₁.setTop (mkF m 86 #[.val (.int p1), .val (.int p2), .val (.int p3), .val (.int (1 : Int32)), .val (.int (1 : Int32)), .val (.int (1 : Int32)), .val (.int p1), .val (.long (-p1.toInt64)), .second, .val (.long (-p1.toInt64)), .second, .unset, .unset, .unset, .unset, .unset] [(.int p1)])) _
          refine own_st (fun _ k => own_i2d X0.here hx rfl (hb hby at_86) rfl k) ?_
          show own_Goes p e below (s₁.setTop (mkF m 87 #[.val (.int p1), .val (.int p2), .val (.int p3), .val (.int (1 : Int32)), .val (.int (1 : Int32)), .val (.int (1 : Int32)), .val (.int p1), .val (.long (-p1.toInt64)), .second, .val (.long (-p1.toInt64)), .second, .unset, .unset, .unset, .unset, .unset] [(.double (FP.i2d p1))])) _
          refine own_st (fun _ k => own_dneg X0.here hx rfl (hb hby at_87) rfl k) ?_
          show own_Goes p e below (s₁.setTop (mkF m 88 #[.val (.int p1), .val (.int p2), .val (.int p3), .val (.int (1 : Int32)), .val (.int (1 : Int32)), .val (.int (1 : Int32)), .val (.int p1), .val (.long (-p1.toInt64)), .second, .val (.long (-p1.toInt64)), .second, .unset, .unset, .unset, .unset, .unset] [(.double (FP.dneg (FP.i2d p1)))])) _
          refine own_st (fun _ k => XS.goto X0.here hx rfl (pc0 := 88) (pc' := 93) rfl (hb hby at_88) (by decide) (by decide) k) ?_
          show own_Goes p e below (s₁.setTop (mkF m 93 #[.val (.int p1), .val (.int p2), .val (.int p3), .val (.int (1 : Int32)), .val (.int (1 : Int32)), .val (.int (1 : Int32)), .val (.int p1), .val (.long (-p1.toInt64)), .second, .val (.long (-p1.toInt64)), .second, .unset, .unset, .unset, .unset, .unset] [(.double (FP.dneg (FP.i2d p1)))])) _
          refine own_st (fun _ k => own_dstore X0.here hx rfl (hb hby at_93) rfl (l' := #[.val (.int p1), .val (.int p2), .val (.int p3), .val (.int (1 : Int32)), .val (.int (1 : Int32)), .val (.int (1 : Int32)), .val (.int p1), .val (.long (-p1.toInt64)), .second, .val (.long (-p1.toInt64)), .second, .val (.double (FP.dneg (FP.i2d p1))), .second, .unset, .unset, .unset]) rfl k) ?_
          show own_Goes p e below (s₁.setTop (mkF m 95 #[.val (.int p1), .val (.int p2), .val (.int p3), .val (.int (1 : Int32)), .val (.int (1 : Int32)), .val (.int (1 : Int32)), .val (.int p1), .val (.long (-p1.toInt64)), .second, .val (.long (-p1.toInt64)), .second, .val (.double (FP.dneg (FP.i2d p1))), .second, .unset, .unset, .unset] [])) _
          refine own_st (fun _ k => XS.iload X0.here hx rfl (hb hby at_95) rfl k) ?_
          show own_Goes p e below (s₁.setTop (mkF m 97 #[.val (.int p1), .val (.int p2), .val (.int p3), .val (.int (1 : Int32)), .val (.int (1 : Int32)), .val (.int (1 : Int32)), .val (.int p1), .val (.long (-p1.toInt64)), .second, .val (.long (-p1.toInt64)), .second, .val (.double (FP.dneg (FP.i2d p1))), .second, .unset, .unset, .unset] [(.int (1 : Int32))])) _
          refine own_st (fun _ k => XS.ifNo X0.here hx rfl (hb hby at_97) rfl ((if0 _ _).trans (feq (by decide : ¬ ((1 : Int32) = (0 : Int32)))).1) k) ?_
          show own_Goes p e below (s₁.setTop (mkF m 100 #[.val (.int p1), .val (.int p2), .val (.int p3), .val (.int (1 : Int32)), .val (.int (1 : Int32)), .val (.int (1 : Int32)), .val (.int p1), .val (.long (-p1.toInt64)), .second, .val (.long (-p1.toInt64)), .second, .val (.double (FP.dneg (FP.i2d p1))), .second, .unset, .unset, .unset] [])) _
          refine own_st (fun _ k => XS.iload X0.here hx rfl (hb hby at_100) rfl k) ?_
          show own_Goes p e below (s₁.setTop (mkF m 102 #[.val (.int p1), .val (.int p2), .val (.int p3), .val (.int (1 : Int32)), .val (.int (1 : Int32)), .val (.int (1 : Int32)), .val (.int p1), .val (.long (-p1.toInt64)), .second, .val (.long (-p1.toInt64)), .second, .val (.double (FP.dneg (FP.i2d p1))), .second, .unset, .unset, .unset] [(.int p1)])) _
          refine own_st (fun _ k => own_i2d X0.here hx rfl (hb hby at_102) rfl k) ?_
          show own_Goes p e below (s₁.setTop (mkF m 103 #[.val (.int p1), .val (.int p2), .val (.int p3), .val (.int (1 : Int32)), .val (.int (1 : Int32)), .val (.int (1 : Int32)), .val (.int p1), .val (.long (-p1.toInt64)), .second, .val (.long (-p1.toInt64)), .second, .val (.double (FP.dneg (FP.i2d p1))), .second, .unset, .unset, .unset] [(.double (FP.i2d p1))])) _
          refine own_st (fun _ k => own_dneg X0.here hx rfl (hb hby at_103) rfl k) ?_
          show own_Goes p e below (s₁.setTop (mkF m 104 #[.val (.int p1), .val (.int p2), .val (.int p3), .val (.int (1 : Int32)), .val (.int (1 : Int32)), .val (.int (1 : Int32)), .val (.int p1), .val (.long (-p1.toInt64)), .second, .val (.long (-p1.toInt64)), .second, .val (.double (FP.dneg (FP.i2d p1))), .second, .unset, .unset, .unset] [(.double (FP.dneg (FP.i2d p1)))])) _
          refine own_st (fun _ k => XS.goto X0.here hx rfl (pc0 := 104) (pc' := 110) rfl (hb hby at_104) (by decide) (by decide) k) ?_
          show own_Goes p e below (s₁.setTop (mkF m 110 #[.val (.int p1), .val (.int p2), .val (.int p3), .val (.int (1 : Int32)), .val (.int (1 : Int32)), .val (.int (1 : Int32)), .val (.int p1), .val (.long (-p1.toInt64)), .second, .val (.long (-p1.toInt64)), .second, .val (.double (FP.dneg (FP.i2d p1))), .second, .unset, .unset, .unset] [(.double (FP.dneg (FP.i2d p1)))])) _
          refine own_st (fun _ k => own_dstore X0.here hx rfl (hb hby at_110) rfl (l' := #[.val (.int p1), .val (.int p2), .val (.int p3), .val (.int (1 : Int32)), .val (.int (1 : Int32)), .val (.int (1 : Int32)), .val (.int p1), .val (.long (-p1.toInt64)), .second, .val (.long (-p1.toInt64)), .second, .val (.double (FP.dneg (FP.i2d p1))), .second, .val (.double (FP.dneg (FP.i2d p1))), .second, .unset]) rfl k) ?_
          show own_Goes p e below (s₁.setTop (mkF m 112 #[.val (.int p1), .val (.int p2), .val (.int p3), .val (.int (1 : Int32)), .val (.int (1 : Int32)), .val (.int (1 : Int32)), .val (.int p1), .val (.long (-p1.toInt64)), .second, .val (.long (-p1.toInt64)), .second, .val (.double (FP.dneg (FP.i2d p1))), .second, .val (.double (FP.dneg (FP.i2d p1))), .second, .unset] [])) _
          exact J112 _ _ _ _ _ _ _ _ (own_neg p1) (own_neg p1)
set_option maxRecDepth 65536 in
set_option maxHeartbeats 40000000 in
theorem comes_1 {Post : Tables → Env → Array Value → State → Outcome → State → Prop} (hpost : ∀ tb e args s v u, (limb_1_1.after args s (.returned v) u = true ∧ limb_1_2.after args s (.returned v) u = true ∧ True) → FrameEnd s (.returned v) u (Jvm.fieldLocs frame_1_writes args s ++ Jvm.arrayLocs frame_1_arrays args s ++ Jvm.staticLocs frame_1_statics s) 0 0 → Post tb e args s (.returned v) u) :
    ArmFor flags0 classFile x code maxLocals ret World_1 tables_1 room_1 Calls_1 rest_1 Pre_1 Post := by
  intro l hfl _ _ p e ha hc hk s m args below hf hA hF happ hP
  obtain ⟨hcalls, hrest, hpre⟩ := hP
  obtain ⟨-, -, -, hnamed, -, -, -, hat⟩ := (Spec.applies_iff hf).mp happ
  obtain ⟨hg, hn⟩ := and_e (Cond.before_iff.mp (show (Jvm.Cond.and given_1 narrow_1).before args s = true from hpre))
  obtain ⟨hcount, g0⟩ := and_e hg
  obtain ⟨q0, g1⟩ := and_e g0
  obtain ⟨q1, g2⟩ := and_e g1
  have q2 := g2
  obtain ⟨w0, w1, w2, rfl⟩ : ∃ w0 w1 w2 : Value, args = #[w0, w1, w2] := by
    have hs : args.size = 3 := by simpa [Cond.value, given_1] using hcount
    obtain ⟨L⟩ := args
    match L, hs with
    | [w0, w1, w2], _ => exact ⟨w0, w1, w2, rfl⟩
  obtain ⟨i0, ei0⟩ := is_v q0
  obtain rfl : w0 = (.int i0) := Option.some.inj ei0
  obtain ⟨i1, ei1⟩ := is_v q1
  obtain rfl : w1 = (.int i1) := Option.some.inj ei1
  obtain ⟨i2, ei2⟩ := is_v q2
  obtain rfl : w2 = (.int i2) := Option.some.inj ei2
  have hw := fun d (hd : d ∈ tables_1) => atoms_spec (ws := Jvm.Cond.code x code maxLocals ret :: tables_1) hat d (List.mem_cons_of_mem _ hd)
  have hfit : Fit s := fun {y c} hc i hi => by
    obtain ⟨ha, rfl⟩ := Array.getElem?_eq_some_iff.mp hc
    have q := List.all_eq_true.mp ((Array.all_eq_true_iff_forall_mem.mp hF) _ (Array.getElem_mem ha)) i (List.mem_range.mpr hi)
    simpa [Array.getElem?_eq_getElem hi] using q
  obtain ⟨n, o, h1, h2, h3, _, L, rfl, ⟨rfl, N⟩, hq⟩ := rm0 l s _ hw tables_1 i0 i1 i2 s.heap s.heap.size (Nat.le_refl _)  p e ha hc hk s m _ below hf ((Spec.applies_iff_loose hf).mp happ).1 ⟨rfl, State.Warmed39.refl s, rfl⟩ trivial
  refine ⟨n, _, h1, h2, h3, hpost _ _ _ _ _ _ ⟨Cond.after_iff.mpr rfl, Cond.after_iff.mpr (eq_i res_at (Term.int_eval (1)) rfl), trivial⟩ ⟨hq.1, hq.2.1, (hq.2.2.sift fun y hy => Or.inr (N y hy)).mono (by decide) (by decide)⟩⟩
theorem main_1_1 : Claimed_1_1 := comes_1 fun _ _ _ _ _ _ h hF => ⟨h.1, hF⟩
theorem main_1_2 : Claimed_1_2 := comes_1 fun _ _ _ _ _ _ h hF => ⟨h.2.1, hF⟩
end Jvm.Pilot.@@N@@
namespace Jvm.Pilot.@@N@@
open Jvm Jvm.ClassFile Sem Op Lib Jvm.Free Jvm.Stand Jvm.Pilot.@@N@@.Jvm.D
/-! MADE BY PROGRAM (witnessworld.py) out of the Statement's table words and the real class files: 9 classes; the members and pool entries that the words name. The judged class is class 1, her method 1. -/
namespace start1
open Jvm.ClassFile
def u (s : String) : CpInfo := .utf8 (stringToUtf16 s)
/-- a pool by its gaps: so many unusable entries, then the entry; so many at the end -/
def gap : Nat → List CpInfo → List CpInfo
  | 0, r => r
  | n + 1, r => .unusable :: gap n r
def poolList (es : List (Nat × CpInfo)) (last : Nat) : List CpInfo := es.foldr (fun e r => gap e.1 (e.2 :: r)) (gap last [])
def pool (es : List (Nat × CpInfo)) (last : Nat) : Array CpInfo := ⟨poolList es last⟩
def fileOf (pool : Array CpInfo) (this : Nat) (attrs : Array Attribute := #[]) (ms : Array MethodInfo := #[]) (fl : Nat := 33) (sup : Nat := 0) (ifs : Array Nat := #[]) (fds : Array FieldInfo := #[]) : ClassFile where
  minorVersion := 0
  majorVersion := 65
  constantPool := pool
  accessFlags := fl
  thisClass := this
  superClass := sup
  interfaces := ifs
  fields := fds
  methods := ms
  attributes := attrs
def plain (name : String) (sup : Option ClassId) : Class where
  name := name
  kind := .ordinary
  loader := none
  accessFlags := 33
  super := sup
  interfaces := #[]
  cf := none
  fields := #[]
  methods := #[]
  instanceTypes := #[]
  staticTypes := #[]
  resolved := #[]
  callSites := []
  init := .initialized
  statics := none
  mirror := none

def pool0 : Array CpInfo := pool [(5, u "<init>"), (0, u "()V"), (1, .class_ 10), (1, u "java/lang/Object")] 113

def k0m0 : Method := { name := "<init>", desc := "()V", sig := { parameters := [], returnType := none }, accessFlags := 1, code := none }
/-- java/lang/Object -/
def k0 : Class := { plain "java/lang/Object" none with
  accessFlags := 33
  interfaces := #[]
  cf := some (fileOf pool0 8 #[] #[{ accessFlags := 1, nameIndex := 5, descriptorIndex := 6, attributes := #[] }] 33 0 #[] #[])
  fields := #[]
  methods := #[k0m0]
  instanceTypes := #[]
  staticTypes := #[]
  resolved := Array.replicate 124 none
  statics := none }

def pool1 : Array CpInfo := pool [(2, .class_ 4), (1, u "java/lang/Object"), (0, u "<init>"), (0, u "()V"), (0, .methodref 8 9), (0, .class_ 10), (0, .nameAndType 11 12), (0, u "com/example/undo_chain/undochain/sql/FloatingPoint"), (0, u "compare"), (0, u "(DD)I"), (0, .class_ 14), (0, u "com/example/undo_chain/undochain/sql/FloatingPointComparePinLaw"), (2, u "law"), (0, u "(III)Z")] 3

def k1m0 : Method := { name := "<init>", desc := "()V", sig := { parameters := [], returnType := none }, accessFlags := 1, code := none }
def k1c1 : Code := { maxStack := 4, maxLocals := 16, code := code, exceptionTable := #[], attributes := #[] }
def k1m1 : Method := { name := "law", desc := "(III)Z", sig := { parameters := [.int, .int, .int], returnType := some .boolean }, accessFlags := 9, code := some k1c1 }
/-- com/example/undo_chain/undochain/sql/FloatingPointComparePinLaw -/
def k1 : Class := { plain "com/example/undo_chain/undochain/sql/FloatingPointComparePinLaw" (some 0) with
  accessFlags := 49
  interfaces := #[]
  cf := some (fileOf pool1 13 #[] #[{ accessFlags := 1, nameIndex := 5, descriptorIndex := 6, attributes := #[] }, { accessFlags := 9, nameIndex := 17, descriptorIndex := 18, attributes := #[] }] 49 2 #[] #[])
  fields := #[]
  methods := #[k1m0, k1m1]
  instanceTypes := #[]
  staticTypes := #[]
  resolved := Array.replicate 22 none
  statics := none }

def pool2 : Array CpInfo := pool [(2, .class_ 4), (1, u "java/lang/Object"), (0, u "<init>"), (0, u "()V"), (30, .class_ 39), (1, u "com/example/undo_chain/undochain/sql/FloatingPoint"), (34, u "FLOAT_ROUNDING"), (0, u "Ljava/math/MathContext;"), (85, u "FLOAT_BITS"), (0, u "I"), (2, u "DOUBLE_BITS"), (1, u "FLOAT_DIGITS"), (1, u "MOST_DOUBLE_DIGITS"), (1, u "LOWEST_PLAIN_POWER"), (1, u "HIGHEST_PLAIN_POWER"), (6, u "compare"), (0, u "(DD)I")] 22

def k2m0 : Method := { name := "<init>", desc := "()V", sig := { parameters := [], returnType := none }, accessFlags := 2, code := none }
def k2c1 : Code := { maxStack := 4, maxLocals := 5, code := prog_204_method_3_code, exceptionTable := #[], attributes := #[] }
def k2m1 : Method := { name := "compare", desc := "(DD)I", sig := { parameters := [.double, .double], returnType := some .int }, accessFlags := 8, code := some k2c1 }
/-- com/example/undo_chain/undochain/sql/FloatingPoint -/
def k2 : Class := { plain "com/example/undo_chain/undochain/sql/FloatingPoint" (some 0) with
  accessFlags := 48
  interfaces := #[]
  cf := some (fileOf pool2 37 #[] #[{ accessFlags := 2, nameIndex := 5, descriptorIndex := 6, attributes := #[] }, { accessFlags := 8, nameIndex := 180, descriptorIndex := 181, attributes := #[] }] 48 2 #[] #[{ accessFlags := 24, nameIndex := 161, descriptorIndex := 162, attributes := #[] }, { accessFlags := 24, nameIndex := 165, descriptorIndex := 162, attributes := #[] }, { accessFlags := 24, nameIndex := 167, descriptorIndex := 162, attributes := #[] }, { accessFlags := 26, nameIndex := 169, descriptorIndex := 162, attributes := #[] }, { accessFlags := 26, nameIndex := 171, descriptorIndex := 162, attributes := #[] }, { accessFlags := 26, nameIndex := 173, descriptorIndex := 162, attributes := #[] }, { accessFlags := 26, nameIndex := 74, descriptorIndex := 75, attributes := #[] }])
  fields := #[{ name := "FLOAT_BITS", type := .int, accessFlags := 24, slot := 0, constantValue := 0 }, { name := "DOUBLE_BITS", type := .int, accessFlags := 24, slot := 1, constantValue := 0 }, { name := "FLOAT_DIGITS", type := .int, accessFlags := 24, slot := 2, constantValue := 0 }, { name := "MOST_DOUBLE_DIGITS", type := .int, accessFlags := 26, slot := 3, constantValue := 0 }, { name := "LOWEST_PLAIN_POWER", type := .int, accessFlags := 26, slot := 4, constantValue := 0 }, { name := "HIGHEST_PLAIN_POWER", type := .int, accessFlags := 26, slot := 5, constantValue := 0 }, { name := "FLOAT_ROUNDING", type := (.object "java/math/MathContext"), accessFlags := 26, slot := 6, constantValue := 0 }]
  methods := #[k2m0, k2m1]
  instanceTypes := #[]
  staticTypes := #[.int, .int, .int, .int, .int, .int, (.object "java/math/MathContext")]
  resolved := Array.replicate 204 none
  statics := none }

def pool3 : Array CpInfo := pool [(1, u "java/lang/Cloneable"), (0, .class_ 1), (0, u "java/lang/Object"), (0, .class_ 3)] 3

/-- java/lang/Cloneable -/
def k3 : Class := { plain "java/lang/Cloneable" (some 0) with
  accessFlags := 1537
  interfaces := #[]
  cf := some (fileOf pool3 2 #[] #[] 1537 4 #[] #[])
  fields := #[]
  methods := #[]
  instanceTypes := #[]
  staticTypes := #[]
  resolved := Array.replicate 8 none
  statics := none }

def pool4 : Array CpInfo := pool [(1, u "java/io/Serializable"), (0, .class_ 1), (0, u "java/lang/Object"), (0, .class_ 3)] 3

/-- java/io/Serializable -/
def k4 : Class := { plain "java/io/Serializable" (some 0) with
  accessFlags := 1537
  interfaces := #[]
  cf := some (fileOf pool4 2 #[] #[] 1537 4 #[] #[])
  fields := #[]
  methods := #[]
  instanceTypes := #[]
  staticTypes := #[]
  resolved := Array.replicate 8 none
  statics := none }

/-- the primitive byte -/
def k5 : Class := { plain "byte" none with kind := .primitive 'B', accessFlags := 0x411 }
/-- [B -/
def k6 : Class := { plain "[B" (some 0) with kind := .array 5 .byte, interfaces := #[3, 4], accessFlags := 1041 }

/-- the primitive int -/
def k7 : Class := { plain "int" none with kind := .primitive 'I', accessFlags := 0x411 }
/-- [I -/
def k8 : Class := { plain "[I" (some 0) with kind := .array 7 .int, interfaces := #[3, 4], accessFlags := 1041 }

def heap : Heap := #[]
def classes : Array Class := #[k0, k1, k2, k3, k4, k5, k6, k7, k8]
def interned : List (Array UInt16 × Addr) := []
def slotsUsed : Nat := 0
def theMethod : MethodId := ⟨1, 1⟩
def args0 : Array Value := #[.int 5, .int 7, .int 3]
def aboutOver (below : List Frame) : State where
  vm := { classes := classes, interned := interned.toArray }
  heap := heap
  slotsUsed := slotsUsed
  threads := #[{ frames := .invoking theMethod args0 :: below }]
def below0 : List Frame := [.native { method := ⟨0, 0⟩, args := #[] }]
def about1 : State := aboutOver below0
def p0 : Program := .bare "" "" ""
def e0 : Env := launch0.env 0 0 0
theorem w_frames : about1.frames = Frame.invoking theMethod args0 :: below0 := rfl
set_option maxRecDepth 65536 in
theorem w_args : argsFit about1.vm theMethod args0 = true := by decide +kernel
set_option maxRecDepth 65536 in
theorem w_heap : heapFits about1 = true := by decide +kernel
set_option maxRecDepth 65536 in
theorem w_runnable : about1.curStatus? = some .runnable := by decide +kernel
set_option maxRecDepth 65536 in
theorem w_alone : about1.alone = true := by decide +kernel
set_option maxRecDepth 65536 in
theorem w_named : about1.methodNamed? x = some theMethod := by decide +kernel
set_option maxRecDepth 65536 in
theorem w_hears : about1.hears theMethod below0 = true := by decide +kernel
set_option maxRecDepth 65536 in
theorem w_ripe : about1.ripe theMethod args0 below0 = true := by decide +kernel
theorem w_running : about1.status = .running := rfl
set_option maxRecDepth 65536 in
theorem w_room : about1.hasRoom e0.platform room_1 = true :=
  launch0.hasRoom_least _ room_1 (by decide +kernel) (by decide +kernel) (by decide +kernel) (by decide +kernel) (by decide +kernel) (by decide +kernel)
theorem allAtoms_all (ts : List Jvm.Cond) (a : Array Jvm.Value) (st : Jvm.State) : (allAtoms ts).before a st = ts.all (fun c => c.before a st) := by
  induction ts with
  | nil => rfl
  | cons c t ih =>
    show (Jvm.Cond.and c (allAtoms t)).before a st = _
    rw [Jvm.Cond.before_and, ih, List.all_cons]
def words1 : List Jvm.Cond := Jvm.Cond.code x code maxLocals ret :: tables_1
/-- a 'code' word, met by the world's own term for the bytes: nothing is compared byte by byte -/
theorem code_word {y : MethodName} {bytes : ByteArray} {mx : Nat} {rt : Option FieldType} {a : Array Value} {s : State} {m : MethodId} {meth : Method} {c : Code} (h1 : s.methodNamed? y = some m) (h2 : s.vm.method? m = some meth) (h3 : meth.code = some c) (h4 : c.code = bytes)
    (h5 : (c.maxLocals == mx && c.exceptionTable.isEmpty && decide (c.maxStack ≤ mostOperands) && decide (meth.sig.returnType = rt) && !meth.locks && decide (parseMethodDescriptor y.desc = some meth.sig)) = true) : (Jvm.Cond.code y bytes mx rt).before a s = true := by
  simp only [Bool.and_eq_true, beq_iff_eq, Bool.not_eq_true', decide_eq_true_eq] at h5
  obtain ⟨⟨⟨⟨⟨g1, g2⟩, g3⟩, g4⟩, g5⟩, g6⟩ := h5
  simp [Cond.before, Cond.holds, Cond.value, h1, h2, h3, h4, g1, g2, g3, g4, g5, g6]
def isCode : Jvm.Cond → Bool
  | .code _ _ _ _ => true
  | _ => false
theorem all_split {L : List Jvm.Cond} {P : Jvm.Cond → Bool} (h1 : L.all (fun c => isCode c || P c) = true) (h2 : ∀ c ∈ L.filter isCode, P c = true) : L.all P = true := by
  refine List.all_eq_true.mpr fun c hc => ?_
  have h := List.all_eq_true.mp h1 c hc
  rcases Bool.eq_false_or_eq_true (isCode c) with hi | hi
  · exact h2 c (List.mem_filter.mpr ⟨hc, hi⟩)
  · simpa [hi] using h
set_option maxRecDepth 65536 in
theorem w_c0 : (Jvm.Cond.code x code maxLocals ret).before args0 about1 = true := code_word (m := ⟨1, 1⟩) (meth := k1m1) (c := k1c1) (by decide +kernel) rfl rfl rfl (by decide +kernel)
set_option maxRecDepth 65536 in
theorem w_c1 : (Jvm.Cond.code ({ cls := "com/example/undo_chain/undochain/sql/FloatingPoint", name := "compare", desc := "(DD)I" } : Jvm.MethodName) prog_204_method_3_code (5 : Nat) (Option.some Jvm.ClassFile.FieldType.int)).before args0 about1 = true := code_word (m := ⟨2, 1⟩) (meth := k2m1) (c := k2c1) (by decide +kernel) rfl rfl rfl (by decide +kernel)
def codes1 : List Jvm.Cond := [Jvm.Cond.code x code maxLocals ret, Jvm.Cond.code ({ cls := "com/example/undo_chain/undochain/sql/FloatingPoint", name := "compare", desc := "(DD)I" } : Jvm.MethodName) prog_204_method_3_code (5 : Nat) (Option.some Jvm.ClassFile.FieldType.int)]
set_option maxRecDepth 65536 in
theorem codes_eq : words1.filter isCode = codes1 := rfl
theorem w_codes : ∀ c ∈ words1.filter isCode, c.before args0 about1 = true := by
  rw [codes_eq]
  intro c hc
  simp only [codes1, List.mem_cons, List.not_mem_nil, or_false] at hc
  rcases hc with rfl | rfl
  · exact w_c0
  · exact w_c1
set_option maxRecDepth 65536 in
theorem w_t1 : words1.all (fun c => isCode c || c.before args0 about1) = true := by decide +kernel
theorem w_tables : (allAtoms (Jvm.Cond.code x code maxLocals ret :: tables_1)).before args0 about1 = true := by
  rw [allAtoms_all]
  show words1.all (fun c => c.before args0 about1) = true
  refine all_split ?_ w_codes
  rw [w_t1]
set_option maxRecDepth 65536 in
theorem w_case : (Jvm.Cond.and given_1 narrow_1).before args0 about1 = true := by decide +kernel
theorem w_applies : (headSpec (Jvm.Cond.code x code maxLocals ret :: tables_1) room_1).applies x e0.platform about1 = true :=
  (Spec.applies_iff w_frames).mpr ⟨w_running, w_runnable, w_alone, w_named, w_hears, w_ripe, w_room, w_tables⟩
theorem atStart : AtStart classFile x code maxLocals ret World_1 tables_1 room_1 Calls_1 rest_1 Pre_1 launch0 p0 e0 about1 theMethod args0 below0 :=
  ⟨lists_1, trivial, launch0.admits_env _ _ _, launch0.least_env, fairChoices_fair.cas, fairChoices_fair.clock, w_frames, w_args, w_heap, w_applies, trivial, trivial, w_case⟩
end start1
theorem witness_1 : WitnessClaimed_1 := ⟨start1.p0, start1.e0, start1.about1, start1.theMethod, start1.args0, start1.below0, start1.atStart⟩
end Jvm.Pilot.@@N@@
