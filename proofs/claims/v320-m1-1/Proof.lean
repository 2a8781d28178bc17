import JvmDerived
import JvmDerived.Pilot.@@N@@Statement
import JvmDerived.Pilot.@@N@@Code
set_option linter.unusedVariables false
set_option linter.unusedSimpArgs false
namespace Jvm.Pilot.@@N@@
open Jvm Jvm.ClassFile Sem Op Lib Jvm.Free Jvm.Stand Jvm.LawKit Jvm.RoadKit Bundle Jvm.Pilot.@@N@@.Jvm.D
/-! 0. the walk's own layer: a run that comes to its end, step by step -/
def own_Goes (p : Program) (e : Env) (below : List Frame) (A : State) (G : Outcome → State → Prop) : Prop :=
  ∃ s₂ o, Steps p.tables e below A s₂ ∧ s₂.status = .running ∧ Ended s₂ below o ∧ G o s₂
def own_post (s : State) (Q : Option Value → Heap → List Loc → Prop) (rc rs : Nat) : Outcome → State → Prop :=
  fun o U' => ∃ v L, o = .returned v ∧ Q v U'.heap L ∧ FrameEnd s o U' L rc rs
section Own
variable {p : Program} {l : Launch} {e : Env} {R : Room} {s : State} {m : MethodId} {args : Array Value} {below : List Frame} {meth : Method} {c : Code} {T : State} {locs : List Loc} {cells slots : Nat} {G : Outcome → State → Prop} {Q : Option Value → Heap → List Loc → Prop} {rc rs : Nat} {Z : State} {a0 : Array Value} {h : Heap}
theorem own_st {A B : State} (st : ∀ t, Steps p.tables e below B t → Steps p.tables e below A t) (k : own_Goes p e below B G) : own_Goes p e below A G := by
  obtain ⟨s₂, o, h1, h2⟩ := k; exact ⟨s₂, o, st _ h1, h2⟩
theorem own_join {B : State} {K : (Outcome → State → Prop) → Prop} (h1 : K G) (h2 : K G → own_Goes p e below B G) : own_Goes p e below B G := h2 h1
theorem own_ret {S : List Value} {pc : Nat} {Ls : Array Slot} {w : Value} {t : FieldType} (X : Stand p l e R s m args below meth c T locs cells slots) (hlk : meth.locks = false) (hret : meth.sig.returnType = some t)
    (st : ∀ fs, (∀ (f : JFrame) (acts : List Action), f.method = m → f.locked = none → f.entered = [] → (doReturn e (T.setTop f) acts (some w)).1 = T.setFrames fs) → Steps p.tables e below (T.setTop (mkF m pc Ls S)) (T.setFrames fs))
    (hc : cells ≤ rc) (hs : slots ≤ rs) (eT : T.heap = h) (hq : Q (some w) h locs) : own_Goes p e below (T.setTop (mkF m pc Ls S)) (own_post s Q rc rs) := by
  subst eT
  obtain ⟨fs, hr, hrun, hended, hW, hsame⟩ := X.leave (v := some w) (fun h => by rw [hret] at h; cases h) hlk
  exact ⟨_, _, st fs hr, hrun, hended, _, _, rfl, hq, ⟨_, rfl⟩, hW, hsame.mono hc hs⟩
theorem own_retI {rest : List Value} {pc : Nat} {Ls : Array Slot} {z : Int32} (X : Stand p l e R s m args below meth c T locs cells slots) (hx : p.tables.exec = Jvm.exec) (hlk : meth.locks = false) (hret : meth.sig.returnType = some .int) (hd : decode c.code pc = .ok (.ireturn, 1))
    (hc : cells ≤ rc) (hs : slots ≤ rs) (eT : T.heap = h) (hq : Q (some (.int z)) h locs) : own_Goes p e below (T.setTop (mkF m pc Ls (.int z :: rest))) (own_post s Q rc rs) :=
  own_ret X hlk hret (fun fs hr => retOut X hx hret rfl (Or.inl ⟨rfl, Or.inl rfl, z, rfl⟩) hd hr) hc hs eT hq
theorem own_retN {rest : List Value} {pc : Nat} {Ls : Array Slot} {z z' : Int32} {t : FieldType} (X : Stand p l e R s m args below meth c T locs cells slots) (hx : p.tables.exec = Jvm.exec) (hlk : meth.locks = false) (hret : meth.sig.returnType = some t) (ht : t = .boolean ∨ t = .byte ∨ t = .char ∨ t = .short) (hn : nar t z = z') (hd : decode c.code pc = .ok (.ireturn, 1))
    (hc : cells ≤ rc) (hs : slots ≤ rs) (eT : T.heap = h) (hq : Q (some (.int z')) h locs) : own_Goes p e below (T.setTop (mkF m pc Ls (.int z :: rest))) (own_post s Q rc rs) :=
  own_ret X hlk hret (fun fs hr => retN X hx hret ht hd (by rw [hn]; exact hr)) hc hs eT hq
theorem own_retJ {rest : List Value} {pc : Nat} {Ls : Array Slot} {z : Int64} (X : Stand p l e R s m args below meth c T locs cells slots) (hx : p.tables.exec = Jvm.exec) (hlk : meth.locks = false) (hret : meth.sig.returnType = some .long) (hd : decode c.code pc = .ok (.lreturn, 1))
    (hc : cells ≤ rc) (hs : slots ≤ rs) (eT : T.heap = h) (hq : Q (some (.long z)) h locs) : own_Goes p e below (T.setTop (mkF m pc Ls (.long z :: rest))) (own_post s Q rc rs) :=
  own_ret X hlk hret (fun fs hr => retOut X hx hret rfl (Or.inr (Or.inl ⟨rfl, rfl, z, rfl⟩)) hd hr) hc hs eT hq
theorem own_retA {rest : List Value} {pc : Nat} {Ls : Array Slot} {w : Value} {t : FieldType} (X : Stand p l e R s m args below meth c T locs cells slots) (hx : p.tables.exec = Jvm.exec) (hlk : meth.locks = false) (hret : meth.sig.returnType = some t) (ht : t.isReference = true) (hw : w.isRef = true) (hn : narrow t w = w) (hd : decode c.code pc = .ok (.areturn, 1))
    (hc : cells ≤ rc) (hs : slots ≤ rs) (eT : T.heap = h) (hq : Q (some w) h locs) : own_Goes p e below (T.setTop (mkF m pc Ls (w :: rest))) (own_post s Q rc rs) :=
  own_ret X hlk hret (fun fs hr => retOut X hx hret hn (Or.inr (Or.inr (Or.inr (Or.inr ⟨rfl, ht, hw⟩)))) hd hr) hc hs eT hq
theorem own_retV {pc : Nat} {Ls : Array Slot} (X : Stand p l e R s m args below meth c T locs cells slots) (hx : p.tables.exec = Jvm.exec) (hlk : meth.locks = false) (hret : meth.sig.returnType = none) (hd : decode c.code pc = .ok (.return_, 1))
    (hc : cells ≤ rc) (hs : slots ≤ rs) (eT : T.heap = h) (hq : Q none h locs) : own_Goes p e below (T.setTop (mkF m pc Ls [])) (own_post s Q rc rs) := by
  subst eT
  obtain ⟨fs, hr, hrun, hended, hW, hsame⟩ := X.leave (v := none) (fun _ => rfl) hlk
  exact ⟨_, _, X.returnOut hx hret hd hr, hrun, hended, _, _, rfl, hq, ⟨_, rfl⟩, hW, hsame.mono hc hs⟩
/-- what a body's theorem says -/
abbrev own_Ct (l : Launch) (Z : State) (y : MethodName) (bytes : ByteArray) (maxL : Nat) (ret : Option FieldType) (ws : List Jvm.Cond) (rm : Room) (as' : Array Value) (h0 : Heap) (Q : Option Value → Heap → List Loc → Prop) (rc rs : Nat) : Prop :=
  MetFree l y (head1 (Jvm.Cond.code y bytes maxL ret :: ws) rm) (fun a U => a = as' ∧ Z.Warmed39 U.vm ∧ U.heap = h0) (fun _ _ _ _ _ => True) (fun _ U o U' => ∃ v L, o = .returned v ∧ Q v U'.heap L ∧ FrameEnd U o U' L rc rs)
theorem own_met {y : MethodName} {bytes : ByteArray} {maxL : Nat} {ret : Option FieldType} {ws : List Jvm.Cond} {rm : Room} {as' : Array Value} {h0 : Heap} (hp : plainFor y = true)
    (body : ∀ p e s m below meth c s₁, Stand p l e rm s m as' below meth c s₁ [] 0 0 → p.tables.exec = Jvm.exec → c.code = bytes → c.maxLocals = maxL → meth.sig.returnType = ret → meth.locks = false → meth.name = y.name → s.vm.findClass y.cls = some m.cls → Z.Warmed39 s.vm → s₁.heap = h0 →
      own_Goes p e below (s₁.setTop (entryFrame m as' maxL)) (own_post s Q rc rs)) : own_Ct l Z y bytes maxL ret ws rm as' h0 Q rc rs := by
  refine MetFree.of_bodySF hp hisR ?_
  intro p e s m args below meth c s₁ Bd hml0 hP hK
  obtain ⟨rfl, hZ, hh⟩ := hP
  exact body p e s m below meth c s₁ (Stand.of_body Bd) Bd.exec Bd.bytes hml0 Bd.returns Bd.notSynchronized (name_of_methodNamed Bd.named Bd.method).1 (findClass_of_methodNamed Bd.named) hZ (by rw [← hh, Bd.state]; rfl)
theorem own_callS {own : String} {index : Nat} {y : MethodName} {bytes : ByteArray} {maxL : Nat} {ret : Option FieldType} {rm : Room} {argsL rest : List Value} {pc W : Nat} {Ls : Array Slot} (X : Stand p l e R s m args below meth c T locs cells slots) (hx : p.tables.exec = Jvm.exec) (hZ : Z.Warmed39 s.vm) (hown : s.vm.findClass own = some m.cls)
    (w1 : (Jvm.Cond.methodLink own index y).before a0 Z = true) (w2 : (Jvm.Cond.static y).before a0 Z = true) (w3 : (Jvm.Cond.initialized y.cls).before a0 Z = true) (w4 : (Jvm.Cond.code y bytes maxL ret).before a0 Z = true) (hy : y.cls ≠ "java/lang/invoke/MethodHandle" ∧ y.cls ≠ "java/lang/invoke/VarHandle")
    (M : own_Ct l Z y bytes maxL ret [] rm argsL.toArray h Q rm.cells rm.slots) (hf : rm.frames + 1 ≤ R.frames) (hl : W + (maxL + 11) + rm.locals ≤ R.locals) (eT : T.heap = h) (hsize : Ls.size = c.maxLocals)
    (hlen : ∀ sig, parseMethodDescriptor y.desc = some sig → argsL.length = sig.parameters.length) {S : List Value} (hS : S = argsL.reverse ++ rest) (hW : (rest.map fun v => v.category).sum ≤ W) (hd : decode c.code pc = .ok (.invokestatic index, 3)) (hc : cells + rm.cells ≤ R.cells) (hs : slots + rm.slots ≤ R.slots) :
    ∃ v T' h' L, Stand p l e R s m args below meth c T' (locs ++ L) (cells + rm.cells) (slots + rm.slots) ∧ T'.heap = h' ∧ Q v h' L ∧ ∀ t, Steps p.tables e below (T'.setTop (mkF m (pc + 3) Ls (v.toList ++ rest))) t → Steps p.tables e below (T.setTop (mkF m pc Ls S)) t := by
  obtain ⟨v, _, ⟨T4, L4, k4, n4⟩, -, X4, ⟨Lc, hQ, l4, y4, z4⟩, st⟩ := Jvm.LawKit.callS X hx hown (mvT hZ w1) (mvT hZ w2) (mvT hZ w3) (mvT hZ w4) hy (backOf (W := W) M hZ w4 w3 hf hl) (g := mkF m pc Ls S) rfl hsize (argsL := argsL) (rest := rest) hlen hS (by show 2 * 0 + _ ≤ _; omega) hd (fun _ _ => ⟨rfl, eT, hc, hs⟩)
  dsimp only [Pt.U, Pt.locs, Pt.cells, Pt.slots] at X4 l4 y4 z4 st hQ
  subst l4 y4 z4
  exact ⟨v, T4, _, Lc, X4, rfl, hQ, st⟩
theorem own_callV {own C : String} {index : Nat} {y z : MethodName} {bytes : ByteArray} {maxL : Nat} {ret : Option FieldType} {rm : Room} {b : Addr} {argsL rest : List Value} {pc W : Nat} {Ls : Array Slot} (X : Stand p l e R s m args below meth c T locs cells slots) (hx : p.tables.exec = Jvm.exec) (hZ : Z.Warmed39 s.vm) (hown : s.vm.findClass own = some m.cls)
    (w1 : (Jvm.Cond.methodLink own index y).before a0 Z = true) (w2 : (Jvm.Cond.declares y).before a0 Z = true) (w5 : (Jvm.Cond.selects C y z).before a0 Z = true) (w6 : (Jvm.Cond.instanceMethod z).before a0 Z = true) (w3 : (Jvm.Cond.initialized z.cls).before a0 Z = true) (w4 : (Jvm.Cond.code z bytes maxL ret).before a0 Z = true) (hnf : NotFace s y) (hy : y.cls ≠ "java/lang/invoke/MethodHandle" ∧ y.cls ≠ "java/lang/invoke/VarHandle")
    (M : own_Ct l Z z bytes maxL ret [] rm (.ref b :: argsL).toArray h Q rm.cells rm.slots) (hf : rm.frames + 1 ≤ R.frames) (hl : W + (maxL + 11) + rm.locals ≤ R.locals) (eT : T.heap = h) (E : Exa Z h b C) (hsize : Ls.size = c.maxLocals)
    (hlen : ∀ sig, parseMethodDescriptor y.desc = some sig → argsL.length = sig.parameters.length) {S : List Value} (hS : S = argsL.reverse ++ .ref b :: rest) (hW : (rest.map fun v => v.category).sum ≤ W) (hd : decode c.code pc = .ok (.invokevirtual index, 3)) (hc : cells + rm.cells ≤ R.cells) (hs : slots + rm.slots ≤ R.slots) :
    ∃ v T' h' L, Stand p l e R s m args below meth c T' (locs ++ L) (cells + rm.cells) (slots + rm.slots) ∧ T'.heap = h' ∧ Q v h' L ∧ ∀ t, Steps p.tables e below (T'.setTop (mkF m (pc + 3) Ls (v.toList ++ rest))) t → Steps p.tables e below (T.setTop (mkF m pc Ls S)) t := by
  obtain ⟨cq, kq, qa, qb, qc⟩ := isOf hZ eT E
  obtain ⟨v, _, ⟨T4, L4, k4, n4⟩, -, X4, ⟨Lc, hQ, l4, y4, z4⟩, st⟩ := X.virtualBack hx (y := y) (z := z) hown (mvT hZ w1) (mvT hZ w2) hnf (mvT hZ w5) (mvT hZ w6) hy (backOf (W := W) M hZ w4 w3 hf hl) qa qc (g := mkF m pc Ls S) rfl hsize (Steps.refl _) (argsL := argsL) (rest := rest) hlen hS (by show 2 * 0 + _ ≤ _; omega) hd (fun _ _ => ⟨rfl, eT, hc, hs⟩)
  dsimp only [Pt.U, Pt.locs, Pt.cells, Pt.slots] at X4 l4 y4 z4 st hQ
  subst l4 y4 z4
  exact ⟨v, T4, _, Lc, X4, rfl, hQ, fun t k => st.trans k⟩
theorem own_callU {own C owner : String} {index : Nat} {y z : MethodName} {bytes : ByteArray} {maxL : Nat} {ret : Option FieldType} {rm : Room} {b : Addr} {argsL rest : List Value} {pc W : Nat} {Ls : Array Slot} (X : Stand p l e R s m args below meth c T locs cells slots) (hx : p.tables.exec = Jvm.exec) (hZ : Z.Warmed39 s.vm) (hown : s.vm.findClass own = some m.cls)
    (w1 : (Jvm.Cond.methodLink own index y).before a0 Z = true) (w0 : (Jvm.Cond.sameMethod y.cls owner y.name y.desc).before a0 Z = true) (w2 : (Jvm.Cond.declares ⟨owner, y.name, y.desc⟩).before a0 Z = true) (w5 : (Jvm.Cond.selects C y z).before a0 Z = true) (w6 : (Jvm.Cond.instanceMethod z).before a0 Z = true) (w3 : (Jvm.Cond.initialized z.cls).before a0 Z = true) (w4 : (Jvm.Cond.code z bytes maxL ret).before a0 Z = true) (hy : owner ≠ "java/lang/invoke/MethodHandle" ∧ owner ≠ "java/lang/invoke/VarHandle")
    (M : own_Ct l Z z bytes maxL ret [] rm (.ref b :: argsL).toArray h Q rm.cells rm.slots) (hf : rm.frames + 1 ≤ R.frames) (hl : W + (maxL + 11) + rm.locals ≤ R.locals) (eT : T.heap = h) (E : Exa Z h b C) (hsize : Ls.size = c.maxLocals)
    (hlen : ∀ sig, parseMethodDescriptor y.desc = some sig → argsL.length = sig.parameters.length) {S : List Value} (hS : S = argsL.reverse ++ .ref b :: rest) (hW : (rest.map fun v => v.category).sum ≤ W) (hd : decode c.code pc = .ok (.invokevirtual index, 3)) (hc : cells + rm.cells ≤ R.cells) (hs : slots + rm.slots ≤ R.slots) :
    ∃ v T' h' L, Stand p l e R s m args below meth c T' (locs ++ L) (cells + rm.cells) (slots + rm.slots) ∧ T'.heap = h' ∧ Q v h' L ∧ ∀ t, Steps p.tables e below (T'.setTop (mkF m (pc + 3) Ls (v.toList ++ rest))) t → Steps p.tables e below (T.setTop (mkF m pc Ls S)) t := by
  obtain ⟨cq, kq, qa, qb, qc⟩ := isOf hZ eT E
  obtain ⟨v, _, ⟨T4, L4, k4, n4⟩, -, X4, ⟨Lc, hQ, l4, y4, z4⟩, st⟩ := X.virtualBackUp hx (x := y) (y := z) hown (mvT hZ w1) (mvT hZ w0) (mvT hZ w2) hy (mvT hZ w5) (mvT hZ w6) (backOf (W := W) M hZ w4 w3 hf hl) qa qc (g := mkF m pc Ls S) rfl hsize (Steps.refl _) (argsL := argsL) (rest := rest) hlen hS (by show 2 * 0 + _ ≤ _; omega) hd (fun _ _ => ⟨rfl, eT, hc, hs⟩)
  dsimp only [Pt.U, Pt.locs, Pt.cells, Pt.slots] at X4 l4 y4 z4 st hQ
  subst l4 y4 z4
  exact ⟨v, T4, _, Lc, X4, rfl, hQ, fun t k => st.trans k⟩
theorem own_callP {own : String} {index : Nat} {y y' : MethodName} {bytes : ByteArray} {maxL : Nat} {ret : Option FieldType} {rm : Room} {b : Addr} {argsL rest : List Value} {pc W : Nat} {Ls : Array Slot} (X : Stand p l e R s m args below meth c T locs cells slots) (hx : p.tables.exec = Jvm.exec) (hZ : Z.Warmed39 s.vm) (hown : s.vm.findClass own = some m.cls)
    (w1 : (Jvm.Cond.methodLink own index y).before a0 Z = true) (w6 : (Jvm.Cond.instanceMethod y).before a0 Z = true) (w7 : (Jvm.Cond.privateMethod y).before a0 Z = true) (w5 : (Jvm.Cond.selects y.cls y' y').before a0 Z = true) (hy' : y'.cls = y.cls) (w3 : (Jvm.Cond.initialized y.cls).before a0 Z = true) (w4 : (Jvm.Cond.code y bytes maxL ret).before a0 Z = true) (hy : y.cls ≠ "java/lang/invoke/MethodHandle" ∧ y.cls ≠ "java/lang/invoke/VarHandle")
    (M : own_Ct l Z y bytes maxL ret [] rm (.ref b :: argsL).toArray h Q rm.cells rm.slots) (hf : rm.frames + 1 ≤ R.frames) (hl : W + (maxL + 11) + rm.locals ≤ R.locals) (eT : T.heap = h) {C : String} (E : Exa Z h b C) (hsize : Ls.size = c.maxLocals)
    (hlen : ∀ sig, parseMethodDescriptor y.desc = some sig → argsL.length = sig.parameters.length) {S : List Value} (hS : S = argsL.reverse ++ .ref b :: rest) (hW : (rest.map fun v => v.category).sum ≤ W) (hd : decode c.code pc = .ok (.invokevirtual index, 3)) (hc : cells + rm.cells ≤ R.cells) (hs : slots + rm.slots ≤ R.slots) :
    ∃ v T' h' L, Stand p l e R s m args below meth c T' (locs ++ L) (cells + rm.cells) (slots + rm.slots) ∧ T'.heap = h' ∧ Q v h' L ∧ ∀ t, Steps p.tables e below (T'.setTop (mkF m (pc + 3) Ls (v.toList ++ rest))) t → Steps p.tables e below (T.setTop (mkF m pc Ls S)) t := by
  obtain ⟨cq, q1, q2⟩ := E.cell
  have hpv : s.PrivateAt y := Cond.privateMethod_at (mvP hZ w7 (args := #[]))
  have hnf : NotFace s y' := notFace_of_selects (args := #[]) (mvT hZ w5)
  obtain ⟨c2, r2, m2, k1, k2, k3, k4, kP, hkP, hkPi⟩ := Cond.selects_spec (mvT (args := #[]) hZ w5)
  have k5 := findClass_of_methodNamed k3
  rw [hy'] at k5
  obtain ⟨v, _, ⟨T4, L4, k4, n4⟩, -, X4, ⟨Lc, hQ, l4, y4, z4⟩, st⟩ := X.privateBack hx hown (mvT hZ w1) (mvT hZ w6) (selects_self_of_private k5 hkP hkPi hpv (mvT hZ w6) hy) hpv (mvT hZ w4) hy (backOf (W := W) M hZ w4 w3 hf hl) (g := mkF m pc Ls S) rfl hsize (Steps.refl _) (a := b) (by rw [eT]; exact q1) q2 (argsL := argsL) (rest := rest) hlen hS (by show 2 * 0 + _ ≤ _; omega) hd (fun _ _ => ⟨rfl, eT, hc, hs⟩)
  dsimp only [Pt.U, Pt.locs, Pt.cells, Pt.slots] at X4 l4 y4 z4 st hQ
  subst l4 y4 z4
  exact ⟨v, T4, _, Lc, X4, rfl, hQ, fun t k => st.trans k⟩
theorem own_callI {own : String} {index : Nat} {y : MethodName} {bytes : ByteArray} {maxL : Nat} {rm : Room} {b : Addr} {argsL rest : List Value} {pc W : Nat} {Ls : Array Slot} (X : Stand p l e R s m args below meth c T locs cells slots) (hx : p.tables.exec = Jvm.exec) (hZ : Z.Warmed39 s.vm) (hown : s.vm.findClass own = some m.cls) (hi : y.name = "<init>")
    (w1 : (Jvm.Cond.methodLink own index y).before a0 Z = true) (w6 : (Jvm.Cond.instanceMethod y).before a0 Z = true) (w3 : (Jvm.Cond.initialized y.cls).before a0 Z = true) (w4 : (Jvm.Cond.code y bytes maxL none).before a0 Z = true) (hy : y.cls ≠ "java/lang/invoke/MethodHandle" ∧ y.cls ≠ "java/lang/invoke/VarHandle")
    (M : own_Ct l Z y bytes maxL none [] rm (.ref b :: argsL).toArray h Q rm.cells rm.slots) (hf : rm.frames + 1 ≤ R.frames) (hl : W + (maxL + 11) + rm.locals ≤ R.locals) (eT : T.heap = h) (hsize : Ls.size = c.maxLocals)
    (hlen : ∀ sig, parseMethodDescriptor y.desc = some sig → argsL.length = sig.parameters.length) {S : List Value} (hS : S = argsL.reverse ++ .ref b :: rest) (hW : (rest.map fun v => v.category).sum ≤ W) (hd : decode c.code pc = .ok (.invokespecial index, 3)) (hc : cells + rm.cells ≤ R.cells) (hs : slots + rm.slots ≤ R.slots) :
    ∃ v T' h' L, Stand p l e R s m args below meth c T' (locs ++ L) (cells + rm.cells) (slots + rm.slots) ∧ T'.heap = h' ∧ Q v h' L ∧ ∀ t, Steps p.tables e below (T'.setTop (mkF m (pc + 3) Ls (v.toList ++ rest))) t → Steps p.tables e below (T.setTop (mkF m pc Ls S)) t := by
  obtain ⟨v, _, ⟨T4, L4, k4, n4⟩, -, X4, ⟨Lc, hQ, l4, y4, z4⟩, st⟩ := X.specialBack hx hi hown (mvT hZ w1) (mvT hZ w6) (mvT hZ w4) hy (backOf (W := W) M hZ w4 w3 hf hl) (g := mkF m pc Ls S) rfl hsize (Steps.refl _) (a := b) (argsL := argsL) (rest := rest) hlen hS (by show 2 * 0 + _ ≤ _; omega) hd (fun _ _ => ⟨rfl, eT, hc, hs⟩)
  dsimp only [Pt.U, Pt.locs, Pt.cells, Pt.slots] at X4 l4 y4 z4 st hQ
  subst l4 y4 z4
  exact ⟨v, T4, _, Lc, X4, rfl, hQ, fun t k => st.trans k⟩
theorem own_eqI {st : State} {t : Term} {z : Int32} (k : (Jvm.Cond.eq t (Term.int z)).value args st none st [] = some true) : t.eval args st none [] st = some (.int z) := by
  simp only [Jvm.Cond.value, Term.eval] at k
  cases ht : t.eval args st none [] st with
  | none => simp [ht] at k
  | some q => cases q <;> simp [ht] at k ⊢; exact k
theorem own_eqR {st : State} {t u : Term} {b : Addr} (k : (Jvm.Cond.eq t u).value args st none st [] = some true) (hu : u.eval args st none [] st = some (.ref b)) : t.eval args st none [] st = some (.ref b) := by
  simp only [Jvm.Cond.value] at k
  cases ht : t.eval args st none [] st with
  | none => simp [ht] at k
  | some q => cases q <;> simp [ht, hu] at k ⊢; exact k
end Own

theorem pn_java_lang_StringUTF16 : plainName "java/lang/StringUTF16" = true := by first | (simp [plainName, overriddenIn]; done) | decide +kernel
theorem pn_java_lang_String : plainName "java/lang/String" = true := by first | (simp [plainName, overriddenIn]; done) | decide +kernel
theorem pn_com_example_charon_charon_ReturnUrlEqualsPinLaw : plainName "com/example/charon/charon/ReturnUrlEqualsPinLaw" = true := by first | (simp [plainName, overriddenIn]; done) | decide +kernel
theorem pn_java_lang_Record : plainName "java/lang/Record" = true := by first | (simp [plainName, overriddenIn]; done) | decide +kernel
theorem pn_com_example_charon_charon_ReturnUrl : plainName "com/example/charon/charon/ReturnUrl" = true := by first | (simp [plainName, overriddenIn]; done) | decide +kernel
theorem pn_java_lang_StringLatin1 : plainName "java/lang/StringLatin1" = true := by first | (simp [plainName, overriddenIn]; done) | decide +kernel
theorem pd___CI_BII_I : parseMethodDescriptor "([CI[BII)I" = some ⟨[(.array .char), .int, (.array .byte), .int, .int], some .int⟩ := by decide +kernel
theorem pd___CII__B : parseMethodDescriptor "([CII)[B" = some ⟨[(.array .char), .int, .int], some (.array .byte)⟩ := by decide +kernel
theorem pd___V : parseMethodDescriptor "()V" = some ⟨[], none⟩ := by decide +kernel
theorem pd___BI_B : parseMethodDescriptor "([BI)B" = some ⟨[(.array .byte), .int], some .byte⟩ := by decide +kernel
theorem pd___CIILjava_lang_Void__V : parseMethodDescriptor "([CIILjava/lang/Void;)V" = some ⟨[(.array .char), .int, .int, (.object "java/lang/Void")], none⟩ := by decide +kernel
theorem pd___C_V : parseMethodDescriptor "([C)V" = some ⟨[(.array .char)], none⟩ := by decide +kernel
theorem pd___B_B_Z : parseMethodDescriptor "([B[B)Z" = some ⟨[(.array .byte), (.array .byte)], some .boolean⟩ := by decide +kernel
theorem pd__Ljava_lang_Object__Z : parseMethodDescriptor "(Ljava/lang/Object;)Z" = some ⟨[(.object "java/lang/Object")], some .boolean⟩ := by decide +kernel
theorem pd__Ljava_lang_String__V : parseMethodDescriptor "(Ljava/lang/String;)V" = some ⟨[(.object "java/lang/String")], none⟩ := by decide +kernel
theorem pd__ICC_Ljava_lang_String_ : parseMethodDescriptor "(ICC)Ljava/lang/String;" = some ⟨[.int, .char, .char], some (.object "java/lang/String")⟩ := by decide +kernel
section Own2
variable {p : Program} {l : Launch} {e : Env} {R : Room} {s : State} {m : MethodId} {args : Array Value} {below : List Frame} {meth : Method} {c : Code} {T : State} {locs : List Loc} {cells slots : Nat} {Z : State} {a0 : Array Value} {h : Heap} {a : Addr} {k : ClassId} {z j : Int32} {vs : List Value} {dv : Value} {pc : Nat} {Ls : Array Slot} {rest : List Value}
theorem own_stJ {x : Int64} (X : Stand p l e R s m args below meth c T locs cells slots) (hx : p.tables.exec = Jvm.exec) (hZ : Z.Warmed39 s.vm) (eT : T.heap = h) (F : Arv Z h a k .long z vs dv) (i : Nat) (hj : j.toNatClampNeg = i) (hz : ¬ j < 0 ∧ j < z) (hi : i < vs.length) (hd : decode c.code pc = .ok (.lastore, 1)) :
    ∃ T' h', Stand p l e R s m args below meth c T' (locs ++ [⟨a, j.toNatClampNeg⟩]) cells slots ∧ T'.heap = h' ∧ Wr h h' a j.toNatClampNeg (.long x) ∧ Arv Z h' a k .long z (vs.set i (.long x)) dv ∧ ∀ t, Steps p.tables e below (T'.setTop (mkF m (pc + 1) Ls rest)) t → Steps p.tables e below (T.setTop (mkF m pc Ls (.long x :: .int j :: .ref a :: rest))) t := by
  obtain ⟨cl, Ar, q, S, N, H, G⟩ := F
  obtain ⟨T', h', X', e', W, st⟩ := stJ X hx hZ eT Ar (j := j) (inb_of S hz) (g := mkF m pc Ls (.long x :: .int j :: .ref a :: rest)) rfl rfl hd
  exact ⟨T', h', X', e', W, Arv.set Ar q S N H G rfl W i hj hi, st⟩
theorem own_stB {x : Int32} (X : Stand p l e R s m args below meth c T locs cells slots) (hx : p.tables.exec = Jvm.exec) (hZ : Z.Warmed39 s.vm) (eT : T.heap = h) (F : Arv Z h a k .byte z vs dv) (i : Nat) (hj : j.toNatClampNeg = i) (hz : ¬ j < 0 ∧ j < z) (hi : i < vs.length) (hd : decode c.code pc = .ok (.bastore, 1)) :
    ∃ T' h', Stand p l e R s m args below meth c T' (locs ++ [⟨a, j.toNatClampNeg⟩]) cells slots ∧ T'.heap = h' ∧ Wr h h' a j.toNatClampNeg (.int x.toInt8.toInt32) ∧ Arv Z h' a k .byte z (vs.set i (.int x.toInt8.toInt32)) dv ∧ ∀ t, Steps p.tables e below (T'.setTop (mkF m (pc + 1) Ls rest)) t → Steps p.tables e below (T.setTop (mkF m pc Ls (.int x :: .int j :: .ref a :: rest))) t := by
  obtain ⟨cl, Ar, q, S, N, H, G⟩ := F
  obtain ⟨T', h', X', e', W, st⟩ := stB X hx hZ eT Ar (j := j) (inb_of S hz) (g := mkF m pc Ls (.int x :: .int j :: .ref a :: rest)) rfl rfl hd
  exact ⟨T', h', X', e', W, Arv.set Ar q S N H G (fits_nar_byte _) W i hj hi, st⟩
theorem own_stC {x x' : Int32} (hn : nar .char x = x') (X : Stand p l e R s m args below meth c T locs cells slots) (hx : p.tables.exec = Jvm.exec) (hZ : Z.Warmed39 s.vm) (eT : T.heap = h) (F : Arv Z h a k .char z vs dv) (i : Nat) (hj : j.toNatClampNeg = i) (hz : ¬ j < 0 ∧ j < z) (hi : i < vs.length) (hd : decode c.code pc = .ok (.castore, 1)) :
    ∃ T' h', Stand p l e R s m args below meth c T' (locs ++ [⟨a, j.toNatClampNeg⟩]) cells slots ∧ T'.heap = h' ∧ Wr h h' a j.toNatClampNeg (.int x') ∧ Arv Z h' a k .char z (vs.set i (.int x')) dv ∧ ∀ t, Steps p.tables e below (T'.setTop (mkF m (pc + 1) Ls rest)) t → Steps p.tables e below (T.setTop (mkF m pc Ls (.int x :: .int j :: .ref a :: rest))) t := by
  subst hn
  obtain ⟨cl, Ar, q, S, N, H, G⟩ := F
  obtain ⟨T', h', X', e', W, st⟩ := stC X hx hZ eT Ar (j := j) (inb_of S hz) (g := mkF m pc Ls (.int x :: .int j :: .ref a :: rest)) rfl rfl hd
  exact ⟨T', h', X', e', W, Arv.set Ar q S N H G (fits_nar_char _) W i hj hi, st⟩
theorem own_ldC {v : Value} (X : Stand p l e R s m args below meth c T locs cells slots) (hx : p.tables.exec = Jvm.exec) (hZ : Z.Warmed39 s.vm) (eT : T.heap = h) (F : Arv Z h a k .char z vs dv) (hz : ¬ j < 0 ∧ j < z) (hv : vs.getD j.toNatClampNeg dv = v) (hd : decode c.code pc = .ok (.caload, 1)) :
    ∀ t, Steps p.tables e below (T.setTop (mkF m (pc + 1) Ls (v :: rest))) t → Steps p.tables e below (T.setTop (mkF m pc Ls (.int j :: .ref a :: rest))) t := by
  obtain ⟨cl, Ar, q, S, N, H, G⟩ := F
  exact X.caload hx (j := j) (v := v) (by rw [eT]; exact Ar.1) (State.isArrayOf_alike hZ.alike Ar.2.1) Ar.2.2 (inb_of S hz) (H.at (inb_of S hz) hv) (g := mkF m pc Ls (.int j :: .ref a :: rest)) rfl rfl hd
theorem own_stR {y : Addr} {ty : FieldType} (X : Stand p l e R s m args below meth c T locs cells slots) (hx : p.tables.exec = Jvm.exec) (hZ : Z.Warmed39 s.vm) (eT : T.heap = h) (F : Arv Z h a k ty z vs dv) (hty : ty.isReference = true) (hfit : fits ty (.ref y) = true) (hst : ∀ cl, Arr Z h a cl ty → cl.cls = k → Sto Z h a (.ref y)) (i : Nat) (hj : j.toNatClampNeg = i) (hz : ¬ j < 0 ∧ j < z) (hi : i < vs.length) (hd : decode c.code pc = .ok (.aastore, 1)) :
    ∃ T' h', Stand p l e R s m args below meth c T' (locs ++ [⟨a, j.toNatClampNeg⟩]) cells slots ∧ T'.heap = h' ∧ Wr h h' a j.toNatClampNeg (.ref y) ∧ Arv Z h' a k ty z (vs.set i (.ref y)) dv ∧ ∀ t, Steps p.tables e below (T'.setTop (mkF m (pc + 1) Ls rest)) t → Steps p.tables e below (T.setTop (mkF m pc Ls (.ref y :: .int j :: .ref a :: rest))) t := by
  obtain ⟨cl, Ar, q, S, N, H, G⟩ := F
  obtain ⟨T', h', X', e', W, st⟩ := stR X hx hZ eT Ar (j := j) (inb_of S hz) hty (hst cl Ar q) (g := mkF m pc Ls (.ref y :: .int j :: .ref a :: rest)) rfl rfl hd
  exact ⟨T', h', X', e', W, Arv.set Ar q S N H G hfit W i hj hi, st⟩
theorem own_ldJ {v : Value} (X : Stand p l e R s m args below meth c T locs cells slots) (hx : p.tables.exec = Jvm.exec) (hZ : Z.Warmed39 s.vm) (eT : T.heap = h) (F : Arv Z h a k .long z vs dv) (hz : ¬ j < 0 ∧ j < z) (hv : vs.getD j.toNatClampNeg dv = v) (hd : decode c.code pc = .ok (.laload, 1)) :
    ∀ t, Steps p.tables e below (T.setTop (mkF m (pc + 1) Ls (v :: rest))) t → Steps p.tables e below (T.setTop (mkF m pc Ls (.int j :: .ref a :: rest))) t := by
  obtain ⟨cl, Ar, q, S, N, H, G⟩ := F
  exact X.laload hx (j := j) (v := v) (by rw [eT]; exact Ar.1) (State.isArrayOf_alike hZ.alike Ar.2.1) Ar.2.2 (inb_of S hz) (H.at (inb_of S hz) hv) (g := mkF m pc Ls (.int j :: .ref a :: rest)) rfl rfl hd
theorem own_ldB {v : Value} (X : Stand p l e R s m args below meth c T locs cells slots) (hx : p.tables.exec = Jvm.exec) (hZ : Z.Warmed39 s.vm) (eT : T.heap = h) (F : Arv Z h a k .byte z vs dv) (hz : ¬ j < 0 ∧ j < z) (hv : vs.getD j.toNatClampNeg dv = v) (hd : decode c.code pc = .ok (.baload, 1)) :
    ∀ t, Steps p.tables e below (T.setTop (mkF m (pc + 1) Ls (v :: rest))) t → Steps p.tables e below (T.setTop (mkF m pc Ls (.int j :: .ref a :: rest))) t := by
  obtain ⟨cl, Ar, q, S, N, H, G⟩ := F
  exact X.baloadBytes hx (j := j) (v := v) (by rw [eT]; exact Ar.1) (State.isArrayOf_alike hZ.alike Ar.2.1) Ar.2.2 (inb_of S hz) (H.at (inb_of S hz) hv) (g := mkF m pc Ls (.int j :: .ref a :: rest)) rfl rfl hd
theorem own_ldR {v : Value} {ty : FieldType} (X : Stand p l e R s m args below meth c T locs cells slots) (hx : p.tables.exec = Jvm.exec) (hZ : Z.Warmed39 s.vm) (eT : T.heap = h) (F : Arv Z h a k ty z vs dv) (hty : ty.isReference = true) (hz : ¬ j < 0 ∧ j < z) (hv : vs.getD j.toNatClampNeg dv = v) (hd : decode c.code pc = .ok (.aaload, 1)) :
    ∀ t, Steps p.tables e below (T.setTop (mkF m (pc + 1) Ls (v :: rest))) t → Steps p.tables e below (T.setTop (mkF m pc Ls (.int j :: .ref a :: rest))) t := by
  obtain ⟨cl, Ar, q, S, N, H, G⟩ := F
  exact X.aaload hx (j := j) (v := v) (by rw [eT]; exact Ar.1) (State.isArrayOf_alike hZ.alike Ar.2.1) hty Ar.2.2 (inb_of S hz) (H.at (inb_of S hz) hv) (g := mkF m pc Ls (.int j :: .ref a :: rest)) rfl rfl hd
theorem own_len {ty : FieldType} (X : Stand p l e R s m args below meth c T locs cells slots) (hx : p.tables.exec = Jvm.exec) (hZ : Z.Warmed39 s.vm) (eT : T.heap = h) (F : Arv Z h a k ty z vs dv) (hd : decode c.code pc = .ok (.arraylength, 1)) :
    ∀ t, Steps p.tables e below (T.setTop (mkF m (pc + 1) Ls (.int z :: rest))) t → Steps p.tables e below (T.setTop (mkF m pc Ls (.ref a :: rest))) t := by
  obtain ⟨cl, Ar, q, S, N, H, G⟩ := F
  intro t kt
  refine X.arraylength hx (by rw [eT]; exact Ar.1) (State.isArrayOf_alike hZ.alike Ar.2.1) (g := mkF m pc Ls (.ref a :: rest)) rfl rfl hd t ?_
  rw [len_of S N]; exact kt
end Own2
/-! chars below 256 -/
def own_c8 (c : Int32) : Prop := 0 ≤ c.toInt ∧ c.toInt ≤ 255
theorem own_narc {c : Int32} (h : own_c8 c) : nar .char c = c := by
  show c.toUInt32.toUInt16.toUInt32.toInt32 = c
  have q := c_i2c c
  obtain ⟨h1, h2⟩ := h
  apply Int32.toInt_inj.mp; omega
theorem own_c8n {c : Int32} (h : own_c8 c) : ¬ (255 : Int32) < c := by
  have e : (255 : Int32).toInt = 255 := by decide
  rw [Int32.lt_iff_toInt_lt, e]; have := h.2; omega
theorem own_b8 (x : Int32) : x.toInt8.toInt32.toInt8.toInt32 = x.toInt8.toInt32 := by simp
theorem own_cfl (z : Int32) : (XT.ushr (z - z) (31 : Int32)).toInt8.toInt32 = 0 := by rw [Int32.sub_self]; decide
theorem own_and8 (x : Int32) : ∃ c : Int32, (x &&& (255 : Int32)).toUInt32.toUInt16.toUInt32.toInt32 = c ∧ own_c8 c := by
  have e1 : (x &&& (255 : Int32)).toInt = x.toInt % (2 ^ 8 : Nat) := c_mask x _ 8 (by decide) (by decide)
  refine ⟨_, rfl, ?_⟩
  have q := c_i2c (x &&& (255 : Int32))
  unfold own_c8; omega
theorem own_shr0 (x : Int32) : x >>> ((0 : Int32) &&& 31) = x := by
  apply Int32.toInt_inj.mp; rw [c_ishr x (0 : Int32) 0 (by decide)]; simp
theorem own_bytes {c d : Int32} (hc : own_c8 c) (hd : own_c8 d) (q : c.toInt8.toInt32 = d.toInt8.toInt32) : c = d := by
  have e1 := c_i2b c
  have e2 := c_i2b d
  rw [q] at e1
  apply Int32.toInt_inj.mp
  obtain ⟨h1, h2⟩ := hc
  obtain ⟨h3, h4⟩ := hd
  omega
section OwnS
variable {p : Program} {l : Launch} {e : Env} {R : Room} {s : State} {m : MethodId} {args : Array Value} {below : List Frame} {meth : Method} {c : Code} {T : State} {locs : List Loc} {cells slots : Nat} {rc rs : Nat} {Z : State} {a0 : Array Value} {h h' : Heap} {vm0 : Vm} {k0 : Nat} {QS : Option Value → Heap → Vm → List Loc → Prop} {PS : Vm → Prop}
def own_postS (s : State) (Q : Option Value → Heap → Vm → List Loc → Prop) (rc rs : Nat) : Outcome → State → Prop :=
  fun o U' => ∃ v L, o = .returned v ∧ Q v U'.heap U'.vm L ∧ ReturnedEndW s o U' L rc rs
theorem own_leaveS {S : List Value} {pc : Nat} {Ls : Array Slot} {v : Option Value} (X : Stand p l e R (s.setVm vm0) m args below meth c T locs cells slots) (hS : s.Since vm0 k0) (hk : k0 ≤ h.size) (hlk : meth.locks = false) (hv : meth.sig.returnType = none → v = none)
    (st : ∀ fs, (∀ (f : JFrame) (acts : List Action), f.method = m → f.locked = none → f.entered = [] → (doReturn e (T.setTop f) acts v).1 = T.setFrames fs) → Steps p.tables e below (T.setTop (mkF m pc Ls S)) (T.setFrames fs))
    (hc : cells ≤ rc) (hs : slots ≤ rs) (eT : T.heap = h) (hq : QS v h T.vm locs) : own_Goes p e below (T.setTop (mkF m pc Ls S)) (own_postS s QS rc rs) := by
  subst eT
  obtain ⟨fs, hr, hrun, hended, r1, r2, r3, r4⟩ := X.leaveW hS hk (v := v) hv hlk
  exact ⟨_, _, st fs hr, hrun, hended, _, _, rfl, hq, r1, r2, r3, r4.mono hc hs⟩
theorem own_retSA {rest : List Value} {pc : Nat} {Ls : Array Slot} {w : Value} {t : FieldType} (X : Stand p l e R (s.setVm vm0) m args below meth c T locs cells slots) (hS : s.Since vm0 k0) (hk : k0 ≤ h.size) (hx : p.tables.exec = Jvm.exec) (hlk : meth.locks = false) (hret : meth.sig.returnType = some t) (ht : t.isReference = true) (hw : w.isRef = true) (hn : narrow t w = w) (hd : decode c.code pc = .ok (.areturn, 1))
    (hc : cells ≤ rc) (hs : slots ≤ rs) (eT : T.heap = h) (hq : QS (some w) h T.vm locs) : own_Goes p e below (T.setTop (mkF m pc Ls (w :: rest))) (own_postS s QS rc rs) :=
  own_leaveS X hS hk hlk (fun h => by rw [hret] at h; cases h) (fun fs hr => retOut X hx hret hn (Or.inr (Or.inr (Or.inr (Or.inr ⟨rfl, ht, hw⟩)))) hd hr) hc hs eT hq
theorem own_retSI {rest : List Value} {pc : Nat} {Ls : Array Slot} {z : Int32} (X : Stand p l e R (s.setVm vm0) m args below meth c T locs cells slots) (hS : s.Since vm0 k0) (hk : k0 ≤ h.size) (hx : p.tables.exec = Jvm.exec) (hlk : meth.locks = false) (hret : meth.sig.returnType = some .int) (hd : decode c.code pc = .ok (.ireturn, 1))
    (hc : cells ≤ rc) (hs : slots ≤ rs) (eT : T.heap = h) (hq : QS (some (.int z)) h T.vm locs) : own_Goes p e below (T.setTop (mkF m pc Ls (.int z :: rest))) (own_postS s QS rc rs) :=
  own_leaveS X hS hk hlk (fun h => by rw [hret] at h; cases h) (fun fs hr => retOut X hx hret rfl (Or.inl ⟨rfl, Or.inl rfl, z, rfl⟩) hd hr) hc hs eT hq
theorem own_retSN {rest : List Value} {pc : Nat} {Ls : Array Slot} {z z' : Int32} {t : FieldType} (X : Stand p l e R (s.setVm vm0) m args below meth c T locs cells slots) (hS : s.Since vm0 k0) (hk : k0 ≤ h.size) (hx : p.tables.exec = Jvm.exec) (hlk : meth.locks = false) (hret : meth.sig.returnType = some t) (ht : t = .boolean ∨ t = .byte ∨ t = .char ∨ t = .short) (hn : nar t z = z') (hd : decode c.code pc = .ok (.ireturn, 1))
    (hc : cells ≤ rc) (hs : slots ≤ rs) (eT : T.heap = h) (hq : QS (some (.int z')) h T.vm locs) : own_Goes p e below (T.setTop (mkF m pc Ls (.int z :: rest))) (own_postS s QS rc rs) :=
  own_leaveS X hS hk hlk (fun h => by rw [hret] at h; cases h) (fun fs hr => retN X hx hret ht hd (by rw [hn]; exact hr)) hc hs eT hq
theorem own_retSV {pc : Nat} {Ls : Array Slot} (X : Stand p l e R (s.setVm vm0) m args below meth c T locs cells slots) (hS : s.Since vm0 k0) (hk : k0 ≤ h.size) (hx : p.tables.exec = Jvm.exec) (hlk : meth.locks = false) (hret : meth.sig.returnType = none) (hd : decode c.code pc = .ok (.return_, 1))
    (hc : cells ≤ rc) (hs : slots ≤ rs) (eT : T.heap = h) (hq : QS none h T.vm locs) : own_Goes p e below (T.setTop (mkF m pc Ls [])) (own_postS s QS rc rs) :=
  own_leaveS X hS hk hlk (fun _ => rfl) (fun fs hr => X.returnOut hx hret hd hr) hc hs eT hq
abbrev own_CtS (l : Launch) (Z : State) (y : MethodName) (bytes : ByteArray) (maxL : Nat) (ret : Option FieldType) (ws : List Jvm.Cond) (rm : Room) (as' : Array Value) (h0 : Heap) (P : Vm → Prop) (Q : Option Value → Heap → Vm → List Loc → Prop) (rc rs : Nat) : Prop :=
  MetFree l y (head1 (Jvm.Cond.code y bytes maxL ret :: ws) rm) (fun a U => a = as' ∧ Z.Warmed39 U.vm ∧ U.heap = h0 ∧ P U.vm) (fun _ _ _ _ _ => True) (fun _ U o U' => ∃ v L, o = .returned v ∧ Q v U'.heap U'.vm L ∧ ReturnedEndW U o U' L rc rs)
theorem own_metS {y : MethodName} {bytes : ByteArray} {maxL : Nat} {ret : Option FieldType} {ws : List Jvm.Cond} {rm : Room} {as' : Array Value} {h0 : Heap} (hp : plainFor y = true)
    (body : ∀ p e s m below meth c s₁, Stand p l e rm (s.setVm s.vm) m as' below meth c s₁ [] 0 0 → p.tables.exec = Jvm.exec → c.code = bytes → c.maxLocals = maxL → meth.sig.returnType = ret → meth.locks = false → meth.name = y.name → (s.setVm s.vm).vm.findClass y.cls = some m.cls → Z.Warmed39 (s.setVm s.vm).vm → s₁.heap = h0 → s.heap = h0 → PS s.vm → s.Since s.vm 0 →
      own_Goes p e below (s₁.setTop (entryFrame m as' maxL)) (own_postS s QS rc rs)) : own_CtS l Z y bytes maxL ret ws rm as' h0 PS QS rc rs := by
  refine MetFree.of_bodySF hp hisR ?_
  intro p e s m args below meth c s₁ Bd hml0 hP hK
  obtain ⟨rfl, hZ, hh, hp⟩ := hP
  exact body p e s m below meth c s₁ (Stand.of_body Bd) Bd.exec Bd.bytes hml0 Bd.returns Bd.notSynchronized (name_of_methodNamed Bd.named Bd.method).1 (findClass_of_methodNamed Bd.named) hZ (by rw [← hh, Bd.state]; rfl) hh hp ((State.WarmedH.refl s).since 0)
theorem own_backS {y : MethodName} {bytes : ByteArray} {maxL : Nat} {ret : Option FieldType} {rm : Room} {len W : Nat} {as' : Array Value} (hM : own_CtS l Z y bytes maxL ret [] rm as' h PS QS rm.cells rm.slots)
    (hZ : Z.Warmed39 s.vm) (wc : (Jvm.Cond.code y bytes maxL ret).before a0 Z = true) (wz : (Jvm.Cond.initialized y.cls).before a0 Z = true) (hf : rm.frames + 1 ≤ R.frames) (hl : W + (maxL + 11) + rm.locals ≤ R.locals) :
    BackS l R p e below s args y len W (fun A a => a = as' ∧ A.U.heap = h ∧ PS A.U.vm ∧ A.cells + rm.cells ≤ R.cells ∧ A.slots + rm.slots ≤ R.slots)
      (fun A _ v B => ∃ L, QS v B.U.heap B.U.vm L ∧ B.locs = A.locs ++ L ∧ B.cells = A.cells + rm.cells ∧ B.slots = A.slots + rm.slots) :=
  BackS.of_freeW (bytes := bytes) (maxL := maxL) (ret := ret) (E := fun _ _ o t L k n => k = rm.cells ∧ n = rm.slots ∧ ∃ v, o = .returned v ∧ QS v t.heap t.vm L) hM hf hl
    (fun m meth c A a Y hp => have hU : Z.Warmed39 A.U.vm := wtrans hZ Y.warmed
      ⟨by show (Jvm.Cond.and _ .tt).before a A.U = true; rw [Cond.before_and, mv hU wc]; rfl, mv hU wc, mv hU wz, hp.2.2.2.1, hp.2.2.2.2⟩)
    (fun m meth c A a g mk Y hp => ⟨hp.1, wtrans hZ Y.warmed, hp.2.1, hp.2.2.1⟩) (fun _ _ _ _ _ _ _ _ _ => trivial)
    (fun _ _ _ _ ⟨v, L, h1, h2, h3⟩ => ⟨L, _, _, h3, rfl, rfl, v, h1, h2⟩)
    (fun m meth c A a g mk v t L k n Y hp _ _ ⟨e1, e2, v', e3, e4⟩ => by cases e3; subst e1 e2; exact ⟨L, e4, rfl, rfl, rfl⟩)
theorem own_callSS {own : String} {index : Nat} {y : MethodName} {bytes : ByteArray} {maxL : Nat} {ret : Option FieldType} {rm : Room} {argsL rest : List Value} {pc W : Nat} {Ls : Array Slot} (X : Stand p l e R (s.setVm vm0) m args below meth c T locs cells slots) (hx : p.tables.exec = Jvm.exec) (hZ : Z.Warmed39 (s.setVm vm0).vm) (hown : (s.setVm vm0).vm.findClass own = some m.cls) (hS : s.Since vm0 k0) (hk : k0 ≤ h.size) (hP : ∀ vm1, (s.setVm vm0).WarmedH vm1 → PS vm1)
    (w1 : (Jvm.Cond.methodLink own index y).before a0 Z = true) (w2 : (Jvm.Cond.static y).before a0 Z = true) (w3 : (Jvm.Cond.initialized y.cls).before a0 Z = true) (w4 : (Jvm.Cond.code y bytes maxL ret).before a0 Z = true) (hy : y.cls ≠ "java/lang/invoke/MethodHandle" ∧ y.cls ≠ "java/lang/invoke/VarHandle")
    (M : own_CtS l Z y bytes maxL ret [] rm argsL.toArray h PS QS rm.cells rm.slots) (hf : rm.frames + 1 ≤ R.frames) (hl : W + (maxL + 11) + rm.locals ≤ R.locals) (eT : T.heap = h) (hsize : Ls.size = c.maxLocals)
    (hlen : ∀ sig, parseMethodDescriptor y.desc = some sig → argsL.length = sig.parameters.length) {S : List Value} (hSt : S = argsL.reverse ++ rest) (hW : (rest.map fun v => v.category).sum ≤ W) (hd : decode c.code pc = .ok (.invokestatic index, 3)) (hc : cells + rm.cells ≤ R.cells) (hs : slots + rm.slots ≤ R.slots) :
    ∃ v T' h' L, Stand p l e R (s.setVm T'.vm) m args below meth c T' (locs ++ L) (cells + rm.cells) (slots + rm.slots) ∧ T'.heap = h' ∧ QS v h' T'.vm L ∧ s.Since T'.vm h'.size ∧ Z.Warmed39 (s.setVm T'.vm).vm ∧ (s.setVm T'.vm).vm.findClass own = some m.cls ∧ ∀ t, Steps p.tables e below (T'.setTop (mkF m (pc + 3) Ls (v.toList ++ rest))) t → Steps p.tables e below (T.setTop (mkF m pc Ls S)) t := by
  obtain ⟨v, _, ⟨T4, L4, k4, n4⟩, -, X4, S4, g4, ⟨Lc, hQ, l4, y4, z4⟩, st⟩ := callSS X hx hown (mvT hZ w1) (mvT hZ w2) (mvT hZ w3) (mvT hZ w4) hy (own_backS (W := W) M hZ w4 w3 hf hl) (g := mkF m pc Ls S) rfl hsize (argsL := argsL) (rest := rest) hlen hSt (by show 2 * 0 + _ ≤ _; omega) hd (fun vm1 hw1 => ⟨rfl, eT, hP vm1 hw1, hc, hs⟩)
  dsimp only [Pt.U, Pt.locs, Pt.cells, Pt.slots] at X4 S4 g4 l4 y4 z4 st hQ
  subst l4 y4 z4 eT
  obtain ⟨X5, S5, Z5, O5⟩ := rebS hS hk X4 S4 g4 hZ hown
  exact ⟨v, T4, _, Lc, X5, rfl, hQ, S5, Z5, O5, fun t k => st.trans k⟩
theorem own_callIS {own : String} {index : Nat} {y : MethodName} {bytes : ByteArray} {maxL : Nat} {rm : Room} {b : Addr} {argsL rest : List Value} {pc W : Nat} {Ls : Array Slot} (X : Stand p l e R (s.setVm vm0) m args below meth c T locs cells slots) (hx : p.tables.exec = Jvm.exec) (hZ : Z.Warmed39 (s.setVm vm0).vm) (hown : (s.setVm vm0).vm.findClass own = some m.cls) (hS : s.Since vm0 k0) (hk : k0 ≤ h.size) (hP : ∀ vm1, (s.setVm vm0).WarmedH vm1 → PS vm1) (hi : y.name = "<init>")
    (w1 : (Jvm.Cond.methodLink own index y).before a0 Z = true) (w6 : (Jvm.Cond.instanceMethod y).before a0 Z = true) (w3 : (Jvm.Cond.initialized y.cls).before a0 Z = true) (w4 : (Jvm.Cond.code y bytes maxL none).before a0 Z = true) (hy : y.cls ≠ "java/lang/invoke/MethodHandle" ∧ y.cls ≠ "java/lang/invoke/VarHandle")
    (M : own_CtS l Z y bytes maxL none [] rm (.ref b :: argsL).toArray h PS QS rm.cells rm.slots) (hf : rm.frames + 1 ≤ R.frames) (hl : W + (maxL + 11) + rm.locals ≤ R.locals) (eT : T.heap = h) (hsize : Ls.size = c.maxLocals)
    (hlen : ∀ sig, parseMethodDescriptor y.desc = some sig → argsL.length = sig.parameters.length) {S : List Value} (hSt : S = argsL.reverse ++ .ref b :: rest) (hW : (rest.map fun v => v.category).sum ≤ W) (hd : decode c.code pc = .ok (.invokespecial index, 3)) (hc : cells + rm.cells ≤ R.cells) (hs : slots + rm.slots ≤ R.slots) :
    ∃ v T' h' L, Stand p l e R (s.setVm T'.vm) m args below meth c T' (locs ++ L) (cells + rm.cells) (slots + rm.slots) ∧ T'.heap = h' ∧ QS v h' T'.vm L ∧ s.Since T'.vm h'.size ∧ Z.Warmed39 (s.setVm T'.vm).vm ∧ (s.setVm T'.vm).vm.findClass own = some m.cls ∧ ∀ t, Steps p.tables e below (T'.setTop (mkF m (pc + 3) Ls (v.toList ++ rest))) t → Steps p.tables e below (T.setTop (mkF m pc Ls S)) t := by
  obtain ⟨v, _, ⟨T4, L4, k4, n4⟩, -, X4, S4, g4, ⟨Lc, hQ, l4, y4, z4⟩, st⟩ := X.specialBackS hx hi hown (mvT hZ w1) (mvT hZ w6) (mvT hZ w4) hy (own_backS (W := W) M hZ w4 w3 hf hl) (g := mkF m pc Ls S) rfl hsize (Steps.refl _) (a := b) (argsL := argsL) (rest := rest) hlen hSt (by show 2 * 0 + _ ≤ _; omega) hd (fun vm1 hw1 => ⟨rfl, eT, hP vm1 hw1, hc, hs⟩)
  dsimp only [Pt.U, Pt.locs, Pt.cells, Pt.slots] at X4 S4 g4 l4 y4 z4 st hQ
  subst l4 y4 z4 eT
  obtain ⟨X5, S5, Z5, O5⟩ := rebS hS hk X4 S4 g4 hZ hown
  exact ⟨v, T4, _, Lc, X5, rfl, hQ, S5, Z5, O5, fun t k => st.trans k⟩
/-! Strings of the compact kind -/
def own_Str (Z : State) (h : Heap) (a b : Addr) (k : ClassId) (n : Int32) (bs : List Value) : Prop :=
  Exa Z h a "java/lang/String" ∧ Fld Z h a "java/lang/String" "value" "[B" (.ref b) ∧ Fld Z h a "java/lang/String" "coder" "B" (.int (0 : Int32)) ∧ Arv Z h b k .byte n bs (.int (0 : Int32))
theorem own_Str.ext {a b : Addr} {k : ClassId} {n : Int32} {bs : List Value} (F : own_Str Z h a b k n bs) (E : Ext h h') : own_Str Z h' a b k n bs := ⟨F.1.ext E, F.2.1.ext E, F.2.2.1.ext E, F.2.2.2.ext E⟩
theorem own_Str.keep {a b : Addr} {k : ClassId} {n : Int32} {bs : List Value} {ws : List Addr} (F : own_Str Z h a b k n bs) (K : Keep h h' ws) (q1 : a ∉ ws) (q2 : b ∉ ws) : own_Str Z h' a b k n bs := ⟨F.1.keep K, F.2.1.keep K q1, F.2.2.1.keep K q1, F.2.2.2.keep K q2⟩
theorem own_Str.other {a b x : Addr} {k : ClassId} {n : Int32} {bs : List Value} {sl : Nat} {v : Value} (F : own_Str Z h a b k n bs) (W : Wr h h' x sl v) (q1 : a ≠ x) (q2 : b ≠ x) : own_Str Z h' a b k n bs := ⟨F.1.wr W, F.2.1.other W (Or.inl q1), F.2.2.1.other W (Or.inl q1), F.2.2.2.other W q2⟩
/-- what is known of the constant "" of String's own pool: not loaded since the start, or loaded -/
def own_E (Z : State) (vm : Vm) (h : Heap) : Prop := IB Z vm [] ∨ ∃ (a b : Addr) (k : ClassId), Lit (Z.setVm vm) "java/lang/String" 7 a ∧ own_Str Z h a b k (0 : Int32) []
theorem own_E_keep {vm : Vm} (F : own_E Z vm h) (K : Keep h h' []) : own_E Z vm h' := by
  rcases F with F | ⟨a, b, k, L, F⟩
  · exact Or.inl F
  · exact Or.inr ⟨a, b, k, L, F.keep K nin0 nin0⟩
theorem own_E_warm {vm1 : Vm} (F : own_E Z vm0 h) (W : (s.setVm vm0).WarmedH vm1) : own_E Z vm1 h := by
  rcases F with ⟨more, q1, q2⟩ | ⟨a, b, k, L, F⟩
  · exact Or.inl ⟨more, W.interned_eq.trans q1, q2⟩
  · exact Or.inr ⟨a, b, k, Lit.stays (s := s) L W.wide, F⟩
end OwnS
theorem own_sa : ∀ a ∈ Bundle.stringAtoms, a ∈ tables_1 := by decide +kernel
/-! the plain law -/
def own_mkr (la c0 c1 n : Int32) (bs : List Value) : Prop := (la = 0 ∧ n = 0 ∧ bs = []) ∨ (la = 1 ∧ n = 1 ∧ bs = [(.int c0.toInt8.toInt32)]) ∨ (la = 2 ∧ n = 2 ∧ bs = [(.int c0.toInt8.toInt32), (.int c1.toInt8.toInt32)])
theorem own_noInst {Z : State} {a0 : Array Value} {C O K : String} {n : Nat} (w : (Jvm.Cond.superclass C O).before a0 Z = true) (w0 : (Jvm.Cond.noSuperclass O).before a0 Z = true) (wi : (Jvm.Cond.instantiable K n).before a0 Z = true) (h1 : C ≠ K) (h2 : O ≠ K) : ∃ c t, Z.vm.findClass C = some c ∧ Z.vm.findClass K = some t ∧ Z.vm.assignable c t = false := by
  obtain ⟨t, kt, g1, g2, g3, g4, -⟩ := Cond.instantiable_spec wi
  obtain ⟨o, ko, o1, o2, o3, -, -⟩ := Cond.noSuperclass_spec w0
  obtain ⟨c, c1⟩ := found_sup w
  obtain ⟨q, k, kq, s1, s2, s3, s4, s5, -, s7⟩ := Cond.superclass_spec c1 w
  cases o1.symm.trans s1
  cases o2.symm.trans s3
  have n1 := ids_ne c1 g1 h1
  have n2 := ids_ne o1 g1 h2
  have g5 : kt.isInterface = false := by simp only [Bool.or_eq_false_iff] at g4; exact g4.1
  have su : ∀ fuel, Z.vm.isSubclassAux fuel c t = false := fun fuel => by
    cases fuel with
    | zero => rfl
    | succ f => cases f with
      | zero => simp [Vm.isSubclassAux, n1, s2, s4]
      | succ g => simp [Vm.isSubclassAux, n1, n2, s2, s4, s3, o3]
  refine ⟨c, t, c1, g1, ?_⟩
  show Z.vm.assignableAux (255 + 1) c t = false
  simp [Vm.assignableAux, n1, s2, g2, s5, g3, g5, Vm.isSubclass, su]
def own_eqr (la c0 c1 lb d0 d1 : Int32) : Int32 := if la = lb ∧ (la < 1 ∨ c0 = d0) ∧ (la < 2 ∨ c1 = d1) then 1 else 0
theorem own_eqr_comm (la c0 c1 lb d0 d1 : Int32) : own_eqr la c0 c1 lb d0 d1 = own_eqr lb d0 d1 la c0 c1 := by
  unfold own_eqr
  by_cases h : la = lb
  · subst h; simp only [eq_comm (a := c0), eq_comm (a := c1)]
  · rw [if_neg (fun q => h q.1), if_neg (fun q => h q.1.symm)]
theorem own_eqr1 {la c0 c1 lb d0 d1 : Int32} (h : ¬ own_eqr la c0 c1 lb d0 d1 = (0 : Int32)) : own_eqr la c0 c1 lb d0 d1 = 1 := by
  unfold own_eqr at h ⊢
  by_cases q : la = lb ∧ (la < 1 ∨ c0 = d0) ∧ (la < 2 ∨ c1 = d1)
  · rw [if_pos q]
  · rw [if_neg q] at h; exact absurd rfl h
theorem own_m3 (x : Int32) : ∃ la : Int32, (x &&& (255 : Int32)) % (3 : Int32) = la ∧ (la = 0 ∨ la = 1 ∨ la = 2) := by
  have e1 : (x &&& (255 : Int32)).toInt = x.toInt % (2 ^ 8 : Nat) := c_mask x _ 8 (by decide) (by decide)
  refine ⟨_, rfl, ?_⟩
  have e2 : ((x &&& (255 : Int32)) % (3 : Int32)).toInt = (x &&& (255 : Int32)).toInt % 3 := by
    rw [Int32.toInt_mod]; show Int.tmod _ 3 = _; exact Int.tmod_eq_emod_of_nonneg (by omega)
  have k0 : (0 : Int32).toInt = 0 := by decide
  have k1 : (1 : Int32).toInt = 1 := by decide
  have k2 : (2 : Int32).toInt = 2 := by decide
  rw [← Int32.toInt_inj, ← Int32.toInt_inj, ← Int32.toInt_inj, k0, k1, k2]; omega

theorem d20_0 : decode jdk_52_method_15_code 0 = .ok (.iload_n 1, 1) := by decide +kernel
theorem d20_1 : decode jdk_52_method_15_code 1 = .ok (.aload_n 0, 1) := by decide +kernel
theorem d20_2 : decode jdk_52_method_15_code 2 = .ok (.arraylength, 1) := by decide +kernel
theorem d20_3 : decode jdk_52_method_15_code 3 = .ok (.isub, 1) := by decide +kernel
theorem d20_4 : decode jdk_52_method_15_code 4 = .ok (.bipush 31, 2) := by decide +kernel
theorem d20_6 : decode jdk_52_method_15_code 6 = .ok (.iushr, 1) := by decide +kernel
theorem d20_7 : decode jdk_52_method_15_code 7 = .ok (.i2b, 1) := by decide +kernel
theorem d20_8 : decode jdk_52_method_15_code 8 = .ok (.ireturn, 1) := by decide +kernel
theorem ef_20 (m : MethodId) (e0 : Addr) (e1 : Int32) : entryFrame m #[(.ref e0), (.int e1)] 2 = mkF m 0 #[.val (.ref e0), .val (.int e1)] [] := by first | (simp [entryFrame, mkF, argsToLocals, Value.category]; done) | rfl
set_option maxRecDepth 65536 in
set_option maxHeartbeats 40000000 in
theorem rm20 (l : Launch) (Z : State) (a0 : Array Value) (hw : ∀ d ∈ tables_1, d.before a0 Z = true) (ws : List Jvm.Cond) (b1 : Addr) (z1 : Int32) (k1 : ClassId) (vs : List Value) (h0 : Heap) (n0 : Nat) (Z0 : n0 ≤ h0.size) (V1 : Arv Z h0 b1 k1 .byte z1 vs (.int (0 : Int32))) :
    own_Ct l Z (⟨"java/lang/StringUTF16", "coderFromArrayLen", "([BI)B"⟩ : MethodName) jdk_52_method_15_code 2 (some .byte) ws ({ frames := 0, cells := 0, slots := 0, locals := 0 } : Room) #[(.ref b1), (.int z1)] h0 (fun v h L => v = some (.int (0 : Int32)) ∧ L = [] ∧ h = h0) ({ frames := 0, cells := 0, slots := 0, locals := 0 } : Room).cells ({ frames := 0, cells := 0, slots := 0, locals := 0 } : Room).slots := by
  refine own_met (plainFor_of_name pn_java_lang_StringUTF16) (fun p e s m below meth c s₁ X0 hx hby hml hret hlk hnm hown hZ e0 => ?_)
  have hml : c.maxLocals = 2 := hml
  have N0 := Fr.nil n0
  refine own_st (fun _ k => castTop (ef_20 m b1 z1) k) ?_
  show own_Goes p e below (s₁.setTop (mkF m 0 #[.val (.ref b1), .val (.int z1)] [])) _
  refine own_st (fun _ k => XS.iloadN X0.here hx rfl (hb hby d20_0) rfl k) ?_
  show own_Goes p e below (s₁.setTop (mkF m 1 #[.val (.ref b1), .val (.int z1)] [(.int z1)])) _
  refine own_st (fun _ k => XS.aloadN X0.here hx rfl (hb hby d20_1) rfl rfl k) ?_
  show own_Goes p e below (s₁.setTop (mkF m 2 #[.val (.ref b1), .val (.int z1)] [(.ref b1), (.int z1)])) _
  refine own_st (own_len (pc := 2) (Ls := #[.val (.ref b1), .val (.int z1)]) (rest := [(.int z1)]) X0 hx hZ e0 V1 (hb hby d20_2)) ?_
  show own_Goes p e below (s₁.setTop (mkF m 3 #[.val (.ref b1), .val (.int z1)] [(.int z1), (.int z1)])) _
  refine own_st (fun _ k => XS.isub X0.here hx rfl (hb hby d20_3) rfl k) ?_
  show own_Goes p e below (s₁.setTop (mkF m 4 #[.val (.ref b1), .val (.int z1)] [(.int (z1 - z1))])) _
  refine own_st (fun _ k => XS.bipush X0.here hx rfl (hb hby d20_4) k) ?_
  show own_Goes p e below (s₁.setTop (mkF m 6 #[.val (.ref b1), .val (.int z1)] [(.int (31 : Int32)), (.int (z1 - z1))])) _
  refine own_st (fun _ k => XT.iushr X0.here hx rfl (hb hby d20_6) rfl k) ?_
  show own_Goes p e below (s₁.setTop (mkF m 7 #[.val (.ref b1), .val (.int z1)] [(.int (XT.ushr (z1 - z1) (31 : Int32)))])) _
  refine own_st (fun _ k => XT.i2b X0.here hx rfl (hb hby d20_7) rfl k) ?_
  show own_Goes p e below (s₁.setTop (mkF m 8 #[.val (.ref b1), .val (.int z1)] [(.int (XT.ushr (z1 - z1) (31 : Int32)).toInt8.toInt32)])) _
  rw [own_cfl]
  show own_Goes p e below (s₁.setTop (mkF m 8 #[.val (.ref b1), .val (.int z1)] [(.int (0 : Int32))])) _
  exact own_retN (t := .byte) (z' := (0 : Int32)) X0 hx hlk hret (by simp) (by decide) (hb hby d20_8) (by decide) (by decide) e0 ⟨rfl, rfl, rfl⟩
theorem d30_0 : decode jdk_52_method_21_code 0 = .ok (.iconst 0, 1) := by decide +kernel
theorem d30_1 : decode jdk_52_method_21_code 1 = .ok (.istore 5, 2) := by decide +kernel
theorem d30_3 : decode jdk_52_method_21_code 3 = .ok (.iload 5, 2) := by decide +kernel
theorem d30_5 : decode jdk_52_method_21_code 5 = .ok (.iload 4, 2) := by decide +kernel
theorem d30_7 : decode jdk_52_method_21_code 7 = .ok (.if_icmp .ge 37, 3) := by decide +kernel
theorem d30_10 : decode jdk_52_method_21_code 10 = .ok (.aload_n 0, 1) := by decide +kernel
theorem d30_11 : decode jdk_52_method_21_code 11 = .ok (.iload_n 1, 1) := by decide +kernel
theorem d30_12 : decode jdk_52_method_21_code 12 = .ok (.caload, 1) := by decide +kernel
theorem d30_13 : decode jdk_52_method_21_code 13 = .ok (.istore 6, 2) := by decide +kernel
theorem d30_15 : decode jdk_52_method_21_code 15 = .ok (.iload 6, 2) := by decide +kernel
theorem d30_17 : decode jdk_52_method_21_code 17 = .ok (.sipush 255, 3) := by decide +kernel
theorem d30_20 : decode jdk_52_method_21_code 20 = .ok (.if_icmp .le 6, 3) := by decide +kernel
theorem d30_26 : decode jdk_52_method_21_code 26 = .ok (.aload_n 2, 1) := by decide +kernel
theorem d30_27 : decode jdk_52_method_21_code 27 = .ok (.iload_n 3, 1) := by decide +kernel
theorem d30_28 : decode jdk_52_method_21_code 28 = .ok (.iload 6, 2) := by decide +kernel
theorem d30_30 : decode jdk_52_method_21_code 30 = .ok (.i2b, 1) := by decide +kernel
theorem d30_31 : decode jdk_52_method_21_code 31 = .ok (.bastore, 1) := by decide +kernel
theorem d30_32 : decode jdk_52_method_21_code 32 = .ok (.iinc 1 1, 3) := by decide +kernel
theorem d30_35 : decode jdk_52_method_21_code 35 = .ok (.iinc 3 1, 3) := by decide +kernel
theorem d30_38 : decode jdk_52_method_21_code 38 = .ok (.iinc 5 1, 3) := by decide +kernel
theorem d30_41 : decode jdk_52_method_21_code 41 = .ok (.goto (-38), 3) := by decide +kernel
theorem d30_44 : decode jdk_52_method_21_code 44 = .ok (.iload 4, 2) := by decide +kernel
theorem d30_46 : decode jdk_52_method_21_code 46 = .ok (.ireturn, 1) := by decide +kernel
theorem ef_30 (m : MethodId) (e0 : Addr) (e1 : Int32) (e2 : Addr) (e3 : Int32) (e4 : Int32) : entryFrame m #[(.ref e0), (.int e1), (.ref e2), (.int e3), (.int e4)] 7 = mkF m 0 #[.val (.ref e0), .val (.int e1), .val (.ref e2), .val (.int e3), .val (.int e4), .unset, .unset] [] := by first | (simp [entryFrame, mkF, argsToLocals, Value.category]; done) | rfl
set_option maxRecDepth 65536 in
set_option maxHeartbeats 40000000 in
theorem rm30 (l : Launch) (Z : State) (a0 : Array Value) (hw : ∀ d ∈ tables_1, d.before a0 Z = true) (ws : List Jvm.Cond) (a1 b1 : Addr) (ka kb : ClassId) (c0 : Int32) (h0 : Heap) (n0 : Nat) (Z0 : n0 ≤ h0.size) (V1 : Arv Z h0 a1 ka .char (1 : Int32) [(.int c0)] (.int (0 : Int32))) (V2 : Arv Z h0 b1 kb .byte (1 : Int32) [(.int (0 : Int32))] (.int (0 : Int32))) (g1 : n0 ≤ b1) (ne1 : a1 ≠ b1) (hc0 : own_c8 c0) :
    own_Ct l Z (⟨"java/lang/StringUTF16", "compress", "([CI[BII)I"⟩ : MethodName) jdk_52_method_21_code 7 (some .int) ws ({ frames := 0, cells := 0, slots := 0, locals := 0 } : Room) #[(.ref a1), (.int (0 : Int32)), (.ref b1), (.int (0 : Int32)), (.int (1 : Int32))] h0 (fun v h L => v = some (.int (1 : Int32)) ∧ Fr n0 L ∧ Keep h0 h [b1] ∧ Arv Z h b1 kb .byte (1 : Int32) [(.int c0.toInt8.toInt32)] (.int (0 : Int32))) ({ frames := 0, cells := 0, slots := 0, locals := 0 } : Room).cells ({ frames := 0, cells := 0, slots := 0, locals := 0 } : Room).slots := by
  refine own_met (plainFor_of_name pn_java_lang_StringUTF16) (fun p e s m below meth c s₁ X0 hx hby hml hret hlk hnm hown hZ e0 => ?_)
  have hml : c.maxLocals = 7 := hml
  have N0 := Fr.nil n0
  refine own_st (fun _ k => castTop (ef_30 m a1 (0 : Int32) b1 (0 : Int32) (1 : Int32)) k) ?_
  show own_Goes p e below (s₁.setTop (mkF m 0 #[.val (.ref a1), .val (.int (0 : Int32)), .val (.ref b1), .val (.int (0 : Int32)), .val (.int (1 : Int32)), .unset, .unset] [])) _
  refine own_st (fun _ k => XS.iconst X0.here hx rfl (hb hby d30_0) k) ?_
  show own_Goes p e below (s₁.setTop (mkF m 1 #[.val (.ref a1), .val (.int (0 : Int32)), .val (.ref b1), .val (.int (0 : Int32)), .val (.int (1 : Int32)), .unset, .unset] [(.int (0 : Int32))])) _
  refine own_st (fun _ k => XS.istore X0.here hx rfl (hb hby d30_1) rfl (l' := #[.val (.ref a1), .val (.int (0 : Int32)), .val (.ref b1), .val (.int (0 : Int32)), .val (.int (1 : Int32)), .val (.int (0 : Int32)), .unset]) rfl k) ?_
  show own_Goes p e below (s₁.setTop (mkF m 3 #[.val (.ref a1), .val (.int (0 : Int32)), .val (.ref b1), .val (.int (0 : Int32)), .val (.int (1 : Int32)), .val (.int (0 : Int32)), .unset] [])) _
  refine own_st (fun _ k => XS.iload X0.here hx rfl (hb hby d30_3) rfl k) ?_
  show own_Goes p e below (s₁.setTop (mkF m 5 #[.val (.ref a1), .val (.int (0 : Int32)), .val (.ref b1), .val (.int (0 : Int32)), .val (.int (1 : Int32)), .val (.int (0 : Int32)), .unset] [(.int (0 : Int32))])) _
  refine own_st (fun _ k => XS.iload X0.here hx rfl (hb hby d30_5) rfl k) ?_
  show own_Goes p e below (s₁.setTop (mkF m 7 #[.val (.ref a1), .val (.int (0 : Int32)), .val (.ref b1), .val (.int (0 : Int32)), .val (.int (1 : Int32)), .val (.int (0 : Int32)), .unset] [(.int (1 : Int32)), (.int (0 : Int32))])) _
  refine own_st (fun _ k => XS.icmpNo X0.here hx rfl (hb hby d30_7) rfl (tlt (by decide : (0 : Int32) < (1 : Int32))).2.1 k) ?_
  show own_Goes p e below (s₁.setTop (mkF m 10 #[.val (.ref a1), .val (.int (0 : Int32)), .val (.ref b1), .val (.int (0 : Int32)), .val (.int (1 : Int32)), .val (.int (0 : Int32)), .unset] [])) _
  refine own_st (fun _ k => XS.aloadN X0.here hx rfl (hb hby d30_10) rfl rfl k) ?_
  show own_Goes p e below (s₁.setTop (mkF m 11 #[.val (.ref a1), .val (.int (0 : Int32)), .val (.ref b1), .val (.int (0 : Int32)), .val (.int (1 : Int32)), .val (.int (0 : Int32)), .unset] [(.ref a1)])) _
  refine own_st (fun _ k => XS.iloadN X0.here hx rfl (hb hby d30_11) rfl k) ?_
  show own_Goes p e below (s₁.setTop (mkF m 12 #[.val (.ref a1), .val (.int (0 : Int32)), .val (.ref b1), .val (.int (0 : Int32)), .val (.int (1 : Int32)), .val (.int (0 : Int32)), .unset] [(.int (0 : Int32)), (.ref a1)])) _
  refine own_st (own_ldC (v := (.int c0)) (pc := 12) (Ls := #[.val (.ref a1), .val (.int (0 : Int32)), .val (.ref b1), .val (.int (0 : Int32)), .val (.int (1 : Int32)), .val (.int (0 : Int32)), .unset]) (rest := []) (j := (0 : Int32)) X0 hx hZ e0 V1 (by decide) rfl (hb hby d30_12)) ?_
  show own_Goes p e below (s₁.setTop (mkF m 13 #[.val (.ref a1), .val (.int (0 : Int32)), .val (.ref b1), .val (.int (0 : Int32)), .val (.int (1 : Int32)), .val (.int (0 : Int32)), .unset] [(.int c0)])) _
  refine own_st (fun _ k => XS.istore X0.here hx rfl (hb hby d30_13) rfl (l' := #[.val (.ref a1), .val (.int (0 : Int32)), .val (.ref b1), .val (.int (0 : Int32)), .val (.int (1 : Int32)), .val (.int (0 : Int32)), .val (.int c0)]) rfl k) ?_
  show own_Goes p e below (s₁.setTop (mkF m 15 #[.val (.ref a1), .val (.int (0 : Int32)), .val (.ref b1), .val (.int (0 : Int32)), .val (.int (1 : Int32)), .val (.int (0 : Int32)), .val (.int c0)] [])) _
  refine own_st (fun _ k => XS.iload X0.here hx rfl (hb hby d30_15) rfl k) ?_
  show own_Goes p e below (s₁.setTop (mkF m 17 #[.val (.ref a1), .val (.int (0 : Int32)), .val (.ref b1), .val (.int (0 : Int32)), .val (.int (1 : Int32)), .val (.int (0 : Int32)), .val (.int c0)] [(.int c0)])) _
  refine own_st (fun _ k => XS.sipush X0.here hx rfl (hb hby d30_17) k) ?_
  show own_Goes p e below (s₁.setTop (mkF m 20 #[.val (.ref a1), .val (.int (0 : Int32)), .val (.ref b1), .val (.int (0 : Int32)), .val (.int (1 : Int32)), .val (.int (0 : Int32)), .val (.int c0)] [(.int (255 : Int32)), (.int c0)])) _
  refine own_st (fun _ k => XS.icmpYes X0.here hx rfl (pc0 := 20) (pc' := 26) rfl (hb hby d30_20) rfl (flt (own_c8n hc0)).2.2.2 (by decide) (by decide) k) ?_
  show own_Goes p e below (s₁.setTop (mkF m 26 #[.val (.ref a1), .val (.int (0 : Int32)), .val (.ref b1), .val (.int (0 : Int32)), .val (.int (1 : Int32)), .val (.int (0 : Int32)), .val (.int c0)] [])) _
  refine own_st (fun _ k => XS.aloadN X0.here hx rfl (hb hby d30_26) rfl rfl k) ?_
  show own_Goes p e below (s₁.setTop (mkF m 27 #[.val (.ref a1), .val (.int (0 : Int32)), .val (.ref b1), .val (.int (0 : Int32)), .val (.int (1 : Int32)), .val (.int (0 : Int32)), .val (.int c0)] [(.ref b1)])) _
  refine own_st (fun _ k => XS.iloadN X0.here hx rfl (hb hby d30_27) rfl k) ?_
  show own_Goes p e below (s₁.setTop (mkF m 28 #[.val (.ref a1), .val (.int (0 : Int32)), .val (.ref b1), .val (.int (0 : Int32)), .val (.int (1 : Int32)), .val (.int (0 : Int32)), .val (.int c0)] [(.int (0 : Int32)), (.ref b1)])) _
  refine own_st (fun _ k => XS.iload X0.here hx rfl (hb hby d30_28) rfl k) ?_
  show own_Goes p e below (s₁.setTop (mkF m 30 #[.val (.ref a1), .val (.int (0 : Int32)), .val (.ref b1), .val (.int (0 : Int32)), .val (.int (1 : Int32)), .val (.int (0 : Int32)), .val (.int c0)] [(.int c0), (.int (0 : Int32)), (.ref b1)])) _
  refine own_st (fun _ k => XT.i2b X0.here hx rfl (hb hby d30_30) rfl k) ?_
  show own_Goes p e below (s₁.setTop (mkF m 31 #[.val (.ref a1), .val (.int (0 : Int32)), .val (.ref b1), .val (.int (0 : Int32)), .val (.int (1 : Int32)), .val (.int (0 : Int32)), .val (.int c0)] [(.int c0.toInt8.toInt32), (.int (0 : Int32)), (.ref b1)])) _
  obtain ⟨T101, h101, X101, e101, W101, V101, st101⟩ := own_stB (x := c0.toInt8.toInt32) (pc := 31) (Ls := #[.val (.ref a1), .val (.int (0 : Int32)), .val (.ref b1), .val (.int (0 : Int32)), .val (.int (1 : Int32)), .val (.int (0 : Int32)), .val (.int c0)]) (rest := []) (j := (0 : Int32)) X0 hx hZ e0 V2 0 (by decide) (by decide) (Nat.le_of_ble_eq_true rfl) (hb hby d30_31)
  rw [own_b8] at V101
  have V101 : Arv Z h101 b1 kb .byte (1 : Int32) [(.int c0.toInt8.toInt32)] (.int (0 : Int32)) := V101
  have N101 := Fr.snoc X101 N0 g1
  refine own_st st101 ?_
  show own_Goes p e below (T101.setTop (mkF m 32 #[.val (.ref a1), .val (.int (0 : Int32)), .val (.ref b1), .val (.int (0 : Int32)), .val (.int (1 : Int32)), .val (.int (0 : Int32)), .val (.int c0)] [])) _
  refine own_st (fun _ k => XS.iinc X101.here hx rfl (hb hby d30_32) rfl (l' := #[.val (.ref a1), .val (.int (1 : Int32)), .val (.ref b1), .val (.int (0 : Int32)), .val (.int (1 : Int32)), .val (.int (0 : Int32)), .val (.int c0)]) rfl k) ?_
  show own_Goes p e below (T101.setTop (mkF m 35 #[.val (.ref a1), .val (.int (1 : Int32)), .val (.ref b1), .val (.int (0 : Int32)), .val (.int (1 : Int32)), .val (.int (0 : Int32)), .val (.int c0)] [])) _
  refine own_st (fun _ k => XS.iinc X101.here hx rfl (hb hby d30_35) rfl (l' := #[.val (.ref a1), .val (.int (1 : Int32)), .val (.ref b1), .val (.int (1 : Int32)), .val (.int (1 : Int32)), .val (.int (0 : Int32)), .val (.int c0)]) rfl k) ?_
  show own_Goes p e below (T101.setTop (mkF m 38 #[.val (.ref a1), .val (.int (1 : Int32)), .val (.ref b1), .val (.int (1 : Int32)), .val (.int (1 : Int32)), .val (.int (0 : Int32)), .val (.int c0)] [])) _
  refine own_st (fun _ k => XS.iinc X101.here hx rfl (hb hby d30_38) rfl (l' := #[.val (.ref a1), .val (.int (1 : Int32)), .val (.ref b1), .val (.int (1 : Int32)), .val (.int (1 : Int32)), .val (.int (1 : Int32)), .val (.int c0)]) rfl k) ?_
  show own_Goes p e below (T101.setTop (mkF m 41 #[.val (.ref a1), .val (.int (1 : Int32)), .val (.ref b1), .val (.int (1 : Int32)), .val (.int (1 : Int32)), .val (.int (1 : Int32)), .val (.int c0)] [])) _
  refine own_st (fun _ k => XS.goto X101.here hx rfl (pc0 := 41) (pc' := 3) rfl (hb hby d30_41) (by decide) (by decide) k) ?_
  show own_Goes p e below (T101.setTop (mkF m 3 #[.val (.ref a1), .val (.int (1 : Int32)), .val (.ref b1), .val (.int (1 : Int32)), .val (.int (1 : Int32)), .val (.int (1 : Int32)), .val (.int c0)] [])) _
  refine own_st (fun _ k => XS.iload X101.here hx rfl (hb hby d30_3) rfl k) ?_
  show own_Goes p e below (T101.setTop (mkF m 5 #[.val (.ref a1), .val (.int (1 : Int32)), .val (.ref b1), .val (.int (1 : Int32)), .val (.int (1 : Int32)), .val (.int (1 : Int32)), .val (.int c0)] [(.int (1 : Int32))])) _
  refine own_st (fun _ k => XS.iload X101.here hx rfl (hb hby d30_5) rfl k) ?_
  show own_Goes p e below (T101.setTop (mkF m 7 #[.val (.ref a1), .val (.int (1 : Int32)), .val (.ref b1), .val (.int (1 : Int32)), .val (.int (1 : Int32)), .val (.int (1 : Int32)), .val (.int c0)] [(.int (1 : Int32)), (.int (1 : Int32))])) _
  refine own_st (fun _ k => XS.icmpYes X101.here hx rfl (pc0 := 7) (pc' := 44) rfl (hb hby d30_7) rfl (flt (by decide : ¬ ((1 : Int32) < (1 : Int32)))).2.1 (by decide) (by decide) k) ?_
  show own_Goes p e below (T101.setTop (mkF m 44 #[.val (.ref a1), .val (.int (1 : Int32)), .val (.ref b1), .val (.int (1 : Int32)), .val (.int (1 : Int32)), .val (.int (1 : Int32)), .val (.int c0)] [])) _
  refine own_st (fun _ k => XS.iload X101.here hx rfl (hb hby d30_44) rfl k) ?_
  show own_Goes p e below (T101.setTop (mkF m 46 #[.val (.ref a1), .val (.int (1 : Int32)), .val (.ref b1), .val (.int (1 : Int32)), .val (.int (1 : Int32)), .val (.int (1 : Int32)), .val (.int c0)] [(.int (1 : Int32))])) _
  have f102 := ((Keep.refl h0 [b1]).wr W101 (Or.inl (by simp)))
  exact own_retI X101 hx hlk hret (hb hby d30_46) (by decide) (by decide) e101 ⟨rfl, N101, f102, V101⟩
theorem d31_0 : decode jdk_52_method_16_code 0 = .ok (.iload_n 2, 1) := by decide +kernel
theorem d31_1 : decode jdk_52_method_16_code 1 = .ok (.newarray .byte, 2) := by decide +kernel
theorem d31_3 : decode jdk_52_method_16_code 3 = .ok (.astore_n 3, 1) := by decide +kernel
theorem d31_4 : decode jdk_52_method_16_code 4 = .ok (.aload_n 0, 1) := by decide +kernel
theorem d31_5 : decode jdk_52_method_16_code 5 = .ok (.iload_n 1, 1) := by decide +kernel
theorem d31_6 : decode jdk_52_method_16_code 6 = .ok (.aload_n 3, 1) := by decide +kernel
theorem d31_7 : decode jdk_52_method_16_code 7 = .ok (.iconst 0, 1) := by decide +kernel
theorem d31_8 : decode jdk_52_method_16_code 8 = .ok (.iload_n 2, 1) := by decide +kernel
theorem d31_9 : decode jdk_52_method_16_code 9 = .ok (.invokestatic 115, 3) := by decide +kernel
theorem d31_12 : decode jdk_52_method_16_code 12 = .ok (.istore 4, 2) := by decide +kernel
theorem d31_14 : decode jdk_52_method_16_code 14 = .ok (.iload 4, 2) := by decide +kernel
theorem d31_16 : decode jdk_52_method_16_code 16 = .ok (.iload_n 2, 1) := by decide +kernel
theorem d31_17 : decode jdk_52_method_16_code 17 = .ok (.if_icmp .eq 40, 3) := by decide +kernel
theorem d31_57 : decode jdk_52_method_16_code 57 = .ok (.aload_n 3, 1) := by decide +kernel
theorem d31_58 : decode jdk_52_method_16_code 58 = .ok (.areturn, 1) := by decide +kernel
theorem ef_31 (m : MethodId) (e0 : Addr) (e1 : Int32) (e2 : Int32) : entryFrame m #[(.ref e0), (.int e1), (.int e2)] 6 = mkF m 0 #[.val (.ref e0), .val (.int e1), .val (.int e2), .unset, .unset, .unset] [] := by first | (simp [entryFrame, mkF, argsToLocals, Value.category]; done) | rfl
set_option maxRecDepth 65536 in
set_option maxHeartbeats 40000000 in
theorem rm31 (l : Launch) (Z : State) (a0 : Array Value) (hw : ∀ d ∈ tables_1, d.before a0 Z = true) (ws : List Jvm.Cond) (a1 : Addr) (ka : ClassId) (c0 : Int32) (h0 : Heap) (n0 : Nat) (Z0 : n0 ≤ h0.size) (V1 : Arv Z h0 a1 ka .char (1 : Int32) [(.int c0)] (.int (0 : Int32))) (hc0 : own_c8 c0) :
    own_Ct l Z (⟨"java/lang/StringUTF16", "compress", "([CII)[B"⟩ : MethodName) jdk_52_method_16_code 6 (some (.array .byte)) ws ({ frames := 1, cells := 1, slots := 1, locals := 18 } : Room) #[(.ref a1), (.int (0 : Int32)), (.int (1 : Int32))] h0 (fun v h L => ∃ (b : Addr) (kb : ClassId), v = some (.ref b) ∧ n0 ≤ b ∧ h0.size ≤ b ∧ Fr n0 L ∧ Keep h0 h [] ∧ Arv Z h b kb .byte (1 : Int32) [(.int c0.toInt8.toInt32)] (.int (0 : Int32))) ({ frames := 1, cells := 1, slots := 1, locals := 18 } : Room).cells ({ frames := 1, cells := 1, slots := 1, locals := 18 } : Room).slots := by
  refine own_met (plainFor_of_name pn_java_lang_StringUTF16) (fun p e s m below meth c s₁ X0 hx hby hml hret hlk hnm hown hZ e0 => ?_)
  have hml : c.maxLocals = 6 := hml
  have N0 := Fr.nil n0
  refine own_st (fun _ k => castTop (ef_31 m a1 (0 : Int32) (1 : Int32)) k) ?_
  show own_Goes p e below (s₁.setTop (mkF m 0 #[.val (.ref a1), .val (.int (0 : Int32)), .val (.int (1 : Int32)), .unset, .unset, .unset] [])) _
  refine own_st (fun _ k => XS.iloadN X0.here hx rfl (hb hby d31_0) rfl k) ?_
  show own_Goes p e below (s₁.setTop (mkF m 1 #[.val (.ref a1), .val (.int (0 : Int32)), .val (.int (1 : Int32)), .unset, .unset, .unset] [(.int (1 : Int32))])) _
  obtain ⟨T101, h101, k101, X101, e101, E101, A101, st101⟩ := newP X0 hx hZ (hw _ (List.mem_of_getElem? (i := 23) rfl)) e0 (g := (mkF m 1 #[.val (.ref a1), .val (.int (0 : Int32)), .val (.int (1 : Int32)), .unset, .unset, .unset] [(.int (1 : Int32))])) rfl (hb hby d31_1) rfl (by decide) (cap := 1) (by decide) (by decide) (by decide) (by decide)
  obtain ⟨b101, g101⟩ : ∃ z, z = h0.size := ⟨_, rfl⟩
  rw [← g101] at A101 st101
  have g_b101 : n0 ≤ b101 := Nat.le_trans Z0 (Nat.le_of_eq g101.symm)
  have sz_b101 : h0.size ≤ b101 := Nat.le_trans (Keep.refl h0 []).1 (Nat.le_of_eq g101.symm)
  have ne_a1_b101 : a1 ≠ b101 := by rw [g101]; exact Nat.ne_of_lt (V1).lt
  have V_b101 : Arv Z h101 b101 k101 .byte (1 : Int32) [(.int (0 : Int32))] (.int (0 : Int32)) := Arv.pad (Arv.new A101 (by decide)) (pad_rep [] _ 1)
  refine own_st st101 ?_
  show own_Goes p e below (T101.setTop (mkF m 3 #[.val (.ref a1), .val (.int (0 : Int32)), .val (.int (1 : Int32)), .unset, .unset, .unset] [(.ref b101)])) _
  refine own_st (fun _ k => XS.astoreN X101.here hx rfl (hb hby d31_3) rfl rfl (l' := #[.val (.ref a1), .val (.int (0 : Int32)), .val (.int (1 : Int32)), .val (.ref b101), .unset, .unset]) rfl k) ?_
  show own_Goes p e below (T101.setTop (mkF m 4 #[.val (.ref a1), .val (.int (0 : Int32)), .val (.int (1 : Int32)), .val (.ref b101), .unset, .unset] [])) _
  refine own_st (fun _ k => XS.aloadN X101.here hx rfl (hb hby d31_4) rfl rfl k) ?_
  show own_Goes p e below (T101.setTop (mkF m 5 #[.val (.ref a1), .val (.int (0 : Int32)), .val (.int (1 : Int32)), .val (.ref b101), .unset, .unset] [(.ref a1)])) _
  refine own_st (fun _ k => XS.iloadN X101.here hx rfl (hb hby d31_5) rfl k) ?_
  show own_Goes p e below (T101.setTop (mkF m 6 #[.val (.ref a1), .val (.int (0 : Int32)), .val (.int (1 : Int32)), .val (.ref b101), .unset, .unset] [(.int (0 : Int32)), (.ref a1)])) _
  refine own_st (fun _ k => XS.aloadN X101.here hx rfl (hb hby d31_6) rfl rfl k) ?_
  show own_Goes p e below (T101.setTop (mkF m 7 #[.val (.ref a1), .val (.int (0 : Int32)), .val (.int (1 : Int32)), .val (.ref b101), .unset, .unset] [(.ref b101), (.int (0 : Int32)), (.ref a1)])) _
  refine own_st (fun _ k => XS.iconst X101.here hx rfl (hb hby d31_7) k) ?_
  show own_Goes p e below (T101.setTop (mkF m 8 #[.val (.ref a1), .val (.int (0 : Int32)), .val (.int (1 : Int32)), .val (.ref b101), .unset, .unset] [(.int (0 : Int32)), (.ref b101), (.int (0 : Int32)), (.ref a1)])) _
  refine own_st (fun _ k => XS.iloadN X101.here hx rfl (hb hby d31_8) rfl k) ?_
  show own_Goes p e below (T101.setTop (mkF m 9 #[.val (.ref a1), .val (.int (0 : Int32)), .val (.int (1 : Int32)), .val (.ref b101), .unset, .unset] [(.int (1 : Int32)), (.int (0 : Int32)), (.ref b101), (.int (0 : Int32)), (.ref a1)])) _
  have f103 := (Nat.le_trans Z0 E101.1)
  have f104 := (V1.ext E101)
  obtain ⟨_, T102, h102, L102, X102, e102, ⟨rfl, N102q, K102, V102⟩, st102⟩ := own_callS (argsL := [(.ref a1), (.int (0 : Int32)), (.ref b101), (.int (0 : Int32)), (.int (1 : Int32))]) (rest := []) (pc := 9) (W := 0) (Ls := #[.val (.ref a1), .val (.int (0 : Int32)), .val (.int (1 : Int32)), .val (.ref b101), .unset, .unset]) (S := [(.int (1 : Int32)), (.int (0 : Int32)), (.ref b101), (.int (0 : Int32)), (.ref a1)]) X101 hx hZ hown (hw _ (List.mem_of_getElem? (i := 24) rfl)) (hw _ (List.mem_of_getElem? (i := 25) rfl)) (hw _ (List.mem_of_getElem? (i := 21) rfl)) (hw _ (List.mem_of_getElem? (i := 26) rfl)) (by decide) (rm30 l Z a0 hw [] a1 b101 ka k101 c0 h101 n0 f103 f104 V_b101 g_b101 ne_a1_b101 hc0) (by decide) (by decide) e101 (by rw [hml]; rfl) (lenOf pd___CI_BII_I rfl) rfl (Nat.le_of_eq rfl) (hb hby d31_9) (by decide) (by decide)
  refine own_st st102 ?_
  have N102 := Fr.app N0 N102q
  show own_Goes p e below (T102.setTop (mkF m 12 #[.val (.ref a1), .val (.int (0 : Int32)), .val (.int (1 : Int32)), .val (.ref b101), .unset, .unset] [(.int (1 : Int32))])) _
  refine own_st (fun _ k => XS.istore X102.here hx rfl (hb hby d31_12) rfl (l' := #[.val (.ref a1), .val (.int (0 : Int32)), .val (.int (1 : Int32)), .val (.ref b101), .val (.int (1 : Int32)), .unset]) rfl k) ?_
  show own_Goes p e below (T102.setTop (mkF m 14 #[.val (.ref a1), .val (.int (0 : Int32)), .val (.int (1 : Int32)), .val (.ref b101), .val (.int (1 : Int32)), .unset] [])) _
  refine own_st (fun _ k => XS.iload X102.here hx rfl (hb hby d31_14) rfl k) ?_
  show own_Goes p e below (T102.setTop (mkF m 16 #[.val (.ref a1), .val (.int (0 : Int32)), .val (.int (1 : Int32)), .val (.ref b101), .val (.int (1 : Int32)), .unset] [(.int (1 : Int32))])) _
  refine own_st (fun _ k => XS.iloadN X102.here hx rfl (hb hby d31_16) rfl k) ?_
  show own_Goes p e below (T102.setTop (mkF m 17 #[.val (.ref a1), .val (.int (0 : Int32)), .val (.int (1 : Int32)), .val (.ref b101), .val (.int (1 : Int32)), .unset] [(.int (1 : Int32)), (.int (1 : Int32))])) _
  refine own_st (fun _ k => XS.icmpYes X102.here hx rfl (pc0 := 17) (pc' := 57) rfl (hb hby d31_17) rfl (teq (by decide : (1 : Int32) = (1 : Int32))).1 (by decide) (by decide) k) ?_
  show own_Goes p e below (T102.setTop (mkF m 57 #[.val (.ref a1), .val (.int (0 : Int32)), .val (.int (1 : Int32)), .val (.ref b101), .val (.int (1 : Int32)), .unset] [])) _
  refine own_st (fun _ k => XS.aloadN X102.here hx rfl (hb hby d31_57) rfl rfl k) ?_
  show own_Goes p e below (T102.setTop (mkF m 58 #[.val (.ref a1), .val (.int (0 : Int32)), .val (.int (1 : Int32)), .val (.ref b101), .val (.int (1 : Int32)), .unset] [(.ref b101)])) _
  have f105 := (((Keep.refl h0 []).ext E101).trans K102 (allS (Or.inr sz_b101) all0))
  exact own_retA X102 hx hlk hret rfl rfl rfl (hb hby d31_58) (by decide) (by decide) e102 ⟨b101, k101, rfl, g_b101, sz_b101, N102, f105, V102⟩
theorem d32_0 : decode jdk_42_method_149_code 0 = .ok (.aload_n 0, 1) := by decide +kernel
theorem d32_1 : decode jdk_42_method_149_code 1 = .ok (.invokespecial 1, 3) := by decide +kernel
theorem d32_4 : decode jdk_42_method_149_code 4 = .ok (.iload_n 3, 1) := by decide +kernel
theorem d32_5 : decode jdk_42_method_149_code 5 = .ok (.ifCond .ne 22, 3) := by decide +kernel
theorem d32_27 : decode jdk_42_method_149_code 27 = .ok (.getstatic 38, 3) := by decide +kernel
theorem d32_30 : decode jdk_42_method_149_code 30 = .ok (.ifCond .eq 28, 3) := by decide +kernel
theorem d32_33 : decode jdk_42_method_149_code 33 = .ok (.aload_n 1, 1) := by decide +kernel
theorem d32_34 : decode jdk_42_method_149_code 34 = .ok (.iload_n 2, 1) := by decide +kernel
theorem d32_35 : decode jdk_42_method_149_code 35 = .ok (.iload_n 3, 1) := by decide +kernel
theorem d32_36 : decode jdk_42_method_149_code 36 = .ok (.invokestatic 177, 3) := by decide +kernel
theorem d32_39 : decode jdk_42_method_149_code 39 = .ok (.astore 5, 2) := by decide +kernel
theorem d32_41 : decode jdk_42_method_149_code 41 = .ok (.aload_n 0, 1) := by decide +kernel
theorem d32_42 : decode jdk_42_method_149_code 42 = .ok (.aload 5, 2) := by decide +kernel
theorem d32_44 : decode jdk_42_method_149_code 44 = .ok (.iload_n 3, 1) := by decide +kernel
theorem d32_45 : decode jdk_42_method_149_code 45 = .ok (.invokestatic 47, 3) := by decide +kernel
theorem d32_48 : decode jdk_42_method_149_code 48 = .ok (.putfield 15, 3) := by decide +kernel
theorem d32_51 : decode jdk_42_method_149_code 51 = .ok (.aload_n 0, 1) := by decide +kernel
theorem d32_52 : decode jdk_42_method_149_code 52 = .ok (.aload 5, 2) := by decide +kernel
theorem d32_54 : decode jdk_42_method_149_code 54 = .ok (.putfield 9, 3) := by decide +kernel
theorem d32_57 : decode jdk_42_method_149_code 57 = .ok (.return_, 1) := by decide +kernel
theorem ef_32 (m : MethodId) (e0 : Addr) (e1 : Addr) (e2 : Int32) (e3 : Int32) : entryFrame m #[(.ref e0), (.ref e1), (.int e2), (.int e3), .null] 6 = mkF m 0 #[.val (.ref e0), .val (.ref e1), .val (.int e2), .val (.int e3), .val .null, .unset] [] := by first | (simp [entryFrame, mkF, argsToLocals, Value.category]; done) | rfl
set_option maxRecDepth 65536 in
set_option maxHeartbeats 40000000 in
theorem rm32 (l : Launch) (Z : State) (a0 : Array Value) (hw : ∀ d ∈ tables_1, d.before a0 Z = true) (ws : List Jvm.Cond) (x1 a1 : Addr) (ka : ClassId) (cs : Int32) (c0 : Int32) (h0 : Heap) (n0 : Nat) (Z0 : n0 ≤ h0.size) (F1 : Fld Z h0 x1 "java/lang/String" "value" "[B" .null) (F2 : Fld Z h0 x1 "java/lang/String" "coder" "B" (.int (0 : Int32))) (E1 : Exa Z h0 x1 "java/lang/String") (V1 : Arv Z h0 a1 ka .char (1 : Int32) [(.int c0)] (.int (0 : Int32))) (g1 : n0 ≤ x1) (ne1 : a1 ≠ x1) (C1 : Sta Z h0 "java/lang/String" "COMPACT_STRINGS" "Z" (.int cs)) (hcs : ¬ cs = (0 : Int32)) (hc0 : own_c8 c0) :
    own_Ct l Z (⟨"java/lang/String", "<init>", "([CIILjava/lang/Void;)V"⟩ : MethodName) jdk_42_method_149_code 6 none ws ({ frames := 2, cells := 1, slots := 1, locals := 36 } : Room) #[(.ref x1), (.ref a1), (.int (0 : Int32)), (.int (1 : Int32)), .null] h0 (fun v h L => v = none ∧ Fr n0 L ∧ Keep h0 h [x1] ∧ ∃ (b : Addr) (kb : ClassId), n0 ≤ b ∧ h0.size ≤ b ∧ own_Str Z h x1 b kb (1 : Int32) [(.int c0.toInt8.toInt32)]) ({ frames := 2, cells := 1, slots := 1, locals := 36 } : Room).cells ({ frames := 2, cells := 1, slots := 1, locals := 36 } : Room).slots := by
  refine own_met (plainFor_of_name pn_java_lang_String) (fun p e s m below meth c s₁ X0 hx hby hml hret hlk hnm hown hZ e0 => ?_)
  have hml : c.maxLocals = 6 := hml
  have N0 := Fr.nil n0
  refine own_st (fun _ k => castTop (ef_32 m x1 a1 (0 : Int32) (1 : Int32)) k) ?_
  show own_Goes p e below (s₁.setTop (mkF m 0 #[.val (.ref x1), .val (.ref a1), .val (.int (0 : Int32)), .val (.int (1 : Int32)), .val .null, .unset] [])) _
  refine own_st (fun _ k => XS.aloadN X0.here hx rfl (hb hby d32_0) rfl rfl k) ?_
  show own_Goes p e below (s₁.setTop (mkF m 1 #[.val (.ref x1), .val (.ref a1), .val (.int (0 : Int32)), .val (.int (1 : Int32)), .val .null, .unset] [(.ref x1)])) _
  obtain ⟨T101, X101, e101, st101⟩ := initO X0 hx hZ hown (hw _ (List.mem_of_getElem? (i := 15) rfl)) (hw _ (List.mem_of_getElem? (i := 16) rfl)) (hw _ (List.mem_of_getElem? (i := 17) rfl)) e0 (g := (mkF m 1 #[.val (.ref x1), .val (.ref a1), .val (.int (0 : Int32)), .val (.int (1 : Int32)), .val .null, .unset] [(.ref x1)])) rfl (by rw [hml]; rfl) rfl (hb hby d32_1) (by decide) (W := 0) (by show 2 * 0 + _ ≤ _; exact Nat.le_of_eq rfl) (by decide)
  refine own_st st101 ?_
  show own_Goes p e below (T101.setTop (mkF m 4 #[.val (.ref x1), .val (.ref a1), .val (.int (0 : Int32)), .val (.int (1 : Int32)), .val .null, .unset] [])) _
  refine own_st (fun _ k => XS.iloadN X101.here hx rfl (hb hby d32_4) rfl k) ?_
  show own_Goes p e below (T101.setTop (mkF m 5 #[.val (.ref x1), .val (.ref a1), .val (.int (0 : Int32)), .val (.int (1 : Int32)), .val .null, .unset] [(.int (1 : Int32))])) _
  refine own_st (fun _ k => XS.ifYes X101.here hx rfl (pc0 := 5) (pc' := 27) rfl (hb hby d32_5) rfl ((if0 _ _).trans (feq (by decide : ¬ ((1 : Int32) = (0 : Int32)))).2) (by decide) (by decide) k) ?_
  show own_Goes p e below (T101.setTop (mkF m 27 #[.val (.ref x1), .val (.ref a1), .val (.int (0 : Int32)), .val (.int (1 : Int32)), .val .null, .unset] [])) _
  obtain ⟨T102, X102, e102, st102⟩ := getS2 X101 hx hZ hown (host := "") (Or.inl (hw _ (List.mem_of_getElem? (i := 18) rfl))) Via.refl e101 C1 (g := (mkF m 27 #[.val (.ref x1), .val (.ref a1), .val (.int (0 : Int32)), .val (.int (1 : Int32)), .val .null, .unset] [])) rfl (hb hby d32_27)
  refine own_st st102 ?_
  show own_Goes p e below (T102.setTop (mkF m 30 #[.val (.ref x1), .val (.ref a1), .val (.int (0 : Int32)), .val (.int (1 : Int32)), .val .null, .unset] [(.int cs)])) _
  refine own_st (fun _ k => XS.ifNo X102.here hx rfl (hb hby d32_30) rfl ((if0 _ _).trans (feq hcs).1) k) ?_
  show own_Goes p e below (T102.setTop (mkF m 33 #[.val (.ref x1), .val (.ref a1), .val (.int (0 : Int32)), .val (.int (1 : Int32)), .val .null, .unset] [])) _
  refine own_st (fun _ k => XS.aloadN X102.here hx rfl (hb hby d32_33) rfl rfl k) ?_
  show own_Goes p e below (T102.setTop (mkF m 34 #[.val (.ref x1), .val (.ref a1), .val (.int (0 : Int32)), .val (.int (1 : Int32)), .val .null, .unset] [(.ref a1)])) _
  refine own_st (fun _ k => XS.iloadN X102.here hx rfl (hb hby d32_34) rfl k) ?_
  show own_Goes p e below (T102.setTop (mkF m 35 #[.val (.ref x1), .val (.ref a1), .val (.int (0 : Int32)), .val (.int (1 : Int32)), .val .null, .unset] [(.int (0 : Int32)), (.ref a1)])) _
  refine own_st (fun _ k => XS.iloadN X102.here hx rfl (hb hby d32_35) rfl k) ?_
  show own_Goes p e below (T102.setTop (mkF m 36 #[.val (.ref x1), .val (.ref a1), .val (.int (0 : Int32)), .val (.int (1 : Int32)), .val .null, .unset] [(.int (1 : Int32)), (.int (0 : Int32)), (.ref a1)])) _
  obtain ⟨_, T103, h103, L103, X103, e103, ⟨b103, k103, rfl, g103, s103, N103q, K103, V103⟩, st103⟩ := own_callS (argsL := [(.ref a1), (.int (0 : Int32)), (.int (1 : Int32))]) (rest := []) (pc := 36) (W := 0) (Ls := #[.val (.ref x1), .val (.ref a1), .val (.int (0 : Int32)), .val (.int (1 : Int32)), .val .null, .unset]) (S := [(.int (1 : Int32)), (.int (0 : Int32)), (.ref a1)]) X102 hx hZ hown (hw _ (List.mem_of_getElem? (i := 19) rfl)) (hw _ (List.mem_of_getElem? (i := 20) rfl)) (hw _ (List.mem_of_getElem? (i := 21) rfl)) (hw _ (List.mem_of_getElem? (i := 22) rfl)) (by decide) (rm31 l Z a0 hw [] a1 ka c0 h0 n0 Z0 V1 hc0) (by decide) (by decide) e102 (by rw [hml]; rfl) (lenOf pd___CII__B rfl) rfl (Nat.le_of_eq rfl) (hb hby d32_36) (by decide) (by decide)
  refine own_st st103 ?_
  have N103 := Fr.app N0 N103q
  have ne103 : x1 ≠ b103 := fun q => Nat.lt_irrefl _ (Nat.lt_of_lt_of_le (q ▸ E1.lt) s103)
  show own_Goes p e below (T103.setTop (mkF m 39 #[.val (.ref x1), .val (.ref a1), .val (.int (0 : Int32)), .val (.int (1 : Int32)), .val .null, .unset] [(.ref b103)])) _
  refine own_st (fun _ k => XS.astore X103.here hx rfl (hb hby d32_39) rfl rfl (l' := #[.val (.ref x1), .val (.ref a1), .val (.int (0 : Int32)), .val (.int (1 : Int32)), .val .null, .val (.ref b103)]) rfl k) ?_
  show own_Goes p e below (T103.setTop (mkF m 41 #[.val (.ref x1), .val (.ref a1), .val (.int (0 : Int32)), .val (.int (1 : Int32)), .val .null, .val (.ref b103)] [])) _
  refine own_st (fun _ k => XS.aloadN X103.here hx rfl (hb hby d32_41) rfl rfl k) ?_
  show own_Goes p e below (T103.setTop (mkF m 42 #[.val (.ref x1), .val (.ref a1), .val (.int (0 : Int32)), .val (.int (1 : Int32)), .val .null, .val (.ref b103)] [(.ref x1)])) _
  refine own_st (fun _ k => XS.aload X103.here hx rfl (hb hby d32_42) rfl rfl k) ?_
  show own_Goes p e below (T103.setTop (mkF m 44 #[.val (.ref x1), .val (.ref a1), .val (.int (0 : Int32)), .val (.int (1 : Int32)), .val .null, .val (.ref b103)] [(.ref b103), (.ref x1)])) _
  refine own_st (fun _ k => XS.iloadN X103.here hx rfl (hb hby d32_44) rfl k) ?_
  show own_Goes p e below (T103.setTop (mkF m 45 #[.val (.ref x1), .val (.ref a1), .val (.int (0 : Int32)), .val (.int (1 : Int32)), .val .null, .val (.ref b103)] [(.int (1 : Int32)), (.ref b103), (.ref x1)])) _
  have f105 := (Nat.le_trans Z0 K103.1)
  obtain ⟨_, T104, h104, L104, X104, e104, ⟨rfl, rfl, q104⟩, st104⟩ := own_callS (argsL := [(.ref b103), (.int (1 : Int32))]) (rest := [(.ref x1)]) (pc := 45) (W := 1) (Ls := #[.val (.ref x1), .val (.ref a1), .val (.int (0 : Int32)), .val (.int (1 : Int32)), .val .null, .val (.ref b103)]) (S := [(.int (1 : Int32)), (.ref b103), (.ref x1)]) X103 hx hZ hown (hw _ (List.mem_of_getElem? (i := 27) rfl)) (hw _ (List.mem_of_getElem? (i := 28) rfl)) (hw _ (List.mem_of_getElem? (i := 21) rfl)) (hw _ (List.mem_of_getElem? (i := 29) rfl)) (by decide) (rm20 l Z a0 hw [] b103 (1 : Int32) k103 _ h103 n0 f105 V103) (by decide) (by decide) e103 (by rw [hml]; rfl) (lenOf pd___BI_B rfl) rfl (Nat.le_of_eq rfl) (hb hby d32_45) (by decide) (by decide)
  refine own_st st104 ?_
  have N104 := Fr.app N103 (Fr.nil n0)
  show own_Goes p e below (T104.setTop (mkF m 48 #[.val (.ref x1), .val (.ref a1), .val (.int (0 : Int32)), .val (.int (1 : Int32)), .val .null, .val (.ref b103)] [(.int (0 : Int32)), (.ref x1)])) _
  have f106 := (F2.keep K103 nin0)
  have f107 := (E1.keep K103)
  obtain ⟨T108, h108, X108, e108, W108, st108⟩ := putFN X104 hx hZ hown (hw _ (List.mem_of_getElem? (i := 30) rfl)) Via.refl (e104.trans q104) f106 f107 (Or.inr ⟨(hw _ (List.mem_of_getElem? (i := 31) rfl)), rfl, hnm⟩) (hw _ (List.mem_of_getElem? (i := 5) rfl)) (ty := .byte) (v' := (.int (0 : Int32))) (by decide) rfl (by decide) (g := (mkF m 48 #[.val (.ref x1), .val (.ref a1), .val (.int (0 : Int32)), .val (.int (1 : Int32)), .val .null, .val (.ref b103)] [(.int (0 : Int32)), (.ref x1)])) rfl rfl (hb hby d32_48)
  have Fw108 := f106.same W108
  have N108 := Fr.snoc X108 N104 g1
  refine own_st st108 ?_
  show own_Goes p e below (T108.setTop (mkF m 51 #[.val (.ref x1), .val (.ref a1), .val (.int (0 : Int32)), .val (.int (1 : Int32)), .val .null, .val (.ref b103)] [])) _
  refine own_st (fun _ k => XS.aloadN X108.here hx rfl (hb hby d32_51) rfl rfl k) ?_
  show own_Goes p e below (T108.setTop (mkF m 52 #[.val (.ref x1), .val (.ref a1), .val (.int (0 : Int32)), .val (.int (1 : Int32)), .val .null, .val (.ref b103)] [(.ref x1)])) _
  refine own_st (fun _ k => XS.aload X108.here hx rfl (hb hby d32_52) rfl rfl k) ?_
  show own_Goes p e below (T108.setTop (mkF m 54 #[.val (.ref x1), .val (.ref a1), .val (.int (0 : Int32)), .val (.int (1 : Int32)), .val .null, .val (.ref b103)] [(.ref b103), (.ref x1)])) _
  have f109 := ((F1.keep K103 nin0).other W108 (Or.inr (slot_ne (t := (.array .byte)) (t' := .byte) (Or.inr (hw _ (List.mem_of_getElem? (i := 33) rfl))) (Or.inr (hw _ (List.mem_of_getElem? (i := 31) rfl))) (by decide) (by decide) (by decide))))
  have f110 := (f107.wr W108)
  obtain ⟨T111, h111, X111, e111, W111, st111⟩ := putF X108 hx hZ hown (host := "") (Or.inl (hw _ (List.mem_of_getElem? (i := 32) rfl))) Via.refl e108 f109 f110 (Or.inr ⟨(hw _ (List.mem_of_getElem? (i := 33) rfl)), rfl, hnm⟩) (hw _ (List.mem_of_getElem? (i := 5) rfl)) (ty := (.array .byte)) (by decide) rfl rfl (g := (mkF m 54 #[.val (.ref x1), .val (.ref a1), .val (.int (0 : Int32)), .val (.int (1 : Int32)), .val .null, .val (.ref b103)] [(.ref b103), (.ref x1)])) rfl rfl (hb hby d32_54)
  have Fw111 := f109.same W111
  have N111 := Fr.snoc X111 N108 g1
  refine own_st st111 ?_
  show own_Goes p e below (T111.setTop (mkF m 57 #[.val (.ref x1), .val (.ref a1), .val (.int (0 : Int32)), .val (.int (1 : Int32)), .val .null, .val (.ref b103)] [])) _
  have f112 := ((((Keep.refl h0 [x1]).trans K103 all0).wr W108 (Or.inl (by simp))).wr W111 (Or.inl (by simp)))
  have f113 := (f110.wr W111)
  have f114 := (Fw108.other W111 (Or.inr (slot_ne (t := .byte) (t' := (.array .byte)) (Or.inr (hw _ (List.mem_of_getElem? (i := 31) rfl))) (Or.inr (hw _ (List.mem_of_getElem? (i := 33) rfl))) (by decide) (by decide) (by decide))))
  have f115 := ((V103.other W108 (Ne.symm ne103)).other W111 (Ne.symm ne103))
  exact own_retV X111 hx hlk hret (hb hby d32_57) (by decide) (by decide) e111 ⟨rfl, N111, f112, b103, k103, g103, s103, f113, Fw111, f114, f115⟩
theorem d33_0 : decode jdk_42_method_3_code 0 = .ok (.aload_n 0, 1) := by decide +kernel
theorem d33_1 : decode jdk_42_method_3_code 1 = .ok (.aload_n 1, 1) := by decide +kernel
theorem d33_2 : decode jdk_42_method_3_code 2 = .ok (.iconst 0, 1) := by decide +kernel
theorem d33_3 : decode jdk_42_method_3_code 3 = .ok (.aload_n 1, 1) := by decide +kernel
theorem d33_4 : decode jdk_42_method_3_code 4 = .ok (.arraylength, 1) := by decide +kernel
theorem d33_5 : decode jdk_42_method_3_code 5 = .ok (.aconst_null, 1) := by decide +kernel
theorem d33_6 : decode jdk_42_method_3_code 6 = .ok (.invokespecial 27, 3) := by decide +kernel
theorem d33_9 : decode jdk_42_method_3_code 9 = .ok (.return_, 1) := by decide +kernel
theorem ef_33 (m : MethodId) (e0 : Addr) (e1 : Addr) : entryFrame m #[(.ref e0), (.ref e1)] 2 = mkF m 0 #[.val (.ref e0), .val (.ref e1)] [] := by first | (simp [entryFrame, mkF, argsToLocals, Value.category]; done) | rfl
set_option maxRecDepth 65536 in
set_option maxHeartbeats 40000000 in
theorem rm33 (l : Launch) (Z : State) (a0 : Array Value) (hw : ∀ d ∈ tables_1, d.before a0 Z = true) (ws : List Jvm.Cond) (x1 a1 : Addr) (ka : ClassId) (cs : Int32) (c0 : Int32) (h0 : Heap) (n0 : Nat) (Z0 : n0 ≤ h0.size) (F1 : Fld Z h0 x1 "java/lang/String" "value" "[B" .null) (F2 : Fld Z h0 x1 "java/lang/String" "coder" "B" (.int (0 : Int32))) (E1 : Exa Z h0 x1 "java/lang/String") (V1 : Arv Z h0 a1 ka .char (1 : Int32) [(.int c0)] (.int (0 : Int32))) (g1 : n0 ≤ x1) (ne1 : a1 ≠ x1) (C1 : Sta Z h0 "java/lang/String" "COMPACT_STRINGS" "Z" (.int cs)) (hcs : ¬ cs = (0 : Int32)) (hc0 : own_c8 c0) :
    own_Ct l Z (⟨"java/lang/String", "<init>", "([C)V"⟩ : MethodName) jdk_42_method_3_code 2 none ws ({ frames := 3, cells := 1, slots := 1, locals := 60 } : Room) #[(.ref x1), (.ref a1)] h0 (fun v h L => v = none ∧ Fr n0 L ∧ Keep h0 h [x1] ∧ ∃ (b : Addr) (kb : ClassId), n0 ≤ b ∧ h0.size ≤ b ∧ own_Str Z h x1 b kb (1 : Int32) [(.int c0.toInt8.toInt32)]) ({ frames := 3, cells := 1, slots := 1, locals := 60 } : Room).cells ({ frames := 3, cells := 1, slots := 1, locals := 60 } : Room).slots := by
  refine own_met (plainFor_of_name pn_java_lang_String) (fun p e s m below meth c s₁ X0 hx hby hml hret hlk hnm hown hZ e0 => ?_)
  have hml : c.maxLocals = 2 := hml
  have N0 := Fr.nil n0
  refine own_st (fun _ k => castTop (ef_33 m x1 a1) k) ?_
  show own_Goes p e below (s₁.setTop (mkF m 0 #[.val (.ref x1), .val (.ref a1)] [])) _
  refine own_st (fun _ k => XS.aloadN X0.here hx rfl (hb hby d33_0) rfl rfl k) ?_
  show own_Goes p e below (s₁.setTop (mkF m 1 #[.val (.ref x1), .val (.ref a1)] [(.ref x1)])) _
  refine own_st (fun _ k => XS.aloadN X0.here hx rfl (hb hby d33_1) rfl rfl k) ?_
  show own_Goes p e below (s₁.setTop (mkF m 2 #[.val (.ref x1), .val (.ref a1)] [(.ref a1), (.ref x1)])) _
  refine own_st (fun _ k => XS.iconst X0.here hx rfl (hb hby d33_2) k) ?_
  show own_Goes p e below (s₁.setTop (mkF m 3 #[.val (.ref x1), .val (.ref a1)] [(.int (0 : Int32)), (.ref a1), (.ref x1)])) _
  refine own_st (fun _ k => XS.aloadN X0.here hx rfl (hb hby d33_3) rfl rfl k) ?_
  show own_Goes p e below (s₁.setTop (mkF m 4 #[.val (.ref x1), .val (.ref a1)] [(.ref a1), (.int (0 : Int32)), (.ref a1), (.ref x1)])) _
  refine own_st (own_len (pc := 4) (Ls := #[.val (.ref x1), .val (.ref a1)]) (rest := [(.int (0 : Int32)), (.ref a1), (.ref x1)]) X0 hx hZ e0 V1 (hb hby d33_4)) ?_
  show own_Goes p e below (s₁.setTop (mkF m 5 #[.val (.ref x1), .val (.ref a1)] [(.int (1 : Int32)), (.int (0 : Int32)), (.ref a1), (.ref x1)])) _
  refine own_st (fun _ k => XS.aconstNull X0.here hx rfl (hb hby d33_5) k) ?_
  show own_Goes p e below (s₁.setTop (mkF m 6 #[.val (.ref x1), .val (.ref a1)] [.null, (.int (1 : Int32)), (.int (0 : Int32)), (.ref a1), (.ref x1)])) _
  obtain ⟨_, T101, h101, L101, X101, e101, ⟨rfl, N101q, K101, bb101, kb101, gb101, sb101, T101q⟩, st101⟩ := own_callI (argsL := [(.ref a1), (.int (0 : Int32)), (.int (1 : Int32)), .null]) (rest := []) (pc := 6) (W := 0) (Ls := #[.val (.ref x1), .val (.ref a1)]) (S := [.null, (.int (1 : Int32)), (.int (0 : Int32)), (.ref a1), (.ref x1)]) X0 hx hZ hown rfl (hw _ (List.mem_of_getElem? (i := 11) rfl)) (hw _ (List.mem_of_getElem? (i := 12) rfl)) (hw _ (List.mem_of_getElem? (i := 6) rfl)) (hw _ (List.mem_of_getElem? (i := 14) rfl)) (by decide) (rm32 l Z a0 hw [] x1 a1 ka cs c0 h0 n0 Z0 F1 F2 E1 V1 g1 ne1 C1 hcs hc0) (by decide) (by decide) e0 (by rw [hml]; rfl) (lenOf pd___CIILjava_lang_Void__V rfl) rfl (Nat.le_of_eq rfl) (hb hby d33_6) (by decide) (by decide)
  refine own_st st101 ?_
  have N101 := Fr.app N0 N101q
  show own_Goes p e below (T101.setTop (mkF m 9 #[.val (.ref x1), .val (.ref a1)] [])) _
  have f102 := ((Keep.refl h0 [x1]).trans K101 (allS (Or.inl (by simp)) all0))
  exact own_retV X101 hx hlk hret (hb hby d33_9) (by decide) (by decide) e101 ⟨rfl, N101, f102, bb101, kb101, gb101, sb101, T101q⟩
theorem d40_0 : decode jdk_52_method_21_code 0 = .ok (.iconst 0, 1) := by decide +kernel
theorem d40_1 : decode jdk_52_method_21_code 1 = .ok (.istore 5, 2) := by decide +kernel
theorem d40_3 : decode jdk_52_method_21_code 3 = .ok (.iload 5, 2) := by decide +kernel
theorem d40_5 : decode jdk_52_method_21_code 5 = .ok (.iload 4, 2) := by decide +kernel
theorem d40_7 : decode jdk_52_method_21_code 7 = .ok (.if_icmp .ge 37, 3) := by decide +kernel
theorem d40_10 : decode jdk_52_method_21_code 10 = .ok (.aload_n 0, 1) := by decide +kernel
theorem d40_11 : decode jdk_52_method_21_code 11 = .ok (.iload_n 1, 1) := by decide +kernel
theorem d40_12 : decode jdk_52_method_21_code 12 = .ok (.caload, 1) := by decide +kernel
theorem d40_13 : decode jdk_52_method_21_code 13 = .ok (.istore 6, 2) := by decide +kernel
theorem d40_15 : decode jdk_52_method_21_code 15 = .ok (.iload 6, 2) := by decide +kernel
theorem d40_17 : decode jdk_52_method_21_code 17 = .ok (.sipush 255, 3) := by decide +kernel
theorem d40_20 : decode jdk_52_method_21_code 20 = .ok (.if_icmp .le 6, 3) := by decide +kernel
theorem d40_26 : decode jdk_52_method_21_code 26 = .ok (.aload_n 2, 1) := by decide +kernel
theorem d40_27 : decode jdk_52_method_21_code 27 = .ok (.iload_n 3, 1) := by decide +kernel
theorem d40_28 : decode jdk_52_method_21_code 28 = .ok (.iload 6, 2) := by decide +kernel
theorem d40_30 : decode jdk_52_method_21_code 30 = .ok (.i2b, 1) := by decide +kernel
theorem d40_31 : decode jdk_52_method_21_code 31 = .ok (.bastore, 1) := by decide +kernel
theorem d40_32 : decode jdk_52_method_21_code 32 = .ok (.iinc 1 1, 3) := by decide +kernel
theorem d40_35 : decode jdk_52_method_21_code 35 = .ok (.iinc 3 1, 3) := by decide +kernel
theorem d40_38 : decode jdk_52_method_21_code 38 = .ok (.iinc 5 1, 3) := by decide +kernel
theorem d40_41 : decode jdk_52_method_21_code 41 = .ok (.goto (-38), 3) := by decide +kernel
theorem d40_44 : decode jdk_52_method_21_code 44 = .ok (.iload 4, 2) := by decide +kernel
theorem d40_46 : decode jdk_52_method_21_code 46 = .ok (.ireturn, 1) := by decide +kernel
theorem ef_40 (m : MethodId) (e0 : Addr) (e1 : Int32) (e2 : Addr) (e3 : Int32) (e4 : Int32) : entryFrame m #[(.ref e0), (.int e1), (.ref e2), (.int e3), (.int e4)] 7 = mkF m 0 #[.val (.ref e0), .val (.int e1), .val (.ref e2), .val (.int e3), .val (.int e4), .unset, .unset] [] := by first | (simp [entryFrame, mkF, argsToLocals, Value.category]; done) | rfl
set_option maxRecDepth 65536 in
set_option maxHeartbeats 40000000 in
theorem rm40 (l : Launch) (Z : State) (a0 : Array Value) (hw : ∀ d ∈ tables_1, d.before a0 Z = true) (ws : List Jvm.Cond) (a1 b1 : Addr) (ka kb : ClassId) (c0 c1 : Int32) (h0 : Heap) (n0 : Nat) (Z0 : n0 ≤ h0.size) (V1 : Arv Z h0 a1 ka .char (2 : Int32) [(.int c0), (.int c1)] (.int (0 : Int32))) (V2 : Arv Z h0 b1 kb .byte (2 : Int32) [(.int (0 : Int32)), (.int (0 : Int32))] (.int (0 : Int32))) (g1 : n0 ≤ b1) (ne1 : a1 ≠ b1) (hc0 : own_c8 c0) (hc1 : own_c8 c1) :
    own_Ct l Z (⟨"java/lang/StringUTF16", "compress", "([CI[BII)I"⟩ : MethodName) jdk_52_method_21_code 7 (some .int) ws ({ frames := 0, cells := 0, slots := 0, locals := 0 } : Room) #[(.ref a1), (.int (0 : Int32)), (.ref b1), (.int (0 : Int32)), (.int (2 : Int32))] h0 (fun v h L => v = some (.int (2 : Int32)) ∧ Fr n0 L ∧ Keep h0 h [b1] ∧ Arv Z h b1 kb .byte (2 : Int32) [(.int c0.toInt8.toInt32), (.int c1.toInt8.toInt32)] (.int (0 : Int32))) ({ frames := 0, cells := 0, slots := 0, locals := 0 } : Room).cells ({ frames := 0, cells := 0, slots := 0, locals := 0 } : Room).slots := by
  refine own_met (plainFor_of_name pn_java_lang_StringUTF16) (fun p e s m below meth c s₁ X0 hx hby hml hret hlk hnm hown hZ e0 => ?_)
  have hml : c.maxLocals = 7 := hml
  have N0 := Fr.nil n0
  refine own_st (fun _ k => castTop (ef_40 m a1 (0 : Int32) b1 (0 : Int32) (2 : Int32)) k) ?_
  show own_Goes p e below (s₁.setTop (mkF m 0 #[.val (.ref a1), .val (.int (0 : Int32)), .val (.ref b1), .val (.int (0 : Int32)), .val (.int (2 : Int32)), .unset, .unset] [])) _
  refine own_st (fun _ k => XS.iconst X0.here hx rfl (hb hby d40_0) k) ?_
  show own_Goes p e below (s₁.setTop (mkF m 1 #[.val (.ref a1), .val (.int (0 : Int32)), .val (.ref b1), .val (.int (0 : Int32)), .val (.int (2 : Int32)), .unset, .unset] [(.int (0 : Int32))])) _
  refine own_st (fun _ k => XS.istore X0.here hx rfl (hb hby d40_1) rfl (l' := #[.val (.ref a1), .val (.int (0 : Int32)), .val (.ref b1), .val (.int (0 : Int32)), .val (.int (2 : Int32)), .val (.int (0 : Int32)), .unset]) rfl k) ?_
  show own_Goes p e below (s₁.setTop (mkF m 3 #[.val (.ref a1), .val (.int (0 : Int32)), .val (.ref b1), .val (.int (0 : Int32)), .val (.int (2 : Int32)), .val (.int (0 : Int32)), .unset] [])) _
  refine own_st (fun _ k => XS.iload X0.here hx rfl (hb hby d40_3) rfl k) ?_
  show own_Goes p e below (s₁.setTop (mkF m 5 #[.val (.ref a1), .val (.int (0 : Int32)), .val (.ref b1), .val (.int (0 : Int32)), .val (.int (2 : Int32)), .val (.int (0 : Int32)), .unset] [(.int (0 : Int32))])) _
  refine own_st (fun _ k => XS.iload X0.here hx rfl (hb hby d40_5) rfl k) ?_
  show own_Goes p e below (s₁.setTop (mkF m 7 #[.val (.ref a1), .val (.int (0 : Int32)), .val (.ref b1), .val (.int (0 : Int32)), .val (.int (2 : Int32)), .val (.int (0 : Int32)), .unset] [(.int (2 : Int32)), (.int (0 : Int32))])) _
  refine own_st (fun _ k => XS.icmpNo X0.here hx rfl (hb hby d40_7) rfl (tlt (by decide : (0 : Int32) < (2 : Int32))).2.1 k) ?_
  show own_Goes p e below (s₁.setTop (mkF m 10 #[.val (.ref a1), .val (.int (0 : Int32)), .val (.ref b1), .val (.int (0 : Int32)), .val (.int (2 : Int32)), .val (.int (0 : Int32)), .unset] [])) _
  refine own_st (fun _ k => XS.aloadN X0.here hx rfl (hb hby d40_10) rfl rfl k) ?_
  show own_Goes p e below (s₁.setTop (mkF m 11 #[.val (.ref a1), .val (.int (0 : Int32)), .val (.ref b1), .val (.int (0 : Int32)), .val (.int (2 : Int32)), .val (.int (0 : Int32)), .unset] [(.ref a1)])) _
  refine own_st (fun _ k => XS.iloadN X0.here hx rfl (hb hby d40_11) rfl k) ?_
  show own_Goes p e below (s₁.setTop (mkF m 12 #[.val (.ref a1), .val (.int (0 : Int32)), .val (.ref b1), .val (.int (0 : Int32)), .val (.int (2 : Int32)), .val (.int (0 : Int32)), .unset] [(.int (0 : Int32)), (.ref a1)])) _
  refine own_st (own_ldC (v := (.int c0)) (pc := 12) (Ls := #[.val (.ref a1), .val (.int (0 : Int32)), .val (.ref b1), .val (.int (0 : Int32)), .val (.int (2 : Int32)), .val (.int (0 : Int32)), .unset]) (rest := []) (j := (0 : Int32)) X0 hx hZ e0 V1 (by decide) rfl (hb hby d40_12)) ?_
  show own_Goes p e below (s₁.setTop (mkF m 13 #[.val (.ref a1), .val (.int (0 : Int32)), .val (.ref b1), .val (.int (0 : Int32)), .val (.int (2 : Int32)), .val (.int (0 : Int32)), .unset] [(.int c0)])) _
  refine own_st (fun _ k => XS.istore X0.here hx rfl (hb hby d40_13) rfl (l' := #[.val (.ref a1), .val (.int (0 : Int32)), .val (.ref b1), .val (.int (0 : Int32)), .val (.int (2 : Int32)), .val (.int (0 : Int32)), .val (.int c0)]) rfl k) ?_
  show own_Goes p e below (s₁.setTop (mkF m 15 #[.val (.ref a1), .val (.int (0 : Int32)), .val (.ref b1), .val (.int (0 : Int32)), .val (.int (2 : Int32)), .val (.int (0 : Int32)), .val (.int c0)] [])) _
  refine own_st (fun _ k => XS.iload X0.here hx rfl (hb hby d40_15) rfl k) ?_
  show own_Goes p e below (s₁.setTop (mkF m 17 #[.val (.ref a1), .val (.int (0 : Int32)), .val (.ref b1), .val (.int (0 : Int32)), .val (.int (2 : Int32)), .val (.int (0 : Int32)), .val (.int c0)] [(.int c0)])) _
  refine own_st (fun _ k => XS.sipush X0.here hx rfl (hb hby d40_17) k) ?_
  show own_Goes p e below (s₁.setTop (mkF m 20 #[.val (.ref a1), .val (.int (0 : Int32)), .val (.ref b1), .val (.int (0 : Int32)), .val (.int (2 : Int32)), .val (.int (0 : Int32)), .val (.int c0)] [(.int (255 : Int32)), (.int c0)])) _
  refine own_st (fun _ k => XS.icmpYes X0.here hx rfl (pc0 := 20) (pc' := 26) rfl (hb hby d40_20) rfl (flt (own_c8n hc0)).2.2.2 (by decide) (by decide) k) ?_
  show own_Goes p e below (s₁.setTop (mkF m 26 #[.val (.ref a1), .val (.int (0 : Int32)), .val (.ref b1), .val (.int (0 : Int32)), .val (.int (2 : Int32)), .val (.int (0 : Int32)), .val (.int c0)] [])) _
  refine own_st (fun _ k => XS.aloadN X0.here hx rfl (hb hby d40_26) rfl rfl k) ?_
  show own_Goes p e below (s₁.setTop (mkF m 27 #[.val (.ref a1), .val (.int (0 : Int32)), .val (.ref b1), .val (.int (0 : Int32)), .val (.int (2 : Int32)), .val (.int (0 : Int32)), .val (.int c0)] [(.ref b1)])) _
  refine own_st (fun _ k => XS.iloadN X0.here hx rfl (hb hby d40_27) rfl k) ?_
  show own_Goes p e below (s₁.setTop (mkF m 28 #[.val (.ref a1), .val (.int (0 : Int32)), .val (.ref b1), .val (.int (0 : Int32)), .val (.int (2 : Int32)), .val (.int (0 : Int32)), .val (.int c0)] [(.int (0 : Int32)), (.ref b1)])) _
  refine own_st (fun _ k => XS.iload X0.here hx rfl (hb hby d40_28) rfl k) ?_
  show own_Goes p e below (s₁.setTop (mkF m 30 #[.val (.ref a1), .val (.int (0 : Int32)), .val (.ref b1), .val (.int (0 : Int32)), .val (.int (2 : Int32)), .val (.int (0 : Int32)), .val (.int c0)] [(.int c0), (.int (0 : Int32)), (.ref b1)])) _
  refine own_st (fun _ k => XT.i2b X0.here hx rfl (hb hby d40_30) rfl k) ?_
  show own_Goes p e below (s₁.setTop (mkF m 31 #[.val (.ref a1), .val (.int (0 : Int32)), .val (.ref b1), .val (.int (0 : Int32)), .val (.int (2 : Int32)), .val (.int (0 : Int32)), .val (.int c0)] [(.int c0.toInt8.toInt32), (.int (0 : Int32)), (.ref b1)])) _
  obtain ⟨T101, h101, X101, e101, W101, V101, st101⟩ := own_stB (x := c0.toInt8.toInt32) (pc := 31) (Ls := #[.val (.ref a1), .val (.int (0 : Int32)), .val (.ref b1), .val (.int (0 : Int32)), .val (.int (2 : Int32)), .val (.int (0 : Int32)), .val (.int c0)]) (rest := []) (j := (0 : Int32)) X0 hx hZ e0 V2 0 (by decide) (by decide) (Nat.le_of_ble_eq_true rfl) (hb hby d40_31)
  rw [own_b8] at V101
  have V101 : Arv Z h101 b1 kb .byte (2 : Int32) [(.int c0.toInt8.toInt32), (.int (0 : Int32))] (.int (0 : Int32)) := V101
  have N101 := Fr.snoc X101 N0 g1
  refine own_st st101 ?_
  show own_Goes p e below (T101.setTop (mkF m 32 #[.val (.ref a1), .val (.int (0 : Int32)), .val (.ref b1), .val (.int (0 : Int32)), .val (.int (2 : Int32)), .val (.int (0 : Int32)), .val (.int c0)] [])) _
  refine own_st (fun _ k => XS.iinc X101.here hx rfl (hb hby d40_32) rfl (l' := #[.val (.ref a1), .val (.int (1 : Int32)), .val (.ref b1), .val (.int (0 : Int32)), .val (.int (2 : Int32)), .val (.int (0 : Int32)), .val (.int c0)]) rfl k) ?_
  show own_Goes p e below (T101.setTop (mkF m 35 #[.val (.ref a1), .val (.int (1 : Int32)), .val (.ref b1), .val (.int (0 : Int32)), .val (.int (2 : Int32)), .val (.int (0 : Int32)), .val (.int c0)] [])) _
  refine own_st (fun _ k => XS.iinc X101.here hx rfl (hb hby d40_35) rfl (l' := #[.val (.ref a1), .val (.int (1 : Int32)), .val (.ref b1), .val (.int (1 : Int32)), .val (.int (2 : Int32)), .val (.int (0 : Int32)), .val (.int c0)]) rfl k) ?_
  show own_Goes p e below (T101.setTop (mkF m 38 #[.val (.ref a1), .val (.int (1 : Int32)), .val (.ref b1), .val (.int (1 : Int32)), .val (.int (2 : Int32)), .val (.int (0 : Int32)), .val (.int c0)] [])) _
  refine own_st (fun _ k => XS.iinc X101.here hx rfl (hb hby d40_38) rfl (l' := #[.val (.ref a1), .val (.int (1 : Int32)), .val (.ref b1), .val (.int (1 : Int32)), .val (.int (2 : Int32)), .val (.int (1 : Int32)), .val (.int c0)]) rfl k) ?_
  show own_Goes p e below (T101.setTop (mkF m 41 #[.val (.ref a1), .val (.int (1 : Int32)), .val (.ref b1), .val (.int (1 : Int32)), .val (.int (2 : Int32)), .val (.int (1 : Int32)), .val (.int c0)] [])) _
  refine own_st (fun _ k => XS.goto X101.here hx rfl (pc0 := 41) (pc' := 3) rfl (hb hby d40_41) (by decide) (by decide) k) ?_
  show own_Goes p e below (T101.setTop (mkF m 3 #[.val (.ref a1), .val (.int (1 : Int32)), .val (.ref b1), .val (.int (1 : Int32)), .val (.int (2 : Int32)), .val (.int (1 : Int32)), .val (.int c0)] [])) _
  refine own_st (fun _ k => XS.iload X101.here hx rfl (hb hby d40_3) rfl k) ?_
  show own_Goes p e below (T101.setTop (mkF m 5 #[.val (.ref a1), .val (.int (1 : Int32)), .val (.ref b1), .val (.int (1 : Int32)), .val (.int (2 : Int32)), .val (.int (1 : Int32)), .val (.int c0)] [(.int (1 : Int32))])) _
  refine own_st (fun _ k => XS.iload X101.here hx rfl (hb hby d40_5) rfl k) ?_
  show own_Goes p e below (T101.setTop (mkF m 7 #[.val (.ref a1), .val (.int (1 : Int32)), .val (.ref b1), .val (.int (1 : Int32)), .val (.int (2 : Int32)), .val (.int (1 : Int32)), .val (.int c0)] [(.int (2 : Int32)), (.int (1 : Int32))])) _
  refine own_st (fun _ k => XS.icmpNo X101.here hx rfl (hb hby d40_7) rfl (tlt (by decide : (1 : Int32) < (2 : Int32))).2.1 k) ?_
  show own_Goes p e below (T101.setTop (mkF m 10 #[.val (.ref a1), .val (.int (1 : Int32)), .val (.ref b1), .val (.int (1 : Int32)), .val (.int (2 : Int32)), .val (.int (1 : Int32)), .val (.int c0)] [])) _
  refine own_st (fun _ k => XS.aloadN X101.here hx rfl (hb hby d40_10) rfl rfl k) ?_
  show own_Goes p e below (T101.setTop (mkF m 11 #[.val (.ref a1), .val (.int (1 : Int32)), .val (.ref b1), .val (.int (1 : Int32)), .val (.int (2 : Int32)), .val (.int (1 : Int32)), .val (.int c0)] [(.ref a1)])) _
  refine own_st (fun _ k => XS.iloadN X101.here hx rfl (hb hby d40_11) rfl k) ?_
  show own_Goes p e below (T101.setTop (mkF m 12 #[.val (.ref a1), .val (.int (1 : Int32)), .val (.ref b1), .val (.int (1 : Int32)), .val (.int (2 : Int32)), .val (.int (1 : Int32)), .val (.int c0)] [(.int (1 : Int32)), (.ref a1)])) _
  have f102 := (V1.other W101 ne1)
  refine own_st (own_ldC (v := (.int c1)) (pc := 12) (Ls := #[.val (.ref a1), .val (.int (1 : Int32)), .val (.ref b1), .val (.int (1 : Int32)), .val (.int (2 : Int32)), .val (.int (1 : Int32)), .val (.int c0)]) (rest := []) (j := (1 : Int32)) X101 hx hZ e101 f102 (by decide) rfl (hb hby d40_12)) ?_
  show own_Goes p e below (T101.setTop (mkF m 13 #[.val (.ref a1), .val (.int (1 : Int32)), .val (.ref b1), .val (.int (1 : Int32)), .val (.int (2 : Int32)), .val (.int (1 : Int32)), .val (.int c0)] [(.int c1)])) _
  refine own_st (fun _ k => XS.istore X101.here hx rfl (hb hby d40_13) rfl (l' := #[.val (.ref a1), .val (.int (1 : Int32)), .val (.ref b1), .val (.int (1 : Int32)), .val (.int (2 : Int32)), .val (.int (1 : Int32)), .val (.int c1)]) rfl k) ?_
  show own_Goes p e below (T101.setTop (mkF m 15 #[.val (.ref a1), .val (.int (1 : Int32)), .val (.ref b1), .val (.int (1 : Int32)), .val (.int (2 : Int32)), .val (.int (1 : Int32)), .val (.int c1)] [])) _
  refine own_st (fun _ k => XS.iload X101.here hx rfl (hb hby d40_15) rfl k) ?_
  show own_Goes p e below (T101.setTop (mkF m 17 #[.val (.ref a1), .val (.int (1 : Int32)), .val (.ref b1), .val (.int (1 : Int32)), .val (.int (2 : Int32)), .val (.int (1 : Int32)), .val (.int c1)] [(.int c1)])) _
  refine own_st (fun _ k => XS.sipush X101.here hx rfl (hb hby d40_17) k) ?_
  show own_Goes p e below (T101.setTop (mkF m 20 #[.val (.ref a1), .val (.int (1 : Int32)), .val (.ref b1), .val (.int (1 : Int32)), .val (.int (2 : Int32)), .val (.int (1 : Int32)), .val (.int c1)] [(.int (255 : Int32)), (.int c1)])) _
  refine own_st (fun _ k => XS.icmpYes X101.here hx rfl (pc0 := 20) (pc' := 26) rfl (hb hby d40_20) rfl (flt (own_c8n hc1)).2.2.2 (by decide) (by decide) k) ?_
  show own_Goes p e below (T101.setTop (mkF m 26 #[.val (.ref a1), .val (.int (1 : Int32)), .val (.ref b1), .val (.int (1 : Int32)), .val (.int (2 : Int32)), .val (.int (1 : Int32)), .val (.int c1)] [])) _
  refine own_st (fun _ k => XS.aloadN X101.here hx rfl (hb hby d40_26) rfl rfl k) ?_
  show own_Goes p e below (T101.setTop (mkF m 27 #[.val (.ref a1), .val (.int (1 : Int32)), .val (.ref b1), .val (.int (1 : Int32)), .val (.int (2 : Int32)), .val (.int (1 : Int32)), .val (.int c1)] [(.ref b1)])) _
  refine own_st (fun _ k => XS.iloadN X101.here hx rfl (hb hby d40_27) rfl k) ?_
  show own_Goes p e below (T101.setTop (mkF m 28 #[.val (.ref a1), .val (.int (1 : Int32)), .val (.ref b1), .val (.int (1 : Int32)), .val (.int (2 : Int32)), .val (.int (1 : Int32)), .val (.int c1)] [(.int (1 : Int32)), (.ref b1)])) _
  refine own_st (fun _ k => XS.iload X101.here hx rfl (hb hby d40_28) rfl k) ?_
  show own_Goes p e below (T101.setTop (mkF m 30 #[.val (.ref a1), .val (.int (1 : Int32)), .val (.ref b1), .val (.int (1 : Int32)), .val (.int (2 : Int32)), .val (.int (1 : Int32)), .val (.int c1)] [(.int c1), (.int (1 : Int32)), (.ref b1)])) _
  refine own_st (fun _ k => XT.i2b X101.here hx rfl (hb hby d40_30) rfl k) ?_
  show own_Goes p e below (T101.setTop (mkF m 31 #[.val (.ref a1), .val (.int (1 : Int32)), .val (.ref b1), .val (.int (1 : Int32)), .val (.int (2 : Int32)), .val (.int (1 : Int32)), .val (.int c1)] [(.int c1.toInt8.toInt32), (.int (1 : Int32)), (.ref b1)])) _
  obtain ⟨T103, h103, X103, e103, W103, V103, st103⟩ := own_stB (x := c1.toInt8.toInt32) (pc := 31) (Ls := #[.val (.ref a1), .val (.int (1 : Int32)), .val (.ref b1), .val (.int (1 : Int32)), .val (.int (2 : Int32)), .val (.int (1 : Int32)), .val (.int c1)]) (rest := []) (j := (1 : Int32)) X101 hx hZ e101 V101 1 (by decide) (by decide) (Nat.le_of_ble_eq_true rfl) (hb hby d40_31)
  rw [own_b8] at V103
  have V103 : Arv Z h103 b1 kb .byte (2 : Int32) [(.int c0.toInt8.toInt32), (.int c1.toInt8.toInt32)] (.int (0 : Int32)) := V103
  have N103 := Fr.snoc X103 N101 g1
  refine own_st st103 ?_
  show own_Goes p e below (T103.setTop (mkF m 32 #[.val (.ref a1), .val (.int (1 : Int32)), .val (.ref b1), .val (.int (1 : Int32)), .val (.int (2 : Int32)), .val (.int (1 : Int32)), .val (.int c1)] [])) _
  refine own_st (fun _ k => XS.iinc X103.here hx rfl (hb hby d40_32) rfl (l' := #[.val (.ref a1), .val (.int (2 : Int32)), .val (.ref b1), .val (.int (1 : Int32)), .val (.int (2 : Int32)), .val (.int (1 : Int32)), .val (.int c1)]) rfl k) ?_
  show own_Goes p e below (T103.setTop (mkF m 35 #[.val (.ref a1), .val (.int (2 : Int32)), .val (.ref b1), .val (.int (1 : Int32)), .val (.int (2 : Int32)), .val (.int (1 : Int32)), .val (.int c1)] [])) _
  refine own_st (fun _ k => XS.iinc X103.here hx rfl (hb hby d40_35) rfl (l' := #[.val (.ref a1), .val (.int (2 : Int32)), .val (.ref b1), .val (.int (2 : Int32)), .val (.int (2 : Int32)), .val (.int (1 : Int32)), .val (.int c1)]) rfl k) ?_
  show own_Goes p e below (T103.setTop (mkF m 38 #[.val (.ref a1), .val (.int (2 : Int32)), .val (.ref b1), .val (.int (2 : Int32)), .val (.int (2 : Int32)), .val (.int (1 : Int32)), .val (.int c1)] [])) _
  refine own_st (fun _ k => XS.iinc X103.here hx rfl (hb hby d40_38) rfl (l' := #[.val (.ref a1), .val (.int (2 : Int32)), .val (.ref b1), .val (.int (2 : Int32)), .val (.int (2 : Int32)), .val (.int (2 : Int32)), .val (.int c1)]) rfl k) ?_
  show own_Goes p e below (T103.setTop (mkF m 41 #[.val (.ref a1), .val (.int (2 : Int32)), .val (.ref b1), .val (.int (2 : Int32)), .val (.int (2 : Int32)), .val (.int (2 : Int32)), .val (.int c1)] [])) _
  refine own_st (fun _ k => XS.goto X103.here hx rfl (pc0 := 41) (pc' := 3) rfl (hb hby d40_41) (by decide) (by decide) k) ?_
  show own_Goes p e below (T103.setTop (mkF m 3 #[.val (.ref a1), .val (.int (2 : Int32)), .val (.ref b1), .val (.int (2 : Int32)), .val (.int (2 : Int32)), .val (.int (2 : Int32)), .val (.int c1)] [])) _
  refine own_st (fun _ k => XS.iload X103.here hx rfl (hb hby d40_3) rfl k) ?_
  show own_Goes p e below (T103.setTop (mkF m 5 #[.val (.ref a1), .val (.int (2 : Int32)), .val (.ref b1), .val (.int (2 : Int32)), .val (.int (2 : Int32)), .val (.int (2 : Int32)), .val (.int c1)] [(.int (2 : Int32))])) _
  refine own_st (fun _ k => XS.iload X103.here hx rfl (hb hby d40_5) rfl k) ?_
  show own_Goes p e below (T103.setTop (mkF m 7 #[.val (.ref a1), .val (.int (2 : Int32)), .val (.ref b1), .val (.int (2 : Int32)), .val (.int (2 : Int32)), .val (.int (2 : Int32)), .val (.int c1)] [(.int (2 : Int32)), (.int (2 : Int32))])) _
  refine own_st (fun _ k => XS.icmpYes X103.here hx rfl (pc0 := 7) (pc' := 44) rfl (hb hby d40_7) rfl (flt (by decide : ¬ ((2 : Int32) < (2 : Int32)))).2.1 (by decide) (by decide) k) ?_
  show own_Goes p e below (T103.setTop (mkF m 44 #[.val (.ref a1), .val (.int (2 : Int32)), .val (.ref b1), .val (.int (2 : Int32)), .val (.int (2 : Int32)), .val (.int (2 : Int32)), .val (.int c1)] [])) _
  refine own_st (fun _ k => XS.iload X103.here hx rfl (hb hby d40_44) rfl k) ?_
  show own_Goes p e below (T103.setTop (mkF m 46 #[.val (.ref a1), .val (.int (2 : Int32)), .val (.ref b1), .val (.int (2 : Int32)), .val (.int (2 : Int32)), .val (.int (2 : Int32)), .val (.int c1)] [(.int (2 : Int32))])) _
  have f104 := (((Keep.refl h0 [b1]).wr W101 (Or.inl (by simp))).wr W103 (Or.inl (by simp)))
  exact own_retI X103 hx hlk hret (hb hby d40_46) (by decide) (by decide) e103 ⟨rfl, N103, f104, V103⟩
theorem d41_0 : decode jdk_52_method_16_code 0 = .ok (.iload_n 2, 1) := by decide +kernel
theorem d41_1 : decode jdk_52_method_16_code 1 = .ok (.newarray .byte, 2) := by decide +kernel
theorem d41_3 : decode jdk_52_method_16_code 3 = .ok (.astore_n 3, 1) := by decide +kernel
theorem d41_4 : decode jdk_52_method_16_code 4 = .ok (.aload_n 0, 1) := by decide +kernel
theorem d41_5 : decode jdk_52_method_16_code 5 = .ok (.iload_n 1, 1) := by decide +kernel
theorem d41_6 : decode jdk_52_method_16_code 6 = .ok (.aload_n 3, 1) := by decide +kernel
theorem d41_7 : decode jdk_52_method_16_code 7 = .ok (.iconst 0, 1) := by decide +kernel
theorem d41_8 : decode jdk_52_method_16_code 8 = .ok (.iload_n 2, 1) := by decide +kernel
theorem d41_9 : decode jdk_52_method_16_code 9 = .ok (.invokestatic 115, 3) := by decide +kernel
theorem d41_12 : decode jdk_52_method_16_code 12 = .ok (.istore 4, 2) := by decide +kernel
theorem d41_14 : decode jdk_52_method_16_code 14 = .ok (.iload 4, 2) := by decide +kernel
theorem d41_16 : decode jdk_52_method_16_code 16 = .ok (.iload_n 2, 1) := by decide +kernel
theorem d41_17 : decode jdk_52_method_16_code 17 = .ok (.if_icmp .eq 40, 3) := by decide +kernel
theorem d41_57 : decode jdk_52_method_16_code 57 = .ok (.aload_n 3, 1) := by decide +kernel
theorem d41_58 : decode jdk_52_method_16_code 58 = .ok (.areturn, 1) := by decide +kernel
theorem ef_41 (m : MethodId) (e0 : Addr) (e1 : Int32) (e2 : Int32) : entryFrame m #[(.ref e0), (.int e1), (.int e2)] 6 = mkF m 0 #[.val (.ref e0), .val (.int e1), .val (.int e2), .unset, .unset, .unset] [] := by first | (simp [entryFrame, mkF, argsToLocals, Value.category]; done) | rfl
set_option maxRecDepth 65536 in
set_option maxHeartbeats 40000000 in
theorem rm41 (l : Launch) (Z : State) (a0 : Array Value) (hw : ∀ d ∈ tables_1, d.before a0 Z = true) (ws : List Jvm.Cond) (a1 : Addr) (ka : ClassId) (c0 c1 : Int32) (h0 : Heap) (n0 : Nat) (Z0 : n0 ≤ h0.size) (V1 : Arv Z h0 a1 ka .char (2 : Int32) [(.int c0), (.int c1)] (.int (0 : Int32))) (hc0 : own_c8 c0) (hc1 : own_c8 c1) :
    own_Ct l Z (⟨"java/lang/StringUTF16", "compress", "([CII)[B"⟩ : MethodName) jdk_52_method_16_code 6 (some (.array .byte)) ws ({ frames := 1, cells := 1, slots := 2, locals := 18 } : Room) #[(.ref a1), (.int (0 : Int32)), (.int (2 : Int32))] h0 (fun v h L => ∃ (b : Addr) (kb : ClassId), v = some (.ref b) ∧ n0 ≤ b ∧ h0.size ≤ b ∧ Fr n0 L ∧ Keep h0 h [] ∧ Arv Z h b kb .byte (2 : Int32) [(.int c0.toInt8.toInt32), (.int c1.toInt8.toInt32)] (.int (0 : Int32))) ({ frames := 1, cells := 1, slots := 2, locals := 18 } : Room).cells ({ frames := 1, cells := 1, slots := 2, locals := 18 } : Room).slots := by
  refine own_met (plainFor_of_name pn_java_lang_StringUTF16) (fun p e s m below meth c s₁ X0 hx hby hml hret hlk hnm hown hZ e0 => ?_)
  have hml : c.maxLocals = 6 := hml
  have N0 := Fr.nil n0
  refine own_st (fun _ k => castTop (ef_41 m a1 (0 : Int32) (2 : Int32)) k) ?_
  show own_Goes p e below (s₁.setTop (mkF m 0 #[.val (.ref a1), .val (.int (0 : Int32)), .val (.int (2 : Int32)), .unset, .unset, .unset] [])) _
  refine own_st (fun _ k => XS.iloadN X0.here hx rfl (hb hby d41_0) rfl k) ?_
  show own_Goes p e below (s₁.setTop (mkF m 1 #[.val (.ref a1), .val (.int (0 : Int32)), .val (.int (2 : Int32)), .unset, .unset, .unset] [(.int (2 : Int32))])) _
  obtain ⟨T101, h101, k101, X101, e101, E101, A101, st101⟩ := newP X0 hx hZ (hw _ (List.mem_of_getElem? (i := 23) rfl)) e0 (g := (mkF m 1 #[.val (.ref a1), .val (.int (0 : Int32)), .val (.int (2 : Int32)), .unset, .unset, .unset] [(.int (2 : Int32))])) rfl (hb hby d41_1) rfl (by decide) (cap := 2) (by decide) (by decide) (by decide) (by decide)
  obtain ⟨b101, g101⟩ : ∃ z, z = h0.size := ⟨_, rfl⟩
  rw [← g101] at A101 st101
  have g_b101 : n0 ≤ b101 := Nat.le_trans Z0 (Nat.le_of_eq g101.symm)
  have sz_b101 : h0.size ≤ b101 := Nat.le_trans (Keep.refl h0 []).1 (Nat.le_of_eq g101.symm)
  have ne_a1_b101 : a1 ≠ b101 := by rw [g101]; exact Nat.ne_of_lt (V1).lt
  have V_b101 : Arv Z h101 b101 k101 .byte (2 : Int32) [(.int (0 : Int32)), (.int (0 : Int32))] (.int (0 : Int32)) := Arv.pad (Arv.new A101 (by decide)) (pad_rep [] _ 2)
  refine own_st st101 ?_
  show own_Goes p e below (T101.setTop (mkF m 3 #[.val (.ref a1), .val (.int (0 : Int32)), .val (.int (2 : Int32)), .unset, .unset, .unset] [(.ref b101)])) _
  refine own_st (fun _ k => XS.astoreN X101.here hx rfl (hb hby d41_3) rfl rfl (l' := #[.val (.ref a1), .val (.int (0 : Int32)), .val (.int (2 : Int32)), .val (.ref b101), .unset, .unset]) rfl k) ?_
  show own_Goes p e below (T101.setTop (mkF m 4 #[.val (.ref a1), .val (.int (0 : Int32)), .val (.int (2 : Int32)), .val (.ref b101), .unset, .unset] [])) _
  refine own_st (fun _ k => XS.aloadN X101.here hx rfl (hb hby d41_4) rfl rfl k) ?_
  show own_Goes p e below (T101.setTop (mkF m 5 #[.val (.ref a1), .val (.int (0 : Int32)), .val (.int (2 : Int32)), .val (.ref b101), .unset, .unset] [(.ref a1)])) _
  refine own_st (fun _ k => XS.iloadN X101.here hx rfl (hb hby d41_5) rfl k) ?_
  show own_Goes p e below (T101.setTop (mkF m 6 #[.val (.ref a1), .val (.int (0 : Int32)), .val (.int (2 : Int32)), .val (.ref b101), .unset, .unset] [(.int (0 : Int32)), (.ref a1)])) _
  refine own_st (fun _ k => XS.aloadN X101.here hx rfl (hb hby d41_6) rfl rfl k) ?_
  show own_Goes p e below (T101.setTop (mkF m 7 #[.val (.ref a1), .val (.int (0 : Int32)), .val (.int (2 : Int32)), .val (.ref b101), .unset, .unset] [(.ref b101), (.int (0 : Int32)), (.ref a1)])) _
  refine own_st (fun _ k => XS.iconst X101.here hx rfl (hb hby d41_7) k) ?_
  show own_Goes p e below (T101.setTop (mkF m 8 #[.val (.ref a1), .val (.int (0 : Int32)), .val (.int (2 : Int32)), .val (.ref b101), .unset, .unset] [(.int (0 : Int32)), (.ref b101), (.int (0 : Int32)), (.ref a1)])) _
  refine own_st (fun _ k => XS.iloadN X101.here hx rfl (hb hby d41_8) rfl k) ?_
  show own_Goes p e below (T101.setTop (mkF m 9 #[.val (.ref a1), .val (.int (0 : Int32)), .val (.int (2 : Int32)), .val (.ref b101), .unset, .unset] [(.int (2 : Int32)), (.int (0 : Int32)), (.ref b101), (.int (0 : Int32)), (.ref a1)])) _
  have f103 := (Nat.le_trans Z0 E101.1)
  have f104 := (V1.ext E101)
  obtain ⟨_, T102, h102, L102, X102, e102, ⟨rfl, N102q, K102, V102⟩, st102⟩ := own_callS (argsL := [(.ref a1), (.int (0 : Int32)), (.ref b101), (.int (0 : Int32)), (.int (2 : Int32))]) (rest := []) (pc := 9) (W := 0) (Ls := #[.val (.ref a1), .val (.int (0 : Int32)), .val (.int (2 : Int32)), .val (.ref b101), .unset, .unset]) (S := [(.int (2 : Int32)), (.int (0 : Int32)), (.ref b101), (.int (0 : Int32)), (.ref a1)]) X101 hx hZ hown (hw _ (List.mem_of_getElem? (i := 24) rfl)) (hw _ (List.mem_of_getElem? (i := 25) rfl)) (hw _ (List.mem_of_getElem? (i := 21) rfl)) (hw _ (List.mem_of_getElem? (i := 26) rfl)) (by decide) (rm40 l Z a0 hw [] a1 b101 ka k101 c0 c1 h101 n0 f103 f104 V_b101 g_b101 ne_a1_b101 hc0 hc1) (by decide) (by decide) e101 (by rw [hml]; rfl) (lenOf pd___CI_BII_I rfl) rfl (Nat.le_of_eq rfl) (hb hby d41_9) (by decide) (by decide)
  refine own_st st102 ?_
  have N102 := Fr.app N0 N102q
  show own_Goes p e below (T102.setTop (mkF m 12 #[.val (.ref a1), .val (.int (0 : Int32)), .val (.int (2 : Int32)), .val (.ref b101), .unset, .unset] [(.int (2 : Int32))])) _
  refine own_st (fun _ k => XS.istore X102.here hx rfl (hb hby d41_12) rfl (l' := #[.val (.ref a1), .val (.int (0 : Int32)), .val (.int (2 : Int32)), .val (.ref b101), .val (.int (2 : Int32)), .unset]) rfl k) ?_
  show own_Goes p e below (T102.setTop (mkF m 14 #[.val (.ref a1), .val (.int (0 : Int32)), .val (.int (2 : Int32)), .val (.ref b101), .val (.int (2 : Int32)), .unset] [])) _
  refine own_st (fun _ k => XS.iload X102.here hx rfl (hb hby d41_14) rfl k) ?_
  show own_Goes p e below (T102.setTop (mkF m 16 #[.val (.ref a1), .val (.int (0 : Int32)), .val (.int (2 : Int32)), .val (.ref b101), .val (.int (2 : Int32)), .unset] [(.int (2 : Int32))])) _
  refine own_st (fun _ k => XS.iloadN X102.here hx rfl (hb hby d41_16) rfl k) ?_
  show own_Goes p e below (T102.setTop (mkF m 17 #[.val (.ref a1), .val (.int (0 : Int32)), .val (.int (2 : Int32)), .val (.ref b101), .val (.int (2 : Int32)), .unset] [(.int (2 : Int32)), (.int (2 : Int32))])) _
  refine own_st (fun _ k => XS.icmpYes X102.here hx rfl (pc0 := 17) (pc' := 57) rfl (hb hby d41_17) rfl (teq (by decide : (2 : Int32) = (2 : Int32))).1 (by decide) (by decide) k) ?_
  show own_Goes p e below (T102.setTop (mkF m 57 #[.val (.ref a1), .val (.int (0 : Int32)), .val (.int (2 : Int32)), .val (.ref b101), .val (.int (2 : Int32)), .unset] [])) _
  refine own_st (fun _ k => XS.aloadN X102.here hx rfl (hb hby d41_57) rfl rfl k) ?_
  show own_Goes p e below (T102.setTop (mkF m 58 #[.val (.ref a1), .val (.int (0 : Int32)), .val (.int (2 : Int32)), .val (.ref b101), .val (.int (2 : Int32)), .unset] [(.ref b101)])) _
  have f105 := (((Keep.refl h0 []).ext E101).trans K102 (allS (Or.inr sz_b101) all0))
  exact own_retA X102 hx hlk hret rfl rfl rfl (hb hby d41_58) (by decide) (by decide) e102 ⟨b101, k101, rfl, g_b101, sz_b101, N102, f105, V102⟩
theorem d42_0 : decode jdk_42_method_149_code 0 = .ok (.aload_n 0, 1) := by decide +kernel
theorem d42_1 : decode jdk_42_method_149_code 1 = .ok (.invokespecial 1, 3) := by decide +kernel
theorem d42_4 : decode jdk_42_method_149_code 4 = .ok (.iload_n 3, 1) := by decide +kernel
theorem d42_5 : decode jdk_42_method_149_code 5 = .ok (.ifCond .ne 22, 3) := by decide +kernel
theorem d42_27 : decode jdk_42_method_149_code 27 = .ok (.getstatic 38, 3) := by decide +kernel
theorem d42_30 : decode jdk_42_method_149_code 30 = .ok (.ifCond .eq 28, 3) := by decide +kernel
theorem d42_33 : decode jdk_42_method_149_code 33 = .ok (.aload_n 1, 1) := by decide +kernel
theorem d42_34 : decode jdk_42_method_149_code 34 = .ok (.iload_n 2, 1) := by decide +kernel
theorem d42_35 : decode jdk_42_method_149_code 35 = .ok (.iload_n 3, 1) := by decide +kernel
theorem d42_36 : decode jdk_42_method_149_code 36 = .ok (.invokestatic 177, 3) := by decide +kernel
theorem d42_39 : decode jdk_42_method_149_code 39 = .ok (.astore 5, 2) := by decide +kernel
theorem d42_41 : decode jdk_42_method_149_code 41 = .ok (.aload_n 0, 1) := by decide +kernel
theorem d42_42 : decode jdk_42_method_149_code 42 = .ok (.aload 5, 2) := by decide +kernel
theorem d42_44 : decode jdk_42_method_149_code 44 = .ok (.iload_n 3, 1) := by decide +kernel
theorem d42_45 : decode jdk_42_method_149_code 45 = .ok (.invokestatic 47, 3) := by decide +kernel
theorem d42_48 : decode jdk_42_method_149_code 48 = .ok (.putfield 15, 3) := by decide +kernel
theorem d42_51 : decode jdk_42_method_149_code 51 = .ok (.aload_n 0, 1) := by decide +kernel
theorem d42_52 : decode jdk_42_method_149_code 52 = .ok (.aload 5, 2) := by decide +kernel
theorem d42_54 : decode jdk_42_method_149_code 54 = .ok (.putfield 9, 3) := by decide +kernel
theorem d42_57 : decode jdk_42_method_149_code 57 = .ok (.return_, 1) := by decide +kernel
theorem ef_42 (m : MethodId) (e0 : Addr) (e1 : Addr) (e2 : Int32) (e3 : Int32) : entryFrame m #[(.ref e0), (.ref e1), (.int e2), (.int e3), .null] 6 = mkF m 0 #[.val (.ref e0), .val (.ref e1), .val (.int e2), .val (.int e3), .val .null, .unset] [] := by first | (simp [entryFrame, mkF, argsToLocals, Value.category]; done) | rfl
set_option maxRecDepth 65536 in
set_option maxHeartbeats 40000000 in
theorem rm42 (l : Launch) (Z : State) (a0 : Array Value) (hw : ∀ d ∈ tables_1, d.before a0 Z = true) (ws : List Jvm.Cond) (x1 a1 : Addr) (ka : ClassId) (cs : Int32) (c0 c1 : Int32) (h0 : Heap) (n0 : Nat) (Z0 : n0 ≤ h0.size) (F1 : Fld Z h0 x1 "java/lang/String" "value" "[B" .null) (F2 : Fld Z h0 x1 "java/lang/String" "coder" "B" (.int (0 : Int32))) (E1 : Exa Z h0 x1 "java/lang/String") (V1 : Arv Z h0 a1 ka .char (2 : Int32) [(.int c0), (.int c1)] (.int (0 : Int32))) (g1 : n0 ≤ x1) (ne1 : a1 ≠ x1) (C1 : Sta Z h0 "java/lang/String" "COMPACT_STRINGS" "Z" (.int cs)) (hcs : ¬ cs = (0 : Int32)) (hc0 : own_c8 c0) (hc1 : own_c8 c1) :
    own_Ct l Z (⟨"java/lang/String", "<init>", "([CIILjava/lang/Void;)V"⟩ : MethodName) jdk_42_method_149_code 6 none ws ({ frames := 2, cells := 1, slots := 2, locals := 36 } : Room) #[(.ref x1), (.ref a1), (.int (0 : Int32)), (.int (2 : Int32)), .null] h0 (fun v h L => v = none ∧ Fr n0 L ∧ Keep h0 h [x1] ∧ ∃ (b : Addr) (kb : ClassId), n0 ≤ b ∧ h0.size ≤ b ∧ own_Str Z h x1 b kb (2 : Int32) [(.int c0.toInt8.toInt32), (.int c1.toInt8.toInt32)]) ({ frames := 2, cells := 1, slots := 2, locals := 36 } : Room).cells ({ frames := 2, cells := 1, slots := 2, locals := 36 } : Room).slots := by
  refine own_met (plainFor_of_name pn_java_lang_String) (fun p e s m below meth c s₁ X0 hx hby hml hret hlk hnm hown hZ e0 => ?_)
  have hml : c.maxLocals = 6 := hml
  have N0 := Fr.nil n0
  refine own_st (fun _ k => castTop (ef_42 m x1 a1 (0 : Int32) (2 : Int32)) k) ?_
  show own_Goes p e below (s₁.setTop (mkF m 0 #[.val (.ref x1), .val (.ref a1), .val (.int (0 : Int32)), .val (.int (2 : Int32)), .val .null, .unset] [])) _
  refine own_st (fun _ k => XS.aloadN X0.here hx rfl (hb hby d42_0) rfl rfl k) ?_
  show own_Goes p e below (s₁.setTop (mkF m 1 #[.val (.ref x1), .val (.ref a1), .val (.int (0 : Int32)), .val (.int (2 : Int32)), .val .null, .unset] [(.ref x1)])) _
  obtain ⟨T101, X101, e101, st101⟩ := initO X0 hx hZ hown (hw _ (List.mem_of_getElem? (i := 15) rfl)) (hw _ (List.mem_of_getElem? (i := 16) rfl)) (hw _ (List.mem_of_getElem? (i := 17) rfl)) e0 (g := (mkF m 1 #[.val (.ref x1), .val (.ref a1), .val (.int (0 : Int32)), .val (.int (2 : Int32)), .val .null, .unset] [(.ref x1)])) rfl (by rw [hml]; rfl) rfl (hb hby d42_1) (by decide) (W := 0) (by show 2 * 0 + _ ≤ _; exact Nat.le_of_eq rfl) (by decide)
  refine own_st st101 ?_
  show own_Goes p e below (T101.setTop (mkF m 4 #[.val (.ref x1), .val (.ref a1), .val (.int (0 : Int32)), .val (.int (2 : Int32)), .val .null, .unset] [])) _
  refine own_st (fun _ k => XS.iloadN X101.here hx rfl (hb hby d42_4) rfl k) ?_
  show own_Goes p e below (T101.setTop (mkF m 5 #[.val (.ref x1), .val (.ref a1), .val (.int (0 : Int32)), .val (.int (2 : Int32)), .val .null, .unset] [(.int (2 : Int32))])) _
  refine own_st (fun _ k => XS.ifYes X101.here hx rfl (pc0 := 5) (pc' := 27) rfl (hb hby d42_5) rfl ((if0 _ _).trans (feq (by decide : ¬ ((2 : Int32) = (0 : Int32)))).2) (by decide) (by decide) k) ?_
  show own_Goes p e below (T101.setTop (mkF m 27 #[.val (.ref x1), .val (.ref a1), .val (.int (0 : Int32)), .val (.int (2 : Int32)), .val .null, .unset] [])) _
  obtain ⟨T102, X102, e102, st102⟩ := getS2 X101 hx hZ hown (host := "") (Or.inl (hw _ (List.mem_of_getElem? (i := 18) rfl))) Via.refl e101 C1 (g := (mkF m 27 #[.val (.ref x1), .val (.ref a1), .val (.int (0 : Int32)), .val (.int (2 : Int32)), .val .null, .unset] [])) rfl (hb hby d42_27)
  refine own_st st102 ?_
  show own_Goes p e below (T102.setTop (mkF m 30 #[.val (.ref x1), .val (.ref a1), .val (.int (0 : Int32)), .val (.int (2 : Int32)), .val .null, .unset] [(.int cs)])) _
  refine own_st (fun _ k => XS.ifNo X102.here hx rfl (hb hby d42_30) rfl ((if0 _ _).trans (feq hcs).1) k) ?_
  show own_Goes p e below (T102.setTop (mkF m 33 #[.val (.ref x1), .val (.ref a1), .val (.int (0 : Int32)), .val (.int (2 : Int32)), .val .null, .unset] [])) _
  refine own_st (fun _ k => XS.aloadN X102.here hx rfl (hb hby d42_33) rfl rfl k) ?_
  show own_Goes p e below (T102.setTop (mkF m 34 #[.val (.ref x1), .val (.ref a1), .val (.int (0 : Int32)), .val (.int (2 : Int32)), .val .null, .unset] [(.ref a1)])) _
  refine own_st (fun _ k => XS.iloadN X102.here hx rfl (hb hby d42_34) rfl k) ?_
  show own_Goes p e below (T102.setTop (mkF m 35 #[.val (.ref x1), .val (.ref a1), .val (.int (0 : Int32)), .val (.int (2 : Int32)), .val .null, .unset] [(.int (0 : Int32)), (.ref a1)])) _
  refine own_st (fun _ k => XS.iloadN X102.here hx rfl (hb hby d42_35) rfl k) ?_
  show own_Goes p e below (T102.setTop (mkF m 36 #[.val (.ref x1), .val (.ref a1), .val (.int (0 : Int32)), .val (.int (2 : Int32)), .val .null, .unset] [(.int (2 : Int32)), (.int (0 : Int32)), (.ref a1)])) _
  obtain ⟨_, T103, h103, L103, X103, e103, ⟨b103, k103, rfl, g103, s103, N103q, K103, V103⟩, st103⟩ := own_callS (argsL := [(.ref a1), (.int (0 : Int32)), (.int (2 : Int32))]) (rest := []) (pc := 36) (W := 0) (Ls := #[.val (.ref x1), .val (.ref a1), .val (.int (0 : Int32)), .val (.int (2 : Int32)), .val .null, .unset]) (S := [(.int (2 : Int32)), (.int (0 : Int32)), (.ref a1)]) X102 hx hZ hown (hw _ (List.mem_of_getElem? (i := 19) rfl)) (hw _ (List.mem_of_getElem? (i := 20) rfl)) (hw _ (List.mem_of_getElem? (i := 21) rfl)) (hw _ (List.mem_of_getElem? (i := 22) rfl)) (by decide) (rm41 l Z a0 hw [] a1 ka c0 c1 h0 n0 Z0 V1 hc0 hc1) (by decide) (by decide) e102 (by rw [hml]; rfl) (lenOf pd___CII__B rfl) rfl (Nat.le_of_eq rfl) (hb hby d42_36) (by decide) (by decide)
  refine own_st st103 ?_
  have N103 := Fr.app N0 N103q
  have ne103 : x1 ≠ b103 := fun q => Nat.lt_irrefl _ (Nat.lt_of_lt_of_le (q ▸ E1.lt) s103)
  show own_Goes p e below (T103.setTop (mkF m 39 #[.val (.ref x1), .val (.ref a1), .val (.int (0 : Int32)), .val (.int (2 : Int32)), .val .null, .unset] [(.ref b103)])) _
  refine own_st (fun _ k => XS.astore X103.here hx rfl (hb hby d42_39) rfl rfl (l' := #[.val (.ref x1), .val (.ref a1), .val (.int (0 : Int32)), .val (.int (2 : Int32)), .val .null, .val (.ref b103)]) rfl k) ?_
  show own_Goes p e below (T103.setTop (mkF m 41 #[.val (.ref x1), .val (.ref a1), .val (.int (0 : Int32)), .val (.int (2 : Int32)), .val .null, .val (.ref b103)] [])) _
  refine own_st (fun _ k => XS.aloadN X103.here hx rfl (hb hby d42_41) rfl rfl k) ?_
  show own_Goes p e below (T103.setTop (mkF m 42 #[.val (.ref x1), .val (.ref a1), .val (.int (0 : Int32)), .val (.int (2 : Int32)), .val .null, .val (.ref b103)] [(.ref x1)])) _
  refine own_st (fun _ k => XS.aload X103.here hx rfl (hb hby d42_42) rfl rfl k) ?_
  show own_Goes p e below (T103.setTop (mkF m 44 #[.val (.ref x1), .val (.ref a1), .val (.int (0 : Int32)), .val (.int (2 : Int32)), .val .null, .val (.ref b103)] [(.ref b103), (.ref x1)])) _
  refine own_st (fun _ k => XS.iloadN X103.here hx rfl (hb hby d42_44) rfl k) ?_
  show own_Goes p e below (T103.setTop (mkF m 45 #[.val (.ref x1), .val (.ref a1), .val (.int (0 : Int32)), .val (.int (2 : Int32)), .val .null, .val (.ref b103)] [(.int (2 : Int32)), (.ref b103), (.ref x1)])) _
  have f105 := (Nat.le_trans Z0 K103.1)
  obtain ⟨_, T104, h104, L104, X104, e104, ⟨rfl, rfl, q104⟩, st104⟩ := own_callS (argsL := [(.ref b103), (.int (2 : Int32))]) (rest := [(.ref x1)]) (pc := 45) (W := 1) (Ls := #[.val (.ref x1), .val (.ref a1), .val (.int (0 : Int32)), .val (.int (2 : Int32)), .val .null, .val (.ref b103)]) (S := [(.int (2 : Int32)), (.ref b103), (.ref x1)]) X103 hx hZ hown (hw _ (List.mem_of_getElem? (i := 27) rfl)) (hw _ (List.mem_of_getElem? (i := 28) rfl)) (hw _ (List.mem_of_getElem? (i := 21) rfl)) (hw _ (List.mem_of_getElem? (i := 29) rfl)) (by decide) (rm20 l Z a0 hw [] b103 (2 : Int32) k103 _ h103 n0 f105 V103) (by decide) (by decide) e103 (by rw [hml]; rfl) (lenOf pd___BI_B rfl) rfl (Nat.le_of_eq rfl) (hb hby d42_45) (by decide) (by decide)
  refine own_st st104 ?_
  have N104 := Fr.app N103 (Fr.nil n0)
  show own_Goes p e below (T104.setTop (mkF m 48 #[.val (.ref x1), .val (.ref a1), .val (.int (0 : Int32)), .val (.int (2 : Int32)), .val .null, .val (.ref b103)] [(.int (0 : Int32)), (.ref x1)])) _
  have f106 := (F2.keep K103 nin0)
  have f107 := (E1.keep K103)
  obtain ⟨T108, h108, X108, e108, W108, st108⟩ := putFN X104 hx hZ hown (hw _ (List.mem_of_getElem? (i := 30) rfl)) Via.refl (e104.trans q104) f106 f107 (Or.inr ⟨(hw _ (List.mem_of_getElem? (i := 31) rfl)), rfl, hnm⟩) (hw _ (List.mem_of_getElem? (i := 5) rfl)) (ty := .byte) (v' := (.int (0 : Int32))) (by decide) rfl (by decide) (g := (mkF m 48 #[.val (.ref x1), .val (.ref a1), .val (.int (0 : Int32)), .val (.int (2 : Int32)), .val .null, .val (.ref b103)] [(.int (0 : Int32)), (.ref x1)])) rfl rfl (hb hby d42_48)
  have Fw108 := f106.same W108
  have N108 := Fr.snoc X108 N104 g1
  refine own_st st108 ?_
  show own_Goes p e below (T108.setTop (mkF m 51 #[.val (.ref x1), .val (.ref a1), .val (.int (0 : Int32)), .val (.int (2 : Int32)), .val .null, .val (.ref b103)] [])) _
  refine own_st (fun _ k => XS.aloadN X108.here hx rfl (hb hby d42_51) rfl rfl k) ?_
  show own_Goes p e below (T108.setTop (mkF m 52 #[.val (.ref x1), .val (.ref a1), .val (.int (0 : Int32)), .val (.int (2 : Int32)), .val .null, .val (.ref b103)] [(.ref x1)])) _
  refine own_st (fun _ k => XS.aload X108.here hx rfl (hb hby d42_52) rfl rfl k) ?_
  show own_Goes p e below (T108.setTop (mkF m 54 #[.val (.ref x1), .val (.ref a1), .val (.int (0 : Int32)), .val (.int (2 : Int32)), .val .null, .val (.ref b103)] [(.ref b103), (.ref x1)])) _
  have f109 := ((F1.keep K103 nin0).other W108 (Or.inr (slot_ne (t := (.array .byte)) (t' := .byte) (Or.inr (hw _ (List.mem_of_getElem? (i := 33) rfl))) (Or.inr (hw _ (List.mem_of_getElem? (i := 31) rfl))) (by decide) (by decide) (by decide))))
  have f110 := (f107.wr W108)
  obtain ⟨T111, h111, X111, e111, W111, st111⟩ := putF X108 hx hZ hown (host := "") (Or.inl (hw _ (List.mem_of_getElem? (i := 32) rfl))) Via.refl e108 f109 f110 (Or.inr ⟨(hw _ (List.mem_of_getElem? (i := 33) rfl)), rfl, hnm⟩) (hw _ (List.mem_of_getElem? (i := 5) rfl)) (ty := (.array .byte)) (by decide) rfl rfl (g := (mkF m 54 #[.val (.ref x1), .val (.ref a1), .val (.int (0 : Int32)), .val (.int (2 : Int32)), .val .null, .val (.ref b103)] [(.ref b103), (.ref x1)])) rfl rfl (hb hby d42_54)
  have Fw111 := f109.same W111
  have N111 := Fr.snoc X111 N108 g1
  refine own_st st111 ?_
  show own_Goes p e below (T111.setTop (mkF m 57 #[.val (.ref x1), .val (.ref a1), .val (.int (0 : Int32)), .val (.int (2 : Int32)), .val .null, .val (.ref b103)] [])) _
  have f112 := ((((Keep.refl h0 [x1]).trans K103 all0).wr W108 (Or.inl (by simp))).wr W111 (Or.inl (by simp)))
  have f113 := (f110.wr W111)
  have f114 := (Fw108.other W111 (Or.inr (slot_ne (t := .byte) (t' := (.array .byte)) (Or.inr (hw _ (List.mem_of_getElem? (i := 31) rfl))) (Or.inr (hw _ (List.mem_of_getElem? (i := 33) rfl))) (by decide) (by decide) (by decide))))
  have f115 := ((V103.other W108 (Ne.symm ne103)).other W111 (Ne.symm ne103))
  exact own_retV X111 hx hlk hret (hb hby d42_57) (by decide) (by decide) e111 ⟨rfl, N111, f112, b103, k103, g103, s103, f113, Fw111, f114, f115⟩
theorem d43_0 : decode jdk_42_method_3_code 0 = .ok (.aload_n 0, 1) := by decide +kernel
theorem d43_1 : decode jdk_42_method_3_code 1 = .ok (.aload_n 1, 1) := by decide +kernel
theorem d43_2 : decode jdk_42_method_3_code 2 = .ok (.iconst 0, 1) := by decide +kernel
theorem d43_3 : decode jdk_42_method_3_code 3 = .ok (.aload_n 1, 1) := by decide +kernel
theorem d43_4 : decode jdk_42_method_3_code 4 = .ok (.arraylength, 1) := by decide +kernel
theorem d43_5 : decode jdk_42_method_3_code 5 = .ok (.aconst_null, 1) := by decide +kernel
theorem d43_6 : decode jdk_42_method_3_code 6 = .ok (.invokespecial 27, 3) := by decide +kernel
theorem d43_9 : decode jdk_42_method_3_code 9 = .ok (.return_, 1) := by decide +kernel
theorem ef_43 (m : MethodId) (e0 : Addr) (e1 : Addr) : entryFrame m #[(.ref e0), (.ref e1)] 2 = mkF m 0 #[.val (.ref e0), .val (.ref e1)] [] := by first | (simp [entryFrame, mkF, argsToLocals, Value.category]; done) | rfl
set_option maxRecDepth 65536 in
set_option maxHeartbeats 40000000 in
theorem rm43 (l : Launch) (Z : State) (a0 : Array Value) (hw : ∀ d ∈ tables_1, d.before a0 Z = true) (ws : List Jvm.Cond) (x1 a1 : Addr) (ka : ClassId) (cs : Int32) (c0 c1 : Int32) (h0 : Heap) (n0 : Nat) (Z0 : n0 ≤ h0.size) (F1 : Fld Z h0 x1 "java/lang/String" "value" "[B" .null) (F2 : Fld Z h0 x1 "java/lang/String" "coder" "B" (.int (0 : Int32))) (E1 : Exa Z h0 x1 "java/lang/String") (V1 : Arv Z h0 a1 ka .char (2 : Int32) [(.int c0), (.int c1)] (.int (0 : Int32))) (g1 : n0 ≤ x1) (ne1 : a1 ≠ x1) (C1 : Sta Z h0 "java/lang/String" "COMPACT_STRINGS" "Z" (.int cs)) (hcs : ¬ cs = (0 : Int32)) (hc0 : own_c8 c0) (hc1 : own_c8 c1) :
    own_Ct l Z (⟨"java/lang/String", "<init>", "([C)V"⟩ : MethodName) jdk_42_method_3_code 2 none ws ({ frames := 3, cells := 1, slots := 2, locals := 60 } : Room) #[(.ref x1), (.ref a1)] h0 (fun v h L => v = none ∧ Fr n0 L ∧ Keep h0 h [x1] ∧ ∃ (b : Addr) (kb : ClassId), n0 ≤ b ∧ h0.size ≤ b ∧ own_Str Z h x1 b kb (2 : Int32) [(.int c0.toInt8.toInt32), (.int c1.toInt8.toInt32)]) ({ frames := 3, cells := 1, slots := 2, locals := 60 } : Room).cells ({ frames := 3, cells := 1, slots := 2, locals := 60 } : Room).slots := by
  refine own_met (plainFor_of_name pn_java_lang_String) (fun p e s m below meth c s₁ X0 hx hby hml hret hlk hnm hown hZ e0 => ?_)
  have hml : c.maxLocals = 2 := hml
  have N0 := Fr.nil n0
  refine own_st (fun _ k => castTop (ef_43 m x1 a1) k) ?_
  show own_Goes p e below (s₁.setTop (mkF m 0 #[.val (.ref x1), .val (.ref a1)] [])) _
  refine own_st (fun _ k => XS.aloadN X0.here hx rfl (hb hby d43_0) rfl rfl k) ?_
  show own_Goes p e below (s₁.setTop (mkF m 1 #[.val (.ref x1), .val (.ref a1)] [(.ref x1)])) _
  refine own_st (fun _ k => XS.aloadN X0.here hx rfl (hb hby d43_1) rfl rfl k) ?_
  show own_Goes p e below (s₁.setTop (mkF m 2 #[.val (.ref x1), .val (.ref a1)] [(.ref a1), (.ref x1)])) _
  refine own_st (fun _ k => XS.iconst X0.here hx rfl (hb hby d43_2) k) ?_
  show own_Goes p e below (s₁.setTop (mkF m 3 #[.val (.ref x1), .val (.ref a1)] [(.int (0 : Int32)), (.ref a1), (.ref x1)])) _
  refine own_st (fun _ k => XS.aloadN X0.here hx rfl (hb hby d43_3) rfl rfl k) ?_
  show own_Goes p e below (s₁.setTop (mkF m 4 #[.val (.ref x1), .val (.ref a1)] [(.ref a1), (.int (0 : Int32)), (.ref a1), (.ref x1)])) _
  refine own_st (own_len (pc := 4) (Ls := #[.val (.ref x1), .val (.ref a1)]) (rest := [(.int (0 : Int32)), (.ref a1), (.ref x1)]) X0 hx hZ e0 V1 (hb hby d43_4)) ?_
  show own_Goes p e below (s₁.setTop (mkF m 5 #[.val (.ref x1), .val (.ref a1)] [(.int (2 : Int32)), (.int (0 : Int32)), (.ref a1), (.ref x1)])) _
  refine own_st (fun _ k => XS.aconstNull X0.here hx rfl (hb hby d43_5) k) ?_
  show own_Goes p e below (s₁.setTop (mkF m 6 #[.val (.ref x1), .val (.ref a1)] [.null, (.int (2 : Int32)), (.int (0 : Int32)), (.ref a1), (.ref x1)])) _
  obtain ⟨_, T101, h101, L101, X101, e101, ⟨rfl, N101q, K101, bb101, kb101, gb101, sb101, T101q⟩, st101⟩ := own_callI (argsL := [(.ref a1), (.int (0 : Int32)), (.int (2 : Int32)), .null]) (rest := []) (pc := 6) (W := 0) (Ls := #[.val (.ref x1), .val (.ref a1)]) (S := [.null, (.int (2 : Int32)), (.int (0 : Int32)), (.ref a1), (.ref x1)]) X0 hx hZ hown rfl (hw _ (List.mem_of_getElem? (i := 11) rfl)) (hw _ (List.mem_of_getElem? (i := 12) rfl)) (hw _ (List.mem_of_getElem? (i := 6) rfl)) (hw _ (List.mem_of_getElem? (i := 14) rfl)) (by decide) (rm42 l Z a0 hw [] x1 a1 ka cs c0 c1 h0 n0 Z0 F1 F2 E1 V1 g1 ne1 C1 hcs hc0 hc1) (by decide) (by decide) e0 (by rw [hml]; rfl) (lenOf pd___CIILjava_lang_Void__V rfl) rfl (Nat.le_of_eq rfl) (hb hby d43_6) (by decide) (by decide)
  refine own_st st101 ?_
  have N101 := Fr.app N0 N101q
  show own_Goes p e below (T101.setTop (mkF m 9 #[.val (.ref x1), .val (.ref a1)] [])) _
  have f102 := ((Keep.refl h0 [x1]).trans K101 (allS (Or.inl (by simp)) all0))
  exact own_retV X101 hx hlk hret (hb hby d43_9) (by decide) (by decide) e101 ⟨rfl, N101, f102, bb101, kb101, gb101, sb101, T101q⟩
theorem d60_0 : decode jdk_42_method_149_code 0 = .ok (.aload_n 0, 1) := by decide +kernel
theorem d60_1 : decode jdk_42_method_149_code 1 = .ok (.invokespecial 1, 3) := by decide +kernel
theorem d60_4 : decode jdk_42_method_149_code 4 = .ok (.iload_n 3, 1) := by decide +kernel
theorem d60_5 : decode jdk_42_method_149_code 5 = .ok (.ifCond .ne 22, 3) := by decide +kernel
theorem d60_8 : decode jdk_42_method_149_code 8 = .ok (.aload_n 0, 1) := by decide +kernel
theorem d60_9 : decode jdk_42_method_149_code 9 = .ok (.ldc 7, 2) := by decide +kernel
theorem d60_11 : decode jdk_42_method_149_code 11 = .ok (.getfield 9, 3) := by decide +kernel
theorem d60_14 : decode jdk_42_method_149_code 14 = .ok (.putfield 9, 3) := by decide +kernel
theorem d60_17 : decode jdk_42_method_149_code 17 = .ok (.aload_n 0, 1) := by decide +kernel
theorem d60_18 : decode jdk_42_method_149_code 18 = .ok (.ldc 7, 2) := by decide +kernel
theorem d60_20 : decode jdk_42_method_149_code 20 = .ok (.getfield 15, 3) := by decide +kernel
theorem d60_23 : decode jdk_42_method_149_code 23 = .ok (.putfield 15, 3) := by decide +kernel
theorem d60_26 : decode jdk_42_method_149_code 26 = .ok (.return_, 1) := by decide +kernel
theorem ef_60 (m : MethodId) (e0 : Addr) (e1 : Addr) (e2 : Int32) (e3 : Int32) : entryFrame m #[(.ref e0), (.ref e1), (.int e2), (.int e3), .null] 6 = mkF m 0 #[.val (.ref e0), .val (.ref e1), .val (.int e2), .val (.int e3), .val .null, .unset] [] := by first | (simp [entryFrame, mkF, argsToLocals, Value.category]; done) | rfl
set_option maxRecDepth 65536 in
set_option maxHeartbeats 40000000 in
theorem rm60 (l : Launch) (Z : State) (a0 : Array Value) (hw : ∀ d ∈ tables_1, d.before a0 Z = true) (ws : List Jvm.Cond) (x1 a1 : Addr) (h0 : Heap) (n0 : Nat) (Z0 : n0 ≤ h0.size) (F1 : Fld Z h0 x1 "java/lang/String" "value" "[B" .null) (F2 : Fld Z h0 x1 "java/lang/String" "coder" "B" (.int (0 : Int32))) (E1 : Exa Z h0 x1 "java/lang/String") (g1 : n0 ≤ x1) (O0 : Old Z n0 h0) (hh0 : Jvm.Lit.constHeld Z "java/lang/String" 7) (hcw0 : Jvm.Lit.compactW.before a0 Z = true) :
    own_CtS l Z (⟨"java/lang/String", "<init>", "([CIILjava/lang/Void;)V"⟩ : MethodName) jdk_42_method_149_code 6 none ws ({ frames := 1, cells := 2, slots := 4, locals := 12 } : Room) #[(.ref x1), (.ref a1), (.int (0 : Int32)), (.int (0 : Int32)), .null] h0 (fun vm => own_E Z vm h0) (fun v h vm L => v = none ∧ Fr n0 L ∧ Keep h0 h [x1] ∧ (∃ (b : Addr) (kb : ClassId), own_Str Z h x1 b kb (0 : Int32) []) ∧ own_E Z vm h) ({ frames := 1, cells := 2, slots := 4, locals := 12 } : Room).cells ({ frames := 1, cells := 2, slots := 4, locals := 12 } : Room).slots := by
  refine own_metS (plainFor_of_name pn_java_lang_String) (fun p e s m below meth c s₁ X0 hx hby hml hret hlk hnm hown hZ e0 hs0 hP hS => ?_)
  have hml : c.maxLocals = 6 := hml
  have N0 := Fr.nil n0
  refine own_st (fun _ k => castTop (ef_60 m x1 a1 (0 : Int32) (0 : Int32)) k) ?_
  show own_Goes p e below (s₁.setTop (mkF m 0 #[.val (.ref x1), .val (.ref a1), .val (.int (0 : Int32)), .val (.int (0 : Int32)), .val .null, .unset] [])) _
  refine own_st (fun _ k => XS.aloadN X0.here hx rfl (hb hby d60_0) rfl rfl k) ?_
  show own_Goes p e below (s₁.setTop (mkF m 1 #[.val (.ref x1), .val (.ref a1), .val (.int (0 : Int32)), .val (.int (0 : Int32)), .val .null, .unset] [(.ref x1)])) _
  obtain ⟨T101, X101, e101, st101⟩ := initO X0 hx hZ hown (hw _ (List.mem_of_getElem? (i := 15) rfl)) (hw _ (List.mem_of_getElem? (i := 16) rfl)) (hw _ (List.mem_of_getElem? (i := 17) rfl)) e0 (g := (mkF m 1 #[.val (.ref x1), .val (.ref a1), .val (.int (0 : Int32)), .val (.int (0 : Int32)), .val .null, .unset] [(.ref x1)])) rfl (by rw [hml]; rfl) rfl (hb hby d60_1) (by decide) (W := 0) (by show 2 * 0 + _ ≤ _; exact Nat.le_of_eq rfl) (by decide)
  refine own_st st101 ?_
  show own_Goes p e below (T101.setTop (mkF m 4 #[.val (.ref x1), .val (.ref a1), .val (.int (0 : Int32)), .val (.int (0 : Int32)), .val .null, .unset] [])) _
  refine own_st (fun _ k => XS.iloadN X101.here hx rfl (hb hby d60_4) rfl k) ?_
  show own_Goes p e below (T101.setTop (mkF m 5 #[.val (.ref x1), .val (.ref a1), .val (.int (0 : Int32)), .val (.int (0 : Int32)), .val .null, .unset] [(.int (0 : Int32))])) _
  refine own_st (fun _ k => XS.ifNo X101.here hx rfl (hb hby d60_5) rfl ((if0 _ _).trans (teq (by decide : (0 : Int32) = (0 : Int32))).2) k) ?_
  show own_Goes p e below (T101.setTop (mkF m 8 #[.val (.ref x1), .val (.ref a1), .val (.int (0 : Int32)), .val (.int (0 : Int32)), .val .null, .unset] [])) _
  refine own_st (fun _ k => XS.aloadN X101.here hx rfl (hb hby d60_8) rfl rfl k) ?_
  show own_Goes p e below (T101.setTop (mkF m 9 #[.val (.ref x1), .val (.ref a1), .val (.int (0 : Int32)), .val (.int (0 : Int32)), .val .null, .unset] [(.ref x1)])) _
  rcases hP with hI | ⟨la, lb, lk, hL, hT⟩
  · obtain ⟨la, T102, h102, k102, lb, lk, X102, e102, E102, hS, hk102, hZ, hown, A102, C102, V102, R102, -, -, I102, hL, st102⟩ := ldcSVL X101 hx hZ hown (hw _ (List.mem_of_getElem? (i := 34) rfl)) (fun a ha => hw a (own_sa a ha)) e101 hS (Nat.zero_le _) (Fr.nil _) (fun b cl q => by rw [hs0]; exact O0.2.2 b cl q) hI (by simp) hh0 hcw0 (vs := []) (z := (0 : Int32)) ⟨by simp, by simp⟩ (by decide) (by decide) (g := (mkF m 9 #[.val (.ref x1), .val (.ref a1), .val (.int (0 : Int32)), .val (.int (0 : Int32)), .val .null, .unset] [(.ref x1)])) rfl (hb hby d60_9) (n := 0) (by decide) (by decide) (by decide) (by decide)
    have hT : own_Str Z h102 la lb lk (0 : Int32) [] := ⟨A102, V102, C102, R102⟩
    refine own_st st102 ?_
    have f103 := (F1.ext E102)
    have f104 := (E1.ext E102)
    have ne_la : la ≠ x1 := hT.2.1.ne f103 (fun q => nomatch q)
    have ne_lb : lb ≠ x1 := Ne.symm (f104.neArv hT.2.2.2 (hw _ (List.mem_of_getElem? (i := 5) rfl)))
    show own_Goes p e below (T102.setTop (mkF m 11 #[.val (.ref x1), .val (.ref a1), .val (.int (0 : Int32)), .val (.int (0 : Int32)), .val .null, .unset] [(.ref la), (.ref x1)])) _
    obtain ⟨T105, X105, e105, st105⟩ := getF X102 hx hZ hown (host := "") (Or.inl (hw _ (List.mem_of_getElem? (i := 32) rfl))) Via.refl e102 hT.2.1 (g := (mkF m 11 #[.val (.ref x1), .val (.ref a1), .val (.int (0 : Int32)), .val (.int (0 : Int32)), .val .null, .unset] [(.ref la), (.ref x1)])) rfl rfl (hb hby d60_11)
    refine own_st st105 ?_
    show own_Goes p e below (T105.setTop (mkF m 14 #[.val (.ref x1), .val (.ref a1), .val (.int (0 : Int32)), .val (.int (0 : Int32)), .val .null, .unset] [(.ref lb), (.ref x1)])) _
    obtain ⟨T106, h106, X106, e106, W106, st106⟩ := putF X105 hx hZ hown (host := "") (Or.inl (hw _ (List.mem_of_getElem? (i := 32) rfl))) Via.refl e105 f103 f104 (Or.inr ⟨(hw _ (List.mem_of_getElem? (i := 33) rfl)), rfl, hnm⟩) (hw _ (List.mem_of_getElem? (i := 5) rfl)) (ty := (.array .byte)) (by decide) rfl rfl (g := (mkF m 14 #[.val (.ref x1), .val (.ref a1), .val (.int (0 : Int32)), .val (.int (0 : Int32)), .val .null, .unset] [(.ref lb), (.ref x1)])) rfl rfl (hb hby d60_14)
    have Fw106 := f103.same W106
    have N106 := Fr.snoc X106 N0 g1
    refine own_st st106 ?_
    show own_Goes p e below (T106.setTop (mkF m 17 #[.val (.ref x1), .val (.ref a1), .val (.int (0 : Int32)), .val (.int (0 : Int32)), .val .null, .unset] [])) _
    refine own_st (fun _ k => XS.aloadN X106.here hx rfl (hb hby d60_17) rfl rfl k) ?_
    show own_Goes p e below (T106.setTop (mkF m 18 #[.val (.ref x1), .val (.ref a1), .val (.int (0 : Int32)), .val (.int (0 : Int32)), .val .null, .unset] [(.ref x1)])) _
    refine own_st (ldcAgain X106 hx hZ hown (hw _ (List.mem_of_getElem? (i := 34) rfl)) hL (g := (mkF m 18 #[.val (.ref x1), .val (.ref a1), .val (.int (0 : Int32)), .val (.int (0 : Int32)), .val .null, .unset] [(.ref x1)])) rfl (hb hby d60_18)) ?_
    show own_Goes p e below (T106.setTop (mkF m 20 #[.val (.ref x1), .val (.ref a1), .val (.int (0 : Int32)), .val (.int (0 : Int32)), .val .null, .unset] [(.ref la), (.ref x1)])) _
    have f107 := (hT.other W106 ne_la ne_lb)
    obtain ⟨T108, X108, e108, st108⟩ := getF X106 hx hZ hown (host := "") (Or.inl (hw _ (List.mem_of_getElem? (i := 30) rfl))) Via.refl e106 f107.2.2.1 (g := (mkF m 20 #[.val (.ref x1), .val (.ref a1), .val (.int (0 : Int32)), .val (.int (0 : Int32)), .val .null, .unset] [(.ref la), (.ref x1)])) rfl rfl (hb hby d60_20)
    refine own_st st108 ?_
    show own_Goes p e below (T108.setTop (mkF m 23 #[.val (.ref x1), .val (.ref a1), .val (.int (0 : Int32)), .val (.int (0 : Int32)), .val .null, .unset] [(.int (0 : Int32)), (.ref x1)])) _
    have f109 := ((F2.ext E102).other W106 (Or.inr (slot_ne (t := .byte) (t' := (.array .byte)) (Or.inr (hw _ (List.mem_of_getElem? (i := 31) rfl))) (Or.inr (hw _ (List.mem_of_getElem? (i := 33) rfl))) (by decide) (by decide) (by decide))))
    have f110 := (f104.wr W106)
    obtain ⟨T111, h111, X111, e111, W111, st111⟩ := putFN X108 hx hZ hown (hw _ (List.mem_of_getElem? (i := 30) rfl)) Via.refl e108 f109 f110 (Or.inr ⟨(hw _ (List.mem_of_getElem? (i := 31) rfl)), rfl, hnm⟩) (hw _ (List.mem_of_getElem? (i := 5) rfl)) (ty := .byte) (v' := (.int (0 : Int32))) (by decide) rfl (by decide) (g := (mkF m 23 #[.val (.ref x1), .val (.ref a1), .val (.int (0 : Int32)), .val (.int (0 : Int32)), .val .null, .unset] [(.int (0 : Int32)), (.ref x1)])) rfl rfl (hb hby d60_23)
    have Fw111 := f109.same W111
    have N111 := Fr.snoc X111 N106 g1
    refine own_st st111 ?_
    show own_Goes p e below (T111.setTop (mkF m 26 #[.val (.ref x1), .val (.ref a1), .val (.int (0 : Int32)), .val (.int (0 : Int32)), .val .null, .unset] [])) _
    have f112 := (Nat.le_trans (Nat.le_trans hk102 (Nat.le_of_eq W106.size.symm)) (Nat.le_of_eq W111.size.symm))
    have f113 := ((((Keep.refl h0 [x1]).ext E102).wr W106 (Or.inl (by simp))).wr W111 (Or.inl (by simp)))
    have f114 := (f110.wr W111)
    have f115 := (Fw106.other W111 (Or.inr (slot_ne (t := (.array .byte)) (t' := .byte) (Or.inr (hw _ (List.mem_of_getElem? (i := 33) rfl))) (Or.inr (hw _ (List.mem_of_getElem? (i := 31) rfl))) (by decide) (by decide) (by decide))))
    have f116 := (f107.other W111 ne_la ne_lb)
    exact own_retSV X111 hS f112 hx hlk hret (hb hby d60_26) (by decide) (by decide) e111 ⟨rfl, N111, f113, ⟨lb, lk, f114, f115, Fw111, f116.2.2.2⟩, Or.inr ⟨la, lb, lk, Lit.stays (s := s) hL X111.warmed.wide, f116⟩⟩
  · have ne_la : la ≠ x1 := hT.2.1.ne F1 (fun q => nomatch q)
    have ne_lb : lb ≠ x1 := Ne.symm (E1.neArv hT.2.2.2 (hw _ (List.mem_of_getElem? (i := 5) rfl)))
    refine own_st (ldcAgain X101 hx hZ hown (hw _ (List.mem_of_getElem? (i := 34) rfl)) hL (g := (mkF m 9 #[.val (.ref x1), .val (.ref a1), .val (.int (0 : Int32)), .val (.int (0 : Int32)), .val .null, .unset] [(.ref x1)])) rfl (hb hby d60_9)) ?_
    show own_Goes p e below (T101.setTop (mkF m 11 #[.val (.ref x1), .val (.ref a1), .val (.int (0 : Int32)), .val (.int (0 : Int32)), .val .null, .unset] [(.ref la), (.ref x1)])) _
    obtain ⟨T117, X117, e117, st117⟩ := getF X101 hx hZ hown (host := "") (Or.inl (hw _ (List.mem_of_getElem? (i := 32) rfl))) Via.refl e101 hT.2.1 (g := (mkF m 11 #[.val (.ref x1), .val (.ref a1), .val (.int (0 : Int32)), .val (.int (0 : Int32)), .val .null, .unset] [(.ref la), (.ref x1)])) rfl rfl (hb hby d60_11)
    refine own_st st117 ?_
    show own_Goes p e below (T117.setTop (mkF m 14 #[.val (.ref x1), .val (.ref a1), .val (.int (0 : Int32)), .val (.int (0 : Int32)), .val .null, .unset] [(.ref lb), (.ref x1)])) _
    obtain ⟨T118, h118, X118, e118, W118, st118⟩ := putF X117 hx hZ hown (host := "") (Or.inl (hw _ (List.mem_of_getElem? (i := 32) rfl))) Via.refl e117 F1 E1 (Or.inr ⟨(hw _ (List.mem_of_getElem? (i := 33) rfl)), rfl, hnm⟩) (hw _ (List.mem_of_getElem? (i := 5) rfl)) (ty := (.array .byte)) (by decide) rfl rfl (g := (mkF m 14 #[.val (.ref x1), .val (.ref a1), .val (.int (0 : Int32)), .val (.int (0 : Int32)), .val .null, .unset] [(.ref lb), (.ref x1)])) rfl rfl (hb hby d60_14)
    have Fw118 := F1.same W118
    have N118 := Fr.snoc X118 N0 g1
    refine own_st st118 ?_
    show own_Goes p e below (T118.setTop (mkF m 17 #[.val (.ref x1), .val (.ref a1), .val (.int (0 : Int32)), .val (.int (0 : Int32)), .val .null, .unset] [])) _
    refine own_st (fun _ k => XS.aloadN X118.here hx rfl (hb hby d60_17) rfl rfl k) ?_
    show own_Goes p e below (T118.setTop (mkF m 18 #[.val (.ref x1), .val (.ref a1), .val (.int (0 : Int32)), .val (.int (0 : Int32)), .val .null, .unset] [(.ref x1)])) _
    refine own_st (ldcAgain X118 hx hZ hown (hw _ (List.mem_of_getElem? (i := 34) rfl)) hL (g := (mkF m 18 #[.val (.ref x1), .val (.ref a1), .val (.int (0 : Int32)), .val (.int (0 : Int32)), .val .null, .unset] [(.ref x1)])) rfl (hb hby d60_18)) ?_
    show own_Goes p e below (T118.setTop (mkF m 20 #[.val (.ref x1), .val (.ref a1), .val (.int (0 : Int32)), .val (.int (0 : Int32)), .val .null, .unset] [(.ref la), (.ref x1)])) _
    have f119 := (hT.other W118 ne_la ne_lb)
    obtain ⟨T120, X120, e120, st120⟩ := getF X118 hx hZ hown (host := "") (Or.inl (hw _ (List.mem_of_getElem? (i := 30) rfl))) Via.refl e118 f119.2.2.1 (g := (mkF m 20 #[.val (.ref x1), .val (.ref a1), .val (.int (0 : Int32)), .val (.int (0 : Int32)), .val .null, .unset] [(.ref la), (.ref x1)])) rfl rfl (hb hby d60_20)
    refine own_st st120 ?_
    show own_Goes p e below (T120.setTop (mkF m 23 #[.val (.ref x1), .val (.ref a1), .val (.int (0 : Int32)), .val (.int (0 : Int32)), .val .null, .unset] [(.int (0 : Int32)), (.ref x1)])) _
    have f121 := (F2.other W118 (Or.inr (slot_ne (t := .byte) (t' := (.array .byte)) (Or.inr (hw _ (List.mem_of_getElem? (i := 31) rfl))) (Or.inr (hw _ (List.mem_of_getElem? (i := 33) rfl))) (by decide) (by decide) (by decide))))
    have f122 := (E1.wr W118)
    obtain ⟨T123, h123, X123, e123, W123, st123⟩ := putFN X120 hx hZ hown (hw _ (List.mem_of_getElem? (i := 30) rfl)) Via.refl e120 f121 f122 (Or.inr ⟨(hw _ (List.mem_of_getElem? (i := 31) rfl)), rfl, hnm⟩) (hw _ (List.mem_of_getElem? (i := 5) rfl)) (ty := .byte) (v' := (.int (0 : Int32))) (by decide) rfl (by decide) (g := (mkF m 23 #[.val (.ref x1), .val (.ref a1), .val (.int (0 : Int32)), .val (.int (0 : Int32)), .val .null, .unset] [(.int (0 : Int32)), (.ref x1)])) rfl rfl (hb hby d60_23)
    have Fw123 := f121.same W123
    have N123 := Fr.snoc X123 N118 g1
    refine own_st st123 ?_
    show own_Goes p e below (T123.setTop (mkF m 26 #[.val (.ref x1), .val (.ref a1), .val (.int (0 : Int32)), .val (.int (0 : Int32)), .val .null, .unset] [])) _
    have f124 := (Nat.le_trans (Nat.le_trans (Nat.zero_le _) (Nat.le_of_eq W118.size.symm)) (Nat.le_of_eq W123.size.symm))
    have f125 := (((Keep.refl h0 [x1]).wr W118 (Or.inl (by simp))).wr W123 (Or.inl (by simp)))
    have f126 := (f122.wr W123)
    have f127 := (Fw118.other W123 (Or.inr (slot_ne (t := (.array .byte)) (t' := .byte) (Or.inr (hw _ (List.mem_of_getElem? (i := 33) rfl))) (Or.inr (hw _ (List.mem_of_getElem? (i := 31) rfl))) (by decide) (by decide) (by decide))))
    have f128 := (f119.other W123 ne_la ne_lb)
    exact own_retSV X123 hS f124 hx hlk hret (hb hby d60_26) (by decide) (by decide) e123 ⟨rfl, N123, f125, ⟨lb, lk, f126, f127, Fw123, f128.2.2.2⟩, Or.inr ⟨la, lb, lk, Lit.stays (s := s) hL X123.warmed.wide, f128⟩⟩
theorem d61_0 : decode jdk_42_method_3_code 0 = .ok (.aload_n 0, 1) := by decide +kernel
theorem d61_1 : decode jdk_42_method_3_code 1 = .ok (.aload_n 1, 1) := by decide +kernel
theorem d61_2 : decode jdk_42_method_3_code 2 = .ok (.iconst 0, 1) := by decide +kernel
theorem d61_3 : decode jdk_42_method_3_code 3 = .ok (.aload_n 1, 1) := by decide +kernel
theorem d61_4 : decode jdk_42_method_3_code 4 = .ok (.arraylength, 1) := by decide +kernel
theorem d61_5 : decode jdk_42_method_3_code 5 = .ok (.aconst_null, 1) := by decide +kernel
theorem d61_6 : decode jdk_42_method_3_code 6 = .ok (.invokespecial 27, 3) := by decide +kernel
theorem d61_9 : decode jdk_42_method_3_code 9 = .ok (.return_, 1) := by decide +kernel
theorem ef_61 (m : MethodId) (e0 : Addr) (e1 : Addr) : entryFrame m #[(.ref e0), (.ref e1)] 2 = mkF m 0 #[.val (.ref e0), .val (.ref e1)] [] := by first | (simp [entryFrame, mkF, argsToLocals, Value.category]; done) | rfl
set_option maxRecDepth 65536 in
set_option maxHeartbeats 40000000 in
theorem rm61 (l : Launch) (Z : State) (a0 : Array Value) (hw : ∀ d ∈ tables_1, d.before a0 Z = true) (ws : List Jvm.Cond) (x1 a1 : Addr) (ka : ClassId) (h0 : Heap) (n0 : Nat) (Z0 : n0 ≤ h0.size) (V1 : Arv Z h0 a1 ka .char (0 : Int32) [] (.int (0 : Int32))) (F1 : Fld Z h0 x1 "java/lang/String" "value" "[B" .null) (F2 : Fld Z h0 x1 "java/lang/String" "coder" "B" (.int (0 : Int32))) (E1 : Exa Z h0 x1 "java/lang/String") (g1 : n0 ≤ x1) (O0 : Old Z n0 h0) (hh0 : Jvm.Lit.constHeld Z "java/lang/String" 7) (hcw0 : Jvm.Lit.compactW.before a0 Z = true) :
    own_CtS l Z (⟨"java/lang/String", "<init>", "([C)V"⟩ : MethodName) jdk_42_method_3_code 2 none ws ({ frames := 2, cells := 2, slots := 4, locals := 36 } : Room) #[(.ref x1), (.ref a1)] h0 (fun vm => own_E Z vm h0) (fun v h vm L => v = none ∧ Fr n0 L ∧ Keep h0 h [x1] ∧ (∃ (b : Addr) (kb : ClassId), own_Str Z h x1 b kb (0 : Int32) []) ∧ own_E Z vm h) ({ frames := 2, cells := 2, slots := 4, locals := 36 } : Room).cells ({ frames := 2, cells := 2, slots := 4, locals := 36 } : Room).slots := by
  refine own_metS (plainFor_of_name pn_java_lang_String) (fun p e s m below meth c s₁ X0 hx hby hml hret hlk hnm hown hZ e0 hs0 hP hS => ?_)
  have hml : c.maxLocals = 2 := hml
  have N0 := Fr.nil n0
  refine own_st (fun _ k => castTop (ef_61 m x1 a1) k) ?_
  show own_Goes p e below (s₁.setTop (mkF m 0 #[.val (.ref x1), .val (.ref a1)] [])) _
  refine own_st (fun _ k => XS.aloadN X0.here hx rfl (hb hby d61_0) rfl rfl k) ?_
  show own_Goes p e below (s₁.setTop (mkF m 1 #[.val (.ref x1), .val (.ref a1)] [(.ref x1)])) _
  refine own_st (fun _ k => XS.aloadN X0.here hx rfl (hb hby d61_1) rfl rfl k) ?_
  show own_Goes p e below (s₁.setTop (mkF m 2 #[.val (.ref x1), .val (.ref a1)] [(.ref a1), (.ref x1)])) _
  refine own_st (fun _ k => XS.iconst X0.here hx rfl (hb hby d61_2) k) ?_
  show own_Goes p e below (s₁.setTop (mkF m 3 #[.val (.ref x1), .val (.ref a1)] [(.int (0 : Int32)), (.ref a1), (.ref x1)])) _
  refine own_st (fun _ k => XS.aloadN X0.here hx rfl (hb hby d61_3) rfl rfl k) ?_
  show own_Goes p e below (s₁.setTop (mkF m 4 #[.val (.ref x1), .val (.ref a1)] [(.ref a1), (.int (0 : Int32)), (.ref a1), (.ref x1)])) _
  refine own_st (own_len (pc := 4) (Ls := #[.val (.ref x1), .val (.ref a1)]) (rest := [(.int (0 : Int32)), (.ref a1), (.ref x1)]) X0 hx hZ e0 V1 (hb hby d61_4)) ?_
  show own_Goes p e below (s₁.setTop (mkF m 5 #[.val (.ref x1), .val (.ref a1)] [(.int (0 : Int32)), (.int (0 : Int32)), (.ref a1), (.ref x1)])) _
  refine own_st (fun _ k => XS.aconstNull X0.here hx rfl (hb hby d61_5) k) ?_
  show own_Goes p e below (s₁.setTop (mkF m 6 #[.val (.ref x1), .val (.ref a1)] [.null, (.int (0 : Int32)), (.int (0 : Int32)), (.ref a1), (.ref x1)])) _
  obtain ⟨_, T101, h101, L101, X101, e101, ⟨rfl, N101q, K101, T101q, hE101⟩, hS, hZ, hown, st101⟩ := own_callIS (argsL := [(.ref a1), (.int (0 : Int32)), (.int (0 : Int32)), .null]) (rest := []) (pc := 6) (W := 0) (Ls := #[.val (.ref x1), .val (.ref a1)]) (S := [.null, (.int (0 : Int32)), (.int (0 : Int32)), (.ref a1), (.ref x1)]) X0 hx hZ hown hS (Nat.zero_le _) (fun _ w => own_E_warm hP w) rfl (hw _ (List.mem_of_getElem? (i := 11) rfl)) (hw _ (List.mem_of_getElem? (i := 12) rfl)) (hw _ (List.mem_of_getElem? (i := 6) rfl)) (hw _ (List.mem_of_getElem? (i := 14) rfl)) (by decide) (rm60 l Z a0 hw [] x1 a1 h0 n0 Z0 F1 F2 E1 g1 O0 hh0 hcw0) (by decide) (by decide) e0 (by rw [hml]; rfl) (lenOf pd___CIILjava_lang_Void__V rfl) rfl (Nat.le_of_eq rfl) (hb hby d61_6) (by decide) (by decide)
  refine own_st st101 ?_
  have N101 := Fr.app N0 N101q
  show own_Goes p e below (T101.setTop (mkF m 9 #[.val (.ref x1), .val (.ref a1)] [])) _
  have f102 := ((Keep.refl h0 [x1]).trans K101 (allS (Or.inl (by simp)) all0))
  exact own_retSV X101 hS (Nat.le_refl h101.size) hx hlk hret (hb hby d61_9) (by decide) (by decide) e101 ⟨rfl, N101, f102, T101q, hE101⟩
theorem d5_0 : decode method_2_code 0 = .ok (.iload_n 0, 1) := by decide +kernel
theorem d5_1 : decode method_2_code 1 = .ok (.ifCond .ne 14, 3) := by decide +kernel
theorem d5_4 : decode method_2_code 4 = .ok (.new 7, 3) := by decide +kernel
theorem d5_7 : decode method_2_code 7 = .ok (.dup, 1) := by decide +kernel
theorem d5_8 : decode method_2_code 8 = .ok (.iconst 0, 1) := by decide +kernel
theorem d5_9 : decode method_2_code 9 = .ok (.newarray .char, 2) := by decide +kernel
theorem d5_11 : decode method_2_code 11 = .ok (.invokespecial 9, 3) := by decide +kernel
theorem d5_14 : decode method_2_code 14 = .ok (.areturn, 1) := by decide +kernel
theorem d5_15 : decode method_2_code 15 = .ok (.iload_n 0, 1) := by decide +kernel
theorem d5_16 : decode method_2_code 16 = .ok (.iconst 1, 1) := by decide +kernel
theorem d5_17 : decode method_2_code 17 = .ok (.if_icmp .ne 18, 3) := by decide +kernel
theorem d5_20 : decode method_2_code 20 = .ok (.new 7, 3) := by decide +kernel
theorem d5_23 : decode method_2_code 23 = .ok (.dup, 1) := by decide +kernel
theorem d5_24 : decode method_2_code 24 = .ok (.iconst 1, 1) := by decide +kernel
theorem d5_25 : decode method_2_code 25 = .ok (.newarray .char, 2) := by decide +kernel
theorem d5_27 : decode method_2_code 27 = .ok (.dup, 1) := by decide +kernel
theorem d5_28 : decode method_2_code 28 = .ok (.iconst 0, 1) := by decide +kernel
theorem d5_29 : decode method_2_code 29 = .ok (.iload_n 1, 1) := by decide +kernel
theorem d5_30 : decode method_2_code 30 = .ok (.castore, 1) := by decide +kernel
theorem d5_31 : decode method_2_code 31 = .ok (.invokespecial 9, 3) := by decide +kernel
theorem d5_34 : decode method_2_code 34 = .ok (.areturn, 1) := by decide +kernel
theorem d5_35 : decode method_2_code 35 = .ok (.new 7, 3) := by decide +kernel
theorem d5_38 : decode method_2_code 38 = .ok (.dup, 1) := by decide +kernel
theorem d5_39 : decode method_2_code 39 = .ok (.iconst 2, 1) := by decide +kernel
theorem d5_40 : decode method_2_code 40 = .ok (.newarray .char, 2) := by decide +kernel
theorem d5_42 : decode method_2_code 42 = .ok (.dup, 1) := by decide +kernel
theorem d5_43 : decode method_2_code 43 = .ok (.iconst 0, 1) := by decide +kernel
theorem d5_44 : decode method_2_code 44 = .ok (.iload_n 1, 1) := by decide +kernel
theorem d5_45 : decode method_2_code 45 = .ok (.castore, 1) := by decide +kernel
theorem d5_46 : decode method_2_code 46 = .ok (.dup, 1) := by decide +kernel
theorem d5_47 : decode method_2_code 47 = .ok (.iconst 1, 1) := by decide +kernel
theorem d5_48 : decode method_2_code 48 = .ok (.iload_n 2, 1) := by decide +kernel
theorem d5_49 : decode method_2_code 49 = .ok (.castore, 1) := by decide +kernel
theorem d5_50 : decode method_2_code 50 = .ok (.invokespecial 9, 3) := by decide +kernel
theorem d5_53 : decode method_2_code 53 = .ok (.areturn, 1) := by decide +kernel
theorem ef_5 (m : MethodId) (e0 : Int32) (e1 : Int32) (e2 : Int32) : entryFrame m #[(.int e0), (.int e1), (.int e2)] 3 = mkF m 0 #[.val (.int e0), .val (.int e1), .val (.int e2)] [] := by first | (simp [entryFrame, mkF, argsToLocals, Value.category]; done) | rfl
set_option maxRecDepth 65536 in
set_option maxHeartbeats 40000000 in
theorem rm5 (l : Launch) (Z : State) (a0 : Array Value) (hw : ∀ d ∈ tables_1, d.before a0 Z = true) (ws : List Jvm.Cond) (p1 c0 c1 cs : Int32) (h0 : Heap) (n0 : Nat) (Z0 : n0 ≤ h0.size) (hp : p1 = 0 ∨ p1 = 1 ∨ p1 = 2) (hc0 : own_c8 c0) (hc1 : own_c8 c1) (C1 : Sta Z h0 "java/lang/String" "COMPACT_STRINGS" "Z" (.int cs)) (hcs : ¬ cs = (0 : Int32)) (O0 : Old Z n0 h0) (hh0 : Jvm.Lit.constHeld Z "java/lang/String" 7) (hcw0 : Jvm.Lit.compactW.before a0 Z = true) :
    own_CtS l Z (⟨"com/example/charon/charon/ReturnUrlEqualsPinLaw", "mk", "(ICC)Ljava/lang/String;"⟩ : MethodName) method_2_code 3 (some (.object "java/lang/String")) ws ({ frames := 4, cells := 5, slots := 16, locals := 80 } : Room) #[(.int p1), (.int c0), (.int c1)] h0 (fun vm => own_E Z vm h0) (fun v h vm L => ∃ (a b : Addr) (k : ClassId) (n : Int32) (bs : List Value), v = some (.ref a) ∧ n0 ≤ a ∧ h0.size ≤ a ∧ Fr n0 L ∧ Keep h0 h [] ∧ own_Str Z h a b k n bs ∧ own_mkr p1 c0 c1 n bs ∧ own_E Z vm h) ({ frames := 4, cells := 5, slots := 16, locals := 80 } : Room).cells ({ frames := 4, cells := 5, slots := 16, locals := 80 } : Room).slots := by
  refine own_metS (plainFor_of_name pn_com_example_charon_charon_ReturnUrlEqualsPinLaw) (fun p e s m below meth c s₁ X0 hx hby hml hret hlk hnm hown hZ e0 hs0 hP hS => ?_)
  have hml : c.maxLocals = 3 := hml
  have N0 := Fr.nil n0
  refine own_st (fun _ k => castTop (ef_5 m p1 c0 c1) k) ?_
  show own_Goes p e below (s₁.setTop (mkF m 0 #[.val (.int p1), .val (.int c0), .val (.int c1)] [])) _
  refine own_st (fun _ k => XS.iloadN X0.here hx rfl (hb hby d5_0) rfl k) ?_
  show own_Goes p e below (s₁.setTop (mkF m 1 #[.val (.int p1), .val (.int c0), .val (.int c1)] [(.int p1)])) _
  rcases hp with rfl | rfl | rfl
  · show own_Goes p e below (s₁.setTop (mkF m 1 #[.val (.int (0 : Int32)), .val (.int c0), .val (.int c1)] [(.int (0 : Int32))])) _
    refine own_st (fun _ k => XS.ifNo X0.here hx rfl (hb hby d5_1) rfl ((if0 _ _).trans (teq (by decide : (0 : Int32) = (0 : Int32))).2) k) ?_
    show own_Goes p e below (s₁.setTop (mkF m 4 #[.val (.int (0 : Int32)), .val (.int c0), .val (.int c1)] [])) _
    obtain ⟨T101, h101, X101, e101, E101, A101, D101, -, st101⟩ := newO X0 hx hZ hown (hw _ (List.mem_of_getElem? (i := 4) rfl)) (hw _ (List.mem_of_getElem? (i := 5) rfl)) (hw _ (List.mem_of_getElem? (i := 6) rfl)) e0 (g := (mkF m 4 #[.val (.int (0 : Int32)), .val (.int c0), .val (.int c1)] [])) rfl (hb hby d5_4) (by decide) (by decide)
    obtain ⟨b101, g101⟩ : ∃ z, z = h0.size := ⟨_, rfl⟩
    rw [← g101] at A101 D101 st101
    have g_b101 : n0 ≤ b101 := Nat.le_trans Z0 (Nat.le_of_eq g101.symm)
    have sz_b101 : h0.size ≤ b101 := Nat.le_trans (Keep.refl h0 []).1 (Nat.le_of_eq g101.symm)
    have F_coder_b101 : Fld Z h101 b101 "java/lang/String" "coder" "B" (.int (0 : Int32)) := D101 (Or.inr (hw _ (List.mem_of_getElem? (i := 31) rfl))) (ty := .byte) (by decide)
    have F_value_b101 : Fld Z h101 b101 "java/lang/String" "value" "[B" .null := D101 (Or.inr (hw _ (List.mem_of_getElem? (i := 33) rfl))) (ty := (.array .byte)) (by decide)
    refine own_st st101 ?_
    show own_Goes p e below (T101.setTop (mkF m 7 #[.val (.int (0 : Int32)), .val (.int c0), .val (.int c1)] [(.ref b101)])) _
    refine own_st (fun _ k => XS.dup X101.here hx rfl (hb hby d5_7) rfl rfl k) ?_
    show own_Goes p e below (T101.setTop (mkF m 8 #[.val (.int (0 : Int32)), .val (.int c0), .val (.int c1)] [(.ref b101), (.ref b101)])) _
    refine own_st (fun _ k => XS.iconst X101.here hx rfl (hb hby d5_8) k) ?_
    show own_Goes p e below (T101.setTop (mkF m 9 #[.val (.int (0 : Int32)), .val (.int c0), .val (.int c1)] [(.int (0 : Int32)), (.ref b101), (.ref b101)])) _
    have f102 := (Nat.le_trans Z0 E101.1)
    have f103 := ((Keep.refl h0 []).ext E101)
    obtain ⟨T104, h104, k104, X104, e104, E104, A104, st104⟩ := newP X101 hx hZ (hw _ (List.mem_of_getElem? (i := 7) rfl)) e101 (g := (mkF m 9 #[.val (.int (0 : Int32)), .val (.int c0), .val (.int c1)] [(.int (0 : Int32)), (.ref b101), (.ref b101)])) rfl (hb hby d5_9) rfl (by decide) (cap := 0) (by decide) (by decide) (by decide) (by decide)
    obtain ⟨b104, g104⟩ : ∃ z, z = h101.size := ⟨_, rfl⟩
    rw [← g104] at A104 st104
    have g_b104 : n0 ≤ b104 := Nat.le_trans f102 (Nat.le_of_eq g104.symm)
    have sz_b104 : h0.size ≤ b104 := Nat.le_trans f103.1 (Nat.le_of_eq g104.symm)
    have ne_b101_b104 : b101 ≠ b104 := by rw [g104]; exact Nat.ne_of_lt (A101).lt
    have V_b104 : Arv Z h104 b104 k104 .char (0 : Int32) [] (.int (0 : Int32)) := Arv.pad (Arv.new A104 (by decide)) (pad_rep [] _ 0)
    refine own_st st104 ?_
    show own_Goes p e below (T104.setTop (mkF m 11 #[.val (.int (0 : Int32)), .val (.int c0), .val (.int c1)] [(.ref b104), (.ref b101), (.ref b101)])) _
    have f106 := (Nat.le_trans f102 E104.1)
    have f107 := (F_value_b101.ext E104)
    have f108 := (F_coder_b101.ext E104)
    have f109 := (A101.ext E104)
    have f110 := ((O0.ext E101).ext E104)
    have f111 := (f103.ext E104)
    have f112 := (Nat.le_trans (Nat.le_trans (Nat.zero_le _) E101.1) E104.1)
    obtain ⟨_, T105, h105, L105, X105, e105, ⟨rfl, N105q, K105, ⟨bb105, kb105, T105q⟩, hE105⟩, hS, hZ, hown, st105⟩ := own_callIS (argsL := [(.ref b104)]) (rest := [(.ref b101)]) (pc := 11) (W := 1) (Ls := #[.val (.int (0 : Int32)), .val (.int c0), .val (.int c1)]) (S := [(.ref b104), (.ref b101), (.ref b101)]) X104 hx hZ hown hS f112 (fun _ w => own_E_warm (own_E_keep hP f111) w) rfl (hw _ (List.mem_of_getElem? (i := 8) rfl)) (hw _ (List.mem_of_getElem? (i := 9) rfl)) (hw _ (List.mem_of_getElem? (i := 6) rfl)) (hw _ (List.mem_of_getElem? (i := 10) rfl)) (by decide) (rm61 l Z a0 hw [] b101 b104 k104 h104 n0 f106 V_b104 f107 f108 f109 g_b101 f110 hh0 hcw0) (by decide) (by decide) e104 (by rw [hml]; rfl) (lenOf pd___C_V rfl) rfl (Nat.le_of_eq rfl) (hb hby d5_11) (by decide) (by decide)
    refine own_st st105 ?_
    have N105 := Fr.app N0 N105q
    show own_Goes p e below (T105.setTop (mkF m 14 #[.val (.int (0 : Int32)), .val (.int c0), .val (.int c1)] [(.ref b101)])) _
    have f113 := (f111.trans K105 (allS (Or.inr sz_b101) all0))
    exact own_retSA X105 hS (Nat.le_refl h105.size) hx hlk hret rfl rfl rfl (hb hby d5_14) (by decide) (by decide) e105 ⟨b101, bb105, kb105, _, _, rfl, g_b101, sz_b101, N105, f113, T105q, Or.inl ⟨rfl, rfl, rfl⟩, hE105⟩
  · show own_Goes p e below (s₁.setTop (mkF m 1 #[.val (.int (1 : Int32)), .val (.int c0), .val (.int c1)] [(.int (1 : Int32))])) _
    refine own_st (fun _ k => XS.ifYes X0.here hx rfl (pc0 := 1) (pc' := 15) rfl (hb hby d5_1) rfl ((if0 _ _).trans (feq (by decide : ¬ ((1 : Int32) = (0 : Int32)))).2) (by decide) (by decide) k) ?_
    show own_Goes p e below (s₁.setTop (mkF m 15 #[.val (.int (1 : Int32)), .val (.int c0), .val (.int c1)] [])) _
    refine own_st (fun _ k => XS.iloadN X0.here hx rfl (hb hby d5_15) rfl k) ?_
    show own_Goes p e below (s₁.setTop (mkF m 16 #[.val (.int (1 : Int32)), .val (.int c0), .val (.int c1)] [(.int (1 : Int32))])) _
    refine own_st (fun _ k => XS.iconst X0.here hx rfl (hb hby d5_16) k) ?_
    show own_Goes p e below (s₁.setTop (mkF m 17 #[.val (.int (1 : Int32)), .val (.int c0), .val (.int c1)] [(.int (1 : Int32)), (.int (1 : Int32))])) _
    refine own_st (fun _ k => XS.icmpNo X0.here hx rfl (hb hby d5_17) rfl (teq (by decide : (1 : Int32) = (1 : Int32))).2 k) ?_
    show own_Goes p e below (s₁.setTop (mkF m 20 #[.val (.int (1 : Int32)), .val (.int c0), .val (.int c1)] [])) _
    obtain ⟨T114, h114, X114, e114, E114, A114, D114, -, st114⟩ := newO X0 hx hZ hown (hw _ (List.mem_of_getElem? (i := 4) rfl)) (hw _ (List.mem_of_getElem? (i := 5) rfl)) (hw _ (List.mem_of_getElem? (i := 6) rfl)) e0 (g := (mkF m 20 #[.val (.int (1 : Int32)), .val (.int c0), .val (.int c1)] [])) rfl (hb hby d5_20) (by decide) (by decide)
    obtain ⟨b114, g114⟩ : ∃ z, z = h0.size := ⟨_, rfl⟩
    rw [← g114] at A114 D114 st114
    have g_b114 : n0 ≤ b114 := Nat.le_trans Z0 (Nat.le_of_eq g114.symm)
    have sz_b114 : h0.size ≤ b114 := Nat.le_trans (Keep.refl h0 []).1 (Nat.le_of_eq g114.symm)
    have F_coder_b114 : Fld Z h114 b114 "java/lang/String" "coder" "B" (.int (0 : Int32)) := D114 (Or.inr (hw _ (List.mem_of_getElem? (i := 31) rfl))) (ty := .byte) (by decide)
    have F_value_b114 : Fld Z h114 b114 "java/lang/String" "value" "[B" .null := D114 (Or.inr (hw _ (List.mem_of_getElem? (i := 33) rfl))) (ty := (.array .byte)) (by decide)
    refine own_st st114 ?_
    show own_Goes p e below (T114.setTop (mkF m 23 #[.val (.int (1 : Int32)), .val (.int c0), .val (.int c1)] [(.ref b114)])) _
    refine own_st (fun _ k => XS.dup X114.here hx rfl (hb hby d5_23) rfl rfl k) ?_
    show own_Goes p e below (T114.setTop (mkF m 24 #[.val (.int (1 : Int32)), .val (.int c0), .val (.int c1)] [(.ref b114), (.ref b114)])) _
    refine own_st (fun _ k => XS.iconst X114.here hx rfl (hb hby d5_24) k) ?_
    show own_Goes p e below (T114.setTop (mkF m 25 #[.val (.int (1 : Int32)), .val (.int c0), .val (.int c1)] [(.int (1 : Int32)), (.ref b114), (.ref b114)])) _
    have f115 := (Nat.le_trans Z0 E114.1)
    have f116 := ((Keep.refl h0 []).ext E114)
    obtain ⟨T117, h117, k117, X117, e117, E117, A117, st117⟩ := newP X114 hx hZ (hw _ (List.mem_of_getElem? (i := 7) rfl)) e114 (g := (mkF m 25 #[.val (.int (1 : Int32)), .val (.int c0), .val (.int c1)] [(.int (1 : Int32)), (.ref b114), (.ref b114)])) rfl (hb hby d5_25) rfl (by decide) (cap := 1) (by decide) (by decide) (by decide) (by decide)
    obtain ⟨b117, g117⟩ : ∃ z, z = h114.size := ⟨_, rfl⟩
    rw [← g117] at A117 st117
    have g_b117 : n0 ≤ b117 := Nat.le_trans f115 (Nat.le_of_eq g117.symm)
    have sz_b117 : h0.size ≤ b117 := Nat.le_trans f116.1 (Nat.le_of_eq g117.symm)
    have ne_b114_b117 : b114 ≠ b117 := by rw [g117]; exact Nat.ne_of_lt (A114).lt
    have V_b117 : Arv Z h117 b117 k117 .char (1 : Int32) [(.int (0 : Int32))] (.int (0 : Int32)) := Arv.pad (Arv.new A117 (by decide)) (pad_rep [] _ 1)
    refine own_st st117 ?_
    show own_Goes p e below (T117.setTop (mkF m 27 #[.val (.int (1 : Int32)), .val (.int c0), .val (.int c1)] [(.ref b117), (.ref b114), (.ref b114)])) _
    refine own_st (fun _ k => XS.dup X117.here hx rfl (hb hby d5_27) rfl rfl k) ?_
    show own_Goes p e below (T117.setTop (mkF m 28 #[.val (.int (1 : Int32)), .val (.int c0), .val (.int c1)] [(.ref b117), (.ref b117), (.ref b114), (.ref b114)])) _
    refine own_st (fun _ k => XS.iconst X117.here hx rfl (hb hby d5_28) k) ?_
    show own_Goes p e below (T117.setTop (mkF m 29 #[.val (.int (1 : Int32)), .val (.int c0), .val (.int c1)] [(.int (0 : Int32)), (.ref b117), (.ref b117), (.ref b114), (.ref b114)])) _
    refine own_st (fun _ k => XS.iloadN X117.here hx rfl (hb hby d5_29) rfl k) ?_
    show own_Goes p e below (T117.setTop (mkF m 30 #[.val (.int (1 : Int32)), .val (.int c0), .val (.int c1)] [(.int c0), (.int (0 : Int32)), (.ref b117), (.ref b117), (.ref b114), (.ref b114)])) _
    obtain ⟨T118, h118, X118, e118, W118, V118, st118⟩ := own_stC (x := c0) (x' := c0) (own_narc hc0) (pc := 30) (Ls := #[.val (.int (1 : Int32)), .val (.int c0), .val (.int c1)]) (rest := [(.ref b117), (.ref b114), (.ref b114)]) (j := (0 : Int32)) X117 hx hZ e117 V_b117 0 (by decide) (by decide) (Nat.le_of_ble_eq_true rfl) (hb hby d5_30)
    have V118 : Arv Z h118 b117 k117 .char (1 : Int32) [(.int c0)] (.int (0 : Int32)) := V118
    have N118 := Fr.snoc X118 N0 g_b117
    refine own_st st118 ?_
    show own_Goes p e below (T118.setTop (mkF m 31 #[.val (.int (1 : Int32)), .val (.int c0), .val (.int c1)] [(.ref b117), (.ref b114), (.ref b114)])) _
    have f120 := (Nat.le_trans (Nat.le_trans f115 E117.1) (Nat.le_of_eq W118.size.symm))
    have f121 := ((F_value_b114.ext E117).other W118 (Or.inl ne_b114_b117))
    have f122 := ((F_coder_b114.ext E117).other W118 (Or.inl ne_b114_b117))
    have f123 := ((A114.ext E117).wr W118)
    have f124 := (((C1.ext E114).ext E117).wr W118)
    obtain ⟨_, T119, h119, L119, X119, e119, ⟨rfl, N119q, K119, bb119, kb119, gb119, sb119, T119q⟩, st119⟩ := own_callI (argsL := [(.ref b117)]) (rest := [(.ref b114)]) (pc := 31) (W := 1) (Ls := #[.val (.int (1 : Int32)), .val (.int c0), .val (.int c1)]) (S := [(.ref b117), (.ref b114), (.ref b114)]) X118 hx hZ hown rfl (hw _ (List.mem_of_getElem? (i := 8) rfl)) (hw _ (List.mem_of_getElem? (i := 9) rfl)) (hw _ (List.mem_of_getElem? (i := 6) rfl)) (hw _ (List.mem_of_getElem? (i := 10) rfl)) (by decide) (rm33 l Z a0 hw [] b114 b117 k117 cs c0 h118 n0 f120 f121 f122 f123 V118 g_b114 (Ne.symm ne_b114_b117) f124 hcs hc0) (by decide) (by decide) e118 (by rw [hml]; rfl) (lenOf pd___C_V rfl) rfl (Nat.le_of_eq rfl) (hb hby d5_31) (by decide) (by decide)
    refine own_st st119 ?_
    have N119 := Fr.app N118 N119q
    show own_Goes p e below (T119.setTop (mkF m 34 #[.val (.int (1 : Int32)), .val (.int c0), .val (.int c1)] [(.ref b114)])) _
    have f125 := (Nat.le_trans (Nat.le_trans (Nat.le_trans (Nat.le_trans (Nat.zero_le _) E114.1) E117.1) (Nat.le_of_eq W118.size.symm)) K119.1)
    have f126 := (((f116.ext E117).wr W118 (Or.inr sz_b117)).trans K119 (allS (Or.inr sz_b114) all0))
    exact own_retSA X119 hS f125 hx hlk hret rfl rfl rfl (hb hby d5_34) (by decide) (by decide) e119 ⟨b114, bb119, kb119, _, _, rfl, g_b114, sz_b114, N119, f126, T119q, Or.inr (Or.inl ⟨rfl, rfl, rfl⟩), (own_E_warm (own_E_keep hP f126) X119.warmed)⟩
  · show own_Goes p e below (s₁.setTop (mkF m 1 #[.val (.int (2 : Int32)), .val (.int c0), .val (.int c1)] [(.int (2 : Int32))])) _
    refine own_st (fun _ k => XS.ifYes X0.here hx rfl (pc0 := 1) (pc' := 15) rfl (hb hby d5_1) rfl ((if0 _ _).trans (feq (by decide : ¬ ((2 : Int32) = (0 : Int32)))).2) (by decide) (by decide) k) ?_
    show own_Goes p e below (s₁.setTop (mkF m 15 #[.val (.int (2 : Int32)), .val (.int c0), .val (.int c1)] [])) _
    refine own_st (fun _ k => XS.iloadN X0.here hx rfl (hb hby d5_15) rfl k) ?_
    show own_Goes p e below (s₁.setTop (mkF m 16 #[.val (.int (2 : Int32)), .val (.int c0), .val (.int c1)] [(.int (2 : Int32))])) _
    refine own_st (fun _ k => XS.iconst X0.here hx rfl (hb hby d5_16) k) ?_
    show own_Goes p e below (s₁.setTop (mkF m 17 #[.val (.int (2 : Int32)), .val (.int c0), .val (.int c1)] [(.int (1 : Int32)), (.int (2 : Int32))])) _
    refine own_st (fun _ k => XS.icmpYes X0.here hx rfl (pc0 := 17) (pc' := 35) rfl (hb hby d5_17) rfl (feq (by decide : ¬ ((2 : Int32) = (1 : Int32)))).2 (by decide) (by decide) k) ?_
    show own_Goes p e below (s₁.setTop (mkF m 35 #[.val (.int (2 : Int32)), .val (.int c0), .val (.int c1)] [])) _
    obtain ⟨T127, h127, X127, e127, E127, A127, D127, -, st127⟩ := newO X0 hx hZ hown (hw _ (List.mem_of_getElem? (i := 4) rfl)) (hw _ (List.mem_of_getElem? (i := 5) rfl)) (hw _ (List.mem_of_getElem? (i := 6) rfl)) e0 (g := (mkF m 35 #[.val (.int (2 : Int32)), .val (.int c0), .val (.int c1)] [])) rfl (hb hby d5_35) (by decide) (by decide)
    obtain ⟨b127, g127⟩ : ∃ z, z = h0.size := ⟨_, rfl⟩
    rw [← g127] at A127 D127 st127
    have g_b127 : n0 ≤ b127 := Nat.le_trans Z0 (Nat.le_of_eq g127.symm)
    have sz_b127 : h0.size ≤ b127 := Nat.le_trans (Keep.refl h0 []).1 (Nat.le_of_eq g127.symm)
    have F_coder_b127 : Fld Z h127 b127 "java/lang/String" "coder" "B" (.int (0 : Int32)) := D127 (Or.inr (hw _ (List.mem_of_getElem? (i := 31) rfl))) (ty := .byte) (by decide)
    have F_value_b127 : Fld Z h127 b127 "java/lang/String" "value" "[B" .null := D127 (Or.inr (hw _ (List.mem_of_getElem? (i := 33) rfl))) (ty := (.array .byte)) (by decide)
    refine own_st st127 ?_
    show own_Goes p e below (T127.setTop (mkF m 38 #[.val (.int (2 : Int32)), .val (.int c0), .val (.int c1)] [(.ref b127)])) _
    refine own_st (fun _ k => XS.dup X127.here hx rfl (hb hby d5_38) rfl rfl k) ?_
    show own_Goes p e below (T127.setTop (mkF m 39 #[.val (.int (2 : Int32)), .val (.int c0), .val (.int c1)] [(.ref b127), (.ref b127)])) _
    refine own_st (fun _ k => XS.iconst X127.here hx rfl (hb hby d5_39) k) ?_
    show own_Goes p e below (T127.setTop (mkF m 40 #[.val (.int (2 : Int32)), .val (.int c0), .val (.int c1)] [(.int (2 : Int32)), (.ref b127), (.ref b127)])) _
    have f128 := (Nat.le_trans Z0 E127.1)
    have f129 := ((Keep.refl h0 []).ext E127)
    obtain ⟨T130, h130, k130, X130, e130, E130, A130, st130⟩ := newP X127 hx hZ (hw _ (List.mem_of_getElem? (i := 7) rfl)) e127 (g := (mkF m 40 #[.val (.int (2 : Int32)), .val (.int c0), .val (.int c1)] [(.int (2 : Int32)), (.ref b127), (.ref b127)])) rfl (hb hby d5_40) rfl (by decide) (cap := 2) (by decide) (by decide) (by decide) (by decide)
    obtain ⟨b130, g130⟩ : ∃ z, z = h127.size := ⟨_, rfl⟩
    rw [← g130] at A130 st130
    have g_b130 : n0 ≤ b130 := Nat.le_trans f128 (Nat.le_of_eq g130.symm)
    have sz_b130 : h0.size ≤ b130 := Nat.le_trans f129.1 (Nat.le_of_eq g130.symm)
    have ne_b127_b130 : b127 ≠ b130 := by rw [g130]; exact Nat.ne_of_lt (A127).lt
    have V_b130 : Arv Z h130 b130 k130 .char (2 : Int32) [(.int (0 : Int32)), (.int (0 : Int32))] (.int (0 : Int32)) := Arv.pad (Arv.new A130 (by decide)) (pad_rep [] _ 2)
    refine own_st st130 ?_
    show own_Goes p e below (T130.setTop (mkF m 42 #[.val (.int (2 : Int32)), .val (.int c0), .val (.int c1)] [(.ref b130), (.ref b127), (.ref b127)])) _
    refine own_st (fun _ k => XS.dup X130.here hx rfl (hb hby d5_42) rfl rfl k) ?_
    show own_Goes p e below (T130.setTop (mkF m 43 #[.val (.int (2 : Int32)), .val (.int c0), .val (.int c1)] [(.ref b130), (.ref b130), (.ref b127), (.ref b127)])) _
    refine own_st (fun _ k => XS.iconst X130.here hx rfl (hb hby d5_43) k) ?_
    show own_Goes p e below (T130.setTop (mkF m 44 #[.val (.int (2 : Int32)), .val (.int c0), .val (.int c1)] [(.int (0 : Int32)), (.ref b130), (.ref b130), (.ref b127), (.ref b127)])) _
    refine own_st (fun _ k => XS.iloadN X130.here hx rfl (hb hby d5_44) rfl k) ?_
    show own_Goes p e below (T130.setTop (mkF m 45 #[.val (.int (2 : Int32)), .val (.int c0), .val (.int c1)] [(.int c0), (.int (0 : Int32)), (.ref b130), (.ref b130), (.ref b127), (.ref b127)])) _
    obtain ⟨T131, h131, X131, e131, W131, V131, st131⟩ := own_stC (x := c0) (x' := c0) (own_narc hc0) (pc := 45) (Ls := #[.val (.int (2 : Int32)), .val (.int c0), .val (.int c1)]) (rest := [(.ref b130), (.ref b127), (.ref b127)]) (j := (0 : Int32)) X130 hx hZ e130 V_b130 0 (by decide) (by decide) (Nat.le_of_ble_eq_true rfl) (hb hby d5_45)
    have V131 : Arv Z h131 b130 k130 .char (2 : Int32) [(.int c0), (.int (0 : Int32))] (.int (0 : Int32)) := V131
    have N131 := Fr.snoc X131 N0 g_b130
    refine own_st st131 ?_
    show own_Goes p e below (T131.setTop (mkF m 46 #[.val (.int (2 : Int32)), .val (.int c0), .val (.int c1)] [(.ref b130), (.ref b127), (.ref b127)])) _
    refine own_st (fun _ k => XS.dup X131.here hx rfl (hb hby d5_46) rfl rfl k) ?_
    show own_Goes p e below (T131.setTop (mkF m 47 #[.val (.int (2 : Int32)), .val (.int c0), .val (.int c1)] [(.ref b130), (.ref b130), (.ref b127), (.ref b127)])) _
    refine own_st (fun _ k => XS.iconst X131.here hx rfl (hb hby d5_47) k) ?_
    show own_Goes p e below (T131.setTop (mkF m 48 #[.val (.int (2 : Int32)), .val (.int c0), .val (.int c1)] [(.int (1 : Int32)), (.ref b130), (.ref b130), (.ref b127), (.ref b127)])) _
    refine own_st (fun _ k => XS.iloadN X131.here hx rfl (hb hby d5_48) rfl k) ?_
    show own_Goes p e below (T131.setTop (mkF m 49 #[.val (.int (2 : Int32)), .val (.int c0), .val (.int c1)] [(.int c1), (.int (1 : Int32)), (.ref b130), (.ref b130), (.ref b127), (.ref b127)])) _
    obtain ⟨T132, h132, X132, e132, W132, V132, st132⟩ := own_stC (x := c1) (x' := c1) (own_narc hc1) (pc := 49) (Ls := #[.val (.int (2 : Int32)), .val (.int c0), .val (.int c1)]) (rest := [(.ref b130), (.ref b127), (.ref b127)]) (j := (1 : Int32)) X131 hx hZ e131 V131 1 (by decide) (by decide) (Nat.le_of_ble_eq_true rfl) (hb hby d5_49)
    have V132 : Arv Z h132 b130 k130 .char (2 : Int32) [(.int c0), (.int c1)] (.int (0 : Int32)) := V132
    have N132 := Fr.snoc X132 N131 g_b130
    refine own_st st132 ?_
    show own_Goes p e below (T132.setTop (mkF m 50 #[.val (.int (2 : Int32)), .val (.int c0), .val (.int c1)] [(.ref b130), (.ref b127), (.ref b127)])) _
    have f134 := (Nat.le_trans (Nat.le_trans (Nat.le_trans f128 E130.1) (Nat.le_of_eq W131.size.symm)) (Nat.le_of_eq W132.size.symm))
    have f135 := (((F_value_b127.ext E130).other W131 (Or.inl ne_b127_b130)).other W132 (Or.inl ne_b127_b130))
    have f136 := (((F_coder_b127.ext E130).other W131 (Or.inl ne_b127_b130)).other W132 (Or.inl ne_b127_b130))
    have f137 := (((A127.ext E130).wr W131).wr W132)
    have f138 := ((((C1.ext E127).ext E130).wr W131).wr W132)
    obtain ⟨_, T133, h133, L133, X133, e133, ⟨rfl, N133q, K133, bb133, kb133, gb133, sb133, T133q⟩, st133⟩ := own_callI (argsL := [(.ref b130)]) (rest := [(.ref b127)]) (pc := 50) (W := 1) (Ls := #[.val (.int (2 : Int32)), .val (.int c0), .val (.int c1)]) (S := [(.ref b130), (.ref b127), (.ref b127)]) X132 hx hZ hown rfl (hw _ (List.mem_of_getElem? (i := 8) rfl)) (hw _ (List.mem_of_getElem? (i := 9) rfl)) (hw _ (List.mem_of_getElem? (i := 6) rfl)) (hw _ (List.mem_of_getElem? (i := 10) rfl)) (by decide) (rm43 l Z a0 hw [] b127 b130 k130 cs c0 c1 h132 n0 f134 f135 f136 f137 V132 g_b127 (Ne.symm ne_b127_b130) f138 hcs hc0 hc1) (by decide) (by decide) e132 (by rw [hml]; rfl) (lenOf pd___C_V rfl) rfl (Nat.le_of_eq rfl) (hb hby d5_50) (by decide) (by decide)
    refine own_st st133 ?_
    have N133 := Fr.app N132 N133q
    show own_Goes p e below (T133.setTop (mkF m 53 #[.val (.int (2 : Int32)), .val (.int c0), .val (.int c1)] [(.ref b127)])) _
    have f139 := (Nat.le_trans (Nat.le_trans (Nat.le_trans (Nat.le_trans (Nat.le_trans (Nat.zero_le _) E127.1) E130.1) (Nat.le_of_eq W131.size.symm)) (Nat.le_of_eq W132.size.symm)) K133.1)
    have f140 := ((((f129.ext E130).wr W131 (Or.inr sz_b130)).wr W132 (Or.inr sz_b130)).trans K133 (allS (Or.inr sz_b127) all0))
    exact own_retSA X133 hS f139 hx hlk hret rfl rfl rfl (hb hby d5_53) (by decide) (by decide) e133 ⟨b127, bb133, kb133, _, _, rfl, g_b127, sz_b127, N133, f140, T133q, Or.inr (Or.inr ⟨rfl, rfl, rfl⟩), (own_E_warm (own_E_keep hP f140) X133.warmed)⟩
theorem d6_0 : decode jdk_30_method_1_code 0 = .ok (.aload_n 0, 1) := by decide +kernel
theorem d6_1 : decode jdk_30_method_1_code 1 = .ok (.invokespecial 1, 3) := by decide +kernel
theorem d6_4 : decode jdk_30_method_1_code 4 = .ok (.return_, 1) := by decide +kernel
theorem ef_6 (m : MethodId) (e0 : Addr) : entryFrame m #[(.ref e0)] 1 = mkF m 0 #[.val (.ref e0)] [] := by first | (simp [entryFrame, mkF, argsToLocals, Value.category]; done) | rfl
set_option maxRecDepth 65536 in
set_option maxHeartbeats 40000000 in
theorem rm6 (l : Launch) (Z : State) (a0 : Array Value) (hw : ∀ d ∈ tables_1, d.before a0 Z = true) (ws : List Jvm.Cond) (x1 : Addr) (h0 : Heap) (n0 : Nat) (Z0 : n0 ≤ h0.size)  :
    own_Ct l Z (⟨"java/lang/Record", "<init>", "()V"⟩ : MethodName) jdk_30_method_1_code 1 none ws ({ frames := 1, cells := 0, slots := 0, locals := 12 } : Room) #[(.ref x1)] h0 (fun v h L => v = none ∧ L = [] ∧ h = h0) ({ frames := 1, cells := 0, slots := 0, locals := 12 } : Room).cells ({ frames := 1, cells := 0, slots := 0, locals := 12 } : Room).slots := by
  refine own_met (plainFor_of_name pn_java_lang_Record) (fun p e s m below meth c s₁ X0 hx hby hml hret hlk hnm hown hZ e0 => ?_)
  have hml : c.maxLocals = 1 := hml
  have N0 := Fr.nil n0
  refine own_st (fun _ k => castTop (ef_6 m x1) k) ?_
  show own_Goes p e below (s₁.setTop (mkF m 0 #[.val (.ref x1)] [])) _
  refine own_st (fun _ k => XS.aloadN X0.here hx rfl (hb hby d6_0) rfl rfl k) ?_
  show own_Goes p e below (s₁.setTop (mkF m 1 #[.val (.ref x1)] [(.ref x1)])) _
  obtain ⟨T101, X101, e101, st101⟩ := initO X0 hx hZ hown (hw _ (List.mem_of_getElem? (i := 48) rfl)) (hw _ (List.mem_of_getElem? (i := 16) rfl)) (hw _ (List.mem_of_getElem? (i := 17) rfl)) e0 (g := (mkF m 1 #[.val (.ref x1)] [(.ref x1)])) rfl (by rw [hml]; rfl) rfl (hb hby d6_1) (by decide) (W := 0) (by show 2 * 0 + _ ≤ _; exact Nat.le_of_eq rfl) (by decide)
  refine own_st st101 ?_
  show own_Goes p e below (T101.setTop (mkF m 4 #[.val (.ref x1)] [])) _
  exact own_retV X101 hx hlk hret (hb hby d6_4) (by decide) (by decide) e101 ⟨rfl, rfl, rfl⟩
theorem d7_0 : decode prog_8_method_1_code 0 = .ok (.aload_n 0, 1) := by decide +kernel
theorem d7_1 : decode prog_8_method_1_code 1 = .ok (.invokespecial 1, 3) := by decide +kernel
theorem d7_4 : decode prog_8_method_1_code 4 = .ok (.aload_n 0, 1) := by decide +kernel
theorem d7_5 : decode prog_8_method_1_code 5 = .ok (.aload_n 1, 1) := by decide +kernel
theorem d7_6 : decode prog_8_method_1_code 6 = .ok (.putfield 7, 3) := by decide +kernel
theorem d7_9 : decode prog_8_method_1_code 9 = .ok (.return_, 1) := by decide +kernel
theorem ef_7 (m : MethodId) (e0 : Addr) (e1 : Addr) : entryFrame m #[(.ref e0), (.ref e1)] 2 = mkF m 0 #[.val (.ref e0), .val (.ref e1)] [] := by first | (simp [entryFrame, mkF, argsToLocals, Value.category]; done) | rfl
set_option maxRecDepth 65536 in
set_option maxHeartbeats 40000000 in
theorem rm7 (l : Launch) (Z : State) (a0 : Array Value) (hw : ∀ d ∈ tables_1, d.before a0 Z = true) (ws : List Jvm.Cond) (x1 a1 : Addr) (h0 : Heap) (n0 : Nat) (Z0 : n0 ≤ h0.size) (F1 : Fld Z h0 x1 "com/example/charon/charon/ReturnUrl" "value" "Ljava/lang/String;" .null) (E1 : Exa Z h0 x1 "com/example/charon/charon/ReturnUrl") (g1 : n0 ≤ x1) :
    own_Ct l Z (⟨"com/example/charon/charon/ReturnUrl", "<init>", "(Ljava/lang/String;)V"⟩ : MethodName) prog_8_method_1_code 2 none ws ({ frames := 2, cells := 0, slots := 0, locals := 30 } : Room) #[(.ref x1), (.ref a1)] h0 (fun v h L => v = none ∧ Fr n0 L ∧ Keep h0 h [x1] ∧ Fld Z h x1 "com/example/charon/charon/ReturnUrl" "value" "Ljava/lang/String;" (.ref a1)) ({ frames := 2, cells := 0, slots := 0, locals := 30 } : Room).cells ({ frames := 2, cells := 0, slots := 0, locals := 30 } : Room).slots := by
  refine own_met (plainFor_of_name pn_com_example_charon_charon_ReturnUrl) (fun p e s m below meth c s₁ X0 hx hby hml hret hlk hnm hown hZ e0 => ?_)
  have hml : c.maxLocals = 2 := hml
  have N0 := Fr.nil n0
  refine own_st (fun _ k => castTop (ef_7 m x1 a1) k) ?_
  show own_Goes p e below (s₁.setTop (mkF m 0 #[.val (.ref x1), .val (.ref a1)] [])) _
  refine own_st (fun _ k => XS.aloadN X0.here hx rfl (hb hby d7_0) rfl rfl k) ?_
  show own_Goes p e below (s₁.setTop (mkF m 1 #[.val (.ref x1), .val (.ref a1)] [(.ref x1)])) _
  obtain ⟨_, T101, h101, L101, X101, e101, ⟨rfl, rfl, q101⟩, st101⟩ := own_callI (argsL := []) (rest := []) (pc := 1) (W := 0) (Ls := #[.val (.ref x1), .val (.ref a1)]) (S := [(.ref x1)]) X0 hx hZ hown rfl (hw _ (List.mem_of_getElem? (i := 43) rfl)) (hw _ (List.mem_of_getElem? (i := 44) rfl)) (hw _ (List.mem_of_getElem? (i := 46) rfl)) (hw _ (List.mem_of_getElem? (i := 47) rfl)) (by decide) (rm6 l Z a0 hw [] x1 h0 n0 Z0) (by decide) (by decide) e0 (by rw [hml]; rfl) (lenOf pd___V rfl) rfl (Nat.le_of_eq rfl) (hb hby d7_1) (by decide) (by decide)
  refine own_st st101 ?_
  show own_Goes p e below (T101.setTop (mkF m 4 #[.val (.ref x1), .val (.ref a1)] [])) _
  refine own_st (fun _ k => XS.aloadN X101.here hx rfl (hb hby d7_4) rfl rfl k) ?_
  show own_Goes p e below (T101.setTop (mkF m 5 #[.val (.ref x1), .val (.ref a1)] [(.ref x1)])) _
  refine own_st (fun _ k => XS.aloadN X101.here hx rfl (hb hby d7_5) rfl rfl k) ?_
  show own_Goes p e below (T101.setTop (mkF m 6 #[.val (.ref x1), .val (.ref a1)] [(.ref a1), (.ref x1)])) _
  obtain ⟨T102, h102, X102, e102, W102, st102⟩ := putF X101 hx hZ hown (host := "") (Or.inl (hw _ (List.mem_of_getElem? (i := 49) rfl))) Via.refl (e101.trans q101) F1 E1 (Or.inr ⟨(hw _ (List.mem_of_getElem? (i := 50) rfl)), rfl, hnm⟩) (hw _ (List.mem_of_getElem? (i := 38) rfl)) (ty := (.object "java/lang/String")) (by decide) rfl rfl (g := (mkF m 6 #[.val (.ref x1), .val (.ref a1)] [(.ref a1), (.ref x1)])) rfl rfl (hb hby d7_6)
  have Fw102 := F1.same W102
  have N102 := Fr.snoc X102 N0 g1
  refine own_st st102 ?_
  show own_Goes p e below (T102.setTop (mkF m 9 #[.val (.ref x1), .val (.ref a1)] [])) _
  have f103 := ((Keep.refl h0 [x1]).wr W102 (Or.inl (by simp)))
  exact own_retV X102 hx hlk hret (hb hby d7_9) (by decide) (by decide) e102 ⟨rfl, N102, f103, Fw102⟩
theorem d8_0 : decode jdk_43_method_13_code 0 = .ok (.aload_n 0, 1) := by decide +kernel
theorem d8_1 : decode jdk_43_method_13_code 1 = .ok (.arraylength, 1) := by decide +kernel
theorem d8_2 : decode jdk_43_method_13_code 2 = .ok (.aload_n 1, 1) := by decide +kernel
theorem d8_3 : decode jdk_43_method_13_code 3 = .ok (.arraylength, 1) := by decide +kernel
theorem d8_4 : decode jdk_43_method_13_code 4 = .ok (.if_icmp .ne 30, 3) := by decide +kernel
theorem d8_7 : decode jdk_43_method_13_code 7 = .ok (.iconst 0, 1) := by decide +kernel
theorem d8_8 : decode jdk_43_method_13_code 8 = .ok (.istore_n 2, 1) := by decide +kernel
theorem d8_9 : decode jdk_43_method_13_code 9 = .ok (.iload_n 2, 1) := by decide +kernel
theorem d8_10 : decode jdk_43_method_13_code 10 = .ok (.aload_n 0, 1) := by decide +kernel
theorem d8_11 : decode jdk_43_method_13_code 11 = .ok (.arraylength, 1) := by decide +kernel
theorem d8_12 : decode jdk_43_method_13_code 12 = .ok (.if_icmp .ge 20, 3) := by decide +kernel
theorem d8_15 : decode jdk_43_method_13_code 15 = .ok (.aload_n 0, 1) := by decide +kernel
theorem d8_16 : decode jdk_43_method_13_code 16 = .ok (.iload_n 2, 1) := by decide +kernel
theorem d8_17 : decode jdk_43_method_13_code 17 = .ok (.baload, 1) := by decide +kernel
theorem d8_18 : decode jdk_43_method_13_code 18 = .ok (.aload_n 1, 1) := by decide +kernel
theorem d8_19 : decode jdk_43_method_13_code 19 = .ok (.iload_n 2, 1) := by decide +kernel
theorem d8_20 : decode jdk_43_method_13_code 20 = .ok (.baload, 1) := by decide +kernel
theorem d8_21 : decode jdk_43_method_13_code 21 = .ok (.if_icmp .eq 5, 3) := by decide +kernel
theorem d8_24 : decode jdk_43_method_13_code 24 = .ok (.iconst 0, 1) := by decide +kernel
theorem d8_25 : decode jdk_43_method_13_code 25 = .ok (.ireturn, 1) := by decide +kernel
theorem d8_26 : decode jdk_43_method_13_code 26 = .ok (.iinc 2 1, 3) := by decide +kernel
theorem d8_29 : decode jdk_43_method_13_code 29 = .ok (.goto (-20), 3) := by decide +kernel
theorem d8_32 : decode jdk_43_method_13_code 32 = .ok (.iconst 1, 1) := by decide +kernel
theorem d8_33 : decode jdk_43_method_13_code 33 = .ok (.ireturn, 1) := by decide +kernel
theorem d8_34 : decode jdk_43_method_13_code 34 = .ok (.iconst 0, 1) := by decide +kernel
theorem d8_35 : decode jdk_43_method_13_code 35 = .ok (.ireturn, 1) := by decide +kernel
theorem ef_8 (m : MethodId) (e0 : Addr) (e1 : Addr) : entryFrame m #[(.ref e0), (.ref e1)] 3 = mkF m 0 #[.val (.ref e0), .val (.ref e1), .unset] [] := by first | (simp [entryFrame, mkF, argsToLocals, Value.category]; done) | rfl
set_option maxRecDepth 65536 in
set_option maxHeartbeats 40000000 in
theorem rm8 (l : Launch) (Z : State) (a0 : Array Value) (hw : ∀ d ∈ tables_1, d.before a0 Z = true) (ws : List Jvm.Cond) (a1 a2 : Addr) (k1 k2 : ClassId) (la c0 c1 lb d0 d1 na nb : Int32) (bsa bsb : List Value) (h0 : Heap) (n0 : Nat) (Z0 : n0 ≤ h0.size) (V1 : Arv Z h0 a1 k1 .byte na bsa (.int (0 : Int32))) (V2 : Arv Z h0 a2 k2 .byte nb bsb (.int (0 : Int32))) (hA : own_mkr la c0 c1 na bsa) (hB : own_mkr lb d0 d1 nb bsb) (hc0 : own_c8 c0) (hc1 : own_c8 c1) (hd0 : own_c8 d0) (hd1 : own_c8 d1) :
    own_Ct l Z (⟨"java/lang/StringLatin1", "equals", "([B[B)Z"⟩ : MethodName) jdk_43_method_13_code 3 (some .boolean) ws ({ frames := 0, cells := 0, slots := 0, locals := 0 } : Room) #[(.ref a1), (.ref a2)] h0 (fun v h L => v = some (.int (own_eqr la c0 c1 lb d0 d1)) ∧ L = [] ∧ h = h0) ({ frames := 0, cells := 0, slots := 0, locals := 0 } : Room).cells ({ frames := 0, cells := 0, slots := 0, locals := 0 } : Room).slots := by
  refine own_met (plainFor_of_name pn_java_lang_StringLatin1) (fun p e s m below meth c s₁ X0 hx hby hml hret hlk hnm hown hZ e0 => ?_)
  have hml : c.maxLocals = 3 := hml
  have N0 := Fr.nil n0
  refine own_st (fun _ k => castTop (ef_8 m a1 a2) k) ?_
  show own_Goes p e below (s₁.setTop (mkF m 0 #[.val (.ref a1), .val (.ref a2), .unset] [])) _
  rcases hA with ⟨rfl, rfl, rfl⟩ | ⟨rfl, rfl, rfl⟩ | ⟨rfl, rfl, rfl⟩
  · rcases hB with ⟨rfl, rfl, rfl⟩ | ⟨rfl, rfl, rfl⟩ | ⟨rfl, rfl, rfl⟩
    · show own_Goes p e below (s₁.setTop (mkF m 0 #[.val (.ref a1), .val (.ref a2), .unset] [])) _
      refine own_st (fun _ k => XS.aloadN X0.here hx rfl (hb hby d8_0) rfl rfl k) ?_
      show own_Goes p e below (s₁.setTop (mkF m 1 #[.val (.ref a1), .val (.ref a2), .unset] [(.ref a1)])) _
      refine own_st (own_len (pc := 1) (Ls := #[.val (.ref a1), .val (.ref a2), .unset]) (rest := []) X0 hx hZ e0 V1 (hb hby d8_1)) ?_
      show own_Goes p e below (s₁.setTop (mkF m 2 #[.val (.ref a1), .val (.ref a2), .unset] [(.int (0 : Int32))])) _
      refine own_st (fun _ k => XS.aloadN X0.here hx rfl (hb hby d8_2) rfl rfl k) ?_
      show own_Goes p e below (s₁.setTop (mkF m 3 #[.val (.ref a1), .val (.ref a2), .unset] [(.ref a2), (.int (0 : Int32))])) _
      refine own_st (own_len (pc := 3) (Ls := #[.val (.ref a1), .val (.ref a2), .unset]) (rest := [(.int (0 : Int32))]) X0 hx hZ e0 V2 (hb hby d8_3)) ?_
      show own_Goes p e below (s₁.setTop (mkF m 4 #[.val (.ref a1), .val (.ref a2), .unset] [(.int (0 : Int32)), (.int (0 : Int32))])) _
      refine own_st (fun _ k => XS.icmpNo X0.here hx rfl (hb hby d8_4) rfl (teq (by decide : (0 : Int32) = (0 : Int32))).2 k) ?_
      show own_Goes p e below (s₁.setTop (mkF m 7 #[.val (.ref a1), .val (.ref a2), .unset] [])) _
      refine own_st (fun _ k => XS.iconst X0.here hx rfl (hb hby d8_7) k) ?_
      show own_Goes p e below (s₁.setTop (mkF m 8 #[.val (.ref a1), .val (.ref a2), .unset] [(.int (0 : Int32))])) _
      refine own_st (fun _ k => XS.istoreN X0.here hx rfl (hb hby d8_8) rfl (l' := #[.val (.ref a1), .val (.ref a2), .val (.int (0 : Int32))]) rfl k) ?_
      show own_Goes p e below (s₁.setTop (mkF m 9 #[.val (.ref a1), .val (.ref a2), .val (.int (0 : Int32))] [])) _
      refine own_st (fun _ k => XS.iloadN X0.here hx rfl (hb hby d8_9) rfl k) ?_
      show own_Goes p e below (s₁.setTop (mkF m 10 #[.val (.ref a1), .val (.ref a2), .val (.int (0 : Int32))] [(.int (0 : Int32))])) _
      refine own_st (fun _ k => XS.aloadN X0.here hx rfl (hb hby d8_10) rfl rfl k) ?_
      show own_Goes p e below (s₁.setTop (mkF m 11 #[.val (.ref a1), .val (.ref a2), .val (.int (0 : Int32))] [(.ref a1), (.int (0 : Int32))])) _
      refine own_st (own_len (pc := 11) (Ls := #[.val (.ref a1), .val (.ref a2), .val (.int (0 : Int32))]) (rest := [(.int (0 : Int32))]) X0 hx hZ e0 V1 (hb hby d8_11)) ?_
      show own_Goes p e below (s₁.setTop (mkF m 12 #[.val (.ref a1), .val (.ref a2), .val (.int (0 : Int32))] [(.int (0 : Int32)), (.int (0 : Int32))])) _
      refine own_st (fun _ k => XS.icmpYes X0.here hx rfl (pc0 := 12) (pc' := 32) rfl (hb hby d8_12) rfl (flt (by decide : ¬ ((0 : Int32) < (0 : Int32)))).2.1 (by decide) (by decide) k) ?_
      show own_Goes p e below (s₁.setTop (mkF m 32 #[.val (.ref a1), .val (.ref a2), .val (.int (0 : Int32))] [])) _
      refine own_st (fun _ k => XS.iconst X0.here hx rfl (hb hby d8_32) k) ?_
      show own_Goes p e below (s₁.setTop (mkF m 33 #[.val (.ref a1), .val (.ref a2), .val (.int (0 : Int32))] [(.int (1 : Int32))])) _
      exact own_retN (t := .boolean) (z' := (1 : Int32)) X0 hx hlk hret (by simp) (by decide) (hb hby d8_33) (by decide) (by decide) e0 ⟨congrArg (fun z => some (Value.int z)) (by unfold own_eqr; simp []), rfl, rfl⟩
    · show own_Goes p e below (s₁.setTop (mkF m 0 #[.val (.ref a1), .val (.ref a2), .unset] [])) _
      refine own_st (fun _ k => XS.aloadN X0.here hx rfl (hb hby d8_0) rfl rfl k) ?_
      show own_Goes p e below (s₁.setTop (mkF m 1 #[.val (.ref a1), .val (.ref a2), .unset] [(.ref a1)])) _
      refine own_st (own_len (pc := 1) (Ls := #[.val (.ref a1), .val (.ref a2), .unset]) (rest := []) X0 hx hZ e0 V1 (hb hby d8_1)) ?_
      show own_Goes p e below (s₁.setTop (mkF m 2 #[.val (.ref a1), .val (.ref a2), .unset] [(.int (0 : Int32))])) _
      refine own_st (fun _ k => XS.aloadN X0.here hx rfl (hb hby d8_2) rfl rfl k) ?_
      show own_Goes p e below (s₁.setTop (mkF m 3 #[.val (.ref a1), .val (.ref a2), .unset] [(.ref a2), (.int (0 : Int32))])) _
      refine own_st (own_len (pc := 3) (Ls := #[.val (.ref a1), .val (.ref a2), .unset]) (rest := [(.int (0 : Int32))]) X0 hx hZ e0 V2 (hb hby d8_3)) ?_
      show own_Goes p e below (s₁.setTop (mkF m 4 #[.val (.ref a1), .val (.ref a2), .unset] [(.int (1 : Int32)), (.int (0 : Int32))])) _
      refine own_st (fun _ k => XS.icmpYes X0.here hx rfl (pc0 := 4) (pc' := 34) rfl (hb hby d8_4) rfl (feq (by decide : ¬ ((0 : Int32) = (1 : Int32)))).2 (by decide) (by decide) k) ?_
      show own_Goes p e below (s₁.setTop (mkF m 34 #[.val (.ref a1), .val (.ref a2), .unset] [])) _
      refine own_st (fun _ k => XS.iconst X0.here hx rfl (hb hby d8_34) k) ?_
      show own_Goes p e below (s₁.setTop (mkF m 35 #[.val (.ref a1), .val (.ref a2), .unset] [(.int (0 : Int32))])) _
      exact own_retN (t := .boolean) (z' := (0 : Int32)) X0 hx hlk hret (by simp) (by decide) (hb hby d8_35) (by decide) (by decide) e0 ⟨congrArg (fun z => some (Value.int z)) (by unfold own_eqr; simp []), rfl, rfl⟩
    · show own_Goes p e below (s₁.setTop (mkF m 0 #[.val (.ref a1), .val (.ref a2), .unset] [])) _
      refine own_st (fun _ k => XS.aloadN X0.here hx rfl (hb hby d8_0) rfl rfl k) ?_
      show own_Goes p e below (s₁.setTop (mkF m 1 #[.val (.ref a1), .val (.ref a2), .unset] [(.ref a1)])) _
      refine own_st (own_len (pc := 1) (Ls := #[.val (.ref a1), .val (.ref a2), .unset]) (rest := []) X0 hx hZ e0 V1 (hb hby d8_1)) ?_
      show own_Goes p e below (s₁.setTop (mkF m 2 #[.val (.ref a1), .val (.ref a2), .unset] [(.int (0 : Int32))])) _
      refine own_st (fun _ k => XS.aloadN X0.here hx rfl (hb hby d8_2) rfl rfl k) ?_
      show own_Goes p e below (s₁.setTop (mkF m 3 #[.val (.ref a1), .val (.ref a2), .unset] [(.ref a2), (.int (0 : Int32))])) _
      refine own_st (own_len (pc := 3) (Ls := #[.val (.ref a1), .val (.ref a2), .unset]) (rest := [(.int (0 : Int32))]) X0 hx hZ e0 V2 (hb hby d8_3)) ?_
      show own_Goes p e below (s₁.setTop (mkF m 4 #[.val (.ref a1), .val (.ref a2), .unset] [(.int (2 : Int32)), (.int (0 : Int32))])) _
      refine own_st (fun _ k => XS.icmpYes X0.here hx rfl (pc0 := 4) (pc' := 34) rfl (hb hby d8_4) rfl (feq (by decide : ¬ ((0 : Int32) = (2 : Int32)))).2 (by decide) (by decide) k) ?_
      show own_Goes p e below (s₁.setTop (mkF m 34 #[.val (.ref a1), .val (.ref a2), .unset] [])) _
      refine own_st (fun _ k => XS.iconst X0.here hx rfl (hb hby d8_34) k) ?_
      show own_Goes p e below (s₁.setTop (mkF m 35 #[.val (.ref a1), .val (.ref a2), .unset] [(.int (0 : Int32))])) _
      exact own_retN (t := .boolean) (z' := (0 : Int32)) X0 hx hlk hret (by simp) (by decide) (hb hby d8_35) (by decide) (by decide) e0 ⟨congrArg (fun z => some (Value.int z)) (by unfold own_eqr; simp []), rfl, rfl⟩
  · rcases hB with ⟨rfl, rfl, rfl⟩ | ⟨rfl, rfl, rfl⟩ | ⟨rfl, rfl, rfl⟩
    · show own_Goes p e below (s₁.setTop (mkF m 0 #[.val (.ref a1), .val (.ref a2), .unset] [])) _
      refine own_st (fun _ k => XS.aloadN X0.here hx rfl (hb hby d8_0) rfl rfl k) ?_
      show own_Goes p e below (s₁.setTop (mkF m 1 #[.val (.ref a1), .val (.ref a2), .unset] [(.ref a1)])) _
      refine own_st (own_len (pc := 1) (Ls := #[.val (.ref a1), .val (.ref a2), .unset]) (rest := []) X0 hx hZ e0 V1 (hb hby d8_1)) ?_
      show own_Goes p e below (s₁.setTop (mkF m 2 #[.val (.ref a1), .val (.ref a2), .unset] [(.int (1 : Int32))])) _
      refine own_st (fun _ k => XS.aloadN X0.here hx rfl (hb hby d8_2) rfl rfl k) ?_
      show own_Goes p e below (s₁.setTop (mkF m 3 #[.val (.ref a1), .val (.ref a2), .unset] [(.ref a2), (.int (1 : Int32))])) _
      refine own_st (own_len (pc := 3) (Ls := #[.val (.ref a1), .val (.ref a2), .unset]) (rest := [(.int (1 : Int32))]) X0 hx hZ e0 V2 (hb hby d8_3)) ?_
      show own_Goes p e below (s₁.setTop (mkF m 4 #[.val (.ref a1), .val (.ref a2), .unset] [(.int (0 : Int32)), (.int (1 : Int32))])) _
      refine own_st (fun _ k => XS.icmpYes X0.here hx rfl (pc0 := 4) (pc' := 34) rfl (hb hby d8_4) rfl (feq (by decide : ¬ ((1 : Int32) = (0 : Int32)))).2 (by decide) (by decide) k) ?_
      show own_Goes p e below (s₁.setTop (mkF m 34 #[.val (.ref a1), .val (.ref a2), .unset] [])) _
      refine own_st (fun _ k => XS.iconst X0.here hx rfl (hb hby d8_34) k) ?_
      show own_Goes p e below (s₁.setTop (mkF m 35 #[.val (.ref a1), .val (.ref a2), .unset] [(.int (0 : Int32))])) _
      exact own_retN (t := .boolean) (z' := (0 : Int32)) X0 hx hlk hret (by simp) (by decide) (hb hby d8_35) (by decide) (by decide) e0 ⟨congrArg (fun z => some (Value.int z)) (by unfold own_eqr; simp []), rfl, rfl⟩
    · show own_Goes p e below (s₁.setTop (mkF m 0 #[.val (.ref a1), .val (.ref a2), .unset] [])) _
      refine own_st (fun _ k => XS.aloadN X0.here hx rfl (hb hby d8_0) rfl rfl k) ?_
      show own_Goes p e below (s₁.setTop (mkF m 1 #[.val (.ref a1), .val (.ref a2), .unset] [(.ref a1)])) _
      refine own_st (own_len (pc := 1) (Ls := #[.val (.ref a1), .val (.ref a2), .unset]) (rest := []) X0 hx hZ e0 V1 (hb hby d8_1)) ?_
      show own_Goes p e below (s₁.setTop (mkF m 2 #[.val (.ref a1), .val (.ref a2), .unset] [(.int (1 : Int32))])) _
      refine own_st (fun _ k => XS.aloadN X0.here hx rfl (hb hby d8_2) rfl rfl k) ?_
      show own_Goes p e below (s₁.setTop (mkF m 3 #[.val (.ref a1), .val (.ref a2), .unset] [(.ref a2), (.int (1 : Int32))])) _
      refine own_st (own_len (pc := 3) (Ls := #[.val (.ref a1), .val (.ref a2), .unset]) (rest := [(.int (1 : Int32))]) X0 hx hZ e0 V2 (hb hby d8_3)) ?_
      show own_Goes p e below (s₁.setTop (mkF m 4 #[.val (.ref a1), .val (.ref a2), .unset] [(.int (1 : Int32)), (.int (1 : Int32))])) _
      refine own_st (fun _ k => XS.icmpNo X0.here hx rfl (hb hby d8_4) rfl (teq (by decide : (1 : Int32) = (1 : Int32))).2 k) ?_
      show own_Goes p e below (s₁.setTop (mkF m 7 #[.val (.ref a1), .val (.ref a2), .unset] [])) _
      refine own_st (fun _ k => XS.iconst X0.here hx rfl (hb hby d8_7) k) ?_
      show own_Goes p e below (s₁.setTop (mkF m 8 #[.val (.ref a1), .val (.ref a2), .unset] [(.int (0 : Int32))])) _
      refine own_st (fun _ k => XS.istoreN X0.here hx rfl (hb hby d8_8) rfl (l' := #[.val (.ref a1), .val (.ref a2), .val (.int (0 : Int32))]) rfl k) ?_
      show own_Goes p e below (s₁.setTop (mkF m 9 #[.val (.ref a1), .val (.ref a2), .val (.int (0 : Int32))] [])) _
      refine own_st (fun _ k => XS.iloadN X0.here hx rfl (hb hby d8_9) rfl k) ?_
      show own_Goes p e below (s₁.setTop (mkF m 10 #[.val (.ref a1), .val (.ref a2), .val (.int (0 : Int32))] [(.int (0 : Int32))])) _
      refine own_st (fun _ k => XS.aloadN X0.here hx rfl (hb hby d8_10) rfl rfl k) ?_
      show own_Goes p e below (s₁.setTop (mkF m 11 #[.val (.ref a1), .val (.ref a2), .val (.int (0 : Int32))] [(.ref a1), (.int (0 : Int32))])) _
      refine own_st (own_len (pc := 11) (Ls := #[.val (.ref a1), .val (.ref a2), .val (.int (0 : Int32))]) (rest := [(.int (0 : Int32))]) X0 hx hZ e0 V1 (hb hby d8_11)) ?_
      show own_Goes p e below (s₁.setTop (mkF m 12 #[.val (.ref a1), .val (.ref a2), .val (.int (0 : Int32))] [(.int (1 : Int32)), (.int (0 : Int32))])) _
      refine own_st (fun _ k => XS.icmpNo X0.here hx rfl (hb hby d8_12) rfl (tlt (by decide : (0 : Int32) < (1 : Int32))).2.1 k) ?_
      show own_Goes p e below (s₁.setTop (mkF m 15 #[.val (.ref a1), .val (.ref a2), .val (.int (0 : Int32))] [])) _
      refine own_st (fun _ k => XS.aloadN X0.here hx rfl (hb hby d8_15) rfl rfl k) ?_
      show own_Goes p e below (s₁.setTop (mkF m 16 #[.val (.ref a1), .val (.ref a2), .val (.int (0 : Int32))] [(.ref a1)])) _
      refine own_st (fun _ k => XS.iloadN X0.here hx rfl (hb hby d8_16) rfl k) ?_
      show own_Goes p e below (s₁.setTop (mkF m 17 #[.val (.ref a1), .val (.ref a2), .val (.int (0 : Int32))] [(.int (0 : Int32)), (.ref a1)])) _
      refine own_st (own_ldB (v := (.int c0.toInt8.toInt32)) (pc := 17) (Ls := #[.val (.ref a1), .val (.ref a2), .val (.int (0 : Int32))]) (rest := []) (j := (0 : Int32)) X0 hx hZ e0 V1 (by decide) rfl (hb hby d8_17)) ?_
      show own_Goes p e below (s₁.setTop (mkF m 18 #[.val (.ref a1), .val (.ref a2), .val (.int (0 : Int32))] [(.int c0.toInt8.toInt32)])) _
      refine own_st (fun _ k => XS.aloadN X0.here hx rfl (hb hby d8_18) rfl rfl k) ?_
      show own_Goes p e below (s₁.setTop (mkF m 19 #[.val (.ref a1), .val (.ref a2), .val (.int (0 : Int32))] [(.ref a2), (.int c0.toInt8.toInt32)])) _
      refine own_st (fun _ k => XS.iloadN X0.here hx rfl (hb hby d8_19) rfl k) ?_
      show own_Goes p e below (s₁.setTop (mkF m 20 #[.val (.ref a1), .val (.ref a2), .val (.int (0 : Int32))] [(.int (0 : Int32)), (.ref a2), (.int c0.toInt8.toInt32)])) _
      refine own_st (own_ldB (v := (.int d0.toInt8.toInt32)) (pc := 20) (Ls := #[.val (.ref a1), .val (.ref a2), .val (.int (0 : Int32))]) (rest := [(.int c0.toInt8.toInt32)]) (j := (0 : Int32)) X0 hx hZ e0 V2 (by decide) rfl (hb hby d8_20)) ?_
      show own_Goes p e below (s₁.setTop (mkF m 21 #[.val (.ref a1), .val (.ref a2), .val (.int (0 : Int32))] [(.int d0.toInt8.toInt32), (.int c0.toInt8.toInt32)])) _
      by_cases hc21_101 : c0.toInt8.toInt32 = d0.toInt8.toInt32
      · refine own_st (fun _ k => XS.icmpYes X0.here hx rfl (pc0 := 21) (pc' := 26) rfl (hb hby d8_21) rfl (teq hc21_101).1 (by decide) (by decide) k) ?_
        show own_Goes p e below (s₁.setTop (mkF m 26 #[.val (.ref a1), .val (.ref a2), .val (.int (0 : Int32))] [])) _
        refine own_st (fun _ k => XS.iinc X0.here hx rfl (hb hby d8_26) rfl (l' := #[.val (.ref a1), .val (.ref a2), .val (.int (1 : Int32))]) rfl k) ?_
        show own_Goes p e below (s₁.setTop (mkF m 29 #[.val (.ref a1), .val (.ref a2), .val (.int (1 : Int32))] [])) _
        refine own_st (fun _ k => XS.goto X0.here hx rfl (pc0 := 29) (pc' := 9) rfl (hb hby d8_29) (by decide) (by decide) k) ?_
        show own_Goes p e below (s₁.setTop (mkF m 9 #[.val (.ref a1), .val (.ref a2), .val (.int (1 : Int32))] [])) _
        refine own_st (fun _ k => XS.iloadN X0.here hx rfl (hb hby d8_9) rfl k) ?_
        show own_Goes p e below (s₁.setTop (mkF m 10 #[.val (.ref a1), .val (.ref a2), .val (.int (1 : Int32))] [(.int (1 : Int32))])) _
        refine own_st (fun _ k => XS.aloadN X0.here hx rfl (hb hby d8_10) rfl rfl k) ?_
        show own_Goes p e below (s₁.setTop (mkF m 11 #[.val (.ref a1), .val (.ref a2), .val (.int (1 : Int32))] [(.ref a1), (.int (1 : Int32))])) _
        refine own_st (own_len (pc := 11) (Ls := #[.val (.ref a1), .val (.ref a2), .val (.int (1 : Int32))]) (rest := [(.int (1 : Int32))]) X0 hx hZ e0 V1 (hb hby d8_11)) ?_
        show own_Goes p e below (s₁.setTop (mkF m 12 #[.val (.ref a1), .val (.ref a2), .val (.int (1 : Int32))] [(.int (1 : Int32)), (.int (1 : Int32))])) _
        refine own_st (fun _ k => XS.icmpYes X0.here hx rfl (pc0 := 12) (pc' := 32) rfl (hb hby d8_12) rfl (flt (by decide : ¬ ((1 : Int32) < (1 : Int32)))).2.1 (by decide) (by decide) k) ?_
        show own_Goes p e below (s₁.setTop (mkF m 32 #[.val (.ref a1), .val (.ref a2), .val (.int (1 : Int32))] [])) _
        refine own_st (fun _ k => XS.iconst X0.here hx rfl (hb hby d8_32) k) ?_
        show own_Goes p e below (s₁.setTop (mkF m 33 #[.val (.ref a1), .val (.ref a2), .val (.int (1 : Int32))] [(.int (1 : Int32))])) _
        exact own_retN (t := .boolean) (z' := (1 : Int32)) X0 hx hlk hret (by simp) (by decide) (hb hby d8_33) (by decide) (by decide) e0 ⟨congrArg (fun z => some (Value.int z)) (by unfold own_eqr; simp [own_bytes hc0 hd0 hc21_101]), rfl, rfl⟩
      · refine own_st (fun _ k => XS.icmpNo X0.here hx rfl (hb hby d8_21) rfl (feq hc21_101).1 k) ?_
        show own_Goes p e below (s₁.setTop (mkF m 24 #[.val (.ref a1), .val (.ref a2), .val (.int (0 : Int32))] [])) _
        refine own_st (fun _ k => XS.iconst X0.here hx rfl (hb hby d8_24) k) ?_
        show own_Goes p e below (s₁.setTop (mkF m 25 #[.val (.ref a1), .val (.ref a2), .val (.int (0 : Int32))] [(.int (0 : Int32))])) _
        exact own_retN (t := .boolean) (z' := (0 : Int32)) X0 hx hlk hret (by simp) (by decide) (hb hby d8_25) (by decide) (by decide) e0 ⟨congrArg (fun z => some (Value.int z)) (by unfold own_eqr; simp [(show ¬ c0 = d0 from fun q => hc21_101 (by rw [q]))]), rfl, rfl⟩
    · show own_Goes p e below (s₁.setTop (mkF m 0 #[.val (.ref a1), .val (.ref a2), .unset] [])) _
      refine own_st (fun _ k => XS.aloadN X0.here hx rfl (hb hby d8_0) rfl rfl k) ?_
      show own_Goes p e below (s₁.setTop (mkF m 1 #[.val (.ref a1), .val (.ref a2), .unset] [(.ref a1)])) _
      refine own_st (own_len (pc := 1) (Ls := #[.val (.ref a1), .val (.ref a2), .unset]) (rest := []) X0 hx hZ e0 V1 (hb hby d8_1)) ?_
      show own_Goes p e below (s₁.setTop (mkF m 2 #[.val (.ref a1), .val (.ref a2), .unset] [(.int (1 : Int32))])) _
      refine own_st (fun _ k => XS.aloadN X0.here hx rfl (hb hby d8_2) rfl rfl k) ?_
      show own_Goes p e below (s₁.setTop (mkF m 3 #[.val (.ref a1), .val (.ref a2), .unset] [(.ref a2), (.int (1 : Int32))])) _
      refine own_st (own_len (pc := 3) (Ls := #[.val (.ref a1), .val (.ref a2), .unset]) (rest := [(.int (1 : Int32))]) X0 hx hZ e0 V2 (hb hby d8_3)) ?_
      show own_Goes p e below (s₁.setTop (mkF m 4 #[.val (.ref a1), .val (.ref a2), .unset] [(.int (2 : Int32)), (.int (1 : Int32))])) _
      refine own_st (fun _ k => XS.icmpYes X0.here hx rfl (pc0 := 4) (pc' := 34) rfl (hb hby d8_4) rfl (feq (by decide : ¬ ((1 : Int32) = (2 : Int32)))).2 (by decide) (by decide) k) ?_
      show own_Goes p e below (s₁.setTop (mkF m 34 #[.val (.ref a1), .val (.ref a2), .unset] [])) _
      refine own_st (fun _ k => XS.iconst X0.here hx rfl (hb hby d8_34) k) ?_
      show own_Goes p e below (s₁.setTop (mkF m 35 #[.val (.ref a1), .val (.ref a2), .unset] [(.int (0 : Int32))])) _
      exact own_retN (t := .boolean) (z' := (0 : Int32)) X0 hx hlk hret (by simp) (by decide) (hb hby d8_35) (by decide) (by decide) e0 ⟨congrArg (fun z => some (Value.int z)) (by unfold own_eqr; simp []), rfl, rfl⟩
  · rcases hB with ⟨rfl, rfl, rfl⟩ | ⟨rfl, rfl, rfl⟩ | ⟨rfl, rfl, rfl⟩
    · show own_Goes p e below (s₁.setTop (mkF m 0 #[.val (.ref a1), .val (.ref a2), .unset] [])) _
      refine own_st (fun _ k => XS.aloadN X0.here hx rfl (hb hby d8_0) rfl rfl k) ?_
      show own_Goes p e below (s₁.setTop (mkF m 1 #[.val (.ref a1), .val (.ref a2), .unset] [(.ref a1)])) _
      refine own_st (own_len (pc := 1) (Ls := #[.val (.ref a1), .val (.ref a2), .unset]) (rest := []) X0 hx hZ e0 V1 (hb hby d8_1)) ?_
      show own_Goes p e below (s₁.setTop (mkF m 2 #[.val (.ref a1), .val (.ref a2), .unset] [(.int (2 : Int32))])) _
      refine own_st (fun _ k => XS.aloadN X0.here hx rfl (hb hby d8_2) rfl rfl k) ?_
      show own_Goes p e below (s₁.setTop (mkF m 3 #[.val (.ref a1), .val (.ref a2), .unset] [(.ref a2), (.int (2 : Int32))])) _
      refine own_st (own_len (pc := 3) (Ls := #[.val (.ref a1), .val (.ref a2), .unset]) (rest := [(.int (2 : Int32))]) X0 hx hZ e0 V2 (hb hby d8_3)) ?_
      show own_Goes p e below (s₁.setTop (mkF m 4 #[.val (.ref a1), .val (.ref a2), .unset] [(.int (0 : Int32)), (.int (2 : Int32))])) _
      refine own_st (fun _ k => XS.icmpYes X0.here hx rfl (pc0 := 4) (pc' := 34) rfl (hb hby d8_4) rfl (feq (by decide : ¬ ((2 : Int32) = (0 : Int32)))).2 (by decide) (by decide) k) ?_
      show own_Goes p e below (s₁.setTop (mkF m 34 #[.val (.ref a1), .val (.ref a2), .unset] [])) _
      refine own_st (fun _ k => XS.iconst X0.here hx rfl (hb hby d8_34) k) ?_
      show own_Goes p e below (s₁.setTop (mkF m 35 #[.val (.ref a1), .val (.ref a2), .unset] [(.int (0 : Int32))])) _
      exact own_retN (t := .boolean) (z' := (0 : Int32)) X0 hx hlk hret (by simp) (by decide) (hb hby d8_35) (by decide) (by decide) e0 ⟨congrArg (fun z => some (Value.int z)) (by unfold own_eqr; simp []), rfl, rfl⟩
    · show own_Goes p e below (s₁.setTop (mkF m 0 #[.val (.ref a1), .val (.ref a2), .unset] [])) _
      refine own_st (fun _ k => XS.aloadN X0.here hx rfl (hb hby d8_0) rfl rfl k) ?_
      show own_Goes p e below (s₁.setTop (mkF m 1 #[.val (.ref a1), .val (.ref a2), .unset] [(.ref a1)])) _
      refine own_st (own_len (pc := 1) (Ls := #[.val (.ref a1), .val (.ref a2), .unset]) (rest := []) X0 hx hZ e0 V1 (hb hby d8_1)) ?_
      show own_Goes p e below (s₁.setTop (mkF m 2 #[.val (.ref a1), .val (.ref a2), .unset] [(.int (2 : Int32))])) _
      refine own_st (fun _ k => XS.aloadN X0.here hx rfl (hb hby d8_2) rfl rfl k) ?_
      show own_Goes p e below (s₁.setTop (mkF m 3 #[.val (.ref a1), .val (.ref a2), .unset] [(.ref a2), (.int (2 : Int32))])) _
      refine own_st (own_len (pc := 3) (Ls := #[.val (.ref a1), .val (.ref a2), .unset]) (rest := [(.int (2 : Int32))]) X0 hx hZ e0 V2 (hb hby d8_3)) ?_
      show own_Goes p e below (s₁.setTop (mkF m 4 #[.val (.ref a1), .val (.ref a2), .unset] [(.int (1 : Int32)), (.int (2 : Int32))])) _
      refine own_st (fun _ k => XS.icmpYes X0.here hx rfl (pc0 := 4) (pc' := 34) rfl (hb hby d8_4) rfl (feq (by decide : ¬ ((2 : Int32) = (1 : Int32)))).2 (by decide) (by decide) k) ?_
      show own_Goes p e below (s₁.setTop (mkF m 34 #[.val (.ref a1), .val (.ref a2), .unset] [])) _
      refine own_st (fun _ k => XS.iconst X0.here hx rfl (hb hby d8_34) k) ?_
      show own_Goes p e below (s₁.setTop (mkF m 35 #[.val (.ref a1), .val (.ref a2), .unset] [(.int (0 : Int32))])) _
      exact own_retN (t := .boolean) (z' := (0 : Int32)) X0 hx hlk hret (by simp) (by decide) (hb hby d8_35) (by decide) (by decide) e0 ⟨congrArg (fun z => some (Value.int z)) (by unfold own_eqr; simp []), rfl, rfl⟩
    · show own_Goes p e below (s₁.setTop (mkF m 0 #[.val (.ref a1), .val (.ref a2), .unset] [])) _
      refine own_st (fun _ k => XS.aloadN X0.here hx rfl (hb hby d8_0) rfl rfl k) ?_
      show own_Goes p e below (s₁.setTop (mkF m 1 #[.val (.ref a1), .val (.ref a2), .unset] [(.ref a1)])) _
      refine own_st (own_len (pc := 1) (Ls := #[.val (.ref a1), .val (.ref a2), .unset]) (rest := []) X0 hx hZ e0 V1 (hb hby d8_1)) ?_
      show own_Goes p e below (s₁.setTop (mkF m 2 #[.val (.ref a1), .val (.ref a2), .unset] [(.int (2 : Int32))])) _
      refine own_st (fun _ k => XS.aloadN X0.here hx rfl (hb hby d8_2) rfl rfl k) ?_
      show own_Goes p e below (s₁.setTop (mkF m 3 #[.val (.ref a1), .val (.ref a2), .unset] [(.ref a2), (.int (2 : Int32))])) _
      refine own_st (own_len (pc := 3) (Ls := #[.val (.ref a1), .val (.ref a2), .unset]) (rest := [(.int (2 : Int32))]) X0 hx hZ e0 V2 (hb hby d8_3)) ?_
      show own_Goes p e below (s₁.setTop (mkF m 4 #[.val (.ref a1), .val (.ref a2), .unset] [(.int (2 : Int32)), (.int (2 : Int32))])) _
      refine own_st (fun _ k => XS.icmpNo X0.here hx rfl (hb hby d8_4) rfl (teq (by decide : (2 : Int32) = (2 : Int32))).2 k) ?_
      show own_Goes p e below (s₁.setTop (mkF m 7 #[.val (.ref a1), .val (.ref a2), .unset] [])) _
      refine own_st (fun _ k => XS.iconst X0.here hx rfl (hb hby d8_7) k) ?_
      show own_Goes p e below (s₁.setTop (mkF m 8 #[.val (.ref a1), .val (.ref a2), .unset] [(.int (0 : Int32))])) _
      refine own_st (fun _ k => XS.istoreN X0.here hx rfl (hb hby d8_8) rfl (l' := #[.val (.ref a1), .val (.ref a2), .val (.int (0 : Int32))]) rfl k) ?_
      show own_Goes p e below (s₁.setTop (mkF m 9 #[.val (.ref a1), .val (.ref a2), .val (.int (0 : Int32))] [])) _
      refine own_st (fun _ k => XS.iloadN X0.here hx rfl (hb hby d8_9) rfl k) ?_
      show own_Goes p e below (s₁.setTop (mkF m 10 #[.val (.ref a1), .val (.ref a2), .val (.int (0 : Int32))] [(.int (0 : Int32))])) _
      refine own_st (fun _ k => XS.aloadN X0.here hx rfl (hb hby d8_10) rfl rfl k) ?_
      show own_Goes p e below (s₁.setTop (mkF m 11 #[.val (.ref a1), .val (.ref a2), .val (.int (0 : Int32))] [(.ref a1), (.int (0 : Int32))])) _
      refine own_st (own_len (pc := 11) (Ls := #[.val (.ref a1), .val (.ref a2), .val (.int (0 : Int32))]) (rest := [(.int (0 : Int32))]) X0 hx hZ e0 V1 (hb hby d8_11)) ?_
      show own_Goes p e below (s₁.setTop (mkF m 12 #[.val (.ref a1), .val (.ref a2), .val (.int (0 : Int32))] [(.int (2 : Int32)), (.int (0 : Int32))])) _
      refine own_st (fun _ k => XS.icmpNo X0.here hx rfl (hb hby d8_12) rfl (tlt (by decide : (0 : Int32) < (2 : Int32))).2.1 k) ?_
      show own_Goes p e below (s₁.setTop (mkF m 15 #[.val (.ref a1), .val (.ref a2), .val (.int (0 : Int32))] [])) _
      refine own_st (fun _ k => XS.aloadN X0.here hx rfl (hb hby d8_15) rfl rfl k) ?_
      show own_Goes p e below (s₁.setTop (mkF m 16 #[.val (.ref a1), .val (.ref a2), .val (.int (0 : Int32))] [(.ref a1)])) _
      refine own_st (fun _ k => XS.iloadN X0.here hx rfl (hb hby d8_16) rfl k) ?_
      show own_Goes p e below (s₁.setTop (mkF m 17 #[.val (.ref a1), .val (.ref a2), .val (.int (0 : Int32))] [(.int (0 : Int32)), (.ref a1)])) _
      refine own_st (own_ldB (v := (.int c0.toInt8.toInt32)) (pc := 17) (Ls := #[.val (.ref a1), .val (.ref a2), .val (.int (0 : Int32))]) (rest := []) (j := (0 : Int32)) X0 hx hZ e0 V1 (by decide) rfl (hb hby d8_17)) ?_
      show own_Goes p e below (s₁.setTop (mkF m 18 #[.val (.ref a1), .val (.ref a2), .val (.int (0 : Int32))] [(.int c0.toInt8.toInt32)])) _
      refine own_st (fun _ k => XS.aloadN X0.here hx rfl (hb hby d8_18) rfl rfl k) ?_
      show own_Goes p e below (s₁.setTop (mkF m 19 #[.val (.ref a1), .val (.ref a2), .val (.int (0 : Int32))] [(.ref a2), (.int c0.toInt8.toInt32)])) _
      refine own_st (fun _ k => XS.iloadN X0.here hx rfl (hb hby d8_19) rfl k) ?_
      show own_Goes p e below (s₁.setTop (mkF m 20 #[.val (.ref a1), .val (.ref a2), .val (.int (0 : Int32))] [(.int (0 : Int32)), (.ref a2), (.int c0.toInt8.toInt32)])) _
      refine own_st (own_ldB (v := (.int d0.toInt8.toInt32)) (pc := 20) (Ls := #[.val (.ref a1), .val (.ref a2), .val (.int (0 : Int32))]) (rest := [(.int c0.toInt8.toInt32)]) (j := (0 : Int32)) X0 hx hZ e0 V2 (by decide) rfl (hb hby d8_20)) ?_
      show own_Goes p e below (s₁.setTop (mkF m 21 #[.val (.ref a1), .val (.ref a2), .val (.int (0 : Int32))] [(.int d0.toInt8.toInt32), (.int c0.toInt8.toInt32)])) _
      by_cases hc21_102 : c0.toInt8.toInt32 = d0.toInt8.toInt32
      · refine own_st (fun _ k => XS.icmpYes X0.here hx rfl (pc0 := 21) (pc' := 26) rfl (hb hby d8_21) rfl (teq hc21_102).1 (by decide) (by decide) k) ?_
        show own_Goes p e below (s₁.setTop (mkF m 26 #[.val (.ref a1), .val (.ref a2), .val (.int (0 : Int32))] [])) _
        refine own_st (fun _ k => XS.iinc X0.here hx rfl (hb hby d8_26) rfl (l' := #[.val (.ref a1), .val (.ref a2), .val (.int (1 : Int32))]) rfl k) ?_
        show own_Goes p e below (s₁.setTop (mkF m 29 #[.val (.ref a1), .val (.ref a2), .val (.int (1 : Int32))] [])) _
        refine own_st (fun _ k => XS.goto X0.here hx rfl (pc0 := 29) (pc' := 9) rfl (hb hby d8_29) (by decide) (by decide) k) ?_
        show own_Goes p e below (s₁.setTop (mkF m 9 #[.val (.ref a1), .val (.ref a2), .val (.int (1 : Int32))] [])) _
        refine own_st (fun _ k => XS.iloadN X0.here hx rfl (hb hby d8_9) rfl k) ?_
        show own_Goes p e below (s₁.setTop (mkF m 10 #[.val (.ref a1), .val (.ref a2), .val (.int (1 : Int32))] [(.int (1 : Int32))])) _
        refine own_st (fun _ k => XS.aloadN X0.here hx rfl (hb hby d8_10) rfl rfl k) ?_
        show own_Goes p e below (s₁.setTop (mkF m 11 #[.val (.ref a1), .val (.ref a2), .val (.int (1 : Int32))] [(.ref a1), (.int (1 : Int32))])) _
        refine own_st (own_len (pc := 11) (Ls := #[.val (.ref a1), .val (.ref a2), .val (.int (1 : Int32))]) (rest := [(.int (1 : Int32))]) X0 hx hZ e0 V1 (hb hby d8_11)) ?_
        show own_Goes p e below (s₁.setTop (mkF m 12 #[.val (.ref a1), .val (.ref a2), .val (.int (1 : Int32))] [(.int (2 : Int32)), (.int (1 : Int32))])) _
        refine own_st (fun _ k => XS.icmpNo X0.here hx rfl (hb hby d8_12) rfl (tlt (by decide : (1 : Int32) < (2 : Int32))).2.1 k) ?_
        show own_Goes p e below (s₁.setTop (mkF m 15 #[.val (.ref a1), .val (.ref a2), .val (.int (1 : Int32))] [])) _
        refine own_st (fun _ k => XS.aloadN X0.here hx rfl (hb hby d8_15) rfl rfl k) ?_
        show own_Goes p e below (s₁.setTop (mkF m 16 #[.val (.ref a1), .val (.ref a2), .val (.int (1 : Int32))] [(.ref a1)])) _
        refine own_st (fun _ k => XS.iloadN X0.here hx rfl (hb hby d8_16) rfl k) ?_
        show own_Goes p e below (s₁.setTop (mkF m 17 #[.val (.ref a1), .val (.ref a2), .val (.int (1 : Int32))] [(.int (1 : Int32)), (.ref a1)])) _
        refine own_st (own_ldB (v := (.int c1.toInt8.toInt32)) (pc := 17) (Ls := #[.val (.ref a1), .val (.ref a2), .val (.int (1 : Int32))]) (rest := []) (j := (1 : Int32)) X0 hx hZ e0 V1 (by decide) rfl (hb hby d8_17)) ?_
        show own_Goes p e below (s₁.setTop (mkF m 18 #[.val (.ref a1), .val (.ref a2), .val (.int (1 : Int32))] [(.int c1.toInt8.toInt32)])) _
        refine own_st (fun _ k => XS.aloadN X0.here hx rfl (hb hby d8_18) rfl rfl k) ?_
        show own_Goes p e below (s₁.setTop (mkF m 19 #[.val (.ref a1), .val (.ref a2), .val (.int (1 : Int32))] [(.ref a2), (.int c1.toInt8.toInt32)])) _
        refine own_st (fun _ k => XS.iloadN X0.here hx rfl (hb hby d8_19) rfl k) ?_
        show own_Goes p e below (s₁.setTop (mkF m 20 #[.val (.ref a1), .val (.ref a2), .val (.int (1 : Int32))] [(.int (1 : Int32)), (.ref a2), (.int c1.toInt8.toInt32)])) _
        refine own_st (own_ldB (v := (.int d1.toInt8.toInt32)) (pc := 20) (Ls := #[.val (.ref a1), .val (.ref a2), .val (.int (1 : Int32))]) (rest := [(.int c1.toInt8.toInt32)]) (j := (1 : Int32)) X0 hx hZ e0 V2 (by decide) rfl (hb hby d8_20)) ?_
        show own_Goes p e below (s₁.setTop (mkF m 21 #[.val (.ref a1), .val (.ref a2), .val (.int (1 : Int32))] [(.int d1.toInt8.toInt32), (.int c1.toInt8.toInt32)])) _
        by_cases hc21_103 : c1.toInt8.toInt32 = d1.toInt8.toInt32
        · refine own_st (fun _ k => XS.icmpYes X0.here hx rfl (pc0 := 21) (pc' := 26) rfl (hb hby d8_21) rfl (teq hc21_103).1 (by decide) (by decide) k) ?_
          show own_Goes p e below (s₁.setTop (mkF m 26 #[.val (.ref a1), .val (.ref a2), .val (.int (1 : Int32))] [])) _
          refine own_st (fun _ k => XS.iinc X0.here hx rfl (hb hby d8_26) rfl (l' := #[.val (.ref a1), .val (.ref a2), .val (.int (2 : Int32))]) rfl k) ?_
          show own_Goes p e below (s₁.setTop (mkF m 29 #[.val (.ref a1), .val (.ref a2), .val (.int (2 : Int32))] [])) _
          refine own_st (fun _ k => XS.goto X0.here hx rfl (pc0 := 29) (pc' := 9) rfl (hb hby d8_29) (by decide) (by decide) k) ?_
          show own_Goes p e below (s₁.setTop (mkF m 9 #[.val (.ref a1), .val (.ref a2), .val (.int (2 : Int32))] [])) _
          refine own_st (fun _ k => XS.iloadN X0.here hx rfl (hb hby d8_9) rfl k) ?_
          show own_Goes p e below (s₁.setTop (mkF m 10 #[.val (.ref a1), .val (.ref a2), .val (.int (2 : Int32))] [(.int (2 : Int32))])) _
          refine own_st (fun _ k => XS.aloadN X0.here hx rfl (hb hby d8_10) rfl rfl k) ?_
          show own_Goes p e below (s₁.setTop (mkF m 11 #[.val (.ref a1), .val (.ref a2), .val (.int (2 : Int32))] [(.ref a1), (.int (2 : Int32))])) _
          refine own_st (own_len (pc := 11) (Ls := #[.val (.ref a1), .val (.ref a2), .val (.int (2 : Int32))]) (rest := [(.int (2 : Int32))]) X0 hx hZ e0 V1 (hb hby d8_11)) ?_
          show own_Goes p e below (s₁.setTop (mkF m 12 #[.val (.ref a1), .val (.ref a2), .val (.int (2 : Int32))] [(.int (2 : Int32)), (.int (2 : Int32))])) _
          refine own_st (fun _ k => XS.icmpYes X0.here hx rfl (pc0 := 12) (pc' := 32) rfl (hb hby d8_12) rfl (flt (by decide : ¬ ((2 : Int32) < (2 : Int32)))).2.1 (by decide) (by decide) k) ?_
          show own_Goes p e below (s₁.setTop (mkF m 32 #[.val (.ref a1), .val (.ref a2), .val (.int (2 : Int32))] [])) _
          refine own_st (fun _ k => XS.iconst X0.here hx rfl (hb hby d8_32) k) ?_
          show own_Goes p e below (s₁.setTop (mkF m 33 #[.val (.ref a1), .val (.ref a2), .val (.int (2 : Int32))] [(.int (1 : Int32))])) _
          exact own_retN (t := .boolean) (z' := (1 : Int32)) X0 hx hlk hret (by simp) (by decide) (hb hby d8_33) (by decide) (by decide) e0 ⟨congrArg (fun z => some (Value.int z)) (by unfold own_eqr; simp [own_bytes hc0 hd0 hc21_102, own_bytes hc1 hd1 hc21_103]), rfl, rfl⟩
        · refine own_st (fun _ k => XS.icmpNo X0.here hx rfl (hb hby d8_21) rfl (feq hc21_103).1 k) ?_
          show own_Goes p e below (s₁.setTop (mkF m 24 #[.val (.ref a1), .val (.ref a2), .val (.int (1 : Int32))] [])) _
          refine own_st (fun _ k => XS.iconst X0.here hx rfl (hb hby d8_24) k) ?_
          show own_Goes p e below (s₁.setTop (mkF m 25 #[.val (.ref a1), .val (.ref a2), .val (.int (1 : Int32))] [(.int (0 : Int32))])) _
          exact own_retN (t := .boolean) (z' := (0 : Int32)) X0 hx hlk hret (by simp) (by decide) (hb hby d8_25) (by decide) (by decide) e0 ⟨congrArg (fun z => some (Value.int z)) (by unfold own_eqr; simp [own_bytes hc0 hd0 hc21_102, (show ¬ c1 = d1 from fun q => hc21_103 (by rw [q]))]), rfl, rfl⟩
      · refine own_st (fun _ k => XS.icmpNo X0.here hx rfl (hb hby d8_21) rfl (feq hc21_102).1 k) ?_
        show own_Goes p e below (s₁.setTop (mkF m 24 #[.val (.ref a1), .val (.ref a2), .val (.int (0 : Int32))] [])) _
        refine own_st (fun _ k => XS.iconst X0.here hx rfl (hb hby d8_24) k) ?_
        show own_Goes p e below (s₁.setTop (mkF m 25 #[.val (.ref a1), .val (.ref a2), .val (.int (0 : Int32))] [(.int (0 : Int32))])) _
        exact own_retN (t := .boolean) (z' := (0 : Int32)) X0 hx hlk hret (by simp) (by decide) (hb hby d8_25) (by decide) (by decide) e0 ⟨congrArg (fun z => some (Value.int z)) (by unfold own_eqr; simp [(show ¬ c0 = d0 from fun q => hc21_102 (by rw [q]))]), rfl, rfl⟩
theorem d9_0 : decode jdk_42_method_66_code 0 = .ok (.aload_n 0, 1) := by decide +kernel
theorem d9_1 : decode jdk_42_method_66_code 1 = .ok (.aload_n 1, 1) := by decide +kernel
theorem d9_2 : decode jdk_42_method_66_code 2 = .ok (.if_acmp .ne 5, 3) := by decide +kernel
theorem d9_7 : decode jdk_42_method_66_code 7 = .ok (.aload_n 1, 1) := by decide +kernel
theorem d9_8 : decode jdk_42_method_66_code 8 = .ok (.instanceof 10, 3) := by decide +kernel
theorem d9_11 : decode jdk_42_method_66_code 11 = .ok (.ifCond .eq 43, 3) := by decide +kernel
theorem d9_14 : decode jdk_42_method_66_code 14 = .ok (.aload_n 1, 1) := by decide +kernel
theorem d9_15 : decode jdk_42_method_66_code 15 = .ok (.checkcast 10, 3) := by decide +kernel
theorem d9_18 : decode jdk_42_method_66_code 18 = .ok (.astore_n 2, 1) := by decide +kernel
theorem d9_19 : decode jdk_42_method_66_code 19 = .ok (.getstatic 38, 3) := by decide +kernel
theorem d9_22 : decode jdk_42_method_66_code 22 = .ok (.ifCond .eq 14, 3) := by decide +kernel
theorem d9_25 : decode jdk_42_method_66_code 25 = .ok (.aload_n 0, 1) := by decide +kernel
theorem d9_26 : decode jdk_42_method_66_code 26 = .ok (.getfield 15, 3) := by decide +kernel
theorem d9_29 : decode jdk_42_method_66_code 29 = .ok (.aload_n 2, 1) := by decide +kernel
theorem d9_30 : decode jdk_42_method_66_code 30 = .ok (.getfield 15, 3) := by decide +kernel
theorem d9_33 : decode jdk_42_method_66_code 33 = .ok (.if_icmp .ne 21, 3) := by decide +kernel
theorem d9_36 : decode jdk_42_method_66_code 36 = .ok (.aload_n 0, 1) := by decide +kernel
theorem d9_37 : decode jdk_42_method_66_code 37 = .ok (.getfield 9, 3) := by decide +kernel
theorem d9_40 : decode jdk_42_method_66_code 40 = .ok (.aload_n 2, 1) := by decide +kernel
theorem d9_41 : decode jdk_42_method_66_code 41 = .ok (.getfield 9, 3) := by decide +kernel
theorem d9_44 : decode jdk_42_method_66_code 44 = .ok (.invokestatic 541, 3) := by decide +kernel
theorem d9_47 : decode jdk_42_method_66_code 47 = .ok (.ifCond .eq 7, 3) := by decide +kernel
theorem d9_50 : decode jdk_42_method_66_code 50 = .ok (.iconst 1, 1) := by decide +kernel
theorem d9_51 : decode jdk_42_method_66_code 51 = .ok (.goto 4, 3) := by decide +kernel
theorem d9_54 : decode jdk_42_method_66_code 54 = .ok (.iconst 0, 1) := by decide +kernel
theorem d9_55 : decode jdk_42_method_66_code 55 = .ok (.ireturn, 1) := by decide +kernel
theorem ef_9 (m : MethodId) (e0 : Addr) (e1 : Addr) : entryFrame m #[(.ref e0), (.ref e1)] 3 = mkF m 0 #[.val (.ref e0), .val (.ref e1), .unset] [] := by first | (simp [entryFrame, mkF, argsToLocals, Value.category]; done) | rfl
set_option maxRecDepth 65536 in
set_option maxHeartbeats 40000000 in
theorem rm9 (l : Launch) (Z : State) (a0 : Array Value) (hw : ∀ d ∈ tables_1, d.before a0 Z = true) (ws : List Jvm.Cond) (a1 a2 b1 b2 : Addr) (k1 k2 : ClassId) (la c0 c1 lb d0 d1 na nb : Int32) (bsa bsb : List Value) (cs : Int32) (h0 : Heap) (n0 : Nat) (Z0 : n0 ≤ h0.size) (T1 : own_Str Z h0 a1 b1 k1 na bsa) (T2 : own_Str Z h0 a2 b2 k2 nb bsb) (ne1 : a1 ≠ a2) (hA : own_mkr la c0 c1 na bsa) (hB : own_mkr lb d0 d1 nb bsb) (hc0 : own_c8 c0) (hc1 : own_c8 c1) (hd0 : own_c8 d0) (hd1 : own_c8 d1) (C1 : Sta Z h0 "java/lang/String" "COMPACT_STRINGS" "Z" (.int cs)) (hcs : ¬ cs = (0 : Int32)) :
    own_Ct l Z (⟨"java/lang/String", "equals", "(Ljava/lang/Object;)Z"⟩ : MethodName) jdk_42_method_66_code 3 (some .boolean) ws ({ frames := 1, cells := 0, slots := 0, locals := 16 } : Room) #[(.ref a1), (.ref a2)] h0 (fun v h L => v = some (.int (own_eqr la c0 c1 lb d0 d1)) ∧ L = [] ∧ h = h0) ({ frames := 1, cells := 0, slots := 0, locals := 16 } : Room).cells ({ frames := 1, cells := 0, slots := 0, locals := 16 } : Room).slots := by
  refine own_met (plainFor_of_name pn_java_lang_String) (fun p e s m below meth c s₁ X0 hx hby hml hret hlk hnm hown hZ e0 => ?_)
  have hml : c.maxLocals = 3 := hml
  have N0 := Fr.nil n0
  refine own_st (fun _ k => castTop (ef_9 m a1 a2) k) ?_
  show own_Goes p e below (s₁.setTop (mkF m 0 #[.val (.ref a1), .val (.ref a2), .unset] [])) _
  refine own_st (fun _ k => XS.aloadN X0.here hx rfl (hb hby d9_0) rfl rfl k) ?_
  show own_Goes p e below (s₁.setTop (mkF m 1 #[.val (.ref a1), .val (.ref a2), .unset] [(.ref a1)])) _
  refine own_st (fun _ k => XS.aloadN X0.here hx rfl (hb hby d9_1) rfl rfl k) ?_
  show own_Goes p e below (s₁.setTop (mkF m 2 #[.val (.ref a1), .val (.ref a2), .unset] [(.ref a2), (.ref a1)])) _
  refine own_st (fun _ k => Jvm.RoadKit.acmp (g := (mkF m 2 #[.val (.ref a1), .val (.ref a2), .unset] [(.ref a2), (.ref a1)])) X0 hx rfl rfl rfl (pc0 := 2) (pc' := 7) (same := false) rfl (hb hby d9_2) rfl (decide_eq_false fun q => ne1 (Value.ref.inj q)) (by decide) (by decide) k) ?_
  show own_Goes p e below (s₁.setTop (mkF m 7 #[.val (.ref a1), .val (.ref a2), .unset] [])) _
  refine own_st (fun _ k => XS.aloadN X0.here hx rfl (hb hby d9_7) rfl rfl k) ?_
  show own_Goes p e below (s₁.setTop (mkF m 8 #[.val (.ref a1), .val (.ref a2), .unset] [(.ref a2)])) _
  obtain ⟨T101, X101, e101, st101⟩ := instY X0 hx hZ hown (hw _ (List.mem_of_getElem? (i := 63) rfl)) e0 (Ins.self T2.1) (g := (mkF m 8 #[.val (.ref a1), .val (.ref a2), .unset] [(.ref a2)])) rfl rfl (hb hby d9_8)
  refine own_st st101 ?_
  show own_Goes p e below (T101.setTop (mkF m 11 #[.val (.ref a1), .val (.ref a2), .unset] [(.int (1 : Int32))])) _
  refine own_st (fun _ k => XS.ifNo X101.here hx rfl (hb hby d9_11) rfl ((if0 _ _).trans (feq (by decide : ¬ ((1 : Int32) = (0 : Int32)))).1) k) ?_
  show own_Goes p e below (T101.setTop (mkF m 14 #[.val (.ref a1), .val (.ref a2), .unset] [])) _
  refine own_st (fun _ k => XS.aloadN X101.here hx rfl (hb hby d9_14) rfl rfl k) ?_
  show own_Goes p e below (T101.setTop (mkF m 15 #[.val (.ref a1), .val (.ref a2), .unset] [(.ref a2)])) _
  obtain ⟨T102, X102, e102, st102⟩ := castY X101 hx hZ hown (hw _ (List.mem_of_getElem? (i := 63) rfl)) e101 (Ins.self T2.1) (g := (mkF m 15 #[.val (.ref a1), .val (.ref a2), .unset] [(.ref a2)])) rfl rfl (hb hby d9_15)
  refine own_st st102 ?_
  show own_Goes p e below (T102.setTop (mkF m 18 #[.val (.ref a1), .val (.ref a2), .unset] [(.ref a2)])) _
  refine own_st (fun _ k => XS.astoreN X102.here hx rfl (hb hby d9_18) rfl rfl (l' := #[.val (.ref a1), .val (.ref a2), .val (.ref a2)]) rfl k) ?_
  show own_Goes p e below (T102.setTop (mkF m 19 #[.val (.ref a1), .val (.ref a2), .val (.ref a2)] [])) _
  obtain ⟨T103, X103, e103, st103⟩ := getS2 X102 hx hZ hown (host := "") (Or.inl (hw _ (List.mem_of_getElem? (i := 18) rfl))) Via.refl e102 C1 (g := (mkF m 19 #[.val (.ref a1), .val (.ref a2), .val (.ref a2)] [])) rfl (hb hby d9_19)
  refine own_st st103 ?_
  show own_Goes p e below (T103.setTop (mkF m 22 #[.val (.ref a1), .val (.ref a2), .val (.ref a2)] [(.int cs)])) _
  refine own_st (fun _ k => XS.ifNo X103.here hx rfl (hb hby d9_22) rfl ((if0 _ _).trans (feq hcs).1) k) ?_
  show own_Goes p e below (T103.setTop (mkF m 25 #[.val (.ref a1), .val (.ref a2), .val (.ref a2)] [])) _
  refine own_st (fun _ k => XS.aloadN X103.here hx rfl (hb hby d9_25) rfl rfl k) ?_
  show own_Goes p e below (T103.setTop (mkF m 26 #[.val (.ref a1), .val (.ref a2), .val (.ref a2)] [(.ref a1)])) _
  obtain ⟨T104, X104, e104, st104⟩ := getF X103 hx hZ hown (host := "") (Or.inl (hw _ (List.mem_of_getElem? (i := 30) rfl))) Via.refl e103 T1.2.2.1 (g := (mkF m 26 #[.val (.ref a1), .val (.ref a2), .val (.ref a2)] [(.ref a1)])) rfl rfl (hb hby d9_26)
  refine own_st st104 ?_
  show own_Goes p e below (T104.setTop (mkF m 29 #[.val (.ref a1), .val (.ref a2), .val (.ref a2)] [(.int (0 : Int32))])) _
  refine own_st (fun _ k => XS.aloadN X104.here hx rfl (hb hby d9_29) rfl rfl k) ?_
  show own_Goes p e below (T104.setTop (mkF m 30 #[.val (.ref a1), .val (.ref a2), .val (.ref a2)] [(.ref a2), (.int (0 : Int32))])) _
  obtain ⟨T105, X105, e105, st105⟩ := getF X104 hx hZ hown (host := "") (Or.inl (hw _ (List.mem_of_getElem? (i := 30) rfl))) Via.refl e104 T2.2.2.1 (g := (mkF m 30 #[.val (.ref a1), .val (.ref a2), .val (.ref a2)] [(.ref a2), (.int (0 : Int32))])) rfl rfl (hb hby d9_30)
  refine own_st st105 ?_
  show own_Goes p e below (T105.setTop (mkF m 33 #[.val (.ref a1), .val (.ref a2), .val (.ref a2)] [(.int (0 : Int32)), (.int (0 : Int32))])) _
  refine own_st (fun _ k => XS.icmpNo X105.here hx rfl (hb hby d9_33) rfl (teq (by decide : (0 : Int32) = (0 : Int32))).2 k) ?_
  show own_Goes p e below (T105.setTop (mkF m 36 #[.val (.ref a1), .val (.ref a2), .val (.ref a2)] [])) _
  refine own_st (fun _ k => XS.aloadN X105.here hx rfl (hb hby d9_36) rfl rfl k) ?_
  show own_Goes p e below (T105.setTop (mkF m 37 #[.val (.ref a1), .val (.ref a2), .val (.ref a2)] [(.ref a1)])) _
  obtain ⟨T106, X106, e106, st106⟩ := getF X105 hx hZ hown (host := "") (Or.inl (hw _ (List.mem_of_getElem? (i := 32) rfl))) Via.refl e105 T1.2.1 (g := (mkF m 37 #[.val (.ref a1), .val (.ref a2), .val (.ref a2)] [(.ref a1)])) rfl rfl (hb hby d9_37)
  refine own_st st106 ?_
  show own_Goes p e below (T106.setTop (mkF m 40 #[.val (.ref a1), .val (.ref a2), .val (.ref a2)] [(.ref b1)])) _
  refine own_st (fun _ k => XS.aloadN X106.here hx rfl (hb hby d9_40) rfl rfl k) ?_
  show own_Goes p e below (T106.setTop (mkF m 41 #[.val (.ref a1), .val (.ref a2), .val (.ref a2)] [(.ref a2), (.ref b1)])) _
  obtain ⟨T107, X107, e107, st107⟩ := getF X106 hx hZ hown (host := "") (Or.inl (hw _ (List.mem_of_getElem? (i := 32) rfl))) Via.refl e106 T2.2.1 (g := (mkF m 41 #[.val (.ref a1), .val (.ref a2), .val (.ref a2)] [(.ref a2), (.ref b1)])) rfl rfl (hb hby d9_41)
  refine own_st st107 ?_
  show own_Goes p e below (T107.setTop (mkF m 44 #[.val (.ref a1), .val (.ref a2), .val (.ref a2)] [(.ref b2), (.ref b1)])) _
  obtain ⟨_, T108, h108, L108, X108, e108, ⟨rfl, rfl, q108⟩, st108⟩ := own_callS (argsL := [(.ref b1), (.ref b2)]) (rest := []) (pc := 44) (W := 0) (Ls := #[.val (.ref a1), .val (.ref a2), .val (.ref a2)]) (S := [(.ref b2), (.ref b1)]) X107 hx hZ hown (hw _ (List.mem_of_getElem? (i := 64) rfl)) (hw _ (List.mem_of_getElem? (i := 65) rfl)) (hw _ (List.mem_of_getElem? (i := 66) rfl)) (hw _ (List.mem_of_getElem? (i := 67) rfl)) (by decide) (rm8 l Z a0 hw [] b1 b2 k1 k2 la c0 c1 lb d0 d1 na nb bsa bsb h0 n0 Z0 T1.2.2.2 T2.2.2.2 hA hB hc0 hc1 hd0 hd1) (by decide) (by decide) e107 (by rw [hml]; rfl) (lenOf pd___B_B_Z rfl) rfl (Nat.le_of_eq rfl) (hb hby d9_44) (by decide) (by decide)
  refine own_st st108 ?_
  show own_Goes p e below (T108.setTop (mkF m 47 #[.val (.ref a1), .val (.ref a2), .val (.ref a2)] [(.int (own_eqr la c0 c1 lb d0 d1))])) _
  by_cases hc47_109 : (own_eqr la c0 c1 lb d0 d1) = (0 : Int32)
  · refine own_st (fun _ k => XS.ifYes X108.here hx rfl (pc0 := 47) (pc' := 54) rfl (hb hby d9_47) rfl ((if0 _ _).trans (teq hc47_109).1) (by decide) (by decide) k) ?_
    show own_Goes p e below (T108.setTop (mkF m 54 #[.val (.ref a1), .val (.ref a2), .val (.ref a2)] [])) _
    refine own_st (fun _ k => XS.iconst X108.here hx rfl (hb hby d9_54) k) ?_
    show own_Goes p e below (T108.setTop (mkF m 55 #[.val (.ref a1), .val (.ref a2), .val (.ref a2)] [(.int (0 : Int32))])) _
    exact own_retN (t := .boolean) (z' := (0 : Int32)) X108 hx hlk hret (by simp) (by decide) (hb hby d9_55) (by decide) (by decide) (e108.trans q108) ⟨congrArg (fun z => some (Value.int z)) hc47_109.symm, rfl, rfl⟩
  · refine own_st (fun _ k => XS.ifNo X108.here hx rfl (hb hby d9_47) rfl ((if0 _ _).trans (feq hc47_109).1) k) ?_
    show own_Goes p e below (T108.setTop (mkF m 50 #[.val (.ref a1), .val (.ref a2), .val (.ref a2)] [])) _
    refine own_st (fun _ k => XS.iconst X108.here hx rfl (hb hby d9_50) k) ?_
    show own_Goes p e below (T108.setTop (mkF m 51 #[.val (.ref a1), .val (.ref a2), .val (.ref a2)] [(.int (1 : Int32))])) _
    refine own_st (fun _ k => XS.goto X108.here hx rfl (pc0 := 51) (pc' := 55) rfl (hb hby d9_51) (by decide) (by decide) k) ?_
    show own_Goes p e below (T108.setTop (mkF m 55 #[.val (.ref a1), .val (.ref a2), .val (.ref a2)] [(.int (1 : Int32))])) _
    exact own_retN (t := .boolean) (z' := (1 : Int32)) X108 hx hlk hret (by simp) (by decide) (hb hby d9_55) (by decide) (by decide) (e108.trans q108) ⟨congrArg (fun z => some (Value.int z)) (own_eqr1 hc47_109).symm, rfl, rfl⟩
theorem d10_0 : decode prog_8_method_5_code 0 = .ok (.aload_n 1, 1) := by decide +kernel
theorem d10_1 : decode prog_8_method_5_code 1 = .ok (.instanceof 8, 3) := by decide +kernel
theorem d10_4 : decode prog_8_method_5_code 4 = .ok (.ifCond .eq 26, 3) := by decide +kernel
theorem d10_7 : decode prog_8_method_5_code 7 = .ok (.aload_n 1, 1) := by decide +kernel
theorem d10_8 : decode prog_8_method_5_code 8 = .ok (.checkcast 8, 3) := by decide +kernel
theorem d10_11 : decode prog_8_method_5_code 11 = .ok (.astore_n 2, 1) := by decide +kernel
theorem d10_12 : decode prog_8_method_5_code 12 = .ok (.aload_n 2, 1) := by decide +kernel
theorem d10_13 : decode prog_8_method_5_code 13 = .ok (.getfield 7, 3) := by decide +kernel
theorem d10_16 : decode prog_8_method_5_code 16 = .ok (.aload_n 0, 1) := by decide +kernel
theorem d10_17 : decode prog_8_method_5_code 17 = .ok (.getfield 7, 3) := by decide +kernel
theorem d10_20 : decode prog_8_method_5_code 20 = .ok (.invokevirtual 108, 3) := by decide +kernel
theorem d10_23 : decode prog_8_method_5_code 23 = .ok (.ifCond .eq 7, 3) := by decide +kernel
theorem d10_26 : decode prog_8_method_5_code 26 = .ok (.iconst 1, 1) := by decide +kernel
theorem d10_27 : decode prog_8_method_5_code 27 = .ok (.goto 4, 3) := by decide +kernel
theorem d10_30 : decode prog_8_method_5_code 30 = .ok (.iconst 0, 1) := by decide +kernel
theorem d10_31 : decode prog_8_method_5_code 31 = .ok (.ireturn, 1) := by decide +kernel
theorem ef_10 (m : MethodId) (e0 : Addr) (e1 : Addr) : entryFrame m #[(.ref e0), (.ref e1)] 3 = mkF m 0 #[.val (.ref e0), .val (.ref e1), .unset] [] := by first | (simp [entryFrame, mkF, argsToLocals, Value.category]; done) | rfl
set_option maxRecDepth 65536 in
set_option maxHeartbeats 40000000 in
theorem rm10 (l : Launch) (Z : State) (a0 : Array Value) (hw : ∀ d ∈ tables_1, d.before a0 Z = true) (ws : List Jvm.Cond) (x1 x2 : Addr) (a1 a2 b1 b2 : Addr) (k1 k2 : ClassId) (la c0 c1 lb d0 d1 na nb : Int32) (bsa bsb : List Value) (cs : Int32) (h0 : Heap) (n0 : Nat) (Z0 : n0 ≤ h0.size) (F1 : Fld Z h0 x1 "com/example/charon/charon/ReturnUrl" "value" "Ljava/lang/String;" (.ref a2)) (F2 : Fld Z h0 x2 "com/example/charon/charon/ReturnUrl" "value" "Ljava/lang/String;" (.ref a1)) (E1 : Exa Z h0 x1 "com/example/charon/charon/ReturnUrl") (E2 : Exa Z h0 x2 "com/example/charon/charon/ReturnUrl") (T1 : own_Str Z h0 a1 b1 k1 na bsa) (T2 : own_Str Z h0 a2 b2 k2 nb bsb) (ne1 : a1 ≠ a2) (hA : own_mkr la c0 c1 na bsa) (hB : own_mkr lb d0 d1 nb bsb) (hc0 : own_c8 c0) (hc1 : own_c8 c1) (hd0 : own_c8 d0) (hd1 : own_c8 d1) (C1 : Sta Z h0 "java/lang/String" "COMPACT_STRINGS" "Z" (.int cs)) (hcs : ¬ cs = (0 : Int32)) :
    own_Ct l Z (⟨"com/example/charon/charon/ReturnUrl", "equals", "(Ljava/lang/Object;)Z"⟩ : MethodName) prog_8_method_5_code 3 (some .boolean) ws ({ frames := 2, cells := 0, slots := 0, locals := 32 } : Room) #[(.ref x1), (.ref x2)] h0 (fun v h L => v = some (.int (own_eqr la c0 c1 lb d0 d1)) ∧ L = [] ∧ h = h0) ({ frames := 2, cells := 0, slots := 0, locals := 32 } : Room).cells ({ frames := 2, cells := 0, slots := 0, locals := 32 } : Room).slots := by
  refine own_met (plainFor_of_name pn_com_example_charon_charon_ReturnUrl) (fun p e s m below meth c s₁ X0 hx hby hml hret hlk hnm hown hZ e0 => ?_)
  have hml : c.maxLocals = 3 := hml
  have N0 := Fr.nil n0
  refine own_st (fun _ k => castTop (ef_10 m x1 x2) k) ?_
  show own_Goes p e below (s₁.setTop (mkF m 0 #[.val (.ref x1), .val (.ref x2), .unset] [])) _
  refine own_st (fun _ k => XS.aloadN X0.here hx rfl (hb hby d10_0) rfl rfl k) ?_
  show own_Goes p e below (s₁.setTop (mkF m 1 #[.val (.ref x1), .val (.ref x2), .unset] [(.ref x2)])) _
  obtain ⟨T101, X101, e101, st101⟩ := instY X0 hx hZ hown (hw _ (List.mem_of_getElem? (i := 56) rfl)) e0 (Ins.self E2) (g := (mkF m 1 #[.val (.ref x1), .val (.ref x2), .unset] [(.ref x2)])) rfl rfl (hb hby d10_1)
  refine own_st st101 ?_
  show own_Goes p e below (T101.setTop (mkF m 4 #[.val (.ref x1), .val (.ref x2), .unset] [(.int (1 : Int32))])) _
  refine own_st (fun _ k => XS.ifNo X101.here hx rfl (hb hby d10_4) rfl ((if0 _ _).trans (feq (by decide : ¬ ((1 : Int32) = (0 : Int32)))).1) k) ?_
  show own_Goes p e below (T101.setTop (mkF m 7 #[.val (.ref x1), .val (.ref x2), .unset] [])) _
  refine own_st (fun _ k => XS.aloadN X101.here hx rfl (hb hby d10_7) rfl rfl k) ?_
  show own_Goes p e below (T101.setTop (mkF m 8 #[.val (.ref x1), .val (.ref x2), .unset] [(.ref x2)])) _
  obtain ⟨T102, X102, e102, st102⟩ := castY X101 hx hZ hown (hw _ (List.mem_of_getElem? (i := 56) rfl)) e101 (Ins.self E2) (g := (mkF m 8 #[.val (.ref x1), .val (.ref x2), .unset] [(.ref x2)])) rfl rfl (hb hby d10_8)
  refine own_st st102 ?_
  show own_Goes p e below (T102.setTop (mkF m 11 #[.val (.ref x1), .val (.ref x2), .unset] [(.ref x2)])) _
  refine own_st (fun _ k => XS.astoreN X102.here hx rfl (hb hby d10_11) rfl rfl (l' := #[.val (.ref x1), .val (.ref x2), .val (.ref x2)]) rfl k) ?_
  show own_Goes p e below (T102.setTop (mkF m 12 #[.val (.ref x1), .val (.ref x2), .val (.ref x2)] [])) _
  refine own_st (fun _ k => XS.aloadN X102.here hx rfl (hb hby d10_12) rfl rfl k) ?_
  show own_Goes p e below (T102.setTop (mkF m 13 #[.val (.ref x1), .val (.ref x2), .val (.ref x2)] [(.ref x2)])) _
  obtain ⟨T103, X103, e103, st103⟩ := getF X102 hx hZ hown (host := "") (Or.inl (hw _ (List.mem_of_getElem? (i := 49) rfl))) Via.refl e102 F2 (g := (mkF m 13 #[.val (.ref x1), .val (.ref x2), .val (.ref x2)] [(.ref x2)])) rfl rfl (hb hby d10_13)
  refine own_st st103 ?_
  show own_Goes p e below (T103.setTop (mkF m 16 #[.val (.ref x1), .val (.ref x2), .val (.ref x2)] [(.ref a1)])) _
  refine own_st (fun _ k => XS.aloadN X103.here hx rfl (hb hby d10_16) rfl rfl k) ?_
  show own_Goes p e below (T103.setTop (mkF m 17 #[.val (.ref x1), .val (.ref x2), .val (.ref x2)] [(.ref x1), (.ref a1)])) _
  obtain ⟨T104, X104, e104, st104⟩ := getF X103 hx hZ hown (host := "") (Or.inl (hw _ (List.mem_of_getElem? (i := 49) rfl))) Via.refl e103 F1 (g := (mkF m 17 #[.val (.ref x1), .val (.ref x2), .val (.ref x2)] [(.ref x1), (.ref a1)])) rfl rfl (hb hby d10_17)
  refine own_st st104 ?_
  show own_Goes p e below (T104.setTop (mkF m 20 #[.val (.ref x1), .val (.ref x2), .val (.ref x2)] [(.ref a2), (.ref a1)])) _
  obtain ⟨_, T105, h105, L105, X105, e105, ⟨rfl, rfl, q105⟩, st105⟩ := own_callV (argsL := [(.ref a2)]) (rest := []) (pc := 20) (W := 0) (Ls := #[.val (.ref x1), .val (.ref x2), .val (.ref x2)]) (S := [(.ref a2), (.ref a1)]) X104 hx hZ hown (hw _ (List.mem_of_getElem? (i := 58) rfl)) (hw _ (List.mem_of_getElem? (i := 59) rfl)) (hw _ (List.mem_of_getElem? (i := 61) rfl)) (hw _ (List.mem_of_getElem? (i := 60) rfl)) (hw _ (List.mem_of_getElem? (i := 6) rfl)) (hw _ (List.mem_of_getElem? (i := 62) rfl)) (notFace_of_selects (args := #[]) (mvT hZ (hw _ (List.mem_of_getElem? (i := 61) rfl)))) (by decide) (rm9 l Z a0 hw [] a1 a2 b1 b2 k1 k2 la c0 c1 lb d0 d1 na nb bsa bsb cs h0 n0 Z0 T1 T2 ne1 hA hB hc0 hc1 hd0 hd1 C1 hcs) (by decide) (by decide) e104 T1.1 (by rw [hml]; rfl) (lenOf pd__Ljava_lang_Object__Z rfl) rfl (Nat.le_of_eq rfl) (hb hby d10_20) (by decide) (by decide)
  refine own_st st105 ?_
  show own_Goes p e below (T105.setTop (mkF m 23 #[.val (.ref x1), .val (.ref x2), .val (.ref x2)] [(.int (own_eqr la c0 c1 lb d0 d1))])) _
  by_cases hc23_106 : (own_eqr la c0 c1 lb d0 d1) = (0 : Int32)
  · refine own_st (fun _ k => XS.ifYes X105.here hx rfl (pc0 := 23) (pc' := 30) rfl (hb hby d10_23) rfl ((if0 _ _).trans (teq hc23_106).1) (by decide) (by decide) k) ?_
    show own_Goes p e below (T105.setTop (mkF m 30 #[.val (.ref x1), .val (.ref x2), .val (.ref x2)] [])) _
    refine own_st (fun _ k => XS.iconst X105.here hx rfl (hb hby d10_30) k) ?_
    show own_Goes p e below (T105.setTop (mkF m 31 #[.val (.ref x1), .val (.ref x2), .val (.ref x2)] [(.int (0 : Int32))])) _
    exact own_retN (t := .boolean) (z' := (0 : Int32)) X105 hx hlk hret (by simp) (by decide) (hb hby d10_31) (by decide) (by decide) (e105.trans q105) ⟨congrArg (fun z => some (Value.int z)) hc23_106.symm, rfl, rfl⟩
  · refine own_st (fun _ k => XS.ifNo X105.here hx rfl (hb hby d10_23) rfl ((if0 _ _).trans (feq hc23_106).1) k) ?_
    show own_Goes p e below (T105.setTop (mkF m 26 #[.val (.ref x1), .val (.ref x2), .val (.ref x2)] [])) _
    refine own_st (fun _ k => XS.iconst X105.here hx rfl (hb hby d10_26) k) ?_
    show own_Goes p e below (T105.setTop (mkF m 27 #[.val (.ref x1), .val (.ref x2), .val (.ref x2)] [(.int (1 : Int32))])) _
    refine own_st (fun _ k => XS.goto X105.here hx rfl (pc0 := 27) (pc' := 31) rfl (hb hby d10_27) (by decide) (by decide) k) ?_
    show own_Goes p e below (T105.setTop (mkF m 31 #[.val (.ref x1), .val (.ref x2), .val (.ref x2)] [(.int (1 : Int32))])) _
    exact own_retN (t := .boolean) (z' := (1 : Int32)) X105 hx hlk hret (by simp) (by decide) (hb hby d10_31) (by decide) (by decide) (e105.trans q105) ⟨congrArg (fun z => some (Value.int z)) (own_eqr1 hc23_106).symm, rfl, rfl⟩
theorem d11_0 : decode prog_8_method_5_code 0 = .ok (.aload_n 1, 1) := by decide +kernel
theorem d11_1 : decode prog_8_method_5_code 1 = .ok (.instanceof 8, 3) := by decide +kernel
theorem d11_4 : decode prog_8_method_5_code 4 = .ok (.ifCond .eq 26, 3) := by decide +kernel
theorem d11_30 : decode prog_8_method_5_code 30 = .ok (.iconst 0, 1) := by decide +kernel
theorem d11_31 : decode prog_8_method_5_code 31 = .ok (.ireturn, 1) := by decide +kernel
theorem ef_11 (m : MethodId) (e0 : Addr) (e1 : Addr) : entryFrame m #[(.ref e0), (.ref e1)] 3 = mkF m 0 #[.val (.ref e0), .val (.ref e1), .unset] [] := by first | (simp [entryFrame, mkF, argsToLocals, Value.category]; done) | rfl
set_option maxRecDepth 65536 in
set_option maxHeartbeats 40000000 in
theorem rm11 (l : Launch) (Z : State) (a0 : Array Value) (hw : ∀ d ∈ tables_1, d.before a0 Z = true) (ws : List Jvm.Cond) (x1 x2 : Addr) (h0 : Heap) (n0 : Nat) (Z0 : n0 ≤ h0.size) (E2 : Exa Z h0 x2 "java/lang/String") :
    own_Ct l Z (⟨"com/example/charon/charon/ReturnUrl", "equals", "(Ljava/lang/Object;)Z"⟩ : MethodName) prog_8_method_5_code 3 (some .boolean) ws ({ frames := 0, cells := 0, slots := 0, locals := 0 } : Room) #[(.ref x1), (.ref x2)] h0 (fun v h L => v = some (.int (0 : Int32)) ∧ L = [] ∧ h = h0) ({ frames := 0, cells := 0, slots := 0, locals := 0 } : Room).cells ({ frames := 0, cells := 0, slots := 0, locals := 0 } : Room).slots := by
  refine own_met (plainFor_of_name pn_com_example_charon_charon_ReturnUrl) (fun p e s m below meth c s₁ X0 hx hby hml hret hlk hnm hown hZ e0 => ?_)
  have hml : c.maxLocals = 3 := hml
  have N0 := Fr.nil n0
  refine own_st (fun _ k => castTop (ef_11 m x1 x2) k) ?_
  show own_Goes p e below (s₁.setTop (mkF m 0 #[.val (.ref x1), .val (.ref x2), .unset] [])) _
  refine own_st (fun _ k => XS.aloadN X0.here hx rfl (hb hby d11_0) rfl rfl k) ?_
  show own_Goes p e below (s₁.setTop (mkF m 1 #[.val (.ref x1), .val (.ref x2), .unset] [(.ref x2)])) _
  obtain ⟨T101, X101, e101, st101⟩ := instNo X0 hx hZ hown (hw _ (List.mem_of_getElem? (i := 56) rfl)) e0 E2 (own_noInst (hw _ (List.mem_of_getElem? (i := 68) rfl)) (hw _ (List.mem_of_getElem? (i := 69) rfl)) (hw _ (List.mem_of_getElem? (i := 38) rfl)) (by decide) (by decide)) (g := (mkF m 1 #[.val (.ref x1), .val (.ref x2), .unset] [(.ref x2)])) rfl rfl (hb hby d11_1)
  refine own_st st101 ?_
  show own_Goes p e below (T101.setTop (mkF m 4 #[.val (.ref x1), .val (.ref x2), .unset] [(.int (0 : Int32))])) _
  refine own_st (fun _ k => XS.ifYes X101.here hx rfl (pc0 := 4) (pc' := 30) rfl (hb hby d11_4) rfl ((if0 _ _).trans (teq (by decide : (0 : Int32) = (0 : Int32))).1) (by decide) (by decide) k) ?_
  show own_Goes p e below (T101.setTop (mkF m 30 #[.val (.ref x1), .val (.ref x2), .unset] [])) _
  refine own_st (fun _ k => XS.iconst X101.here hx rfl (hb hby d11_30) k) ?_
  show own_Goes p e below (T101.setTop (mkF m 31 #[.val (.ref x1), .val (.ref x2), .unset] [(.int (0 : Int32))])) _
  exact own_retN (t := .boolean) (z' := (0 : Int32)) X101 hx hlk hret (by simp) (by decide) (hb hby d11_31) (by decide) (by decide) e101 ⟨rfl, rfl, rfl⟩
theorem d12_0 : decode prog_8_method_5_code 0 = .ok (.aload_n 1, 1) := by decide +kernel
theorem d12_1 : decode prog_8_method_5_code 1 = .ok (.instanceof 8, 3) := by decide +kernel
theorem d12_4 : decode prog_8_method_5_code 4 = .ok (.ifCond .eq 26, 3) := by decide +kernel
theorem d12_30 : decode prog_8_method_5_code 30 = .ok (.iconst 0, 1) := by decide +kernel
theorem d12_31 : decode prog_8_method_5_code 31 = .ok (.ireturn, 1) := by decide +kernel
theorem ef_12 (m : MethodId) (e0 : Addr) : entryFrame m #[(.ref e0), .null] 3 = mkF m 0 #[.val (.ref e0), .val .null, .unset] [] := by first | (simp [entryFrame, mkF, argsToLocals, Value.category]; done) | rfl
set_option maxRecDepth 65536 in
set_option maxHeartbeats 40000000 in
theorem rm12 (l : Launch) (Z : State) (a0 : Array Value) (hw : ∀ d ∈ tables_1, d.before a0 Z = true) (ws : List Jvm.Cond) (x1 : Addr) (h0 : Heap) (n0 : Nat) (Z0 : n0 ≤ h0.size)  :
    own_Ct l Z (⟨"com/example/charon/charon/ReturnUrl", "equals", "(Ljava/lang/Object;)Z"⟩ : MethodName) prog_8_method_5_code 3 (some .boolean) ws ({ frames := 0, cells := 0, slots := 0, locals := 0 } : Room) #[(.ref x1), .null] h0 (fun v h L => v = some (.int (0 : Int32)) ∧ L = [] ∧ h = h0) ({ frames := 0, cells := 0, slots := 0, locals := 0 } : Room).cells ({ frames := 0, cells := 0, slots := 0, locals := 0 } : Room).slots := by
  refine own_met (plainFor_of_name pn_com_example_charon_charon_ReturnUrl) (fun p e s m below meth c s₁ X0 hx hby hml hret hlk hnm hown hZ e0 => ?_)
  have hml : c.maxLocals = 3 := hml
  have N0 := Fr.nil n0
  refine own_st (fun _ k => castTop (ef_12 m x1) k) ?_
  show own_Goes p e below (s₁.setTop (mkF m 0 #[.val (.ref x1), .val .null, .unset] [])) _
  refine own_st (fun _ k => XS.aloadN X0.here hx rfl (hb hby d12_0) rfl rfl k) ?_
  show own_Goes p e below (s₁.setTop (mkF m 1 #[.val (.ref x1), .val .null, .unset] [.null])) _
  refine own_st (X0.instanceofNull hx (g := (mkF m 1 #[.val (.ref x1), .val .null, .unset] [.null])) rfl rfl (hb hby d12_1)) ?_
  show own_Goes p e below (s₁.setTop (mkF m 4 #[.val (.ref x1), .val .null, .unset] [(.int (0 : Int32))])) _
  refine own_st (fun _ k => XS.ifYes X0.here hx rfl (pc0 := 4) (pc' := 30) rfl (hb hby d12_4) rfl ((if0 _ _).trans (teq (by decide : (0 : Int32) = (0 : Int32))).1) (by decide) (by decide) k) ?_
  show own_Goes p e below (s₁.setTop (mkF m 30 #[.val (.ref x1), .val .null, .unset] [])) _
  refine own_st (fun _ k => XS.iconst X0.here hx rfl (hb hby d12_30) k) ?_
  show own_Goes p e below (s₁.setTop (mkF m 31 #[.val (.ref x1), .val .null, .unset] [(.int (0 : Int32))])) _
  exact own_retN (t := .boolean) (z' := (0 : Int32)) X0 hx hlk hret (by simp) (by decide) (hb hby d12_31) (by decide) (by decide) e0 ⟨rfl, rfl, rfl⟩
theorem ef_0 (m : MethodId) (e0 : Int32) (e1 : Int32) (e2 : Int32) : entryFrame m #[(.int e0), (.int e1), (.int e2)] maxLocals = mkF m 0 #[.val (.int e0), .val (.int e1), .val (.int e2), .unset, .unset, .unset, .unset, .unset, .unset, .unset, .unset, .unset, .unset, .unset, .unset, .unset] [] := by first | (simp [entryFrame, mkF, argsToLocals, Value.category, maxLocals]; done) | rfl
set_option maxRecDepth 65536 in
set_option maxHeartbeats 40000000 in
theorem rm0 (l : Launch) (Z : State) (a0 : Array Value) (hw : ∀ d ∈ tables_1, d.before a0 Z = true) (ws : List Jvm.Cond) (i0 i1 i2 cs : Int32) (h0 : Heap) (n0 : Nat) (Z0 : n0 ≤ h0.size) (S_cs : Sta Z Z.heap "java/lang/String" "COMPACT_STRINGS" "Z" (.int cs)) (hcs : ¬ cs = (0 : Int32)) (O0 : Old Z n0 h0) (hh0 : Jvm.Lit.constHeld Z "java/lang/String" 7) (hcw0 : Jvm.Lit.compactW.before a0 Z = true) :
    own_CtS l Z x code maxLocals ret ws room_1 #[(.int i0), (.int i1), (.int i2)] h0 (fun vm => own_E Z vm h0) (fun v h vm L => v = some (.int (1 : Int32)) ∧ Fr n0 L) room_1.cells room_1.slots := by
  refine own_metS (plainFor_of_name pn_com_example_charon_charon_ReturnUrlEqualsPinLaw) (fun p e s m below meth c s₁ X0 hx hby hml hret hlk hnm hown hZ e0 hs0 hP hS => ?_)
  have hml : c.maxLocals = 16 := hml
  have N0 := Fr.nil n0
  refine own_st (fun _ k => castTop (ef_0 m i0 i1 i2) k) ?_
  show own_Goes p e below (s₁.setTop (mkF m 0 #[.val (.int i0), .val (.int i1), .val (.int i2), .unset, .unset, .unset, .unset, .unset, .unset, .unset, .unset, .unset, .unset, .unset, .unset, .unset] [])) _
  refine own_st (fun _ k => XS.iloadN X0.here hx rfl (hb hby at_0) rfl k) ?_
  show own_Goes p e below (s₁.setTop (mkF m 1 #[.val (.int i0), .val (.int i1), .val (.int i2), .unset, .unset, .unset, .unset, .unset, .unset, .unset, .unset, .unset, .unset, .unset, .unset, .unset] [(.int i2)])) _
  refine own_st (fun _ k => XS.sipush X0.here hx rfl (hb hby at_1) k) ?_
  show own_Goes p e below (s₁.setTop (mkF m 4 #[.val (.int i0), .val (.int i1), .val (.int i2), .unset, .unset, .unset, .unset, .unset, .unset, .unset, .unset, .unset, .unset, .unset, .unset, .unset] [(.int (255 : Int32)), (.int i2)])) _
  refine own_st (fun _ k => XS.iand X0.here hx rfl (hb hby at_4) rfl k) ?_
  show own_Goes p e below (s₁.setTop (mkF m 5 #[.val (.int i0), .val (.int i1), .val (.int i2), .unset, .unset, .unset, .unset, .unset, .unset, .unset, .unset, .unset, .unset, .unset, .unset, .unset] [(.int (i2 &&& (255 : Int32)))])) _
  refine own_st (fun _ k => XS.iconst X0.here hx rfl (hb hby at_5) k) ?_
  show own_Goes p e below (s₁.setTop (mkF m 6 #[.val (.int i0), .val (.int i1), .val (.int i2), .unset, .unset, .unset, .unset, .unset, .unset, .unset, .unset, .unset, .unset, .unset, .unset, .unset] [(.int (3 : Int32)), (.int (i2 &&& (255 : Int32)))])) _
  refine own_st (fun _ k => iremM X0 hx rfl (hb hby at_6) rfl (by decide) k) ?_
  show own_Goes p e below (s₁.setTop (mkF m 7 #[.val (.int i0), .val (.int i1), .val (.int i2), .unset, .unset, .unset, .unset, .unset, .unset, .unset, .unset, .unset, .unset, .unset, .unset, .unset] [(.int ((i2 &&& (255 : Int32)) % (3 : Int32)))])) _
  obtain ⟨la, e_la, hla⟩ := own_m3 i2
  rw [e_la]
  show own_Goes p e below (s₁.setTop (mkF m 7 #[.val (.int i0), .val (.int i1), .val (.int i2), .unset, .unset, .unset, .unset, .unset, .unset, .unset, .unset, .unset, .unset, .unset, .unset, .unset] [(.int la)])) _
  refine own_st (fun _ k => XS.istoreN X0.here hx rfl (hb hby at_7) rfl (l' := #[.val (.int i0), .val (.int i1), .val (.int i2), .val (.int la), .unset, .unset, .unset, .unset, .unset, .unset, .unset, .unset, .unset, .unset, .unset, .unset]) rfl k) ?_
  show own_Goes p e below (s₁.setTop (mkF m 8 #[.val (.int i0), .val (.int i1), .val (.int i2), .val (.int la), .unset, .unset, .unset, .unset, .unset, .unset, .unset, .unset, .unset, .unset, .unset, .unset] [])) _
  refine own_st (fun _ k => XS.iloadN X0.here hx rfl (hb hby at_8) rfl k) ?_
  show own_Goes p e below (s₁.setTop (mkF m 9 #[.val (.int i0), .val (.int i1), .val (.int i2), .val (.int la), .unset, .unset, .unset, .unset, .unset, .unset, .unset, .unset, .unset, .unset, .unset, .unset] [(.int i2)])) _
  refine own_st (fun _ k => XS.bipush X0.here hx rfl (hb hby at_9) k) ?_
  show own_Goes p e below (s₁.setTop (mkF m 11 #[.val (.int i0), .val (.int i1), .val (.int i2), .val (.int la), .unset, .unset, .unset, .unset, .unset, .unset, .unset, .unset, .unset, .unset, .unset, .unset] [(.int (8 : Int32)), (.int i2)])) _
  refine own_st (fun _ k => XT.iushr X0.here hx rfl (hb hby at_11) rfl k) ?_
  show own_Goes p e below (s₁.setTop (mkF m 12 #[.val (.int i0), .val (.int i1), .val (.int i2), .val (.int la), .unset, .unset, .unset, .unset, .unset, .unset, .unset, .unset, .unset, .unset, .unset, .unset] [(.int (XT.ushr i2 (8 : Int32)))])) _
  refine own_st (fun _ k => XS.sipush X0.here hx rfl (hb hby at_12) k) ?_
  show own_Goes p e below (s₁.setTop (mkF m 15 #[.val (.int i0), .val (.int i1), .val (.int i2), .val (.int la), .unset, .unset, .unset, .unset, .unset, .unset, .unset, .unset, .unset, .unset, .unset, .unset] [(.int (255 : Int32)), (.int (XT.ushr i2 (8 : Int32)))])) _
  refine own_st (fun _ k => XS.iand X0.here hx rfl (hb hby at_15) rfl k) ?_
  show own_Goes p e below (s₁.setTop (mkF m 16 #[.val (.int i0), .val (.int i1), .val (.int i2), .val (.int la), .unset, .unset, .unset, .unset, .unset, .unset, .unset, .unset, .unset, .unset, .unset, .unset] [(.int ((XT.ushr i2 (8 : Int32)) &&& (255 : Int32)))])) _
  refine own_st (fun _ k => XS.iconst X0.here hx rfl (hb hby at_16) k) ?_
  show own_Goes p e below (s₁.setTop (mkF m 17 #[.val (.int i0), .val (.int i1), .val (.int i2), .val (.int la), .unset, .unset, .unset, .unset, .unset, .unset, .unset, .unset, .unset, .unset, .unset, .unset] [(.int (3 : Int32)), (.int ((XT.ushr i2 (8 : Int32)) &&& (255 : Int32)))])) _
  refine own_st (fun _ k => iremM X0 hx rfl (hb hby at_17) rfl (by decide) k) ?_
  show own_Goes p e below (s₁.setTop (mkF m 18 #[.val (.int i0), .val (.int i1), .val (.int i2), .val (.int la), .unset, .unset, .unset, .unset, .unset, .unset, .unset, .unset, .unset, .unset, .unset, .unset] [(.int (((XT.ushr i2 (8 : Int32)) &&& (255 : Int32)) % (3 : Int32)))])) _
  obtain ⟨lb, e_lb, hlb⟩ := own_m3 (XT.ushr i2 (8 : Int32))
  rw [e_lb]
  show own_Goes p e below (s₁.setTop (mkF m 18 #[.val (.int i0), .val (.int i1), .val (.int i2), .val (.int la), .unset, .unset, .unset, .unset, .unset, .unset, .unset, .unset, .unset, .unset, .unset, .unset] [(.int lb)])) _
  refine own_st (fun _ k => XS.istore X0.here hx rfl (hb hby at_18) rfl (l' := #[.val (.int i0), .val (.int i1), .val (.int i2), .val (.int la), .val (.int lb), .unset, .unset, .unset, .unset, .unset, .unset, .unset, .unset, .unset, .unset, .unset]) rfl k) ?_
  show own_Goes p e below (s₁.setTop (mkF m 20 #[.val (.int i0), .val (.int i1), .val (.int i2), .val (.int la), .val (.int lb), .unset, .unset, .unset, .unset, .unset, .unset, .unset, .unset, .unset, .unset, .unset] [])) _
  refine own_st (fun _ k => XS.iloadN X0.here hx rfl (hb hby at_20) rfl k) ?_
  show own_Goes p e below (s₁.setTop (mkF m 21 #[.val (.int i0), .val (.int i1), .val (.int i2), .val (.int la), .val (.int lb), .unset, .unset, .unset, .unset, .unset, .unset, .unset, .unset, .unset, .unset, .unset] [(.int i2)])) _
  refine own_st (fun _ k => XS.bipush X0.here hx rfl (hb hby at_21) k) ?_
  show own_Goes p e below (s₁.setTop (mkF m 23 #[.val (.int i0), .val (.int i1), .val (.int i2), .val (.int la), .val (.int lb), .unset, .unset, .unset, .unset, .unset, .unset, .unset, .unset, .unset, .unset, .unset] [(.int (16 : Int32)), (.int i2)])) _
  refine own_st (fun _ k => XT.iushr X0.here hx rfl (hb hby at_23) rfl k) ?_
  show own_Goes p e below (s₁.setTop (mkF m 24 #[.val (.int i0), .val (.int i1), .val (.int i2), .val (.int la), .val (.int lb), .unset, .unset, .unset, .unset, .unset, .unset, .unset, .unset, .unset, .unset, .unset] [(.int (XT.ushr i2 (16 : Int32)))])) _
  refine own_st (fun _ k => XS.iconst X0.here hx rfl (hb hby at_24) k) ?_
  show own_Goes p e below (s₁.setTop (mkF m 25 #[.val (.int i0), .val (.int i1), .val (.int i2), .val (.int la), .val (.int lb), .unset, .unset, .unset, .unset, .unset, .unset, .unset, .unset, .unset, .unset, .unset] [(.int (3 : Int32)), (.int (XT.ushr i2 (16 : Int32)))])) _
  refine own_st (fun _ k => XS.iand X0.here hx rfl (hb hby at_25) rfl k) ?_
  show own_Goes p e below (s₁.setTop (mkF m 26 #[.val (.int i0), .val (.int i1), .val (.int i2), .val (.int la), .val (.int lb), .unset, .unset, .unset, .unset, .unset, .unset, .unset, .unset, .unset, .unset, .unset] [(.int ((XT.ushr i2 (16 : Int32)) &&& (3 : Int32)))])) _
  refine own_st (fun _ k => XS.istore X0.here hx rfl (hb hby at_26) rfl (l' := #[.val (.int i0), .val (.int i1), .val (.int i2), .val (.int la), .val (.int lb), .val (.int ((XT.ushr i2 (16 : Int32)) &&& (3 : Int32))), .unset, .unset, .unset, .unset, .unset, .unset, .unset, .unset, .unset, .unset]) rfl k) ?_
  show own_Goes p e below (s₁.setTop (mkF m 28 #[.val (.int i0), .val (.int i1), .val (.int i2), .val (.int la), .val (.int lb), .val (.int ((XT.ushr i2 (16 : Int32)) &&& (3 : Int32))), .unset, .unset, .unset, .unset, .unset, .unset, .unset, .unset, .unset, .unset] [])) _
  refine own_st (fun _ k => XS.iloadN X0.here hx rfl (hb hby at_28) rfl k) ?_
  show own_Goes p e below (s₁.setTop (mkF m 29 #[.val (.int i0), .val (.int i1), .val (.int i2), .val (.int la), .val (.int lb), .val (.int ((XT.ushr i2 (16 : Int32)) &&& (3 : Int32))), .unset, .unset, .unset, .unset, .unset, .unset, .unset, .unset, .unset, .unset] [(.int i0)])) _
  refine own_st (fun _ k => XS.sipush X0.here hx rfl (hb hby at_29) k) ?_
  show own_Goes p e below (s₁.setTop (mkF m 32 #[.val (.int i0), .val (.int i1), .val (.int i2), .val (.int la), .val (.int lb), .val (.int ((XT.ushr i2 (16 : Int32)) &&& (3 : Int32))), .unset, .unset, .unset, .unset, .unset, .unset, .unset, .unset, .unset, .unset] [(.int (255 : Int32)), (.int i0)])) _
  refine own_st (fun _ k => XS.iand X0.here hx rfl (hb hby at_32) rfl k) ?_
  show own_Goes p e below (s₁.setTop (mkF m 33 #[.val (.int i0), .val (.int i1), .val (.int i2), .val (.int la), .val (.int lb), .val (.int ((XT.ushr i2 (16 : Int32)) &&& (3 : Int32))), .unset, .unset, .unset, .unset, .unset, .unset, .unset, .unset, .unset, .unset] [(.int (i0 &&& (255 : Int32)))])) _
  refine own_st (fun _ k => XT.i2c X0.here hx rfl (hb hby at_33) rfl k) ?_
  show own_Goes p e below (s₁.setTop (mkF m 34 #[.val (.int i0), .val (.int i1), .val (.int i2), .val (.int la), .val (.int lb), .val (.int ((XT.ushr i2 (16 : Int32)) &&& (3 : Int32))), .unset, .unset, .unset, .unset, .unset, .unset, .unset, .unset, .unset, .unset] [(.int (i0 &&& (255 : Int32)).toUInt32.toUInt16.toUInt32.toInt32)])) _
  obtain ⟨c0, e_c0, hc0⟩ := own_and8 i0
  rw [e_c0]
  show own_Goes p e below (s₁.setTop (mkF m 34 #[.val (.int i0), .val (.int i1), .val (.int i2), .val (.int la), .val (.int lb), .val (.int ((XT.ushr i2 (16 : Int32)) &&& (3 : Int32))), .unset, .unset, .unset, .unset, .unset, .unset, .unset, .unset, .unset, .unset] [(.int c0)])) _
  refine own_st (fun _ k => XS.istore X0.here hx rfl (hb hby at_34) rfl (l' := #[.val (.int i0), .val (.int i1), .val (.int i2), .val (.int la), .val (.int lb), .val (.int ((XT.ushr i2 (16 : Int32)) &&& (3 : Int32))), .val (.int c0), .unset, .unset, .unset, .unset, .unset, .unset, .unset, .unset, .unset]) rfl k) ?_
  show own_Goes p e below (s₁.setTop (mkF m 36 #[.val (.int i0), .val (.int i1), .val (.int i2), .val (.int la), .val (.int lb), .val (.int ((XT.ushr i2 (16 : Int32)) &&& (3 : Int32))), .val (.int c0), .unset, .unset, .unset, .unset, .unset, .unset, .unset, .unset, .unset] [])) _
  refine own_st (fun _ k => XS.iloadN X0.here hx rfl (hb hby at_36) rfl k) ?_
  show own_Goes p e below (s₁.setTop (mkF m 37 #[.val (.int i0), .val (.int i1), .val (.int i2), .val (.int la), .val (.int lb), .val (.int ((XT.ushr i2 (16 : Int32)) &&& (3 : Int32))), .val (.int c0), .unset, .unset, .unset, .unset, .unset, .unset, .unset, .unset, .unset] [(.int i0)])) _
  refine own_st (fun _ k => XS.bipush X0.here hx rfl (hb hby at_37) k) ?_
  show own_Goes p e below (s₁.setTop (mkF m 39 #[.val (.int i0), .val (.int i1), .val (.int i2), .val (.int la), .val (.int lb), .val (.int ((XT.ushr i2 (16 : Int32)) &&& (3 : Int32))), .val (.int c0), .unset, .unset, .unset, .unset, .unset, .unset, .unset, .unset, .unset] [(.int (8 : Int32)), (.int i0)])) _
  refine own_st (fun _ k => XT.iushr X0.here hx rfl (hb hby at_39) rfl k) ?_
  show own_Goes p e below (s₁.setTop (mkF m 40 #[.val (.int i0), .val (.int i1), .val (.int i2), .val (.int la), .val (.int lb), .val (.int ((XT.ushr i2 (16 : Int32)) &&& (3 : Int32))), .val (.int c0), .unset, .unset, .unset, .unset, .unset, .unset, .unset, .unset, .unset] [(.int (XT.ushr i0 (8 : Int32)))])) _
  refine own_st (fun _ k => XS.sipush X0.here hx rfl (hb hby at_40) k) ?_
  show own_Goes p e below (s₁.setTop (mkF m 43 #[.val (.int i0), .val (.int i1), .val (.int i2), .val (.int la), .val (.int lb), .val (.int ((XT.ushr i2 (16 : Int32)) &&& (3 : Int32))), .val (.int c0), .unset, .unset, .unset, .unset, .unset, .unset, .unset, .unset, .unset] [(.int (255 : Int32)), (.int (XT.ushr i0 (8 : Int32)))])) _
  refine own_st (fun _ k => XS.iand X0.here hx rfl (hb hby at_43) rfl k) ?_
  show own_Goes p e below (s₁.setTop (mkF m 44 #[.val (.int i0), .val (.int i1), .val (.int i2), .val (.int la), .val (.int lb), .val (.int ((XT.ushr i2 (16 : Int32)) &&& (3 : Int32))), .val (.int c0), .unset, .unset, .unset, .unset, .unset, .unset, .unset, .unset, .unset] [(.int ((XT.ushr i0 (8 : Int32)) &&& (255 : Int32)))])) _
  refine own_st (fun _ k => XT.i2c X0.here hx rfl (hb hby at_44) rfl k) ?_
  show own_Goes p e below (s₁.setTop (mkF m 45 #[.val (.int i0), .val (.int i1), .val (.int i2), .val (.int la), .val (.int lb), .val (.int ((XT.ushr i2 (16 : Int32)) &&& (3 : Int32))), .val (.int c0), .unset, .unset, .unset, .unset, .unset, .unset, .unset, .unset, .unset] [(.int ((XT.ushr i0 (8 : Int32)) &&& (255 : Int32)).toUInt32.toUInt16.toUInt32.toInt32)])) _
  obtain ⟨c1, e_c1, hc1⟩ := own_and8 (XT.ushr i0 (8 : Int32))
  rw [e_c1]
  show own_Goes p e below (s₁.setTop (mkF m 45 #[.val (.int i0), .val (.int i1), .val (.int i2), .val (.int la), .val (.int lb), .val (.int ((XT.ushr i2 (16 : Int32)) &&& (3 : Int32))), .val (.int c0), .unset, .unset, .unset, .unset, .unset, .unset, .unset, .unset, .unset] [(.int c1)])) _
  refine own_st (fun _ k => XS.istore X0.here hx rfl (hb hby at_45) rfl (l' := #[.val (.int i0), .val (.int i1), .val (.int i2), .val (.int la), .val (.int lb), .val (.int ((XT.ushr i2 (16 : Int32)) &&& (3 : Int32))), .val (.int c0), .val (.int c1), .unset, .unset, .unset, .unset, .unset, .unset, .unset, .unset]) rfl k) ?_
  show own_Goes p e below (s₁.setTop (mkF m 47 #[.val (.int i0), .val (.int i1), .val (.int i2), .val (.int la), .val (.int lb), .val (.int ((XT.ushr i2 (16 : Int32)) &&& (3 : Int32))), .val (.int c0), .val (.int c1), .unset, .unset, .unset, .unset, .unset, .unset, .unset, .unset] [])) _
  refine own_st (fun _ k => XS.iloadN X0.here hx rfl (hb hby at_47) rfl k) ?_
  show own_Goes p e below (s₁.setTop (mkF m 48 #[.val (.int i0), .val (.int i1), .val (.int i2), .val (.int la), .val (.int lb), .val (.int ((XT.ushr i2 (16 : Int32)) &&& (3 : Int32))), .val (.int c0), .val (.int c1), .unset, .unset, .unset, .unset, .unset, .unset, .unset, .unset] [(.int i0)])) _
  refine own_st (fun _ k => XS.iloadN X0.here hx rfl (hb hby at_48) rfl k) ?_
  show own_Goes p e below (s₁.setTop (mkF m 49 #[.val (.int i0), .val (.int i1), .val (.int i2), .val (.int la), .val (.int lb), .val (.int ((XT.ushr i2 (16 : Int32)) &&& (3 : Int32))), .val (.int c0), .val (.int c1), .unset, .unset, .unset, .unset, .unset, .unset, .unset, .unset] [(.int i1), (.int i0)])) _
  refine own_st (fun _ k => XT.ixor X0.here hx rfl (hb hby at_49) rfl k) ?_
  show own_Goes p e below (s₁.setTop (mkF m 50 #[.val (.int i0), .val (.int i1), .val (.int i2), .val (.int la), .val (.int lb), .val (.int ((XT.ushr i2 (16 : Int32)) &&& (3 : Int32))), .val (.int c0), .val (.int c1), .unset, .unset, .unset, .unset, .unset, .unset, .unset, .unset] [(.int (i0 ^^^ i1))])) _
  refine own_st (fun _ k => XS.istore X0.here hx rfl (hb hby at_50) rfl (l' := #[.val (.int i0), .val (.int i1), .val (.int i2), .val (.int la), .val (.int lb), .val (.int ((XT.ushr i2 (16 : Int32)) &&& (3 : Int32))), .val (.int c0), .val (.int c1), .val (.int (i0 ^^^ i1)), .unset, .unset, .unset, .unset, .unset, .unset, .unset]) rfl k) ?_
  show own_Goes p e below (s₁.setTop (mkF m 52 #[.val (.int i0), .val (.int i1), .val (.int i2), .val (.int la), .val (.int lb), .val (.int ((XT.ushr i2 (16 : Int32)) &&& (3 : Int32))), .val (.int c0), .val (.int c1), .val (.int (i0 ^^^ i1)), .unset, .unset, .unset, .unset, .unset, .unset, .unset] [])) _
  refine own_st (fun _ k => XS.iload X0.here hx rfl (hb hby at_52) rfl k) ?_
  show own_Goes p e below (s₁.setTop (mkF m 54 #[.val (.int i0), .val (.int i1), .val (.int i2), .val (.int la), .val (.int lb), .val (.int ((XT.ushr i2 (16 : Int32)) &&& (3 : Int32))), .val (.int c0), .val (.int c1), .val (.int (i0 ^^^ i1)), .unset, .unset, .unset, .unset, .unset, .unset, .unset] [(.int (i0 ^^^ i1))])) _
  refine own_st (fun _ k => XS.sipush X0.here hx rfl (hb hby at_54) k) ?_
  show own_Goes p e below (s₁.setTop (mkF m 57 #[.val (.int i0), .val (.int i1), .val (.int i2), .val (.int la), .val (.int lb), .val (.int ((XT.ushr i2 (16 : Int32)) &&& (3 : Int32))), .val (.int c0), .val (.int c1), .val (.int (i0 ^^^ i1)), .unset, .unset, .unset, .unset, .unset, .unset, .unset] [(.int (255 : Int32)), (.int (i0 ^^^ i1))])) _
  refine own_st (fun _ k => XS.iand X0.here hx rfl (hb hby at_57) rfl k) ?_
  show own_Goes p e below (s₁.setTop (mkF m 58 #[.val (.int i0), .val (.int i1), .val (.int i2), .val (.int la), .val (.int lb), .val (.int ((XT.ushr i2 (16 : Int32)) &&& (3 : Int32))), .val (.int c0), .val (.int c1), .val (.int (i0 ^^^ i1)), .unset, .unset, .unset, .unset, .unset, .unset, .unset] [(.int ((i0 ^^^ i1) &&& (255 : Int32)))])) _
  refine own_st (fun _ k => XT.i2c X0.here hx rfl (hb hby at_58) rfl k) ?_
  show own_Goes p e below (s₁.setTop (mkF m 59 #[.val (.int i0), .val (.int i1), .val (.int i2), .val (.int la), .val (.int lb), .val (.int ((XT.ushr i2 (16 : Int32)) &&& (3 : Int32))), .val (.int c0), .val (.int c1), .val (.int (i0 ^^^ i1)), .unset, .unset, .unset, .unset, .unset, .unset, .unset] [(.int ((i0 ^^^ i1) &&& (255 : Int32)).toUInt32.toUInt16.toUInt32.toInt32)])) _
  obtain ⟨d0, e_d0, hd0⟩ := own_and8 (i0 ^^^ i1)
  rw [e_d0]
  show own_Goes p e below (s₁.setTop (mkF m 59 #[.val (.int i0), .val (.int i1), .val (.int i2), .val (.int la), .val (.int lb), .val (.int ((XT.ushr i2 (16 : Int32)) &&& (3 : Int32))), .val (.int c0), .val (.int c1), .val (.int (i0 ^^^ i1)), .unset, .unset, .unset, .unset, .unset, .unset, .unset] [(.int d0)])) _
  refine own_st (fun _ k => XS.istore X0.here hx rfl (hb hby at_59) rfl (l' := #[.val (.int i0), .val (.int i1), .val (.int i2), .val (.int la), .val (.int lb), .val (.int ((XT.ushr i2 (16 : Int32)) &&& (3 : Int32))), .val (.int c0), .val (.int c1), .val (.int (i0 ^^^ i1)), .val (.int d0), .unset, .unset, .unset, .unset, .unset, .unset]) rfl k) ?_
  show own_Goes p e below (s₁.setTop (mkF m 61 #[.val (.int i0), .val (.int i1), .val (.int i2), .val (.int la), .val (.int lb), .val (.int ((XT.ushr i2 (16 : Int32)) &&& (3 : Int32))), .val (.int c0), .val (.int c1), .val (.int (i0 ^^^ i1)), .val (.int d0), .unset, .unset, .unset, .unset, .unset, .unset] [])) _
  refine own_st (fun _ k => XS.iload X0.here hx rfl (hb hby at_61) rfl k) ?_
  show own_Goes p e below (s₁.setTop (mkF m 63 #[.val (.int i0), .val (.int i1), .val (.int i2), .val (.int la), .val (.int lb), .val (.int ((XT.ushr i2 (16 : Int32)) &&& (3 : Int32))), .val (.int c0), .val (.int c1), .val (.int (i0 ^^^ i1)), .val (.int d0), .unset, .unset, .unset, .unset, .unset, .unset] [(.int (i0 ^^^ i1))])) _
  refine own_st (fun _ k => XS.bipush X0.here hx rfl (hb hby at_63) k) ?_
  show own_Goes p e below (s₁.setTop (mkF m 65 #[.val (.int i0), .val (.int i1), .val (.int i2), .val (.int la), .val (.int lb), .val (.int ((XT.ushr i2 (16 : Int32)) &&& (3 : Int32))), .val (.int c0), .val (.int c1), .val (.int (i0 ^^^ i1)), .val (.int d0), .unset, .unset, .unset, .unset, .unset, .unset] [(.int (8 : Int32)), (.int (i0 ^^^ i1))])) _
  refine own_st (fun _ k => XT.iushr X0.here hx rfl (hb hby at_65) rfl k) ?_
  show own_Goes p e below (s₁.setTop (mkF m 66 #[.val (.int i0), .val (.int i1), .val (.int i2), .val (.int la), .val (.int lb), .val (.int ((XT.ushr i2 (16 : Int32)) &&& (3 : Int32))), .val (.int c0), .val (.int c1), .val (.int (i0 ^^^ i1)), .val (.int d0), .unset, .unset, .unset, .unset, .unset, .unset] [(.int (XT.ushr (i0 ^^^ i1) (8 : Int32)))])) _
  refine own_st (fun _ k => XS.sipush X0.here hx rfl (hb hby at_66) k) ?_
  show own_Goes p e below (s₁.setTop (mkF m 69 #[.val (.int i0), .val (.int i1), .val (.int i2), .val (.int la), .val (.int lb), .val (.int ((XT.ushr i2 (16 : Int32)) &&& (3 : Int32))), .val (.int c0), .val (.int c1), .val (.int (i0 ^^^ i1)), .val (.int d0), .unset, .unset, .unset, .unset, .unset, .unset] [(.int (255 : Int32)), (.int (XT.ushr (i0 ^^^ i1) (8 : Int32)))])) _
  refine own_st (fun _ k => XS.iand X0.here hx rfl (hb hby at_69) rfl k) ?_
  show own_Goes p e below (s₁.setTop (mkF m 70 #[.val (.int i0), .val (.int i1), .val (.int i2), .val (.int la), .val (.int lb), .val (.int ((XT.ushr i2 (16 : Int32)) &&& (3 : Int32))), .val (.int c0), .val (.int c1), .val (.int (i0 ^^^ i1)), .val (.int d0), .unset, .unset, .unset, .unset, .unset, .unset] [(.int ((XT.ushr (i0 ^^^ i1) (8 : Int32)) &&& (255 : Int32)))])) _
  refine own_st (fun _ k => XT.i2c X0.here hx rfl (hb hby at_70) rfl k) ?_
  show own_Goes p e below (s₁.setTop (mkF m 71 #[.val (.int i0), .val (.int i1), .val (.int i2), .val (.int la), .val (.int lb), .val (.int ((XT.ushr i2 (16 : Int32)) &&& (3 : Int32))), .val (.int c0), .val (.int c1), .val (.int (i0 ^^^ i1)), .val (.int d0), .unset, .unset, .unset, .unset, .unset, .unset] [(.int ((XT.ushr (i0 ^^^ i1) (8 : Int32)) &&& (255 : Int32)).toUInt32.toUInt16.toUInt32.toInt32)])) _
  obtain ⟨d1, e_d1, hd1⟩ := own_and8 (XT.ushr (i0 ^^^ i1) (8 : Int32))
  rw [e_d1]
  show own_Goes p e below (s₁.setTop (mkF m 71 #[.val (.int i0), .val (.int i1), .val (.int i2), .val (.int la), .val (.int lb), .val (.int ((XT.ushr i2 (16 : Int32)) &&& (3 : Int32))), .val (.int c0), .val (.int c1), .val (.int (i0 ^^^ i1)), .val (.int d0), .unset, .unset, .unset, .unset, .unset, .unset] [(.int d1)])) _
  refine own_st (fun _ k => XS.istore X0.here hx rfl (hb hby at_71) rfl (l' := #[.val (.int i0), .val (.int i1), .val (.int i2), .val (.int la), .val (.int lb), .val (.int ((XT.ushr i2 (16 : Int32)) &&& (3 : Int32))), .val (.int c0), .val (.int c1), .val (.int (i0 ^^^ i1)), .val (.int d0), .val (.int d1), .unset, .unset, .unset, .unset, .unset]) rfl k) ?_
  show own_Goes p e below (s₁.setTop (mkF m 73 #[.val (.int i0), .val (.int i1), .val (.int i2), .val (.int la), .val (.int lb), .val (.int ((XT.ushr i2 (16 : Int32)) &&& (3 : Int32))), .val (.int c0), .val (.int c1), .val (.int (i0 ^^^ i1)), .val (.int d0), .val (.int d1), .unset, .unset, .unset, .unset, .unset] [])) _
  refine own_st (fun _ k => XS.iloadN X0.here hx rfl (hb hby at_73) rfl k) ?_
  show own_Goes p e below (s₁.setTop (mkF m 74 #[.val (.int i0), .val (.int i1), .val (.int i2), .val (.int la), .val (.int lb), .val (.int ((XT.ushr i2 (16 : Int32)) &&& (3 : Int32))), .val (.int c0), .val (.int c1), .val (.int (i0 ^^^ i1)), .val (.int d0), .val (.int d1), .unset, .unset, .unset, .unset, .unset] [(.int la)])) _
  refine own_st (fun _ k => XS.iload X0.here hx rfl (hb hby at_74) rfl k) ?_
  show own_Goes p e below (s₁.setTop (mkF m 76 #[.val (.int i0), .val (.int i1), .val (.int i2), .val (.int la), .val (.int lb), .val (.int ((XT.ushr i2 (16 : Int32)) &&& (3 : Int32))), .val (.int c0), .val (.int c1), .val (.int (i0 ^^^ i1)), .val (.int d0), .val (.int d1), .unset, .unset, .unset, .unset, .unset] [(.int c0), (.int la)])) _
  refine own_st (fun _ k => XS.iload X0.here hx rfl (hb hby at_76) rfl k) ?_
  show own_Goes p e below (s₁.setTop (mkF m 78 #[.val (.int i0), .val (.int i1), .val (.int i2), .val (.int la), .val (.int lb), .val (.int ((XT.ushr i2 (16 : Int32)) &&& (3 : Int32))), .val (.int c0), .val (.int c1), .val (.int (i0 ^^^ i1)), .val (.int d0), .val (.int d1), .unset, .unset, .unset, .unset, .unset] [(.int c1), (.int c0), (.int la)])) _
  obtain ⟨_, T101, h101, L101, X101, e101, ⟨s1, b1, k1, n1, bs1, rfl, g_s1, z_s1, N101q, K101, T_s1, M1, hE101⟩, hS, hZ, hown, st101⟩ := own_callSS (argsL := [(.int la), (.int c0), (.int c1)]) (rest := []) (pc := 78) (W := 0) (Ls := #[.val (.int i0), .val (.int i1), .val (.int i2), .val (.int la), .val (.int lb), .val (.int ((XT.ushr i2 (16 : Int32)) &&& (3 : Int32))), .val (.int c0), .val (.int c1), .val (.int (i0 ^^^ i1)), .val (.int d0), .val (.int d1), .unset, .unset, .unset, .unset, .unset]) (S := [(.int c1), (.int c0), (.int la)]) X0 hx hZ hown hS (Nat.zero_le _) (fun _ w => own_E_warm (own_E_keep hP (Keep.refl h0 [])) w) (hw _ (List.mem_of_getElem? (i := 0) rfl)) (hw _ (List.mem_of_getElem? (i := 1) rfl)) (hw _ (List.mem_of_getElem? (i := 2) rfl)) (hw _ (List.mem_of_getElem? (i := 3) rfl)) (by decide) (rm5 l Z a0 hw [] la c0 c1 cs h0 n0 Z0 hla hc0 hc1 (S_cs.ext O0.2) hcs O0 hh0 hcw0) (by decide) (by decide) e0 (by rw [hml]; rfl) (lenOf pd__ICC_Ljava_lang_String_ rfl) rfl (Nat.le_of_eq rfl) (hb hby at_78) (by decide) (by decide)
  refine own_st st101 ?_
  have N101 := Fr.app N0 N101q
  show own_Goes p e below (T101.setTop (mkF m 81 #[.val (.int i0), .val (.int i1), .val (.int i2), .val (.int la), .val (.int lb), .val (.int ((XT.ushr i2 (16 : Int32)) &&& (3 : Int32))), .val (.int c0), .val (.int c1), .val (.int (i0 ^^^ i1)), .val (.int d0), .val (.int d1), .unset, .unset, .unset, .unset, .unset] [(.ref s1)])) _
  refine own_st (fun _ k => XS.astore X101.here hx rfl (hb hby at_81) rfl rfl (l' := #[.val (.int i0), .val (.int i1), .val (.int i2), .val (.int la), .val (.int lb), .val (.int ((XT.ushr i2 (16 : Int32)) &&& (3 : Int32))), .val (.int c0), .val (.int c1), .val (.int (i0 ^^^ i1)), .val (.int d0), .val (.int d1), .val (.ref s1), .unset, .unset, .unset, .unset]) rfl k) ?_
  show own_Goes p e below (T101.setTop (mkF m 83 #[.val (.int i0), .val (.int i1), .val (.int i2), .val (.int la), .val (.int lb), .val (.int ((XT.ushr i2 (16 : Int32)) &&& (3 : Int32))), .val (.int c0), .val (.int c1), .val (.int (i0 ^^^ i1)), .val (.int d0), .val (.int d1), .val (.ref s1), .unset, .unset, .unset, .unset] [])) _
  refine own_st (fun _ k => XS.iload X101.here hx rfl (hb hby at_83) rfl k) ?_
  show own_Goes p e below (T101.setTop (mkF m 85 #[.val (.int i0), .val (.int i1), .val (.int i2), .val (.int la), .val (.int lb), .val (.int ((XT.ushr i2 (16 : Int32)) &&& (3 : Int32))), .val (.int c0), .val (.int c1), .val (.int (i0 ^^^ i1)), .val (.int d0), .val (.int d1), .val (.ref s1), .unset, .unset, .unset, .unset] [(.int lb)])) _
  refine own_st (fun _ k => XS.iload X101.here hx rfl (hb hby at_85) rfl k) ?_
  show own_Goes p e below (T101.setTop (mkF m 87 #[.val (.int i0), .val (.int i1), .val (.int i2), .val (.int la), .val (.int lb), .val (.int ((XT.ushr i2 (16 : Int32)) &&& (3 : Int32))), .val (.int c0), .val (.int c1), .val (.int (i0 ^^^ i1)), .val (.int d0), .val (.int d1), .val (.ref s1), .unset, .unset, .unset, .unset] [(.int d0), (.int lb)])) _
  refine own_st (fun _ k => XS.iload X101.here hx rfl (hb hby at_87) rfl k) ?_
  show own_Goes p e below (T101.setTop (mkF m 89 #[.val (.int i0), .val (.int i1), .val (.int i2), .val (.int la), .val (.int lb), .val (.int ((XT.ushr i2 (16 : Int32)) &&& (3 : Int32))), .val (.int c0), .val (.int c1), .val (.int (i0 ^^^ i1)), .val (.int d0), .val (.int d1), .val (.ref s1), .unset, .unset, .unset, .unset] [(.int d1), (.int d0), (.int lb)])) _
  have f103 := (Nat.le_trans Z0 K101.1)
  have f104 := (O0.keep K101 all0)
  obtain ⟨_, T102, h102, L102, X102, e102, ⟨s2, b2, k2, n2, bs2, rfl, g_s2, z_s2, N102q, K102, T_s2, M2, hE102⟩, hS, hZ, hown, st102⟩ := own_callSS (argsL := [(.int lb), (.int d0), (.int d1)]) (rest := []) (pc := 89) (W := 0) (Ls := #[.val (.int i0), .val (.int i1), .val (.int i2), .val (.int la), .val (.int lb), .val (.int ((XT.ushr i2 (16 : Int32)) &&& (3 : Int32))), .val (.int c0), .val (.int c1), .val (.int (i0 ^^^ i1)), .val (.int d0), .val (.int d1), .val (.ref s1), .unset, .unset, .unset, .unset]) (S := [(.int d1), (.int d0), (.int lb)]) X101 hx hZ hown hS (Nat.le_refl h101.size) (fun _ w => own_E_warm hE101 w) (hw _ (List.mem_of_getElem? (i := 0) rfl)) (hw _ (List.mem_of_getElem? (i := 1) rfl)) (hw _ (List.mem_of_getElem? (i := 2) rfl)) (hw _ (List.mem_of_getElem? (i := 3) rfl)) (by decide) (rm5 l Z a0 hw [] lb d0 d1 cs h101 n0 f103 hlb hd0 hd1 (S_cs.ext f104.2) hcs f104 hh0 hcw0) (by decide) (by decide) e101 (by rw [hml]; rfl) (lenOf pd__ICC_Ljava_lang_String_ rfl) rfl (Nat.le_of_eq rfl) (hb hby at_89) (by decide) (by decide)
  refine own_st st102 ?_
  have N102 := Fr.app N101 N102q
  have ne1 : s1 ≠ s2 := fun q => Nat.lt_irrefl _ (Nat.lt_of_lt_of_le (q ▸ (T_s1).1.lt) z_s2)
  show own_Goes p e below (T102.setTop (mkF m 92 #[.val (.int i0), .val (.int i1), .val (.int i2), .val (.int la), .val (.int lb), .val (.int ((XT.ushr i2 (16 : Int32)) &&& (3 : Int32))), .val (.int c0), .val (.int c1), .val (.int (i0 ^^^ i1)), .val (.int d0), .val (.int d1), .val (.ref s1), .unset, .unset, .unset, .unset] [(.ref s2)])) _
  refine own_st (fun _ k => XS.astore X102.here hx rfl (hb hby at_92) rfl rfl (l' := #[.val (.int i0), .val (.int i1), .val (.int i2), .val (.int la), .val (.int lb), .val (.int ((XT.ushr i2 (16 : Int32)) &&& (3 : Int32))), .val (.int c0), .val (.int c1), .val (.int (i0 ^^^ i1)), .val (.int d0), .val (.int d1), .val (.ref s1), .val (.ref s2), .unset, .unset, .unset]) rfl k) ?_
  show own_Goes p e below (T102.setTop (mkF m 94 #[.val (.int i0), .val (.int i1), .val (.int i2), .val (.int la), .val (.int lb), .val (.int ((XT.ushr i2 (16 : Int32)) &&& (3 : Int32))), .val (.int c0), .val (.int c1), .val (.int (i0 ^^^ i1)), .val (.int d0), .val (.int d1), .val (.ref s1), .val (.ref s2), .unset, .unset, .unset] [])) _
  have f105 := (T_s1.keep K102 nin0 nin0)
  have f106 := (Nat.le_trans f103 K102.1)
  have f107 := (((Keep.refl h0 []).trans K101 all0).trans K102 all0)
  obtain ⟨T108, h108, X108, e108, E108, A108, D108, -, st108⟩ := newO X102 hx hZ hown (hw _ (List.mem_of_getElem? (i := 37) rfl)) (hw _ (List.mem_of_getElem? (i := 38) rfl)) (hw _ (List.mem_of_getElem? (i := 39) rfl)) e102 (g := (mkF m 94 #[.val (.int i0), .val (.int i1), .val (.int i2), .val (.int la), .val (.int lb), .val (.int ((XT.ushr i2 (16 : Int32)) &&& (3 : Int32))), .val (.int c0), .val (.int c1), .val (.int (i0 ^^^ i1)), .val (.int d0), .val (.int d1), .val (.ref s1), .val (.ref s2), .unset, .unset, .unset] [])) rfl (hb hby at_94) (by decide) (by decide)
  obtain ⟨b108, g108⟩ : ∃ z, z = h102.size := ⟨_, rfl⟩
  rw [← g108] at A108 D108 st108
  have g_b108 : n0 ≤ b108 := Nat.le_trans f106 (Nat.le_of_eq g108.symm)
  have sz_b108 : h0.size ≤ b108 := Nat.le_trans f107.1 (Nat.le_of_eq g108.symm)
  have ne_s1_b108 : s1 ≠ b108 := by rw [g108]; exact Nat.ne_of_lt (f105.1).lt
  have ne_b1_b108 : b1 ≠ b108 := by rw [g108]; exact Nat.ne_of_lt (f105.2.2.2).lt
  have ne_s2_b108 : s2 ≠ b108 := by rw [g108]; exact Nat.ne_of_lt (T_s2.1).lt
  have ne_b2_b108 : b2 ≠ b108 := by rw [g108]; exact Nat.ne_of_lt (T_s2.2.2.2).lt
  have F_value_b108 : Fld Z h108 b108 "com/example/charon/charon/ReturnUrl" "value" "Ljava/lang/String;" .null := D108 (Or.inr (hw _ (List.mem_of_getElem? (i := 50) rfl))) (ty := (.object "java/lang/String")) (by decide)
  refine own_st st108 ?_
  show own_Goes p e below (T108.setTop (mkF m 97 #[.val (.int i0), .val (.int i1), .val (.int i2), .val (.int la), .val (.int lb), .val (.int ((XT.ushr i2 (16 : Int32)) &&& (3 : Int32))), .val (.int c0), .val (.int c1), .val (.int (i0 ^^^ i1)), .val (.int d0), .val (.int d1), .val (.ref s1), .val (.ref s2), .unset, .unset, .unset] [(.ref b108)])) _
  refine own_st (fun _ k => XS.dup X108.here hx rfl (hb hby at_97) rfl rfl k) ?_
  show own_Goes p e below (T108.setTop (mkF m 98 #[.val (.int i0), .val (.int i1), .val (.int i2), .val (.int la), .val (.int lb), .val (.int ((XT.ushr i2 (16 : Int32)) &&& (3 : Int32))), .val (.int c0), .val (.int c1), .val (.int (i0 ^^^ i1)), .val (.int d0), .val (.int d1), .val (.ref s1), .val (.ref s2), .unset, .unset, .unset] [(.ref b108), (.ref b108)])) _
  refine own_st (fun _ k => XS.aload X108.here hx rfl (hb hby at_98) rfl rfl k) ?_
  show own_Goes p e below (T108.setTop (mkF m 100 #[.val (.int i0), .val (.int i1), .val (.int i2), .val (.int la), .val (.int lb), .val (.int ((XT.ushr i2 (16 : Int32)) &&& (3 : Int32))), .val (.int c0), .val (.int c1), .val (.int (i0 ^^^ i1)), .val (.int d0), .val (.int d1), .val (.ref s1), .val (.ref s2), .unset, .unset, .unset] [(.ref s1), (.ref b108), (.ref b108)])) _
  have f110 := (Nat.le_trans f106 E108.1)
  obtain ⟨_, T109, h109, L109, X109, e109, ⟨rfl, N109q, K109, F109⟩, st109⟩ := own_callI (argsL := [(.ref s1)]) (rest := [(.ref b108)]) (pc := 100) (W := 1) (Ls := #[.val (.int i0), .val (.int i1), .val (.int i2), .val (.int la), .val (.int lb), .val (.int ((XT.ushr i2 (16 : Int32)) &&& (3 : Int32))), .val (.int c0), .val (.int c1), .val (.int (i0 ^^^ i1)), .val (.int d0), .val (.int d1), .val (.ref s1), .val (.ref s2), .unset, .unset, .unset]) (S := [(.ref s1), (.ref b108), (.ref b108)]) X108 hx hZ hown rfl (hw _ (List.mem_of_getElem? (i := 40) rfl)) (hw _ (List.mem_of_getElem? (i := 41) rfl)) (hw _ (List.mem_of_getElem? (i := 39) rfl)) (hw _ (List.mem_of_getElem? (i := 42) rfl)) (by decide) (rm7 l Z a0 hw [] b108 s1 h108 n0 f110 F_value_b108 A108 g_b108) (by decide) (by decide) e108 (by rw [hml]; rfl) (lenOf pd__Ljava_lang_String__V rfl) rfl (Nat.le_of_eq rfl) (hb hby at_100) (by decide) (by decide)
  refine own_st st109 ?_
  have N109 := Fr.app N102 N109q
  show own_Goes p e below (T109.setTop (mkF m 103 #[.val (.int i0), .val (.int i1), .val (.int i2), .val (.int la), .val (.int lb), .val (.int ((XT.ushr i2 (16 : Int32)) &&& (3 : Int32))), .val (.int c0), .val (.int c1), .val (.int (i0 ^^^ i1)), .val (.int d0), .val (.int d1), .val (.ref s1), .val (.ref s2), .unset, .unset, .unset] [(.ref b108)])) _
  refine own_st (fun _ k => XS.astore X109.here hx rfl (hb hby at_103) rfl rfl (l' := #[.val (.int i0), .val (.int i1), .val (.int i2), .val (.int la), .val (.int lb), .val (.int ((XT.ushr i2 (16 : Int32)) &&& (3 : Int32))), .val (.int c0), .val (.int c1), .val (.int (i0 ^^^ i1)), .val (.int d0), .val (.int d1), .val (.ref s1), .val (.ref s2), .val (.ref b108), .unset, .unset]) rfl k) ?_
  show own_Goes p e below (T109.setTop (mkF m 105 #[.val (.int i0), .val (.int i1), .val (.int i2), .val (.int la), .val (.int lb), .val (.int ((XT.ushr i2 (16 : Int32)) &&& (3 : Int32))), .val (.int c0), .val (.int c1), .val (.int (i0 ^^^ i1)), .val (.int d0), .val (.int d1), .val (.ref s1), .val (.ref s2), .val (.ref b108), .unset, .unset] [])) _
  refine own_st (fun _ k => XS.iload X109.here hx rfl (hb hby at_105) rfl k) ?_
  show own_Goes p e below (T109.setTop (mkF m 107 #[.val (.int i0), .val (.int i1), .val (.int i2), .val (.int la), .val (.int lb), .val (.int ((XT.ushr i2 (16 : Int32)) &&& (3 : Int32))), .val (.int c0), .val (.int c1), .val (.int (i0 ^^^ i1)), .val (.int d0), .val (.int d1), .val (.ref s1), .val (.ref s2), .val (.ref b108), .unset, .unset] [(.int ((XT.ushr i2 (16 : Int32)) &&& (3 : Int32)))])) _
  refine own_st (fun _ k => XS.iconst X109.here hx rfl (hb hby at_107) k) ?_
  show own_Goes p e below (T109.setTop (mkF m 108 #[.val (.int i0), .val (.int i1), .val (.int i2), .val (.int la), .val (.int lb), .val (.int ((XT.ushr i2 (16 : Int32)) &&& (3 : Int32))), .val (.int c0), .val (.int c1), .val (.int (i0 ^^^ i1)), .val (.int d0), .val (.int d1), .val (.ref s1), .val (.ref s2), .val (.ref b108), .unset, .unset] [(.int (2 : Int32)), (.int ((XT.ushr i2 (16 : Int32)) &&& (3 : Int32)))])) _
  by_cases hc108_111 : ((XT.ushr i2 (16 : Int32)) &&& (3 : Int32)) = (2 : Int32)
  · refine own_st (fun _ k => XS.icmpNo X109.here hx rfl (hb hby at_108) rfl (teq hc108_111).2 k) ?_
    show own_Goes p e below (T109.setTop (mkF m 111 #[.val (.int i0), .val (.int i1), .val (.int i2), .val (.int la), .val (.int lb), .val (.int ((XT.ushr i2 (16 : Int32)) &&& (3 : Int32))), .val (.int c0), .val (.int c1), .val (.int (i0 ^^^ i1)), .val (.int d0), .val (.int d1), .val (.ref s1), .val (.ref s2), .val (.ref b108), .unset, .unset] [])) _
    refine own_st (fun _ k => XS.aload X109.here hx rfl (hb hby at_111) rfl rfl k) ?_
    show own_Goes p e below (T109.setTop (mkF m 113 #[.val (.int i0), .val (.int i1), .val (.int i2), .val (.int la), .val (.int lb), .val (.int ((XT.ushr i2 (16 : Int32)) &&& (3 : Int32))), .val (.int c0), .val (.int c1), .val (.int (i0 ^^^ i1)), .val (.int d0), .val (.int d1), .val (.ref s1), .val (.ref s2), .val (.ref b108), .unset, .unset] [(.ref s1)])) _
    refine own_st (fun _ k => XS.astore X109.here hx rfl (hb hby at_113) rfl rfl (l' := #[.val (.int i0), .val (.int i1), .val (.int i2), .val (.int la), .val (.int lb), .val (.int ((XT.ushr i2 (16 : Int32)) &&& (3 : Int32))), .val (.int c0), .val (.int c1), .val (.int (i0 ^^^ i1)), .val (.int d0), .val (.int d1), .val (.ref s1), .val (.ref s2), .val (.ref b108), .val (.ref s1), .unset]) rfl k) ?_
    show own_Goes p e below (T109.setTop (mkF m 115 #[.val (.int i0), .val (.int i1), .val (.int i2), .val (.int la), .val (.int lb), .val (.int ((XT.ushr i2 (16 : Int32)) &&& (3 : Int32))), .val (.int c0), .val (.int c1), .val (.int (i0 ^^^ i1)), .val (.int d0), .val (.int d1), .val (.ref s1), .val (.ref s2), .val (.ref b108), .val (.ref s1), .unset] [])) _
    refine own_st (fun _ k => XS.aload X109.here hx rfl (hb hby at_115) rfl rfl k) ?_
    show own_Goes p e below (T109.setTop (mkF m 117 #[.val (.int i0), .val (.int i1), .val (.int i2), .val (.int la), .val (.int lb), .val (.int ((XT.ushr i2 (16 : Int32)) &&& (3 : Int32))), .val (.int c0), .val (.int c1), .val (.int (i0 ^^^ i1)), .val (.int d0), .val (.int d1), .val (.ref s1), .val (.ref s2), .val (.ref b108), .val (.ref s1), .unset] [(.ref b108)])) _
    refine own_st (fun _ k => XS.aload X109.here hx rfl (hb hby at_117) rfl rfl k) ?_
    show own_Goes p e below (T109.setTop (mkF m 119 #[.val (.int i0), .val (.int i1), .val (.int i2), .val (.int la), .val (.int lb), .val (.int ((XT.ushr i2 (16 : Int32)) &&& (3 : Int32))), .val (.int c0), .val (.int c1), .val (.int (i0 ^^^ i1)), .val (.int d0), .val (.int d1), .val (.ref s1), .val (.ref s2), .val (.ref b108), .val (.ref s1), .unset] [(.ref s1), (.ref b108)])) _
    have f113 := (Nat.le_trans f110 K109.1)
    have f114 := ((f105.ext E108).keep K109 (ninS ne_s1_b108 nin0) (ninS ne_b1_b108 nin0))
    have f115 := (A108.keep K109)
    obtain ⟨_, T112, h112, L112, X112, e112, ⟨rfl, rfl, q112⟩, st112⟩ := own_callV (argsL := [(.ref s1)]) (rest := []) (pc := 119) (W := 0) (Ls := #[.val (.int i0), .val (.int i1), .val (.int i2), .val (.int la), .val (.int lb), .val (.int ((XT.ushr i2 (16 : Int32)) &&& (3 : Int32))), .val (.int c0), .val (.int c1), .val (.int (i0 ^^^ i1)), .val (.int d0), .val (.int d1), .val (.ref s1), .val (.ref s2), .val (.ref b108), .val (.ref s1), .unset]) (S := [(.ref s1), (.ref b108)]) X109 hx hZ hown (hw _ (List.mem_of_getElem? (i := 51) rfl)) (hw _ (List.mem_of_getElem? (i := 52) rfl)) (hw _ (List.mem_of_getElem? (i := 54) rfl)) (hw _ (List.mem_of_getElem? (i := 53) rfl)) (hw _ (List.mem_of_getElem? (i := 39) rfl)) (hw _ (List.mem_of_getElem? (i := 55) rfl)) (notFace_of_selects (args := #[]) (mvT hZ (hw _ (List.mem_of_getElem? (i := 54) rfl)))) (by decide) (rm11 l Z a0 hw [] b108 s1 h109 n0 f113 (f114).1) (by decide) (by decide) e109 f115 (by rw [hml]; rfl) (lenOf pd__Ljava_lang_Object__Z rfl) rfl (Nat.le_of_eq rfl) (hb hby at_119) (by decide) (by decide)
    refine own_st st112 ?_
    have N112 := Fr.app N109 (Fr.nil n0)
    show own_Goes p e below (T112.setTop (mkF m 122 #[.val (.int i0), .val (.int i1), .val (.int i2), .val (.int la), .val (.int lb), .val (.int ((XT.ushr i2 (16 : Int32)) &&& (3 : Int32))), .val (.int c0), .val (.int c1), .val (.int (i0 ^^^ i1)), .val (.int d0), .val (.int d1), .val (.ref s1), .val (.ref s2), .val (.ref b108), .val (.ref s1), .unset] [(.int (0 : Int32))])) _
    refine own_st (fun _ k => XS.ifNo X112.here hx rfl (hb hby at_122) rfl ((if0 _ _).trans (teq (by decide : (0 : Int32) = (0 : Int32))).2) k) ?_
    show own_Goes p e below (T112.setTop (mkF m 125 #[.val (.int i0), .val (.int i1), .val (.int i2), .val (.int la), .val (.int lb), .val (.int ((XT.ushr i2 (16 : Int32)) &&& (3 : Int32))), .val (.int c0), .val (.int c1), .val (.int (i0 ^^^ i1)), .val (.int d0), .val (.int d1), .val (.ref s1), .val (.ref s2), .val (.ref b108), .val (.ref s1), .unset] [])) _
    refine own_st (fun _ k => XS.iconst X112.here hx rfl (hb hby at_125) k) ?_
    show own_Goes p e below (T112.setTop (mkF m 126 #[.val (.int i0), .val (.int i1), .val (.int i2), .val (.int la), .val (.int lb), .val (.int ((XT.ushr i2 (16 : Int32)) &&& (3 : Int32))), .val (.int c0), .val (.int c1), .val (.int (i0 ^^^ i1)), .val (.int d0), .val (.int d1), .val (.ref s1), .val (.ref s2), .val (.ref b108), .val (.ref s1), .unset] [(.int (1 : Int32))])) _
    refine own_st (fun _ k => XS.goto X112.here hx rfl (pc0 := 126) (pc' := 130) rfl (hb hby at_126) (by decide) (by decide) k) ?_
    show own_Goes p e below (T112.setTop (mkF m 130 #[.val (.int i0), .val (.int i1), .val (.int i2), .val (.int la), .val (.int lb), .val (.int ((XT.ushr i2 (16 : Int32)) &&& (3 : Int32))), .val (.int c0), .val (.int c1), .val (.int (i0 ^^^ i1)), .val (.int d0), .val (.int d1), .val (.ref s1), .val (.ref s2), .val (.ref b108), .val (.ref s1), .unset] [(.int (1 : Int32))])) _
    have f116 := (Nat.le_trans (Nat.le_trans (Nat.le_refl h102.size) E108.1) K109.1)
    exact own_retSN (t := .boolean) (z' := (1 : Int32)) X112 hS f116 hx hlk hret (by simp) (by decide) (hb hby at_130) (by decide) (by decide) (e112.trans q112) ⟨rfl, N112⟩
  · refine own_st (fun _ k => XS.icmpYes X109.here hx rfl (pc0 := 108) (pc' := 131) rfl (hb hby at_108) rfl (feq hc108_111).2 (by decide) (by decide) k) ?_
    show own_Goes p e below (T109.setTop (mkF m 131 #[.val (.int i0), .val (.int i1), .val (.int i2), .val (.int la), .val (.int lb), .val (.int ((XT.ushr i2 (16 : Int32)) &&& (3 : Int32))), .val (.int c0), .val (.int c1), .val (.int (i0 ^^^ i1)), .val (.int d0), .val (.int d1), .val (.ref s1), .val (.ref s2), .val (.ref b108), .unset, .unset] [])) _
    refine own_st (fun _ k => XS.iload X109.here hx rfl (hb hby at_131) rfl k) ?_
    show own_Goes p e below (T109.setTop (mkF m 133 #[.val (.int i0), .val (.int i1), .val (.int i2), .val (.int la), .val (.int lb), .val (.int ((XT.ushr i2 (16 : Int32)) &&& (3 : Int32))), .val (.int c0), .val (.int c1), .val (.int (i0 ^^^ i1)), .val (.int d0), .val (.int d1), .val (.ref s1), .val (.ref s2), .val (.ref b108), .unset, .unset] [(.int ((XT.ushr i2 (16 : Int32)) &&& (3 : Int32)))])) _
    refine own_st (fun _ k => XS.iconst X109.here hx rfl (hb hby at_133) k) ?_
    show own_Goes p e below (T109.setTop (mkF m 134 #[.val (.int i0), .val (.int i1), .val (.int i2), .val (.int la), .val (.int lb), .val (.int ((XT.ushr i2 (16 : Int32)) &&& (3 : Int32))), .val (.int c0), .val (.int c1), .val (.int (i0 ^^^ i1)), .val (.int d0), .val (.int d1), .val (.ref s1), .val (.ref s2), .val (.ref b108), .unset, .unset] [(.int (3 : Int32)), (.int ((XT.ushr i2 (16 : Int32)) &&& (3 : Int32)))])) _
    by_cases hc134_117 : ((XT.ushr i2 (16 : Int32)) &&& (3 : Int32)) = (3 : Int32)
    · refine own_st (fun _ k => XS.icmpNo X109.here hx rfl (hb hby at_134) rfl (teq hc134_117).2 k) ?_
      show own_Goes p e below (T109.setTop (mkF m 137 #[.val (.int i0), .val (.int i1), .val (.int i2), .val (.int la), .val (.int lb), .val (.int ((XT.ushr i2 (16 : Int32)) &&& (3 : Int32))), .val (.int c0), .val (.int c1), .val (.int (i0 ^^^ i1)), .val (.int d0), .val (.int d1), .val (.ref s1), .val (.ref s2), .val (.ref b108), .unset, .unset] [])) _
      refine own_st (fun _ k => XS.aload X109.here hx rfl (hb hby at_137) rfl rfl k) ?_
      show own_Goes p e below (T109.setTop (mkF m 139 #[.val (.int i0), .val (.int i1), .val (.int i2), .val (.int la), .val (.int lb), .val (.int ((XT.ushr i2 (16 : Int32)) &&& (3 : Int32))), .val (.int c0), .val (.int c1), .val (.int (i0 ^^^ i1)), .val (.int d0), .val (.int d1), .val (.ref s1), .val (.ref s2), .val (.ref b108), .unset, .unset] [(.ref b108)])) _
      refine own_st (fun _ k => XS.aconstNull X109.here hx rfl (hb hby at_139) k) ?_
      show own_Goes p e below (T109.setTop (mkF m 140 #[.val (.int i0), .val (.int i1), .val (.int i2), .val (.int la), .val (.int lb), .val (.int ((XT.ushr i2 (16 : Int32)) &&& (3 : Int32))), .val (.int c0), .val (.int c1), .val (.int (i0 ^^^ i1)), .val (.int d0), .val (.int d1), .val (.ref s1), .val (.ref s2), .val (.ref b108), .unset, .unset] [.null, (.ref b108)])) _
      have f119 := (Nat.le_trans f110 K109.1)
      have f120 := (A108.keep K109)
      obtain ⟨_, T118, h118, L118, X118, e118, ⟨rfl, rfl, q118⟩, st118⟩ := own_callV (argsL := [.null]) (rest := []) (pc := 140) (W := 0) (Ls := #[.val (.int i0), .val (.int i1), .val (.int i2), .val (.int la), .val (.int lb), .val (.int ((XT.ushr i2 (16 : Int32)) &&& (3 : Int32))), .val (.int c0), .val (.int c1), .val (.int (i0 ^^^ i1)), .val (.int d0), .val (.int d1), .val (.ref s1), .val (.ref s2), .val (.ref b108), .unset, .unset]) (S := [.null, (.ref b108)]) X109 hx hZ hown (hw _ (List.mem_of_getElem? (i := 51) rfl)) (hw _ (List.mem_of_getElem? (i := 52) rfl)) (hw _ (List.mem_of_getElem? (i := 54) rfl)) (hw _ (List.mem_of_getElem? (i := 53) rfl)) (hw _ (List.mem_of_getElem? (i := 39) rfl)) (hw _ (List.mem_of_getElem? (i := 55) rfl)) (notFace_of_selects (args := #[]) (mvT hZ (hw _ (List.mem_of_getElem? (i := 54) rfl)))) (by decide) (rm12 l Z a0 hw [] b108 h109 n0 f119) (by decide) (by decide) e109 f120 (by rw [hml]; rfl) (lenOf pd__Ljava_lang_Object__Z rfl) rfl (Nat.le_of_eq rfl) (hb hby at_140) (by decide) (by decide)
      refine own_st st118 ?_
      have N118 := Fr.app N109 (Fr.nil n0)
      show own_Goes p e below (T118.setTop (mkF m 143 #[.val (.int i0), .val (.int i1), .val (.int i2), .val (.int la), .val (.int lb), .val (.int ((XT.ushr i2 (16 : Int32)) &&& (3 : Int32))), .val (.int c0), .val (.int c1), .val (.int (i0 ^^^ i1)), .val (.int d0), .val (.int d1), .val (.ref s1), .val (.ref s2), .val (.ref b108), .unset, .unset] [(.int (0 : Int32))])) _
      refine own_st (fun _ k => XS.ifNo X118.here hx rfl (hb hby at_143) rfl ((if0 _ _).trans (teq (by decide : (0 : Int32) = (0 : Int32))).2) k) ?_
      show own_Goes p e below (T118.setTop (mkF m 146 #[.val (.int i0), .val (.int i1), .val (.int i2), .val (.int la), .val (.int lb), .val (.int ((XT.ushr i2 (16 : Int32)) &&& (3 : Int32))), .val (.int c0), .val (.int c1), .val (.int (i0 ^^^ i1)), .val (.int d0), .val (.int d1), .val (.ref s1), .val (.ref s2), .val (.ref b108), .unset, .unset] [])) _
      refine own_st (fun _ k => XS.iconst X118.here hx rfl (hb hby at_146) k) ?_
      show own_Goes p e below (T118.setTop (mkF m 147 #[.val (.int i0), .val (.int i1), .val (.int i2), .val (.int la), .val (.int lb), .val (.int ((XT.ushr i2 (16 : Int32)) &&& (3 : Int32))), .val (.int c0), .val (.int c1), .val (.int (i0 ^^^ i1)), .val (.int d0), .val (.int d1), .val (.ref s1), .val (.ref s2), .val (.ref b108), .unset, .unset] [(.int (1 : Int32))])) _
      refine own_st (fun _ k => XS.goto X118.here hx rfl (pc0 := 147) (pc' := 151) rfl (hb hby at_147) (by decide) (by decide) k) ?_
      show own_Goes p e below (T118.setTop (mkF m 151 #[.val (.int i0), .val (.int i1), .val (.int i2), .val (.int la), .val (.int lb), .val (.int ((XT.ushr i2 (16 : Int32)) &&& (3 : Int32))), .val (.int c0), .val (.int c1), .val (.int (i0 ^^^ i1)), .val (.int d0), .val (.int d1), .val (.ref s1), .val (.ref s2), .val (.ref b108), .unset, .unset] [(.int (1 : Int32))])) _
      have f121 := (Nat.le_trans (Nat.le_trans (Nat.le_refl h102.size) E108.1) K109.1)
      exact own_retSN (t := .boolean) (z' := (1 : Int32)) X118 hS f121 hx hlk hret (by simp) (by decide) (hb hby at_151) (by decide) (by decide) (e118.trans q118) ⟨rfl, N118⟩
    · refine own_st (fun _ k => XS.icmpYes X109.here hx rfl (pc0 := 134) (pc' := 152) rfl (hb hby at_134) rfl (feq hc134_117).2 (by decide) (by decide) k) ?_
      show own_Goes p e below (T109.setTop (mkF m 152 #[.val (.int i0), .val (.int i1), .val (.int i2), .val (.int la), .val (.int lb), .val (.int ((XT.ushr i2 (16 : Int32)) &&& (3 : Int32))), .val (.int c0), .val (.int c1), .val (.int (i0 ^^^ i1)), .val (.int d0), .val (.int d1), .val (.ref s1), .val (.ref s2), .val (.ref b108), .unset, .unset] [])) _
      have f122 := (A108.keep K109)
      have f123 := ((f105.ext E108).keep K109 (ninS ne_s1_b108 nin0) (ninS ne_b1_b108 nin0))
      have f124 := ((T_s2.ext E108).keep K109 (ninS ne_s2_b108 nin0) (ninS ne_b2_b108 nin0))
      have f125 := (Nat.le_trans f110 K109.1)
      have f126 := ((f107.ext E108).trans K109 (allS (Or.inr sz_b108) all0))
      obtain ⟨T127, h127, X127, e127, E127, A127, D127, -, st127⟩ := newO X109 hx hZ hown (hw _ (List.mem_of_getElem? (i := 37) rfl)) (hw _ (List.mem_of_getElem? (i := 38) rfl)) (hw _ (List.mem_of_getElem? (i := 39) rfl)) e109 (g := (mkF m 152 #[.val (.int i0), .val (.int i1), .val (.int i2), .val (.int la), .val (.int lb), .val (.int ((XT.ushr i2 (16 : Int32)) &&& (3 : Int32))), .val (.int c0), .val (.int c1), .val (.int (i0 ^^^ i1)), .val (.int d0), .val (.int d1), .val (.ref s1), .val (.ref s2), .val (.ref b108), .unset, .unset] [])) rfl (hb hby at_152) (by decide) (by decide)
      obtain ⟨b127, g127⟩ : ∃ z, z = h109.size := ⟨_, rfl⟩
      rw [← g127] at A127 D127 st127
      have g_b127 : n0 ≤ b127 := Nat.le_trans f125 (Nat.le_of_eq g127.symm)
      have sz_b127 : h0.size ≤ b127 := Nat.le_trans f126.1 (Nat.le_of_eq g127.symm)
      have ne_b108_b127 : b108 ≠ b127 := by rw [g127]; exact Nat.ne_of_lt (f122).lt
      have ne_s1_b127 : s1 ≠ b127 := by rw [g127]; exact Nat.ne_of_lt (f123.1).lt
      have ne_b1_b127 : b1 ≠ b127 := by rw [g127]; exact Nat.ne_of_lt (f123.2.2.2).lt
      have ne_s2_b127 : s2 ≠ b127 := by rw [g127]; exact Nat.ne_of_lt (f124.1).lt
      have ne_b2_b127 : b2 ≠ b127 := by rw [g127]; exact Nat.ne_of_lt (f124.2.2.2).lt
      have F_value_b127 : Fld Z h127 b127 "com/example/charon/charon/ReturnUrl" "value" "Ljava/lang/String;" .null := D127 (Or.inr (hw _ (List.mem_of_getElem? (i := 50) rfl))) (ty := (.object "java/lang/String")) (by decide)
      refine own_st st127 ?_
      show own_Goes p e below (T127.setTop (mkF m 155 #[.val (.int i0), .val (.int i1), .val (.int i2), .val (.int la), .val (.int lb), .val (.int ((XT.ushr i2 (16 : Int32)) &&& (3 : Int32))), .val (.int c0), .val (.int c1), .val (.int (i0 ^^^ i1)), .val (.int d0), .val (.int d1), .val (.ref s1), .val (.ref s2), .val (.ref b108), .unset, .unset] [(.ref b127)])) _
      refine own_st (fun _ k => XS.dup X127.here hx rfl (hb hby at_155) rfl rfl k) ?_
      show own_Goes p e below (T127.setTop (mkF m 156 #[.val (.int i0), .val (.int i1), .val (.int i2), .val (.int la), .val (.int lb), .val (.int ((XT.ushr i2 (16 : Int32)) &&& (3 : Int32))), .val (.int c0), .val (.int c1), .val (.int (i0 ^^^ i1)), .val (.int d0), .val (.int d1), .val (.ref s1), .val (.ref s2), .val (.ref b108), .unset, .unset] [(.ref b127), (.ref b127)])) _
      refine own_st (fun _ k => XS.aload X127.here hx rfl (hb hby at_156) rfl rfl k) ?_
      show own_Goes p e below (T127.setTop (mkF m 158 #[.val (.int i0), .val (.int i1), .val (.int i2), .val (.int la), .val (.int lb), .val (.int ((XT.ushr i2 (16 : Int32)) &&& (3 : Int32))), .val (.int c0), .val (.int c1), .val (.int (i0 ^^^ i1)), .val (.int d0), .val (.int d1), .val (.ref s1), .val (.ref s2), .val (.ref b108), .unset, .unset] [(.ref s2), (.ref b127), (.ref b127)])) _
      have f129 := (Nat.le_trans f125 E127.1)
      obtain ⟨_, T128, h128, L128, X128, e128, ⟨rfl, N128q, K128, F128⟩, st128⟩ := own_callI (argsL := [(.ref s2)]) (rest := [(.ref b127)]) (pc := 158) (W := 1) (Ls := #[.val (.int i0), .val (.int i1), .val (.int i2), .val (.int la), .val (.int lb), .val (.int ((XT.ushr i2 (16 : Int32)) &&& (3 : Int32))), .val (.int c0), .val (.int c1), .val (.int (i0 ^^^ i1)), .val (.int d0), .val (.int d1), .val (.ref s1), .val (.ref s2), .val (.ref b108), .unset, .unset]) (S := [(.ref s2), (.ref b127), (.ref b127)]) X127 hx hZ hown rfl (hw _ (List.mem_of_getElem? (i := 40) rfl)) (hw _ (List.mem_of_getElem? (i := 41) rfl)) (hw _ (List.mem_of_getElem? (i := 39) rfl)) (hw _ (List.mem_of_getElem? (i := 42) rfl)) (by decide) (rm7 l Z a0 hw [] b127 s2 h127 n0 f129 F_value_b127 A127 g_b127) (by decide) (by decide) e127 (by rw [hml]; rfl) (lenOf pd__Ljava_lang_String__V rfl) rfl (Nat.le_of_eq rfl) (hb hby at_158) (by decide) (by decide)
      refine own_st st128 ?_
      have N128 := Fr.app N109 N128q
      show own_Goes p e below (T128.setTop (mkF m 161 #[.val (.int i0), .val (.int i1), .val (.int i2), .val (.int la), .val (.int lb), .val (.int ((XT.ushr i2 (16 : Int32)) &&& (3 : Int32))), .val (.int c0), .val (.int c1), .val (.int (i0 ^^^ i1)), .val (.int d0), .val (.int d1), .val (.ref s1), .val (.ref s2), .val (.ref b108), .unset, .unset] [(.ref b127)])) _
      refine own_st (fun _ k => XS.astore X128.here hx rfl (hb hby at_161) rfl rfl (l' := #[.val (.int i0), .val (.int i1), .val (.int i2), .val (.int la), .val (.int lb), .val (.int ((XT.ushr i2 (16 : Int32)) &&& (3 : Int32))), .val (.int c0), .val (.int c1), .val (.int (i0 ^^^ i1)), .val (.int d0), .val (.int d1), .val (.ref s1), .val (.ref s2), .val (.ref b108), .val (.ref b127), .unset]) rfl k) ?_
      show own_Goes p e below (T128.setTop (mkF m 163 #[.val (.int i0), .val (.int i1), .val (.int i2), .val (.int la), .val (.int lb), .val (.int ((XT.ushr i2 (16 : Int32)) &&& (3 : Int32))), .val (.int c0), .val (.int c1), .val (.int (i0 ^^^ i1)), .val (.int d0), .val (.int d1), .val (.ref s1), .val (.ref s2), .val (.ref b108), .val (.ref b127), .unset] [])) _
      refine own_st (fun _ k => XS.iloadN X128.here hx rfl (hb hby at_163) rfl k) ?_
      show own_Goes p e below (T128.setTop (mkF m 164 #[.val (.int i0), .val (.int i1), .val (.int i2), .val (.int la), .val (.int lb), .val (.int ((XT.ushr i2 (16 : Int32)) &&& (3 : Int32))), .val (.int c0), .val (.int c1), .val (.int (i0 ^^^ i1)), .val (.int d0), .val (.int d1), .val (.ref s1), .val (.ref s2), .val (.ref b108), .val (.ref b127), .unset] [(.int la)])) _
      refine own_st (fun _ k => XS.iload X128.here hx rfl (hb hby at_164) rfl k) ?_
      show own_Goes p e below (T128.setTop (mkF m 166 #[.val (.int i0), .val (.int i1), .val (.int i2), .val (.int la), .val (.int lb), .val (.int ((XT.ushr i2 (16 : Int32)) &&& (3 : Int32))), .val (.int c0), .val (.int c1), .val (.int (i0 ^^^ i1)), .val (.int d0), .val (.int d1), .val (.ref s1), .val (.ref s2), .val (.ref b108), .val (.ref b127), .unset] [(.int lb), (.int la)])) _
      refine own_join (K := fun G => own_Goes p e below (T128.setTop (mkF m 198 #[.val (.int i0), .val (.int i1), .val (.int i2), .val (.int la), .val (.int lb), .val (.int ((XT.ushr i2 (16 : Int32)) &&& (3 : Int32))), .val (.int c0), .val (.int c1), .val (.int (i0 ^^^ i1)), .val (.int d0), .val (.int d1), .val (.ref s1), .val (.ref s2), .val (.ref b108), .val (.ref b127), .unset] [(.int (own_eqr la c0 c1 lb d0 d1))])) G) ?_ ?_
      · show own_Goes p e below (T128.setTop (mkF m 198 #[.val (.int i0), .val (.int i1), .val (.int i2), .val (.int la), .val (.int lb), .val (.int ((XT.ushr i2 (16 : Int32)) &&& (3 : Int32))), .val (.int c0), .val (.int c1), .val (.int (i0 ^^^ i1)), .val (.int d0), .val (.int d1), .val (.ref s1), .val (.ref s2), .val (.ref b108), .val (.ref b127), .unset] [(.int (own_eqr la c0 c1 lb d0 d1))])) _
        refine own_st (fun _ k => XS.istore X128.here hx rfl (hb hby at_198) rfl (l' := #[.val (.int i0), .val (.int i1), .val (.int i2), .val (.int la), .val (.int lb), .val (.int ((XT.ushr i2 (16 : Int32)) &&& (3 : Int32))), .val (.int c0), .val (.int c1), .val (.int (i0 ^^^ i1)), .val (.int d0), .val (.int d1), .val (.ref s1), .val (.ref s2), .val (.ref b108), .val (.ref b127), .val (.int (own_eqr la c0 c1 lb d0 d1))]) rfl k) ?_
        show own_Goes p e below (T128.setTop (mkF m 200 #[.val (.int i0), .val (.int i1), .val (.int i2), .val (.int la), .val (.int lb), .val (.int ((XT.ushr i2 (16 : Int32)) &&& (3 : Int32))), .val (.int c0), .val (.int c1), .val (.int (i0 ^^^ i1)), .val (.int d0), .val (.int d1), .val (.ref s1), .val (.ref s2), .val (.ref b108), .val (.ref b127), .val (.int (own_eqr la c0 c1 lb d0 d1))] [])) _
        refine own_st (fun _ k => XS.iload X128.here hx rfl (hb hby at_200) rfl k) ?_
        show own_Goes p e below (T128.setTop (mkF m 202 #[.val (.int i0), .val (.int i1), .val (.int i2), .val (.int la), .val (.int lb), .val (.int ((XT.ushr i2 (16 : Int32)) &&& (3 : Int32))), .val (.int c0), .val (.int c1), .val (.int (i0 ^^^ i1)), .val (.int d0), .val (.int d1), .val (.ref s1), .val (.ref s2), .val (.ref b108), .val (.ref b127), .val (.int (own_eqr la c0 c1 lb d0 d1))] [(.int ((XT.ushr i2 (16 : Int32)) &&& (3 : Int32)))])) _
        refine own_st (fun _ k => XS.iconst X128.here hx rfl (hb hby at_202) k) ?_
        show own_Goes p e below (T128.setTop (mkF m 203 #[.val (.int i0), .val (.int i1), .val (.int i2), .val (.int la), .val (.int lb), .val (.int ((XT.ushr i2 (16 : Int32)) &&& (3 : Int32))), .val (.int c0), .val (.int c1), .val (.int (i0 ^^^ i1)), .val (.int d0), .val (.int d1), .val (.ref s1), .val (.ref s2), .val (.ref b108), .val (.ref b127), .val (.int (own_eqr la c0 c1 lb d0 d1))] [(.int (1 : Int32)), (.int ((XT.ushr i2 (16 : Int32)) &&& (3 : Int32)))])) _
        by_cases hc203_130 : ((XT.ushr i2 (16 : Int32)) &&& (3 : Int32)) = (1 : Int32)
        · refine own_st (fun _ k => XS.icmpNo X128.here hx rfl (hb hby at_203) rfl (teq hc203_130).2 k) ?_
          show own_Goes p e below (T128.setTop (mkF m 206 #[.val (.int i0), .val (.int i1), .val (.int i2), .val (.int la), .val (.int lb), .val (.int ((XT.ushr i2 (16 : Int32)) &&& (3 : Int32))), .val (.int c0), .val (.int c1), .val (.int (i0 ^^^ i1)), .val (.int d0), .val (.int d1), .val (.ref s1), .val (.ref s2), .val (.ref b108), .val (.ref b127), .val (.int (own_eqr la c0 c1 lb d0 d1))] [])) _
          refine own_st (fun _ k => XS.aload X128.here hx rfl (hb hby at_206) rfl rfl k) ?_
          show own_Goes p e below (T128.setTop (mkF m 208 #[.val (.int i0), .val (.int i1), .val (.int i2), .val (.int la), .val (.int lb), .val (.int ((XT.ushr i2 (16 : Int32)) &&& (3 : Int32))), .val (.int c0), .val (.int c1), .val (.int (i0 ^^^ i1)), .val (.int d0), .val (.int d1), .val (.ref s1), .val (.ref s2), .val (.ref b108), .val (.ref b127), .val (.int (own_eqr la c0 c1 lb d0 d1))] [(.ref b127)])) _
          refine own_st (fun _ k => XS.aload X128.here hx rfl (hb hby at_208) rfl rfl k) ?_
          show own_Goes p e below (T128.setTop (mkF m 210 #[.val (.int i0), .val (.int i1), .val (.int i2), .val (.int la), .val (.int lb), .val (.int ((XT.ushr i2 (16 : Int32)) &&& (3 : Int32))), .val (.int c0), .val (.int c1), .val (.int (i0 ^^^ i1)), .val (.int d0), .val (.int d1), .val (.ref s1), .val (.ref s2), .val (.ref b108), .val (.ref b127), .val (.int (own_eqr la c0 c1 lb d0 d1))] [(.ref b108), (.ref b127)])) _
          have f132 := (Nat.le_trans f129 K128.1)
          have f133 := ((F109.ext E127).keep K128 (ninS ne_b108_b127 nin0))
          have f134 := (A127.keep K128)
          have f135 := ((f122.ext E127).keep K128)
          have f136 := ((f123.ext E127).keep K128 (ninS ne_s1_b127 nin0) (ninS ne_b1_b127 nin0))
          have f137 := ((f124.ext E127).keep K128 (ninS ne_s2_b127 nin0) (ninS ne_b2_b127 nin0))
          have f138 := (((((f104.keep K102 all0).ext E108).keep K109 (allS g_b108 all0)).ext E127).keep K128 (allS g_b127 all0))
          obtain ⟨_, T131, h131, L131, X131, e131, ⟨rfl, rfl, q131⟩, st131⟩ := own_callV (argsL := [(.ref b108)]) (rest := []) (pc := 210) (W := 0) (Ls := #[.val (.int i0), .val (.int i1), .val (.int i2), .val (.int la), .val (.int lb), .val (.int ((XT.ushr i2 (16 : Int32)) &&& (3 : Int32))), .val (.int c0), .val (.int c1), .val (.int (i0 ^^^ i1)), .val (.int d0), .val (.int d1), .val (.ref s1), .val (.ref s2), .val (.ref b108), .val (.ref b127), .val (.int (own_eqr la c0 c1 lb d0 d1))]) (S := [(.ref b108), (.ref b127)]) X128 hx hZ hown (hw _ (List.mem_of_getElem? (i := 51) rfl)) (hw _ (List.mem_of_getElem? (i := 52) rfl)) (hw _ (List.mem_of_getElem? (i := 54) rfl)) (hw _ (List.mem_of_getElem? (i := 53) rfl)) (hw _ (List.mem_of_getElem? (i := 39) rfl)) (hw _ (List.mem_of_getElem? (i := 55) rfl)) (notFace_of_selects (args := #[]) (mvT hZ (hw _ (List.mem_of_getElem? (i := 54) rfl)))) (by decide) (rm10 l Z a0 hw [] b127 b108 s1 s2 b1 b2 k1 k2 la c0 c1 lb d0 d1 n1 n2 bs1 bs2 cs h128 n0 f132 F128 f133 f134 f135 f136 f137 ne1 M1 M2 hc0 hc1 hd0 hd1 (S_cs.ext f138.2) hcs) (by decide) (by decide) e128 f134 (by rw [hml]; rfl) (lenOf pd__Ljava_lang_Object__Z rfl) rfl (Nat.le_of_eq rfl) (hb hby at_210) (by decide) (by decide)
          refine own_st st131 ?_
          have N131 := Fr.app N128 (Fr.nil n0)
          show own_Goes p e below (T131.setTop (mkF m 213 #[.val (.int i0), .val (.int i1), .val (.int i2), .val (.int la), .val (.int lb), .val (.int ((XT.ushr i2 (16 : Int32)) &&& (3 : Int32))), .val (.int c0), .val (.int c1), .val (.int (i0 ^^^ i1)), .val (.int d0), .val (.int d1), .val (.ref s1), .val (.ref s2), .val (.ref b108), .val (.ref b127), .val (.int (own_eqr la c0 c1 lb d0 d1))] [(.int (own_eqr la c0 c1 lb d0 d1))])) _
          refine own_st (fun _ k => XS.iload X131.here hx rfl (hb hby at_213) rfl k) ?_
          show own_Goes p e below (T131.setTop (mkF m 215 #[.val (.int i0), .val (.int i1), .val (.int i2), .val (.int la), .val (.int lb), .val (.int ((XT.ushr i2 (16 : Int32)) &&& (3 : Int32))), .val (.int c0), .val (.int c1), .val (.int (i0 ^^^ i1)), .val (.int d0), .val (.int d1), .val (.ref s1), .val (.ref s2), .val (.ref b108), .val (.ref b127), .val (.int (own_eqr la c0 c1 lb d0 d1))] [(.int (own_eqr la c0 c1 lb d0 d1)), (.int (own_eqr la c0 c1 lb d0 d1))])) _
          refine own_st (fun _ k => XS.icmpNo X131.here hx rfl (hb hby at_215) rfl (teq (by first | rfl | exact own_eqr_comm _ _ _ _ _ _ : (own_eqr la c0 c1 lb d0 d1) = (own_eqr la c0 c1 lb d0 d1))).2 k) ?_
          show own_Goes p e below (T131.setTop (mkF m 218 #[.val (.int i0), .val (.int i1), .val (.int i2), .val (.int la), .val (.int lb), .val (.int ((XT.ushr i2 (16 : Int32)) &&& (3 : Int32))), .val (.int c0), .val (.int c1), .val (.int (i0 ^^^ i1)), .val (.int d0), .val (.int d1), .val (.ref s1), .val (.ref s2), .val (.ref b108), .val (.ref b127), .val (.int (own_eqr la c0 c1 lb d0 d1))] [])) _
          refine own_st (fun _ k => XS.iconst X131.here hx rfl (hb hby at_218) k) ?_
          show own_Goes p e below (T131.setTop (mkF m 219 #[.val (.int i0), .val (.int i1), .val (.int i2), .val (.int la), .val (.int lb), .val (.int ((XT.ushr i2 (16 : Int32)) &&& (3 : Int32))), .val (.int c0), .val (.int c1), .val (.int (i0 ^^^ i1)), .val (.int d0), .val (.int d1), .val (.ref s1), .val (.ref s2), .val (.ref b108), .val (.ref b127), .val (.int (own_eqr la c0 c1 lb d0 d1))] [(.int (1 : Int32))])) _
          refine own_st (fun _ k => XS.goto X131.here hx rfl (pc0 := 219) (pc' := 223) rfl (hb hby at_219) (by decide) (by decide) k) ?_
          show own_Goes p e below (T131.setTop (mkF m 223 #[.val (.int i0), .val (.int i1), .val (.int i2), .val (.int la), .val (.int lb), .val (.int ((XT.ushr i2 (16 : Int32)) &&& (3 : Int32))), .val (.int c0), .val (.int c1), .val (.int (i0 ^^^ i1)), .val (.int d0), .val (.int d1), .val (.ref s1), .val (.ref s2), .val (.ref b108), .val (.ref b127), .val (.int (own_eqr la c0 c1 lb d0 d1))] [(.int (1 : Int32))])) _
          have f139 := (Nat.le_trans (Nat.le_trans (Nat.le_trans (Nat.le_trans (Nat.le_refl h102.size) E108.1) K109.1) E127.1) K128.1)
          exact own_retSN (t := .boolean) (z' := (1 : Int32)) X131 hS f139 hx hlk hret (by simp) (by decide) (hb hby at_223) (by decide) (by decide) (e131.trans q131) ⟨rfl, N131⟩
        · refine own_st (fun _ k => XS.icmpYes X128.here hx rfl (pc0 := 203) (pc' := 224) rfl (hb hby at_203) rfl (feq hc203_130).2 (by decide) (by decide) k) ?_
          show own_Goes p e below (T128.setTop (mkF m 224 #[.val (.int i0), .val (.int i1), .val (.int i2), .val (.int la), .val (.int lb), .val (.int ((XT.ushr i2 (16 : Int32)) &&& (3 : Int32))), .val (.int c0), .val (.int c1), .val (.int (i0 ^^^ i1)), .val (.int d0), .val (.int d1), .val (.ref s1), .val (.ref s2), .val (.ref b108), .val (.ref b127), .val (.int (own_eqr la c0 c1 lb d0 d1))] [])) _
          refine own_st (fun _ k => XS.aload X128.here hx rfl (hb hby at_224) rfl rfl k) ?_
          show own_Goes p e below (T128.setTop (mkF m 226 #[.val (.int i0), .val (.int i1), .val (.int i2), .val (.int la), .val (.int lb), .val (.int ((XT.ushr i2 (16 : Int32)) &&& (3 : Int32))), .val (.int c0), .val (.int c1), .val (.int (i0 ^^^ i1)), .val (.int d0), .val (.int d1), .val (.ref s1), .val (.ref s2), .val (.ref b108), .val (.ref b127), .val (.int (own_eqr la c0 c1 lb d0 d1))] [(.ref b108)])) _
          refine own_st (fun _ k => XS.aload X128.here hx rfl (hb hby at_226) rfl rfl k) ?_
          show own_Goes p e below (T128.setTop (mkF m 228 #[.val (.int i0), .val (.int i1), .val (.int i2), .val (.int la), .val (.int lb), .val (.int ((XT.ushr i2 (16 : Int32)) &&& (3 : Int32))), .val (.int c0), .val (.int c1), .val (.int (i0 ^^^ i1)), .val (.int d0), .val (.int d1), .val (.ref s1), .val (.ref s2), .val (.ref b108), .val (.ref b127), .val (.int (own_eqr la c0 c1 lb d0 d1))] [(.ref b127), (.ref b108)])) _
          have f141 := (Nat.le_trans f129 K128.1)
          have f142 := ((F109.ext E127).keep K128 (ninS ne_b108_b127 nin0))
          have f143 := ((f122.ext E127).keep K128)
          have f144 := (A127.keep K128)
          have f145 := ((f124.ext E127).keep K128 (ninS ne_s2_b127 nin0) (ninS ne_b2_b127 nin0))
          have f146 := ((f123.ext E127).keep K128 (ninS ne_s1_b127 nin0) (ninS ne_b1_b127 nin0))
          have f147 := (((((f104.keep K102 all0).ext E108).keep K109 (allS g_b108 all0)).ext E127).keep K128 (allS g_b127 all0))
          obtain ⟨_, T140, h140, L140, X140, e140, ⟨rfl, rfl, q140⟩, st140⟩ := own_callV (argsL := [(.ref b127)]) (rest := []) (pc := 228) (W := 0) (Ls := #[.val (.int i0), .val (.int i1), .val (.int i2), .val (.int la), .val (.int lb), .val (.int ((XT.ushr i2 (16 : Int32)) &&& (3 : Int32))), .val (.int c0), .val (.int c1), .val (.int (i0 ^^^ i1)), .val (.int d0), .val (.int d1), .val (.ref s1), .val (.ref s2), .val (.ref b108), .val (.ref b127), .val (.int (own_eqr la c0 c1 lb d0 d1))]) (S := [(.ref b127), (.ref b108)]) X128 hx hZ hown (hw _ (List.mem_of_getElem? (i := 51) rfl)) (hw _ (List.mem_of_getElem? (i := 52) rfl)) (hw _ (List.mem_of_getElem? (i := 54) rfl)) (hw _ (List.mem_of_getElem? (i := 53) rfl)) (hw _ (List.mem_of_getElem? (i := 39) rfl)) (hw _ (List.mem_of_getElem? (i := 55) rfl)) (notFace_of_selects (args := #[]) (mvT hZ (hw _ (List.mem_of_getElem? (i := 54) rfl)))) (by decide) (rm10 l Z a0 hw [] b108 b127 s2 s1 b2 b1 k2 k1 lb d0 d1 la c0 c1 n2 n1 bs2 bs1 cs h128 n0 f141 f142 F128 f143 f144 f145 f146 (Ne.symm ne1) M2 M1 hd0 hd1 hc0 hc1 (S_cs.ext f147.2) hcs) (by decide) (by decide) e128 f143 (by rw [hml]; rfl) (lenOf pd__Ljava_lang_Object__Z rfl) rfl (Nat.le_of_eq rfl) (hb hby at_228) (by decide) (by decide)
          refine own_st st140 ?_
          have N140 := Fr.app N128 (Fr.nil n0)
          show own_Goes p e below (T140.setTop (mkF m 231 #[.val (.int i0), .val (.int i1), .val (.int i2), .val (.int la), .val (.int lb), .val (.int ((XT.ushr i2 (16 : Int32)) &&& (3 : Int32))), .val (.int c0), .val (.int c1), .val (.int (i0 ^^^ i1)), .val (.int d0), .val (.int d1), .val (.ref s1), .val (.ref s2), .val (.ref b108), .val (.ref b127), .val (.int (own_eqr la c0 c1 lb d0 d1))] [(.int (own_eqr lb d0 d1 la c0 c1))])) _
          refine own_st (fun _ k => XS.iload X140.here hx rfl (hb hby at_231) rfl k) ?_
          show own_Goes p e below (T140.setTop (mkF m 233 #[.val (.int i0), .val (.int i1), .val (.int i2), .val (.int la), .val (.int lb), .val (.int ((XT.ushr i2 (16 : Int32)) &&& (3 : Int32))), .val (.int c0), .val (.int c1), .val (.int (i0 ^^^ i1)), .val (.int d0), .val (.int d1), .val (.ref s1), .val (.ref s2), .val (.ref b108), .val (.ref b127), .val (.int (own_eqr la c0 c1 lb d0 d1))] [(.int (own_eqr la c0 c1 lb d0 d1)), (.int (own_eqr lb d0 d1 la c0 c1))])) _
          refine own_st (fun _ k => XS.icmpNo X140.here hx rfl (hb hby at_233) rfl (teq (by first | rfl | exact own_eqr_comm _ _ _ _ _ _ : (own_eqr lb d0 d1 la c0 c1) = (own_eqr la c0 c1 lb d0 d1))).2 k) ?_
          show own_Goes p e below (T140.setTop (mkF m 236 #[.val (.int i0), .val (.int i1), .val (.int i2), .val (.int la), .val (.int lb), .val (.int ((XT.ushr i2 (16 : Int32)) &&& (3 : Int32))), .val (.int c0), .val (.int c1), .val (.int (i0 ^^^ i1)), .val (.int d0), .val (.int d1), .val (.ref s1), .val (.ref s2), .val (.ref b108), .val (.ref b127), .val (.int (own_eqr la c0 c1 lb d0 d1))] [])) _
          refine own_st (fun _ k => XS.iconst X140.here hx rfl (hb hby at_236) k) ?_
          show own_Goes p e below (T140.setTop (mkF m 237 #[.val (.int i0), .val (.int i1), .val (.int i2), .val (.int la), .val (.int lb), .val (.int ((XT.ushr i2 (16 : Int32)) &&& (3 : Int32))), .val (.int c0), .val (.int c1), .val (.int (i0 ^^^ i1)), .val (.int d0), .val (.int d1), .val (.ref s1), .val (.ref s2), .val (.ref b108), .val (.ref b127), .val (.int (own_eqr la c0 c1 lb d0 d1))] [(.int (1 : Int32))])) _
          refine own_st (fun _ k => XS.goto X140.here hx rfl (pc0 := 237) (pc' := 241) rfl (hb hby at_237) (by decide) (by decide) k) ?_
          show own_Goes p e below (T140.setTop (mkF m 241 #[.val (.int i0), .val (.int i1), .val (.int i2), .val (.int la), .val (.int lb), .val (.int ((XT.ushr i2 (16 : Int32)) &&& (3 : Int32))), .val (.int c0), .val (.int c1), .val (.int (i0 ^^^ i1)), .val (.int d0), .val (.int d1), .val (.ref s1), .val (.ref s2), .val (.ref b108), .val (.ref b127), .val (.int (own_eqr la c0 c1 lb d0 d1))] [(.int (1 : Int32))])) _
          have f148 := (Nat.le_trans (Nat.le_trans (Nat.le_trans (Nat.le_trans (Nat.le_refl h102.size) E108.1) K109.1) E127.1) K128.1)
          exact own_retSN (t := .boolean) (z' := (1 : Int32)) X140 hS f148 hx hlk hret (by simp) (by decide) (hb hby at_241) (by decide) (by decide) (e140.trans q140) ⟨rfl, N140⟩
      · intro J198
        show own_Goes p e below (T128.setTop (mkF m 166 #[.val (.int i0), .val (.int i1), .val (.int i2), .val (.int la), .val (.int lb), .val (.int ((XT.ushr i2 (16 : Int32)) &&& (3 : Int32))), .val (.int c0), .val (.int c1), .val (.int (i0 ^^^ i1)), .val (.int d0), .val (.int d1), .val (.ref s1), .val (.ref s2), .val (.ref b108), .val (.ref b127), .unset] [(.int lb), (.int la)])) _
        by_cases hc166_149 : la = lb
        · refine own_st (fun _ k => XS.icmpNo X128.here hx rfl (hb hby at_166) rfl (teq hc166_149).2 k) ?_
          show own_Goes p e below (T128.setTop (mkF m 169 #[.val (.int i0), .val (.int i1), .val (.int i2), .val (.int la), .val (.int lb), .val (.int ((XT.ushr i2 (16 : Int32)) &&& (3 : Int32))), .val (.int c0), .val (.int c1), .val (.int (i0 ^^^ i1)), .val (.int d0), .val (.int d1), .val (.ref s1), .val (.ref s2), .val (.ref b108), .val (.ref b127), .unset] [])) _
          refine own_st (fun _ k => XS.iloadN X128.here hx rfl (hb hby at_169) rfl k) ?_
          show own_Goes p e below (T128.setTop (mkF m 170 #[.val (.int i0), .val (.int i1), .val (.int i2), .val (.int la), .val (.int lb), .val (.int ((XT.ushr i2 (16 : Int32)) &&& (3 : Int32))), .val (.int c0), .val (.int c1), .val (.int (i0 ^^^ i1)), .val (.int d0), .val (.int d1), .val (.ref s1), .val (.ref s2), .val (.ref b108), .val (.ref b127), .unset] [(.int la)])) _
          refine own_st (fun _ k => XS.iconst X128.here hx rfl (hb hby at_170) k) ?_
          show own_Goes p e below (T128.setTop (mkF m 171 #[.val (.int i0), .val (.int i1), .val (.int i2), .val (.int la), .val (.int lb), .val (.int ((XT.ushr i2 (16 : Int32)) &&& (3 : Int32))), .val (.int c0), .val (.int c1), .val (.int (i0 ^^^ i1)), .val (.int d0), .val (.int d1), .val (.ref s1), .val (.ref s2), .val (.ref b108), .val (.ref b127), .unset] [(.int (1 : Int32)), (.int la)])) _
          by_cases hc171_150 : la < (1 : Int32)
          · refine own_st (fun _ k => XS.icmpYes X128.here hx rfl (pc0 := 171) (pc' := 181) rfl (hb hby at_171) rfl (tlt hc171_150).1 (by decide) (by decide) k) ?_
            show own_Goes p e below (T128.setTop (mkF m 181 #[.val (.int i0), .val (.int i1), .val (.int i2), .val (.int la), .val (.int lb), .val (.int ((XT.ushr i2 (16 : Int32)) &&& (3 : Int32))), .val (.int c0), .val (.int c1), .val (.int (i0 ^^^ i1)), .val (.int d0), .val (.int d1), .val (.ref s1), .val (.ref s2), .val (.ref b108), .val (.ref b127), .unset] [])) _
            refine own_st (fun _ k => XS.iloadN X128.here hx rfl (hb hby at_181) rfl k) ?_
            show own_Goes p e below (T128.setTop (mkF m 182 #[.val (.int i0), .val (.int i1), .val (.int i2), .val (.int la), .val (.int lb), .val (.int ((XT.ushr i2 (16 : Int32)) &&& (3 : Int32))), .val (.int c0), .val (.int c1), .val (.int (i0 ^^^ i1)), .val (.int d0), .val (.int d1), .val (.ref s1), .val (.ref s2), .val (.ref b108), .val (.ref b127), .unset] [(.int la)])) _
            refine own_st (fun _ k => XS.iconst X128.here hx rfl (hb hby at_182) k) ?_
            show own_Goes p e below (T128.setTop (mkF m 183 #[.val (.int i0), .val (.int i1), .val (.int i2), .val (.int la), .val (.int lb), .val (.int ((XT.ushr i2 (16 : Int32)) &&& (3 : Int32))), .val (.int c0), .val (.int c1), .val (.int (i0 ^^^ i1)), .val (.int d0), .val (.int d1), .val (.ref s1), .val (.ref s2), .val (.ref b108), .val (.ref b127), .unset] [(.int (2 : Int32)), (.int la)])) _
            by_cases hc183_151 : la < (2 : Int32)
            · refine own_st (fun _ k => XS.icmpYes X128.here hx rfl (pc0 := 183) (pc' := 193) rfl (hb hby at_183) rfl (tlt hc183_151).1 (by decide) (by decide) k) ?_
              show own_Goes p e below (T128.setTop (mkF m 193 #[.val (.int i0), .val (.int i1), .val (.int i2), .val (.int la), .val (.int lb), .val (.int ((XT.ushr i2 (16 : Int32)) &&& (3 : Int32))), .val (.int c0), .val (.int c1), .val (.int (i0 ^^^ i1)), .val (.int d0), .val (.int d1), .val (.ref s1), .val (.ref s2), .val (.ref b108), .val (.ref b127), .unset] [])) _
              refine own_st (fun _ k => XS.iconst X128.here hx rfl (hb hby at_193) k) ?_
              show own_Goes p e below (T128.setTop (mkF m 194 #[.val (.int i0), .val (.int i1), .val (.int i2), .val (.int la), .val (.int lb), .val (.int ((XT.ushr i2 (16 : Int32)) &&& (3 : Int32))), .val (.int c0), .val (.int c1), .val (.int (i0 ^^^ i1)), .val (.int d0), .val (.int d1), .val (.ref s1), .val (.ref s2), .val (.ref b108), .val (.ref b127), .unset] [(.int (1 : Int32))])) _
              refine own_st (fun _ k => XS.goto X128.here hx rfl (pc0 := 194) (pc' := 198) rfl (hb hby at_194) (by decide) (by decide) k) ?_
              show own_Goes p e below (T128.setTop (mkF m 198 #[.val (.int i0), .val (.int i1), .val (.int i2), .val (.int la), .val (.int lb), .val (.int ((XT.ushr i2 (16 : Int32)) &&& (3 : Int32))), .val (.int c0), .val (.int c1), .val (.int (i0 ^^^ i1)), .val (.int d0), .val (.int d1), .val (.ref s1), .val (.ref s2), .val (.ref b108), .val (.ref b127), .unset] [(.int (1 : Int32))])) _
              have q198 : own_eqr la c0 c1 lb d0 d1 = (1 : Int32) := by
                unfold own_eqr
                exact if_pos ⟨by assumption, by first | (left; assumption) | (right; assumption), by first | (left; assumption) | (right; assumption)⟩
              rw [q198] at J198
              exact J198
            · refine own_st (fun _ k => XS.icmpNo X128.here hx rfl (hb hby at_183) rfl (flt hc183_151).1 k) ?_
              show own_Goes p e below (T128.setTop (mkF m 186 #[.val (.int i0), .val (.int i1), .val (.int i2), .val (.int la), .val (.int lb), .val (.int ((XT.ushr i2 (16 : Int32)) &&& (3 : Int32))), .val (.int c0), .val (.int c1), .val (.int (i0 ^^^ i1)), .val (.int d0), .val (.int d1), .val (.ref s1), .val (.ref s2), .val (.ref b108), .val (.ref b127), .unset] [])) _
              refine own_st (fun _ k => XS.iload X128.here hx rfl (hb hby at_186) rfl k) ?_
              show own_Goes p e below (T128.setTop (mkF m 188 #[.val (.int i0), .val (.int i1), .val (.int i2), .val (.int la), .val (.int lb), .val (.int ((XT.ushr i2 (16 : Int32)) &&& (3 : Int32))), .val (.int c0), .val (.int c1), .val (.int (i0 ^^^ i1)), .val (.int d0), .val (.int d1), .val (.ref s1), .val (.ref s2), .val (.ref b108), .val (.ref b127), .unset] [(.int c1)])) _
              refine own_st (fun _ k => XS.iload X128.here hx rfl (hb hby at_188) rfl k) ?_
              show own_Goes p e below (T128.setTop (mkF m 190 #[.val (.int i0), .val (.int i1), .val (.int i2), .val (.int la), .val (.int lb), .val (.int ((XT.ushr i2 (16 : Int32)) &&& (3 : Int32))), .val (.int c0), .val (.int c1), .val (.int (i0 ^^^ i1)), .val (.int d0), .val (.int d1), .val (.ref s1), .val (.ref s2), .val (.ref b108), .val (.ref b127), .unset] [(.int d1), (.int c1)])) _
              by_cases hc190_152 : c1 = d1
              · refine own_st (fun _ k => XS.icmpNo X128.here hx rfl (hb hby at_190) rfl (teq hc190_152).2 k) ?_
                show own_Goes p e below (T128.setTop (mkF m 193 #[.val (.int i0), .val (.int i1), .val (.int i2), .val (.int la), .val (.int lb), .val (.int ((XT.ushr i2 (16 : Int32)) &&& (3 : Int32))), .val (.int c0), .val (.int c1), .val (.int (i0 ^^^ i1)), .val (.int d0), .val (.int d1), .val (.ref s1), .val (.ref s2), .val (.ref b108), .val (.ref b127), .unset] [])) _
                refine own_st (fun _ k => XS.iconst X128.here hx rfl (hb hby at_193) k) ?_
                show own_Goes p e below (T128.setTop (mkF m 194 #[.val (.int i0), .val (.int i1), .val (.int i2), .val (.int la), .val (.int lb), .val (.int ((XT.ushr i2 (16 : Int32)) &&& (3 : Int32))), .val (.int c0), .val (.int c1), .val (.int (i0 ^^^ i1)), .val (.int d0), .val (.int d1), .val (.ref s1), .val (.ref s2), .val (.ref b108), .val (.ref b127), .unset] [(.int (1 : Int32))])) _
                refine own_st (fun _ k => XS.goto X128.here hx rfl (pc0 := 194) (pc' := 198) rfl (hb hby at_194) (by decide) (by decide) k) ?_
                show own_Goes p e below (T128.setTop (mkF m 198 #[.val (.int i0), .val (.int i1), .val (.int i2), .val (.int la), .val (.int lb), .val (.int ((XT.ushr i2 (16 : Int32)) &&& (3 : Int32))), .val (.int c0), .val (.int c1), .val (.int (i0 ^^^ i1)), .val (.int d0), .val (.int d1), .val (.ref s1), .val (.ref s2), .val (.ref b108), .val (.ref b127), .unset] [(.int (1 : Int32))])) _
                have q198 : own_eqr la c0 c1 lb d0 d1 = (1 : Int32) := by
                  unfold own_eqr
                  exact if_pos ⟨by assumption, by first | (left; assumption) | (right; assumption), by first | (left; assumption) | (right; assumption)⟩
                rw [q198] at J198
                exact J198
              · refine own_st (fun _ k => XS.icmpYes X128.here hx rfl (pc0 := 190) (pc' := 197) rfl (hb hby at_190) rfl (feq hc190_152).2 (by decide) (by decide) k) ?_
                show own_Goes p e below (T128.setTop (mkF m 197 #[.val (.int i0), .val (.int i1), .val (.int i2), .val (.int la), .val (.int lb), .val (.int ((XT.ushr i2 (16 : Int32)) &&& (3 : Int32))), .val (.int c0), .val (.int c1), .val (.int (i0 ^^^ i1)), .val (.int d0), .val (.int d1), .val (.ref s1), .val (.ref s2), .val (.ref b108), .val (.ref b127), .unset] [])) _
                refine own_st (fun _ k => XS.iconst X128.here hx rfl (hb hby at_197) k) ?_
                show own_Goes p e below (T128.setTop (mkF m 198 #[.val (.int i0), .val (.int i1), .val (.int i2), .val (.int la), .val (.int lb), .val (.int ((XT.ushr i2 (16 : Int32)) &&& (3 : Int32))), .val (.int c0), .val (.int c1), .val (.int (i0 ^^^ i1)), .val (.int d0), .val (.int d1), .val (.ref s1), .val (.ref s2), .val (.ref b108), .val (.ref b127), .unset] [(.int (0 : Int32))])) _
                have q198 : own_eqr la c0 c1 lb d0 d1 = (0 : Int32) := by
                  unfold own_eqr
                  exact if_neg (fun q => by rcases q with ⟨q1, q2 | q2, q3 | q3⟩ <;> contradiction)
                rw [q198] at J198
                exact J198
          · refine own_st (fun _ k => XS.icmpNo X128.here hx rfl (hb hby at_171) rfl (flt hc171_150).1 k) ?_
            show own_Goes p e below (T128.setTop (mkF m 174 #[.val (.int i0), .val (.int i1), .val (.int i2), .val (.int la), .val (.int lb), .val (.int ((XT.ushr i2 (16 : Int32)) &&& (3 : Int32))), .val (.int c0), .val (.int c1), .val (.int (i0 ^^^ i1)), .val (.int d0), .val (.int d1), .val (.ref s1), .val (.ref s2), .val (.ref b108), .val (.ref b127), .unset] [])) _
            refine own_st (fun _ k => XS.iload X128.here hx rfl (hb hby at_174) rfl k) ?_
            show own_Goes p e below (T128.setTop (mkF m 176 #[.val (.int i0), .val (.int i1), .val (.int i2), .val (.int la), .val (.int lb), .val (.int ((XT.ushr i2 (16 : Int32)) &&& (3 : Int32))), .val (.int c0), .val (.int c1), .val (.int (i0 ^^^ i1)), .val (.int d0), .val (.int d1), .val (.ref s1), .val (.ref s2), .val (.ref b108), .val (.ref b127), .unset] [(.int c0)])) _
            refine own_st (fun _ k => XS.iload X128.here hx rfl (hb hby at_176) rfl k) ?_
            show own_Goes p e below (T128.setTop (mkF m 178 #[.val (.int i0), .val (.int i1), .val (.int i2), .val (.int la), .val (.int lb), .val (.int ((XT.ushr i2 (16 : Int32)) &&& (3 : Int32))), .val (.int c0), .val (.int c1), .val (.int (i0 ^^^ i1)), .val (.int d0), .val (.int d1), .val (.ref s1), .val (.ref s2), .val (.ref b108), .val (.ref b127), .unset] [(.int d0), (.int c0)])) _
            by_cases hc178_153 : c0 = d0
            · refine own_st (fun _ k => XS.icmpNo X128.here hx rfl (hb hby at_178) rfl (teq hc178_153).2 k) ?_
              show own_Goes p e below (T128.setTop (mkF m 181 #[.val (.int i0), .val (.int i1), .val (.int i2), .val (.int la), .val (.int lb), .val (.int ((XT.ushr i2 (16 : Int32)) &&& (3 : Int32))), .val (.int c0), .val (.int c1), .val (.int (i0 ^^^ i1)), .val (.int d0), .val (.int d1), .val (.ref s1), .val (.ref s2), .val (.ref b108), .val (.ref b127), .unset] [])) _
              refine own_st (fun _ k => XS.iloadN X128.here hx rfl (hb hby at_181) rfl k) ?_
              show own_Goes p e below (T128.setTop (mkF m 182 #[.val (.int i0), .val (.int i1), .val (.int i2), .val (.int la), .val (.int lb), .val (.int ((XT.ushr i2 (16 : Int32)) &&& (3 : Int32))), .val (.int c0), .val (.int c1), .val (.int (i0 ^^^ i1)), .val (.int d0), .val (.int d1), .val (.ref s1), .val (.ref s2), .val (.ref b108), .val (.ref b127), .unset] [(.int la)])) _
              refine own_st (fun _ k => XS.iconst X128.here hx rfl (hb hby at_182) k) ?_
              show own_Goes p e below (T128.setTop (mkF m 183 #[.val (.int i0), .val (.int i1), .val (.int i2), .val (.int la), .val (.int lb), .val (.int ((XT.ushr i2 (16 : Int32)) &&& (3 : Int32))), .val (.int c0), .val (.int c1), .val (.int (i0 ^^^ i1)), .val (.int d0), .val (.int d1), .val (.ref s1), .val (.ref s2), .val (.ref b108), .val (.ref b127), .unset] [(.int (2 : Int32)), (.int la)])) _
              by_cases hc183_154 : la < (2 : Int32)
              · refine own_st (fun _ k => XS.icmpYes X128.here hx rfl (pc0 := 183) (pc' := 193) rfl (hb hby at_183) rfl (tlt hc183_154).1 (by decide) (by decide) k) ?_
                show own_Goes p e below (T128.setTop (mkF m 193 #[.val (.int i0), .val (.int i1), .val (.int i2), .val (.int la), .val (.int lb), .val (.int ((XT.ushr i2 (16 : Int32)) &&& (3 : Int32))), .val (.int c0), .val (.int c1), .val (.int (i0 ^^^ i1)), .val (.int d0), .val (.int d1), .val (.ref s1), .val (.ref s2), .val (.ref b108), .val (.ref b127), .unset] [])) _
                refine own_st (fun _ k => XS.iconst X128.here hx rfl (hb hby at_193) k) ?_
                show own_Goes p e below (T128.setTop (mkF m 194 #[.val (.int i0), .val (.int i1), .val (.int i2), .val (.int la), .val (.int lb), .val (.int ((XT.ushr i2 (16 : Int32)) &&& (3 : Int32))), .val (.int c0), .val (.int c1), .val (.int (i0 ^^^ i1)), .val (.int d0), .val (.int d1), .val (.ref s1), .val (.ref s2), .val (.ref b108), .val (.ref b127), .unset] [(.int (1 : Int32))])) _
                refine own_st (fun _ k => XS.goto X128.here hx rfl (pc0 := 194) (pc' := 198) rfl (hb hby at_194) (by decide) (by decide) k) ?_
                show own_Goes p e below (T128.setTop (mkF m 198 #[.val (.int i0), .val (.int i1), .val (.int i2), .val (.int la), .val (.int lb), .val (.int ((XT.ushr i2 (16 : Int32)) &&& (3 : Int32))), .val (.int c0), .val (.int c1), .val (.int (i0 ^^^ i1)), .val (.int d0), .val (.int d1), .val (.ref s1), .val (.ref s2), .val (.ref b108), .val (.ref b127), .unset] [(.int (1 : Int32))])) _
                have q198 : own_eqr la c0 c1 lb d0 d1 = (1 : Int32) := by
                  unfold own_eqr
                  exact if_pos ⟨by assumption, by first | (left; assumption) | (right; assumption), by first | (left; assumption) | (right; assumption)⟩
                rw [q198] at J198
                exact J198
              · refine own_st (fun _ k => XS.icmpNo X128.here hx rfl (hb hby at_183) rfl (flt hc183_154).1 k) ?_
                show own_Goes p e below (T128.setTop (mkF m 186 #[.val (.int i0), .val (.int i1), .val (.int i2), .val (.int la), .val (.int lb), .val (.int ((XT.ushr i2 (16 : Int32)) &&& (3 : Int32))), .val (.int c0), .val (.int c1), .val (.int (i0 ^^^ i1)), .val (.int d0), .val (.int d1), .val (.ref s1), .val (.ref s2), .val (.ref b108), .val (.ref b127), .unset] [])) _
                refine own_st (fun _ k => XS.iload X128.here hx rfl (hb hby at_186) rfl k) ?_
                show own_Goes p e below (T128.setTop (mkF m 188 #[.val (.int i0), .val (.int i1), .val (.int i2), .val (.int la), .val (.int lb), .val (.int ((XT.ushr i2 (16 : Int32)) &&& (3 : Int32))), .val (.int c0), .val (.int c1), .val (.int (i0 ^^^ i1)), .val (.int d0), .val (.int d1), .val (.ref s1), .val (.ref s2), .val (.ref b108), .val (.ref b127), .unset] [(.int c1)])) _
                refine own_st (fun _ k => XS.iload X128.here hx rfl (hb hby at_188) rfl k) ?_
                show own_Goes p e below (T128.setTop (mkF m 190 #[.val (.int i0), .val (.int i1), .val (.int i2), .val (.int la), .val (.int lb), .val (.int ((XT.ushr i2 (16 : Int32)) &&& (3 : Int32))), .val (.int c0), .val (.int c1), .val (.int (i0 ^^^ i1)), .val (.int d0), .val (.int d1), .val (.ref s1), .val (.ref s2), .val (.ref b108), .val (.ref b127), .unset] [(.int d1), (.int c1)])) _
                by_cases hc190_155 : c1 = d1
                · refine own_st (fun _ k => XS.icmpNo X128.here hx rfl (hb hby at_190) rfl (teq hc190_155).2 k) ?_
                  show own_Goes p e below (T128.setTop (mkF m 193 #[.val (.int i0), .val (.int i1), .val (.int i2), .val (.int la), .val (.int lb), .val (.int ((XT.ushr i2 (16 : Int32)) &&& (3 : Int32))), .val (.int c0), .val (.int c1), .val (.int (i0 ^^^ i1)), .val (.int d0), .val (.int d1), .val (.ref s1), .val (.ref s2), .val (.ref b108), .val (.ref b127), .unset] [])) _
                  refine own_st (fun _ k => XS.iconst X128.here hx rfl (hb hby at_193) k) ?_
                  show own_Goes p e below (T128.setTop (mkF m 194 #[.val (.int i0), .val (.int i1), .val (.int i2), .val (.int la), .val (.int lb), .val (.int ((XT.ushr i2 (16 : Int32)) &&& (3 : Int32))), .val (.int c0), .val (.int c1), .val (.int (i0 ^^^ i1)), .val (.int d0), .val (.int d1), .val (.ref s1), .val (.ref s2), .val (.ref b108), .val (.ref b127), .unset] [(.int (1 : Int32))])) _
                  refine own_st (fun _ k => XS.goto X128.here hx rfl (pc0 := 194) (pc' := 198) rfl (hb hby at_194) (by decide) (by decide) k) ?_
                  show own_Goes p e below (T128.setTop (mkF m 198 #[.val (.int i0), .val (.int i1), .val (.int i2), .val (.int la), .val (.int lb), .val (.int ((XT.ushr i2 (16 : Int32)) &&& (3 : Int32))), .val (.int c0), .val (.int c1), .val (.int (i0 ^^^ i1)), .val (.int d0), .val (.int d1), .val (.ref s1), .val (.ref s2), .val (.ref b108), .val (.ref b127), .unset] [(.int (1 : Int32))])) _
                  have q198 : own_eqr la c0 c1 lb d0 d1 = (1 : Int32) := by
                    unfold own_eqr
                    exact if_pos ⟨by assumption, by first | (left; assumption) | (right; assumption), by first | (left; assumption) | (right; assumption)⟩
                  rw [q198] at J198
                  exact J198
                · refine own_st (fun _ k => XS.icmpYes X128.here hx rfl (pc0 := 190) (pc' := 197) rfl (hb hby at_190) rfl (feq hc190_155).2 (by decide) (by decide) k) ?_
                  show own_Goes p e below (T128.setTop (mkF m 197 #[.val (.int i0), .val (.int i1), .val (.int i2), .val (.int la), .val (.int lb), .val (.int ((XT.ushr i2 (16 : Int32)) &&& (3 : Int32))), .val (.int c0), .val (.int c1), .val (.int (i0 ^^^ i1)), .val (.int d0), .val (.int d1), .val (.ref s1), .val (.ref s2), .val (.ref b108), .val (.ref b127), .unset] [])) _
                  refine own_st (fun _ k => XS.iconst X128.here hx rfl (hb hby at_197) k) ?_
                  show own_Goes p e below (T128.setTop (mkF m 198 #[.val (.int i0), .val (.int i1), .val (.int i2), .val (.int la), .val (.int lb), .val (.int ((XT.ushr i2 (16 : Int32)) &&& (3 : Int32))), .val (.int c0), .val (.int c1), .val (.int (i0 ^^^ i1)), .val (.int d0), .val (.int d1), .val (.ref s1), .val (.ref s2), .val (.ref b108), .val (.ref b127), .unset] [(.int (0 : Int32))])) _
                  have q198 : own_eqr la c0 c1 lb d0 d1 = (0 : Int32) := by
                    unfold own_eqr
                    exact if_neg (fun q => by rcases q with ⟨q1, q2 | q2, q3 | q3⟩ <;> contradiction)
                  rw [q198] at J198
                  exact J198
            · refine own_st (fun _ k => XS.icmpYes X128.here hx rfl (pc0 := 178) (pc' := 197) rfl (hb hby at_178) rfl (feq hc178_153).2 (by decide) (by decide) k) ?_
              show own_Goes p e below (T128.setTop (mkF m 197 #[.val (.int i0), .val (.int i1), .val (.int i2), .val (.int la), .val (.int lb), .val (.int ((XT.ushr i2 (16 : Int32)) &&& (3 : Int32))), .val (.int c0), .val (.int c1), .val (.int (i0 ^^^ i1)), .val (.int d0), .val (.int d1), .val (.ref s1), .val (.ref s2), .val (.ref b108), .val (.ref b127), .unset] [])) _
              refine own_st (fun _ k => XS.iconst X128.here hx rfl (hb hby at_197) k) ?_
              show own_Goes p e below (T128.setTop (mkF m 198 #[.val (.int i0), .val (.int i1), .val (.int i2), .val (.int la), .val (.int lb), .val (.int ((XT.ushr i2 (16 : Int32)) &&& (3 : Int32))), .val (.int c0), .val (.int c1), .val (.int (i0 ^^^ i1)), .val (.int d0), .val (.int d1), .val (.ref s1), .val (.ref s2), .val (.ref b108), .val (.ref b127), .unset] [(.int (0 : Int32))])) _
              have q198 : own_eqr la c0 c1 lb d0 d1 = (0 : Int32) := by
                unfold own_eqr
                exact if_neg (fun q => by rcases q with ⟨q1, q2 | q2, q3 | q3⟩ <;> contradiction)
              rw [q198] at J198
              exact J198
        · refine own_st (fun _ k => XS.icmpYes X128.here hx rfl (pc0 := 166) (pc' := 197) rfl (hb hby at_166) rfl (feq hc166_149).2 (by decide) (by decide) k) ?_
          show own_Goes p e below (T128.setTop (mkF m 197 #[.val (.int i0), .val (.int i1), .val (.int i2), .val (.int la), .val (.int lb), .val (.int ((XT.ushr i2 (16 : Int32)) &&& (3 : Int32))), .val (.int c0), .val (.int c1), .val (.int (i0 ^^^ i1)), .val (.int d0), .val (.int d1), .val (.ref s1), .val (.ref s2), .val (.ref b108), .val (.ref b127), .unset] [])) _
          refine own_st (fun _ k => XS.iconst X128.here hx rfl (hb hby at_197) k) ?_
          show own_Goes p e below (T128.setTop (mkF m 198 #[.val (.int i0), .val (.int i1), .val (.int i2), .val (.int la), .val (.int lb), .val (.int ((XT.ushr i2 (16 : Int32)) &&& (3 : Int32))), .val (.int c0), .val (.int c1), .val (.int (i0 ^^^ i1)), .val (.int d0), .val (.int d1), .val (.ref s1), .val (.ref s2), .val (.ref b108), .val (.ref b127), .unset] [(.int (0 : Int32))])) _
          have q198 : own_eqr la c0 c1 lb d0 d1 = (0 : Int32) := by
            unfold own_eqr
            exact if_neg (fun q => by rcases q with ⟨q1, q2 | q2, q3 | q3⟩ <;> contradiction)
          rw [q198] at J198
          exact J198
set_option maxRecDepth 65536 in
set_option maxHeartbeats 40000000 in
theorem comes_1 {Post : Tables → Env → Array Value → State → Outcome → State → Prop} (hpost : ∀ tb e args s v u, (limb_1_1.after args s (.returned v) u = true ∧ limb_1_2.after args s (.returned v) u = true ∧ True) → ReturnedEndW s (.returned v) u (Jvm.fieldLocs frame_1_writes args s ++ Jvm.arrayLocs frame_1_arrays args s ++ Jvm.staticLocs frame_1_statics s) 32 1152 → Post tb e args s (.returned v) u) :
    ArmFor flags0 classFile x code maxLocals ret World_1 tables_1 room_1 Calls_1 rest_1 Pre_1 Post := by
  intro l hfl _ _ p e ha hc hk s m args below hf hA hF happ hP
  obtain ⟨hcalls, hrest, hpre⟩ := hP
  obtain ⟨-, -, -, hnamed, -, -, -, hat⟩ := (Spec.applies_iff hf).mp happ
  obtain ⟨hg, hn⟩ := and_e (Cond.before_iff.mp (show (Jvm.Cond.and given_1 narrow_1).before args s = true from hpre))
  obtain ⟨hcount, g0⟩ := and_e hg
  obtain ⟨q0, g1⟩ := and_e g0
  obtain ⟨q1, g2⟩ := and_e g1
  have q2 := g2
  obtain ⟨w0, w1, w2, rfl⟩ : ∃ w0 w1 w2 : Value, args = #[w0, w1, w2] := by
    have hs : args.size = 3 := by simpa [Cond.value, given_1] using hcount
    obtain ⟨L⟩ := args
    match L, hs with
    | [w0, w1, w2], _ => exact ⟨w0, w1, w2, rfl⟩
  obtain ⟨i0, ei0⟩ := is_v q0
  obtain rfl : w0 = (.int i0) := Option.some.inj ei0
  obtain ⟨i1, ei1⟩ := is_v q1
  obtain rfl : w1 = (.int i1) := Option.some.inj ei1
  obtain ⟨i2, ei2⟩ := is_v q2
  obtain rfl : w2 = (.int i2) := Option.some.inj ei2
  have hw := fun d (hd : d ∈ tables_1) => atoms_spec (ws := Jvm.Cond.code x code maxLocals ret :: tables_1) hat d (List.mem_cons_of_mem _ hd)
  have hfit : Fit s := fun {y c} hc i hi => by
    obtain ⟨ha, rfl⟩ := Array.getElem?_eq_some_iff.mp hc
    have q := List.all_eq_true.mp ((Array.all_eq_true_iff_forall_mem.mp hF) _ (Array.getElem_mem ha)) i (List.mem_range.mpr hi)
    simpa [Array.getElem?_eq_getElem hi] using q
  obtain ⟨hsets, hown0⟩ := atoms_of _ (rest_1_c_eq ▸ (show rest_1_c.before _ s = true from hrest))
  have O0 := Old.start s
  obtain ⟨cs, v_cs⟩ := is_v (Cond.before_iff.mp (hsets _ (List.mem_of_getElem? (i := 1) rfl)))
  have S_cs := Sta.start v_cs (Or.inl (hsets _ (List.mem_of_getElem? (i := 0) rfl)))
  have hcs : ¬ cs = (0 : Int32) := fun q => by
    have k1 := not_v (Cond.before_iff.mp (hsets _ (List.mem_of_getElem? (i := 2) rfl)))
    rw [eq_i v_cs (Term.int_eval 0) (by rw [q])] at k1
    cases k1
  have hh0 : Jvm.Lit.constHeld s "java/lang/String" 7 := hcalls.1 _ (List.mem_singleton.mpr rfl)
  have hcw0 : Jvm.Lit.compactW.before #[] s = true := hsets _ (List.mem_of_getElem? (i := 2) rfl)
  obtain ⟨n, o, h1, h2, h3, _, L, rfl, ⟨rfl, N⟩, hq⟩ := rm0 l s _ hw tables_1 i0 i1 i2 cs s.heap s.heap.size (Nat.le_refl _) S_cs hcs O0 hh0 hcw0 p e ha hc hk s m _ below hf ((Spec.applies_iff_loose hf).mp happ).1 ⟨rfl, State.Warmed39.refl s, rfl, (Or.inl IB.start)⟩ trivial
  refine ⟨n, _, h1, h2, h3, hpost _ _ _ _ _ _ ⟨Cond.after_iff.mpr rfl, Cond.after_iff.mpr (eq_i res_at (Term.int_eval (1)) rfl), trivial⟩ ⟨hq.1, hq.2.1, hq.2.2.1, (hq.2.2.2.sift fun y hy => Or.inr (N y hy)).mono (by decide) (by decide)⟩⟩
theorem main_1_1 : Claimed_1_1 := comes_1 fun _ _ _ _ _ _ h hF => ⟨h.1, hF⟩
theorem main_1_2 : Claimed_1_2 := comes_1 fun _ _ _ _ _ _ h hF => ⟨h.2.1, hF⟩
end Jvm.Pilot.@@N@@
namespace Jvm.Pilot.@@N@@
open Jvm Jvm.ClassFile Sem Op Lib Jvm.Free Jvm.Stand Jvm.Pilot.@@N@@.Jvm.D
/-! MADE BY PROGRAM (witnessworld.py) out of the Statement's table words and the real class files: 21 classes; the members and pool entries that the words name. The judged class is class 1, her method 2. -/
namespace start1
open Jvm.ClassFile
def u (s : String) : CpInfo := .utf8 (stringToUtf16 s)
/-- a pool by its gaps: so many unusable entries, then the entry; so many at the end -/
def gap : Nat → List CpInfo → List CpInfo
  | 0, r => r
  | n + 1, r => .unusable :: gap n r
def poolList (es : List (Nat × CpInfo)) (last : Nat) : List CpInfo := es.foldr (fun e r => gap e.1 (e.2 :: r)) (gap last [])
def pool (es : List (Nat × CpInfo)) (last : Nat) : Array CpInfo := ⟨poolList es last⟩
def fileOf (pool : Array CpInfo) (this : Nat) (attrs : Array Attribute := #[]) (ms : Array MethodInfo := #[]) (fl : Nat := 33) (sup : Nat := 0) (ifs : Array Nat := #[]) (fds : Array FieldInfo := #[]) : ClassFile where
  minorVersion := 0
  majorVersion := 65
  constantPool := pool
  accessFlags := fl
  thisClass := this
  superClass := sup
  interfaces := ifs
  fields := fds
  methods := ms
  attributes := attrs
def plain (name : String) (sup : Option ClassId) : Class where
  name := name
  kind := .ordinary
  loader := none
  accessFlags := 33
  super := sup
  interfaces := #[]
  cf := none
  fields := #[]
  methods := #[]
  instanceTypes := #[]
  staticTypes := #[]
  resolved := #[]
  callSites := []
  init := .initialized
  statics := none
  mirror := none

def pool0 : Array CpInfo := pool [(5, u "<init>"), (0, u "()V"), (1, .class_ 10), (1, u "java/lang/Object")] 113

def k0c0 : Code := { maxStack := 0, maxLocals := 1, code := object_method_1_code, exceptionTable := #[], attributes := #[] }
def k0m0 : Method := { name := "<init>", desc := "()V", sig := { parameters := [], returnType := none }, accessFlags := 1, code := some k0c0 }
/-- java/lang/Object -/
def k0 : Class := { plain "java/lang/Object" none with
  accessFlags := 33
  interfaces := #[]
  cf := some (fileOf pool0 8 #[] #[{ accessFlags := 1, nameIndex := 5, descriptorIndex := 6, attributes := #[] }] 33 0 #[] #[])
  fields := #[]
  methods := #[k0m0]
  instanceTypes := #[]
  staticTypes := #[]
  resolved := Array.replicate 124 none
  statics := none }

def pool1 : Array CpInfo := pool [(2, .class_ 4), (1, u "java/lang/Object"), (0, u "<init>"), (0, u "()V"), (0, .class_ 8), (0, u "java/lang/String"), (0, .methodref 7 10), (0, .nameAndType 5 11), (0, u "([C)V"), (0, .methodref 13 14), (0, .class_ 15), (0, .nameAndType 16 17), (0, u "com/example/charon/charon/ReturnUrlEqualsPinLaw"), (0, u "mk"), (0, u "(ICC)Ljava/lang/String;"), (0, .class_ 19), (0, u "com/example/charon/charon/ReturnUrl"), (0, .methodref 18 21), (0, .nameAndType 5 22), (0, u "(Ljava/lang/String;)V"), (0, .methodref 18 24), (0, .nameAndType 25 26), (0, u "equals"), (0, u "(Ljava/lang/Object;)Z"), (3, u "law"), (0, u "(III)Z")] 2

def k1m0 : Method := { name := "<init>", desc := "()V", sig := { parameters := [], returnType := none }, accessFlags := 1, code := none }
def k1c1 : Code := { maxStack := 6, maxLocals := 3, code := method_2_code, exceptionTable := #[], attributes := #[] }
def k1m1 : Method := { name := "mk", desc := "(ICC)Ljava/lang/String;", sig := { parameters := [.int, .char, .char], returnType := some (.object "java/lang/String") }, accessFlags := 10, code := some k1c1 }
def k1c2 : Code := { maxStack := 3, maxLocals := 16, code := code, exceptionTable := #[], attributes := #[] }
def k1m2 : Method := { name := "law", desc := "(III)Z", sig := { parameters := [.int, .int, .int], returnType := some .boolean }, accessFlags := 9, code := some k1c2 }
/-- com/example/charon/charon/ReturnUrlEqualsPinLaw -/
def k1 : Class := { plain "com/example/charon/charon/ReturnUrlEqualsPinLaw" (some 0) with
  accessFlags := 49
  interfaces := #[]
  cf := some (fileOf pool1 13 #[] #[{ accessFlags := 1, nameIndex := 5, descriptorIndex := 6, attributes := #[] }, { accessFlags := 10, nameIndex := 16, descriptorIndex := 17, attributes := #[] }, { accessFlags := 9, nameIndex := 30, descriptorIndex := 31, attributes := #[] }] 49 2 #[] #[])
  fields := #[]
  methods := #[k1m0, k1m1, k1m2]
  instanceTypes := #[]
  staticTypes := #[]
  resolved := Array.replicate 34 none
  statics := none }

def pool2 : Array CpInfo := pool [(1, .class_ 2), (0, u "java/io/Serializable"), (0, .class_ 4), (0, u "java/lang/Object")] 2

/-- java/io/Serializable -/
def k2 : Class := { plain "java/io/Serializable" (some 0) with
  accessFlags := 1537
  interfaces := #[]
  cf := some (fileOf pool2 1 #[] #[] 1537 3 #[] #[])
  fields := #[]
  methods := #[]
  instanceTypes := #[]
  staticTypes := #[]
  resolved := Array.replicate 7 none
  statics := none }

def pool3 : Array CpInfo := pool [(1, .class_ 2), (0, u "java/lang/Comparable"), (0, .class_ 4), (0, u "java/lang/Object")] 7

/-- java/lang/Comparable -/
def k3 : Class := { plain "java/lang/Comparable" (some 0) with
  accessFlags := 1537
  interfaces := #[]
  cf := some (fileOf pool3 1 #[] #[] 1537 3 #[] #[])
  fields := #[]
  methods := #[]
  instanceTypes := #[]
  staticTypes := #[]
  resolved := Array.replicate 12 none
  statics := none }

def pool4 : Array CpInfo := pool [(2, .class_ 4), (1, u "java/lang/CharSequence"), (42, .class_ 48), (0, u "java/lang/CharSequence$1CodePointIterator"), (10, .class_ 60), (0, u "java/lang/CharSequence$1CharIterator"), (5, .class_ 67), (0, u "java/lang/Object")] 63

/-- java/lang/CharSequence -/
def k4 : Class := { plain "java/lang/CharSequence" (some 0) with
  accessFlags := 1537
  interfaces := #[]
  cf := some (fileOf pool4 2 #[.nestMembers #[47, 59]] #[] 1537 66 #[] #[])
  fields := #[]
  methods := #[]
  instanceTypes := #[]
  staticTypes := #[]
  resolved := Array.replicate 131 none
  statics := none }

def pool5 : Array CpInfo := pool [(1, .class_ 2), (0, u "java/lang/constant/Constable"), (0, .class_ 4), (0, u "java/lang/Object")] 6

/-- java/lang/constant/Constable -/
def k5 : Class := { plain "java/lang/constant/Constable" (some 0) with
  accessFlags := 1537
  interfaces := #[]
  cf := some (fileOf pool5 1 #[] #[] 1537 3 #[] #[])
  fields := #[]
  methods := #[]
  instanceTypes := #[]
  staticTypes := #[]
  resolved := Array.replicate 11 none
  statics := none }

def pool6 : Array CpInfo := pool [(1, .class_ 2), (0, u "java/lang/constant/ConstantDesc"), (0, .class_ 4), (0, u "java/lang/Object")] 32

/-- java/lang/constant/ConstantDesc -/
def k6 : Class := { plain "java/lang/constant/ConstantDesc" (some 0) with
  accessFlags := 1537
  interfaces := #[]
  cf := some (fileOf pool6 1 #[] #[] 1537 3 #[] #[])
  fields := #[]
  methods := #[]
  instanceTypes := #[]
  staticTypes := #[]
  resolved := Array.replicate 37 none
  statics := none }

def pool7 : Array CpInfo := pool [(1, .methodref 2 3), (0, .class_ 4), (0, .nameAndType 5 6), (0, u "java/lang/Object"), (0, u "<init>"), (0, u "()V"), (0, .string 8), (0, u ""), (0, .fieldref 10 11), (0, .class_ 12), (0, .nameAndType 13 14), (0, u "java/lang/String"), (0, u "value"), (0, u "[B"), (0, .fieldref 10 16), (0, .nameAndType 17 18), (0, u "coder"), (0, u "B"), (2, u "hash"), (0, u "I"), (2, u "hashIsZero"), (0, u "Z"), (0, .methodref 10 28), (0, .nameAndType 5 29), (0, u "([CIILjava/lang/Void;)V"), (8, .fieldref 10 39), (0, .nameAndType 40 26), (0, u "COMPACT_STRINGS"), (1, .class_ 44), (1, u "java/lang/StringUTF16"), (0, u "compress"), (1, .methodref 42 48), (0, .nameAndType 49 50), (0, u "coderFromArrayLen"), (0, u "([BI)B"), (56, .class_ 109), (1, u "java/lang/StringLatin1"), (67, .methodref 42 178), (0, .nameAndType 45 179), (0, u "([CII)[B"), (361, .methodref 107 542), (0, .nameAndType 543 544), (0, u "equals"), (0, u "([B[B)Z"), (28, u "(Ljava/lang/Object;)Z"), (1, .class_ 576), (0, u "java/lang/CharSequence"), (22, u "CASE_INSENSITIVE_ORDER"), (0, u "Ljava/util/Comparator;"), (409, u "([C)V"), (90, u "serialPersistentFields"), (0, u "[Ljava/io/ObjectStreamField;"), (0, .class_ 1104), (0, u "java/lang/String$CaseInsensitiveComparator"), (1, .class_ 1107), (0, u "java/io/Serializable"), (0, .class_ 1109), (0, u "java/lang/Comparable"), (0, .class_ 1111), (0, u "java/lang/constant/Constable"), (0, .class_ 1113), (0, u "java/lang/constant/ConstantDesc"), (2, u "serialVersionUID"), (0, u "J"), (3, u "REPL"), (0, u "C"), (2, u "LATIN1"), (1, u "UTF16")] 323

def k7m0 : Method := { name := "<init>", desc := "()V", sig := { parameters := [], returnType := none }, accessFlags := 1, code := none }
def k7c1 : Code := { maxStack := 5, maxLocals := 2, code := jdk_42_method_3_code, exceptionTable := #[], attributes := #[] }
def k7m1 : Method := { name := "<init>", desc := "([C)V", sig := { parameters := [(.array .char)], returnType := none }, accessFlags := 1, code := some k7c1 }
def k7c2 : Code := { maxStack := 2, maxLocals := 3, code := jdk_42_method_66_code, exceptionTable := #[], attributes := #[] }
def k7m2 : Method := { name := "equals", desc := "(Ljava/lang/Object;)Z", sig := { parameters := [(.object "java/lang/Object")], returnType := some .boolean }, accessFlags := 1, code := some k7c2 }
def k7c3 : Code := { maxStack := 4, maxLocals := 6, code := jdk_42_method_149_code, exceptionTable := #[], attributes := #[] }
def k7m3 : Method := { name := "<init>", desc := "([CIILjava/lang/Void;)V", sig := { parameters := [(.array .char), .int, .int, (.object "java/lang/Void")], returnType := none }, accessFlags := 2, code := some k7c3 }
/-- java/lang/String -/
def k7 : Class := { plain "java/lang/String" (some 0) with
  accessFlags := 49
  interfaces := #[2, 3, 4, 5, 6]
  cf := some (fileOf pool7 10 #[.nestMembers #[1103]] #[{ accessFlags := 1, nameIndex := 5, descriptorIndex := 6, attributes := #[] }, { accessFlags := 1, nameIndex := 5, descriptorIndex := 1010, attributes := #[] }, { accessFlags := 1, nameIndex := 543, descriptorIndex := 573, attributes := #[] }, { accessFlags := 2, nameIndex := 5, descriptorIndex := 29, attributes := #[] }] 49 2 #[1106, 1108, 575, 1110, 1112] #[{ accessFlags := 18, nameIndex := 13, descriptorIndex := 14, attributes := #[] }, { accessFlags := 18, nameIndex := 17, descriptorIndex := 18, attributes := #[] }, { accessFlags := 2, nameIndex := 21, descriptorIndex := 22, attributes := #[] }, { accessFlags := 2, nameIndex := 25, descriptorIndex := 26, attributes := #[] }, { accessFlags := 26, nameIndex := 1116, descriptorIndex := 1117, attributes := #[] }, { accessFlags := 24, nameIndex := 40, descriptorIndex := 26, attributes := #[] }, { accessFlags := 26, nameIndex := 1101, descriptorIndex := 1102, attributes := #[] }, { accessFlags := 26, nameIndex := 1121, descriptorIndex := 1122, attributes := #[] }, { accessFlags := 25, nameIndex := 599, descriptorIndex := 600, attributes := #[] }, { accessFlags := 24, nameIndex := 1125, descriptorIndex := 18, attributes := #[] }, { accessFlags := 24, nameIndex := 1127, descriptorIndex := 18, attributes := #[] }])
  fields := #[{ name := "value", type := (.array .byte), accessFlags := 18, slot := 0, constantValue := 0 }, { name := "coder", type := .byte, accessFlags := 18, slot := 1, constantValue := 0 }, { name := "hash", type := .int, accessFlags := 2, slot := 2, constantValue := 0 }, { name := "hashIsZero", type := .boolean, accessFlags := 2, slot := 3, constantValue := 0 }, { name := "serialVersionUID", type := .long, accessFlags := 26, slot := 0, constantValue := 0 }, { name := "COMPACT_STRINGS", type := .boolean, accessFlags := 24, slot := 1, constantValue := 0 }, { name := "serialPersistentFields", type := (.array (.object "java/io/ObjectStreamField")), accessFlags := 26, slot := 2, constantValue := 0 }, { name := "REPL", type := .char, accessFlags := 26, slot := 3, constantValue := 0 }, { name := "CASE_INSENSITIVE_ORDER", type := (.object "java/util/Comparator"), accessFlags := 25, slot := 4, constantValue := 0 }, { name := "LATIN1", type := .byte, accessFlags := 24, slot := 5, constantValue := 0 }, { name := "UTF16", type := .byte, accessFlags := 24, slot := 6, constantValue := 0 }]
  methods := #[k7m0, k7m1, k7m2, k7m3]
  instanceTypes := #[(.array .byte), .byte, .int, .boolean]
  staticTypes := #[.long, .boolean, (.array (.object "java/io/ObjectStreamField")), .char, (.object "java/util/Comparator"), .byte, .byte]
  resolved := Array.replicate 1451 none
  statics := some 0 }

def pool8 : Array CpInfo := pool [(6, .class_ 8), (1, u "java/lang/Object"), (0, u "<init>"), (0, u "()V"), (1, .class_ 14), (1, u "java/lang/StringUTF16"), (31, u "$assertionsDisabled"), (0, u "Z"), (13, u "HI_BYTE_SHIFT"), (0, u "I"), (2, u "LO_BYTE_SHIFT"), (49, .methodref 12 116), (0, .nameAndType 117 118), (0, u "compress"), (0, u "([CI[BII)I"), (3, u "([CII)[B"), (138, u "coderFromArrayLen"), (0, u "([BI)B"), (106, .class_ 371), (1, u "java/lang/StringUTF16$LinesSpliterator"), (58, u "MAX_LENGTH"), (196, .class_ 628), (0, u "java/lang/StringUTF16$CodePointsSpliterator"), (0, .class_ 630), (0, u "java/lang/StringUTF16$CharsSpliterator")] 4

def k8m0 : Method := { name := "<init>", desc := "()V", sig := { parameters := [], returnType := none }, accessFlags := 0, code := none }
def k8c1 : Code := { maxStack := 2, maxLocals := 2, code := jdk_52_method_15_code, exceptionTable := #[], attributes := #[] }
def k8m1 : Method := { name := "coderFromArrayLen", desc := "([BI)B", sig := { parameters := [(.array .byte), .int], returnType := some .byte }, accessFlags := 8, code := some k8c1 }
def k8c2 : Code := { maxStack := 5, maxLocals := 6, code := jdk_52_method_16_code, exceptionTable := #[], attributes := #[] }
def k8m2 : Method := { name := "compress", desc := "([CII)[B", sig := { parameters := [(.array .char), .int, .int], returnType := some (.array .byte) }, accessFlags := 9, code := some k8c2 }
def k8c3 : Code := { maxStack := 3, maxLocals := 7, code := jdk_52_method_21_code, exceptionTable := #[], attributes := #[] }
def k8m3 : Method := { name := "compress", desc := "([CI[BII)I", sig := { parameters := [(.array .char), .int, (.array .byte), .int, .int], returnType := some .int }, accessFlags := 9, code := some k8c3 }
/-- java/lang/StringUTF16 -/
def k8 : Class := { plain "java/lang/StringUTF16" (some 0) with
  accessFlags := 48
  interfaces := #[]
  cf := some (fileOf pool8 12 #[.nestMembers #[627, 629, 369]] #[{ accessFlags := 0, nameIndex := 9, descriptorIndex := 10, attributes := #[] }, { accessFlags := 8, nameIndex := 261, descriptorIndex := 262, attributes := #[] }, { accessFlags := 9, nameIndex := 117, descriptorIndex := 122, attributes := #[] }, { accessFlags := 9, nameIndex := 117, descriptorIndex := 118, attributes := #[] }] 48 6 #[] #[{ accessFlags := 26, nameIndex := 61, descriptorIndex := 62, attributes := #[] }, { accessFlags := 26, nameIndex := 65, descriptorIndex := 62, attributes := #[] }, { accessFlags := 24, nameIndex := 430, descriptorIndex := 62, attributes := #[] }, { accessFlags := 4120, nameIndex := 46, descriptorIndex := 47, attributes := #[] }])
  fields := #[{ name := "HI_BYTE_SHIFT", type := .int, accessFlags := 26, slot := 0, constantValue := 0 }, { name := "LO_BYTE_SHIFT", type := .int, accessFlags := 26, slot := 1, constantValue := 0 }, { name := "MAX_LENGTH", type := .int, accessFlags := 24, slot := 2, constantValue := 0 }, { name := "$assertionsDisabled", type := .boolean, accessFlags := 4120, slot := 3, constantValue := 0 }]
  methods := #[k8m0, k8m1, k8m2, k8m3]
  instanceTypes := #[]
  staticTypes := #[.int, .int, .int, .boolean]
  resolved := Array.replicate 635 none
  statics := none }

def pool9 : Array CpInfo := pool [(1, .methodref 2 3), (0, .class_ 4), (0, .nameAndType 5 6), (0, u "java/lang/Object"), (0, u "<init>"), (0, u "()V"), (0, .class_ 8), (0, u "java/lang/Record")] 13

def k9c0 : Code := { maxStack := 1, maxLocals := 1, code := jdk_30_method_1_code, exceptionTable := #[], attributes := #[] }
def k9m0 : Method := { name := "<init>", desc := "()V", sig := { parameters := [], returnType := none }, accessFlags := 4, code := some k9c0 }
/-- java/lang/Record -/
def k9 : Class := { plain "java/lang/Record" (some 0) with
  accessFlags := 1057
  interfaces := #[]
  cf := some (fileOf pool9 7 #[] #[{ accessFlags := 4, nameIndex := 5, descriptorIndex := 6, attributes := #[] }] 1057 2 #[] #[])
  fields := #[]
  methods := #[k9m0]
  instanceTypes := #[]
  staticTypes := #[]
  resolved := Array.replicate 22 none
  statics := none }

def pool10 : Array CpInfo := pool [(1, .methodref 2 3), (0, .class_ 4), (0, .nameAndType 5 6), (0, u "java/lang/Record"), (0, u "<init>"), (0, u "()V"), (0, .fieldref 8 9), (0, .class_ 10), (0, .nameAndType 11 12), (0, u "com/example/charon/charon/ReturnUrl"), (0, u "value"), (0, u "Ljava/lang/String;"), (4, u "(Ljava/lang/String;)V"), (14, .class_ 34), (1, u "java/lang/String"), (73, .methodref 32 109), (0, .nameAndType 110 111), (0, u "equals"), (0, u "(Ljava/lang/Object;)Z")] 44

def k10c0 : Code := { maxStack := 2, maxLocals := 2, code := prog_8_method_1_code, exceptionTable := #[], attributes := #[] }
def k10m0 : Method := { name := "<init>", desc := "(Ljava/lang/String;)V", sig := { parameters := [(.object "java/lang/String")], returnType := none }, accessFlags := 0, code := some k10c0 }
def k10c1 : Code := { maxStack := 2, maxLocals := 3, code := prog_8_method_5_code, exceptionTable := #[], attributes := #[] }
def k10m1 : Method := { name := "equals", desc := "(Ljava/lang/Object;)Z", sig := { parameters := [(.object "java/lang/Object")], returnType := some .boolean }, accessFlags := 1, code := some k10c1 }
/-- com/example/charon/charon/ReturnUrl -/
def k10 : Class := { plain "com/example/charon/charon/ReturnUrl" (some 9) with
  accessFlags := 48
  interfaces := #[]
  cf := some (fileOf pool10 8 #[] #[{ accessFlags := 0, nameIndex := 5, descriptorIndex := 17, attributes := #[] }, { accessFlags := 1, nameIndex := 110, descriptorIndex := 111, attributes := #[] }] 48 2 #[] #[{ accessFlags := 18, nameIndex := 11, descriptorIndex := 12, attributes := #[] }])
  fields := #[{ name := "value", type := (.object "java/lang/String"), accessFlags := 18, slot := 0, constantValue := 0 }]
  methods := #[k10m0, k10m1]
  instanceTypes := #[(.object "java/lang/String")]
  staticTypes := #[]
  resolved := Array.replicate 156 none
  statics := none }

def pool11 : Array CpInfo := pool [(4, .class_ 6), (1, u "java/lang/Object"), (0, u "<init>"), (0, u "()V"), (5, .class_ 16), (1, u "java/lang/StringLatin1"), (104, u "$assertionsDisabled"), (0, u "Z"), (98, .class_ 223), (1, u "java/lang/StringLatin1$LinesSpliterator"), (57, u "equals"), (0, u "([B[B)Z"), (107, .class_ 391), (0, u "java/lang/StringLatin1$CharsSpliterator")] 3

def k11m0 : Method := { name := "<init>", desc := "()V", sig := { parameters := [], returnType := none }, accessFlags := 0, code := none }
def k11c1 : Code := { maxStack := 3, maxLocals := 3, code := jdk_43_method_13_code, exceptionTable := #[], attributes := #[] }
def k11m1 : Method := { name := "equals", desc := "([B[B)Z", sig := { parameters := [(.array .byte), (.array .byte)], returnType := some .boolean }, accessFlags := 9, code := some k11c1 }
/-- java/lang/StringLatin1 -/
def k11 : Class := { plain "java/lang/StringLatin1" (some 0) with
  accessFlags := 48
  interfaces := #[]
  cf := some (fileOf pool11 14 #[.nestMembers #[390, 221]] #[{ accessFlags := 0, nameIndex := 7, descriptorIndex := 8, attributes := #[] }, { accessFlags := 9, nameIndex := 281, descriptorIndex := 282, attributes := #[] }] 48 4 #[] #[{ accessFlags := 4120, nameIndex := 121, descriptorIndex := 122, attributes := #[] }])
  fields := #[{ name := "$assertionsDisabled", type := .boolean, accessFlags := 4120, slot := 0, constantValue := 0 }]
  methods := #[k11m0, k11m1]
  instanceTypes := #[]
  staticTypes := #[.boolean]
  resolved := Array.replicate 395 none
  statics := none }

def pool12 : Array CpInfo := pool [(2, .class_ 4), (1, u "java/lang/Object"), (0, u "<init>"), (0, u "()V"), (17, .class_ 26), (1, u "jdk/internal/util/Preconditions"), (28, .class_ 56), (0, u "jdk/internal/util/Preconditions$4"), (57, .class_ 115), (0, u "jdk/internal/util/Preconditions$1"), (7, u "SIOOBE_FORMATTER"), (0, u "Ljava/util/function/BiFunction;"), (0, .class_ 126), (0, u "jdk/internal/util/Preconditions$2"), (3, u "AIOOBE_FORMATTER"), (0, .class_ 132), (0, u "jdk/internal/util/Preconditions$3"), (3, u "IOOBE_FORMATTER")] 57

def k12m0 : Method := { name := "<init>", desc := "()V", sig := { parameters := [], returnType := none }, accessFlags := 1, code := none }
/-- jdk/internal/util/Preconditions -/
def k12 : Class := { plain "jdk/internal/util/Preconditions" (some 0) with
  accessFlags := 33
  interfaces := #[]
  cf := some (fileOf pool12 24 #[.nestMembers #[55, 131, 125, 114]] #[{ accessFlags := 1, nameIndex := 5, descriptorIndex := 6, attributes := #[] }] 33 2 #[] #[{ accessFlags := 25, nameIndex := 123, descriptorIndex := 124, attributes := #[] }, { accessFlags := 25, nameIndex := 130, descriptorIndex := 124, attributes := #[] }, { accessFlags := 25, nameIndex := 136, descriptorIndex := 124, attributes := #[] }])
  fields := #[{ name := "SIOOBE_FORMATTER", type := (.object "java/util/function/BiFunction"), accessFlags := 25, slot := 0, constantValue := 0 }, { name := "AIOOBE_FORMATTER", type := (.object "java/util/function/BiFunction"), accessFlags := 25, slot := 1, constantValue := 0 }, { name := "IOOBE_FORMATTER", type := (.object "java/util/function/BiFunction"), accessFlags := 25, slot := 2, constantValue := 0 }]
  methods := #[k12m0]
  instanceTypes := #[]
  staticTypes := #[(.object "java/util/function/BiFunction"), (.object "java/util/function/BiFunction"), (.object "java/util/function/BiFunction")]
  resolved := Array.replicate 194 none
  statics := some 1 }

def pool13 : Array CpInfo := pool [(9, u "<init>"), (6, .class_ 18), (1, u "java/lang/Object"), (0, u "()V"), (1, .class_ 23), (1, u "jdk/internal/util/ArraysSupport"), (0, u "LOG2_ARRAY_LONG_INDEX_SCALE"), (0, u "I"), (2, u "U"), (0, u "Ljdk/internal/misc/Unsafe;"), (8, u "BIG_ENDIAN"), (0, u "Z"), (8, u "LOG2_BYTE_BIT_SIZE"), (4, u "LOG2_ARRAY_INT_INDEX_SCALE"), (54, u "JLA"), (0, u "Ljdk/internal/access/JavaLangAccess;"), (11, u "LOG2_ARRAY_BOOLEAN_INDEX_SCALE"), (9, u "LOG2_ARRAY_BYTE_INDEX_SCALE"), (5, u "LOG2_ARRAY_CHAR_INDEX_SCALE"), (5, u "LOG2_ARRAY_SHORT_INDEX_SCALE"), (18, u "LOG2_ARRAY_FLOAT_INDEX_SCALE"), (24, u "LOG2_ARRAY_DOUBLE_INDEX_SCALE"), (89, u "T_BOOLEAN"), (2, u "T_CHAR"), (1, u "T_FLOAT"), (1, u "T_DOUBLE"), (1, u "T_BYTE"), (1, u "T_SHORT"), (1, u "T_INT"), (1, u "T_LONG"), (1, u "SOFT_MAX_ARRAY_LENGTH")] 83

def k13m0 : Method := { name := "<init>", desc := "()V", sig := { parameters := [], returnType := none }, accessFlags := 2, code := none }
/-- jdk/internal/util/ArraysSupport -/
def k13 : Class := { plain "jdk/internal/util/ArraysSupport" (some 0) with
  accessFlags := 33
  interfaces := #[]
  cf := some (fileOf pool13 21 #[] #[{ accessFlags := 2, nameIndex := 9, descriptorIndex := 19, attributes := #[] }] 33 16 #[] #[{ accessFlags := 24, nameIndex := 28, descriptorIndex := 29, attributes := #[] }, { accessFlags := 26, nameIndex := 38, descriptorIndex := 39, attributes := #[] }, { accessFlags := 25, nameIndex := 121, descriptorIndex := 25, attributes := #[] }, { accessFlags := 25, nameIndex := 131, descriptorIndex := 25, attributes := #[] }, { accessFlags := 25, nameIndex := 137, descriptorIndex := 25, attributes := #[] }, { accessFlags := 25, nameIndex := 143, descriptorIndex := 25, attributes := #[] }, { accessFlags := 25, nameIndex := 53, descriptorIndex := 25, attributes := #[] }, { accessFlags := 25, nameIndex := 24, descriptorIndex := 25, attributes := #[] }, { accessFlags := 25, nameIndex := 162, descriptorIndex := 25, attributes := #[] }, { accessFlags := 25, nameIndex := 187, descriptorIndex := 25, attributes := #[] }, { accessFlags := 26, nameIndex := 48, descriptorIndex := 25, attributes := #[] }, { accessFlags := 25, nameIndex := 277, descriptorIndex := 25, attributes := #[] }, { accessFlags := 25, nameIndex := 280, descriptorIndex := 25, attributes := #[] }, { accessFlags := 25, nameIndex := 282, descriptorIndex := 25, attributes := #[] }, { accessFlags := 25, nameIndex := 284, descriptorIndex := 25, attributes := #[] }, { accessFlags := 25, nameIndex := 286, descriptorIndex := 25, attributes := #[] }, { accessFlags := 25, nameIndex := 288, descriptorIndex := 25, attributes := #[] }, { accessFlags := 25, nameIndex := 290, descriptorIndex := 25, attributes := #[] }, { accessFlags := 25, nameIndex := 292, descriptorIndex := 25, attributes := #[] }, { accessFlags := 26, nameIndex := 108, descriptorIndex := 109, attributes := #[] }, { accessFlags := 25, nameIndex := 294, descriptorIndex := 25, attributes := #[] }])
  fields := #[{ name := "U", type := (.object "jdk/internal/misc/Unsafe"), accessFlags := 24, slot := 0, constantValue := 0 }, { name := "BIG_ENDIAN", type := .boolean, accessFlags := 26, slot := 1, constantValue := 0 }, { name := "LOG2_ARRAY_BOOLEAN_INDEX_SCALE", type := .int, accessFlags := 25, slot := 2, constantValue := 0 }, { name := "LOG2_ARRAY_BYTE_INDEX_SCALE", type := .int, accessFlags := 25, slot := 3, constantValue := 0 }, { name := "LOG2_ARRAY_CHAR_INDEX_SCALE", type := .int, accessFlags := 25, slot := 4, constantValue := 0 }, { name := "LOG2_ARRAY_SHORT_INDEX_SCALE", type := .int, accessFlags := 25, slot := 5, constantValue := 0 }, { name := "LOG2_ARRAY_INT_INDEX_SCALE", type := .int, accessFlags := 25, slot := 6, constantValue := 0 }, { name := "LOG2_ARRAY_LONG_INDEX_SCALE", type := .int, accessFlags := 25, slot := 7, constantValue := 0 }, { name := "LOG2_ARRAY_FLOAT_INDEX_SCALE", type := .int, accessFlags := 25, slot := 8, constantValue := 0 }, { name := "LOG2_ARRAY_DOUBLE_INDEX_SCALE", type := .int, accessFlags := 25, slot := 9, constantValue := 0 }, { name := "LOG2_BYTE_BIT_SIZE", type := .int, accessFlags := 26, slot := 10, constantValue := 0 }, { name := "T_BOOLEAN", type := .int, accessFlags := 25, slot := 11, constantValue := 0 }, { name := "T_CHAR", type := .int, accessFlags := 25, slot := 12, constantValue := 0 }, { name := "T_FLOAT", type := .int, accessFlags := 25, slot := 13, constantValue := 0 }, { name := "T_DOUBLE", type := .int, accessFlags := 25, slot := 14, constantValue := 0 }, { name := "T_BYTE", type := .int, accessFlags := 25, slot := 15, constantValue := 0 }, { name := "T_SHORT", type := .int, accessFlags := 25, slot := 16, constantValue := 0 }, { name := "T_INT", type := .int, accessFlags := 25, slot := 17, constantValue := 0 }, { name := "T_LONG", type := .int, accessFlags := 25, slot := 18, constantValue := 0 }, { name := "JLA", type := (.object "jdk/internal/access/JavaLangAccess"), accessFlags := 26, slot := 19, constantValue := 0 }, { name := "SOFT_MAX_ARRAY_LENGTH", type := .int, accessFlags := 25, slot := 20, constantValue := 0 }]
  methods := #[k13m0]
  instanceTypes := #[]
  staticTypes := #[(.object "jdk/internal/misc/Unsafe"), .boolean, .int, .int, .int, .int, .int, .int, .int, .int, .int, .int, .int, .int, .int, .int, .int, .int, .int, (.object "jdk/internal/access/JavaLangAccess"), .int]
  resolved := Array.replicate 378 none
  statics := none }

def pool14 : Array CpInfo := pool [(1, u "java/lang/Cloneable"), (0, .class_ 1), (0, u "java/lang/Object"), (0, .class_ 3)] 3

/-- java/lang/Cloneable -/
def k14 : Class := { plain "java/lang/Cloneable" (some 0) with
  accessFlags := 1537
  interfaces := #[]
  cf := some (fileOf pool14 2 #[] #[] 1537 4 #[] #[])
  fields := #[]
  methods := #[]
  instanceTypes := #[]
  staticTypes := #[]
  resolved := Array.replicate 8 none
  statics := none }

/-- the primitive byte -/
def k15 : Class := { plain "byte" none with kind := .primitive 'B', accessFlags := 0x411 }
/-- [B -/
def k16 : Class := { plain "[B" (some 0) with kind := .array 15 .byte, interfaces := #[14, 2], accessFlags := 1041 }

/-- the primitive char -/
def k17 : Class := { plain "char" none with kind := .primitive 'C', accessFlags := 0x411 }
/-- [C -/
def k18 : Class := { plain "[C" (some 0) with kind := .array 17 .char, interfaces := #[14, 2], accessFlags := 1041 }

/-- the primitive int -/
def k19 : Class := { plain "int" none with kind := .primitive 'I', accessFlags := 0x411 }
/-- [I -/
def k20 : Class := { plain "[I" (some 0) with kind := .array 19 .int, interfaces := #[14, 2], accessFlags := 1041 }

def heap : Heap := #[{ cls := 7, slots := #[.long 0, .int 1, .null, .int 0, .null, .int 0, .int 0], vm := .statics 7 },
  { cls := 12, slots := #[.null, .null, .null], vm := .statics 12 }]
def classes : Array Class := #[k0, k1, k2, k3, k4, k5, k6, k7, k8, k9, k10, k11, k12, k13, k14, k15, k16, k17, k18, k19, k20]
def interned : List (Array UInt16 × Addr) := []
def slotsUsed : Nat := 10
def theMethod : MethodId := ⟨1, 2⟩
def args0 : Array Value := #[.int 0, .int 0, .int 0]
def aboutOver (below : List Frame) : State where
  vm := { classes := classes, interned := interned.toArray }
  heap := heap
  slotsUsed := slotsUsed
  threads := #[{ frames := .invoking theMethod args0 :: below }]
def below0 : List Frame := [.native { method := ⟨0, 0⟩, args := #[] }]
def about1 : State := aboutOver below0
def p0 : Program := .bare "" "" ""
def e0 : Env := launch0.env 0 0 0
theorem w_frames : about1.frames = Frame.invoking theMethod args0 :: below0 := rfl
set_option maxRecDepth 65536 in
theorem w_args : argsFit about1.vm theMethod args0 = true := by decide +kernel
set_option maxRecDepth 65536 in
theorem w_heap : heapFits about1 = true := by decide +kernel
set_option maxRecDepth 65536 in
theorem w_runnable : about1.curStatus? = some .runnable := by decide +kernel
set_option maxRecDepth 65536 in
theorem w_alone : about1.alone = true := by decide +kernel
set_option maxRecDepth 65536 in
theorem w_named : about1.methodNamed? x = some theMethod := by decide +kernel
set_option maxRecDepth 65536 in
theorem w_hears : about1.hears theMethod below0 = true := by decide +kernel
set_option maxRecDepth 65536 in
theorem w_ripe : about1.ripe theMethod args0 below0 = true := by decide +kernel
theorem w_running : about1.status = .running := rfl
set_option maxRecDepth 65536 in
theorem w_room : about1.hasRoom e0.platform room_1 = true :=
  launch0.hasRoom_least _ room_1 (by decide +kernel) (by decide +kernel) (by decide +kernel) (by decide +kernel) (by decide +kernel) (by decide +kernel)
theorem allAtoms_all (ts : List Jvm.Cond) (a : Array Jvm.Value) (st : Jvm.State) : (allAtoms ts).before a st = ts.all (fun c => c.before a st) := by
  induction ts with
  | nil => rfl
  | cons c t ih =>
    show (Jvm.Cond.and c (allAtoms t)).before a st = _
    rw [Jvm.Cond.before_and, ih, List.all_cons]
def words1 : List Jvm.Cond := Jvm.Cond.code x code maxLocals ret :: tables_1
/-- a 'code' word, met by the world's own term for the bytes: nothing is compared byte by byte -/
theorem code_word {y : MethodName} {bytes : ByteArray} {mx : Nat} {rt : Option FieldType} {a : Array Value} {s : State} {m : MethodId} {meth : Method} {c : Code} (h1 : s.methodNamed? y = some m) (h2 : s.vm.method? m = some meth) (h3 : meth.code = some c) (h4 : c.code = bytes)
    (h5 : (c.maxLocals == mx && c.exceptionTable.isEmpty && decide (c.maxStack ≤ mostOperands) && decide (meth.sig.returnType = rt) && !meth.locks && decide (parseMethodDescriptor y.desc = some meth.sig)) = true) : (Jvm.Cond.code y bytes mx rt).before a s = true := by
  simp only [Bool.and_eq_true, beq_iff_eq, Bool.not_eq_true', decide_eq_true_eq] at h5
  obtain ⟨⟨⟨⟨⟨g1, g2⟩, g3⟩, g4⟩, g5⟩, g6⟩ := h5
  simp [Cond.before, Cond.holds, Cond.value, h1, h2, h3, h4, g1, g2, g3, g4, g5, g6]
def isCode : Jvm.Cond → Bool
  | .code _ _ _ _ => true
  | _ => false
theorem all_split {L : List Jvm.Cond} {P : Jvm.Cond → Bool} (h1 : L.all (fun c => isCode c || P c) = true) (h2 : ∀ c ∈ L.filter isCode, P c = true) : L.all P = true := by
  refine List.all_eq_true.mpr fun c hc => ?_
  have h := List.all_eq_true.mp h1 c hc
  rcases Bool.eq_false_or_eq_true (isCode c) with hi | hi
  · exact h2 c (List.mem_filter.mpr ⟨hc, hi⟩)
  · simpa [hi] using h
set_option maxRecDepth 65536 in
theorem w_c0 : (Jvm.Cond.code x code maxLocals ret).before args0 about1 = true := code_word (m := ⟨1, 2⟩) (meth := k1m2) (c := k1c2) (by decide +kernel) rfl rfl rfl (by decide +kernel)
set_option maxRecDepth 65536 in
theorem w_c1 : (Jvm.Cond.code ({ cls := "com/example/charon/charon/ReturnUrlEqualsPinLaw", name := "mk", desc := "(ICC)Ljava/lang/String;" } : Jvm.MethodName) method_2_code (3 : Nat) (Option.some (Jvm.ClassFile.FieldType.object "java/lang/String"))).before args0 about1 = true := code_word (m := ⟨1, 1⟩) (meth := k1m1) (c := k1c1) (by decide +kernel) rfl rfl rfl (by decide +kernel)
set_option maxRecDepth 65536 in
theorem w_c2 : (Jvm.Cond.code ({ cls := "java/lang/String", name := "<init>", desc := "([C)V" } : Jvm.MethodName) jdk_42_method_3_code (2 : Nat) (Option.none : Option Jvm.ClassFile.FieldType)).before args0 about1 = true := code_word (m := ⟨7, 1⟩) (meth := k7m1) (c := k7c1) (by decide +kernel) rfl rfl rfl (by decide +kernel)
set_option maxRecDepth 65536 in
theorem w_c3 : (Jvm.Cond.code ({ cls := "java/lang/String", name := "<init>", desc := "([CIILjava/lang/Void;)V" } : Jvm.MethodName) jdk_42_method_149_code (6 : Nat) (Option.none : Option Jvm.ClassFile.FieldType)).before args0 about1 = true := code_word (m := ⟨7, 3⟩) (meth := k7m3) (c := k7c3) (by decide +kernel) rfl rfl rfl (by decide +kernel)
set_option maxRecDepth 65536 in
theorem w_c4 : (Jvm.Cond.code ({ cls := "java/lang/Object", name := "<init>", desc := "()V" } : Jvm.MethodName) object_method_1_code (1 : Nat) (Option.none : Option Jvm.ClassFile.FieldType)).before args0 about1 = true := code_word (m := ⟨0, 0⟩) (meth := k0m0) (c := k0c0) (by decide +kernel) rfl rfl rfl (by decide +kernel)
set_option maxRecDepth 65536 in
theorem w_c5 : (Jvm.Cond.code ({ cls := "java/lang/StringUTF16", name := "compress", desc := "([CII)[B" } : Jvm.MethodName) jdk_52_method_16_code (6 : Nat) (Option.some (Jvm.ClassFile.FieldType.array Jvm.ClassFile.FieldType.byte))).before args0 about1 = true := code_word (m := ⟨8, 2⟩) (meth := k8m2) (c := k8c2) (by decide +kernel) rfl rfl rfl (by decide +kernel)
set_option maxRecDepth 65536 in
theorem w_c6 : (Jvm.Cond.code ({ cls := "java/lang/StringUTF16", name := "compress", desc := "([CI[BII)I" } : Jvm.MethodName) jdk_52_method_21_code (7 : Nat) (Option.some Jvm.ClassFile.FieldType.int)).before args0 about1 = true := code_word (m := ⟨8, 3⟩) (meth := k8m3) (c := k8c3) (by decide +kernel) rfl rfl rfl (by decide +kernel)
set_option maxRecDepth 65536 in
theorem w_c7 : (Jvm.Cond.code ({ cls := "java/lang/StringUTF16", name := "coderFromArrayLen", desc := "([BI)B" } : Jvm.MethodName) jdk_52_method_15_code (2 : Nat) (Option.some Jvm.ClassFile.FieldType.byte)).before args0 about1 = true := code_word (m := ⟨8, 1⟩) (meth := k8m1) (c := k8c1) (by decide +kernel) rfl rfl rfl (by decide +kernel)
set_option maxRecDepth 65536 in
theorem w_c8 : (Jvm.Cond.code ({ cls := "com/example/charon/charon/ReturnUrl", name := "<init>", desc := "(Ljava/lang/String;)V" } : Jvm.MethodName) prog_8_method_1_code (2 : Nat) (Option.none : Option Jvm.ClassFile.FieldType)).before args0 about1 = true := code_word (m := ⟨10, 0⟩) (meth := k10m0) (c := k10c0) (by decide +kernel) rfl rfl rfl (by decide +kernel)
set_option maxRecDepth 65536 in
theorem w_c9 : (Jvm.Cond.code ({ cls := "java/lang/Record", name := "<init>", desc := "()V" } : Jvm.MethodName) jdk_30_method_1_code (1 : Nat) (Option.none : Option Jvm.ClassFile.FieldType)).before args0 about1 = true := code_word (m := ⟨9, 0⟩) (meth := k9m0) (c := k9c0) (by decide +kernel) rfl rfl rfl (by decide +kernel)
set_option maxRecDepth 65536 in
theorem w_c10 : (Jvm.Cond.code ({ cls := "com/example/charon/charon/ReturnUrl", name := "equals", desc := "(Ljava/lang/Object;)Z" } : Jvm.MethodName) prog_8_method_5_code (3 : Nat) (Option.some Jvm.ClassFile.FieldType.boolean)).before args0 about1 = true := code_word (m := ⟨10, 1⟩) (meth := k10m1) (c := k10c1) (by decide +kernel) rfl rfl rfl (by decide +kernel)
set_option maxRecDepth 65536 in
theorem w_c11 : (Jvm.Cond.code ({ cls := "java/lang/String", name := "equals", desc := "(Ljava/lang/Object;)Z" } : Jvm.MethodName) jdk_42_method_66_code (3 : Nat) (Option.some Jvm.ClassFile.FieldType.boolean)).before args0 about1 = true := code_word (m := ⟨7, 2⟩) (meth := k7m2) (c := k7c2) (by decide +kernel) rfl rfl rfl (by decide +kernel)
set_option maxRecDepth 65536 in
theorem w_c12 : (Jvm.Cond.code ({ cls := "java/lang/StringLatin1", name := "equals", desc := "([B[B)Z" } : Jvm.MethodName) jdk_43_method_13_code (3 : Nat) (Option.some Jvm.ClassFile.FieldType.boolean)).before args0 about1 = true := code_word (m := ⟨11, 1⟩) (meth := k11m1) (c := k11c1) (by decide +kernel) rfl rfl rfl (by decide +kernel)
def codes1 : List Jvm.Cond := [Jvm.Cond.code x code maxLocals ret, Jvm.Cond.code ({ cls := "com/example/charon/charon/ReturnUrlEqualsPinLaw", name := "mk", desc := "(ICC)Ljava/lang/String;" } : Jvm.MethodName) method_2_code (3 : Nat) (Option.some (Jvm.ClassFile.FieldType.object "java/lang/String")), Jvm.Cond.code ({ cls := "java/lang/String", name := "<init>", desc := "([C)V" } : Jvm.MethodName) jdk_42_method_3_code (2 : Nat) (Option.none : Option Jvm.ClassFile.FieldType), Jvm.Cond.code ({ cls := "java/lang/String", name := "<init>", desc := "([CIILjava/lang/Void;)V" } : Jvm.MethodName) jdk_42_method_149_code (6 : Nat) (Option.none : Option Jvm.ClassFile.FieldType), Jvm.Cond.code ({ cls := "java/lang/Object", name := "<init>", desc := "()V" } : Jvm.MethodName) object_method_1_code (1 : Nat) (Option.none : Option Jvm.ClassFile.FieldType), Jvm.Cond.code ({ cls := "java/lang/StringUTF16", name := "compress", desc := "([CII)[B" } : Jvm.MethodName) jdk_52_method_16_code (6 : Nat) (Option.some (Jvm.ClassFile.FieldType.array Jvm.ClassFile.FieldType.byte)), Jvm.Cond.code ({ cls := "java/lang/StringUTF16", name := "compress", desc := "([CI[BII)I" } : Jvm.MethodName) jdk_52_method_21_code (7 : Nat) (Option.some Jvm.ClassFile.FieldType.int), Jvm.Cond.code ({ cls := "java/lang/StringUTF16", name := "coderFromArrayLen", desc := "([BI)B" } : Jvm.MethodName) jdk_52_method_15_code (2 : Nat) (Option.some Jvm.ClassFile.FieldType.byte), Jvm.Cond.code ({ cls := "com/example/charon/charon/ReturnUrl", name := "<init>", desc := "(Ljava/lang/String;)V" } : Jvm.MethodName) prog_8_method_1_code (2 : Nat) (Option.none : Option Jvm.ClassFile.FieldType), Jvm.Cond.code ({ cls := "java/lang/Record", name := "<init>", desc := "()V" } : Jvm.MethodName) jdk_30_method_1_code (1 : Nat) (Option.none : Option Jvm.ClassFile.FieldType), Jvm.Cond.code ({ cls := "com/example/charon/charon/ReturnUrl", name := "equals", desc := "(Ljava/lang/Object;)Z" } : Jvm.MethodName) prog_8_method_5_code (3 : Nat) (Option.some Jvm.ClassFile.FieldType.boolean), Jvm.Cond.code ({ cls := "java/lang/String", name := "equals", desc := "(Ljava/lang/Object;)Z" } : Jvm.MethodName) jdk_42_method_66_code (3 : Nat) (Option.some Jvm.ClassFile.FieldType.boolean), Jvm.Cond.code ({ cls := "java/lang/StringLatin1", name := "equals", desc := "([B[B)Z" } : Jvm.MethodName) jdk_43_method_13_code (3 : Nat) (Option.some Jvm.ClassFile.FieldType.boolean)]
set_option maxRecDepth 65536 in
theorem codes_eq : words1.filter isCode = codes1 := rfl
theorem w_codes : ∀ c ∈ words1.filter isCode, c.before args0 about1 = true := by
  rw [codes_eq]
  intro c hc
  simp only [codes1, List.mem_cons, List.not_mem_nil, or_false] at hc
  rcases hc with rfl | rfl | rfl | rfl | rfl | rfl | rfl | rfl | rfl | rfl | rfl | rfl | rfl
  · exact w_c0
  · exact w_c1
  · exact w_c2
  · exact w_c3
  · exact w_c4
  · exact w_c5
  · exact w_c6
  · exact w_c7
  · exact w_c8
  · exact w_c9
  · exact w_c10
  · exact w_c11
  · exact w_c12
set_option maxRecDepth 65536 in
theorem w_t1 : (words1.take 24).all (fun c => isCode c || c.before args0 about1) = true := by decide +kernel
set_option maxRecDepth 65536 in
theorem w_t2 : ((words1.drop 24).take 24).all (fun c => isCode c || c.before args0 about1) = true := by decide +kernel
set_option maxRecDepth 65536 in
theorem w_t3 : ((words1.drop 24).drop 24).all (fun c => isCode c || c.before args0 about1) = true := by decide +kernel
theorem w_tables : (allAtoms (Jvm.Cond.code x code maxLocals ret :: tables_1)).before args0 about1 = true := by
  rw [allAtoms_all]
  show words1.all (fun c => c.before args0 about1) = true
  refine all_split ?_ w_codes
  rw [← List.take_append_drop 24 words1, List.all_append, w_t1, ← List.take_append_drop 24 (words1.drop 24), List.all_append, w_t2, w_t3]
  rfl
set_option maxRecDepth 65536 in
theorem w_rest : rest_1_c.before args0 about1 = true := by decide +kernel
set_option maxRecDepth 65536 in
theorem w_case : (Jvm.Cond.and given_1 narrow_1).before args0 about1 = true := by decide +kernel
set_option maxRecDepth 65536 in
theorem w_consts : constsHeld consts_1 about1 := Jvm.Lit.constsHeldB_iff.mp (by decide +kernel)
theorem w_applies : (headSpec (Jvm.Cond.code x code maxLocals ret :: tables_1) room_1).applies x e0.platform about1 = true :=
  (Spec.applies_iff w_frames).mpr ⟨w_running, w_runnable, w_alone, w_named, w_hears, w_ripe, w_room, w_tables⟩
theorem atStart : AtStart classFile x code maxLocals ret World_1 tables_1 room_1 Calls_1 rest_1 Pre_1 launch0 p0 e0 about1 theMethod args0 below0 :=
  ⟨lists_1, trivial, launch0.admits_env _ _ _, launch0.least_env, fairChoices_fair.cas, fairChoices_fair.clock, w_frames, w_args, w_heap, w_applies, ⟨w_consts, trivial⟩, w_rest, w_case⟩
end start1
theorem witness_1 : WitnessClaimed_1 := ⟨start1.p0, start1.e0, start1.about1, start1.theMethod, start1.args0, start1.below0, start1.atStart⟩
end Jvm.Pilot.@@N@@
