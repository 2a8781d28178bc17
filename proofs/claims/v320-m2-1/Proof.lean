import JvmDerived
import JvmDerived.Pilot.@@N@@Statement
import JvmDerived.Pilot.@@N@@Code
set_option linter.unusedVariables false
set_option linter.unusedSimpArgs false
namespace Jvm.Pilot.@@N@@
open Jvm Jvm.ClassFile Sem Op Lib Jvm.Free Jvm.Stand Jvm.LawKit Jvm.RoadKit Bundle Jvm.Pilot.@@N@@.Jvm.D
/-! 0. the walk's own layer: a run that comes to its end, step by step -/
def own_Goes (p : Program) (e : Env) (below : List Frame) (A : State) (G : Outcome → State → Prop) : Prop :=
  ∃ s₂ o, Steps p.tables e below A s₂ ∧ s₂.status = .running ∧ Ended s₂ below o ∧ G o s₂
def own_post (s : State) (Q : Option Value → Heap → List Loc → Prop) (rc rs : Nat) : Outcome → State → Prop :=
  fun o U' => ∃ v L, o = .returned v ∧ Q v U'.heap L ∧ FrameEnd s o U' L rc rs
section Own
variable {p : Program} {l : Launch} {e : Env} {R : Room} {s : State} {m : MethodId} {args : Array Value} {below : List Frame} {meth : Method} {c : Code} {T : State} {locs : List Loc} {cells slots : Nat} {G : Outcome → State → Prop} {Q : Option Value → Heap → List Loc → Prop} {rc rs : Nat} {Z : State} {a0 : Array Value} {h : Heap}
theorem own_st {A B : State} (st : ∀ t, Steps p.tables e below B t → Steps p.tables e below A t) (k : own_Goes p e below B G) : own_Goes p e below A G := by
  obtain ⟨s₂, o, h1, h2⟩ := k; exact ⟨s₂, o, st _ h1, h2⟩
theorem own_join {B : State} {K : (Outcome → State → Prop) → Prop} (h1 : K G) (h2 : K G → own_Goes p e below B G) : own_Goes p e below B G := h2 h1
theorem own_ret {S : List Value} {pc : Nat} {Ls : Array Slot} {w : Value} {t : FieldType} (X : Stand p l e R s m args below meth c T locs cells slots) (hlk : meth.locks = false) (hret : meth.sig.returnType = some t)
    (st : ∀ fs, (∀ (f : JFrame) (acts : List Action), f.method = m → f.locked = none → f.entered = [] → (doReturn e (T.setTop f) acts (some w)).1 = T.setFrames fs) → Steps p.tables e below (T.setTop (mkF m pc Ls S)) (T.setFrames fs))
    (hc : cells ≤ rc) (hs : slots ≤ rs) (eT : T.heap = h) (hq : Q (some w) h locs) : own_Goes p e below (T.setTop (mkF m pc Ls S)) (own_post s Q rc rs) := by
  subst eT
  obtain ⟨fs, hr, hrun, hended, hW, hsame⟩ := X.leave (v := some w) (fun h => by rw [hret] at h; cases h) hlk
  exact ⟨_, _, st fs hr, hrun, hended, _, _, rfl, hq, ⟨_, rfl⟩, hW, hsame.mono hc hs⟩
theorem own_retI {rest : List Value} {pc : Nat} {Ls : Array Slot} {z : Int32} (X : Stand p l e R s m args below meth c T locs cells slots) (hx : p.tables.exec = Jvm.exec) (hlk : meth.locks = false) (hret : meth.sig.returnType = some .int) (hd : decode c.code pc = .ok (.ireturn, 1))
    (hc : cells ≤ rc) (hs : slots ≤ rs) (eT : T.heap = h) (hq : Q (some (.int z)) h locs) : own_Goes p e below (T.setTop (mkF m pc Ls (.int z :: rest))) (own_post s Q rc rs) :=
  own_ret X hlk hret (fun fs hr => retOut X hx hret rfl (Or.inl ⟨rfl, Or.inl rfl, z, rfl⟩) hd hr) hc hs eT hq
theorem own_retN {rest : List Value} {pc : Nat} {Ls : Array Slot} {z z' : Int32} {t : FieldType} (X : Stand p l e R s m args below meth c T locs cells slots) (hx : p.tables.exec = Jvm.exec) (hlk : meth.locks = false) (hret : meth.sig.returnType = some t) (ht : t = .boolean ∨ t = .byte ∨ t = .char ∨ t = .short) (hn : nar t z = z') (hd : decode c.code pc = .ok (.ireturn, 1))
    (hc : cells ≤ rc) (hs : slots ≤ rs) (eT : T.heap = h) (hq : Q (some (.int z')) h locs) : own_Goes p e below (T.setTop (mkF m pc Ls (.int z :: rest))) (own_post s Q rc rs) :=
  own_ret X hlk hret (fun fs hr => retN X hx hret ht hd (by rw [hn]; exact hr)) hc hs eT hq
theorem own_retJ {rest : List Value} {pc : Nat} {Ls : Array Slot} {z : Int64} (X : Stand p l e R s m args below meth c T locs cells slots) (hx : p.tables.exec = Jvm.exec) (hlk : meth.locks = false) (hret : meth.sig.returnType = some .long) (hd : decode c.code pc = .ok (.lreturn, 1))
    (hc : cells ≤ rc) (hs : slots ≤ rs) (eT : T.heap = h) (hq : Q (some (.long z)) h locs) : own_Goes p e below (T.setTop (mkF m pc Ls (.long z :: rest))) (own_post s Q rc rs) :=
  own_ret X hlk hret (fun fs hr => retOut X hx hret rfl (Or.inr (Or.inl ⟨rfl, rfl, z, rfl⟩)) hd hr) hc hs eT hq
theorem own_retA {rest : List Value} {pc : Nat} {Ls : Array Slot} {w : Value} {t : FieldType} (X : Stand p l e R s m args below meth c T locs cells slots) (hx : p.tables.exec = Jvm.exec) (hlk : meth.locks = false) (hret : meth.sig.returnType = some t) (ht : t.isReference = true) (hw : w.isRef = true) (hn : narrow t w = w) (hd : decode c.code pc = .ok (.areturn, 1))
    (hc : cells ≤ rc) (hs : slots ≤ rs) (eT : T.heap = h) (hq : Q (some w) h locs) : own_Goes p e below (T.setTop (mkF m pc Ls (w :: rest))) (own_post s Q rc rs) :=
  own_ret X hlk hret (fun fs hr => retOut X hx hret hn (Or.inr (Or.inr (Or.inr (Or.inr ⟨rfl, ht, hw⟩)))) hd hr) hc hs eT hq
theorem own_retV {pc : Nat} {Ls : Array Slot} (X : Stand p l e R s m args below meth c T locs cells slots) (hx : p.tables.exec = Jvm.exec) (hlk : meth.locks = false) (hret : meth.sig.returnType = none) (hd : decode c.code pc = .ok (.return_, 1))
    (hc : cells ≤ rc) (hs : slots ≤ rs) (eT : T.heap = h) (hq : Q none h locs) : own_Goes p e below (T.setTop (mkF m pc Ls [])) (own_post s Q rc rs) := by
  subst eT
  obtain ⟨fs, hr, hrun, hended, hW, hsame⟩ := X.leave (v := none) (fun _ => rfl) hlk
  exact ⟨_, _, X.returnOut hx hret hd hr, hrun, hended, _, _, rfl, hq, ⟨_, rfl⟩, hW, hsame.mono hc hs⟩
/-- what a body's theorem says -/
abbrev own_Ct (l : Launch) (Z : State) (y : MethodName) (bytes : ByteArray) (maxL : Nat) (ret : Option FieldType) (ws : List Jvm.Cond) (rm : Room) (as' : Array Value) (h0 : Heap) (Q : Option Value → Heap → List Loc → Prop) (rc rs : Nat) : Prop :=
  MetFree l y (head1 (Jvm.Cond.code y bytes maxL ret :: ws) rm) (fun a U => a = as' ∧ Z.Warmed39 U.vm ∧ U.heap = h0) (fun _ _ _ _ _ => True) (fun _ U o U' => ∃ v L, o = .returned v ∧ Q v U'.heap L ∧ FrameEnd U o U' L rc rs)
theorem own_met {y : MethodName} {bytes : ByteArray} {maxL : Nat} {ret : Option FieldType} {ws : List Jvm.Cond} {rm : Room} {as' : Array Value} {h0 : Heap} (hp : plainFor y = true)
    (body : ∀ p e s m below meth c s₁, Stand p l e rm s m as' below meth c s₁ [] 0 0 → p.tables.exec = Jvm.exec → c.code = bytes → c.maxLocals = maxL → meth.sig.returnType = ret → meth.locks = false → meth.name = y.name → s.vm.findClass y.cls = some m.cls → Z.Warmed39 s.vm → s₁.heap = h0 →
      own_Goes p e below (s₁.setTop (entryFrame m as' maxL)) (own_post s Q rc rs)) : own_Ct l Z y bytes maxL ret ws rm as' h0 Q rc rs := by
  refine MetFree.of_bodySF hp hisR ?_
  intro p e s m args below meth c s₁ Bd hml0 hP hK
  obtain ⟨rfl, hZ, hh⟩ := hP
  exact body p e s m below meth c s₁ (Stand.of_body Bd) Bd.exec Bd.bytes hml0 Bd.returns Bd.notSynchronized (name_of_methodNamed Bd.named Bd.method).1 (findClass_of_methodNamed Bd.named) hZ (by rw [← hh, Bd.state]; rfl)
theorem own_callS {own : String} {index : Nat} {y : MethodName} {bytes : ByteArray} {maxL : Nat} {ret : Option FieldType} {rm : Room} {argsL rest : List Value} {pc W : Nat} {Ls : Array Slot} (X : Stand p l e R s m args below meth c T locs cells slots) (hx : p.tables.exec = Jvm.exec) (hZ : Z.Warmed39 s.vm) (hown : s.vm.findClass own = some m.cls)
    (w1 : (Jvm.Cond.methodLink own index y).before a0 Z = true) (w2 : (Jvm.Cond.static y).before a0 Z = true) (w3 : (Jvm.Cond.initialized y.cls).before a0 Z = true) (w4 : (Jvm.Cond.code y bytes maxL ret).before a0 Z = true) (hy : y.cls ≠ "java/lang/invoke/MethodHandle" ∧ y.cls ≠ "java/lang/invoke/VarHandle")
    (M : own_Ct l Z y bytes maxL ret [] rm argsL.toArray h Q rm.cells rm.slots) (hf : rm.frames + 1 ≤ R.frames) (hl : W + (maxL + 11) + rm.locals ≤ R.locals) (eT : T.heap = h) (hsize : Ls.size = c.maxLocals)
    (hlen : ∀ sig, parseMethodDescriptor y.desc = some sig → argsL.length = sig.parameters.length) {S : List Value} (hS : S = argsL.reverse ++ rest) (hW : (rest.map fun v => v.category).sum ≤ W) (hd : decode c.code pc = .ok (.invokestatic index, 3)) (hc : cells + rm.cells ≤ R.cells) (hs : slots + rm.slots ≤ R.slots) :
    ∃ v T' h' L, Stand p l e R s m args below meth c T' (locs ++ L) (cells + rm.cells) (slots + rm.slots) ∧ T'.heap = h' ∧ Q v h' L ∧ ∀ t, Steps p.tables e below (T'.setTop (mkF m (pc + 3) Ls (v.toList ++ rest))) t → Steps p.tables e below (T.setTop (mkF m pc Ls S)) t := by
  obtain ⟨v, _, ⟨T4, L4, k4, n4⟩, -, X4, ⟨Lc, hQ, l4, y4, z4⟩, st⟩ := Jvm.LawKit.callS X hx hown (mvT hZ w1) (mvT hZ w2) (mvT hZ w3) (mvT hZ w4) hy (backOf (W := W) M hZ w4 w3 hf hl) (g := mkF m pc Ls S) rfl hsize (argsL := argsL) (rest := rest) hlen hS (by show 2 * 0 + _ ≤ _; omega) hd (fun _ _ => ⟨rfl, eT, hc, hs⟩)
  dsimp only [Pt.U, Pt.locs, Pt.cells, Pt.slots] at X4 l4 y4 z4 st hQ
  subst l4 y4 z4
  exact ⟨v, T4, _, Lc, X4, rfl, hQ, st⟩
theorem own_callV {own C : String} {index : Nat} {y z : MethodName} {bytes : ByteArray} {maxL : Nat} {ret : Option FieldType} {rm : Room} {b : Addr} {argsL rest : List Value} {pc W : Nat} {Ls : Array Slot} (X : Stand p l e R s m args below meth c T locs cells slots) (hx : p.tables.exec = Jvm.exec) (hZ : Z.Warmed39 s.vm) (hown : s.vm.findClass own = some m.cls)
    (w1 : (Jvm.Cond.methodLink own index y).before a0 Z = true) (w2 : (Jvm.Cond.declares y).before a0 Z = true) (w5 : (Jvm.Cond.selects C y z).before a0 Z = true) (w6 : (Jvm.Cond.instanceMethod z).before a0 Z = true) (w3 : (Jvm.Cond.initialized z.cls).before a0 Z = true) (w4 : (Jvm.Cond.code z bytes maxL ret).before a0 Z = true) (hnf : NotFace s y) (hy : y.cls ≠ "java/lang/invoke/MethodHandle" ∧ y.cls ≠ "java/lang/invoke/VarHandle")
    (M : own_Ct l Z z bytes maxL ret [] rm (.ref b :: argsL).toArray h Q rm.cells rm.slots) (hf : rm.frames + 1 ≤ R.frames) (hl : W + (maxL + 11) + rm.locals ≤ R.locals) (eT : T.heap = h) (E : Exa Z h b C) (hsize : Ls.size = c.maxLocals)
    (hlen : ∀ sig, parseMethodDescriptor y.desc = some sig → argsL.length = sig.parameters.length) {S : List Value} (hS : S = argsL.reverse ++ .ref b :: rest) (hW : (rest.map fun v => v.category).sum ≤ W) (hd : decode c.code pc = .ok (.invokevirtual index, 3)) (hc : cells + rm.cells ≤ R.cells) (hs : slots + rm.slots ≤ R.slots) :
    ∃ v T' h' L, Stand p l e R s m args below meth c T' (locs ++ L) (cells + rm.cells) (slots + rm.slots) ∧ T'.heap = h' ∧ Q v h' L ∧ ∀ t, Steps p.tables e below (T'.setTop (mkF m (pc + 3) Ls (v.toList ++ rest))) t → Steps p.tables e below (T.setTop (mkF m pc Ls S)) t := by
  obtain ⟨cq, kq, qa, qb, qc⟩ := isOf hZ eT E
  obtain ⟨v, _, ⟨T4, L4, k4, n4⟩, -, X4, ⟨Lc, hQ, l4, y4, z4⟩, st⟩ := X.virtualBack hx (y := y) (z := z) hown (mvT hZ w1) (mvT hZ w2) hnf (mvT hZ w5) (mvT hZ w6) hy (backOf (W := W) M hZ w4 w3 hf hl) qa qc (g := mkF m pc Ls S) rfl hsize (Steps.refl _) (argsL := argsL) (rest := rest) hlen hS (by show 2 * 0 + _ ≤ _; omega) hd (fun _ _ => ⟨rfl, eT, hc, hs⟩)
  dsimp only [Pt.U, Pt.locs, Pt.cells, Pt.slots] at X4 l4 y4 z4 st hQ
  subst l4 y4 z4
  exact ⟨v, T4, _, Lc, X4, rfl, hQ, fun t k => st.trans k⟩
theorem own_callU {own C owner : String} {index : Nat} {y z : MethodName} {bytes : ByteArray} {maxL : Nat} {ret : Option FieldType} {rm : Room} {b : Addr} {argsL rest : List Value} {pc W : Nat} {Ls : Array Slot} (X : Stand p l e R s m args below meth c T locs cells slots) (hx : p.tables.exec = Jvm.exec) (hZ : Z.Warmed39 s.vm) (hown : s.vm.findClass own = some m.cls)
    (w1 : (Jvm.Cond.methodLink own index y).before a0 Z = true) (w0 : (Jvm.Cond.sameMethod y.cls owner y.name y.desc).before a0 Z = true) (w2 : (Jvm.Cond.declares ⟨owner, y.name, y.desc⟩).before a0 Z = true) (w5 : (Jvm.Cond.selects C y z).before a0 Z = true) (w6 : (Jvm.Cond.instanceMethod z).before a0 Z = true) (w3 : (Jvm.Cond.initialized z.cls).before a0 Z = true) (w4 : (Jvm.Cond.code z bytes maxL ret).before a0 Z = true) (hy : owner ≠ "java/lang/invoke/MethodHandle" ∧ owner ≠ "java/lang/invoke/VarHandle")
    (M : own_Ct l Z z bytes maxL ret [] rm (.ref b :: argsL).toArray h Q rm.cells rm.slots) (hf : rm.frames + 1 ≤ R.frames) (hl : W + (maxL + 11) + rm.locals ≤ R.locals) (eT : T.heap = h) (E : Exa Z h b C) (hsize : Ls.size = c.maxLocals)
    (hlen : ∀ sig, parseMethodDescriptor y.desc = some sig → argsL.length = sig.parameters.length) {S : List Value} (hS : S = argsL.reverse ++ .ref b :: rest) (hW : (rest.map fun v => v.category).sum ≤ W) (hd : decode c.code pc = .ok (.invokevirtual index, 3)) (hc : cells + rm.cells ≤ R.cells) (hs : slots + rm.slots ≤ R.slots) :
    ∃ v T' h' L, Stand p l e R s m args below meth c T' (locs ++ L) (cells + rm.cells) (slots + rm.slots) ∧ T'.heap = h' ∧ Q v h' L ∧ ∀ t, Steps p.tables e below (T'.setTop (mkF m (pc + 3) Ls (v.toList ++ rest))) t → Steps p.tables e below (T.setTop (mkF m pc Ls S)) t := by
  obtain ⟨cq, kq, qa, qb, qc⟩ := isOf hZ eT E
  obtain ⟨v, _, ⟨T4, L4, k4, n4⟩, -, X4, ⟨Lc, hQ, l4, y4, z4⟩, st⟩ := X.virtualBackUp hx (x := y) (y := z) hown (mvT hZ w1) (mvT hZ w0) (mvT hZ w2) hy (mvT hZ w5) (mvT hZ w6) (backOf (W := W) M hZ w4 w3 hf hl) qa qc (g := mkF m pc Ls S) rfl hsize (Steps.refl _) (argsL := argsL) (rest := rest) hlen hS (by show 2 * 0 + _ ≤ _; omega) hd (fun _ _ => ⟨rfl, eT, hc, hs⟩)
  dsimp only [Pt.U, Pt.locs, Pt.cells, Pt.slots] at X4 l4 y4 z4 st hQ
  subst l4 y4 z4
  exact ⟨v, T4, _, Lc, X4, rfl, hQ, fun t k => st.trans k⟩
theorem own_callP {own : String} {index : Nat} {y y' : MethodName} {bytes : ByteArray} {maxL : Nat} {ret : Option FieldType} {rm : Room} {b : Addr} {argsL rest : List Value} {pc W : Nat} {Ls : Array Slot} (X : Stand p l e R s m args below meth c T locs cells slots) (hx : p.tables.exec = Jvm.exec) (hZ : Z.Warmed39 s.vm) (hown : s.vm.findClass own = some m.cls)
    (w1 : (Jvm.Cond.methodLink own index y).before a0 Z = true) (w6 : (Jvm.Cond.instanceMethod y).before a0 Z = true) (w7 : (Jvm.Cond.privateMethod y).before a0 Z = true) (w5 : (Jvm.Cond.selects y.cls y' y').before a0 Z = true) (hy' : y'.cls = y.cls) (w3 : (Jvm.Cond.initialized y.cls).before a0 Z = true) (w4 : (Jvm.Cond.code y bytes maxL ret).before a0 Z = true) (hy : y.cls ≠ "java/lang/invoke/MethodHandle" ∧ y.cls ≠ "java/lang/invoke/VarHandle")
    (M : own_Ct l Z y bytes maxL ret [] rm (.ref b :: argsL).toArray h Q rm.cells rm.slots) (hf : rm.frames + 1 ≤ R.frames) (hl : W + (maxL + 11) + rm.locals ≤ R.locals) (eT : T.heap = h) {C : String} (E : Exa Z h b C) (hsize : Ls.size = c.maxLocals)
    (hlen : ∀ sig, parseMethodDescriptor y.desc = some sig → argsL.length = sig.parameters.length) {S : List Value} (hS : S = argsL.reverse ++ .ref b :: rest) (hW : (rest.map fun v => v.category).sum ≤ W) (hd : decode c.code pc = .ok (.invokevirtual index, 3)) (hc : cells + rm.cells ≤ R.cells) (hs : slots + rm.slots ≤ R.slots) :
    ∃ v T' h' L, Stand p l e R s m args below meth c T' (locs ++ L) (cells + rm.cells) (slots + rm.slots) ∧ T'.heap = h' ∧ Q v h' L ∧ ∀ t, Steps p.tables e below (T'.setTop (mkF m (pc + 3) Ls (v.toList ++ rest))) t → Steps p.tables e below (T.setTop (mkF m pc Ls S)) t := by
  obtain ⟨cq, q1, q2⟩ := E.cell
  have hpv : s.PrivateAt y := Cond.privateMethod_at (mvP hZ w7 (args := #[]))
  have hnf : NotFace s y' := notFace_of_selects (args := #[]) (mvT hZ w5)
  obtain ⟨c2, r2, m2, k1, k2, k3, k4, kP, hkP, hkPi⟩ := Cond.selects_spec (mvT (args := #[]) hZ w5)
  have k5 := findClass_of_methodNamed k3
  rw [hy'] at k5
  obtain ⟨v, _, ⟨T4, L4, k4, n4⟩, -, X4, ⟨Lc, hQ, l4, y4, z4⟩, st⟩ := X.privateBack hx hown (mvT hZ w1) (mvT hZ w6) (selects_self_of_private k5 hkP hkPi hpv (mvT hZ w6) hy) hpv (mvT hZ w4) hy (backOf (W := W) M hZ w4 w3 hf hl) (g := mkF m pc Ls S) rfl hsize (Steps.refl _) (a := b) (by rw [eT]; exact q1) q2 (argsL := argsL) (rest := rest) hlen hS (by show 2 * 0 + _ ≤ _; omega) hd (fun _ _ => ⟨rfl, eT, hc, hs⟩)
  dsimp only [Pt.U, Pt.locs, Pt.cells, Pt.slots] at X4 l4 y4 z4 st hQ
  subst l4 y4 z4
  exact ⟨v, T4, _, Lc, X4, rfl, hQ, fun t k => st.trans k⟩
theorem own_callI {own : String} {index : Nat} {y : MethodName} {bytes : ByteArray} {maxL : Nat} {rm : Room} {b : Addr} {argsL rest : List Value} {pc W : Nat} {Ls : Array Slot} (X : Stand p l e R s m args below meth c T locs cells slots) (hx : p.tables.exec = Jvm.exec) (hZ : Z.Warmed39 s.vm) (hown : s.vm.findClass own = some m.cls) (hi : y.name = "<init>")
    (w1 : (Jvm.Cond.methodLink own index y).before a0 Z = true) (w6 : (Jvm.Cond.instanceMethod y).before a0 Z = true) (w3 : (Jvm.Cond.initialized y.cls).before a0 Z = true) (w4 : (Jvm.Cond.code y bytes maxL none).before a0 Z = true) (hy : y.cls ≠ "java/lang/invoke/MethodHandle" ∧ y.cls ≠ "java/lang/invoke/VarHandle")
    (M : own_Ct l Z y bytes maxL none [] rm (.ref b :: argsL).toArray h Q rm.cells rm.slots) (hf : rm.frames + 1 ≤ R.frames) (hl : W + (maxL + 11) + rm.locals ≤ R.locals) (eT : T.heap = h) (hsize : Ls.size = c.maxLocals)
    (hlen : ∀ sig, parseMethodDescriptor y.desc = some sig → argsL.length = sig.parameters.length) {S : List Value} (hS : S = argsL.reverse ++ .ref b :: rest) (hW : (rest.map fun v => v.category).sum ≤ W) (hd : decode c.code pc = .ok (.invokespecial index, 3)) (hc : cells + rm.cells ≤ R.cells) (hs : slots + rm.slots ≤ R.slots) :
    ∃ v T' h' L, Stand p l e R s m args below meth c T' (locs ++ L) (cells + rm.cells) (slots + rm.slots) ∧ T'.heap = h' ∧ Q v h' L ∧ ∀ t, Steps p.tables e below (T'.setTop (mkF m (pc + 3) Ls (v.toList ++ rest))) t → Steps p.tables e below (T.setTop (mkF m pc Ls S)) t := by
  obtain ⟨v, _, ⟨T4, L4, k4, n4⟩, -, X4, ⟨Lc, hQ, l4, y4, z4⟩, st⟩ := X.specialBack hx hi hown (mvT hZ w1) (mvT hZ w6) (mvT hZ w4) hy (backOf (W := W) M hZ w4 w3 hf hl) (g := mkF m pc Ls S) rfl hsize (Steps.refl _) (a := b) (argsL := argsL) (rest := rest) hlen hS (by show 2 * 0 + _ ≤ _; omega) hd (fun _ _ => ⟨rfl, eT, hc, hs⟩)
  dsimp only [Pt.U, Pt.locs, Pt.cells, Pt.slots] at X4 l4 y4 z4 st hQ
  subst l4 y4 z4
  exact ⟨v, T4, _, Lc, X4, rfl, hQ, fun t k => st.trans k⟩
theorem own_eqI {st : State} {t : Term} {z : Int32} (k : (Jvm.Cond.eq t (Term.int z)).value args st none st [] = some true) : t.eval args st none [] st = some (.int z) := by
  simp only [Jvm.Cond.value, Term.eval] at k
  cases ht : t.eval args st none [] st with
  | none => simp [ht] at k
  | some q => cases q <;> simp [ht] at k ⊢; exact k
theorem own_eqR {st : State} {t u : Term} {b : Addr} (k : (Jvm.Cond.eq t u).value args st none st [] = some true) (hu : u.eval args st none [] st = some (.ref b)) : t.eval args st none [] st = some (.ref b) := by
  simp only [Jvm.Cond.value] at k
  cases ht : t.eval args st none [] st with
  | none => simp [ht] at k
  | some q => cases q <;> simp [ht, hu] at k ⊢; exact k
end Own

theorem pn_com_example_charon_charon_ApiVersion : plainName "com/example/charon/charon/ApiVersion" = true := by first | (simp [plainName, overriddenIn]; done) | decide +kernel
theorem pn_com_example_charon_charon_ApiVersionActivatesPinLaw : plainName "com/example/charon/charon/ApiVersionActivatesPinLaw" = true := by first | (simp [plainName, overriddenIn]; done) | decide +kernel
theorem pd___Z : parseMethodDescriptor "()Z" = some ⟨[], some .boolean⟩ := by decide +kernel
theorem pd___Lcom_example_charon_charon_ChargeStatus_ : parseMethodDescriptor "()Lcom/example/charon/charon/ChargeStatus;" = some ⟨[], some (.object "com/example/charon/charon/ChargeStatus")⟩ := by decide +kernel
/-! the plain law -/
theorem own_and3 (x : Int32) : ∃ c : Int32, (x &&& (3 : Int32)) = c ∧ (c = 0 ∨ c = 1 ∨ c = 2 ∨ c = 3) := by
  have e1 : (x &&& (3 : Int32)).toInt = x.toInt % (2 ^ 2 : Nat) := c_mask x _ 2 (by decide) (by decide)
  refine ⟨_, rfl, ?_⟩
  generalize (x &&& (3 : Int32)) = c at *
  have e6 : (0 : Int32).toInt = 0 := by decide
  have e7 : (1 : Int32).toInt = 1 := by decide
  have e8 : (2 : Int32).toInt = 2 := by decide
  have e9 : (3 : Int32).toInt = 3 := by decide
  simp only [← Int32.toInt_inj, e6, e7, e8, e9]; omega

theorem d2_0 : decode prog_1_method_5_code 0 = .ok (.aload_n 0, 1) := by decide +kernel
theorem d2_1 : decode prog_1_method_5_code 1 = .ok (.getfield 35, 3) := by decide +kernel
theorem d2_4 : decode prog_1_method_5_code 4 = .ok (.areturn, 1) := by decide +kernel
theorem ef_2 (m : MethodId) (a1 : Addr) : entryFrame m #[(.ref a1)] 1 = mkF m 0 #[.val (.ref a1)] [] := by first | (simp [entryFrame, mkF, argsToLocals, Value.category]; done) | rfl
set_option maxRecDepth 65536 in
set_option maxHeartbeats 40000000 in
theorem rm2 (l : Launch) (Z : State) (a0 : Array Value) (hw : ∀ d ∈ tables_1, d.before a0 Z = true) (ws : List Jvm.Cond) (a1 c1 : Addr) (h0 : Heap) (n0 : Nat) (Z0 : n0 ≤ h0.size) (F1 : Fld Z h0 a1 "com/example/charon/charon/ApiVersion" "approved" "Lcom/example/charon/charon/ChargeStatus;" (.ref c1)) :
    own_Ct l Z (⟨"com/example/charon/charon/ApiVersion", "approved", "()Lcom/example/charon/charon/ChargeStatus;"⟩ : MethodName) prog_1_method_5_code 1 (some (.object "com/example/charon/charon/ChargeStatus")) ws ({ frames := 0, cells := 0, slots := 0, locals := 0 } : Room) #[(.ref a1)] h0 (fun v h L => v = some (.ref c1) ∧ L = [] ∧ h = h0) ({ frames := 0, cells := 0, slots := 0, locals := 0 } : Room).cells ({ frames := 0, cells := 0, slots := 0, locals := 0 } : Room).slots := by
  refine own_met (plainFor_of_name pn_com_example_charon_charon_ApiVersion) (fun p e s m below meth c s₁ X0 hx hby hml hret hlk hnm hown hZ e0 => ?_)
  have hml : c.maxLocals = 1 := hml
  have N0 := Fr.nil n0
  refine own_st (fun _ k => castTop (ef_2 m a1) k) ?_
  show own_Goes p e below (s₁.setTop (mkF m 0 #[.val (.ref a1)] [])) _
  refine own_st (fun _ k => XS.aloadN X0.here hx rfl (hb hby d2_0) rfl rfl k) ?_
  show own_Goes p e below (s₁.setTop (mkF m 1 #[.val (.ref a1)] [(.ref a1)])) _
  obtain ⟨T1, X1, e1, st1⟩ := getF X0 hx hZ hown (host := "") (Or.inl (hw _ (List.mem_of_getElem? (i := 8) rfl))) Via.refl e0 F1 (g := (mkF m 1 #[.val (.ref a1)] [(.ref a1)])) rfl rfl (hb hby d2_1)
  refine own_st st1 ?_
  show own_Goes p e below (T1.setTop (mkF m 4 #[.val (.ref a1)] [(.ref c1)])) _
  exact own_retA X1 hx hlk hret rfl rfl rfl (hb hby d2_4) (by decide) (by decide) e1 ⟨rfl, rfl, rfl⟩
theorem d1_0 : decode prog_1_method_6_code 0 = .ok (.aload_n 0, 1) := by decide +kernel
theorem d1_1 : decode prog_1_method_6_code 1 = .ok (.getfield 35, 3) := by decide +kernel
theorem d1_4 : decode prog_1_method_6_code 4 = .ok (.getstatic 81, 3) := by decide +kernel
theorem d1_7 : decode prog_1_method_6_code 7 = .ok (.if_acmp .ne 7, 3) := by decide +kernel
theorem d1_10 : decode prog_1_method_6_code 10 = .ok (.iconst 1, 1) := by decide +kernel
theorem d1_11 : decode prog_1_method_6_code 11 = .ok (.goto 4, 3) := by decide +kernel
theorem d1_14 : decode prog_1_method_6_code 14 = .ok (.iconst 0, 1) := by decide +kernel
theorem d1_15 : decode prog_1_method_6_code 15 = .ok (.ireturn, 1) := by decide +kernel
theorem ef_1 (m : MethodId) (a1 : Addr) : entryFrame m #[(.ref a1)] 1 = mkF m 0 #[.val (.ref a1)] [] := by first | (simp [entryFrame, mkF, argsToLocals, Value.category]; done) | rfl
set_option maxRecDepth 65536 in
set_option maxHeartbeats 40000000 in
theorem rm1 (l : Launch) (Z : State) (a0 : Array Value) (hw : ∀ d ∈ tables_1, d.before a0 Z = true) (ws : List Jvm.Cond) (a1 c1 b1 : Addr) (r1 : Int32) (h0 : Heap) (n0 : Nat) (Z0 : n0 ≤ h0.size) (F1 : Fld Z h0 a1 "com/example/charon/charon/ApiVersion" "approved" "Lcom/example/charon/charon/ChargeStatus;" (.ref c1)) (S1 : Sta Z h0 "com/example/charon/charon/ChargeStatus" "ACCEPTED" "Lcom/example/charon/charon/ChargeStatus;" (.ref b1)) (hr1 : (c1 = b1 ∧ r1 = 1) ∨ (¬ c1 = b1 ∧ r1 = 0)) :
    own_Ct l Z (⟨"com/example/charon/charon/ApiVersion", "activates", "()Z"⟩ : MethodName) prog_1_method_6_code 1 (some .boolean) ws ({ frames := 0, cells := 0, slots := 0, locals := 0 } : Room) #[(.ref a1)] h0 (fun v h L => v = some (.int r1) ∧ L = [] ∧ h = h0) ({ frames := 0, cells := 0, slots := 0, locals := 0 } : Room).cells ({ frames := 0, cells := 0, slots := 0, locals := 0 } : Room).slots := by
  refine own_met (plainFor_of_name pn_com_example_charon_charon_ApiVersion) (fun p e s m below meth c s₁ X0 hx hby hml hret hlk hnm hown hZ e0 => ?_)
  have hml : c.maxLocals = 1 := hml
  have N0 := Fr.nil n0
  refine own_st (fun _ k => castTop (ef_1 m a1) k) ?_
  show own_Goes p e below (s₁.setTop (mkF m 0 #[.val (.ref a1)] [])) _
  refine own_st (fun _ k => XS.aloadN X0.here hx rfl (hb hby d1_0) rfl rfl k) ?_
  show own_Goes p e below (s₁.setTop (mkF m 1 #[.val (.ref a1)] [(.ref a1)])) _
  obtain ⟨T1, X1, e1, st1⟩ := getF X0 hx hZ hown (host := "") (Or.inl (hw _ (List.mem_of_getElem? (i := 8) rfl))) Via.refl e0 F1 (g := (mkF m 1 #[.val (.ref a1)] [(.ref a1)])) rfl rfl (hb hby d1_1)
  refine own_st st1 ?_
  show own_Goes p e below (T1.setTop (mkF m 4 #[.val (.ref a1)] [(.ref c1)])) _
  obtain ⟨T2, X2, e2, st2⟩ := getS2 X1 hx hZ hown (host := "") (Or.inl (hw _ (List.mem_of_getElem? (i := 12) rfl))) Via.refl e1 S1 (g := (mkF m 4 #[.val (.ref a1)] [(.ref c1)])) rfl (hb hby d1_4)
  refine own_st st2 ?_
  show own_Goes p e below (T2.setTop (mkF m 7 #[.val (.ref a1)] [(.ref b1), (.ref c1)])) _
  by_cases ha7_3 : c1 = b1
  · refine own_st (fun _ k => Jvm.RoadKit.acmp (g := (mkF m 7 #[.val (.ref a1)] [(.ref b1), (.ref c1)])) X2 hx rfl rfl rfl (pc0 := 7) (pc' := 10) (same := true) rfl (hb hby d1_7) rfl (decide_eq_true (congrArg Value.ref ha7_3)) (by decide) (by decide) k) ?_
    show own_Goes p e below (T2.setTop (mkF m 10 #[.val (.ref a1)] [])) _
    refine own_st (fun _ k => XS.iconst X2.here hx rfl (hb hby d1_10) k) ?_
    show own_Goes p e below (T2.setTop (mkF m 11 #[.val (.ref a1)] [(.int (1 : Int32))])) _
    refine own_st (fun _ k => XS.goto X2.here hx rfl (pc0 := 11) (pc' := 15) rfl (hb hby d1_11) (by decide) (by decide) k) ?_
    show own_Goes p e below (T2.setTop (mkF m 15 #[.val (.ref a1)] [(.int (1 : Int32))])) _
    exact own_retN (t := .boolean) (z' := (1 : Int32)) X2 hx hlk hret (by simp) (by decide) (hb hby d1_15) (by decide) (by decide) e2 ⟨by rcases hr1 with ⟨q, rfl⟩ | ⟨q, rfl⟩ <;> first | rfl | (exact absurd (by assumption) q) | (exact absurd q (by assumption)), rfl, rfl⟩
  · refine own_st (fun _ k => Jvm.RoadKit.acmp (g := (mkF m 7 #[.val (.ref a1)] [(.ref b1), (.ref c1)])) X2 hx rfl rfl rfl (pc0 := 7) (pc' := 14) (same := false) rfl (hb hby d1_7) rfl (decide_eq_false fun q => ha7_3 (Value.ref.inj q)) (by decide) (by decide) k) ?_
    show own_Goes p e below (T2.setTop (mkF m 14 #[.val (.ref a1)] [])) _
    refine own_st (fun _ k => XS.iconst X2.here hx rfl (hb hby d1_14) k) ?_
    show own_Goes p e below (T2.setTop (mkF m 15 #[.val (.ref a1)] [(.int (0 : Int32))])) _
    exact own_retN (t := .boolean) (z' := (0 : Int32)) X2 hx hlk hret (by simp) (by decide) (hb hby d1_15) (by decide) (by decide) e2 ⟨by rcases hr1 with ⟨q, rfl⟩ | ⟨q, rfl⟩ <;> first | rfl | (exact absurd (by assumption) q) | (exact absurd q (by assumption)), rfl, rfl⟩
theorem ef_0 (m : MethodId) (p1 : Int32) : entryFrame m #[(.int p1)] maxLocals = mkF m 0 #[.val (.int p1), .unset, .unset, .unset, .unset, .unset] [] := by first | (simp [entryFrame, mkF, argsToLocals, Value.category, maxLocals]; done) | rfl
set_option maxRecDepth 65536 in
set_option maxHeartbeats 40000000 in
theorem rm0 (l : Launch) (Z : State) (a0 : Array Value) (hw : ∀ d ∈ tables_1, d.before a0 Z = true) (ws : List Jvm.Cond) (p1 : Int32) (cy cn au as_ a21 a19 : Addr) (h0 : Heap) (n0 : Nat) (Z0 : n0 ≤ h0.size) (S_cy : Sta Z h0 "com/example/charon/charon/ChargeStatus" "ACCEPTED" "Lcom/example/charon/charon/ChargeStatus;" (.ref cy)) (hne : ¬ cn = cy) (S_au : Sta Z h0 "com/example/charon/charon/ApiVersion" "UNVERSIONED" "Lcom/example/charon/charon/ApiVersion;" (.ref au)) (E_au : Exa Z h0 au "com/example/charon/charon/ApiVersion") (F_au : Fld Z h0 au "com/example/charon/charon/ApiVersion" "approved" "Lcom/example/charon/charon/ChargeStatus;" (.ref cy)) (S_as_ : Sta Z h0 "com/example/charon/charon/ApiVersion" "UNSTABLE" "Lcom/example/charon/charon/ApiVersion;" (.ref as_)) (E_as_ : Exa Z h0 as_ "com/example/charon/charon/ApiVersion") (F_as_ : Fld Z h0 as_ "com/example/charon/charon/ApiVersion" "approved" "Lcom/example/charon/charon/ChargeStatus;" (.ref cn)) (S_a21 : Sta Z h0 "com/example/charon/charon/ApiVersion" "V2021_01" "Lcom/example/charon/charon/ApiVersion;" (.ref a21)) (E_a21 : Exa Z h0 a21 "com/example/charon/charon/ApiVersion") (F_a21 : Fld Z h0 a21 "com/example/charon/charon/ApiVersion" "approved" "Lcom/example/charon/charon/ChargeStatus;" (.ref cn)) (S_a19 : Sta Z h0 "com/example/charon/charon/ApiVersion" "V2019_10" "Lcom/example/charon/charon/ApiVersion;" (.ref a19)) (E_a19 : Exa Z h0 a19 "com/example/charon/charon/ApiVersion") (F_a19 : Fld Z h0 a19 "com/example/charon/charon/ApiVersion" "approved" "Lcom/example/charon/charon/ChargeStatus;" (.ref cy)) :
    own_Ct l Z x code maxLocals ret ws room_1 #[(.int p1)] h0 (fun v h L => v = some (.int (1 : Int32)) ∧ Fr n0 L) 0 0 := by
  refine own_met (plainFor_of_name pn_com_example_charon_charon_ApiVersionActivatesPinLaw) (fun p e s m below meth c s₁ X0 hx hby hml hret hlk hnm hown hZ e0 => ?_)
  have hml : c.maxLocals = 6 := hml
  have N0 := Fr.nil n0
  refine own_st (fun _ k => castTop (ef_0 m p1) k) ?_
  show own_Goes p e below (s₁.setTop (mkF m 0 #[.val (.int p1), .unset, .unset, .unset, .unset, .unset] [])) _
  refine own_st (fun _ k => XS.iloadN X0.here hx rfl (hb hby at_0) rfl k) ?_
  show own_Goes p e below (s₁.setTop (mkF m 1 #[.val (.int p1), .unset, .unset, .unset, .unset, .unset] [(.int p1)])) _
  refine own_st (fun _ k => XS.iconst X0.here hx rfl (hb hby at_1) k) ?_
  show own_Goes p e below (s₁.setTop (mkF m 2 #[.val (.int p1), .unset, .unset, .unset, .unset, .unset] [(.int (3 : Int32)), (.int p1)])) _
  refine own_st (fun _ k => XS.iand X0.here hx rfl (hb hby at_2) rfl k) ?_
  show own_Goes p e below (s₁.setTop (mkF m 3 #[.val (.int p1), .unset, .unset, .unset, .unset, .unset] [(.int (p1 &&& (3 : Int32)))])) _
  obtain ⟨k0, hk0, hv0⟩ := own_and3 p1
  rw [hk0]
  rcases hv0 with rfl | rfl | rfl | rfl
  · show own_Goes p e below (s₁.setTop (mkF m 3 #[.val (.int p1), .unset, .unset, .unset, .unset, .unset] [(.int (0 : Int32))])) _
    refine own_st (fun _ k => XS.istoreN X0.here hx rfl (hb hby at_3) rfl (l' := #[.val (.int p1), .val (.int (0 : Int32)), .unset, .unset, .unset, .unset]) rfl k) ?_
    show own_Goes p e below (s₁.setTop (mkF m 4 #[.val (.int p1), .val (.int (0 : Int32)), .unset, .unset, .unset, .unset] [])) _
    refine own_st (fun _ k => XS.iloadN X0.here hx rfl (hb hby at_4) rfl k) ?_
    show own_Goes p e below (s₁.setTop (mkF m 5 #[.val (.int p1), .val (.int (0 : Int32)), .unset, .unset, .unset, .unset] [(.int (0 : Int32))])) _
    refine own_st (fun _ k => XS.ifNo X0.here hx rfl (hb hby at_5) rfl ((if0 _ _).trans (teq (by decide : (0 : Int32) = (0 : Int32))).2) k) ?_
    show own_Goes p e below (s₁.setTop (mkF m 8 #[.val (.int p1), .val (.int (0 : Int32)), .unset, .unset, .unset, .unset] [])) _
    obtain ⟨T1, X1, e1, st1⟩ := getS2 X0 hx hZ hown (host := "") (Or.inl (hw _ (List.mem_of_getElem? (i := 0) rfl))) Via.refl e0 S_au (g := (mkF m 8 #[.val (.int p1), .val (.int (0 : Int32)), .unset, .unset, .unset, .unset] [])) rfl (hb hby at_8)
    refine own_st st1 ?_
    show own_Goes p e below (T1.setTop (mkF m 11 #[.val (.int p1), .val (.int (0 : Int32)), .unset, .unset, .unset, .unset] [(.ref au)])) _
    refine own_st (fun _ k => XS.astoreN X1.here hx rfl (hb hby at_11) rfl rfl (l' := #[.val (.int p1), .val (.int (0 : Int32)), .val (.ref au), .unset, .unset, .unset]) rfl k) ?_
    show own_Goes p e below (T1.setTop (mkF m 12 #[.val (.int p1), .val (.int (0 : Int32)), .val (.ref au), .unset, .unset, .unset] [])) _
    refine own_st (fun _ k => XS.iconst X1.here hx rfl (hb hby at_12) k) ?_
    show own_Goes p e below (T1.setTop (mkF m 13 #[.val (.int p1), .val (.int (0 : Int32)), .val (.ref au), .unset, .unset, .unset] [(.int (1 : Int32))])) _
    refine own_st (fun _ k => XS.istoreN X1.here hx rfl (hb hby at_13) rfl (l' := #[.val (.int p1), .val (.int (0 : Int32)), .val (.ref au), .val (.int (1 : Int32)), .unset, .unset]) rfl k) ?_
    show own_Goes p e below (T1.setTop (mkF m 14 #[.val (.int p1), .val (.int (0 : Int32)), .val (.ref au), .val (.int (1 : Int32)), .unset, .unset] [])) _
    refine own_st (fun _ k => XS.goto X1.here hx rfl (pc0 := 14) (pc' := 51) rfl (hb hby at_14) (by decide) (by decide) k) ?_
    show own_Goes p e below (T1.setTop (mkF m 51 #[.val (.int p1), .val (.int (0 : Int32)), .val (.ref au), .val (.int (1 : Int32)), .unset, .unset] [])) _
    refine own_st (fun _ k => XS.aloadN X1.here hx rfl (hb hby at_51) rfl rfl k) ?_
    show own_Goes p e below (T1.setTop (mkF m 52 #[.val (.int p1), .val (.int (0 : Int32)), .val (.ref au), .val (.int (1 : Int32)), .unset, .unset] [(.ref au)])) _
    obtain ⟨_, T2, h2, L2, X2, e2, ⟨rfl, rfl, q2⟩, st2⟩ := own_callV (argsL := []) (rest := []) (pc := 52) (W := 0) (Ls := #[.val (.int p1), .val (.int (0 : Int32)), .val (.ref au), .val (.int (1 : Int32)), .unset, .unset]) (S := [(.ref au)]) X1 hx hZ hown (hw _ (List.mem_of_getElem? (i := 3) rfl)) (hw _ (List.mem_of_getElem? (i := 4) rfl)) (hw _ (List.mem_of_getElem? (i := 6) rfl)) (hw _ (List.mem_of_getElem? (i := 5) rfl)) (hw _ (List.mem_of_getElem? (i := 1) rfl)) (hw _ (List.mem_of_getElem? (i := 7) rfl)) (notFace_of_selects (args := #[]) (mvT hZ (hw _ (List.mem_of_getElem? (i := 6) rfl)))) (by decide) (rm1 l Z a0 hw [] au cy cy (1 : Int32) h0 n0 Z0 F_au S_cy (Or.inl ⟨rfl, rfl⟩)) (by decide) (by decide) e1 E_au (by rw [hml]; rfl) (lenOf pd___Z rfl) rfl (Nat.le_of_eq rfl) (hb hby at_52) (by decide) (by decide)
    refine own_st st2 ?_
    show own_Goes p e below (T2.setTop (mkF m 55 #[.val (.int p1), .val (.int (0 : Int32)), .val (.ref au), .val (.int (1 : Int32)), .unset, .unset] [(.int (1 : Int32))])) _
    refine own_st (fun _ k => XS.istore X2.here hx rfl (hb hby at_55) rfl (l' := #[.val (.int p1), .val (.int (0 : Int32)), .val (.ref au), .val (.int (1 : Int32)), .val (.int (1 : Int32)), .unset]) rfl k) ?_
    show own_Goes p e below (T2.setTop (mkF m 57 #[.val (.int p1), .val (.int (0 : Int32)), .val (.ref au), .val (.int (1 : Int32)), .val (.int (1 : Int32)), .unset] [])) _
    refine own_st (fun _ k => XS.aloadN X2.here hx rfl (hb hby at_57) rfl rfl k) ?_
    show own_Goes p e below (T2.setTop (mkF m 58 #[.val (.int p1), .val (.int (0 : Int32)), .val (.ref au), .val (.int (1 : Int32)), .val (.int (1 : Int32)), .unset] [(.ref au)])) _
    obtain ⟨_, T3, h3, L3, X3, e3, ⟨rfl, rfl, q3⟩, st3⟩ := own_callV (argsL := []) (rest := []) (pc := 58) (W := 0) (Ls := #[.val (.int p1), .val (.int (0 : Int32)), .val (.ref au), .val (.int (1 : Int32)), .val (.int (1 : Int32)), .unset]) (S := [(.ref au)]) X2 hx hZ hown (hw _ (List.mem_of_getElem? (i := 13) rfl)) (hw _ (List.mem_of_getElem? (i := 14) rfl)) (hw _ (List.mem_of_getElem? (i := 16) rfl)) (hw _ (List.mem_of_getElem? (i := 15) rfl)) (hw _ (List.mem_of_getElem? (i := 1) rfl)) (hw _ (List.mem_of_getElem? (i := 17) rfl)) (notFace_of_selects (args := #[]) (mvT hZ (hw _ (List.mem_of_getElem? (i := 16) rfl)))) (by decide) (rm2 l Z a0 hw [] au cy h0 n0 Z0 F_au) (by decide) (by decide) (e2.trans q2) E_au (by rw [hml]; rfl) (lenOf pd___Lcom_example_charon_charon_ChargeStatus_ rfl) rfl (Nat.le_of_eq rfl) (hb hby at_58) (by decide) (by decide)
    refine own_st st3 ?_
    show own_Goes p e below (T3.setTop (mkF m 61 #[.val (.int p1), .val (.int (0 : Int32)), .val (.ref au), .val (.int (1 : Int32)), .val (.int (1 : Int32)), .unset] [(.ref cy)])) _
    obtain ⟨T4, X4, e4, st4⟩ := getS2 X3 hx hZ hown (host := "") (Or.inl (hw _ (List.mem_of_getElem? (i := 18) rfl))) Via.refl (e3.trans q3) S_cy (g := (mkF m 61 #[.val (.int p1), .val (.int (0 : Int32)), .val (.ref au), .val (.int (1 : Int32)), .val (.int (1 : Int32)), .unset] [(.ref cy)])) rfl (hb hby at_61)
    refine own_st st4 ?_
    show own_Goes p e below (T4.setTop (mkF m 64 #[.val (.int p1), .val (.int (0 : Int32)), .val (.ref au), .val (.int (1 : Int32)), .val (.int (1 : Int32)), .unset] [(.ref cy), (.ref cy)])) _
    refine own_st (fun _ k => Jvm.RoadKit.acmp (g := (mkF m 64 #[.val (.int p1), .val (.int (0 : Int32)), .val (.ref au), .val (.int (1 : Int32)), .val (.int (1 : Int32)), .unset] [(.ref cy), (.ref cy)])) X4 hx rfl rfl rfl (pc0 := 64) (pc' := 67) (same := true) rfl (hb hby at_64) rfl (decide_eq_true rfl) (by decide) (by decide) k) ?_
    show own_Goes p e below (T4.setTop (mkF m 67 #[.val (.int p1), .val (.int (0 : Int32)), .val (.ref au), .val (.int (1 : Int32)), .val (.int (1 : Int32)), .unset] [])) _
    refine own_st (fun _ k => XS.iconst X4.here hx rfl (hb hby at_67) k) ?_
    show own_Goes p e below (T4.setTop (mkF m 68 #[.val (.int p1), .val (.int (0 : Int32)), .val (.ref au), .val (.int (1 : Int32)), .val (.int (1 : Int32)), .unset] [(.int (1 : Int32))])) _
    refine own_st (fun _ k => XS.goto X4.here hx rfl (pc0 := 68) (pc' := 72) rfl (hb hby at_68) (by decide) (by decide) k) ?_
    show own_Goes p e below (T4.setTop (mkF m 72 #[.val (.int p1), .val (.int (0 : Int32)), .val (.ref au), .val (.int (1 : Int32)), .val (.int (1 : Int32)), .unset] [(.int (1 : Int32))])) _
    refine own_st (fun _ k => XS.istore X4.here hx rfl (hb hby at_72) rfl (l' := #[.val (.int p1), .val (.int (0 : Int32)), .val (.ref au), .val (.int (1 : Int32)), .val (.int (1 : Int32)), .val (.int (1 : Int32))]) rfl k) ?_
    show own_Goes p e below (T4.setTop (mkF m 74 #[.val (.int p1), .val (.int (0 : Int32)), .val (.ref au), .val (.int (1 : Int32)), .val (.int (1 : Int32)), .val (.int (1 : Int32))] [])) _
    refine own_st (fun _ k => XS.iload X4.here hx rfl (hb hby at_74) rfl k) ?_
    show own_Goes p e below (T4.setTop (mkF m 76 #[.val (.int p1), .val (.int (0 : Int32)), .val (.ref au), .val (.int (1 : Int32)), .val (.int (1 : Int32)), .val (.int (1 : Int32))] [(.int (1 : Int32))])) _
    refine own_st (fun _ k => XS.iloadN X4.here hx rfl (hb hby at_76) rfl k) ?_
    show own_Goes p e below (T4.setTop (mkF m 77 #[.val (.int p1), .val (.int (0 : Int32)), .val (.ref au), .val (.int (1 : Int32)), .val (.int (1 : Int32)), .val (.int (1 : Int32))] [(.int (1 : Int32)), (.int (1 : Int32))])) _
    refine own_st (fun _ k => XS.icmpNo X4.here hx rfl (hb hby at_77) rfl (teq (by decide : (1 : Int32) = (1 : Int32))).2 k) ?_
    show own_Goes p e below (T4.setTop (mkF m 80 #[.val (.int p1), .val (.int (0 : Int32)), .val (.ref au), .val (.int (1 : Int32)), .val (.int (1 : Int32)), .val (.int (1 : Int32))] [])) _
    refine own_st (fun _ k => XS.iload X4.here hx rfl (hb hby at_80) rfl k) ?_
    show own_Goes p e below (T4.setTop (mkF m 82 #[.val (.int p1), .val (.int (0 : Int32)), .val (.ref au), .val (.int (1 : Int32)), .val (.int (1 : Int32)), .val (.int (1 : Int32))] [(.int (1 : Int32))])) _
    refine own_st (fun _ k => XS.iload X4.here hx rfl (hb hby at_82) rfl k) ?_
    show own_Goes p e below (T4.setTop (mkF m 84 #[.val (.int p1), .val (.int (0 : Int32)), .val (.ref au), .val (.int (1 : Int32)), .val (.int (1 : Int32)), .val (.int (1 : Int32))] [(.int (1 : Int32)), (.int (1 : Int32))])) _
    refine own_st (fun _ k => XS.icmpNo X4.here hx rfl (hb hby at_84) rfl (teq (by decide : (1 : Int32) = (1 : Int32))).2 k) ?_
    show own_Goes p e below (T4.setTop (mkF m 87 #[.val (.int p1), .val (.int (0 : Int32)), .val (.ref au), .val (.int (1 : Int32)), .val (.int (1 : Int32)), .val (.int (1 : Int32))] [])) _
    refine own_st (fun _ k => XS.iconst X4.here hx rfl (hb hby at_87) k) ?_
    show own_Goes p e below (T4.setTop (mkF m 88 #[.val (.int p1), .val (.int (0 : Int32)), .val (.ref au), .val (.int (1 : Int32)), .val (.int (1 : Int32)), .val (.int (1 : Int32))] [(.int (1 : Int32))])) _
    refine own_st (fun _ k => XS.goto X4.here hx rfl (pc0 := 88) (pc' := 92) rfl (hb hby at_88) (by decide) (by decide) k) ?_
    show own_Goes p e below (T4.setTop (mkF m 92 #[.val (.int p1), .val (.int (0 : Int32)), .val (.ref au), .val (.int (1 : Int32)), .val (.int (1 : Int32)), .val (.int (1 : Int32))] [(.int (1 : Int32))])) _
    exact own_retN (t := .boolean) (z' := (1 : Int32)) X4 hx hlk hret (by simp) (by decide) (hb hby at_92) (by decide) (by decide) e4 ⟨rfl, N0⟩
  · show own_Goes p e below (s₁.setTop (mkF m 3 #[.val (.int p1), .unset, .unset, .unset, .unset, .unset] [(.int (1 : Int32))])) _
    refine own_st (fun _ k => XS.istoreN X0.here hx rfl (hb hby at_3) rfl (l' := #[.val (.int p1), .val (.int (1 : Int32)), .unset, .unset, .unset, .unset]) rfl k) ?_
    show own_Goes p e below (s₁.setTop (mkF m 4 #[.val (.int p1), .val (.int (1 : Int32)), .unset, .unset, .unset, .unset] [])) _
    refine own_st (fun _ k => XS.iloadN X0.here hx rfl (hb hby at_4) rfl k) ?_
    show own_Goes p e below (s₁.setTop (mkF m 5 #[.val (.int p1), .val (.int (1 : Int32)), .unset, .unset, .unset, .unset] [(.int (1 : Int32))])) _
    refine own_st (fun _ k => XS.ifYes X0.here hx rfl (pc0 := 5) (pc' := 17) rfl (hb hby at_5) rfl ((if0 _ _).trans (feq (by decide : ¬ ((1 : Int32) = (0 : Int32)))).2) (by decide) (by decide) k) ?_
    show own_Goes p e below (s₁.setTop (mkF m 17 #[.val (.int p1), .val (.int (1 : Int32)), .unset, .unset, .unset, .unset] [])) _
    refine own_st (fun _ k => XS.iloadN X0.here hx rfl (hb hby at_17) rfl k) ?_
    show own_Goes p e below (s₁.setTop (mkF m 18 #[.val (.int p1), .val (.int (1 : Int32)), .unset, .unset, .unset, .unset] [(.int (1 : Int32))])) _
    refine own_st (fun _ k => XS.iconst X0.here hx rfl (hb hby at_18) k) ?_
    show own_Goes p e below (s₁.setTop (mkF m 19 #[.val (.int p1), .val (.int (1 : Int32)), .unset, .unset, .unset, .unset] [(.int (1 : Int32)), (.int (1 : Int32))])) _
    refine own_st (fun _ k => XS.icmpNo X0.here hx rfl (hb hby at_19) rfl (teq (by decide : (1 : Int32) = (1 : Int32))).2 k) ?_
    show own_Goes p e below (s₁.setTop (mkF m 22 #[.val (.int p1), .val (.int (1 : Int32)), .unset, .unset, .unset, .unset] [])) _
    obtain ⟨T5, X5, e5, st5⟩ := getS2 X0 hx hZ hown (host := "") (Or.inl (hw _ (List.mem_of_getElem? (i := 24) rfl))) Via.refl e0 S_a19 (g := (mkF m 22 #[.val (.int p1), .val (.int (1 : Int32)), .unset, .unset, .unset, .unset] [])) rfl (hb hby at_22)
    refine own_st st5 ?_
    show own_Goes p e below (T5.setTop (mkF m 25 #[.val (.int p1), .val (.int (1 : Int32)), .unset, .unset, .unset, .unset] [(.ref a19)])) _
    refine own_st (fun _ k => XS.astoreN X5.here hx rfl (hb hby at_25) rfl rfl (l' := #[.val (.int p1), .val (.int (1 : Int32)), .val (.ref a19), .unset, .unset, .unset]) rfl k) ?_
    show own_Goes p e below (T5.setTop (mkF m 26 #[.val (.int p1), .val (.int (1 : Int32)), .val (.ref a19), .unset, .unset, .unset] [])) _
    refine own_st (fun _ k => XS.iconst X5.here hx rfl (hb hby at_26) k) ?_
    show own_Goes p e below (T5.setTop (mkF m 27 #[.val (.int p1), .val (.int (1 : Int32)), .val (.ref a19), .unset, .unset, .unset] [(.int (1 : Int32))])) _
    refine own_st (fun _ k => XS.istoreN X5.here hx rfl (hb hby at_27) rfl (l' := #[.val (.int p1), .val (.int (1 : Int32)), .val (.ref a19), .val (.int (1 : Int32)), .unset, .unset]) rfl k) ?_
    show own_Goes p e below (T5.setTop (mkF m 28 #[.val (.int p1), .val (.int (1 : Int32)), .val (.ref a19), .val (.int (1 : Int32)), .unset, .unset] [])) _
    refine own_st (fun _ k => XS.goto X5.here hx rfl (pc0 := 28) (pc' := 51) rfl (hb hby at_28) (by decide) (by decide) k) ?_
    show own_Goes p e below (T5.setTop (mkF m 51 #[.val (.int p1), .val (.int (1 : Int32)), .val (.ref a19), .val (.int (1 : Int32)), .unset, .unset] [])) _
    refine own_st (fun _ k => XS.aloadN X5.here hx rfl (hb hby at_51) rfl rfl k) ?_
    show own_Goes p e below (T5.setTop (mkF m 52 #[.val (.int p1), .val (.int (1 : Int32)), .val (.ref a19), .val (.int (1 : Int32)), .unset, .unset] [(.ref a19)])) _
    obtain ⟨_, T6, h6, L6, X6, e6, ⟨rfl, rfl, q6⟩, st6⟩ := own_callV (argsL := []) (rest := []) (pc := 52) (W := 0) (Ls := #[.val (.int p1), .val (.int (1 : Int32)), .val (.ref a19), .val (.int (1 : Int32)), .unset, .unset]) (S := [(.ref a19)]) X5 hx hZ hown (hw _ (List.mem_of_getElem? (i := 3) rfl)) (hw _ (List.mem_of_getElem? (i := 4) rfl)) (hw _ (List.mem_of_getElem? (i := 6) rfl)) (hw _ (List.mem_of_getElem? (i := 5) rfl)) (hw _ (List.mem_of_getElem? (i := 1) rfl)) (hw _ (List.mem_of_getElem? (i := 7) rfl)) (notFace_of_selects (args := #[]) (mvT hZ (hw _ (List.mem_of_getElem? (i := 6) rfl)))) (by decide) (rm1 l Z a0 hw [] a19 cy cy (1 : Int32) h0 n0 Z0 F_a19 S_cy (Or.inl ⟨rfl, rfl⟩)) (by decide) (by decide) e5 E_a19 (by rw [hml]; rfl) (lenOf pd___Z rfl) rfl (Nat.le_of_eq rfl) (hb hby at_52) (by decide) (by decide)
    refine own_st st6 ?_
    show own_Goes p e below (T6.setTop (mkF m 55 #[.val (.int p1), .val (.int (1 : Int32)), .val (.ref a19), .val (.int (1 : Int32)), .unset, .unset] [(.int (1 : Int32))])) _
    refine own_st (fun _ k => XS.istore X6.here hx rfl (hb hby at_55) rfl (l' := #[.val (.int p1), .val (.int (1 : Int32)), .val (.ref a19), .val (.int (1 : Int32)), .val (.int (1 : Int32)), .unset]) rfl k) ?_
    show own_Goes p e below (T6.setTop (mkF m 57 #[.val (.int p1), .val (.int (1 : Int32)), .val (.ref a19), .val (.int (1 : Int32)), .val (.int (1 : Int32)), .unset] [])) _
    refine own_st (fun _ k => XS.aloadN X6.here hx rfl (hb hby at_57) rfl rfl k) ?_
    show own_Goes p e below (T6.setTop (mkF m 58 #[.val (.int p1), .val (.int (1 : Int32)), .val (.ref a19), .val (.int (1 : Int32)), .val (.int (1 : Int32)), .unset] [(.ref a19)])) _
    obtain ⟨_, T7, h7, L7, X7, e7, ⟨rfl, rfl, q7⟩, st7⟩ := own_callV (argsL := []) (rest := []) (pc := 58) (W := 0) (Ls := #[.val (.int p1), .val (.int (1 : Int32)), .val (.ref a19), .val (.int (1 : Int32)), .val (.int (1 : Int32)), .unset]) (S := [(.ref a19)]) X6 hx hZ hown (hw _ (List.mem_of_getElem? (i := 13) rfl)) (hw _ (List.mem_of_getElem? (i := 14) rfl)) (hw _ (List.mem_of_getElem? (i := 16) rfl)) (hw _ (List.mem_of_getElem? (i := 15) rfl)) (hw _ (List.mem_of_getElem? (i := 1) rfl)) (hw _ (List.mem_of_getElem? (i := 17) rfl)) (notFace_of_selects (args := #[]) (mvT hZ (hw _ (List.mem_of_getElem? (i := 16) rfl)))) (by decide) (rm2 l Z a0 hw [] a19 cy h0 n0 Z0 F_a19) (by decide) (by decide) (e6.trans q6) E_a19 (by rw [hml]; rfl) (lenOf pd___Lcom_example_charon_charon_ChargeStatus_ rfl) rfl (Nat.le_of_eq rfl) (hb hby at_58) (by decide) (by decide)
    refine own_st st7 ?_
    show own_Goes p e below (T7.setTop (mkF m 61 #[.val (.int p1), .val (.int (1 : Int32)), .val (.ref a19), .val (.int (1 : Int32)), .val (.int (1 : Int32)), .unset] [(.ref cy)])) _
    obtain ⟨T8, X8, e8, st8⟩ := getS2 X7 hx hZ hown (host := "") (Or.inl (hw _ (List.mem_of_getElem? (i := 18) rfl))) Via.refl (e7.trans q7) S_cy (g := (mkF m 61 #[.val (.int p1), .val (.int (1 : Int32)), .val (.ref a19), .val (.int (1 : Int32)), .val (.int (1 : Int32)), .unset] [(.ref cy)])) rfl (hb hby at_61)
    refine own_st st8 ?_
    show own_Goes p e below (T8.setTop (mkF m 64 #[.val (.int p1), .val (.int (1 : Int32)), .val (.ref a19), .val (.int (1 : Int32)), .val (.int (1 : Int32)), .unset] [(.ref cy), (.ref cy)])) _
    refine own_st (fun _ k => Jvm.RoadKit.acmp (g := (mkF m 64 #[.val (.int p1), .val (.int (1 : Int32)), .val (.ref a19), .val (.int (1 : Int32)), .val (.int (1 : Int32)), .unset] [(.ref cy), (.ref cy)])) X8 hx rfl rfl rfl (pc0 := 64) (pc' := 67) (same := true) rfl (hb hby at_64) rfl (decide_eq_true rfl) (by decide) (by decide) k) ?_
    show own_Goes p e below (T8.setTop (mkF m 67 #[.val (.int p1), .val (.int (1 : Int32)), .val (.ref a19), .val (.int (1 : Int32)), .val (.int (1 : Int32)), .unset] [])) _
    refine own_st (fun _ k => XS.iconst X8.here hx rfl (hb hby at_67) k) ?_
    show own_Goes p e below (T8.setTop (mkF m 68 #[.val (.int p1), .val (.int (1 : Int32)), .val (.ref a19), .val (.int (1 : Int32)), .val (.int (1 : Int32)), .unset] [(.int (1 : Int32))])) _
    refine own_st (fun _ k => XS.goto X8.here hx rfl (pc0 := 68) (pc' := 72) rfl (hb hby at_68) (by decide) (by decide) k) ?_
    show own_Goes p e below (T8.setTop (mkF m 72 #[.val (.int p1), .val (.int (1 : Int32)), .val (.ref a19), .val (.int (1 : Int32)), .val (.int (1 : Int32)), .unset] [(.int (1 : Int32))])) _
    refine own_st (fun _ k => XS.istore X8.here hx rfl (hb hby at_72) rfl (l' := #[.val (.int p1), .val (.int (1 : Int32)), .val (.ref a19), .val (.int (1 : Int32)), .val (.int (1 : Int32)), .val (.int (1 : Int32))]) rfl k) ?_
    show own_Goes p e below (T8.setTop (mkF m 74 #[.val (.int p1), .val (.int (1 : Int32)), .val (.ref a19), .val (.int (1 : Int32)), .val (.int (1 : Int32)), .val (.int (1 : Int32))] [])) _
    refine own_st (fun _ k => XS.iload X8.here hx rfl (hb hby at_74) rfl k) ?_
    show own_Goes p e below (T8.setTop (mkF m 76 #[.val (.int p1), .val (.int (1 : Int32)), .val (.ref a19), .val (.int (1 : Int32)), .val (.int (1 : Int32)), .val (.int (1 : Int32))] [(.int (1 : Int32))])) _
    refine own_st (fun _ k => XS.iloadN X8.here hx rfl (hb hby at_76) rfl k) ?_
    show own_Goes p e below (T8.setTop (mkF m 77 #[.val (.int p1), .val (.int (1 : Int32)), .val (.ref a19), .val (.int (1 : Int32)), .val (.int (1 : Int32)), .val (.int (1 : Int32))] [(.int (1 : Int32)), (.int (1 : Int32))])) _
    refine own_st (fun _ k => XS.icmpNo X8.here hx rfl (hb hby at_77) rfl (teq (by decide : (1 : Int32) = (1 : Int32))).2 k) ?_
    show own_Goes p e below (T8.setTop (mkF m 80 #[.val (.int p1), .val (.int (1 : Int32)), .val (.ref a19), .val (.int (1 : Int32)), .val (.int (1 : Int32)), .val (.int (1 : Int32))] [])) _
    refine own_st (fun _ k => XS.iload X8.here hx rfl (hb hby at_80) rfl k) ?_
    show own_Goes p e below (T8.setTop (mkF m 82 #[.val (.int p1), .val (.int (1 : Int32)), .val (.ref a19), .val (.int (1 : Int32)), .val (.int (1 : Int32)), .val (.int (1 : Int32))] [(.int (1 : Int32))])) _
    refine own_st (fun _ k => XS.iload X8.here hx rfl (hb hby at_82) rfl k) ?_
    show own_Goes p e below (T8.setTop (mkF m 84 #[.val (.int p1), .val (.int (1 : Int32)), .val (.ref a19), .val (.int (1 : Int32)), .val (.int (1 : Int32)), .val (.int (1 : Int32))] [(.int (1 : Int32)), (.int (1 : Int32))])) _
    refine own_st (fun _ k => XS.icmpNo X8.here hx rfl (hb hby at_84) rfl (teq (by decide : (1 : Int32) = (1 : Int32))).2 k) ?_
    show own_Goes p e below (T8.setTop (mkF m 87 #[.val (.int p1), .val (.int (1 : Int32)), .val (.ref a19), .val (.int (1 : Int32)), .val (.int (1 : Int32)), .val (.int (1 : Int32))] [])) _
    refine own_st (fun _ k => XS.iconst X8.here hx rfl (hb hby at_87) k) ?_
    show own_Goes p e below (T8.setTop (mkF m 88 #[.val (.int p1), .val (.int (1 : Int32)), .val (.ref a19), .val (.int (1 : Int32)), .val (.int (1 : Int32)), .val (.int (1 : Int32))] [(.int (1 : Int32))])) _
    refine own_st (fun _ k => XS.goto X8.here hx rfl (pc0 := 88) (pc' := 92) rfl (hb hby at_88) (by decide) (by decide) k) ?_
    show own_Goes p e below (T8.setTop (mkF m 92 #[.val (.int p1), .val (.int (1 : Int32)), .val (.ref a19), .val (.int (1 : Int32)), .val (.int (1 : Int32)), .val (.int (1 : Int32))] [(.int (1 : Int32))])) _
    exact own_retN (t := .boolean) (z' := (1 : Int32)) X8 hx hlk hret (by simp) (by decide) (hb hby at_92) (by decide) (by decide) e8 ⟨rfl, N0⟩
  · show own_Goes p e below (s₁.setTop (mkF m 3 #[.val (.int p1), .unset, .unset, .unset, .unset, .unset] [(.int (2 : Int32))])) _
    refine own_st (fun _ k => XS.istoreN X0.here hx rfl (hb hby at_3) rfl (l' := #[.val (.int p1), .val (.int (2 : Int32)), .unset, .unset, .unset, .unset]) rfl k) ?_
    show own_Goes p e below (s₁.setTop (mkF m 4 #[.val (.int p1), .val (.int (2 : Int32)), .unset, .unset, .unset, .unset] [])) _
    refine own_st (fun _ k => XS.iloadN X0.here hx rfl (hb hby at_4) rfl k) ?_
    show own_Goes p e below (s₁.setTop (mkF m 5 #[.val (.int p1), .val (.int (2 : Int32)), .unset, .unset, .unset, .unset] [(.int (2 : Int32))])) _
    refine own_st (fun _ k => XS.ifYes X0.here hx rfl (pc0 := 5) (pc' := 17) rfl (hb hby at_5) rfl ((if0 _ _).trans (feq (by decide : ¬ ((2 : Int32) = (0 : Int32)))).2) (by decide) (by decide) k) ?_
    show own_Goes p e below (s₁.setTop (mkF m 17 #[.val (.int p1), .val (.int (2 : Int32)), .unset, .unset, .unset, .unset] [])) _
    refine own_st (fun _ k => XS.iloadN X0.here hx rfl (hb hby at_17) rfl k) ?_
    show own_Goes p e below (s₁.setTop (mkF m 18 #[.val (.int p1), .val (.int (2 : Int32)), .unset, .unset, .unset, .unset] [(.int (2 : Int32))])) _
    refine own_st (fun _ k => XS.iconst X0.here hx rfl (hb hby at_18) k) ?_
    show own_Goes p e below (s₁.setTop (mkF m 19 #[.val (.int p1), .val (.int (2 : Int32)), .unset, .unset, .unset, .unset] [(.int (1 : Int32)), (.int (2 : Int32))])) _
    refine own_st (fun _ k => XS.icmpYes X0.here hx rfl (pc0 := 19) (pc' := 31) rfl (hb hby at_19) rfl (feq (by decide : ¬ ((2 : Int32) = (1 : Int32)))).2 (by decide) (by decide) k) ?_
    show own_Goes p e below (s₁.setTop (mkF m 31 #[.val (.int p1), .val (.int (2 : Int32)), .unset, .unset, .unset, .unset] [])) _
    refine own_st (fun _ k => XS.iloadN X0.here hx rfl (hb hby at_31) rfl k) ?_
    show own_Goes p e below (s₁.setTop (mkF m 32 #[.val (.int p1), .val (.int (2 : Int32)), .unset, .unset, .unset, .unset] [(.int (2 : Int32))])) _
    refine own_st (fun _ k => XS.iconst X0.here hx rfl (hb hby at_32) k) ?_
    show own_Goes p e below (s₁.setTop (mkF m 33 #[.val (.int p1), .val (.int (2 : Int32)), .unset, .unset, .unset, .unset] [(.int (2 : Int32)), (.int (2 : Int32))])) _
    refine own_st (fun _ k => XS.icmpNo X0.here hx rfl (hb hby at_33) rfl (teq (by decide : (2 : Int32) = (2 : Int32))).2 k) ?_
    show own_Goes p e below (s₁.setTop (mkF m 36 #[.val (.int p1), .val (.int (2 : Int32)), .unset, .unset, .unset, .unset] [])) _
    obtain ⟨T9, X9, e9, st9⟩ := getS2 X0 hx hZ hown (host := "") (Or.inl (hw _ (List.mem_of_getElem? (i := 22) rfl))) Via.refl e0 S_a21 (g := (mkF m 36 #[.val (.int p1), .val (.int (2 : Int32)), .unset, .unset, .unset, .unset] [])) rfl (hb hby at_36)
    refine own_st st9 ?_
    show own_Goes p e below (T9.setTop (mkF m 39 #[.val (.int p1), .val (.int (2 : Int32)), .unset, .unset, .unset, .unset] [(.ref a21)])) _
    refine own_st (fun _ k => XS.astoreN X9.here hx rfl (hb hby at_39) rfl rfl (l' := #[.val (.int p1), .val (.int (2 : Int32)), .val (.ref a21), .unset, .unset, .unset]) rfl k) ?_
    show own_Goes p e below (T9.setTop (mkF m 40 #[.val (.int p1), .val (.int (2 : Int32)), .val (.ref a21), .unset, .unset, .unset] [])) _
    refine own_st (fun _ k => XS.iconst X9.here hx rfl (hb hby at_40) k) ?_
    show own_Goes p e below (T9.setTop (mkF m 41 #[.val (.int p1), .val (.int (2 : Int32)), .val (.ref a21), .unset, .unset, .unset] [(.int (0 : Int32))])) _
    refine own_st (fun _ k => XS.istoreN X9.here hx rfl (hb hby at_41) rfl (l' := #[.val (.int p1), .val (.int (2 : Int32)), .val (.ref a21), .val (.int (0 : Int32)), .unset, .unset]) rfl k) ?_
    show own_Goes p e below (T9.setTop (mkF m 42 #[.val (.int p1), .val (.int (2 : Int32)), .val (.ref a21), .val (.int (0 : Int32)), .unset, .unset] [])) _
    refine own_st (fun _ k => XS.goto X9.here hx rfl (pc0 := 42) (pc' := 51) rfl (hb hby at_42) (by decide) (by decide) k) ?_
    show own_Goes p e below (T9.setTop (mkF m 51 #[.val (.int p1), .val (.int (2 : Int32)), .val (.ref a21), .val (.int (0 : Int32)), .unset, .unset] [])) _
    refine own_st (fun _ k => XS.aloadN X9.here hx rfl (hb hby at_51) rfl rfl k) ?_
    show own_Goes p e below (T9.setTop (mkF m 52 #[.val (.int p1), .val (.int (2 : Int32)), .val (.ref a21), .val (.int (0 : Int32)), .unset, .unset] [(.ref a21)])) _
    obtain ⟨_, T10, h10, L10, X10, e10, ⟨rfl, rfl, q10⟩, st10⟩ := own_callV (argsL := []) (rest := []) (pc := 52) (W := 0) (Ls := #[.val (.int p1), .val (.int (2 : Int32)), .val (.ref a21), .val (.int (0 : Int32)), .unset, .unset]) (S := [(.ref a21)]) X9 hx hZ hown (hw _ (List.mem_of_getElem? (i := 3) rfl)) (hw _ (List.mem_of_getElem? (i := 4) rfl)) (hw _ (List.mem_of_getElem? (i := 6) rfl)) (hw _ (List.mem_of_getElem? (i := 5) rfl)) (hw _ (List.mem_of_getElem? (i := 1) rfl)) (hw _ (List.mem_of_getElem? (i := 7) rfl)) (notFace_of_selects (args := #[]) (mvT hZ (hw _ (List.mem_of_getElem? (i := 6) rfl)))) (by decide) (rm1 l Z a0 hw [] a21 cn cy (0 : Int32) h0 n0 Z0 F_a21 S_cy (Or.inr ⟨hne, rfl⟩)) (by decide) (by decide) e9 E_a21 (by rw [hml]; rfl) (lenOf pd___Z rfl) rfl (Nat.le_of_eq rfl) (hb hby at_52) (by decide) (by decide)
    refine own_st st10 ?_
    show own_Goes p e below (T10.setTop (mkF m 55 #[.val (.int p1), .val (.int (2 : Int32)), .val (.ref a21), .val (.int (0 : Int32)), .unset, .unset] [(.int (0 : Int32))])) _
    refine own_st (fun _ k => XS.istore X10.here hx rfl (hb hby at_55) rfl (l' := #[.val (.int p1), .val (.int (2 : Int32)), .val (.ref a21), .val (.int (0 : Int32)), .val (.int (0 : Int32)), .unset]) rfl k) ?_
    show own_Goes p e below (T10.setTop (mkF m 57 #[.val (.int p1), .val (.int (2 : Int32)), .val (.ref a21), .val (.int (0 : Int32)), .val (.int (0 : Int32)), .unset] [])) _
    refine own_st (fun _ k => XS.aloadN X10.here hx rfl (hb hby at_57) rfl rfl k) ?_
    show own_Goes p e below (T10.setTop (mkF m 58 #[.val (.int p1), .val (.int (2 : Int32)), .val (.ref a21), .val (.int (0 : Int32)), .val (.int (0 : Int32)), .unset] [(.ref a21)])) _
    obtain ⟨_, T11, h11, L11, X11, e11, ⟨rfl, rfl, q11⟩, st11⟩ := own_callV (argsL := []) (rest := []) (pc := 58) (W := 0) (Ls := #[.val (.int p1), .val (.int (2 : Int32)), .val (.ref a21), .val (.int (0 : Int32)), .val (.int (0 : Int32)), .unset]) (S := [(.ref a21)]) X10 hx hZ hown (hw _ (List.mem_of_getElem? (i := 13) rfl)) (hw _ (List.mem_of_getElem? (i := 14) rfl)) (hw _ (List.mem_of_getElem? (i := 16) rfl)) (hw _ (List.mem_of_getElem? (i := 15) rfl)) (hw _ (List.mem_of_getElem? (i := 1) rfl)) (hw _ (List.mem_of_getElem? (i := 17) rfl)) (notFace_of_selects (args := #[]) (mvT hZ (hw _ (List.mem_of_getElem? (i := 16) rfl)))) (by decide) (rm2 l Z a0 hw [] a21 cn h0 n0 Z0 F_a21) (by decide) (by decide) (e10.trans q10) E_a21 (by rw [hml]; rfl) (lenOf pd___Lcom_example_charon_charon_ChargeStatus_ rfl) rfl (Nat.le_of_eq rfl) (hb hby at_58) (by decide) (by decide)
    refine own_st st11 ?_
    show own_Goes p e below (T11.setTop (mkF m 61 #[.val (.int p1), .val (.int (2 : Int32)), .val (.ref a21), .val (.int (0 : Int32)), .val (.int (0 : Int32)), .unset] [(.ref cn)])) _
    obtain ⟨T12, X12, e12, st12⟩ := getS2 X11 hx hZ hown (host := "") (Or.inl (hw _ (List.mem_of_getElem? (i := 18) rfl))) Via.refl (e11.trans q11) S_cy (g := (mkF m 61 #[.val (.int p1), .val (.int (2 : Int32)), .val (.ref a21), .val (.int (0 : Int32)), .val (.int (0 : Int32)), .unset] [(.ref cn)])) rfl (hb hby at_61)
    refine own_st st12 ?_
    show own_Goes p e below (T12.setTop (mkF m 64 #[.val (.int p1), .val (.int (2 : Int32)), .val (.ref a21), .val (.int (0 : Int32)), .val (.int (0 : Int32)), .unset] [(.ref cy), (.ref cn)])) _
    refine own_st (fun _ k => Jvm.RoadKit.acmp (g := (mkF m 64 #[.val (.int p1), .val (.int (2 : Int32)), .val (.ref a21), .val (.int (0 : Int32)), .val (.int (0 : Int32)), .unset] [(.ref cy), (.ref cn)])) X12 hx rfl rfl rfl (pc0 := 64) (pc' := 71) (same := false) rfl (hb hby at_64) rfl (decide_eq_false fun q => hne (Value.ref.inj q)) (by decide) (by decide) k) ?_
    show own_Goes p e below (T12.setTop (mkF m 71 #[.val (.int p1), .val (.int (2 : Int32)), .val (.ref a21), .val (.int (0 : Int32)), .val (.int (0 : Int32)), .unset] [])) _
    refine own_st (fun _ k => XS.iconst X12.here hx rfl (hb hby at_71) k) ?_
    show own_Goes p e below (T12.setTop (mkF m 72 #[.val (.int p1), .val (.int (2 : Int32)), .val (.ref a21), .val (.int (0 : Int32)), .val (.int (0 : Int32)), .unset] [(.int (0 : Int32))])) _
    refine own_st (fun _ k => XS.istore X12.here hx rfl (hb hby at_72) rfl (l' := #[.val (.int p1), .val (.int (2 : Int32)), .val (.ref a21), .val (.int (0 : Int32)), .val (.int (0 : Int32)), .val (.int (0 : Int32))]) rfl k) ?_
    show own_Goes p e below (T12.setTop (mkF m 74 #[.val (.int p1), .val (.int (2 : Int32)), .val (.ref a21), .val (.int (0 : Int32)), .val (.int (0 : Int32)), .val (.int (0 : Int32))] [])) _
    refine own_st (fun _ k => XS.iload X12.here hx rfl (hb hby at_74) rfl k) ?_
    show own_Goes p e below (T12.setTop (mkF m 76 #[.val (.int p1), .val (.int (2 : Int32)), .val (.ref a21), .val (.int (0 : Int32)), .val (.int (0 : Int32)), .val (.int (0 : Int32))] [(.int (0 : Int32))])) _
    refine own_st (fun _ k => XS.iloadN X12.here hx rfl (hb hby at_76) rfl k) ?_
    show own_Goes p e below (T12.setTop (mkF m 77 #[.val (.int p1), .val (.int (2 : Int32)), .val (.ref a21), .val (.int (0 : Int32)), .val (.int (0 : Int32)), .val (.int (0 : Int32))] [(.int (0 : Int32)), (.int (0 : Int32))])) _
    refine own_st (fun _ k => XS.icmpNo X12.here hx rfl (hb hby at_77) rfl (teq (by decide : (0 : Int32) = (0 : Int32))).2 k) ?_
    show own_Goes p e below (T12.setTop (mkF m 80 #[.val (.int p1), .val (.int (2 : Int32)), .val (.ref a21), .val (.int (0 : Int32)), .val (.int (0 : Int32)), .val (.int (0 : Int32))] [])) _
    refine own_st (fun _ k => XS.iload X12.here hx rfl (hb hby at_80) rfl k) ?_
    show own_Goes p e below (T12.setTop (mkF m 82 #[.val (.int p1), .val (.int (2 : Int32)), .val (.ref a21), .val (.int (0 : Int32)), .val (.int (0 : Int32)), .val (.int (0 : Int32))] [(.int (0 : Int32))])) _
    refine own_st (fun _ k => XS.iload X12.here hx rfl (hb hby at_82) rfl k) ?_
    show own_Goes p e below (T12.setTop (mkF m 84 #[.val (.int p1), .val (.int (2 : Int32)), .val (.ref a21), .val (.int (0 : Int32)), .val (.int (0 : Int32)), .val (.int (0 : Int32))] [(.int (0 : Int32)), (.int (0 : Int32))])) _
    refine own_st (fun _ k => XS.icmpNo X12.here hx rfl (hb hby at_84) rfl (teq (by decide : (0 : Int32) = (0 : Int32))).2 k) ?_
    show own_Goes p e below (T12.setTop (mkF m 87 #[.val (.int p1), .val (.int (2 : Int32)), .val (.ref a21), .val (.int (0 : Int32)), .val (.int (0 : Int32)), .val (.int (0 : Int32))] [])) _
    refine own_st (fun _ k => XS.iconst X12.here hx rfl (hb hby at_87) k) ?_
    show own_Goes p e below (T12.setTop (mkF m 88 #[.val (.int p1), .val (.int (2 : Int32)), .val (.ref a21), .val (.int (0 : Int32)), .val (.int (0 : Int32)), .val (.int (0 : Int32))] [(.int (1 : Int32))])) _
    refine own_st (fun _ k => XS.goto X12.here hx rfl (pc0 := 88) (pc' := 92) rfl (hb hby at_88) (by decide) (by decide) k) ?_
    show own_Goes p e below (T12.setTop (mkF m 92 #[.val (.int p1), .val (.int (2 : Int32)), .val (.ref a21), .val (.int (0 : Int32)), .val (.int (0 : Int32)), .val (.int (0 : Int32))] [(.int (1 : Int32))])) _
    exact own_retN (t := .boolean) (z' := (1 : Int32)) X12 hx hlk hret (by simp) (by decide) (hb hby at_92) (by decide) (by decide) e12 ⟨rfl, N0⟩
  · show own_Goes p e below (s₁.setTop (mkF m 3 #[.val (.int p1), .unset, .unset, .unset, .unset, .unset] [(.int (3 : Int32))])) _
    refine own_st (fun _ k => XS.istoreN X0.here hx rfl (hb hby at_3) rfl (l' := #[.val (.int p1), .val (.int (3 : Int32)), .unset, .unset, .unset, .unset]) rfl k) ?_
    show own_Goes p e below (s₁.setTop (mkF m 4 #[.val (.int p1), .val (.int (3 : Int32)), .unset, .unset, .unset, .unset] [])) _
    refine own_st (fun _ k => XS.iloadN X0.here hx rfl (hb hby at_4) rfl k) ?_
    show own_Goes p e below (s₁.setTop (mkF m 5 #[.val (.int p1), .val (.int (3 : Int32)), .unset, .unset, .unset, .unset] [(.int (3 : Int32))])) _
    refine own_st (fun _ k => XS.ifYes X0.here hx rfl (pc0 := 5) (pc' := 17) rfl (hb hby at_5) rfl ((if0 _ _).trans (feq (by decide : ¬ ((3 : Int32) = (0 : Int32)))).2) (by decide) (by decide) k) ?_
    show own_Goes p e below (s₁.setTop (mkF m 17 #[.val (.int p1), .val (.int (3 : Int32)), .unset, .unset, .unset, .unset] [])) _
    refine own_st (fun _ k => XS.iloadN X0.here hx rfl (hb hby at_17) rfl k) ?_
    show own_Goes p e below (s₁.setTop (mkF m 18 #[.val (.int p1), .val (.int (3 : Int32)), .unset, .unset, .unset, .unset] [(.int (3 : Int32))])) _
    refine own_st (fun _ k => XS.iconst X0.here hx rfl (hb hby at_18) k) ?_
    show own_Goes p e below (s₁.setTop (mkF m 19 #[.val (.int p1), .val (.int (3 : Int32)), .unset, .unset, .unset, .unset] [(.int (1 : Int32)), (.int (3 : Int32))])) _
    refine own_st (fun _ k => XS.icmpYes X0.here hx rfl (pc0 := 19) (pc' := 31) rfl (hb hby at_19) rfl (feq (by decide : ¬ ((3 : Int32) = (1 : Int32)))).2 (by decide) (by decide) k) ?_
    show own_Goes p e below (s₁.setTop (mkF m 31 #[.val (.int p1), .val (.int (3 : Int32)), .unset, .unset, .unset, .unset] [])) _
    refine own_st (fun _ k => XS.iloadN X0.here hx rfl (hb hby at_31) rfl k) ?_
    show own_Goes p e below (s₁.setTop (mkF m 32 #[.val (.int p1), .val (.int (3 : Int32)), .unset, .unset, .unset, .unset] [(.int (3 : Int32))])) _
    refine own_st (fun _ k => XS.iconst X0.here hx rfl (hb hby at_32) k) ?_
    show own_Goes p e below (s₁.setTop (mkF m 33 #[.val (.int p1), .val (.int (3 : Int32)), .unset, .unset, .unset, .unset] [(.int (2 : Int32)), (.int (3 : Int32))])) _
    refine own_st (fun _ k => XS.icmpYes X0.here hx rfl (pc0 := 33) (pc' := 45) rfl (hb hby at_33) rfl (feq (by decide : ¬ ((3 : Int32) = (2 : Int32)))).2 (by decide) (by decide) k) ?_
    show own_Goes p e below (s₁.setTop (mkF m 45 #[.val (.int p1), .val (.int (3 : Int32)), .unset, .unset, .unset, .unset] [])) _
    obtain ⟨T13, X13, e13, st13⟩ := getS2 X0 hx hZ hown (host := "") (Or.inl (hw _ (List.mem_of_getElem? (i := 19) rfl))) Via.refl e0 S_as_ (g := (mkF m 45 #[.val (.int p1), .val (.int (3 : Int32)), .unset, .unset, .unset, .unset] [])) rfl (hb hby at_45)
    refine own_st st13 ?_
    show own_Goes p e below (T13.setTop (mkF m 48 #[.val (.int p1), .val (.int (3 : Int32)), .unset, .unset, .unset, .unset] [(.ref as_)])) _
    refine own_st (fun _ k => XS.astoreN X13.here hx rfl (hb hby at_48) rfl rfl (l' := #[.val (.int p1), .val (.int (3 : Int32)), .val (.ref as_), .unset, .unset, .unset]) rfl k) ?_
    show own_Goes p e below (T13.setTop (mkF m 49 #[.val (.int p1), .val (.int (3 : Int32)), .val (.ref as_), .unset, .unset, .unset] [])) _
    refine own_st (fun _ k => XS.iconst X13.here hx rfl (hb hby at_49) k) ?_
    show own_Goes p e below (T13.setTop (mkF m 50 #[.val (.int p1), .val (.int (3 : Int32)), .val (.ref as_), .unset, .unset, .unset] [(.int (0 : Int32))])) _
    refine own_st (fun _ k => XS.istoreN X13.here hx rfl (hb hby at_50) rfl (l' := #[.val (.int p1), .val (.int (3 : Int32)), .val (.ref as_), .val (.int (0 : Int32)), .unset, .unset]) rfl k) ?_
    show own_Goes p e below (T13.setTop (mkF m 51 #[.val (.int p1), .val (.int (3 : Int32)), .val (.ref as_), .val (.int (0 : Int32)), .unset, .unset] [])) _
    refine own_st (fun _ k => XS.aloadN X13.here hx rfl (hb hby at_51) rfl rfl k) ?_
    show own_Goes p e below (T13.setTop (mkF m 52 #[.val (.int p1), .val (.int (3 : Int32)), .val (.ref as_), .val (.int (0 : Int32)), .unset, .unset] [(.ref as_)])) _
    obtain ⟨_, T14, h14, L14, X14, e14, ⟨rfl, rfl, q14⟩, st14⟩ := own_callV (argsL := []) (rest := []) (pc := 52) (W := 0) (Ls := #[.val (.int p1), .val (.int (3 : Int32)), .val (.ref as_), .val (.int (0 : Int32)), .unset, .unset]) (S := [(.ref as_)]) X13 hx hZ hown (hw _ (List.mem_of_getElem? (i := 3) rfl)) (hw _ (List.mem_of_getElem? (i := 4) rfl)) (hw _ (List.mem_of_getElem? (i := 6) rfl)) (hw _ (List.mem_of_getElem? (i := 5) rfl)) (hw _ (List.mem_of_getElem? (i := 1) rfl)) (hw _ (List.mem_of_getElem? (i := 7) rfl)) (notFace_of_selects (args := #[]) (mvT hZ (hw _ (List.mem_of_getElem? (i := 6) rfl)))) (by decide) (rm1 l Z a0 hw [] as_ cn cy (0 : Int32) h0 n0 Z0 F_as_ S_cy (Or.inr ⟨hne, rfl⟩)) (by decide) (by decide) e13 E_as_ (by rw [hml]; rfl) (lenOf pd___Z rfl) rfl (Nat.le_of_eq rfl) (hb hby at_52) (by decide) (by decide)
    refine own_st st14 ?_
    show own_Goes p e below (T14.setTop (mkF m 55 #[.val (.int p1), .val (.int (3 : Int32)), .val (.ref as_), .val (.int (0 : Int32)), .unset, .unset] [(.int (0 : Int32))])) _
    refine own_st (fun _ k => XS.istore X14.here hx rfl (hb hby at_55) rfl (l' := #[.val (.int p1), .val (.int (3 : Int32)), .val (.ref as_), .val (.int (0 : Int32)), .val (.int (0 : Int32)), .unset]) rfl k) ?_
    show own_Goes p e below (T14.setTop (mkF m 57 #[.val (.int p1), .val (.int (3 : Int32)), .val (.ref as_), .val (.int (0 : Int32)), .val (.int (0 : Int32)), .unset] [])) _
    refine own_st (fun _ k => XS.aloadN X14.here hx rfl (hb hby at_57) rfl rfl k) ?_
    show own_Goes p e below (T14.setTop (mkF m 58 #[.val (.int p1), .val (.int (3 : Int32)), .val (.ref as_), .val (.int (0 : Int32)), .val (.int (0 : Int32)), .unset] [(.ref as_)])) _
    obtain ⟨_, T15, h15, L15, X15, e15, ⟨rfl, rfl, q15⟩, st15⟩ := own_callV (argsL := []) (rest := []) (pc := 58) (W := 0) (Ls := #[.val (.int p1), .val (.int (3 : Int32)), .val (.ref as_), .val (.int (0 : Int32)), .val (.int (0 : Int32)), .unset]) (S := [(.ref as_)]) X14 hx hZ hown (hw _ (List.mem_of_getElem? (i := 13) rfl)) (hw _ (List.mem_of_getElem? (i := 14) rfl)) (hw _ (List.mem_of_getElem? (i := 16) rfl)) (hw _ (List.mem_of_getElem? (i := 15) rfl)) (hw _ (List.mem_of_getElem? (i := 1) rfl)) (hw _ (List.mem_of_getElem? (i := 17) rfl)) (notFace_of_selects (args := #[]) (mvT hZ (hw _ (List.mem_of_getElem? (i := 16) rfl)))) (by decide) (rm2 l Z a0 hw [] as_ cn h0 n0 Z0 F_as_) (by decide) (by decide) (e14.trans q14) E_as_ (by rw [hml]; rfl) (lenOf pd___Lcom_example_charon_charon_ChargeStatus_ rfl) rfl (Nat.le_of_eq rfl) (hb hby at_58) (by decide) (by decide)
    refine own_st st15 ?_
    show own_Goes p e below (T15.setTop (mkF m 61 #[.val (.int p1), .val (.int (3 : Int32)), .val (.ref as_), .val (.int (0 : Int32)), .val (.int (0 : Int32)), .unset] [(.ref cn)])) _
    obtain ⟨T16, X16, e16, st16⟩ := getS2 X15 hx hZ hown (host := "") (Or.inl (hw _ (List.mem_of_getElem? (i := 18) rfl))) Via.refl (e15.trans q15) S_cy (g := (mkF m 61 #[.val (.int p1), .val (.int (3 : Int32)), .val (.ref as_), .val (.int (0 : Int32)), .val (.int (0 : Int32)), .unset] [(.ref cn)])) rfl (hb hby at_61)
    refine own_st st16 ?_
    show own_Goes p e below (T16.setTop (mkF m 64 #[.val (.int p1), .val (.int (3 : Int32)), .val (.ref as_), .val (.int (0 : Int32)), .val (.int (0 : Int32)), .unset] [(.ref cy), (.ref cn)])) _
    refine own_st (fun _ k => Jvm.RoadKit.acmp (g := (mkF m 64 #[.val (.int p1), .val (.int (3 : Int32)), .val (.ref as_), .val (.int (0 : Int32)), .val (.int (0 : Int32)), .unset] [(.ref cy), (.ref cn)])) X16 hx rfl rfl rfl (pc0 := 64) (pc' := 71) (same := false) rfl (hb hby at_64) rfl (decide_eq_false fun q => hne (Value.ref.inj q)) (by decide) (by decide) k) ?_
    show own_Goes p e below (T16.setTop (mkF m 71 #[.val (.int p1), .val (.int (3 : Int32)), .val (.ref as_), .val (.int (0 : Int32)), .val (.int (0 : Int32)), .unset] [])) _
    refine own_st (fun _ k => XS.iconst X16.here hx rfl (hb hby at_71) k) ?_
    show own_Goes p e below (T16.setTop (mkF m 72 #[.val (.int p1), .val (.int (3 : Int32)), .val (.ref as_), .val (.int (0 : Int32)), .val (.int (0 : Int32)), .unset] [(.int (0 : Int32))])) _
    refine own_st (fun _ k => XS.istore X16.here hx rfl (hb hby at_72) rfl (l' := #[.val (.int p1), .val (.int (3 : Int32)), .val (.ref as_), .val (.int (0 : Int32)), .val (.int (0 : Int32)), .val (.int (0 : Int32))]) rfl k) ?_
    show own_Goes p e below (T16.setTop (mkF m 74 #[.val (.int p1), .val (.int (3 : Int32)), .val (.ref as_), .val (.int (0 : Int32)), .val (.int (0 : Int32)), .val (.int (0 : Int32))] [])) _
    refine own_st (fun _ k => XS.iload X16.here hx rfl (hb hby at_74) rfl k) ?_
    show own_Goes p e below (T16.setTop (mkF m 76 #[.val (.int p1), .val (.int (3 : Int32)), .val (.ref as_), .val (.int (0 : Int32)), .val (.int (0 : Int32)), .val (.int (0 : Int32))] [(.int (0 : Int32))])) _
    refine own_st (fun _ k => XS.iloadN X16.here hx rfl (hb hby at_76) rfl k) ?_
    show own_Goes p e below (T16.setTop (mkF m 77 #[.val (.int p1), .val (.int (3 : Int32)), .val (.ref as_), .val (.int (0 : Int32)), .val (.int (0 : Int32)), .val (.int (0 : Int32))] [(.int (0 : Int32)), (.int (0 : Int32))])) _
    refine own_st (fun _ k => XS.icmpNo X16.here hx rfl (hb hby at_77) rfl (teq (by decide : (0 : Int32) = (0 : Int32))).2 k) ?_
    show own_Goes p e below (T16.setTop (mkF m 80 #[.val (.int p1), .val (.int (3 : Int32)), .val (.ref as_), .val (.int (0 : Int32)), .val (.int (0 : Int32)), .val (.int (0 : Int32))] [])) _
    refine own_st (fun _ k => XS.iload X16.here hx rfl (hb hby at_80) rfl k) ?_
    show own_Goes p e below (T16.setTop (mkF m 82 #[.val (.int p1), .val (.int (3 : Int32)), .val (.ref as_), .val (.int (0 : Int32)), .val (.int (0 : Int32)), .val (.int (0 : Int32))] [(.int (0 : Int32))])) _
    refine own_st (fun _ k => XS.iload X16.here hx rfl (hb hby at_82) rfl k) ?_
    show own_Goes p e below (T16.setTop (mkF m 84 #[.val (.int p1), .val (.int (3 : Int32)), .val (.ref as_), .val (.int (0 : Int32)), .val (.int (0 : Int32)), .val (.int (0 : Int32))] [(.int (0 : Int32)), (.int (0 : Int32))])) _
    refine own_st (fun _ k => XS.icmpNo X16.here hx rfl (hb hby at_84) rfl (teq (by decide : (0 : Int32) = (0 : Int32))).2 k) ?_
    show own_Goes p e below (T16.setTop (mkF m 87 #[.val (.int p1), .val (.int (3 : Int32)), .val (.ref as_), .val (.int (0 : Int32)), .val (.int (0 : Int32)), .val (.int (0 : Int32))] [])) _
    refine own_st (fun _ k => XS.iconst X16.here hx rfl (hb hby at_87) k) ?_
    show own_Goes p e below (T16.setTop (mkF m 88 #[.val (.int p1), .val (.int (3 : Int32)), .val (.ref as_), .val (.int (0 : Int32)), .val (.int (0 : Int32)), .val (.int (0 : Int32))] [(.int (1 : Int32))])) _
    refine own_st (fun _ k => XS.goto X16.here hx rfl (pc0 := 88) (pc' := 92) rfl (hb hby at_88) (by decide) (by decide) k) ?_
    show own_Goes p e below (T16.setTop (mkF m 92 #[.val (.int p1), .val (.int (3 : Int32)), .val (.ref as_), .val (.int (0 : Int32)), .val (.int (0 : Int32)), .val (.int (0 : Int32))] [(.int (1 : Int32))])) _
    exact own_retN (t := .boolean) (z' := (1 : Int32)) X16 hx hlk hret (by simp) (by decide) (hb hby at_92) (by decide) (by decide) e16 ⟨rfl, N0⟩
set_option maxRecDepth 65536 in
set_option maxHeartbeats 40000000 in
theorem comes_1 {Post : Tables → Env → Array Value → State → Outcome → State → Prop} (hpost : ∀ tb e args s v u, (limb_1_1.after args s (.returned v) u = true ∧ limb_1_2.after args s (.returned v) u = true ∧ True) → FrameEnd s (.returned v) u (Jvm.fieldLocs frame_1_writes args s ++ Jvm.arrayLocs frame_1_arrays args s ++ Jvm.staticLocs frame_1_statics s) 0 0 → Post tb e args s (.returned v) u) :
    ArmFor flags0 classFile x code maxLocals ret World_1 tables_1 room_1 Calls_1 rest_1 Pre_1 Post := by
  intro l hfl _ _ p e ha hc hk s m args below hf hA hF happ hP
  obtain ⟨hcalls, hrest, hpre⟩ := hP
  obtain ⟨-, -, -, hnamed, -, -, -, hat⟩ := (Spec.applies_iff hf).mp happ
  obtain ⟨hg, hn⟩ := and_e (Cond.before_iff.mp (show (Jvm.Cond.and given_1 narrow_1).before args s = true from hpre))
  obtain ⟨hcount, g0⟩ := and_e hg
  have q0 := g0
  obtain ⟨w0, rfl⟩ : ∃ w0 : Value, args = #[w0] := by
    have hs : args.size = 1 := by simpa [Cond.value, given_1] using hcount
    obtain ⟨L⟩ := args
    match L, hs with
    | [w0], _ => exact ⟨w0, rfl⟩
  obtain ⟨i0, ei0⟩ := is_v q0
  obtain rfl : w0 = (.int i0) := Option.some.inj ei0
  have hw := fun d (hd : d ∈ tables_1) => atoms_spec (ws := Jvm.Cond.code x code maxLocals ret :: tables_1) hat d (List.mem_cons_of_mem _ hd)
  have hfit : Fit s := fun {y c} hc i hi => by
    obtain ⟨ha, rfl⟩ := Array.getElem?_eq_some_iff.mp hc
    have q := List.all_eq_true.mp ((Array.all_eq_true_iff_forall_mem.mp hF) _ (Array.getElem_mem ha)) i (List.mem_range.mpr hi)
    simpa [Array.getElem?_eq_getElem hi] using q
  obtain ⟨x_au, hn⟩ := and_e hn
  obtain ⟨x_cy, hn⟩ := and_e hn
  obtain ⟨f_au, hn⟩ := and_e hn
  obtain ⟨x_as_, hn⟩ := and_e hn
  obtain ⟨x_cn, hn⟩ := and_e hn
  obtain ⟨f_as_, hn⟩ := and_e hn
  obtain ⟨o_cn, hn⟩ := and_e hn
  obtain ⟨o_cy, hn⟩ := and_e hn
  obtain ⟨x_a21, hn⟩ := and_e hn
  obtain ⟨f_a21, hn⟩ := and_e hn
  obtain ⟨x_a19, f_a19⟩ := and_e hn
  obtain ⟨cy, v_cy⟩ := exa_v x_cy
  obtain ⟨cn, v_cn⟩ := exa_v x_cn
  have S_cy := Sta.start v_cy (Or.inr ⟨(hw _ (List.mem_of_getElem? (i := 10) rfl)), (hw _ (List.mem_of_getElem? (i := 11) rfl))⟩)
  have hne : ¬ cn = cy := (Fld.start ((fld_at v_cn).symm.trans (own_eqI o_cn))).ne (Fld.start ((fld_at v_cy).symm.trans (own_eqI o_cy))) (by decide)
  obtain ⟨au, v_au⟩ := exa_v x_au
  have S_au := Sta.start v_au (Or.inr ⟨(hw _ (List.mem_of_getElem? (i := 1) rfl)), (hw _ (List.mem_of_getElem? (i := 2) rfl))⟩)
  have E_au := Exa.start v_au x_au
  have F_au := Fld.start ((fld_at v_au).symm.trans (own_eqR f_au v_cy))
  obtain ⟨as_, v_as_⟩ := exa_v x_as_
  have S_as_ := Sta.start v_as_ (Or.inr ⟨(hw _ (List.mem_of_getElem? (i := 1) rfl)), (hw _ (List.mem_of_getElem? (i := 20) rfl))⟩)
  have E_as_ := Exa.start v_as_ x_as_
  have F_as_ := Fld.start ((fld_at v_as_).symm.trans (own_eqR f_as_ v_cn))
  obtain ⟨a21, v_a21⟩ := exa_v x_a21
  have S_a21 := Sta.start v_a21 (Or.inr ⟨(hw _ (List.mem_of_getElem? (i := 1) rfl)), (hw _ (List.mem_of_getElem? (i := 23) rfl))⟩)
  have E_a21 := Exa.start v_a21 x_a21
  have F_a21 := Fld.start ((fld_at v_a21).symm.trans (own_eqR f_a21 v_cn))
  obtain ⟨a19, v_a19⟩ := exa_v x_a19
  have S_a19 := Sta.start v_a19 (Or.inr ⟨(hw _ (List.mem_of_getElem? (i := 1) rfl)), (hw _ (List.mem_of_getElem? (i := 25) rfl))⟩)
  have E_a19 := Exa.start v_a19 x_a19
  have F_a19 := Fld.start ((fld_at v_a19).symm.trans (own_eqR f_a19 v_cy))
  obtain ⟨n, o, h1, h2, h3, _, L, rfl, ⟨rfl, N⟩, hq⟩ := rm0 l s _ hw tables_1 i0 cy cn au as_ a21 a19 s.heap s.heap.size (Nat.le_refl _) S_cy hne S_au E_au F_au S_as_ E_as_ F_as_ S_a21 E_a21 F_a21 S_a19 E_a19 F_a19 p e ha hc hk s m _ below hf ((Spec.applies_iff_loose hf).mp happ).1 ⟨rfl, State.Warmed39.refl s, rfl⟩ trivial
  refine ⟨n, _, h1, h2, h3, hpost _ _ _ _ _ _ ⟨Cond.after_iff.mpr rfl, Cond.after_iff.mpr (eq_i res_at (Term.int_eval (1)) rfl), trivial⟩ ⟨hq.1, hq.2.1, (hq.2.2.sift fun y hy => Or.inr (N y hy)).mono (by decide) (by decide)⟩⟩
theorem main_1_1 : Claimed_1_1 := comes_1 fun _ _ _ _ _ _ h hF => ⟨h.1, hF⟩
theorem main_1_2 : Claimed_1_2 := comes_1 fun _ _ _ _ _ _ h hF => ⟨h.2.1, hF⟩
end Jvm.Pilot.@@N@@
namespace Jvm.Pilot.@@N@@
open Jvm Jvm.ClassFile Sem Op Lib Jvm.Free Jvm.Stand Jvm.Pilot.@@N@@.Jvm.D
/-! MADE BY PROGRAM (witnessworld.py) out of the Statement's table words and the real class files: 13 classes; the members and pool entries that the words name. The judged class is class 1, her method 1. -/
namespace start1
open Jvm.ClassFile
def u (s : String) : CpInfo := .utf8 (stringToUtf16 s)
/-- a pool by its gaps: so many unusable entries, then the entry; so many at the end -/
def gap : Nat → List CpInfo → List CpInfo
  | 0, r => r
  | n + 1, r => .unusable :: gap n r
def poolList (es : List (Nat × CpInfo)) (last : Nat) : List CpInfo := es.foldr (fun e r => gap e.1 (e.2 :: r)) (gap last [])
def pool (es : List (Nat × CpInfo)) (last : Nat) : Array CpInfo := ⟨poolList es last⟩
def fileOf (pool : Array CpInfo) (this : Nat) (attrs : Array Attribute := #[]) (ms : Array MethodInfo := #[]) (fl : Nat := 33) (sup : Nat := 0) (ifs : Array Nat := #[]) (fds : Array FieldInfo := #[]) : ClassFile where
  minorVersion := 0
  majorVersion := 65
  constantPool := pool
  accessFlags := fl
  thisClass := this
  superClass := sup
  interfaces := ifs
  fields := fds
  methods := ms
  attributes := attrs
def plain (name : String) (sup : Option ClassId) : Class where
  name := name
  kind := .ordinary
  loader := none
  accessFlags := 33
  super := sup
  interfaces := #[]
  cf := none
  fields := #[]
  methods := #[]
  instanceTypes := #[]
  staticTypes := #[]
  resolved := #[]
  callSites := []
  init := .initialized
  statics := none
  mirror := none

def pool0 : Array CpInfo := pool [(5, u "<init>"), (0, u "()V"), (1, .class_ 10), (1, u "java/lang/Object")] 113

def k0m0 : Method := { name := "<init>", desc := "()V", sig := { parameters := [], returnType := none }, accessFlags := 1, code := none }
/-- java/lang/Object -/
def k0 : Class := { plain "java/lang/Object" none with
  accessFlags := 33
  interfaces := #[]
  cf := some (fileOf pool0 8 #[] #[{ accessFlags := 1, nameIndex := 5, descriptorIndex := 6, attributes := #[] }] 33 0 #[] #[])
  fields := #[]
  methods := #[k0m0]
  instanceTypes := #[]
  staticTypes := #[]
  resolved := Array.replicate 124 none
  statics := none }

def pool1 : Array CpInfo := pool [(2, .class_ 4), (1, u "java/lang/Object"), (0, u "<init>"), (0, u "()V"), (0, .fieldref 8 9), (0, .class_ 10), (0, .nameAndType 11 12), (0, u "com/example/charon/charon/ApiVersion"), (0, u "UNVERSIONED"), (0, u "Lcom/example/charon/charon/ApiVersion;"), (0, .fieldref 8 14), (0, .nameAndType 15 12), (0, u "V2019_10"), (0, .fieldref 8 17), (0, .nameAndType 18 12), (0, u "V2021_01"), (0, .fieldref 8 20), (0, .nameAndType 21 12), (0, u "UNSTABLE"), (0, .methodref 8 23), (0, .nameAndType 24 25), (0, u "activates"), (0, u "()Z"), (0, .methodref 8 27), (0, .nameAndType 28 29), (0, u "approved"), (0, u "()Lcom/example/charon/charon/ChargeStatus;"), (0, .fieldref 31 32), (0, .class_ 33), (0, .nameAndType 34 35), (0, u "com/example/charon/charon/ChargeStatus"), (0, u "ACCEPTED"), (0, u "Lcom/example/charon/charon/ChargeStatus;"), (0, .class_ 37), (0, u "com/example/charon/charon/ApiVersionActivatesPinLaw"), (2, u "law"), (0, u "(I)Z")] 3

def k1m0 : Method := { name := "<init>", desc := "()V", sig := { parameters := [], returnType := none }, accessFlags := 2, code := none }
def k1c1 : Code := { maxStack := 2, maxLocals := 6, code := code, exceptionTable := #[], attributes := #[] }
def k1m1 : Method := { name := "law", desc := "(I)Z", sig := { parameters := [.int], returnType := some .boolean }, accessFlags := 9, code := some k1c1 }
/-- com/example/charon/charon/ApiVersionActivatesPinLaw -/
def k1 : Class := { plain "com/example/charon/charon/ApiVersionActivatesPinLaw" (some 0) with
  accessFlags := 49
  interfaces := #[]
  cf := some (fileOf pool1 36 #[] #[{ accessFlags := 2, nameIndex := 5, descriptorIndex := 6, attributes := #[] }, { accessFlags := 9, nameIndex := 40, descriptorIndex := 41, attributes := #[] }] 49 2 #[] #[])
  fields := #[]
  methods := #[k1m0, k1m1]
  instanceTypes := #[]
  staticTypes := #[]
  resolved := Array.replicate 45 none
  statics := none }

def pool2 : Array CpInfo := pool [(1, .class_ 2), (0, u "java/lang/constant/Constable"), (0, .class_ 4), (0, u "java/lang/Object")] 6

/-- java/lang/constant/Constable -/
def k2 : Class := { plain "java/lang/constant/Constable" (some 0) with
  accessFlags := 1537
  interfaces := #[]
  cf := some (fileOf pool2 1 #[] #[] 1537 3 #[] #[])
  fields := #[]
  methods := #[]
  instanceTypes := #[]
  staticTypes := #[]
  resolved := Array.replicate 11 none
  statics := none }

def pool3 : Array CpInfo := pool [(1, .class_ 2), (0, u "java/lang/Comparable"), (0, .class_ 4), (0, u "java/lang/Object")] 7

/-- java/lang/Comparable -/
def k3 : Class := { plain "java/lang/Comparable" (some 0) with
  accessFlags := 1537
  interfaces := #[]
  cf := some (fileOf pool3 1 #[] #[] 1537 3 #[] #[])
  fields := #[]
  methods := #[]
  instanceTypes := #[]
  staticTypes := #[]
  resolved := Array.replicate 12 none
  statics := none }

def pool4 : Array CpInfo := pool [(1, .class_ 2), (0, u "java/io/Serializable"), (0, .class_ 4), (0, u "java/lang/Object")] 2

/-- java/io/Serializable -/
def k4 : Class := { plain "java/io/Serializable" (some 0) with
  accessFlags := 1537
  interfaces := #[]
  cf := some (fileOf pool4 1 #[] #[] 1537 3 #[] #[])
  fields := #[]
  methods := #[]
  instanceTypes := #[]
  staticTypes := #[]
  resolved := Array.replicate 7 none
  statics := none }

def pool5 : Array CpInfo := pool [(2, .class_ 4), (1, u "java/lang/Enum"), (0, u "name"), (0, u "Ljava/lang/String;"), (2, u "ordinal"), (0, u "I"), (1, .class_ 14), (1, u "java/lang/Object"), (4, u "hash"), (86, .class_ 108), (1, u "java/lang/Enum$EnumDesc"), (2, .class_ 112), (0, u "java/lang/constant/Constable"), (0, .class_ 114), (0, u "java/lang/Comparable"), (0, .class_ 116), (0, u "java/io/Serializable")] 87

/-- java/lang/Enum -/
def k5 : Class := { plain "java/lang/Enum" (some 0) with
  accessFlags := 1057
  interfaces := #[2, 3, 4]
  cf := some (fileOf pool5 2 #[.nestMembers #[106]] #[] 1057 12 #[111, 113, 115] #[{ accessFlags := 18, nameIndex := 5, descriptorIndex := 6, attributes := #[] }, { accessFlags := 18, nameIndex := 9, descriptorIndex := 10, attributes := #[] }, { accessFlags := 2, nameIndex := 19, descriptorIndex := 10, attributes := #[] }])
  fields := #[{ name := "name", type := (.object "java/lang/String"), accessFlags := 18, slot := 0, constantValue := 0 }, { name := "ordinal", type := .int, accessFlags := 18, slot := 1, constantValue := 0 }, { name := "hash", type := .int, accessFlags := 2, slot := 2, constantValue := 0 }]
  methods := #[]
  instanceTypes := #[(.object "java/lang/String"), .int, .int]
  staticTypes := #[]
  resolved := Array.replicate 204 none
  statics := none }

def pool6 : Array CpInfo := pool [(1, .class_ 2), (0, u "com/example/charon/charon/ApiVersion"), (2, u "UNVERSIONED"), (0, u "Lcom/example/charon/charon/ApiVersion;"), (2, u "V2019_10"), (2, u "V2021_01"), (2, u "UNSTABLE"), (2, u "$VALUES"), (0, u "[Lcom/example/charon/charon/ApiVersion;"), (6, .class_ 28), (1, u "java/lang/Enum"), (6, .fieldref 1 36), (0, .nameAndType 37 38), (0, u "approved"), (0, u "Lcom/example/charon/charon/ChargeStatus;"), (16, u "NUMBERED"), (0, u "Ljava/util/regex/Pattern;"), (11, u "()Z"), (12, .fieldref 82 83), (0, .class_ 84), (0, .nameAndType 85 38), (0, u "com/example/charon/charon/ChargeStatus"), (0, u "ACCEPTED"), (31, u "()Lcom/example/charon/charon/ChargeStatus;"), (0, u "activates")] 5

def k6c0 : Code := { maxStack := 1, maxLocals := 1, code := prog_1_method_5_code, exceptionTable := #[], attributes := #[] }
def k6m0 : Method := { name := "approved", desc := "()Lcom/example/charon/charon/ChargeStatus;", sig := { parameters := [], returnType := some (.object "com/example/charon/charon/ChargeStatus") }, accessFlags := 0, code := some k6c0 }
def k6c1 : Code := { maxStack := 2, maxLocals := 1, code := prog_1_method_6_code, exceptionTable := #[], attributes := #[] }
def k6m1 : Method := { name := "activates", desc := "()Z", sig := { parameters := [], returnType := some .boolean }, accessFlags := 0, code := some k6c1 }
/-- com/example/charon/charon/ApiVersion -/
def k6 : Class := { plain "com/example/charon/charon/ApiVersion" (some 5) with
  accessFlags := 16432
  interfaces := #[]
  cf := some (fileOf pool6 1 #[] #[{ accessFlags := 0, nameIndex := 37, descriptorIndex := 117, attributes := #[] }, { accessFlags := 0, nameIndex := 118, descriptorIndex := 68, attributes := #[] }] 16432 26 #[] #[{ accessFlags := 16409, nameIndex := 5, descriptorIndex := 6, attributes := #[] }, { accessFlags := 16409, nameIndex := 9, descriptorIndex := 6, attributes := #[] }, { accessFlags := 16409, nameIndex := 12, descriptorIndex := 6, attributes := #[] }, { accessFlags := 16409, nameIndex := 15, descriptorIndex := 6, attributes := #[] }, { accessFlags := 26, nameIndex := 55, descriptorIndex := 56, attributes := #[] }, { accessFlags := 18, nameIndex := 37, descriptorIndex := 38, attributes := #[] }, { accessFlags := 4122, nameIndex := 18, descriptorIndex := 19, attributes := #[] }])
  fields := #[{ name := "UNVERSIONED", type := (.object "com/example/charon/charon/ApiVersion"), accessFlags := 16409, slot := 0, constantValue := 0 }, { name := "V2019_10", type := (.object "com/example/charon/charon/ApiVersion"), accessFlags := 16409, slot := 1, constantValue := 0 }, { name := "V2021_01", type := (.object "com/example/charon/charon/ApiVersion"), accessFlags := 16409, slot := 2, constantValue := 0 }, { name := "UNSTABLE", type := (.object "com/example/charon/charon/ApiVersion"), accessFlags := 16409, slot := 3, constantValue := 0 }, { name := "NUMBERED", type := (.object "java/util/regex/Pattern"), accessFlags := 26, slot := 4, constantValue := 0 }, { name := "approved", type := (.object "com/example/charon/charon/ChargeStatus"), accessFlags := 18, slot := 3, constantValue := 0 }, { name := "$VALUES", type := (.array (.object "com/example/charon/charon/ApiVersion")), accessFlags := 4122, slot := 5, constantValue := 0 }]
  methods := #[k6m0, k6m1]
  instanceTypes := #[(.object "java/lang/String"), .int, .int, (.object "com/example/charon/charon/ChargeStatus")]
  staticTypes := #[(.object "com/example/charon/charon/ApiVersion"), (.object "com/example/charon/charon/ApiVersion"), (.object "com/example/charon/charon/ApiVersion"), (.object "com/example/charon/charon/ApiVersion"), (.object "java/util/regex/Pattern"), (.array (.object "com/example/charon/charon/ApiVersion"))]
  resolved := Array.replicate 124 none
  statics := some 0 }

def pool7 : Array CpInfo := pool [(1, .class_ 2), (0, u "com/example/charon/charon/ChargeStatus"), (2, u "PENDING"), (0, u "Lcom/example/charon/charon/ChargeStatus;"), (2, u "ACCEPTED"), (2, u "ACTIVE"), (2, u "DECLINED"), (2, u "EXPIRED"), (2, u "FROZEN"), (2, u "CANCELLED"), (2, u "$VALUES"), (0, u "[Lcom/example/charon/charon/ChargeStatus;"), (6, .class_ 37), (1, u "java/lang/Enum")] 46

/-- com/example/charon/charon/ChargeStatus -/
def k7 : Class := { plain "com/example/charon/charon/ChargeStatus" (some 5) with
  accessFlags := 16432
  interfaces := #[]
  cf := some (fileOf pool7 1 #[] #[] 16432 35 #[] #[{ accessFlags := 16409, nameIndex := 5, descriptorIndex := 6, attributes := #[] }, { accessFlags := 16409, nameIndex := 9, descriptorIndex := 6, attributes := #[] }, { accessFlags := 16409, nameIndex := 12, descriptorIndex := 6, attributes := #[] }, { accessFlags := 16409, nameIndex := 15, descriptorIndex := 6, attributes := #[] }, { accessFlags := 16409, nameIndex := 18, descriptorIndex := 6, attributes := #[] }, { accessFlags := 16409, nameIndex := 21, descriptorIndex := 6, attributes := #[] }, { accessFlags := 16409, nameIndex := 24, descriptorIndex := 6, attributes := #[] }, { accessFlags := 4122, nameIndex := 27, descriptorIndex := 28, attributes := #[] }])
  fields := #[{ name := "PENDING", type := (.object "com/example/charon/charon/ChargeStatus"), accessFlags := 16409, slot := 0, constantValue := 0 }, { name := "ACCEPTED", type := (.object "com/example/charon/charon/ChargeStatus"), accessFlags := 16409, slot := 1, constantValue := 0 }, { name := "ACTIVE", type := (.object "com/example/charon/charon/ChargeStatus"), accessFlags := 16409, slot := 2, constantValue := 0 }, { name := "DECLINED", type := (.object "com/example/charon/charon/ChargeStatus"), accessFlags := 16409, slot := 3, constantValue := 0 }, { name := "EXPIRED", type := (.object "com/example/charon/charon/ChargeStatus"), accessFlags := 16409, slot := 4, constantValue := 0 }, { name := "FROZEN", type := (.object "com/example/charon/charon/ChargeStatus"), accessFlags := 16409, slot := 5, constantValue := 0 }, { name := "CANCELLED", type := (.object "com/example/charon/charon/ChargeStatus"), accessFlags := 16409, slot := 6, constantValue := 0 }, { name := "$VALUES", type := (.array (.object "com/example/charon/charon/ChargeStatus")), accessFlags := 4122, slot := 7, constantValue := 0 }]
  methods := #[]
  instanceTypes := #[(.object "java/lang/String"), .int, .int]
  staticTypes := #[(.object "com/example/charon/charon/ChargeStatus"), (.object "com/example/charon/charon/ChargeStatus"), (.object "com/example/charon/charon/ChargeStatus"), (.object "com/example/charon/charon/ChargeStatus"), (.object "com/example/charon/charon/ChargeStatus"), (.object "com/example/charon/charon/ChargeStatus"), (.object "com/example/charon/charon/ChargeStatus"), (.array (.object "com/example/charon/charon/ChargeStatus"))]
  resolved := Array.replicate 84 none
  statics := some 1 }

def pool8 : Array CpInfo := pool [(1, u "java/lang/Cloneable"), (0, .class_ 1), (0, u "java/lang/Object"), (0, .class_ 3)] 3

/-- java/lang/Cloneable -/
def k8 : Class := { plain "java/lang/Cloneable" (some 0) with
  accessFlags := 1537
  interfaces := #[]
  cf := some (fileOf pool8 2 #[] #[] 1537 4 #[] #[])
  fields := #[]
  methods := #[]
  instanceTypes := #[]
  staticTypes := #[]
  resolved := Array.replicate 8 none
  statics := none }

/-- the primitive byte -/
def k9 : Class := { plain "byte" none with kind := .primitive 'B', accessFlags := 0x411 }
/-- [B -/
def k10 : Class := { plain "[B" (some 0) with kind := .array 9 .byte, interfaces := #[8, 4], accessFlags := 1041 }

/-- the primitive int -/
def k11 : Class := { plain "int" none with kind := .primitive 'I', accessFlags := 0x411 }
/-- [I -/
def k12 : Class := { plain "[I" (some 0) with kind := .array 11 .int, interfaces := #[8, 4], accessFlags := 1041 }

def heap : Heap := #[{ cls := 6, slots := #[.ref 4, .ref 5, .ref 6, .ref 7, .null, .null], vm := .statics 6 },
  { cls := 7, slots := #[.null, .ref 2, .ref 3, .null, .null, .null, .null, .null], vm := .statics 7 },
  { cls := 7, slots := #[.null, .int 1, .int 0], vm := .none },
  { cls := 7, slots := #[.null, .int 2, .int 0], vm := .none },
  { cls := 6, slots := #[.null, .int 0, .int 0, .ref 2], vm := .none },
  { cls := 6, slots := #[.null, .int 1, .int 0, .ref 2], vm := .none },
  { cls := 6, slots := #[.null, .int 2, .int 0, .ref 3], vm := .none },
  { cls := 6, slots := #[.null, .int 3, .int 0, .ref 3], vm := .none }]
def classes : Array Class := #[k0, k1, k2, k3, k4, k5, k6, k7, k8, k9, k10, k11, k12]
def interned : List (Array UInt16 × Addr) := []
def slotsUsed : Nat := 36
def theMethod : MethodId := ⟨1, 1⟩
def args0 : Array Value := #[.int 5]
def aboutOver (below : List Frame) : State where
  vm := { classes := classes, interned := interned.toArray }
  heap := heap
  slotsUsed := slotsUsed
  threads := #[{ frames := .invoking theMethod args0 :: below }]
def below0 : List Frame := [.native { method := ⟨0, 0⟩, args := #[] }]
def about1 : State := aboutOver below0
def p0 : Program := .bare "" "" ""
def e0 : Env := launch0.env 0 0 0
theorem w_frames : about1.frames = Frame.invoking theMethod args0 :: below0 := rfl
set_option maxRecDepth 65536 in
theorem w_args : argsFit about1.vm theMethod args0 = true := by decide +kernel
set_option maxRecDepth 65536 in
theorem w_heap : heapFits about1 = true := by decide +kernel
set_option maxRecDepth 65536 in
theorem w_runnable : about1.curStatus? = some .runnable := by decide +kernel
set_option maxRecDepth 65536 in
theorem w_alone : about1.alone = true := by decide +kernel
set_option maxRecDepth 65536 in
theorem w_named : about1.methodNamed? x = some theMethod := by decide +kernel
set_option maxRecDepth 65536 in
theorem w_hears : about1.hears theMethod below0 = true := by decide +kernel
set_option maxRecDepth 65536 in
theorem w_ripe : about1.ripe theMethod args0 below0 = true := by decide +kernel
theorem w_running : about1.status = .running := rfl
set_option maxRecDepth 65536 in
theorem w_room : about1.hasRoom e0.platform room_1 = true :=
  launch0.hasRoom_least _ room_1 (by decide +kernel) (by decide +kernel) (by decide +kernel) (by decide +kernel) (by decide +kernel) (by decide +kernel)
theorem allAtoms_all (ts : List Jvm.Cond) (a : Array Jvm.Value) (st : Jvm.State) : (allAtoms ts).before a st = ts.all (fun c => c.before a st) := by
  induction ts with
  | nil => rfl
  | cons c t ih =>
    show (Jvm.Cond.and c (allAtoms t)).before a st = _
    rw [Jvm.Cond.before_and, ih, List.all_cons]
def words1 : List Jvm.Cond := Jvm.Cond.code x code maxLocals ret :: tables_1
/-- a 'code' word, met by the world's own term for the bytes: nothing is compared byte by byte -/
theorem code_word {y : MethodName} {bytes : ByteArray} {mx : Nat} {rt : Option FieldType} {a : Array Value} {s : State} {m : MethodId} {meth : Method} {c : Code} (h1 : s.methodNamed? y = some m) (h2 : s.vm.method? m = some meth) (h3 : meth.code = some c) (h4 : c.code = bytes)
    (h5 : (c.maxLocals == mx && c.exceptionTable.isEmpty && decide (c.maxStack ≤ mostOperands) && decide (meth.sig.returnType = rt) && !meth.locks && decide (parseMethodDescriptor y.desc = some meth.sig)) = true) : (Jvm.Cond.code y bytes mx rt).before a s = true := by
  simp only [Bool.and_eq_true, beq_iff_eq, Bool.not_eq_true', decide_eq_true_eq] at h5
  obtain ⟨⟨⟨⟨⟨g1, g2⟩, g3⟩, g4⟩, g5⟩, g6⟩ := h5
  simp [Cond.before, Cond.holds, Cond.value, h1, h2, h3, h4, g1, g2, g3, g4, g5, g6]
def isCode : Jvm.Cond → Bool
  | .code _ _ _ _ => true
  | _ => false
theorem all_split {L : List Jvm.Cond} {P : Jvm.Cond → Bool} (h1 : L.all (fun c => isCode c || P c) = true) (h2 : ∀ c ∈ L.filter isCode, P c = true) : L.all P = true := by
  refine List.all_eq_true.mpr fun c hc => ?_
  have h := List.all_eq_true.mp h1 c hc
  rcases Bool.eq_false_or_eq_true (isCode c) with hi | hi
  · exact h2 c (List.mem_filter.mpr ⟨hc, hi⟩)
  · simpa [hi] using h
set_option maxRecDepth 65536 in
theorem w_c0 : (Jvm.Cond.code x code maxLocals ret).before args0 about1 = true := code_word (m := ⟨1, 1⟩) (meth := k1m1) (c := k1c1) (by decide +kernel) rfl rfl rfl (by decide +kernel)
set_option maxRecDepth 65536 in
theorem w_c1 : (Jvm.Cond.code ({ cls := "com/example/charon/charon/ApiVersion", name := "activates", desc := "()Z" } : Jvm.MethodName) prog_1_method_6_code (1 : Nat) (Option.some Jvm.ClassFile.FieldType.boolean)).before args0 about1 = true := code_word (m := ⟨6, 1⟩) (meth := k6m1) (c := k6c1) (by decide +kernel) rfl rfl rfl (by decide +kernel)
set_option maxRecDepth 65536 in
theorem w_c2 : (Jvm.Cond.code ({ cls := "com/example/charon/charon/ApiVersion", name := "approved", desc := "()Lcom/example/charon/charon/ChargeStatus;" } : Jvm.MethodName) prog_1_method_5_code (1 : Nat) (Option.some (Jvm.ClassFile.FieldType.object "com/example/charon/charon/ChargeStatus"))).before args0 about1 = true := code_word (m := ⟨6, 0⟩) (meth := k6m0) (c := k6c0) (by decide +kernel) rfl rfl rfl (by decide +kernel)
def codes1 : List Jvm.Cond := [Jvm.Cond.code x code maxLocals ret, Jvm.Cond.code ({ cls := "com/example/charon/charon/ApiVersion", name := "activates", desc := "()Z" } : Jvm.MethodName) prog_1_method_6_code (1 : Nat) (Option.some Jvm.ClassFile.FieldType.boolean), Jvm.Cond.code ({ cls := "com/example/charon/charon/ApiVersion", name := "approved", desc := "()Lcom/example/charon/charon/ChargeStatus;" } : Jvm.MethodName) prog_1_method_5_code (1 : Nat) (Option.some (Jvm.ClassFile.FieldType.object "com/example/charon/charon/ChargeStatus"))]
set_option maxRecDepth 65536 in
theorem codes_eq : words1.filter isCode = codes1 := rfl
theorem w_codes : ∀ c ∈ words1.filter isCode, c.before args0 about1 = true := by
  rw [codes_eq]
  intro c hc
  simp only [codes1, List.mem_cons, List.not_mem_nil, or_false] at hc
  rcases hc with rfl | rfl | rfl
  · exact w_c0
  · exact w_c1
  · exact w_c2
set_option maxRecDepth 65536 in
theorem w_t1 : (words1.take 24).all (fun c => isCode c || c.before args0 about1) = true := by decide +kernel
set_option maxRecDepth 65536 in
theorem w_t2 : (words1.drop 24).all (fun c => isCode c || c.before args0 about1) = true := by decide +kernel
theorem w_tables : (allAtoms (Jvm.Cond.code x code maxLocals ret :: tables_1)).before args0 about1 = true := by
  rw [allAtoms_all]
  show words1.all (fun c => c.before args0 about1) = true
  refine all_split ?_ w_codes
  rw [← List.take_append_drop 24 words1, List.all_append, w_t1, w_t2]
  rfl
set_option maxRecDepth 65536 in
theorem w_case : (Jvm.Cond.and given_1 narrow_1).before args0 about1 = true := by decide +kernel
theorem w_applies : (headSpec (Jvm.Cond.code x code maxLocals ret :: tables_1) room_1).applies x e0.platform about1 = true :=
  (Spec.applies_iff w_frames).mpr ⟨w_running, w_runnable, w_alone, w_named, w_hears, w_ripe, w_room, w_tables⟩
theorem atStart : AtStart classFile x code maxLocals ret World_1 tables_1 room_1 Calls_1 rest_1 Pre_1 launch0 p0 e0 about1 theMethod args0 below0 :=
  ⟨lists_1, trivial, launch0.admits_env _ _ _, launch0.least_env, fairChoices_fair.cas, fairChoices_fair.clock, w_frames, w_args, w_heap, w_applies, trivial, trivial, w_case⟩
end start1
theorem witness_1 : WitnessClaimed_1 := ⟨start1.p0, start1.e0, start1.about1, start1.theMethod, start1.args0, start1.below0, start1.atStart⟩
end Jvm.Pilot.@@N@@
