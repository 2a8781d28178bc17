import JvmDerived
import JvmDerived.Pilot.@@N@@Statement
import JvmDerived.Pilot.@@N@@Code
set_option linter.unusedVariables false
set_option linter.unusedSimpArgs false
namespace Jvm.Pilot.@@N@@
open Jvm Jvm.ClassFile Sem Op Lib Jvm.Free Jvm.Stand Jvm.LawKit Jvm.RoadKit Bundle Jvm.Pilot.@@N@@.Jvm.D
/-! 0. the walk's own layer: a run that comes to its end, step by step -/
def own_Goes (p : Program) (e : Env) (below : List Frame) (A : State) (G : Outcome → State → Prop) : Prop :=
  ∃ s₂ o, Steps p.tables e below A s₂ ∧ s₂.status = .running ∧ Ended s₂ below o ∧ G o s₂
def own_post (s : State) (Q : Option Value → Heap → List Loc → Prop) (rc rs : Nat) : Outcome → State → Prop :=
  fun o U' => ∃ v L, o = .returned v ∧ Q v U'.heap L ∧ FrameEnd s o U' L rc rs
section Own
variable {p : Program} {l : Launch} {e : Env} {R : Room} {s : State} {m : MethodId} {args : Array Value} {below : List Frame} {meth : Method} {c : Code} {T : State} {locs : List Loc} {cells slots : Nat} {G : Outcome → State → Prop} {Q : Option Value → Heap → List Loc → Prop} {rc rs : Nat} {Z : State} {a0 : Array Value} {h : Heap}
theorem own_st {A B : State} (st : ∀ t, Steps p.tables e below B t → Steps p.tables e below A t) (k : own_Goes p e below B G) : own_Goes p e below A G := by
  obtain ⟨s₂, o, h1, h2⟩ := k; exact ⟨s₂, o, st _ h1, h2⟩
theorem own_join {B : State} {K : (Outcome → State → Prop) → Prop} (h1 : K G) (h2 : K G → own_Goes p e below B G) : own_Goes p e below B G := h2 h1
theorem own_ret {S : List Value} {pc : Nat} {Ls : Array Slot} {w : Value} {t : FieldType} (X : Stand p l e R s m args below meth c T locs cells slots) (hlk : meth.locks = false) (hret : meth.sig.returnType = some t)
    (st : ∀ fs, (∀ (f : JFrame) (acts : List Action), f.method = m → f.locked = none → f.entered = [] → (doReturn e (T.setTop f) acts (some w)).1 = T.setFrames fs) → Steps p.tables e below (T.setTop (mkF m pc Ls S)) (T.setFrames fs))
    (hc : cells ≤ rc) (hs : slots ≤ rs) (eT : T.heap = h) (hq : Q (some w) h locs) : own_Goes p e below (T.setTop (mkF m pc Ls S)) (own_post s Q rc rs) := by
  subst eT
  obtain ⟨fs, hr, hrun, hended, hW, hsame⟩ := X.leave (v := some w) (fun h => by rw [hret] at h; cases h) hlk
  exact ⟨_, _, st fs hr, hrun, hended, _, _, rfl, hq, ⟨_, rfl⟩, hW, hsame.mono hc hs⟩
theorem own_retI {rest : List Value} {pc : Nat} {Ls : Array Slot} {z : Int32} (X : Stand p l e R s m args below meth c T locs cells slots) (hx : p.tables.exec = Jvm.exec) (hlk : meth.locks = false) (hret : meth.sig.returnType = some .int) (hd : decode c.code pc = .ok (.ireturn, 1))
    (hc : cells ≤ rc) (hs : slots ≤ rs) (eT : T.heap = h) (hq : Q (some (.int z)) h locs) : own_Goes p e below (T.setTop (mkF m pc Ls (.int z :: rest))) (own_post s Q rc rs) :=
  own_ret X hlk hret (fun fs hr => retOut X hx hret rfl (Or.inl ⟨rfl, Or.inl rfl, z, rfl⟩) hd hr) hc hs eT hq
theorem own_retN {rest : List Value} {pc : Nat} {Ls : Array Slot} {z z' : Int32} {t : FieldType} (X : Stand p l e R s m args below meth c T locs cells slots) (hx : p.tables.exec = Jvm.exec) (hlk : meth.locks = false) (hret : meth.sig.returnType = some t) (ht : t = .boolean ∨ t = .byte ∨ t = .char ∨ t = .short) (hn : nar t z = z') (hd : decode c.code pc = .ok (.ireturn, 1))
    (hc : cells ≤ rc) (hs : slots ≤ rs) (eT : T.heap = h) (hq : Q (some (.int z')) h locs) : own_Goes p e below (T.setTop (mkF m pc Ls (.int z :: rest))) (own_post s Q rc rs) :=
  own_ret X hlk hret (fun fs hr => retN X hx hret ht hd (by rw [hn]; exact hr)) hc hs eT hq
theorem own_retJ {rest : List Value} {pc : Nat} {Ls : Array Slot} {z : Int64} (X : Stand p l e R s m args below meth c T locs cells slots) (hx : p.tables.exec = Jvm.exec) (hlk : meth.locks = false) (hret : meth.sig.returnType = some .long) (hd : decode c.code pc = .ok (.lreturn, 1))
    (hc : cells ≤ rc) (hs : slots ≤ rs) (eT : T.heap = h) (hq : Q (some (.long z)) h locs) : own_Goes p e below (T.setTop (mkF m pc Ls (.long z :: rest))) (own_post s Q rc rs) :=
  own_ret X hlk hret (fun fs hr => retOut X hx hret rfl (Or.inr (Or.inl ⟨rfl, rfl, z, rfl⟩)) hd hr) hc hs eT hq
theorem own_retA {rest : List Value} {pc : Nat} {Ls : Array Slot} {w : Value} {t : FieldType} (X : Stand p l e R s m args below meth c T locs cells slots) (hx : p.tables.exec = Jvm.exec) (hlk : meth.locks = false) (hret : meth.sig.returnType = some t) (ht : t.isReference = true) (hw : w.isRef = true) (hn : narrow t w = w) (hd : decode c.code pc = .ok (.areturn, 1))
    (hc : cells ≤ rc) (hs : slots ≤ rs) (eT : T.heap = h) (hq : Q (some w) h locs) : own_Goes p e below (T.setTop (mkF m pc Ls (w :: rest))) (own_post s Q rc rs) :=
  own_ret X hlk hret (fun fs hr => retOut X hx hret hn (Or.inr (Or.inr (Or.inr (Or.inr ⟨rfl, ht, hw⟩)))) hd hr) hc hs eT hq
theorem own_retV {pc : Nat} {Ls : Array Slot} (X : Stand p l e R s m args below meth c T locs cells slots) (hx : p.tables.exec = Jvm.exec) (hlk : meth.locks = false) (hret : meth.sig.returnType = none) (hd : decode c.code pc = .ok (.return_, 1))
    (hc : cells ≤ rc) (hs : slots ≤ rs) (eT : T.heap = h) (hq : Q none h locs) : own_Goes p e below (T.setTop (mkF m pc Ls [])) (own_post s Q rc rs) := by
  subst eT
  obtain ⟨fs, hr, hrun, hended, hW, hsame⟩ := X.leave (v := none) (fun _ => rfl) hlk
  exact ⟨_, _, X.returnOut hx hret hd hr, hrun, hended, _, _, rfl, hq, ⟨_, rfl⟩, hW, hsame.mono hc hs⟩
/-- what a body's theorem says -/
abbrev own_Ct (l : Launch) (Z : State) (y : MethodName) (bytes : ByteArray) (maxL : Nat) (ret : Option FieldType) (ws : List Jvm.Cond) (rm : Room) (as' : Array Value) (h0 : Heap) (Q : Option Value → Heap → List Loc → Prop) (rc rs : Nat) : Prop :=
  MetFree l y (head1 (Jvm.Cond.code y bytes maxL ret :: ws) rm) (fun a U => a = as' ∧ Z.Warmed39 U.vm ∧ U.heap = h0) (fun _ _ _ _ _ => True) (fun _ U o U' => ∃ v L, o = .returned v ∧ Q v U'.heap L ∧ FrameEnd U o U' L rc rs)
theorem own_met {y : MethodName} {bytes : ByteArray} {maxL : Nat} {ret : Option FieldType} {ws : List Jvm.Cond} {rm : Room} {as' : Array Value} {h0 : Heap} (hp : plainFor y = true)
    (body : ∀ p e s m below meth c s₁, Stand p l e rm s m as' below meth c s₁ [] 0 0 → p.tables.exec = Jvm.exec → c.code = bytes → c.maxLocals = maxL → meth.sig.returnType = ret → meth.locks = false → meth.name = y.name → s.vm.findClass y.cls = some m.cls → Z.Warmed39 s.vm → s₁.heap = h0 →
      own_Goes p e below (s₁.setTop (entryFrame m as' maxL)) (own_post s Q rc rs)) : own_Ct l Z y bytes maxL ret ws rm as' h0 Q rc rs := by
  refine MetFree.of_bodySF hp hisR ?_
  intro p e s m args below meth c s₁ Bd hml0 hP hK
  obtain ⟨rfl, hZ, hh⟩ := hP
  exact body p e s m below meth c s₁ (Stand.of_body Bd) Bd.exec Bd.bytes hml0 Bd.returns Bd.notSynchronized (name_of_methodNamed Bd.named Bd.method).1 (findClass_of_methodNamed Bd.named) hZ (by rw [← hh, Bd.state]; rfl)
theorem own_callS {own : String} {index : Nat} {y : MethodName} {bytes : ByteArray} {maxL : Nat} {ret : Option FieldType} {rm : Room} {argsL rest : List Value} {pc W : Nat} {Ls : Array Slot} (X : Stand p l e R s m args below meth c T locs cells slots) (hx : p.tables.exec = Jvm.exec) (hZ : Z.Warmed39 s.vm) (hown : s.vm.findClass own = some m.cls)
    (w1 : (Jvm.Cond.methodLink own index y).before a0 Z = true) (w2 : (Jvm.Cond.static y).before a0 Z = true) (w3 : (Jvm.Cond.initialized y.cls).before a0 Z = true) (w4 : (Jvm.Cond.code y bytes maxL ret).before a0 Z = true) (hy : y.cls ≠ "java/lang/invoke/MethodHandle" ∧ y.cls ≠ "java/lang/invoke/VarHandle")
    (M : own_Ct l Z y bytes maxL ret [] rm argsL.toArray h Q rm.cells rm.slots) (hf : rm.frames + 1 ≤ R.frames) (hl : W + (maxL + 11) + rm.locals ≤ R.locals) (eT : T.heap = h) (hsize : Ls.size = c.maxLocals)
    (hlen : ∀ sig, parseMethodDescriptor y.desc = some sig → argsL.length = sig.parameters.length) {S : List Value} (hS : S = argsL.reverse ++ rest) (hW : (rest.map fun v => v.category).sum ≤ W) (hd : decode c.code pc = .ok (.invokestatic index, 3)) (hc : cells + rm.cells ≤ R.cells) (hs : slots + rm.slots ≤ R.slots) :
    ∃ v T' h' L, Stand p l e R s m args below meth c T' (locs ++ L) (cells + rm.cells) (slots + rm.slots) ∧ T'.heap = h' ∧ Q v h' L ∧ ∀ t, Steps p.tables e below (T'.setTop (mkF m (pc + 3) Ls (v.toList ++ rest))) t → Steps p.tables e below (T.setTop (mkF m pc Ls S)) t := by
  obtain ⟨v, _, ⟨T4, L4, k4, n4⟩, -, X4, ⟨Lc, hQ, l4, y4, z4⟩, st⟩ := Jvm.LawKit.callS X hx hown (mvT hZ w1) (mvT hZ w2) (mvT hZ w3) (mvT hZ w4) hy (backOf (W := W) M hZ w4 w3 hf hl) (g := mkF m pc Ls S) rfl hsize (argsL := argsL) (rest := rest) hlen hS (by show 2 * 0 + _ ≤ _; omega) hd (fun _ _ => ⟨rfl, eT, hc, hs⟩)
  dsimp only [Pt.U, Pt.locs, Pt.cells, Pt.slots] at X4 l4 y4 z4 st hQ
  subst l4 y4 z4
  exact ⟨v, T4, _, Lc, X4, rfl, hQ, st⟩
theorem own_callV {own C : String} {index : Nat} {y z : MethodName} {bytes : ByteArray} {maxL : Nat} {ret : Option FieldType} {rm : Room} {b : Addr} {argsL rest : List Value} {pc W : Nat} {Ls : Array Slot} (X : Stand p l e R s m args below meth c T locs cells slots) (hx : p.tables.exec = Jvm.exec) (hZ : Z.Warmed39 s.vm) (hown : s.vm.findClass own = some m.cls)
    (w1 : (Jvm.Cond.methodLink own index y).before a0 Z = true) (w2 : (Jvm.Cond.declares y).before a0 Z = true) (w5 : (Jvm.Cond.selects C y z).before a0 Z = true) (w6 : (Jvm.Cond.instanceMethod z).before a0 Z = true) (w3 : (Jvm.Cond.initialized z.cls).before a0 Z = true) (w4 : (Jvm.Cond.code z bytes maxL ret).before a0 Z = true) (hnf : NotFace s y) (hy : y.cls ≠ "java/lang/invoke/MethodHandle" ∧ y.cls ≠ "java/lang/invoke/VarHandle")
    (M : own_Ct l Z z bytes maxL ret [] rm (.ref b :: argsL).toArray h Q rm.cells rm.slots) (hf : rm.frames + 1 ≤ R.frames) (hl : W + (maxL + 11) + rm.locals ≤ R.locals) (eT : T.heap = h) (E : Exa Z h b C) (hsize : Ls.size = c.maxLocals)
    (hlen : ∀ sig, parseMethodDescriptor y.desc = some sig → argsL.length = sig.parameters.length) {S : List Value} (hS : S = argsL.reverse ++ .ref b :: rest) (hW : (rest.map fun v => v.category).sum ≤ W) (hd : decode c.code pc = .ok (.invokevirtual index, 3)) (hc : cells + rm.cells ≤ R.cells) (hs : slots + rm.slots ≤ R.slots) :
    ∃ v T' h' L, Stand p l e R s m args below meth c T' (locs ++ L) (cells + rm.cells) (slots + rm.slots) ∧ T'.heap = h' ∧ Q v h' L ∧ ∀ t, Steps p.tables e below (T'.setTop (mkF m (pc + 3) Ls (v.toList ++ rest))) t → Steps p.tables e below (T.setTop (mkF m pc Ls S)) t := by
  obtain ⟨cq, kq, qa, qb, qc⟩ := isOf hZ eT E
  obtain ⟨v, _, ⟨T4, L4, k4, n4⟩, -, X4, ⟨Lc, hQ, l4, y4, z4⟩, st⟩ := X.virtualBack hx (y := y) (z := z) hown (mvT hZ w1) (mvT hZ w2) hnf (mvT hZ w5) (mvT hZ w6) hy (backOf (W := W) M hZ w4 w3 hf hl) qa qc (g := mkF m pc Ls S) rfl hsize (Steps.refl _) (argsL := argsL) (rest := rest) hlen hS (by show 2 * 0 + _ ≤ _; omega) hd (fun _ _ => ⟨rfl, eT, hc, hs⟩)
  dsimp only [Pt.U, Pt.locs, Pt.cells, Pt.slots] at X4 l4 y4 z4 st hQ
  subst l4 y4 z4
  exact ⟨v, T4, _, Lc, X4, rfl, hQ, fun t k => st.trans k⟩
theorem own_callU {own C owner : String} {index : Nat} {y z : MethodName} {bytes : ByteArray} {maxL : Nat} {ret : Option FieldType} {rm : Room} {b : Addr} {argsL rest : List Value} {pc W : Nat} {Ls : Array Slot} (X : Stand p l e R s m args below meth c T locs cells slots) (hx : p.tables.exec = Jvm.exec) (hZ : Z.Warmed39 s.vm) (hown : s.vm.findClass own = some m.cls)
    (w1 : (Jvm.Cond.methodLink own index y).before a0 Z = true) (w0 : (Jvm.Cond.sameMethod y.cls owner y.name y.desc).before a0 Z = true) (w2 : (Jvm.Cond.declares ⟨owner, y.name, y.desc⟩).before a0 Z = true) (w5 : (Jvm.Cond.selects C y z).before a0 Z = true) (w6 : (Jvm.Cond.instanceMethod z).before a0 Z = true) (w3 : (Jvm.Cond.initialized z.cls).before a0 Z = true) (w4 : (Jvm.Cond.code z bytes maxL ret).before a0 Z = true) (hy : owner ≠ "java/lang/invoke/MethodHandle" ∧ owner ≠ "java/lang/invoke/VarHandle")
    (M : own_Ct l Z z bytes maxL ret [] rm (.ref b :: argsL).toArray h Q rm.cells rm.slots) (hf : rm.frames + 1 ≤ R.frames) (hl : W + (maxL + 11) + rm.locals ≤ R.locals) (eT : T.heap = h) (E : Exa Z h b C) (hsize : Ls.size = c.maxLocals)
    (hlen : ∀ sig, parseMethodDescriptor y.desc = some sig → argsL.length = sig.parameters.length) {S : List Value} (hS : S = argsL.reverse ++ .ref b :: rest) (hW : (rest.map fun v => v.category).sum ≤ W) (hd : decode c.code pc = .ok (.invokevirtual index, 3)) (hc : cells + rm.cells ≤ R.cells) (hs : slots + rm.slots ≤ R.slots) :
    ∃ v T' h' L, Stand p l e R s m args below meth c T' (locs ++ L) (cells + rm.cells) (slots + rm.slots) ∧ T'.heap = h' ∧ Q v h' L ∧ ∀ t, Steps p.tables e below (T'.setTop (mkF m (pc + 3) Ls (v.toList ++ rest))) t → Steps p.tables e below (T.setTop (mkF m pc Ls S)) t := by
  obtain ⟨cq, kq, qa, qb, qc⟩ := isOf hZ eT E
  obtain ⟨v, _, ⟨T4, L4, k4, n4⟩, -, X4, ⟨Lc, hQ, l4, y4, z4⟩, st⟩ := X.virtualBackUp hx (x := y) (y := z) hown (mvT hZ w1) (mvT hZ w0) (mvT hZ w2) hy (mvT hZ w5) (mvT hZ w6) (backOf (W := W) M hZ w4 w3 hf hl) qa qc (g := mkF m pc Ls S) rfl hsize (Steps.refl _) (argsL := argsL) (rest := rest) hlen hS (by show 2 * 0 + _ ≤ _; omega) hd (fun _ _ => ⟨rfl, eT, hc, hs⟩)
  dsimp only [Pt.U, Pt.locs, Pt.cells, Pt.slots] at X4 l4 y4 z4 st hQ
  subst l4 y4 z4
  exact ⟨v, T4, _, Lc, X4, rfl, hQ, fun t k => st.trans k⟩
theorem own_callP {own : String} {index : Nat} {y y' : MethodName} {bytes : ByteArray} {maxL : Nat} {ret : Option FieldType} {rm : Room} {b : Addr} {argsL rest : List Value} {pc W : Nat} {Ls : Array Slot} (X : Stand p l e R s m args below meth c T locs cells slots) (hx : p.tables.exec = Jvm.exec) (hZ : Z.Warmed39 s.vm) (hown : s.vm.findClass own = some m.cls)
    (w1 : (Jvm.Cond.methodLink own index y).before a0 Z = true) (w6 : (Jvm.Cond.instanceMethod y).before a0 Z = true) (w7 : (Jvm.Cond.privateMethod y).before a0 Z = true) (w5 : (Jvm.Cond.selects y.cls y' y').before a0 Z = true) (hy' : y'.cls = y.cls) (w3 : (Jvm.Cond.initialized y.cls).before a0 Z = true) (w4 : (Jvm.Cond.code y bytes maxL ret).before a0 Z = true) (hy : y.cls ≠ "java/lang/invoke/MethodHandle" ∧ y.cls ≠ "java/lang/invoke/VarHandle")
    (M : own_Ct l Z y bytes maxL ret [] rm (.ref b :: argsL).toArray h Q rm.cells rm.slots) (hf : rm.frames + 1 ≤ R.frames) (hl : W + (maxL + 11) + rm.locals ≤ R.locals) (eT : T.heap = h) {C : String} (E : Exa Z h b C) (hsize : Ls.size = c.maxLocals)
    (hlen : ∀ sig, parseMethodDescriptor y.desc = some sig → argsL.length = sig.parameters.length) {S : List Value} (hS : S = argsL.reverse ++ .ref b :: rest) (hW : (rest.map fun v => v.category).sum ≤ W) (hd : decode c.code pc = .ok (.invokevirtual index, 3)) (hc : cells + rm.cells ≤ R.cells) (hs : slots + rm.slots ≤ R.slots) :
    ∃ v T' h' L, Stand p l e R s m args below meth c T' (locs ++ L) (cells + rm.cells) (slots + rm.slots) ∧ T'.heap = h' ∧ Q v h' L ∧ ∀ t, Steps p.tables e below (T'.setTop (mkF m (pc + 3) Ls (v.toList ++ rest))) t → Steps p.tables e below (T.setTop (mkF m pc Ls S)) t := by
  obtain ⟨cq, q1, q2⟩ := E.cell
  have hpv : s.PrivateAt y := Cond.privateMethod_at (mvP hZ w7 (args := #[]))
  have hnf : NotFace s y' := notFace_of_selects (args := #[]) (mvT hZ w5)
  obtain ⟨c2, r2, m2, k1, k2, k3, k4, kP, hkP, hkPi⟩ := Cond.selects_spec (mvT (args := #[]) hZ w5)
  have k5 := findClass_of_methodNamed k3
  rw [hy'] at k5
  obtain ⟨v, _, ⟨T4, L4, k4, n4⟩, -, X4, ⟨Lc, hQ, l4, y4, z4⟩, st⟩ := X.privateBack hx hown (mvT hZ w1) (mvT hZ w6) (selects_self_of_private k5 hkP hkPi hpv (mvT hZ w6) hy) hpv (mvT hZ w4) hy (backOf (W := W) M hZ w4 w3 hf hl) (g := mkF m pc Ls S) rfl hsize (Steps.refl _) (a := b) (by rw [eT]; exact q1) q2 (argsL := argsL) (rest := rest) hlen hS (by show 2 * 0 + _ ≤ _; omega) hd (fun _ _ => ⟨rfl, eT, hc, hs⟩)
  dsimp only [Pt.U, Pt.locs, Pt.cells, Pt.slots] at X4 l4 y4 z4 st hQ
  subst l4 y4 z4
  exact ⟨v, T4, _, Lc, X4, rfl, hQ, fun t k => st.trans k⟩
theorem own_callI {own : String} {index : Nat} {y : MethodName} {bytes : ByteArray} {maxL : Nat} {rm : Room} {b : Addr} {argsL rest : List Value} {pc W : Nat} {Ls : Array Slot} (X : Stand p l e R s m args below meth c T locs cells slots) (hx : p.tables.exec = Jvm.exec) (hZ : Z.Warmed39 s.vm) (hown : s.vm.findClass own = some m.cls) (hi : y.name = "<init>")
    (w1 : (Jvm.Cond.methodLink own index y).before a0 Z = true) (w6 : (Jvm.Cond.instanceMethod y).before a0 Z = true) (w3 : (Jvm.Cond.initialized y.cls).before a0 Z = true) (w4 : (Jvm.Cond.code y bytes maxL none).before a0 Z = true) (hy : y.cls ≠ "java/lang/invoke/MethodHandle" ∧ y.cls ≠ "java/lang/invoke/VarHandle")
    (M : own_Ct l Z y bytes maxL none [] rm (.ref b :: argsL).toArray h Q rm.cells rm.slots) (hf : rm.frames + 1 ≤ R.frames) (hl : W + (maxL + 11) + rm.locals ≤ R.locals) (eT : T.heap = h) (hsize : Ls.size = c.maxLocals)
    (hlen : ∀ sig, parseMethodDescriptor y.desc = some sig → argsL.length = sig.parameters.length) {S : List Value} (hS : S = argsL.reverse ++ .ref b :: rest) (hW : (rest.map fun v => v.category).sum ≤ W) (hd : decode c.code pc = .ok (.invokespecial index, 3)) (hc : cells + rm.cells ≤ R.cells) (hs : slots + rm.slots ≤ R.slots) :
    ∃ v T' h' L, Stand p l e R s m args below meth c T' (locs ++ L) (cells + rm.cells) (slots + rm.slots) ∧ T'.heap = h' ∧ Q v h' L ∧ ∀ t, Steps p.tables e below (T'.setTop (mkF m (pc + 3) Ls (v.toList ++ rest))) t → Steps p.tables e below (T.setTop (mkF m pc Ls S)) t := by
  obtain ⟨v, _, ⟨T4, L4, k4, n4⟩, -, X4, ⟨Lc, hQ, l4, y4, z4⟩, st⟩ := X.specialBack hx hi hown (mvT hZ w1) (mvT hZ w6) (mvT hZ w4) hy (backOf (W := W) M hZ w4 w3 hf hl) (g := mkF m pc Ls S) rfl hsize (Steps.refl _) (a := b) (argsL := argsL) (rest := rest) hlen hS (by show 2 * 0 + _ ≤ _; omega) hd (fun _ _ => ⟨rfl, eT, hc, hs⟩)
  dsimp only [Pt.U, Pt.locs, Pt.cells, Pt.slots] at X4 l4 y4 z4 st hQ
  subst l4 y4 z4
  exact ⟨v, T4, _, Lc, X4, rfl, hQ, fun t k => st.trans k⟩
theorem own_eqI {st : State} {t : Term} {z : Int32} (k : (Jvm.Cond.eq t (Term.int z)).value args st none st [] = some true) : t.eval args st none [] st = some (.int z) := by
  simp only [Jvm.Cond.value, Term.eval] at k
  cases ht : t.eval args st none [] st with
  | none => simp [ht] at k
  | some q => cases q <;> simp [ht] at k ⊢; exact k
theorem own_eqR {st : State} {t u : Term} {b : Addr} (k : (Jvm.Cond.eq t u).value args st none st [] = some true) (hu : u.eval args st none [] st = some (.ref b)) : t.eval args st none [] st = some (.ref b) := by
  simp only [Jvm.Cond.value] at k
  cases ht : t.eval args st none [] st with
  | none => simp [ht] at k
  | some q => cases q <;> simp [ht, hu] at k ⊢; exact k
end Own

theorem pn_java_lang_Enum : plainName "java/lang/Enum" = true := by first | (simp [plainName, overriddenIn]; done) | decide +kernel
theorem pn_com_example_lattice_warden_latticewarden_AccessEvaluations_Semantic : plainName "com/example/lattice_warden/latticewarden/AccessEvaluations$Semantic" = true := by first | (simp [plainName, overriddenIn]; done) | decide +kernel
theorem pn_com_example_lattice_warden_latticewarden_SemanticStopsAfterPinLaw : plainName "com/example/lattice_warden/latticewarden/SemanticStopsAfterPinLaw" = true := by first | (simp [plainName, overriddenIn]; done) | decide +kernel
theorem pd___I : parseMethodDescriptor "()I" = some ⟨[], some .int⟩ := by decide +kernel
theorem pd__Z_Z : parseMethodDescriptor "(Z)Z" = some ⟨[.boolean], some .boolean⟩ := by decide +kernel
/-! the plain law -/
def own_stop (k d : Int32) : Int32 := if k = 0 then 0 else if k = 1 then (if d = 0 then 1 else 0) else d
theorem own_mod3 (x : Int32) : ∃ c : Int32, ((x &&& (2147483647 : Int32)) % (3 : Int32)) = c ∧ (c = 0 ∨ c = 1 ∨ c = 2) := by
  have e1 : (x &&& (2147483647 : Int32)).toInt = x.toInt % (2 ^ 31 : Nat) := c_mask x _ 31 (by decide) (by decide)
  have e2 := (c_irem (x &&& (2147483647 : Int32)) (3 : Int32) 3 (by decide)).1 (by omega)
  refine ⟨_, rfl, ?_⟩
  generalize ((x &&& (2147483647 : Int32)) % (3 : Int32)) = c at *
  have e6 : (0 : Int32).toInt = 0 := by decide
  have e7 : (1 : Int32).toInt = 1 := by decide
  have e8 : (2 : Int32).toInt = 2 := by decide
  simp only [← Int32.toInt_inj, e6, e7, e8]; omega

theorem d2_0 : decode jdk_37_method_2_code 0 = .ok (.aload_n 0, 1) := by decide +kernel
theorem d2_1 : decode jdk_37_method_2_code 1 = .ok (.getfield 7, 3) := by decide +kernel
theorem d2_4 : decode jdk_37_method_2_code 4 = .ok (.ireturn, 1) := by decide +kernel
theorem ef_2 (m : MethodId) (a1 : Addr) : entryFrame m #[(.ref a1)] 1 = mkF m 0 #[.val (.ref a1)] [] := by first | (simp [entryFrame, mkF, argsToLocals, Value.category]; done) | rfl
set_option maxRecDepth 65536 in
set_option maxHeartbeats 40000000 in
theorem rm2 (l : Launch) (Z : State) (a0 : Array Value) (hw : ∀ d ∈ tables_1, d.before a0 Z = true) (ws : List Jvm.Cond) (a1 : Addr) (k1 : Int32) (h0 : Heap) (n0 : Nat) (Z0 : n0 ≤ h0.size) (F1 : Fld Z h0 a1 "java/lang/Enum" "ordinal" "I" (.int k1)) :
    own_Ct l Z (⟨"java/lang/Enum", "ordinal", "()I"⟩ : MethodName) jdk_37_method_2_code 1 (some .int) ws ({ frames := 0, cells := 0, slots := 0, locals := 0 } : Room) #[(.ref a1)] h0 (fun v h L => v = some (.int k1) ∧ L = [] ∧ h = h0) ({ frames := 0, cells := 0, slots := 0, locals := 0 } : Room).cells ({ frames := 0, cells := 0, slots := 0, locals := 0 } : Room).slots := by
  refine own_met (plainFor_of_name pn_java_lang_Enum) (fun p e s m below meth c s₁ X0 hx hby hml hret hlk hnm hown hZ e0 => ?_)
  have hml : c.maxLocals = 1 := hml
  have N0 := Fr.nil n0
  refine own_st (fun _ k => castTop (ef_2 m a1) k) ?_
  show own_Goes p e below (s₁.setTop (mkF m 0 #[.val (.ref a1)] [])) _
  refine own_st (fun _ k => XS.aloadN X0.here hx rfl (hb hby d2_0) rfl rfl k) ?_
  show own_Goes p e below (s₁.setTop (mkF m 1 #[.val (.ref a1)] [(.ref a1)])) _
  obtain ⟨T1, X1, e1, st1⟩ := getF X0 hx hZ hown (host := "") (Or.inl (hw _ (List.mem_of_getElem? (i := 16) rfl))) Via.refl e0 F1 (g := (mkF m 1 #[.val (.ref a1)] [(.ref a1)])) rfl rfl (hb hby d2_1)
  refine own_st st1 ?_
  show own_Goes p e below (T1.setTop (mkF m 4 #[.val (.ref a1)] [(.int k1)])) _
  exact own_retI X1 hx hlk hret (hb hby d2_4) (by decide) (by decide) e1 ⟨rfl, rfl, rfl⟩
theorem d1_0 : decode prog_2_method_4_code 0 = .ok (.aload_n 0, 1) := by decide +kernel
theorem d1_1 : decode prog_2_method_4_code 1 = .ok (.invokevirtual 32, 3) := by decide +kernel
theorem d1_4 : decode prog_2_method_4_code 4 = .ok (.tableswitch 28 0 2 #[38, 42, 54], 28) := by decide +kernel
theorem d1_42 : decode prog_2_method_4_code 42 = .ok (.iconst 0, 1) := by decide +kernel
theorem d1_43 : decode prog_2_method_4_code 43 = .ok (.goto 16, 3) := by decide +kernel
theorem d1_46 : decode prog_2_method_4_code 46 = .ok (.iload_n 1, 1) := by decide +kernel
theorem d1_47 : decode prog_2_method_4_code 47 = .ok (.ifCond .ne 7, 3) := by decide +kernel
theorem d1_50 : decode prog_2_method_4_code 50 = .ok (.iconst 1, 1) := by decide +kernel
theorem d1_51 : decode prog_2_method_4_code 51 = .ok (.goto 8, 3) := by decide +kernel
theorem d1_54 : decode prog_2_method_4_code 54 = .ok (.iconst 0, 1) := by decide +kernel
theorem d1_55 : decode prog_2_method_4_code 55 = .ok (.goto 4, 3) := by decide +kernel
theorem d1_58 : decode prog_2_method_4_code 58 = .ok (.iload_n 1, 1) := by decide +kernel
theorem d1_59 : decode prog_2_method_4_code 59 = .ok (.istore_n 2, 1) := by decide +kernel
theorem d1_60 : decode prog_2_method_4_code 60 = .ok (.iload_n 2, 1) := by decide +kernel
theorem d1_61 : decode prog_2_method_4_code 61 = .ok (.ireturn, 1) := by decide +kernel
theorem ef_1 (m : MethodId) (a1 : Addr) (d1 : Int32) : entryFrame m #[(.ref a1), (.int d1)] 3 = mkF m 0 #[.val (.ref a1), .val (.int d1), .unset] [] := by first | (simp [entryFrame, mkF, argsToLocals, Value.category]; done) | rfl
set_option maxRecDepth 65536 in
set_option maxHeartbeats 40000000 in
theorem rm1 (l : Launch) (Z : State) (a0 : Array Value) (hw : ∀ d ∈ tables_1, d.before a0 Z = true) (ws : List Jvm.Cond) (a1 : Addr) (k1 d1 : Int32) (h0 : Heap) (n0 : Nat) (Z0 : n0 ≤ h0.size) (F1 : Fld Z h0 a1 "java/lang/Enum" "ordinal" "I" (.int k1)) (E1 : Exa Z h0 a1 "com/example/lattice_warden/latticewarden/AccessEvaluations$Semantic") (hk1 : k1 = 0 ∨ k1 = 1 ∨ k1 = 2) (hd1 : d1 = 0 ∨ d1 = 1) :
    own_Ct l Z (⟨"com/example/lattice_warden/latticewarden/AccessEvaluations$Semantic", "stopsAfter", "(Z)Z"⟩ : MethodName) prog_2_method_4_code 3 (some .boolean) ws ({ frames := 1, cells := 0, slots := 0, locals := 12 } : Room) #[(.ref a1), (.int d1)] h0 (fun v h L => v = some (.int (own_stop k1 d1)) ∧ L = [] ∧ h = h0) ({ frames := 1, cells := 0, slots := 0, locals := 12 } : Room).cells ({ frames := 1, cells := 0, slots := 0, locals := 12 } : Room).slots := by
  refine own_met (plainFor_of_name pn_com_example_lattice_warden_latticewarden_AccessEvaluations_Semantic) (fun p e s m below meth c s₁ X0 hx hby hml hret hlk hnm hown hZ e0 => ?_)
  have hml : c.maxLocals = 3 := hml
  have N0 := Fr.nil n0
  refine own_st (fun _ k => castTop (ef_1 m a1 d1) k) ?_
  show own_Goes p e below (s₁.setTop (mkF m 0 #[.val (.ref a1), .val (.int d1), .unset] [])) _
  refine own_st (fun _ k => XS.aloadN X0.here hx rfl (hb hby d1_0) rfl rfl k) ?_
  show own_Goes p e below (s₁.setTop (mkF m 1 #[.val (.ref a1), .val (.int d1), .unset] [(.ref a1)])) _
  obtain ⟨_, T1, h1, L1, X1, e1, ⟨rfl, rfl, q1⟩, st1⟩ := own_callU (argsL := []) (rest := []) (pc := 1) (W := 0) (Ls := #[.val (.ref a1), .val (.int d1), .unset]) (S := [(.ref a1)]) X0 hx hZ hown (hw _ (List.mem_of_getElem? (i := 9) rfl)) (hw _ (List.mem_of_getElem? (i := 10) rfl)) (hw _ (List.mem_of_getElem? (i := 11) rfl)) (hw _ (List.mem_of_getElem? (i := 13) rfl)) (hw _ (List.mem_of_getElem? (i := 12) rfl)) (hw _ (List.mem_of_getElem? (i := 14) rfl)) (hw _ (List.mem_of_getElem? (i := 15) rfl)) (by decide) (rm2 l Z a0 hw [] a1 k1 h0 n0 Z0 F1) (by decide) (by decide) e0 E1 (by rw [hml]; rfl) (lenOf pd___I rfl) rfl (Nat.le_of_eq rfl) (hb hby d1_1) (by decide) (by decide)
  refine own_st st1 ?_
  show own_Goes p e below (T1.setTop (mkF m 4 #[.val (.ref a1), .val (.int d1), .unset] [(.int k1)])) _
  rcases hk1 with rfl | rfl | rfl
  · rcases hd1 with rfl | rfl
    · show own_Goes p e below (T1.setTop (mkF m 4 #[.val (.ref a1), .val (.int (0 : Int32)), .unset] [(.int (0 : Int32))])) _
      refine own_st (fun _ k => XS.tswIn X1.here hx rfl (pc0 := 4) (pc' := 42) rfl (hb hby d1_4) rfl (by decide) (o := 38) (by decide) (by decide) (by decide) k) ?_
      show own_Goes p e below (T1.setTop (mkF m 42 #[.val (.ref a1), .val (.int (0 : Int32)), .unset] [])) _
      refine own_st (fun _ k => XS.iconst X1.here hx rfl (hb hby d1_42) k) ?_
      show own_Goes p e below (T1.setTop (mkF m 43 #[.val (.ref a1), .val (.int (0 : Int32)), .unset] [(.int (0 : Int32))])) _
      refine own_st (fun _ k => XS.goto X1.here hx rfl (pc0 := 43) (pc' := 59) rfl (hb hby d1_43) (by decide) (by decide) k) ?_
      show own_Goes p e below (T1.setTop (mkF m 59 #[.val (.ref a1), .val (.int (0 : Int32)), .unset] [(.int (0 : Int32))])) _
      refine own_st (fun _ k => XS.istoreN X1.here hx rfl (hb hby d1_59) rfl (l' := #[.val (.ref a1), .val (.int (0 : Int32)), .val (.int (0 : Int32))]) rfl k) ?_
      show own_Goes p e below (T1.setTop (mkF m 60 #[.val (.ref a1), .val (.int (0 : Int32)), .val (.int (0 : Int32))] [])) _
      refine own_st (fun _ k => XS.iloadN X1.here hx rfl (hb hby d1_60) rfl k) ?_
      show own_Goes p e below (T1.setTop (mkF m 61 #[.val (.ref a1), .val (.int (0 : Int32)), .val (.int (0 : Int32))] [(.int (0 : Int32))])) _
      exact own_retN (t := .boolean) (z' := (0 : Int32)) X1 hx hlk hret (by simp) (by decide) (hb hby d1_61) (by decide) (by decide) (e1.trans q1) ⟨congrArg (fun z => some (Value.int z)) (by decide), rfl, rfl⟩
    · show own_Goes p e below (T1.setTop (mkF m 4 #[.val (.ref a1), .val (.int (1 : Int32)), .unset] [(.int (0 : Int32))])) _
      refine own_st (fun _ k => XS.tswIn X1.here hx rfl (pc0 := 4) (pc' := 42) rfl (hb hby d1_4) rfl (by decide) (o := 38) (by decide) (by decide) (by decide) k) ?_
      show own_Goes p e below (T1.setTop (mkF m 42 #[.val (.ref a1), .val (.int (1 : Int32)), .unset] [])) _
      refine own_st (fun _ k => XS.iconst X1.here hx rfl (hb hby d1_42) k) ?_
      show own_Goes p e below (T1.setTop (mkF m 43 #[.val (.ref a1), .val (.int (1 : Int32)), .unset] [(.int (0 : Int32))])) _
      refine own_st (fun _ k => XS.goto X1.here hx rfl (pc0 := 43) (pc' := 59) rfl (hb hby d1_43) (by decide) (by decide) k) ?_
      show own_Goes p e below (T1.setTop (mkF m 59 #[.val (.ref a1), .val (.int (1 : Int32)), .unset] [(.int (0 : Int32))])) _
      refine own_st (fun _ k => XS.istoreN X1.here hx rfl (hb hby d1_59) rfl (l' := #[.val (.ref a1), .val (.int (1 : Int32)), .val (.int (0 : Int32))]) rfl k) ?_
      show own_Goes p e below (T1.setTop (mkF m 60 #[.val (.ref a1), .val (.int (1 : Int32)), .val (.int (0 : Int32))] [])) _
      refine own_st (fun _ k => XS.iloadN X1.here hx rfl (hb hby d1_60) rfl k) ?_
      show own_Goes p e below (T1.setTop (mkF m 61 #[.val (.ref a1), .val (.int (1 : Int32)), .val (.int (0 : Int32))] [(.int (0 : Int32))])) _
      exact own_retN (t := .boolean) (z' := (0 : Int32)) X1 hx hlk hret (by simp) (by decide) (hb hby d1_61) (by decide) (by decide) (e1.trans q1) ⟨congrArg (fun z => some (Value.int z)) (by decide), rfl, rfl⟩
  · rcases hd1 with rfl | rfl
    · show own_Goes p e below (T1.setTop (mkF m 4 #[.val (.ref a1), .val (.int (0 : Int32)), .unset] [(.int (1 : Int32))])) _
      refine own_st (fun _ k => XS.tswIn X1.here hx rfl (pc0 := 4) (pc' := 46) rfl (hb hby d1_4) rfl (by decide) (o := 42) (by decide) (by decide) (by decide) k) ?_
      show own_Goes p e below (T1.setTop (mkF m 46 #[.val (.ref a1), .val (.int (0 : Int32)), .unset] [])) _
      refine own_st (fun _ k => XS.iloadN X1.here hx rfl (hb hby d1_46) rfl k) ?_
      show own_Goes p e below (T1.setTop (mkF m 47 #[.val (.ref a1), .val (.int (0 : Int32)), .unset] [(.int (0 : Int32))])) _
      refine own_st (fun _ k => XS.ifNo X1.here hx rfl (hb hby d1_47) rfl ((if0 _ _).trans (teq (by decide : (0 : Int32) = (0 : Int32))).2) k) ?_
      show own_Goes p e below (T1.setTop (mkF m 50 #[.val (.ref a1), .val (.int (0 : Int32)), .unset] [])) _
      refine own_st (fun _ k => XS.iconst X1.here hx rfl (hb hby d1_50) k) ?_
      show own_Goes p e below (T1.setTop (mkF m 51 #[.val (.ref a1), .val (.int (0 : Int32)), .unset] [(.int (1 : Int32))])) _
      refine own_st (fun _ k => XS.goto X1.here hx rfl (pc0 := 51) (pc' := 59) rfl (hb hby d1_51) (by decide) (by decide) k) ?_
      show own_Goes p e below (T1.setTop (mkF m 59 #[.val (.ref a1), .val (.int (0 : Int32)), .unset] [(.int (1 : Int32))])) _
      refine own_st (fun _ k => XS.istoreN X1.here hx rfl (hb hby d1_59) rfl (l' := #[.val (.ref a1), .val (.int (0 : Int32)), .val (.int (1 : Int32))]) rfl k) ?_
      show own_Goes p e below (T1.setTop (mkF m 60 #[.val (.ref a1), .val (.int (0 : Int32)), .val (.int (1 : Int32))] [])) _
      refine own_st (fun _ k => XS.iloadN X1.here hx rfl (hb hby d1_60) rfl k) ?_
      show own_Goes p e below (T1.setTop (mkF m 61 #[.val (.ref a1), .val (.int (0 : Int32)), .val (.int (1 : Int32))] [(.int (1 : Int32))])) _
      exact own_retN (t := .boolean) (z' := (1 : Int32)) X1 hx hlk hret (by simp) (by decide) (hb hby d1_61) (by decide) (by decide) (e1.trans q1) ⟨congrArg (fun z => some (Value.int z)) (by decide), rfl, rfl⟩
    · show own_Goes p e below (T1.setTop (mkF m 4 #[.val (.ref a1), .val (.int (1 : Int32)), .unset] [(.int (1 : Int32))])) _
      refine own_st (fun _ k => XS.tswIn X1.here hx rfl (pc0 := 4) (pc' := 46) rfl (hb hby d1_4) rfl (by decide) (o := 42) (by decide) (by decide) (by decide) k) ?_
      show own_Goes p e below (T1.setTop (mkF m 46 #[.val (.ref a1), .val (.int (1 : Int32)), .unset] [])) _
      refine own_st (fun _ k => XS.iloadN X1.here hx rfl (hb hby d1_46) rfl k) ?_
      show own_Goes p e below (T1.setTop (mkF m 47 #[.val (.ref a1), .val (.int (1 : Int32)), .unset] [(.int (1 : Int32))])) _
      refine own_st (fun _ k => XS.ifYes X1.here hx rfl (pc0 := 47) (pc' := 54) rfl (hb hby d1_47) rfl ((if0 _ _).trans (feq (by decide : ¬ ((1 : Int32) = (0 : Int32)))).2) (by decide) (by decide) k) ?_
      show own_Goes p e below (T1.setTop (mkF m 54 #[.val (.ref a1), .val (.int (1 : Int32)), .unset] [])) _
      refine own_st (fun _ k => XS.iconst X1.here hx rfl (hb hby d1_54) k) ?_
      show own_Goes p e below (T1.setTop (mkF m 55 #[.val (.ref a1), .val (.int (1 : Int32)), .unset] [(.int (0 : Int32))])) _
      refine own_st (fun _ k => XS.goto X1.here hx rfl (pc0 := 55) (pc' := 59) rfl (hb hby d1_55) (by decide) (by decide) k) ?_
      show own_Goes p e below (T1.setTop (mkF m 59 #[.val (.ref a1), .val (.int (1 : Int32)), .unset] [(.int (0 : Int32))])) _
      refine own_st (fun _ k => XS.istoreN X1.here hx rfl (hb hby d1_59) rfl (l' := #[.val (.ref a1), .val (.int (1 : Int32)), .val (.int (0 : Int32))]) rfl k) ?_
      show own_Goes p e below (T1.setTop (mkF m 60 #[.val (.ref a1), .val (.int (1 : Int32)), .val (.int (0 : Int32))] [])) _
      refine own_st (fun _ k => XS.iloadN X1.here hx rfl (hb hby d1_60) rfl k) ?_
      show own_Goes p e below (T1.setTop (mkF m 61 #[.val (.ref a1), .val (.int (1 : Int32)), .val (.int (0 : Int32))] [(.int (0 : Int32))])) _
      exact own_retN (t := .boolean) (z' := (0 : Int32)) X1 hx hlk hret (by simp) (by decide) (hb hby d1_61) (by decide) (by decide) (e1.trans q1) ⟨congrArg (fun z => some (Value.int z)) (by decide), rfl, rfl⟩
  · rcases hd1 with rfl | rfl
    · show own_Goes p e below (T1.setTop (mkF m 4 #[.val (.ref a1), .val (.int (0 : Int32)), .unset] [(.int (2 : Int32))])) _
      refine own_st (fun _ k => XS.tswIn X1.here hx rfl (pc0 := 4) (pc' := 58) rfl (hb hby d1_4) rfl (by decide) (o := 54) (by decide) (by decide) (by decide) k) ?_
      show own_Goes p e below (T1.setTop (mkF m 58 #[.val (.ref a1), .val (.int (0 : Int32)), .unset] [])) _
      refine own_st (fun _ k => XS.iloadN X1.here hx rfl (hb hby d1_58) rfl k) ?_
      show own_Goes p e below (T1.setTop (mkF m 59 #[.val (.ref a1), .val (.int (0 : Int32)), .unset] [(.int (0 : Int32))])) _
      refine own_st (fun _ k => XS.istoreN X1.here hx rfl (hb hby d1_59) rfl (l' := #[.val (.ref a1), .val (.int (0 : Int32)), .val (.int (0 : Int32))]) rfl k) ?_
      show own_Goes p e below (T1.setTop (mkF m 60 #[.val (.ref a1), .val (.int (0 : Int32)), .val (.int (0 : Int32))] [])) _
      refine own_st (fun _ k => XS.iloadN X1.here hx rfl (hb hby d1_60) rfl k) ?_
      show own_Goes p e below (T1.setTop (mkF m 61 #[.val (.ref a1), .val (.int (0 : Int32)), .val (.int (0 : Int32))] [(.int (0 : Int32))])) _
      exact own_retN (t := .boolean) (z' := (0 : Int32)) X1 hx hlk hret (by simp) (by decide) (hb hby d1_61) (by decide) (by decide) (e1.trans q1) ⟨congrArg (fun z => some (Value.int z)) (by decide), rfl, rfl⟩
    · show own_Goes p e below (T1.setTop (mkF m 4 #[.val (.ref a1), .val (.int (1 : Int32)), .unset] [(.int (2 : Int32))])) _
      refine own_st (fun _ k => XS.tswIn X1.here hx rfl (pc0 := 4) (pc' := 58) rfl (hb hby d1_4) rfl (by decide) (o := 54) (by decide) (by decide) (by decide) k) ?_
      show own_Goes p e below (T1.setTop (mkF m 58 #[.val (.ref a1), .val (.int (1 : Int32)), .unset] [])) _
      refine own_st (fun _ k => XS.iloadN X1.here hx rfl (hb hby d1_58) rfl k) ?_
      show own_Goes p e below (T1.setTop (mkF m 59 #[.val (.ref a1), .val (.int (1 : Int32)), .unset] [(.int (1 : Int32))])) _
      refine own_st (fun _ k => XS.istoreN X1.here hx rfl (hb hby d1_59) rfl (l' := #[.val (.ref a1), .val (.int (1 : Int32)), .val (.int (1 : Int32))]) rfl k) ?_
      show own_Goes p e below (T1.setTop (mkF m 60 #[.val (.ref a1), .val (.int (1 : Int32)), .val (.int (1 : Int32))] [])) _
      refine own_st (fun _ k => XS.iloadN X1.here hx rfl (hb hby d1_60) rfl k) ?_
      show own_Goes p e below (T1.setTop (mkF m 61 #[.val (.ref a1), .val (.int (1 : Int32)), .val (.int (1 : Int32))] [(.int (1 : Int32))])) _
      exact own_retN (t := .boolean) (z' := (1 : Int32)) X1 hx hlk hret (by simp) (by decide) (hb hby d1_61) (by decide) (by decide) (e1.trans q1) ⟨congrArg (fun z => some (Value.int z)) (by decide), rfl, rfl⟩
theorem ef_0 (m : MethodId) (p1 : Int32) (p2 : Int32) : entryFrame m #[(.int p1), (.int p2)] maxLocals = mkF m 0 #[.val (.int p1), .val (.int p2), .unset, .unset, .unset, .unset, .unset] [] := by first | (simp [entryFrame, mkF, argsToLocals, Value.category, maxLocals]; done) | rfl
set_option maxRecDepth 65536 in
set_option maxHeartbeats 40000000 in
theorem rm0 (l : Launch) (Z : State) (a0 : Array Value) (hw : ∀ d ∈ tables_1, d.before a0 Z = true) (ws : List Jvm.Cond) (p1 p2 : Int32) (ax ap ad : Addr) (h0 : Heap) (n0 : Nat) (Z0 : n0 ≤ h0.size) (S_ax : Sta Z h0 "com/example/lattice_warden/latticewarden/AccessEvaluations$Semantic" "EXECUTE_ALL" "Lcom/example/lattice_warden/latticewarden/AccessEvaluations$Semantic;" (.ref ax)) (E_ax : Exa Z h0 ax "com/example/lattice_warden/latticewarden/AccessEvaluations$Semantic") (F_ax : Fld Z h0 ax "java/lang/Enum" "ordinal" "I" (.int (0 : Int32))) (S_ap : Sta Z h0 "com/example/lattice_warden/latticewarden/AccessEvaluations$Semantic" "PERMIT_ON_FIRST_PERMIT" "Lcom/example/lattice_warden/latticewarden/AccessEvaluations$Semantic;" (.ref ap)) (E_ap : Exa Z h0 ap "com/example/lattice_warden/latticewarden/AccessEvaluations$Semantic") (F_ap : Fld Z h0 ap "java/lang/Enum" "ordinal" "I" (.int (2 : Int32))) (S_ad : Sta Z h0 "com/example/lattice_warden/latticewarden/AccessEvaluations$Semantic" "DENY_ON_FIRST_DENY" "Lcom/example/lattice_warden/latticewarden/AccessEvaluations$Semantic;" (.ref ad)) (E_ad : Exa Z h0 ad "com/example/lattice_warden/latticewarden/AccessEvaluations$Semantic") (F_ad : Fld Z h0 ad "java/lang/Enum" "ordinal" "I" (.int (1 : Int32))) :
    own_Ct l Z x code maxLocals ret ws room_1 #[(.int p1), (.int p2)] h0 (fun v h L => v = some (.int (1 : Int32)) ∧ Fr n0 L) 0 0 := by
  refine own_met (plainFor_of_name pn_com_example_lattice_warden_latticewarden_SemanticStopsAfterPinLaw) (fun p e s m below meth c s₁ X0 hx hby hml hret hlk hnm hown hZ e0 => ?_)
  have hml : c.maxLocals = 7 := hml
  have N0 := Fr.nil n0
  refine own_st (fun _ k => castTop (ef_0 m p1 p2) k) ?_
  show own_Goes p e below (s₁.setTop (mkF m 0 #[.val (.int p1), .val (.int p2), .unset, .unset, .unset, .unset, .unset] [])) _
  refine own_st (fun _ k => XS.iloadN X0.here hx rfl (hb hby at_0) rfl k) ?_
  show own_Goes p e below (s₁.setTop (mkF m 1 #[.val (.int p1), .val (.int p2), .unset, .unset, .unset, .unset, .unset] [(.int p1)])) _
  refine own_st (X0.ldcInt hx hown (mvT hZ (hw _ (List.mem_of_getElem? (i := 0) rfl))) (g := (mkF m 1 #[.val (.int p1), .val (.int p2), .unset, .unset, .unset, .unset, .unset] [(.int p1)])) rfl (hb hby at_1)) ?_
  show own_Goes p e below (s₁.setTop (mkF m 3 #[.val (.int p1), .val (.int p2), .unset, .unset, .unset, .unset, .unset] [(.int (2147483647 : Int32)), (.int p1)])) _
  refine own_st (fun _ k => XS.iand X0.here hx rfl (hb hby at_3) rfl k) ?_
  show own_Goes p e below (s₁.setTop (mkF m 4 #[.val (.int p1), .val (.int p2), .unset, .unset, .unset, .unset, .unset] [(.int (p1 &&& (2147483647 : Int32)))])) _
  refine own_st (fun _ k => XS.iconst X0.here hx rfl (hb hby at_4) k) ?_
  show own_Goes p e below (s₁.setTop (mkF m 5 #[.val (.int p1), .val (.int p2), .unset, .unset, .unset, .unset, .unset] [(.int (3 : Int32)), (.int (p1 &&& (2147483647 : Int32)))])) _
  refine own_st (fun _ k => iremM X0 hx rfl (hb hby at_5) rfl (by decide) k) ?_
  show own_Goes p e below (s₁.setTop (mkF m 6 #[.val (.int p1), .val (.int p2), .unset, .unset, .unset, .unset, .unset] [(.int ((p1 &&& (2147483647 : Int32)) % (3 : Int32)))])) _
  obtain ⟨c0, hc0, hv0⟩ := own_mod3 p1
  rw [hc0]
  rcases hv0 with rfl | rfl | rfl
  · show own_Goes p e below (s₁.setTop (mkF m 6 #[.val (.int p1), .val (.int p2), .unset, .unset, .unset, .unset, .unset] [(.int (0 : Int32))])) _
    refine own_st (fun _ k => XS.istoreN X0.here hx rfl (hb hby at_6) rfl (l' := #[.val (.int p1), .val (.int p2), .val (.int (0 : Int32)), .unset, .unset, .unset, .unset]) rfl k) ?_
    show own_Goes p e below (s₁.setTop (mkF m 7 #[.val (.int p1), .val (.int p2), .val (.int (0 : Int32)), .unset, .unset, .unset, .unset] [])) _
    refine own_st (fun _ k => XS.iloadN X0.here hx rfl (hb hby at_7) rfl k) ?_
    show own_Goes p e below (s₁.setTop (mkF m 8 #[.val (.int p1), .val (.int p2), .val (.int (0 : Int32)), .unset, .unset, .unset, .unset] [(.int p2)])) _
    refine own_st (fun _ k => XS.iconst X0.here hx rfl (hb hby at_8) k) ?_
    show own_Goes p e below (s₁.setTop (mkF m 9 #[.val (.int p1), .val (.int p2), .val (.int (0 : Int32)), .unset, .unset, .unset, .unset] [(.int (1 : Int32)), (.int p2)])) _
    refine own_st (fun _ k => XS.iand X0.here hx rfl (hb hby at_9) rfl k) ?_
    show own_Goes p e below (s₁.setTop (mkF m 10 #[.val (.int p1), .val (.int p2), .val (.int (0 : Int32)), .unset, .unset, .unset, .unset] [(.int (p2 &&& (1 : Int32)))])) _
    by_cases hc10_1 : (p2 &&& (1 : Int32)) = (0 : Int32)
    · refine own_st (fun _ k => XS.ifYes X0.here hx rfl (pc0 := 10) (pc' := 17) rfl (hb hby at_10) rfl ((if0 _ _).trans (teq hc10_1).1) (by decide) (by decide) k) ?_
      show own_Goes p e below (s₁.setTop (mkF m 17 #[.val (.int p1), .val (.int p2), .val (.int (0 : Int32)), .unset, .unset, .unset, .unset] [])) _
      refine own_st (fun _ k => XS.iconst X0.here hx rfl (hb hby at_17) k) ?_
      show own_Goes p e below (s₁.setTop (mkF m 18 #[.val (.int p1), .val (.int p2), .val (.int (0 : Int32)), .unset, .unset, .unset, .unset] [(.int (0 : Int32))])) _
      refine own_st (fun _ k => XS.istoreN X0.here hx rfl (hb hby at_18) rfl (l' := #[.val (.int p1), .val (.int p2), .val (.int (0 : Int32)), .val (.int (0 : Int32)), .unset, .unset, .unset]) rfl k) ?_
      show own_Goes p e below (s₁.setTop (mkF m 19 #[.val (.int p1), .val (.int p2), .val (.int (0 : Int32)), .val (.int (0 : Int32)), .unset, .unset, .unset] [])) _
      refine own_st (fun _ k => XS.iloadN X0.here hx rfl (hb hby at_19) rfl k) ?_
      show own_Goes p e below (s₁.setTop (mkF m 20 #[.val (.int p1), .val (.int p2), .val (.int (0 : Int32)), .val (.int (0 : Int32)), .unset, .unset, .unset] [(.int (0 : Int32))])) _
      refine own_st (fun _ k => XS.ifNo X0.here hx rfl (hb hby at_20) rfl ((if0 _ _).trans (teq (by decide : (0 : Int32) = (0 : Int32))).2) k) ?_
      show own_Goes p e below (s₁.setTop (mkF m 23 #[.val (.int p1), .val (.int p2), .val (.int (0 : Int32)), .val (.int (0 : Int32)), .unset, .unset, .unset] [])) _
      obtain ⟨T2, X2, e2, st2⟩ := getS2 X0 hx hZ hown (host := "") (Or.inl (hw _ (List.mem_of_getElem? (i := 1) rfl))) Via.refl e0 S_ax (g := (mkF m 23 #[.val (.int p1), .val (.int p2), .val (.int (0 : Int32)), .val (.int (0 : Int32)), .unset, .unset, .unset] [])) rfl (hb hby at_23)
      refine own_st st2 ?_
      show own_Goes p e below (T2.setTop (mkF m 26 #[.val (.int p1), .val (.int p2), .val (.int (0 : Int32)), .val (.int (0 : Int32)), .unset, .unset, .unset] [(.ref ax)])) _
      refine own_st (fun _ k => XS.astore X2.here hx rfl (hb hby at_26) rfl rfl (l' := #[.val (.int p1), .val (.int p2), .val (.int (0 : Int32)), .val (.int (0 : Int32)), .val (.ref ax), .unset, .unset]) rfl k) ?_
      show own_Goes p e below (T2.setTop (mkF m 28 #[.val (.int p1), .val (.int p2), .val (.int (0 : Int32)), .val (.int (0 : Int32)), .val (.ref ax), .unset, .unset] [])) _
      refine own_st (fun _ k => XS.goto X2.here hx rfl (pc0 := 28) (pc' := 49) rfl (hb hby at_28) (by decide) (by decide) k) ?_
      show own_Goes p e below (T2.setTop (mkF m 49 #[.val (.int p1), .val (.int p2), .val (.int (0 : Int32)), .val (.int (0 : Int32)), .val (.ref ax), .unset, .unset] [])) _
      refine own_st (fun _ k => XS.iloadN X2.here hx rfl (hb hby at_49) rfl k) ?_
      show own_Goes p e below (T2.setTop (mkF m 50 #[.val (.int p1), .val (.int p2), .val (.int (0 : Int32)), .val (.int (0 : Int32)), .val (.ref ax), .unset, .unset] [(.int (0 : Int32))])) _
      refine own_st (fun _ k => XS.iconst X2.here hx rfl (hb hby at_50) k) ?_
      show own_Goes p e below (T2.setTop (mkF m 51 #[.val (.int p1), .val (.int p2), .val (.int (0 : Int32)), .val (.int (0 : Int32)), .val (.ref ax), .unset, .unset] [(.int (2 : Int32)), (.int (0 : Int32))])) _
      refine own_st (fun _ k => XS.icmpYes X2.here hx rfl (pc0 := 51) (pc' := 58) rfl (hb hby at_51) rfl (feq (by decide : ¬ ((0 : Int32) = (2 : Int32)))).2 (by decide) (by decide) k) ?_
      show own_Goes p e below (T2.setTop (mkF m 58 #[.val (.int p1), .val (.int p2), .val (.int (0 : Int32)), .val (.int (0 : Int32)), .val (.ref ax), .unset, .unset] [])) _
      refine own_st (fun _ k => XS.iconst X2.here hx rfl (hb hby at_58) k) ?_
      show own_Goes p e below (T2.setTop (mkF m 59 #[.val (.int p1), .val (.int p2), .val (.int (0 : Int32)), .val (.int (0 : Int32)), .val (.ref ax), .unset, .unset] [(.int (0 : Int32))])) _
      refine own_st (fun _ k => XS.istore X2.here hx rfl (hb hby at_59) rfl (l' := #[.val (.int p1), .val (.int p2), .val (.int (0 : Int32)), .val (.int (0 : Int32)), .val (.ref ax), .val (.int (0 : Int32)), .unset]) rfl k) ?_
      show own_Goes p e below (T2.setTop (mkF m 61 #[.val (.int p1), .val (.int p2), .val (.int (0 : Int32)), .val (.int (0 : Int32)), .val (.ref ax), .val (.int (0 : Int32)), .unset] [])) _
      refine own_st (fun _ k => XS.iloadN X2.here hx rfl (hb hby at_61) rfl k) ?_
      show own_Goes p e below (T2.setTop (mkF m 62 #[.val (.int p1), .val (.int p2), .val (.int (0 : Int32)), .val (.int (0 : Int32)), .val (.ref ax), .val (.int (0 : Int32)), .unset] [(.int (0 : Int32))])) _
      refine own_st (fun _ k => XS.ifYes X2.here hx rfl (pc0 := 62) (pc' := 75) rfl (hb hby at_62) rfl ((if0 _ _).trans (teq (by decide : (0 : Int32) = (0 : Int32))).1) (by decide) (by decide) k) ?_
      show own_Goes p e below (T2.setTop (mkF m 75 #[.val (.int p1), .val (.int p2), .val (.int (0 : Int32)), .val (.int (0 : Int32)), .val (.ref ax), .val (.int (0 : Int32)), .unset] [])) _
      refine own_st (fun _ k => XS.iconst X2.here hx rfl (hb hby at_75) k) ?_
      show own_Goes p e below (T2.setTop (mkF m 76 #[.val (.int p1), .val (.int p2), .val (.int (0 : Int32)), .val (.int (0 : Int32)), .val (.ref ax), .val (.int (0 : Int32)), .unset] [(.int (0 : Int32))])) _
      refine own_st (fun _ k => XS.istore X2.here hx rfl (hb hby at_76) rfl (l' := #[.val (.int p1), .val (.int p2), .val (.int (0 : Int32)), .val (.int (0 : Int32)), .val (.ref ax), .val (.int (0 : Int32)), .val (.int (0 : Int32))]) rfl k) ?_
      show own_Goes p e below (T2.setTop (mkF m 78 #[.val (.int p1), .val (.int p2), .val (.int (0 : Int32)), .val (.int (0 : Int32)), .val (.ref ax), .val (.int (0 : Int32)), .val (.int (0 : Int32))] [])) _
      refine own_st (fun _ k => XS.aload X2.here hx rfl (hb hby at_78) rfl rfl k) ?_
      show own_Goes p e below (T2.setTop (mkF m 80 #[.val (.int p1), .val (.int p2), .val (.int (0 : Int32)), .val (.int (0 : Int32)), .val (.ref ax), .val (.int (0 : Int32)), .val (.int (0 : Int32))] [(.ref ax)])) _
      refine own_st (fun _ k => XS.iloadN X2.here hx rfl (hb hby at_80) rfl k) ?_
      show own_Goes p e below (T2.setTop (mkF m 81 #[.val (.int p1), .val (.int p2), .val (.int (0 : Int32)), .val (.int (0 : Int32)), .val (.ref ax), .val (.int (0 : Int32)), .val (.int (0 : Int32))] [(.int (0 : Int32)), (.ref ax)])) _
      obtain ⟨_, T3, h3, L3, X3, e3, ⟨rfl, rfl, q3⟩, st3⟩ := own_callV (argsL := [(.int (0 : Int32))]) (rest := []) (pc := 81) (W := 0) (Ls := #[.val (.int p1), .val (.int p2), .val (.int (0 : Int32)), .val (.int (0 : Int32)), .val (.ref ax), .val (.int (0 : Int32)), .val (.int (0 : Int32))]) (S := [(.int (0 : Int32)), (.ref ax)]) X2 hx hZ hown (hw _ (List.mem_of_getElem? (i := 4) rfl)) (hw _ (List.mem_of_getElem? (i := 5) rfl)) (hw _ (List.mem_of_getElem? (i := 7) rfl)) (hw _ (List.mem_of_getElem? (i := 6) rfl)) (hw _ (List.mem_of_getElem? (i := 2) rfl)) (hw _ (List.mem_of_getElem? (i := 8) rfl)) (notFace_of_selects (args := #[]) (mvT hZ (hw _ (List.mem_of_getElem? (i := 7) rfl)))) (by decide) (rm1 l Z a0 hw [] ax (0 : Int32) (0 : Int32) h0 n0 Z0 F_ax E_ax (by decide) (by decide)) (by decide) (by decide) e2 E_ax (by rw [hml]; rfl) (lenOf pd__Z_Z rfl) rfl (Nat.le_of_eq rfl) (hb hby at_81) (by decide) (by decide)
      refine own_st st3 ?_
      show own_Goes p e below (T3.setTop (mkF m 84 #[.val (.int p1), .val (.int p2), .val (.int (0 : Int32)), .val (.int (0 : Int32)), .val (.ref ax), .val (.int (0 : Int32)), .val (.int (0 : Int32))] [(.int (own_stop (0 : Int32) (0 : Int32)))])) _
      refine own_st (fun _ k => XS.iload X3.here hx rfl (hb hby at_84) rfl k) ?_
      show own_Goes p e below (T3.setTop (mkF m 86 #[.val (.int p1), .val (.int p2), .val (.int (0 : Int32)), .val (.int (0 : Int32)), .val (.ref ax), .val (.int (0 : Int32)), .val (.int (0 : Int32))] [(.int (0 : Int32)), (.int (own_stop (0 : Int32) (0 : Int32)))])) _
      refine own_st (fun _ k => XS.icmpNo X3.here hx rfl (hb hby at_86) rfl (teq (by decide : (own_stop (0 : Int32) (0 : Int32)) = (0 : Int32))).2 k) ?_
      show own_Goes p e below (T3.setTop (mkF m 89 #[.val (.int p1), .val (.int p2), .val (.int (0 : Int32)), .val (.int (0 : Int32)), .val (.ref ax), .val (.int (0 : Int32)), .val (.int (0 : Int32))] [])) _
      refine own_st (fun _ k => XS.iconst X3.here hx rfl (hb hby at_89) k) ?_
      show own_Goes p e below (T3.setTop (mkF m 90 #[.val (.int p1), .val (.int p2), .val (.int (0 : Int32)), .val (.int (0 : Int32)), .val (.ref ax), .val (.int (0 : Int32)), .val (.int (0 : Int32))] [(.int (1 : Int32))])) _
      refine own_st (fun _ k => XS.goto X3.here hx rfl (pc0 := 90) (pc' := 94) rfl (hb hby at_90) (by decide) (by decide) k) ?_
      show own_Goes p e below (T3.setTop (mkF m 94 #[.val (.int p1), .val (.int p2), .val (.int (0 : Int32)), .val (.int (0 : Int32)), .val (.ref ax), .val (.int (0 : Int32)), .val (.int (0 : Int32))] [(.int (1 : Int32))])) _
      exact own_retN (t := .boolean) (z' := (1 : Int32)) X3 hx hlk hret (by simp) (by decide) (hb hby at_94) (by decide) (by decide) (e3.trans q3) ⟨rfl, N0⟩
    · refine own_st (fun _ k => XS.ifNo X0.here hx rfl (hb hby at_10) rfl ((if0 _ _).trans (feq hc10_1).1) k) ?_
      show own_Goes p e below (s₁.setTop (mkF m 13 #[.val (.int p1), .val (.int p2), .val (.int (0 : Int32)), .unset, .unset, .unset, .unset] [])) _
      refine own_st (fun _ k => XS.iconst X0.here hx rfl (hb hby at_13) k) ?_
      show own_Goes p e below (s₁.setTop (mkF m 14 #[.val (.int p1), .val (.int p2), .val (.int (0 : Int32)), .unset, .unset, .unset, .unset] [(.int (1 : Int32))])) _
      refine own_st (fun _ k => XS.goto X0.here hx rfl (pc0 := 14) (pc' := 18) rfl (hb hby at_14) (by decide) (by decide) k) ?_
      show own_Goes p e below (s₁.setTop (mkF m 18 #[.val (.int p1), .val (.int p2), .val (.int (0 : Int32)), .unset, .unset, .unset, .unset] [(.int (1 : Int32))])) _
      refine own_st (fun _ k => XS.istoreN X0.here hx rfl (hb hby at_18) rfl (l' := #[.val (.int p1), .val (.int p2), .val (.int (0 : Int32)), .val (.int (1 : Int32)), .unset, .unset, .unset]) rfl k) ?_
      show own_Goes p e below (s₁.setTop (mkF m 19 #[.val (.int p1), .val (.int p2), .val (.int (0 : Int32)), .val (.int (1 : Int32)), .unset, .unset, .unset] [])) _
      refine own_st (fun _ k => XS.iloadN X0.here hx rfl (hb hby at_19) rfl k) ?_
      show own_Goes p e below (s₁.setTop (mkF m 20 #[.val (.int p1), .val (.int p2), .val (.int (0 : Int32)), .val (.int (1 : Int32)), .unset, .unset, .unset] [(.int (0 : Int32))])) _
      refine own_st (fun _ k => XS.ifNo X0.here hx rfl (hb hby at_20) rfl ((if0 _ _).trans (teq (by decide : (0 : Int32) = (0 : Int32))).2) k) ?_
      show own_Goes p e below (s₁.setTop (mkF m 23 #[.val (.int p1), .val (.int p2), .val (.int (0 : Int32)), .val (.int (1 : Int32)), .unset, .unset, .unset] [])) _
      obtain ⟨T4, X4, e4, st4⟩ := getS2 X0 hx hZ hown (host := "") (Or.inl (hw _ (List.mem_of_getElem? (i := 1) rfl))) Via.refl e0 S_ax (g := (mkF m 23 #[.val (.int p1), .val (.int p2), .val (.int (0 : Int32)), .val (.int (1 : Int32)), .unset, .unset, .unset] [])) rfl (hb hby at_23)
      refine own_st st4 ?_
      show own_Goes p e below (T4.setTop (mkF m 26 #[.val (.int p1), .val (.int p2), .val (.int (0 : Int32)), .val (.int (1 : Int32)), .unset, .unset, .unset] [(.ref ax)])) _
      refine own_st (fun _ k => XS.astore X4.here hx rfl (hb hby at_26) rfl rfl (l' := #[.val (.int p1), .val (.int p2), .val (.int (0 : Int32)), .val (.int (1 : Int32)), .val (.ref ax), .unset, .unset]) rfl k) ?_
      show own_Goes p e below (T4.setTop (mkF m 28 #[.val (.int p1), .val (.int p2), .val (.int (0 : Int32)), .val (.int (1 : Int32)), .val (.ref ax), .unset, .unset] [])) _
      refine own_st (fun _ k => XS.goto X4.here hx rfl (pc0 := 28) (pc' := 49) rfl (hb hby at_28) (by decide) (by decide) k) ?_
      show own_Goes p e below (T4.setTop (mkF m 49 #[.val (.int p1), .val (.int p2), .val (.int (0 : Int32)), .val (.int (1 : Int32)), .val (.ref ax), .unset, .unset] [])) _
      refine own_st (fun _ k => XS.iloadN X4.here hx rfl (hb hby at_49) rfl k) ?_
      show own_Goes p e below (T4.setTop (mkF m 50 #[.val (.int p1), .val (.int p2), .val (.int (0 : Int32)), .val (.int (1 : Int32)), .val (.ref ax), .unset, .unset] [(.int (0 : Int32))])) _
      refine own_st (fun _ k => XS.iconst X4.here hx rfl (hb hby at_50) k) ?_
      show own_Goes p e below (T4.setTop (mkF m 51 #[.val (.int p1), .val (.int p2), .val (.int (0 : Int32)), .val (.int (1 : Int32)), .val (.ref ax), .unset, .unset] [(.int (2 : Int32)), (.int (0 : Int32))])) _
      refine own_st (fun _ k => XS.icmpYes X4.here hx rfl (pc0 := 51) (pc' := 58) rfl (hb hby at_51) rfl (feq (by decide : ¬ ((0 : Int32) = (2 : Int32)))).2 (by decide) (by decide) k) ?_
      show own_Goes p e below (T4.setTop (mkF m 58 #[.val (.int p1), .val (.int p2), .val (.int (0 : Int32)), .val (.int (1 : Int32)), .val (.ref ax), .unset, .unset] [])) _
      refine own_st (fun _ k => XS.iconst X4.here hx rfl (hb hby at_58) k) ?_
      show own_Goes p e below (T4.setTop (mkF m 59 #[.val (.int p1), .val (.int p2), .val (.int (0 : Int32)), .val (.int (1 : Int32)), .val (.ref ax), .unset, .unset] [(.int (0 : Int32))])) _
      refine own_st (fun _ k => XS.istore X4.here hx rfl (hb hby at_59) rfl (l' := #[.val (.int p1), .val (.int p2), .val (.int (0 : Int32)), .val (.int (1 : Int32)), .val (.ref ax), .val (.int (0 : Int32)), .unset]) rfl k) ?_
      show own_Goes p e below (T4.setTop (mkF m 61 #[.val (.int p1), .val (.int p2), .val (.int (0 : Int32)), .val (.int (1 : Int32)), .val (.ref ax), .val (.int (0 : Int32)), .unset] [])) _
      refine own_st (fun _ k => XS.iloadN X4.here hx rfl (hb hby at_61) rfl k) ?_
      show own_Goes p e below (T4.setTop (mkF m 62 #[.val (.int p1), .val (.int p2), .val (.int (0 : Int32)), .val (.int (1 : Int32)), .val (.ref ax), .val (.int (0 : Int32)), .unset] [(.int (0 : Int32))])) _
      refine own_st (fun _ k => XS.ifYes X4.here hx rfl (pc0 := 62) (pc' := 75) rfl (hb hby at_62) rfl ((if0 _ _).trans (teq (by decide : (0 : Int32) = (0 : Int32))).1) (by decide) (by decide) k) ?_
      show own_Goes p e below (T4.setTop (mkF m 75 #[.val (.int p1), .val (.int p2), .val (.int (0 : Int32)), .val (.int (1 : Int32)), .val (.ref ax), .val (.int (0 : Int32)), .unset] [])) _
      refine own_st (fun _ k => XS.iconst X4.here hx rfl (hb hby at_75) k) ?_
      show own_Goes p e below (T4.setTop (mkF m 76 #[.val (.int p1), .val (.int p2), .val (.int (0 : Int32)), .val (.int (1 : Int32)), .val (.ref ax), .val (.int (0 : Int32)), .unset] [(.int (0 : Int32))])) _
      refine own_st (fun _ k => XS.istore X4.here hx rfl (hb hby at_76) rfl (l' := #[.val (.int p1), .val (.int p2), .val (.int (0 : Int32)), .val (.int (1 : Int32)), .val (.ref ax), .val (.int (0 : Int32)), .val (.int (0 : Int32))]) rfl k) ?_
      show own_Goes p e below (T4.setTop (mkF m 78 #[.val (.int p1), .val (.int p2), .val (.int (0 : Int32)), .val (.int (1 : Int32)), .val (.ref ax), .val (.int (0 : Int32)), .val (.int (0 : Int32))] [])) _
      refine own_st (fun _ k => XS.aload X4.here hx rfl (hb hby at_78) rfl rfl k) ?_
      show own_Goes p e below (T4.setTop (mkF m 80 #[.val (.int p1), .val (.int p2), .val (.int (0 : Int32)), .val (.int (1 : Int32)), .val (.ref ax), .val (.int (0 : Int32)), .val (.int (0 : Int32))] [(.ref ax)])) _
      refine own_st (fun _ k => XS.iloadN X4.here hx rfl (hb hby at_80) rfl k) ?_
      show own_Goes p e below (T4.setTop (mkF m 81 #[.val (.int p1), .val (.int p2), .val (.int (0 : Int32)), .val (.int (1 : Int32)), .val (.ref ax), .val (.int (0 : Int32)), .val (.int (0 : Int32))] [(.int (1 : Int32)), (.ref ax)])) _
      obtain ⟨_, T5, h5, L5, X5, e5, ⟨rfl, rfl, q5⟩, st5⟩ := own_callV (argsL := [(.int (1 : Int32))]) (rest := []) (pc := 81) (W := 0) (Ls := #[.val (.int p1), .val (.int p2), .val (.int (0 : Int32)), .val (.int (1 : Int32)), .val (.ref ax), .val (.int (0 : Int32)), .val (.int (0 : Int32))]) (S := [(.int (1 : Int32)), (.ref ax)]) X4 hx hZ hown (hw _ (List.mem_of_getElem? (i := 4) rfl)) (hw _ (List.mem_of_getElem? (i := 5) rfl)) (hw _ (List.mem_of_getElem? (i := 7) rfl)) (hw _ (List.mem_of_getElem? (i := 6) rfl)) (hw _ (List.mem_of_getElem? (i := 2) rfl)) (hw _ (List.mem_of_getElem? (i := 8) rfl)) (notFace_of_selects (args := #[]) (mvT hZ (hw _ (List.mem_of_getElem? (i := 7) rfl)))) (by decide) (rm1 l Z a0 hw [] ax (0 : Int32) (1 : Int32) h0 n0 Z0 F_ax E_ax (by decide) (by decide)) (by decide) (by decide) e4 E_ax (by rw [hml]; rfl) (lenOf pd__Z_Z rfl) rfl (Nat.le_of_eq rfl) (hb hby at_81) (by decide) (by decide)
      refine own_st st5 ?_
      show own_Goes p e below (T5.setTop (mkF m 84 #[.val (.int p1), .val (.int p2), .val (.int (0 : Int32)), .val (.int (1 : Int32)), .val (.ref ax), .val (.int (0 : Int32)), .val (.int (0 : Int32))] [(.int (own_stop (0 : Int32) (1 : Int32)))])) _
      refine own_st (fun _ k => XS.iload X5.here hx rfl (hb hby at_84) rfl k) ?_
      show own_Goes p e below (T5.setTop (mkF m 86 #[.val (.int p1), .val (.int p2), .val (.int (0 : Int32)), .val (.int (1 : Int32)), .val (.ref ax), .val (.int (0 : Int32)), .val (.int (0 : Int32))] [(.int (0 : Int32)), (.int (own_stop (0 : Int32) (1 : Int32)))])) _
      refine own_st (fun _ k => XS.icmpNo X5.here hx rfl (hb hby at_86) rfl (teq (by decide : (own_stop (0 : Int32) (1 : Int32)) = (0 : Int32))).2 k) ?_
      show own_Goes p e below (T5.setTop (mkF m 89 #[.val (.int p1), .val (.int p2), .val (.int (0 : Int32)), .val (.int (1 : Int32)), .val (.ref ax), .val (.int (0 : Int32)), .val (.int (0 : Int32))] [])) _
      refine own_st (fun _ k => XS.iconst X5.here hx rfl (hb hby at_89) k) ?_
      show own_Goes p e below (T5.setTop (mkF m 90 #[.val (.int p1), .val (.int p2), .val (.int (0 : Int32)), .val (.int (1 : Int32)), .val (.ref ax), .val (.int (0 : Int32)), .val (.int (0 : Int32))] [(.int (1 : Int32))])) _
      refine own_st (fun _ k => XS.goto X5.here hx rfl (pc0 := 90) (pc' := 94) rfl (hb hby at_90) (by decide) (by decide) k) ?_
      show own_Goes p e below (T5.setTop (mkF m 94 #[.val (.int p1), .val (.int p2), .val (.int (0 : Int32)), .val (.int (1 : Int32)), .val (.ref ax), .val (.int (0 : Int32)), .val (.int (0 : Int32))] [(.int (1 : Int32))])) _
      exact own_retN (t := .boolean) (z' := (1 : Int32)) X5 hx hlk hret (by simp) (by decide) (hb hby at_94) (by decide) (by decide) (e5.trans q5) ⟨rfl, N0⟩
  · show own_Goes p e below (s₁.setTop (mkF m 6 #[.val (.int p1), .val (.int p2), .unset, .unset, .unset, .unset, .unset] [(.int (1 : Int32))])) _
    refine own_st (fun _ k => XS.istoreN X0.here hx rfl (hb hby at_6) rfl (l' := #[.val (.int p1), .val (.int p2), .val (.int (1 : Int32)), .unset, .unset, .unset, .unset]) rfl k) ?_
    show own_Goes p e below (s₁.setTop (mkF m 7 #[.val (.int p1), .val (.int p2), .val (.int (1 : Int32)), .unset, .unset, .unset, .unset] [])) _
    refine own_st (fun _ k => XS.iloadN X0.here hx rfl (hb hby at_7) rfl k) ?_
    show own_Goes p e below (s₁.setTop (mkF m 8 #[.val (.int p1), .val (.int p2), .val (.int (1 : Int32)), .unset, .unset, .unset, .unset] [(.int p2)])) _
    refine own_st (fun _ k => XS.iconst X0.here hx rfl (hb hby at_8) k) ?_
    show own_Goes p e below (s₁.setTop (mkF m 9 #[.val (.int p1), .val (.int p2), .val (.int (1 : Int32)), .unset, .unset, .unset, .unset] [(.int (1 : Int32)), (.int p2)])) _
    refine own_st (fun _ k => XS.iand X0.here hx rfl (hb hby at_9) rfl k) ?_
    show own_Goes p e below (s₁.setTop (mkF m 10 #[.val (.int p1), .val (.int p2), .val (.int (1 : Int32)), .unset, .unset, .unset, .unset] [(.int (p2 &&& (1 : Int32)))])) _
    by_cases hc10_6 : (p2 &&& (1 : Int32)) = (0 : Int32)
    · refine own_st (fun _ k => XS.ifYes X0.here hx rfl (pc0 := 10) (pc' := 17) rfl (hb hby at_10) rfl ((if0 _ _).trans (teq hc10_6).1) (by decide) (by decide) k) ?_
      show own_Goes p e below (s₁.setTop (mkF m 17 #[.val (.int p1), .val (.int p2), .val (.int (1 : Int32)), .unset, .unset, .unset, .unset] [])) _
      refine own_st (fun _ k => XS.iconst X0.here hx rfl (hb hby at_17) k) ?_
      show own_Goes p e below (s₁.setTop (mkF m 18 #[.val (.int p1), .val (.int p2), .val (.int (1 : Int32)), .unset, .unset, .unset, .unset] [(.int (0 : Int32))])) _
      refine own_st (fun _ k => XS.istoreN X0.here hx rfl (hb hby at_18) rfl (l' := #[.val (.int p1), .val (.int p2), .val (.int (1 : Int32)), .val (.int (0 : Int32)), .unset, .unset, .unset]) rfl k) ?_
      show own_Goes p e below (s₁.setTop (mkF m 19 #[.val (.int p1), .val (.int p2), .val (.int (1 : Int32)), .val (.int (0 : Int32)), .unset, .unset, .unset] [])) _
      refine own_st (fun _ k => XS.iloadN X0.here hx rfl (hb hby at_19) rfl k) ?_
      show own_Goes p e below (s₁.setTop (mkF m 20 #[.val (.int p1), .val (.int p2), .val (.int (1 : Int32)), .val (.int (0 : Int32)), .unset, .unset, .unset] [(.int (1 : Int32))])) _
      refine own_st (fun _ k => XS.ifYes X0.here hx rfl (pc0 := 20) (pc' := 31) rfl (hb hby at_20) rfl ((if0 _ _).trans (feq (by decide : ¬ ((1 : Int32) = (0 : Int32)))).2) (by decide) (by decide) k) ?_
      show own_Goes p e below (s₁.setTop (mkF m 31 #[.val (.int p1), .val (.int p2), .val (.int (1 : Int32)), .val (.int (0 : Int32)), .unset, .unset, .unset] [])) _
      refine own_st (fun _ k => XS.iloadN X0.here hx rfl (hb hby at_31) rfl k) ?_
      show own_Goes p e below (s₁.setTop (mkF m 32 #[.val (.int p1), .val (.int p2), .val (.int (1 : Int32)), .val (.int (0 : Int32)), .unset, .unset, .unset] [(.int (1 : Int32))])) _
      refine own_st (fun _ k => XS.iconst X0.here hx rfl (hb hby at_32) k) ?_
      show own_Goes p e below (s₁.setTop (mkF m 33 #[.val (.int p1), .val (.int p2), .val (.int (1 : Int32)), .val (.int (0 : Int32)), .unset, .unset, .unset] [(.int (1 : Int32)), (.int (1 : Int32))])) _
      refine own_st (fun _ k => XS.icmpNo X0.here hx rfl (hb hby at_33) rfl (teq (by decide : (1 : Int32) = (1 : Int32))).2 k) ?_
      show own_Goes p e below (s₁.setTop (mkF m 36 #[.val (.int p1), .val (.int p2), .val (.int (1 : Int32)), .val (.int (0 : Int32)), .unset, .unset, .unset] [])) _
      obtain ⟨T7, X7, e7, st7⟩ := getS2 X0 hx hZ hown (host := "") (Or.inl (hw _ (List.mem_of_getElem? (i := 20) rfl))) Via.refl e0 S_ad (g := (mkF m 36 #[.val (.int p1), .val (.int p2), .val (.int (1 : Int32)), .val (.int (0 : Int32)), .unset, .unset, .unset] [])) rfl (hb hby at_36)
      refine own_st st7 ?_
      show own_Goes p e below (T7.setTop (mkF m 39 #[.val (.int p1), .val (.int p2), .val (.int (1 : Int32)), .val (.int (0 : Int32)), .unset, .unset, .unset] [(.ref ad)])) _
      refine own_st (fun _ k => XS.astore X7.here hx rfl (hb hby at_39) rfl rfl (l' := #[.val (.int p1), .val (.int p2), .val (.int (1 : Int32)), .val (.int (0 : Int32)), .val (.ref ad), .unset, .unset]) rfl k) ?_
      show own_Goes p e below (T7.setTop (mkF m 41 #[.val (.int p1), .val (.int p2), .val (.int (1 : Int32)), .val (.int (0 : Int32)), .val (.ref ad), .unset, .unset] [])) _
      refine own_st (fun _ k => XS.goto X7.here hx rfl (pc0 := 41) (pc' := 49) rfl (hb hby at_41) (by decide) (by decide) k) ?_
      show own_Goes p e below (T7.setTop (mkF m 49 #[.val (.int p1), .val (.int p2), .val (.int (1 : Int32)), .val (.int (0 : Int32)), .val (.ref ad), .unset, .unset] [])) _
      refine own_st (fun _ k => XS.iloadN X7.here hx rfl (hb hby at_49) rfl k) ?_
      show own_Goes p e below (T7.setTop (mkF m 50 #[.val (.int p1), .val (.int p2), .val (.int (1 : Int32)), .val (.int (0 : Int32)), .val (.ref ad), .unset, .unset] [(.int (1 : Int32))])) _
      refine own_st (fun _ k => XS.iconst X7.here hx rfl (hb hby at_50) k) ?_
      show own_Goes p e below (T7.setTop (mkF m 51 #[.val (.int p1), .val (.int p2), .val (.int (1 : Int32)), .val (.int (0 : Int32)), .val (.ref ad), .unset, .unset] [(.int (2 : Int32)), (.int (1 : Int32))])) _
      refine own_st (fun _ k => XS.icmpYes X7.here hx rfl (pc0 := 51) (pc' := 58) rfl (hb hby at_51) rfl (feq (by decide : ¬ ((1 : Int32) = (2 : Int32)))).2 (by decide) (by decide) k) ?_
      show own_Goes p e below (T7.setTop (mkF m 58 #[.val (.int p1), .val (.int p2), .val (.int (1 : Int32)), .val (.int (0 : Int32)), .val (.ref ad), .unset, .unset] [])) _
      refine own_st (fun _ k => XS.iconst X7.here hx rfl (hb hby at_58) k) ?_
      show own_Goes p e below (T7.setTop (mkF m 59 #[.val (.int p1), .val (.int p2), .val (.int (1 : Int32)), .val (.int (0 : Int32)), .val (.ref ad), .unset, .unset] [(.int (0 : Int32))])) _
      refine own_st (fun _ k => XS.istore X7.here hx rfl (hb hby at_59) rfl (l' := #[.val (.int p1), .val (.int p2), .val (.int (1 : Int32)), .val (.int (0 : Int32)), .val (.ref ad), .val (.int (0 : Int32)), .unset]) rfl k) ?_
      show own_Goes p e below (T7.setTop (mkF m 61 #[.val (.int p1), .val (.int p2), .val (.int (1 : Int32)), .val (.int (0 : Int32)), .val (.ref ad), .val (.int (0 : Int32)), .unset] [])) _
      refine own_st (fun _ k => XS.iloadN X7.here hx rfl (hb hby at_61) rfl k) ?_
      show own_Goes p e below (T7.setTop (mkF m 62 #[.val (.int p1), .val (.int p2), .val (.int (1 : Int32)), .val (.int (0 : Int32)), .val (.ref ad), .val (.int (0 : Int32)), .unset] [(.int (1 : Int32))])) _
      refine own_st (fun _ k => XS.ifNo X7.here hx rfl (hb hby at_62) rfl ((if0 _ _).trans (feq (by decide : ¬ ((1 : Int32) = (0 : Int32)))).1) k) ?_
      show own_Goes p e below (T7.setTop (mkF m 65 #[.val (.int p1), .val (.int p2), .val (.int (1 : Int32)), .val (.int (0 : Int32)), .val (.ref ad), .val (.int (0 : Int32)), .unset] [])) _
      refine own_st (fun _ k => XS.iloadN X7.here hx rfl (hb hby at_65) rfl k) ?_
      show own_Goes p e below (T7.setTop (mkF m 66 #[.val (.int p1), .val (.int p2), .val (.int (1 : Int32)), .val (.int (0 : Int32)), .val (.ref ad), .val (.int (0 : Int32)), .unset] [(.int (0 : Int32))])) _
      refine own_st (fun _ k => XS.iload X7.here hx rfl (hb hby at_66) rfl k) ?_
      show own_Goes p e below (T7.setTop (mkF m 68 #[.val (.int p1), .val (.int p2), .val (.int (1 : Int32)), .val (.int (0 : Int32)), .val (.ref ad), .val (.int (0 : Int32)), .unset] [(.int (0 : Int32)), (.int (0 : Int32))])) _
      refine own_st (fun _ k => XS.icmpNo X7.here hx rfl (hb hby at_68) rfl (teq (by decide : (0 : Int32) = (0 : Int32))).2 k) ?_
      show own_Goes p e below (T7.setTop (mkF m 71 #[.val (.int p1), .val (.int p2), .val (.int (1 : Int32)), .val (.int (0 : Int32)), .val (.ref ad), .val (.int (0 : Int32)), .unset] [])) _
      refine own_st (fun _ k => XS.iconst X7.here hx rfl (hb hby at_71) k) ?_
      show own_Goes p e below (T7.setTop (mkF m 72 #[.val (.int p1), .val (.int p2), .val (.int (1 : Int32)), .val (.int (0 : Int32)), .val (.ref ad), .val (.int (0 : Int32)), .unset] [(.int (1 : Int32))])) _
      refine own_st (fun _ k => XS.goto X7.here hx rfl (pc0 := 72) (pc' := 76) rfl (hb hby at_72) (by decide) (by decide) k) ?_
      show own_Goes p e below (T7.setTop (mkF m 76 #[.val (.int p1), .val (.int p2), .val (.int (1 : Int32)), .val (.int (0 : Int32)), .val (.ref ad), .val (.int (0 : Int32)), .unset] [(.int (1 : Int32))])) _
      refine own_st (fun _ k => XS.istore X7.here hx rfl (hb hby at_76) rfl (l' := #[.val (.int p1), .val (.int p2), .val (.int (1 : Int32)), .val (.int (0 : Int32)), .val (.ref ad), .val (.int (0 : Int32)), .val (.int (1 : Int32))]) rfl k) ?_
      show own_Goes p e below (T7.setTop (mkF m 78 #[.val (.int p1), .val (.int p2), .val (.int (1 : Int32)), .val (.int (0 : Int32)), .val (.ref ad), .val (.int (0 : Int32)), .val (.int (1 : Int32))] [])) _
      refine own_st (fun _ k => XS.aload X7.here hx rfl (hb hby at_78) rfl rfl k) ?_
      show own_Goes p e below (T7.setTop (mkF m 80 #[.val (.int p1), .val (.int p2), .val (.int (1 : Int32)), .val (.int (0 : Int32)), .val (.ref ad), .val (.int (0 : Int32)), .val (.int (1 : Int32))] [(.ref ad)])) _
      refine own_st (fun _ k => XS.iloadN X7.here hx rfl (hb hby at_80) rfl k) ?_
      show own_Goes p e below (T7.setTop (mkF m 81 #[.val (.int p1), .val (.int p2), .val (.int (1 : Int32)), .val (.int (0 : Int32)), .val (.ref ad), .val (.int (0 : Int32)), .val (.int (1 : Int32))] [(.int (0 : Int32)), (.ref ad)])) _
      obtain ⟨_, T8, h8, L8, X8, e8, ⟨rfl, rfl, q8⟩, st8⟩ := own_callV (argsL := [(.int (0 : Int32))]) (rest := []) (pc := 81) (W := 0) (Ls := #[.val (.int p1), .val (.int p2), .val (.int (1 : Int32)), .val (.int (0 : Int32)), .val (.ref ad), .val (.int (0 : Int32)), .val (.int (1 : Int32))]) (S := [(.int (0 : Int32)), (.ref ad)]) X7 hx hZ hown (hw _ (List.mem_of_getElem? (i := 4) rfl)) (hw _ (List.mem_of_getElem? (i := 5) rfl)) (hw _ (List.mem_of_getElem? (i := 7) rfl)) (hw _ (List.mem_of_getElem? (i := 6) rfl)) (hw _ (List.mem_of_getElem? (i := 2) rfl)) (hw _ (List.mem_of_getElem? (i := 8) rfl)) (notFace_of_selects (args := #[]) (mvT hZ (hw _ (List.mem_of_getElem? (i := 7) rfl)))) (by decide) (rm1 l Z a0 hw [] ad (1 : Int32) (0 : Int32) h0 n0 Z0 F_ad E_ad (by decide) (by decide)) (by decide) (by decide) e7 E_ad (by rw [hml]; rfl) (lenOf pd__Z_Z rfl) rfl (Nat.le_of_eq rfl) (hb hby at_81) (by decide) (by decide)
      refine own_st st8 ?_
      show own_Goes p e below (T8.setTop (mkF m 84 #[.val (.int p1), .val (.int p2), .val (.int (1 : Int32)), .val (.int (0 : Int32)), .val (.ref ad), .val (.int (0 : Int32)), .val (.int (1 : Int32))] [(.int (own_stop (1 : Int32) (0 : Int32)))])) _
      refine own_st (fun _ k => XS.iload X8.here hx rfl (hb hby at_84) rfl k) ?_
      show own_Goes p e below (T8.setTop (mkF m 86 #[.val (.int p1), .val (.int p2), .val (.int (1 : Int32)), .val (.int (0 : Int32)), .val (.ref ad), .val (.int (0 : Int32)), .val (.int (1 : Int32))] [(.int (1 : Int32)), (.int (own_stop (1 : Int32) (0 : Int32)))])) _
      refine own_st (fun _ k => XS.icmpNo X8.here hx rfl (hb hby at_86) rfl (teq (by decide : (own_stop (1 : Int32) (0 : Int32)) = (1 : Int32))).2 k) ?_
      show own_Goes p e below (T8.setTop (mkF m 89 #[.val (.int p1), .val (.int p2), .val (.int (1 : Int32)), .val (.int (0 : Int32)), .val (.ref ad), .val (.int (0 : Int32)), .val (.int (1 : Int32))] [])) _
      refine own_st (fun _ k => XS.iconst X8.here hx rfl (hb hby at_89) k) ?_
      show own_Goes p e below (T8.setTop (mkF m 90 #[.val (.int p1), .val (.int p2), .val (.int (1 : Int32)), .val (.int (0 : Int32)), .val (.ref ad), .val (.int (0 : Int32)), .val (.int (1 : Int32))] [(.int (1 : Int32))])) _
      refine own_st (fun _ k => XS.goto X8.here hx rfl (pc0 := 90) (pc' := 94) rfl (hb hby at_90) (by decide) (by decide) k) ?_
      show own_Goes p e below (T8.setTop (mkF m 94 #[.val (.int p1), .val (.int p2), .val (.int (1 : Int32)), .val (.int (0 : Int32)), .val (.ref ad), .val (.int (0 : Int32)), .val (.int (1 : Int32))] [(.int (1 : Int32))])) _
      exact own_retN (t := .boolean) (z' := (1 : Int32)) X8 hx hlk hret (by simp) (by decide) (hb hby at_94) (by decide) (by decide) (e8.trans q8) ⟨rfl, N0⟩
    · refine own_st (fun _ k => XS.ifNo X0.here hx rfl (hb hby at_10) rfl ((if0 _ _).trans (feq hc10_6).1) k) ?_
      show own_Goes p e below (s₁.setTop (mkF m 13 #[.val (.int p1), .val (.int p2), .val (.int (1 : Int32)), .unset, .unset, .unset, .unset] [])) _
      refine own_st (fun _ k => XS.iconst X0.here hx rfl (hb hby at_13) k) ?_
      show own_Goes p e below (s₁.setTop (mkF m 14 #[.val (.int p1), .val (.int p2), .val (.int (1 : Int32)), .unset, .unset, .unset, .unset] [(.int (1 : Int32))])) _
      refine own_st (fun _ k => XS.goto X0.here hx rfl (pc0 := 14) (pc' := 18) rfl (hb hby at_14) (by decide) (by decide) k) ?_
      show own_Goes p e below (s₁.setTop (mkF m 18 #[.val (.int p1), .val (.int p2), .val (.int (1 : Int32)), .unset, .unset, .unset, .unset] [(.int (1 : Int32))])) _
      refine own_st (fun _ k => XS.istoreN X0.here hx rfl (hb hby at_18) rfl (l' := #[.val (.int p1), .val (.int p2), .val (.int (1 : Int32)), .val (.int (1 : Int32)), .unset, .unset, .unset]) rfl k) ?_
      show own_Goes p e below (s₁.setTop (mkF m 19 #[.val (.int p1), .val (.int p2), .val (.int (1 : Int32)), .val (.int (1 : Int32)), .unset, .unset, .unset] [])) _
      refine own_st (fun _ k => XS.iloadN X0.here hx rfl (hb hby at_19) rfl k) ?_
      show own_Goes p e below (s₁.setTop (mkF m 20 #[.val (.int p1), .val (.int p2), .val (.int (1 : Int32)), .val (.int (1 : Int32)), .unset, .unset, .unset] [(.int (1 : Int32))])) _
      refine own_st (fun _ k => XS.ifYes X0.here hx rfl (pc0 := 20) (pc' := 31) rfl (hb hby at_20) rfl ((if0 _ _).trans (feq (by decide : ¬ ((1 : Int32) = (0 : Int32)))).2) (by decide) (by decide) k) ?_
      show own_Goes p e below (s₁.setTop (mkF m 31 #[.val (.int p1), .val (.int p2), .val (.int (1 : Int32)), .val (.int (1 : Int32)), .unset, .unset, .unset] [])) _
      refine own_st (fun _ k => XS.iloadN X0.here hx rfl (hb hby at_31) rfl k) ?_
      show own_Goes p e below (s₁.setTop (mkF m 32 #[.val (.int p1), .val (.int p2), .val (.int (1 : Int32)), .val (.int (1 : Int32)), .unset, .unset, .unset] [(.int (1 : Int32))])) _
      refine own_st (fun _ k => XS.iconst X0.here hx rfl (hb hby at_32) k) ?_
      show own_Goes p e below (s₁.setTop (mkF m 33 #[.val (.int p1), .val (.int p2), .val (.int (1 : Int32)), .val (.int (1 : Int32)), .unset, .unset, .unset] [(.int (1 : Int32)), (.int (1 : Int32))])) _
      refine own_st (fun _ k => XS.icmpNo X0.here hx rfl (hb hby at_33) rfl (teq (by decide : (1 : Int32) = (1 : Int32))).2 k) ?_
      show own_Goes p e below (s₁.setTop (mkF m 36 #[.val (.int p1), .val (.int p2), .val (.int (1 : Int32)), .val (.int (1 : Int32)), .unset, .unset, .unset] [])) _
      obtain ⟨T9, X9, e9, st9⟩ := getS2 X0 hx hZ hown (host := "") (Or.inl (hw _ (List.mem_of_getElem? (i := 20) rfl))) Via.refl e0 S_ad (g := (mkF m 36 #[.val (.int p1), .val (.int p2), .val (.int (1 : Int32)), .val (.int (1 : Int32)), .unset, .unset, .unset] [])) rfl (hb hby at_36)
      refine own_st st9 ?_
      show own_Goes p e below (T9.setTop (mkF m 39 #[.val (.int p1), .val (.int p2), .val (.int (1 : Int32)), .val (.int (1 : Int32)), .unset, .unset, .unset] [(.ref ad)])) _
      refine own_st (fun _ k => XS.astore X9.here hx rfl (hb hby at_39) rfl rfl (l' := #[.val (.int p1), .val (.int p2), .val (.int (1 : Int32)), .val (.int (1 : Int32)), .val (.ref ad), .unset, .unset]) rfl k) ?_
      show own_Goes p e below (T9.setTop (mkF m 41 #[.val (.int p1), .val (.int p2), .val (.int (1 : Int32)), .val (.int (1 : Int32)), .val (.ref ad), .unset, .unset] [])) _
      refine own_st (fun _ k => XS.goto X9.here hx rfl (pc0 := 41) (pc' := 49) rfl (hb hby at_41) (by decide) (by decide) k) ?_
      show own_Goes p e below (T9.setTop (mkF m 49 #[.val (.int p1), .val (.int p2), .val (.int (1 : Int32)), .val (.int (1 : Int32)), .val (.ref ad), .unset, .unset] [])) _
      refine own_st (fun _ k => XS.iloadN X9.here hx rfl (hb hby at_49) rfl k) ?_
      show own_Goes p e below (T9.setTop (mkF m 50 #[.val (.int p1), .val (.int p2), .val (.int (1 : Int32)), .val (.int (1 : Int32)), .val (.ref ad), .unset, .unset] [(.int (1 : Int32))])) _
      refine own_st (fun _ k => XS.iconst X9.here hx rfl (hb hby at_50) k) ?_
      show own_Goes p e below (T9.setTop (mkF m 51 #[.val (.int p1), .val (.int p2), .val (.int (1 : Int32)), .val (.int (1 : Int32)), .val (.ref ad), .unset, .unset] [(.int (2 : Int32)), (.int (1 : Int32))])) _
      refine own_st (fun _ k => XS.icmpYes X9.here hx rfl (pc0 := 51) (pc' := 58) rfl (hb hby at_51) rfl (feq (by decide : ¬ ((1 : Int32) = (2 : Int32)))).2 (by decide) (by decide) k) ?_
      show own_Goes p e below (T9.setTop (mkF m 58 #[.val (.int p1), .val (.int p2), .val (.int (1 : Int32)), .val (.int (1 : Int32)), .val (.ref ad), .unset, .unset] [])) _
      refine own_st (fun _ k => XS.iconst X9.here hx rfl (hb hby at_58) k) ?_
      show own_Goes p e below (T9.setTop (mkF m 59 #[.val (.int p1), .val (.int p2), .val (.int (1 : Int32)), .val (.int (1 : Int32)), .val (.ref ad), .unset, .unset] [(.int (0 : Int32))])) _
      refine own_st (fun _ k => XS.istore X9.here hx rfl (hb hby at_59) rfl (l' := #[.val (.int p1), .val (.int p2), .val (.int (1 : Int32)), .val (.int (1 : Int32)), .val (.ref ad), .val (.int (0 : Int32)), .unset]) rfl k) ?_
      show own_Goes p e below (T9.setTop (mkF m 61 #[.val (.int p1), .val (.int p2), .val (.int (1 : Int32)), .val (.int (1 : Int32)), .val (.ref ad), .val (.int (0 : Int32)), .unset] [])) _
      refine own_st (fun _ k => XS.iloadN X9.here hx rfl (hb hby at_61) rfl k) ?_
      show own_Goes p e below (T9.setTop (mkF m 62 #[.val (.int p1), .val (.int p2), .val (.int (1 : Int32)), .val (.int (1 : Int32)), .val (.ref ad), .val (.int (0 : Int32)), .unset] [(.int (1 : Int32))])) _
      refine own_st (fun _ k => XS.ifNo X9.here hx rfl (hb hby at_62) rfl ((if0 _ _).trans (feq (by decide : ¬ ((1 : Int32) = (0 : Int32)))).1) k) ?_
      show own_Goes p e below (T9.setTop (mkF m 65 #[.val (.int p1), .val (.int p2), .val (.int (1 : Int32)), .val (.int (1 : Int32)), .val (.ref ad), .val (.int (0 : Int32)), .unset] [])) _
      refine own_st (fun _ k => XS.iloadN X9.here hx rfl (hb hby at_65) rfl k) ?_
      show own_Goes p e below (T9.setTop (mkF m 66 #[.val (.int p1), .val (.int p2), .val (.int (1 : Int32)), .val (.int (1 : Int32)), .val (.ref ad), .val (.int (0 : Int32)), .unset] [(.int (1 : Int32))])) _
      refine own_st (fun _ k => XS.iload X9.here hx rfl (hb hby at_66) rfl k) ?_
      show own_Goes p e below (T9.setTop (mkF m 68 #[.val (.int p1), .val (.int p2), .val (.int (1 : Int32)), .val (.int (1 : Int32)), .val (.ref ad), .val (.int (0 : Int32)), .unset] [(.int (0 : Int32)), (.int (1 : Int32))])) _
      refine own_st (fun _ k => XS.icmpYes X9.here hx rfl (pc0 := 68) (pc' := 75) rfl (hb hby at_68) rfl (feq (by decide : ¬ ((1 : Int32) = (0 : Int32)))).2 (by decide) (by decide) k) ?_
      show own_Goes p e below (T9.setTop (mkF m 75 #[.val (.int p1), .val (.int p2), .val (.int (1 : Int32)), .val (.int (1 : Int32)), .val (.ref ad), .val (.int (0 : Int32)), .unset] [])) _
      refine own_st (fun _ k => XS.iconst X9.here hx rfl (hb hby at_75) k) ?_
      show own_Goes p e below (T9.setTop (mkF m 76 #[.val (.int p1), .val (.int p2), .val (.int (1 : Int32)), .val (.int (1 : Int32)), .val (.ref ad), .val (.int (0 : Int32)), .unset] [(.int (0 : Int32))])) _
      refine own_st (fun _ k => XS.istore X9.here hx rfl (hb hby at_76) rfl (l' := #[.val (.int p1), .val (.int p2), .val (.int (1 : Int32)), .val (.int (1 : Int32)), .val (.ref ad), .val (.int (0 : Int32)), .val (.int (0 : Int32))]) rfl k) ?_
      show own_Goes p e below (T9.setTop (mkF m 78 #[.val (.int p1), .val (.int p2), .val (.int (1 : Int32)), .val (.int (1 : Int32)), .val (.ref ad), .val (.int (0 : Int32)), .val (.int (0 : Int32))] [])) _
      refine own_st (fun _ k => XS.aload X9.here hx rfl (hb hby at_78) rfl rfl k) ?_
      show own_Goes p e below (T9.setTop (mkF m 80 #[.val (.int p1), .val (.int p2), .val (.int (1 : Int32)), .val (.int (1 : Int32)), .val (.ref ad), .val (.int (0 : Int32)), .val (.int (0 : Int32))] [(.ref ad)])) _
      refine own_st (fun _ k => XS.iloadN X9.here hx rfl (hb hby at_80) rfl k) ?_
      show own_Goes p e below (T9.setTop (mkF m 81 #[.val (.int p1), .val (.int p2), .val (.int (1 : Int32)), .val (.int (1 : Int32)), .val (.ref ad), .val (.int (0 : Int32)), .val (.int (0 : Int32))] [(.int (1 : Int32)), (.ref ad)])) _
      obtain ⟨_, T10, h10, L10, X10, e10, ⟨rfl, rfl, q10⟩, st10⟩ := own_callV (argsL := [(.int (1 : Int32))]) (rest := []) (pc := 81) (W := 0) (Ls := #[.val (.int p1), .val (.int p2), .val (.int (1 : Int32)), .val (.int (1 : Int32)), .val (.ref ad), .val (.int (0 : Int32)), .val (.int (0 : Int32))]) (S := [(.int (1 : Int32)), (.ref ad)]) X9 hx hZ hown (hw _ (List.mem_of_getElem? (i := 4) rfl)) (hw _ (List.mem_of_getElem? (i := 5) rfl)) (hw _ (List.mem_of_getElem? (i := 7) rfl)) (hw _ (List.mem_of_getElem? (i := 6) rfl)) (hw _ (List.mem_of_getElem? (i := 2) rfl)) (hw _ (List.mem_of_getElem? (i := 8) rfl)) (notFace_of_selects (args := #[]) (mvT hZ (hw _ (List.mem_of_getElem? (i := 7) rfl)))) (by decide) (rm1 l Z a0 hw [] ad (1 : Int32) (1 : Int32) h0 n0 Z0 F_ad E_ad (by decide) (by decide)) (by decide) (by decide) e9 E_ad (by rw [hml]; rfl) (lenOf pd__Z_Z rfl) rfl (Nat.le_of_eq rfl) (hb hby at_81) (by decide) (by decide)
      refine own_st st10 ?_
      show own_Goes p e below (T10.setTop (mkF m 84 #[.val (.int p1), .val (.int p2), .val (.int (1 : Int32)), .val (.int (1 : Int32)), .val (.ref ad), .val (.int (0 : Int32)), .val (.int (0 : Int32))] [(.int (own_stop (1 : Int32) (1 : Int32)))])) _
      refine own_st (fun _ k => XS.iload X10.here hx rfl (hb hby at_84) rfl k) ?_
      show own_Goes p e below (T10.setTop (mkF m 86 #[.val (.int p1), .val (.int p2), .val (.int (1 : Int32)), .val (.int (1 : Int32)), .val (.ref ad), .val (.int (0 : Int32)), .val (.int (0 : Int32))] [(.int (0 : Int32)), (.int (own_stop (1 : Int32) (1 : Int32)))])) _
      refine own_st (fun _ k => XS.icmpNo X10.here hx rfl (hb hby at_86) rfl (teq (by decide : (own_stop (1 : Int32) (1 : Int32)) = (0 : Int32))).2 k) ?_
      show own_Goes p e below (T10.setTop (mkF m 89 #[.val (.int p1), .val (.int p2), .val (.int (1 : Int32)), .val (.int (1 : Int32)), .val (.ref ad), .val (.int (0 : Int32)), .val (.int (0 : Int32))] [])) _
      refine own_st (fun _ k => XS.iconst X10.here hx rfl (hb hby at_89) k) ?_
      show own_Goes p e below (T10.setTop (mkF m 90 #[.val (.int p1), .val (.int p2), .val (.int (1 : Int32)), .val (.int (1 : Int32)), .val (.ref ad), .val (.int (0 : Int32)), .val (.int (0 : Int32))] [(.int (1 : Int32))])) _
      refine own_st (fun _ k => XS.goto X10.here hx rfl (pc0 := 90) (pc' := 94) rfl (hb hby at_90) (by decide) (by decide) k) ?_
      show own_Goes p e below (T10.setTop (mkF m 94 #[.val (.int p1), .val (.int p2), .val (.int (1 : Int32)), .val (.int (1 : Int32)), .val (.ref ad), .val (.int (0 : Int32)), .val (.int (0 : Int32))] [(.int (1 : Int32))])) _
      exact own_retN (t := .boolean) (z' := (1 : Int32)) X10 hx hlk hret (by simp) (by decide) (hb hby at_94) (by decide) (by decide) (e10.trans q10) ⟨rfl, N0⟩
  · show own_Goes p e below (s₁.setTop (mkF m 6 #[.val (.int p1), .val (.int p2), .unset, .unset, .unset, .unset, .unset] [(.int (2 : Int32))])) _
    refine own_st (fun _ k => XS.istoreN X0.here hx rfl (hb hby at_6) rfl (l' := #[.val (.int p1), .val (.int p2), .val (.int (2 : Int32)), .unset, .unset, .unset, .unset]) rfl k) ?_
    show own_Goes p e below (s₁.setTop (mkF m 7 #[.val (.int p1), .val (.int p2), .val (.int (2 : Int32)), .unset, .unset, .unset, .unset] [])) _
    refine own_st (fun _ k => XS.iloadN X0.here hx rfl (hb hby at_7) rfl k) ?_
    show own_Goes p e below (s₁.setTop (mkF m 8 #[.val (.int p1), .val (.int p2), .val (.int (2 : Int32)), .unset, .unset, .unset, .unset] [(.int p2)])) _
    refine own_st (fun _ k => XS.iconst X0.here hx rfl (hb hby at_8) k) ?_
    show own_Goes p e below (s₁.setTop (mkF m 9 #[.val (.int p1), .val (.int p2), .val (.int (2 : Int32)), .unset, .unset, .unset, .unset] [(.int (1 : Int32)), (.int p2)])) _
    refine own_st (fun _ k => XS.iand X0.here hx rfl (hb hby at_9) rfl k) ?_
    show own_Goes p e below (s₁.setTop (mkF m 10 #[.val (.int p1), .val (.int p2), .val (.int (2 : Int32)), .unset, .unset, .unset, .unset] [(.int (p2 &&& (1 : Int32)))])) _
    by_cases hc10_11 : (p2 &&& (1 : Int32)) = (0 : Int32)
    · refine own_st (fun _ k => XS.ifYes X0.here hx rfl (pc0 := 10) (pc' := 17) rfl (hb hby at_10) rfl ((if0 _ _).trans (teq hc10_11).1) (by decide) (by decide) k) ?_
      show own_Goes p e below (s₁.setTop (mkF m 17 #[.val (.int p1), .val (.int p2), .val (.int (2 : Int32)), .unset, .unset, .unset, .unset] [])) _
      refine own_st (fun _ k => XS.iconst X0.here hx rfl (hb hby at_17) k) ?_
      show own_Goes p e below (s₁.setTop (mkF m 18 #[.val (.int p1), .val (.int p2), .val (.int (2 : Int32)), .unset, .unset, .unset, .unset] [(.int (0 : Int32))])) _
      refine own_st (fun _ k => XS.istoreN X0.here hx rfl (hb hby at_18) rfl (l' := #[.val (.int p1), .val (.int p2), .val (.int (2 : Int32)), .val (.int (0 : Int32)), .unset, .unset, .unset]) rfl k) ?_
      show own_Goes p e below (s₁.setTop (mkF m 19 #[.val (.int p1), .val (.int p2), .val (.int (2 : Int32)), .val (.int (0 : Int32)), .unset, .unset, .unset] [])) _
      refine own_st (fun _ k => XS.iloadN X0.here hx rfl (hb hby at_19) rfl k) ?_
      show own_Goes p e below (s₁.setTop (mkF m 20 #[.val (.int p1), .val (.int p2), .val (.int (2 : Int32)), .val (.int (0 : Int32)), .unset, .unset, .unset] [(.int (2 : Int32))])) _
      refine own_st (fun _ k => XS.ifYes X0.here hx rfl (pc0 := 20) (pc' := 31) rfl (hb hby at_20) rfl ((if0 _ _).trans (feq (by decide : ¬ ((2 : Int32) = (0 : Int32)))).2) (by decide) (by decide) k) ?_
      show own_Goes p e below (s₁.setTop (mkF m 31 #[.val (.int p1), .val (.int p2), .val (.int (2 : Int32)), .val (.int (0 : Int32)), .unset, .unset, .unset] [])) _
      refine own_st (fun _ k => XS.iloadN X0.here hx rfl (hb hby at_31) rfl k) ?_
      show own_Goes p e below (s₁.setTop (mkF m 32 #[.val (.int p1), .val (.int p2), .val (.int (2 : Int32)), .val (.int (0 : Int32)), .unset, .unset, .unset] [(.int (2 : Int32))])) _
      refine own_st (fun _ k => XS.iconst X0.here hx rfl (hb hby at_32) k) ?_
      show own_Goes p e below (s₁.setTop (mkF m 33 #[.val (.int p1), .val (.int p2), .val (.int (2 : Int32)), .val (.int (0 : Int32)), .unset, .unset, .unset] [(.int (1 : Int32)), (.int (2 : Int32))])) _
      refine own_st (fun _ k => XS.icmpYes X0.here hx rfl (pc0 := 33) (pc' := 44) rfl (hb hby at_33) rfl (feq (by decide : ¬ ((2 : Int32) = (1 : Int32)))).2 (by decide) (by decide) k) ?_
      show own_Goes p e below (s₁.setTop (mkF m 44 #[.val (.int p1), .val (.int p2), .val (.int (2 : Int32)), .val (.int (0 : Int32)), .unset, .unset, .unset] [])) _
      obtain ⟨T12, X12, e12, st12⟩ := getS2 X0 hx hZ hown (host := "") (Or.inl (hw _ (List.mem_of_getElem? (i := 18) rfl))) Via.refl e0 S_ap (g := (mkF m 44 #[.val (.int p1), .val (.int p2), .val (.int (2 : Int32)), .val (.int (0 : Int32)), .unset, .unset, .unset] [])) rfl (hb hby at_44)
      refine own_st st12 ?_
      show own_Goes p e below (T12.setTop (mkF m 47 #[.val (.int p1), .val (.int p2), .val (.int (2 : Int32)), .val (.int (0 : Int32)), .unset, .unset, .unset] [(.ref ap)])) _
      refine own_st (fun _ k => XS.astore X12.here hx rfl (hb hby at_47) rfl rfl (l' := #[.val (.int p1), .val (.int p2), .val (.int (2 : Int32)), .val (.int (0 : Int32)), .val (.ref ap), .unset, .unset]) rfl k) ?_
      show own_Goes p e below (T12.setTop (mkF m 49 #[.val (.int p1), .val (.int p2), .val (.int (2 : Int32)), .val (.int (0 : Int32)), .val (.ref ap), .unset, .unset] [])) _
      refine own_st (fun _ k => XS.iloadN X12.here hx rfl (hb hby at_49) rfl k) ?_
      show own_Goes p e below (T12.setTop (mkF m 50 #[.val (.int p1), .val (.int p2), .val (.int (2 : Int32)), .val (.int (0 : Int32)), .val (.ref ap), .unset, .unset] [(.int (2 : Int32))])) _
      refine own_st (fun _ k => XS.iconst X12.here hx rfl (hb hby at_50) k) ?_
      show own_Goes p e below (T12.setTop (mkF m 51 #[.val (.int p1), .val (.int p2), .val (.int (2 : Int32)), .val (.int (0 : Int32)), .val (.ref ap), .unset, .unset] [(.int (2 : Int32)), (.int (2 : Int32))])) _
      refine own_st (fun _ k => XS.icmpNo X12.here hx rfl (hb hby at_51) rfl (teq (by decide : (2 : Int32) = (2 : Int32))).2 k) ?_
      show own_Goes p e below (T12.setTop (mkF m 54 #[.val (.int p1), .val (.int p2), .val (.int (2 : Int32)), .val (.int (0 : Int32)), .val (.ref ap), .unset, .unset] [])) _
      refine own_st (fun _ k => XS.iconst X12.here hx rfl (hb hby at_54) k) ?_
      show own_Goes p e below (T12.setTop (mkF m 55 #[.val (.int p1), .val (.int p2), .val (.int (2 : Int32)), .val (.int (0 : Int32)), .val (.ref ap), .unset, .unset] [(.int (1 : Int32))])) _
      refine own_st (fun _ k => XS.goto X12.here hx rfl (pc0 := 55) (pc' := 59) rfl (hb hby at_55) (by decide) (by decide) k) ?_
      show own_Goes p e below (T12.setTop (mkF m 59 #[.val (.int p1), .val (.int p2), .val (.int (2 : Int32)), .val (.int (0 : Int32)), .val (.ref ap), .unset, .unset] [(.int (1 : Int32))])) _
      refine own_st (fun _ k => XS.istore X12.here hx rfl (hb hby at_59) rfl (l' := #[.val (.int p1), .val (.int p2), .val (.int (2 : Int32)), .val (.int (0 : Int32)), .val (.ref ap), .val (.int (1 : Int32)), .unset]) rfl k) ?_
      show own_Goes p e below (T12.setTop (mkF m 61 #[.val (.int p1), .val (.int p2), .val (.int (2 : Int32)), .val (.int (0 : Int32)), .val (.ref ap), .val (.int (1 : Int32)), .unset] [])) _
      refine own_st (fun _ k => XS.iloadN X12.here hx rfl (hb hby at_61) rfl k) ?_
      show own_Goes p e below (T12.setTop (mkF m 62 #[.val (.int p1), .val (.int p2), .val (.int (2 : Int32)), .val (.int (0 : Int32)), .val (.ref ap), .val (.int (1 : Int32)), .unset] [(.int (2 : Int32))])) _
      refine own_st (fun _ k => XS.ifNo X12.here hx rfl (hb hby at_62) rfl ((if0 _ _).trans (feq (by decide : ¬ ((2 : Int32) = (0 : Int32)))).1) k) ?_
      show own_Goes p e below (T12.setTop (mkF m 65 #[.val (.int p1), .val (.int p2), .val (.int (2 : Int32)), .val (.int (0 : Int32)), .val (.ref ap), .val (.int (1 : Int32)), .unset] [])) _
      refine own_st (fun _ k => XS.iloadN X12.here hx rfl (hb hby at_65) rfl k) ?_
      show own_Goes p e below (T12.setTop (mkF m 66 #[.val (.int p1), .val (.int p2), .val (.int (2 : Int32)), .val (.int (0 : Int32)), .val (.ref ap), .val (.int (1 : Int32)), .unset] [(.int (0 : Int32))])) _
      refine own_st (fun _ k => XS.iload X12.here hx rfl (hb hby at_66) rfl k) ?_
      show own_Goes p e below (T12.setTop (mkF m 68 #[.val (.int p1), .val (.int p2), .val (.int (2 : Int32)), .val (.int (0 : Int32)), .val (.ref ap), .val (.int (1 : Int32)), .unset] [(.int (1 : Int32)), (.int (0 : Int32))])) _
      refine own_st (fun _ k => XS.icmpYes X12.here hx rfl (pc0 := 68) (pc' := 75) rfl (hb hby at_68) rfl (feq (by decide : ¬ ((0 : Int32) = (1 : Int32)))).2 (by decide) (by decide) k) ?_
      show own_Goes p e below (T12.setTop (mkF m 75 #[.val (.int p1), .val (.int p2), .val (.int (2 : Int32)), .val (.int (0 : Int32)), .val (.ref ap), .val (.int (1 : Int32)), .unset] [])) _
      refine own_st (fun _ k => XS.iconst X12.here hx rfl (hb hby at_75) k) ?_
      show own_Goes p e below (T12.setTop (mkF m 76 #[.val (.int p1), .val (.int p2), .val (.int (2 : Int32)), .val (.int (0 : Int32)), .val (.ref ap), .val (.int (1 : Int32)), .unset] [(.int (0 : Int32))])) _
      refine own_st (fun _ k => XS.istore X12.here hx rfl (hb hby at_76) rfl (l' := #[.val (.int p1), .val (.int p2), .val (.int (2 : Int32)), .val (.int (0 : Int32)), .val (.ref ap), .val (.int (1 : Int32)), .val (.int (0 : Int32))]) rfl k) ?_
      show own_Goes p e below (T12.setTop (mkF m 78 #[.val (.int p1), .val (.int p2), .val (.int (2 : Int32)), .val (.int (0 : Int32)), .val (.ref ap), .val (.int (1 : Int32)), .val (.int (0 : Int32))] [])) _
      refine own_st (fun _ k => XS.aload X12.here hx rfl (hb hby at_78) rfl rfl k) ?_
      show own_Goes p e below (T12.setTop (mkF m 80 #[.val (.int p1), .val (.int p2), .val (.int (2 : Int32)), .val (.int (0 : Int32)), .val (.ref ap), .val (.int (1 : Int32)), .val (.int (0 : Int32))] [(.ref ap)])) _
      refine own_st (fun _ k => XS.iloadN X12.here hx rfl (hb hby at_80) rfl k) ?_
      show own_Goes p e below (T12.setTop (mkF m 81 #[.val (.int p1), .val (.int p2), .val (.int (2 : Int32)), .val (.int (0 : Int32)), .val (.ref ap), .val (.int (1 : Int32)), .val (.int (0 : Int32))] [(.int (0 : Int32)), (.ref ap)])) _
      obtain ⟨_, T13, h13, L13, X13, e13, ⟨rfl, rfl, q13⟩, st13⟩ := own_callV (argsL := [(.int (0 : Int32))]) (rest := []) (pc := 81) (W := 0) (Ls := #[.val (.int p1), .val (.int p2), .val (.int (2 : Int32)), .val (.int (0 : Int32)), .val (.ref ap), .val (.int (1 : Int32)), .val (.int (0 : Int32))]) (S := [(.int (0 : Int32)), (.ref ap)]) X12 hx hZ hown (hw _ (List.mem_of_getElem? (i := 4) rfl)) (hw _ (List.mem_of_getElem? (i := 5) rfl)) (hw _ (List.mem_of_getElem? (i := 7) rfl)) (hw _ (List.mem_of_getElem? (i := 6) rfl)) (hw _ (List.mem_of_getElem? (i := 2) rfl)) (hw _ (List.mem_of_getElem? (i := 8) rfl)) (notFace_of_selects (args := #[]) (mvT hZ (hw _ (List.mem_of_getElem? (i := 7) rfl)))) (by decide) (rm1 l Z a0 hw [] ap (2 : Int32) (0 : Int32) h0 n0 Z0 F_ap E_ap (by decide) (by decide)) (by decide) (by decide) e12 E_ap (by rw [hml]; rfl) (lenOf pd__Z_Z rfl) rfl (Nat.le_of_eq rfl) (hb hby at_81) (by decide) (by decide)
      refine own_st st13 ?_
      show own_Goes p e below (T13.setTop (mkF m 84 #[.val (.int p1), .val (.int p2), .val (.int (2 : Int32)), .val (.int (0 : Int32)), .val (.ref ap), .val (.int (1 : Int32)), .val (.int (0 : Int32))] [(.int (own_stop (2 : Int32) (0 : Int32)))])) _
      refine own_st (fun _ k => XS.iload X13.here hx rfl (hb hby at_84) rfl k) ?_
      show own_Goes p e below (T13.setTop (mkF m 86 #[.val (.int p1), .val (.int p2), .val (.int (2 : Int32)), .val (.int (0 : Int32)), .val (.ref ap), .val (.int (1 : Int32)), .val (.int (0 : Int32))] [(.int (0 : Int32)), (.int (own_stop (2 : Int32) (0 : Int32)))])) _
      refine own_st (fun _ k => XS.icmpNo X13.here hx rfl (hb hby at_86) rfl (teq (by decide : (own_stop (2 : Int32) (0 : Int32)) = (0 : Int32))).2 k) ?_
      show own_Goes p e below (T13.setTop (mkF m 89 #[.val (.int p1), .val (.int p2), .val (.int (2 : Int32)), .val (.int (0 : Int32)), .val (.ref ap), .val (.int (1 : Int32)), .val (.int (0 : Int32))] [])) _
      refine own_st (fun _ k => XS.iconst X13.here hx rfl (hb hby at_89) k) ?_
      show own_Goes p e below (T13.setTop (mkF m 90 #[.val (.int p1), .val (.int p2), .val (.int (2 : Int32)), .val (.int (0 : Int32)), .val (.ref ap), .val (.int (1 : Int32)), .val (.int (0 : Int32))] [(.int (1 : Int32))])) _
      refine own_st (fun _ k => XS.goto X13.here hx rfl (pc0 := 90) (pc' := 94) rfl (hb hby at_90) (by decide) (by decide) k) ?_
      show own_Goes p e below (T13.setTop (mkF m 94 #[.val (.int p1), .val (.int p2), .val (.int (2 : Int32)), .val (.int (0 : Int32)), .val (.ref ap), .val (.int (1 : Int32)), .val (.int (0 : Int32))] [(.int (1 : Int32))])) _
      exact own_retN (t := .boolean) (z' := (1 : Int32)) X13 hx hlk hret (by simp) (by decide) (hb hby at_94) (by decide) (by decide) (e13.trans q13) ⟨rfl, N0⟩
    · refine own_st (fun _ k => XS.ifNo X0.here hx rfl (hb hby at_10) rfl ((if0 _ _).trans (feq hc10_11).1) k) ?_
      show own_Goes p e below (s₁.setTop (mkF m 13 #[.val (.int p1), .val (.int p2), .val (.int (2 : Int32)), .unset, .unset, .unset, .unset] [])) _
      refine own_st (fun _ k => XS.iconst X0.here hx rfl (hb hby at_13) k) ?_
      show own_Goes p e below (s₁.setTop (mkF m 14 #[.val (.int p1), .val (.int p2), .val (.int (2 : Int32)), .unset, .unset, .unset, .unset] [(.int (1 : Int32))])) _
      refine own_st (fun _ k => XS.goto X0.here hx rfl (pc0 := 14) (pc' := 18) rfl (hb hby at_14) (by decide) (by decide) k) ?_
      show own_Goes p e below (s₁.setTop (mkF m 18 #[.val (.int p1), .val (.int p2), .val (.int (2 : Int32)), .unset, .unset, .unset, .unset] [(.int (1 : Int32))])) _
      refine own_st (fun _ k => XS.istoreN X0.here hx rfl (hb hby at_18) rfl (l' := #[.val (.int p1), .val (.int p2), .val (.int (2 : Int32)), .val (.int (1 : Int32)), .unset, .unset, .unset]) rfl k) ?_
      show own_Goes p e below (s₁.setTop (mkF m 19 #[.val (.int p1), .val (.int p2), .val (.int (2 : Int32)), .val (.int (1 : Int32)), .unset, .unset, .unset] [])) _
      refine own_st (fun _ k => XS.iloadN X0.here hx rfl (hb hby at_19) rfl k) ?_
      show own_Goes p e below (s₁.setTop (mkF m 20 #[.val (.int p1), .val (.int p2), .val (.int (2 : Int32)), .val (.int (1 : Int32)), .unset, .unset, .unset] [(.int (2 : Int32))])) _
      refine own_st (fun _ k => XS.ifYes X0.here hx rfl (pc0 := 20) (pc' := 31) rfl (hb hby at_20) rfl ((if0 _ _).trans (feq (by decide : ¬ ((2 : Int32) = (0 : Int32)))).2) (by decide) (by decide) k) ?_
      show own_Goes p e below (s₁.setTop (mkF m 31 #[.val (.int p1), .val (.int p2), .val (.int (2 : Int32)), .val (.int (1 : Int32)), .unset, .unset, .unset] [])) _
      refine own_st (fun _ k => XS.iloadN X0.here hx rfl (hb hby at_31) rfl k) ?_
      show own_Goes p e below (s₁.setTop (mkF m 32 #[.val (.int p1), .val (.int p2), .val (.int (2 : Int32)), .val (.int (1 : Int32)), .unset, .unset, .unset] [(.int (2 : Int32))])) _
      refine own_st (fun _ k => XS.iconst X0.here hx rfl (hb hby at_32) k) ?_
      show own_Goes p e below (s₁.setTop (mkF m 33 #[.val (.int p1), .val (.int p2), .val (.int (2 : Int32)), .val (.int (1 : Int32)), .unset, .unset, .unset] [(.int (1 : Int32)), (.int (2 : Int32))])) _
      refine own_st (fun _ k => XS.icmpYes X0.here hx rfl (pc0 := 33) (pc' := 44) rfl (hb hby at_33) rfl (feq (by decide : ¬ ((2 : Int32) = (1 : Int32)))).2 (by decide) (by decide) k) ?_
      show own_Goes p e below (s₁.setTop (mkF m 44 #[.val (.int p1), .val (.int p2), .val (.int (2 : Int32)), .val (.int (1 : Int32)), .unset, .unset, .unset] [])) _
      obtain ⟨T14, X14, e14, st14⟩ := getS2 X0 hx hZ hown (host := "") (Or.inl (hw _ (List.mem_of_getElem? (i := 18) rfl))) Via.refl e0 S_ap (g := (mkF m 44 #[.val (.int p1), .val (.int p2), .val (.int (2 : Int32)), .val (.int (1 : Int32)), .unset, .unset, .unset] [])) rfl (hb hby at_44)
      refine own_st st14 ?_
      show own_Goes p e below (T14.setTop (mkF m 47 #[.val (.int p1), .val (.int p2), .val (.int (2 : Int32)), .val (.int (1 : Int32)), .unset, .unset, .unset] [(.ref ap)])) _
      refine own_st (fun _ k => XS.astore X14.here hx rfl (hb hby at_47) rfl rfl (l' := #[.val (.int p1), .val (.int p2), .val (.int (2 : Int32)), .val (.int (1 : Int32)), .val (.ref ap), .unset, .unset]) rfl k) ?_
      show own_Goes p e below (T14.setTop (mkF m 49 #[.val (.int p1), .val (.int p2), .val (.int (2 : Int32)), .val (.int (1 : Int32)), .val (.ref ap), .unset, .unset] [])) _
      refine own_st (fun _ k => XS.iloadN X14.here hx rfl (hb hby at_49) rfl k) ?_
      show own_Goes p e below (T14.setTop (mkF m 50 #[.val (.int p1), .val (.int p2), .val (.int (2 : Int32)), .val (.int (1 : Int32)), .val (.ref ap), .unset, .unset] [(.int (2 : Int32))])) _
      refine own_st (fun _ k => XS.iconst X14.here hx rfl (hb hby at_50) k) ?_
      show own_Goes p e below (T14.setTop (mkF m 51 #[.val (.int p1), .val (.int p2), .val (.int (2 : Int32)), .val (.int (1 : Int32)), .val (.ref ap), .unset, .unset] [(.int (2 : Int32)), (.int (2 : Int32))])) _
      refine own_st (fun _ k => XS.icmpNo X14.here hx rfl (hb hby at_51) rfl (teq (by decide : (2 : Int32) = (2 : Int32))).2 k) ?_
      show own_Goes p e below (T14.setTop (mkF m 54 #[.val (.int p1), .val (.int p2), .val (.int (2 : Int32)), .val (.int (1 : Int32)), .val (.ref ap), .unset, .unset] [])) _
      refine own_st (fun _ k => XS.iconst X14.here hx rfl (hb hby at_54) k) ?_
      show own_Goes p e below (T14.setTop (mkF m 55 #[.val (.int p1), .val (.int p2), .val (.int (2 : Int32)), .val (.int (1 : Int32)), .val (.ref ap), .unset, .unset] [(.int (1 : Int32))])) _
      refine own_st (fun _ k => XS.goto X14.here hx rfl (pc0 := 55) (pc' := 59) rfl (hb hby at_55) (by decide) (by decide) k) ?_
      show own_Goes p e below (T14.setTop (mkF m 59 #[.val (.int p1), .val (.int p2), .val (.int (2 : Int32)), .val (.int (1 : Int32)), .val (.ref ap), .unset, .unset] [(.int (1 : Int32))])) _
      refine own_st (fun _ k => XS.istore X14.here hx rfl (hb hby at_59) rfl (l' := #[.val (.int p1), .val (.int p2), .val (.int (2 : Int32)), .val (.int (1 : Int32)), .val (.ref ap), .val (.int (1 : Int32)), .unset]) rfl k) ?_
      show own_Goes p e below (T14.setTop (mkF m 61 #[.val (.int p1), .val (.int p2), .val (.int (2 : Int32)), .val (.int (1 : Int32)), .val (.ref ap), .val (.int (1 : Int32)), .unset] [])) _
      refine own_st (fun _ k => XS.iloadN X14.here hx rfl (hb hby at_61) rfl k) ?_
      show own_Goes p e below (T14.setTop (mkF m 62 #[.val (.int p1), .val (.int p2), .val (.int (2 : Int32)), .val (.int (1 : Int32)), .val (.ref ap), .val (.int (1 : Int32)), .unset] [(.int (2 : Int32))])) _
      refine own_st (fun _ k => XS.ifNo X14.here hx rfl (hb hby at_62) rfl ((if0 _ _).trans (feq (by decide : ¬ ((2 : Int32) = (0 : Int32)))).1) k) ?_
      show own_Goes p e below (T14.setTop (mkF m 65 #[.val (.int p1), .val (.int p2), .val (.int (2 : Int32)), .val (.int (1 : Int32)), .val (.ref ap), .val (.int (1 : Int32)), .unset] [])) _
      refine own_st (fun _ k => XS.iloadN X14.here hx rfl (hb hby at_65) rfl k) ?_
      show own_Goes p e below (T14.setTop (mkF m 66 #[.val (.int p1), .val (.int p2), .val (.int (2 : Int32)), .val (.int (1 : Int32)), .val (.ref ap), .val (.int (1 : Int32)), .unset] [(.int (1 : Int32))])) _
      refine own_st (fun _ k => XS.iload X14.here hx rfl (hb hby at_66) rfl k) ?_
      show own_Goes p e below (T14.setTop (mkF m 68 #[.val (.int p1), .val (.int p2), .val (.int (2 : Int32)), .val (.int (1 : Int32)), .val (.ref ap), .val (.int (1 : Int32)), .unset] [(.int (1 : Int32)), (.int (1 : Int32))])) _
      refine own_st (fun _ k => XS.icmpNo X14.here hx rfl (hb hby at_68) rfl (teq (by decide : (1 : Int32) = (1 : Int32))).2 k) ?_
      show own_Goes p e below (T14.setTop (mkF m 71 #[.val (.int p1), .val (.int p2), .val (.int (2 : Int32)), .val (.int (1 : Int32)), .val (.ref ap), .val (.int (1 : Int32)), .unset] [])) _
      refine own_st (fun _ k => XS.iconst X14.here hx rfl (hb hby at_71) k) ?_
      show own_Goes p e below (T14.setTop (mkF m 72 #[.val (.int p1), .val (.int p2), .val (.int (2 : Int32)), .val (.int (1 : Int32)), .val (.ref ap), .val (.int (1 : Int32)), .unset] [(.int (1 : Int32))])) _
      refine own_st (fun _ k => XS.goto X14.here hx rfl (pc0 := 72) (pc' := 76) rfl (hb hby at_72) (by decide) (by decide) k) ?_
      show own_Goes p e below (T14.setTop (mkF m 76 #[.val (.int p1), .val (.int p2), .val (.int (2 : Int32)), .val (.int (1 : Int32)), .val (.ref ap), .val (.int (1 : Int32)), .unset] [(.int (1 : Int32))])) _
      refine own_st (fun _ k => XS.istore X14.here hx rfl (hb hby at_76) rfl (l' := #[.val (.int p1), .val (.int p2), .val (.int (2 : Int32)), .val (.int (1 : Int32)), .val (.ref ap), .val (.int (1 : Int32)), .val (.int (1 : Int32))]) rfl k) ?_
      show own_Goes p e below (T14.setTop (mkF m 78 #[.val (.int p1), .val (.int p2), .val (.int (2 : Int32)), .val (.int (1 : Int32)), .val (.ref ap), .val (.int (1 : Int32)), .val (.int (1 : Int32))] [])) _
      refine own_st (fun _ k => XS.aload X14.here hx rfl (hb hby at_78) rfl rfl k) ?_
      show own_Goes p e below (T14.setTop (mkF m 80 #[.val (.int p1), .val (.int p2), .val (.int (2 : Int32)), .val (.int (1 : Int32)), .val (.ref ap), .val (.int (1 : Int32)), .val (.int (1 : Int32))] [(.ref ap)])) _
      refine own_st (fun _ k => XS.iloadN X14.here hx rfl (hb hby at_80) rfl k) ?_
      show own_Goes p e below (T14.setTop (mkF m 81 #[.val (.int p1), .val (.int p2), .val (.int (2 : Int32)), .val (.int (1 : Int32)), .val (.ref ap), .val (.int (1 : Int32)), .val (.int (1 : Int32))] [(.int (1 : Int32)), (.ref ap)])) _
      obtain ⟨_, T15, h15, L15, X15, e15, ⟨rfl, rfl, q15⟩, st15⟩ := own_callV (argsL := [(.int (1 : Int32))]) (rest := []) (pc := 81) (W := 0) (Ls := #[.val (.int p1), .val (.int p2), .val (.int (2 : Int32)), .val (.int (1 : Int32)), .val (.ref ap), .val (.int (1 : Int32)), .val (.int (1 : Int32))]) (S := [(.int (1 : Int32)), (.ref ap)]) X14 hx hZ hown (hw _ (List.mem_of_getElem? (i := 4) rfl)) (hw _ (List.mem_of_getElem? (i := 5) rfl)) (hw _ (List.mem_of_getElem? (i := 7) rfl)) (hw _ (List.mem_of_getElem? (i := 6) rfl)) (hw _ (List.mem_of_getElem? (i := 2) rfl)) (hw _ (List.mem_of_getElem? (i := 8) rfl)) (notFace_of_selects (args := #[]) (mvT hZ (hw _ (List.mem_of_getElem? (i := 7) rfl)))) (by decide) (rm1 l Z a0 hw [] ap (2 : Int32) (1 : Int32) h0 n0 Z0 F_ap E_ap (by decide) (by decide)) (by decide) (by decide) e14 E_ap (by rw [hml]; rfl) (lenOf pd__Z_Z rfl) rfl (Nat.le_of_eq rfl) (hb hby at_81) (by decide) (by decide)
      refine own_st st15 ?_
      show own_Goes p e below (T15.setTop (mkF m 84 #[.val (.int p1), .val (.int p2), .val (.int (2 : Int32)), .val (.int (1 : Int32)), .val (.ref ap), .val (.int (1 : Int32)), .val (.int (1 : Int32))] [(.int (own_stop (2 : Int32) (1 : Int32)))])) _
      refine own_st (fun _ k => XS.iload X15.here hx rfl (hb hby at_84) rfl k) ?_
      show own_Goes p e below (T15.setTop (mkF m 86 #[.val (.int p1), .val (.int p2), .val (.int (2 : Int32)), .val (.int (1 : Int32)), .val (.ref ap), .val (.int (1 : Int32)), .val (.int (1 : Int32))] [(.int (1 : Int32)), (.int (own_stop (2 : Int32) (1 : Int32)))])) _
      refine own_st (fun _ k => XS.icmpNo X15.here hx rfl (hb hby at_86) rfl (teq (by decide : (own_stop (2 : Int32) (1 : Int32)) = (1 : Int32))).2 k) ?_
      show own_Goes p e below (T15.setTop (mkF m 89 #[.val (.int p1), .val (.int p2), .val (.int (2 : Int32)), .val (.int (1 : Int32)), .val (.ref ap), .val (.int (1 : Int32)), .val (.int (1 : Int32))] [])) _
      refine own_st (fun _ k => XS.iconst X15.here hx rfl (hb hby at_89) k) ?_
      show own_Goes p e below (T15.setTop (mkF m 90 #[.val (.int p1), .val (.int p2), .val (.int (2 : Int32)), .val (.int (1 : Int32)), .val (.ref ap), .val (.int (1 : Int32)), .val (.int (1 : Int32))] [(.int (1 : Int32))])) _
      refine own_st (fun _ k => XS.goto X15.here hx rfl (pc0 := 90) (pc' := 94) rfl (hb hby at_90) (by decide) (by decide) k) ?_
      show own_Goes p e below (T15.setTop (mkF m 94 #[.val (.int p1), .val (.int p2), .val (.int (2 : Int32)), .val (.int (1 : Int32)), .val (.ref ap), .val (.int (1 : Int32)), .val (.int (1 : Int32))] [(.int (1 : Int32))])) _
      exact own_retN (t := .boolean) (z' := (1 : Int32)) X15 hx hlk hret (by simp) (by decide) (hb hby at_94) (by decide) (by decide) (e15.trans q15) ⟨rfl, N0⟩
set_option maxRecDepth 65536 in
set_option maxHeartbeats 40000000 in
theorem comes_1 {Post : Tables → Env → Array Value → State → Outcome → State → Prop} (hpost : ∀ tb e args s v u, (limb_1_1.after args s (.returned v) u = true ∧ limb_1_2.after args s (.returned v) u = true ∧ True) → FrameEnd s (.returned v) u (Jvm.fieldLocs frame_1_writes args s ++ Jvm.arrayLocs frame_1_arrays args s ++ Jvm.staticLocs frame_1_statics s) 0 0 → Post tb e args s (.returned v) u) :
    ArmFor flags0 classFile x code maxLocals ret World_1 tables_1 room_1 Calls_1 rest_1 Pre_1 Post := by
  intro l hfl _ _ p e ha hc hk s m args below hf hA hF happ hP
  obtain ⟨hcalls, hrest, hpre⟩ := hP
  obtain ⟨-, -, -, hnamed, -, -, -, hat⟩ := (Spec.applies_iff hf).mp happ
  obtain ⟨hg, hn⟩ := and_e (Cond.before_iff.mp (show (Jvm.Cond.and given_1 narrow_1).before args s = true from hpre))
  obtain ⟨hcount, g0⟩ := and_e hg
  obtain ⟨q0, g1⟩ := and_e g0
  have q1 := g1
  obtain ⟨w0, w1, rfl⟩ : ∃ w0 w1 : Value, args = #[w0, w1] := by
    have hs : args.size = 2 := by simpa [Cond.value, given_1] using hcount
    obtain ⟨L⟩ := args
    match L, hs with
    | [w0, w1], _ => exact ⟨w0, w1, rfl⟩
  obtain ⟨i0, ei0⟩ := is_v q0
  obtain rfl : w0 = (.int i0) := Option.some.inj ei0
  obtain ⟨i1, ei1⟩ := is_v q1
  obtain rfl : w1 = (.int i1) := Option.some.inj ei1
  have hw := fun d (hd : d ∈ tables_1) => atoms_spec (ws := Jvm.Cond.code x code maxLocals ret :: tables_1) hat d (List.mem_cons_of_mem _ hd)
  have hfit : Fit s := fun {y c} hc i hi => by
    obtain ⟨ha, rfl⟩ := Array.getElem?_eq_some_iff.mp hc
    have q := List.all_eq_true.mp ((Array.all_eq_true_iff_forall_mem.mp hF) _ (Array.getElem_mem ha)) i (List.mem_range.mpr hi)
    simpa [Array.getElem?_eq_getElem hi] using q
  obtain ⟨x_ax, hn⟩ := and_e hn
  obtain ⟨y_ax, hn⟩ := and_e hn
  obtain ⟨ax, v_ax⟩ := exa_v x_ax
  have S_ax := Sta.start v_ax (Or.inr ⟨(hw _ (List.mem_of_getElem? (i := 2) rfl)), (hw _ (List.mem_of_getElem? (i := 3) rfl))⟩)
  have E_ax := Exa.start v_ax x_ax
  have F_ax := Fld.start ((fld_at v_ax).symm.trans (own_eqI y_ax))
  obtain ⟨x_ap, hn⟩ := and_e hn
  obtain ⟨y_ap, hn⟩ := and_e hn
  obtain ⟨ap, v_ap⟩ := exa_v x_ap
  have S_ap := Sta.start v_ap (Or.inr ⟨(hw _ (List.mem_of_getElem? (i := 2) rfl)), (hw _ (List.mem_of_getElem? (i := 19) rfl))⟩)
  have E_ap := Exa.start v_ap x_ap
  have F_ap := Fld.start ((fld_at v_ap).symm.trans (own_eqI y_ap))
  obtain ⟨x_ad, hn⟩ := and_e hn
  have y_ad := hn
  obtain ⟨ad, v_ad⟩ := exa_v x_ad
  have S_ad := Sta.start v_ad (Or.inr ⟨(hw _ (List.mem_of_getElem? (i := 2) rfl)), (hw _ (List.mem_of_getElem? (i := 21) rfl))⟩)
  have E_ad := Exa.start v_ad x_ad
  have F_ad := Fld.start ((fld_at v_ad).symm.trans (own_eqI y_ad))
  obtain ⟨n, o, h1, h2, h3, _, L, rfl, ⟨rfl, N⟩, hq⟩ := rm0 l s _ hw tables_1 i0 i1 ax ap ad s.heap s.heap.size (Nat.le_refl _) S_ax E_ax F_ax S_ap E_ap F_ap S_ad E_ad F_ad p e ha hc hk s m _ below hf ((Spec.applies_iff_loose hf).mp happ).1 ⟨rfl, State.Warmed39.refl s, rfl⟩ trivial
  refine ⟨n, _, h1, h2, h3, hpost _ _ _ _ _ _ ⟨Cond.after_iff.mpr rfl, Cond.after_iff.mpr (eq_i res_at (Term.int_eval (1)) rfl), trivial⟩ ⟨hq.1, hq.2.1, (hq.2.2.sift fun y hy => Or.inr (N y hy)).mono (by decide) (by decide)⟩⟩
theorem main_1_1 : Claimed_1_1 := comes_1 fun _ _ _ _ _ _ h hF => ⟨h.1, hF⟩
theorem main_1_2 : Claimed_1_2 := comes_1 fun _ _ _ _ _ _ h hF => ⟨h.2.1, hF⟩
end Jvm.Pilot.@@N@@
namespace Jvm.Pilot.@@N@@
open Jvm Jvm.ClassFile Sem Op Lib Jvm.Free Jvm.Stand Jvm.Pilot.@@N@@.Jvm.D
/-! MADE BY PROGRAM (witnessworld.py) out of the Statement's table words and the real class files: 12 classes; the members and pool entries that the words name. The judged class is class 1, her method 1. -/
namespace start1
open Jvm.ClassFile
def u (s : String) : CpInfo := .utf8 (stringToUtf16 s)
/-- a pool by its gaps: so many unusable entries, then the entry; so many at the end -/
def gap : Nat → List CpInfo → List CpInfo
  | 0, r => r
  | n + 1, r => .unusable :: gap n r
def poolList (es : List (Nat × CpInfo)) (last : Nat) : List CpInfo := es.foldr (fun e r => gap e.1 (e.2 :: r)) (gap last [])
def pool (es : List (Nat × CpInfo)) (last : Nat) : Array CpInfo := ⟨poolList es last⟩
def fileOf (pool : Array CpInfo) (this : Nat) (attrs : Array Attribute := #[]) (ms : Array MethodInfo := #[]) (fl : Nat := 33) (sup : Nat := 0) (ifs : Array Nat := #[]) (fds : Array FieldInfo := #[]) : ClassFile where
  minorVersion := 0
  majorVersion := 65
  constantPool := pool
  accessFlags := fl
  thisClass := this
  superClass := sup
  interfaces := ifs
  fields := fds
  methods := ms
  attributes := attrs
def plain (name : String) (sup : Option ClassId) : Class where
  name := name
  kind := .ordinary
  loader := none
  accessFlags := 33
  super := sup
  interfaces := #[]
  cf := none
  fields := #[]
  methods := #[]
  instanceTypes := #[]
  staticTypes := #[]
  resolved := #[]
  callSites := []
  init := .initialized
  statics := none
  mirror := none

def pool0 : Array CpInfo := pool [(5, u "<init>"), (0, u "()V"), (1, .class_ 10), (1, u "java/lang/Object")] 113

def k0m0 : Method := { name := "<init>", desc := "()V", sig := { parameters := [], returnType := none }, accessFlags := 1, code := none }
/-- java/lang/Object -/
def k0 : Class := { plain "java/lang/Object" none with
  accessFlags := 33
  interfaces := #[]
  cf := some (fileOf pool0 8 #[] #[{ accessFlags := 1, nameIndex := 5, descriptorIndex := 6, attributes := #[] }] 33 0 #[] #[])
  fields := #[]
  methods := #[k0m0]
  instanceTypes := #[]
  staticTypes := #[]
  resolved := Array.replicate 124 none
  statics := none }

def pool1 : Array CpInfo := pool [(2, .class_ 4), (1, u "java/lang/Object"), (0, u "<init>"), (0, u "()V"), (0, .integer 2147483647), (0, .fieldref 9 10), (0, .class_ 11), (0, .nameAndType 12 13), (0, u "com/example/lattice_warden/latticewarden/AccessEvaluations$Semantic"), (0, u "EXECUTE_ALL"), (0, u "Lcom/example/lattice_warden/latticewarden/AccessEvaluations$Semantic;"), (0, .fieldref 9 15), (0, .nameAndType 16 13), (0, u "DENY_ON_FIRST_DENY"), (0, .fieldref 9 18), (0, .nameAndType 19 13), (0, u "PERMIT_ON_FIRST_PERMIT"), (0, .methodref 9 21), (0, .nameAndType 22 23), (0, u "stopsAfter"), (0, u "(Z)Z"), (0, .class_ 25), (0, u "com/example/lattice_warden/latticewarden/SemanticStopsAfterPinLaw"), (2, u "law"), (0, u "(II)Z")] 7

def k1m0 : Method := { name := "<init>", desc := "()V", sig := { parameters := [], returnType := none }, accessFlags := 1, code := none }
def k1c1 : Code := { maxStack := 2, maxLocals := 7, code := code, exceptionTable := #[], attributes := #[] }
def k1m1 : Method := { name := "law", desc := "(II)Z", sig := { parameters := [.int, .int], returnType := some .boolean }, accessFlags := 9, code := some k1c1 }
/-- com/example/lattice_warden/latticewarden/SemanticStopsAfterPinLaw -/
def k1 : Class := { plain "com/example/lattice_warden/latticewarden/SemanticStopsAfterPinLaw" (some 0) with
  accessFlags := 49
  interfaces := #[]
  cf := some (fileOf pool1 24 #[] #[{ accessFlags := 1, nameIndex := 5, descriptorIndex := 6, attributes := #[] }, { accessFlags := 9, nameIndex := 28, descriptorIndex := 29, attributes := #[] }] 49 2 #[] #[])
  fields := #[]
  methods := #[k1m0, k1m1]
  instanceTypes := #[]
  staticTypes := #[]
  resolved := Array.replicate 37 none
  statics := none }

def pool2 : Array CpInfo := pool [(1, .class_ 2), (0, u "java/lang/constant/Constable"), (0, .class_ 4), (0, u "java/lang/Object")] 6

/-- java/lang/constant/Constable -/
def k2 : Class := { plain "java/lang/constant/Constable" (some 0) with
  accessFlags := 1537
  interfaces := #[]
  cf := some (fileOf pool2 1 #[] #[] 1537 3 #[] #[])
  fields := #[]
  methods := #[]
  instanceTypes := #[]
  staticTypes := #[]
  resolved := Array.replicate 11 none
  statics := none }

def pool3 : Array CpInfo := pool [(1, .class_ 2), (0, u "java/lang/Comparable"), (0, .class_ 4), (0, u "java/lang/Object")] 7

/-- java/lang/Comparable -/
def k3 : Class := { plain "java/lang/Comparable" (some 0) with
  accessFlags := 1537
  interfaces := #[]
  cf := some (fileOf pool3 1 #[] #[] 1537 3 #[] #[])
  fields := #[]
  methods := #[]
  instanceTypes := #[]
  staticTypes := #[]
  resolved := Array.replicate 12 none
  statics := none }

def pool4 : Array CpInfo := pool [(1, .class_ 2), (0, u "java/io/Serializable"), (0, .class_ 4), (0, u "java/lang/Object")] 2

/-- java/io/Serializable -/
def k4 : Class := { plain "java/io/Serializable" (some 0) with
  accessFlags := 1537
  interfaces := #[]
  cf := some (fileOf pool4 1 #[] #[] 1537 3 #[] #[])
  fields := #[]
  methods := #[]
  instanceTypes := #[]
  staticTypes := #[]
  resolved := Array.replicate 7 none
  statics := none }

def pool5 : Array CpInfo := pool [(2, .class_ 4), (1, u "java/lang/Enum"), (0, u "name"), (0, u "Ljava/lang/String;"), (0, .fieldref 2 8), (0, .nameAndType 9 10), (0, u "ordinal"), (0, u "I"), (1, .class_ 14), (1, u "java/lang/Object"), (4, u "hash"), (86, .class_ 108), (1, u "java/lang/Enum$EnumDesc"), (2, .class_ 112), (0, u "java/lang/constant/Constable"), (0, .class_ 114), (0, u "java/lang/Comparable"), (0, .class_ 116), (0, u "java/io/Serializable"), (9, u "()I")] 77

def k5c0 : Code := { maxStack := 1, maxLocals := 1, code := jdk_37_method_2_code, exceptionTable := #[], attributes := #[] }
def k5m0 : Method := { name := "ordinal", desc := "()I", sig := { parameters := [], returnType := some .int }, accessFlags := 17, code := some k5c0 }
/-- java/lang/Enum -/
def k5 : Class := { plain "java/lang/Enum" (some 0) with
  accessFlags := 1057
  interfaces := #[2, 3, 4]
  cf := some (fileOf pool5 2 #[.nestMembers #[106]] #[{ accessFlags := 17, nameIndex := 9, descriptorIndex := 126, attributes := #[] }] 1057 12 #[111, 113, 115] #[{ accessFlags := 18, nameIndex := 5, descriptorIndex := 6, attributes := #[] }, { accessFlags := 18, nameIndex := 9, descriptorIndex := 10, attributes := #[] }, { accessFlags := 2, nameIndex := 19, descriptorIndex := 10, attributes := #[] }])
  fields := #[{ name := "name", type := (.object "java/lang/String"), accessFlags := 18, slot := 0, constantValue := 0 }, { name := "ordinal", type := .int, accessFlags := 18, slot := 1, constantValue := 0 }, { name := "hash", type := .int, accessFlags := 2, slot := 2, constantValue := 0 }]
  methods := #[k5m0]
  instanceTypes := #[(.object "java/lang/String"), .int, .int]
  staticTypes := #[]
  resolved := Array.replicate 204 none
  statics := none }

def pool6 : Array CpInfo := pool [(1, .class_ 2), (0, u "com/example/lattice_warden/latticewarden/AccessEvaluations$Semantic"), (2, u "EXECUTE_ALL"), (0, u "Lcom/example/lattice_warden/latticewarden/AccessEvaluations$Semantic;"), (2, u "DENY_ON_FIRST_DENY"), (2, u "PERMIT_ON_FIRST_PERMIT"), (2, u "$VALUES"), (0, u "[Lcom/example/lattice_warden/latticewarden/AccessEvaluations$Semantic;"), (6, .class_ 25), (1, u "java/lang/Enum"), (6, .methodref 1 33), (0, .nameAndType 34 35), (0, u "ordinal"), (0, u "()I"), (36, u "stopsAfter"), (0, u "(Z)Z"), (7, .class_ 82), (0, u "com/example/lattice_warden/latticewarden/AccessEvaluations")] 2

def k6c0 : Code := { maxStack := 4, maxLocals := 3, code := prog_2_method_4_code, exceptionTable := #[], attributes := #[] }
def k6m0 : Method := { name := "stopsAfter", desc := "(Z)Z", sig := { parameters := [.boolean], returnType := some .boolean }, accessFlags := 0, code := some k6c0 }
/-- com/example/lattice_warden/latticewarden/AccessEvaluations$Semantic -/
def k6 : Class := { plain "com/example/lattice_warden/latticewarden/AccessEvaluations$Semantic" (some 5) with
  accessFlags := 16433
  interfaces := #[]
  cf := some (fileOf pool6 1 #[.nestHost 81] #[{ accessFlags := 0, nameIndex := 72, descriptorIndex := 73, attributes := #[] }] 16433 23 #[] #[{ accessFlags := 16409, nameIndex := 5, descriptorIndex := 6, attributes := #[] }, { accessFlags := 16409, nameIndex := 9, descriptorIndex := 6, attributes := #[] }, { accessFlags := 16409, nameIndex := 12, descriptorIndex := 6, attributes := #[] }, { accessFlags := 4122, nameIndex := 15, descriptorIndex := 16, attributes := #[] }])
  fields := #[{ name := "EXECUTE_ALL", type := (.object "com/example/lattice_warden/latticewarden/AccessEvaluations$Semantic"), accessFlags := 16409, slot := 0, constantValue := 0 }, { name := "DENY_ON_FIRST_DENY", type := (.object "com/example/lattice_warden/latticewarden/AccessEvaluations$Semantic"), accessFlags := 16409, slot := 1, constantValue := 0 }, { name := "PERMIT_ON_FIRST_PERMIT", type := (.object "com/example/lattice_warden/latticewarden/AccessEvaluations$Semantic"), accessFlags := 16409, slot := 2, constantValue := 0 }, { name := "$VALUES", type := (.array (.object "com/example/lattice_warden/latticewarden/AccessEvaluations$Semantic")), accessFlags := 4122, slot := 3, constantValue := 0 }]
  methods := #[k6m0]
  instanceTypes := #[(.object "java/lang/String"), .int, .int]
  staticTypes := #[(.object "com/example/lattice_warden/latticewarden/AccessEvaluations$Semantic"), (.object "com/example/lattice_warden/latticewarden/AccessEvaluations$Semantic"), (.object "com/example/lattice_warden/latticewarden/AccessEvaluations$Semantic"), (.array (.object "com/example/lattice_warden/latticewarden/AccessEvaluations$Semantic"))]
  resolved := Array.replicate 85 none
  statics := some 0 }

def pool7 : Array CpInfo := pool [(1, u "java/lang/Cloneable"), (0, .class_ 1), (0, u "java/lang/Object"), (0, .class_ 3)] 3

/-- java/lang/Cloneable -/
def k7 : Class := { plain "java/lang/Cloneable" (some 0) with
  accessFlags := 1537
  interfaces := #[]
  cf := some (fileOf pool7 2 #[] #[] 1537 4 #[] #[])
  fields := #[]
  methods := #[]
  instanceTypes := #[]
  staticTypes := #[]
  resolved := Array.replicate 8 none
  statics := none }

/-- the primitive byte -/
def k8 : Class := { plain "byte" none with kind := .primitive 'B', accessFlags := 0x411 }
/-- [B -/
def k9 : Class := { plain "[B" (some 0) with kind := .array 8 .byte, interfaces := #[7, 4], accessFlags := 1041 }

/-- the primitive int -/
def k10 : Class := { plain "int" none with kind := .primitive 'I', accessFlags := 0x411 }
/-- [I -/
def k11 : Class := { plain "[I" (some 0) with kind := .array 10 .int, interfaces := #[7, 4], accessFlags := 1041 }

def heap : Heap := #[{ cls := 6, slots := #[.ref 1, .ref 2, .ref 3, .null], vm := .statics 6 },
  { cls := 6, slots := #[.null, .int 0, .int 0], vm := .none },
  { cls := 6, slots := #[.null, .int 1, .int 0], vm := .none },
  { cls := 6, slots := #[.null, .int 2, .int 0], vm := .none }]
def classes : Array Class := #[k0, k1, k2, k3, k4, k5, k6, k7, k8, k9, k10, k11]
def interned : List (Array UInt16 × Addr) := []
def slotsUsed : Nat := 13
def theMethod : MethodId := ⟨1, 1⟩
def args0 : Array Value := #[.int 5, .int 3]
def aboutOver (below : List Frame) : State where
  vm := { classes := classes, interned := interned.toArray }
  heap := heap
  slotsUsed := slotsUsed
  threads := #[{ frames := .invoking theMethod args0 :: below }]
def below0 : List Frame := [.native { method := ⟨0, 0⟩, args := #[] }]
def about1 : State := aboutOver below0
def p0 : Program := .bare "" "" ""
def e0 : Env := launch0.env 0 0 0
theorem w_frames : about1.frames = Frame.invoking theMethod args0 :: below0 := rfl
set_option maxRecDepth 65536 in
theorem w_args : argsFit about1.vm theMethod args0 = true := by decide +kernel
set_option maxRecDepth 65536 in
theorem w_heap : heapFits about1 = true := by decide +kernel
set_option maxRecDepth 65536 in
theorem w_runnable : about1.curStatus? = some .runnable := by decide +kernel
set_option maxRecDepth 65536 in
theorem w_alone : about1.alone = true := by decide +kernel
set_option maxRecDepth 65536 in
theorem w_named : about1.methodNamed? x = some theMethod := by decide +kernel
set_option maxRecDepth 65536 in
theorem w_hears : about1.hears theMethod below0 = true := by decide +kernel
set_option maxRecDepth 65536 in
theorem w_ripe : about1.ripe theMethod args0 below0 = true := by decide +kernel
theorem w_running : about1.status = .running := rfl
set_option maxRecDepth 65536 in
theorem w_room : about1.hasRoom e0.platform room_1 = true :=
  launch0.hasRoom_least _ room_1 (by decide +kernel) (by decide +kernel) (by decide +kernel) (by decide +kernel) (by decide +kernel) (by decide +kernel)
theorem allAtoms_all (ts : List Jvm.Cond) (a : Array Jvm.Value) (st : Jvm.State) : (allAtoms ts).before a st = ts.all (fun c => c.before a st) := by
  induction ts with
  | nil => rfl
  | cons c t ih =>
    show (Jvm.Cond.and c (allAtoms t)).before a st = _
    rw [Jvm.Cond.before_and, ih, List.all_cons]
def words1 : List Jvm.Cond := Jvm.Cond.code x code maxLocals ret :: tables_1
/-- a 'code' word, met by the world's own term for the bytes: nothing is compared byte by byte -/
theorem code_word {y : MethodName} {bytes : ByteArray} {mx : Nat} {rt : Option FieldType} {a : Array Value} {s : State} {m : MethodId} {meth : Method} {c : Code} (h1 : s.methodNamed? y = some m) (h2 : s.vm.method? m = some meth) (h3 : meth.code = some c) (h4 : c.code = bytes)
    (h5 : (c.maxLocals == mx && c.exceptionTable.isEmpty && decide (c.maxStack ≤ mostOperands) && decide (meth.sig.returnType = rt) && !meth.locks && decide (parseMethodDescriptor y.desc = some meth.sig)) = true) : (Jvm.Cond.code y bytes mx rt).before a s = true := by
  simp only [Bool.and_eq_true, beq_iff_eq, Bool.not_eq_true', decide_eq_true_eq] at h5
  obtain ⟨⟨⟨⟨⟨g1, g2⟩, g3⟩, g4⟩, g5⟩, g6⟩ := h5
  simp [Cond.before, Cond.holds, Cond.value, h1, h2, h3, h4, g1, g2, g3, g4, g5, g6]
def isCode : Jvm.Cond → Bool
  | .code _ _ _ _ => true
  | _ => false
theorem all_split {L : List Jvm.Cond} {P : Jvm.Cond → Bool} (h1 : L.all (fun c => isCode c || P c) = true) (h2 : ∀ c ∈ L.filter isCode, P c = true) : L.all P = true := by
  refine List.all_eq_true.mpr fun c hc => ?_
  have h := List.all_eq_true.mp h1 c hc
  rcases Bool.eq_false_or_eq_true (isCode c) with hi | hi
  · exact h2 c (List.mem_filter.mpr ⟨hc, hi⟩)
  · simpa [hi] using h
set_option maxRecDepth 65536 in
theorem w_c0 : (Jvm.Cond.code x code maxLocals ret).before args0 about1 = true := code_word (m := ⟨1, 1⟩) (meth := k1m1) (c := k1c1) (by decide +kernel) rfl rfl rfl (by decide +kernel)
set_option maxRecDepth 65536 in
theorem w_c1 : (Jvm.Cond.code ({ cls := "com/example/lattice_warden/latticewarden/AccessEvaluations$Semantic", name := "stopsAfter", desc := "(Z)Z" } : Jvm.MethodName) prog_2_method_4_code (3 : Nat) (Option.some Jvm.ClassFile.FieldType.boolean)).before args0 about1 = true := code_word (m := ⟨6, 0⟩) (meth := k6m0) (c := k6c0) (by decide +kernel) rfl rfl rfl (by decide +kernel)
set_option maxRecDepth 65536 in
theorem w_c2 : (Jvm.Cond.code ({ cls := "java/lang/Enum", name := "ordinal", desc := "()I" } : Jvm.MethodName) jdk_37_method_2_code (1 : Nat) (Option.some Jvm.ClassFile.FieldType.int)).before args0 about1 = true := code_word (m := ⟨5, 0⟩) (meth := k5m0) (c := k5c0) (by decide +kernel) rfl rfl rfl (by decide +kernel)
def codes1 : List Jvm.Cond := [Jvm.Cond.code x code maxLocals ret, Jvm.Cond.code ({ cls := "com/example/lattice_warden/latticewarden/AccessEvaluations$Semantic", name := "stopsAfter", desc := "(Z)Z" } : Jvm.MethodName) prog_2_method_4_code (3 : Nat) (Option.some Jvm.ClassFile.FieldType.boolean), Jvm.Cond.code ({ cls := "java/lang/Enum", name := "ordinal", desc := "()I" } : Jvm.MethodName) jdk_37_method_2_code (1 : Nat) (Option.some Jvm.ClassFile.FieldType.int)]
set_option maxRecDepth 65536 in
theorem codes_eq : words1.filter isCode = codes1 := rfl
theorem w_codes : ∀ c ∈ words1.filter isCode, c.before args0 about1 = true := by
  rw [codes_eq]
  intro c hc
  simp only [codes1, List.mem_cons, List.not_mem_nil, or_false] at hc
  rcases hc with rfl | rfl | rfl
  · exact w_c0
  · exact w_c1
  · exact w_c2
set_option maxRecDepth 65536 in
theorem w_t1 : words1.all (fun c => isCode c || c.before args0 about1) = true := by decide +kernel
theorem w_tables : (allAtoms (Jvm.Cond.code x code maxLocals ret :: tables_1)).before args0 about1 = true := by
  rw [allAtoms_all]
  show words1.all (fun c => c.before args0 about1) = true
  refine all_split ?_ w_codes
  rw [w_t1]
set_option maxRecDepth 65536 in
theorem w_case : (Jvm.Cond.and given_1 narrow_1).before args0 about1 = true := by decide +kernel
theorem w_applies : (headSpec (Jvm.Cond.code x code maxLocals ret :: tables_1) room_1).applies x e0.platform about1 = true :=
  (Spec.applies_iff w_frames).mpr ⟨w_running, w_runnable, w_alone, w_named, w_hears, w_ripe, w_room, w_tables⟩
theorem atStart : AtStart classFile x code maxLocals ret World_1 tables_1 room_1 Calls_1 rest_1 Pre_1 launch0 p0 e0 about1 theMethod args0 below0 :=
  ⟨lists_1, trivial, launch0.admits_env _ _ _, launch0.least_env, fairChoices_fair.cas, fairChoices_fair.clock, w_frames, w_args, w_heap, w_applies, trivial, trivial, w_case⟩
end start1
theorem witness_1 : WitnessClaimed_1 := ⟨start1.p0, start1.e0, start1.about1, start1.theMethod, start1.args0, start1.below0, start1.atStart⟩
end Jvm.Pilot.@@N@@
