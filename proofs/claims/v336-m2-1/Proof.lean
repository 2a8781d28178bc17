import JvmDerived
import JvmDerived.Pilot.@@N@@Statement
import JvmDerived.Pilot.@@N@@Code
set_option linter.unusedVariables false
set_option linter.unusedSimpArgs false
namespace Jvm.Pilot.@@N@@
open Jvm Jvm.ClassFile Sem Op Lib Jvm.Free Jvm.Stand Jvm.LawKit Jvm.RoadKit Bundle Jvm.Pilot.@@N@@.Jvm.D
/-! 0. the walk's own layer: a run that comes to its end, step by step -/
def own_Goes (p : Program) (e : Env) (below : List Frame) (A : State) (G : Outcome → State → Prop) : Prop :=
  ∃ s₂ o, Steps p.tables e below A s₂ ∧ s₂.status = .running ∧ Ended s₂ below o ∧ G o s₂
def own_post (s : State) (Q : Option Value → Heap → List Loc → Prop) (rc rs : Nat) : Outcome → State → Prop :=
  fun o U' => ∃ v L, o = .returned v ∧ Q v U'.heap L ∧ FrameEnd s o U' L rc rs
section Own
variable {p : Program} {l : Launch} {e : Env} {R : Room} {s : State} {m : MethodId} {args : Array Value} {below : List Frame} {meth : Method} {c : Code} {T : State} {locs : List Loc} {cells slots : Nat} {G : Outcome → State → Prop} {Q : Option Value → Heap → List Loc → Prop} {rc rs : Nat} {Z : State} {a0 : Array Value} {h : Heap}
theorem own_st {A B : State} (st : ∀ t, Steps p.tables e below B t → Steps p.tables e below A t) (k : own_Goes p e below B G) : own_Goes p e below A G := by
  obtain ⟨s₂, o, h1, h2⟩ := k; exact ⟨s₂, o, st _ h1, h2⟩
theorem own_join {B : State} {K : (Outcome → State → Prop) → Prop} (h1 : K G) (h2 : K G → own_Goes p e below B G) : own_Goes p e below B G := h2 h1
theorem own_ret {S : List Value} {pc : Nat} {Ls : Array Slot} {w : Value} {t : FieldType} (X : Stand p l e R s m args below meth c T locs cells slots) (hlk : meth.locks = false) (hret : meth.sig.returnType = some t)
    (st : ∀ fs, (∀ (f : JFrame) (acts : List Action), f.method = m → f.locked = none → f.entered = [] → (doReturn e (T.setTop f) acts (some w)).1 = T.setFrames fs) → Steps p.tables e below (T.setTop (mkF m pc Ls S)) (T.setFrames fs))
    (hc : cells ≤ rc) (hs : slots ≤ rs) (eT : T.heap = h) (hq : Q (some w) h locs) : own_Goes p e below (T.setTop (mkF m pc Ls S)) (own_post s Q rc rs) := by
  subst eT
  obtain ⟨fs, hr, hrun, hended, hW, hsame⟩ := X.leave (v := some w) (fun h => by rw [hret] at h; cases h) hlk
  exact ⟨_, _, st fs hr, hrun, hended, _, _, rfl, hq, ⟨_, rfl⟩, hW, hsame.mono hc hs⟩
theorem own_retI {rest : List Value} {pc : Nat} {Ls : Array Slot} {z : Int32} (X : Stand p l e R s m args below meth c T locs cells slots) (hx : p.tables.exec = Jvm.exec) (hlk : meth.locks = false) (hret : meth.sig.returnType = some .int) (hd : decode c.code pc = .ok (.ireturn, 1))
    (hc : cells ≤ rc) (hs : slots ≤ rs) (eT : T.heap = h) (hq : Q (some (.int z)) h locs) : own_Goes p e below (T.setTop (mkF m pc Ls (.int z :: rest))) (own_post s Q rc rs) :=
  own_ret X hlk hret (fun fs hr => retOut X hx hret rfl (Or.inl ⟨rfl, Or.inl rfl, z, rfl⟩) hd hr) hc hs eT hq
theorem own_retN {rest : List Value} {pc : Nat} {Ls : Array Slot} {z z' : Int32} {t : FieldType} (X : Stand p l e R s m args below meth c T locs cells slots) (hx : p.tables.exec = Jvm.exec) (hlk : meth.locks = false) (hret : meth.sig.returnType = some t) (ht : t = .boolean ∨ t = .byte ∨ t = .char ∨ t = .short) (hn : nar t z = z') (hd : decode c.code pc = .ok (.ireturn, 1))
    (hc : cells ≤ rc) (hs : slots ≤ rs) (eT : T.heap = h) (hq : Q (some (.int z')) h locs) : own_Goes p e below (T.setTop (mkF m pc Ls (.int z :: rest))) (own_post s Q rc rs) :=
  own_ret X hlk hret (fun fs hr => retN X hx hret ht hd (by rw [hn]; exact hr)) hc hs eT hq
theorem own_retJ {rest : List Value} {pc : Nat} {Ls : Array Slot} {z : Int64} (X : Stand p l e R s m args below meth c T locs cells slots) (hx : p.tables.exec = Jvm.exec) (hlk : meth.locks = false) (hret : meth.sig.returnType = some .long) (hd : decode c.code pc = .ok (.lreturn, 1))
    (hc : cells ≤ rc) (hs : slots ≤ rs) (eT : T.heap = h) (hq : Q (some (.long z)) h locs) : own_Goes p e below (T.setTop (mkF m pc Ls (.long z :: rest))) (own_post s Q rc rs) :=
  own_ret X hlk hret (fun fs hr => retOut X hx hret rfl (Or.inr (Or.inl ⟨rfl, rfl, z, rfl⟩)) hd hr) hc hs eT hq
theorem own_retA {rest : List Value} {pc : Nat} {Ls : Array Slot} {w : Value} {t : FieldType} (X : Stand p l e R s m args below meth c T locs cells slots) (hx : p.tables.exec = Jvm.exec) (hlk : meth.locks = false) (hret : meth.sig.returnType = some t) (ht : t.isReference = true) (hw : w.isRef = true) (hn : narrow t w = w) (hd : decode c.code pc = .ok (.areturn, 1))
    (hc : cells ≤ rc) (hs : slots ≤ rs) (eT : T.heap = h) (hq : Q (some w) h locs) : own_Goes p e below (T.setTop (mkF m pc Ls (w :: rest))) (own_post s Q rc rs) :=
  own_ret X hlk hret (fun fs hr => retOut X hx hret hn (Or.inr (Or.inr (Or.inr (Or.inr ⟨rfl, ht, hw⟩)))) hd hr) hc hs eT hq
theorem own_retV {pc : Nat} {Ls : Array Slot} (X : Stand p l e R s m args below meth c T locs cells slots) (hx : p.tables.exec = Jvm.exec) (hlk : meth.locks = false) (hret : meth.sig.returnType = none) (hd : decode c.code pc = .ok (.return_, 1))
    (hc : cells ≤ rc) (hs : slots ≤ rs) (eT : T.heap = h) (hq : Q none h locs) : own_Goes p e below (T.setTop (mkF m pc Ls [])) (own_post s Q rc rs) := by
  subst eT
  obtain ⟨fs, hr, hrun, hended, hW, hsame⟩ := X.leave (v := none) (fun _ => rfl) hlk
  exact ⟨_, _, X.returnOut hx hret hd hr, hrun, hended, _, _, rfl, hq, ⟨_, rfl⟩, hW, hsame.mono hc hs⟩
/-- what a body's theorem says -/
abbrev own_Ct (l : Launch) (Z : State) (y : MethodName) (bytes : ByteArray) (maxL : Nat) (ret : Option FieldType) (ws : List Jvm.Cond) (rm : Room) (as' : Array Value) (h0 : Heap) (Q : Option Value → Heap → List Loc → Prop) (rc rs : Nat) : Prop :=
  MetFree l y (head1 (Jvm.Cond.code y bytes maxL ret :: ws) rm) (fun a U => a = as' ∧ Z.Warmed39 U.vm ∧ U.heap = h0) (fun _ _ _ _ _ => True) (fun _ U o U' => ∃ v L, o = .returned v ∧ Q v U'.heap L ∧ FrameEnd U o U' L rc rs)
theorem own_met {y : MethodName} {bytes : ByteArray} {maxL : Nat} {ret : Option FieldType} {ws : List Jvm.Cond} {rm : Room} {as' : Array Value} {h0 : Heap} (hp : plainFor y = true)
    (body : ∀ p e s m below meth c s₁, Stand p l e rm s m as' below meth c s₁ [] 0 0 → p.tables.exec = Jvm.exec → c.code = bytes → c.maxLocals = maxL → meth.sig.returnType = ret → meth.locks = false → meth.name = y.name → s.vm.findClass y.cls = some m.cls → Z.Warmed39 s.vm → s₁.heap = h0 →
      own_Goes p e below (s₁.setTop (entryFrame m as' maxL)) (own_post s Q rc rs)) : own_Ct l Z y bytes maxL ret ws rm as' h0 Q rc rs := by
  refine MetFree.of_bodySF hp hisR ?_
  intro p e s m args below meth c s₁ Bd hml0 hP hK
  obtain ⟨rfl, hZ, hh⟩ := hP
  exact body p e s m below meth c s₁ (Stand.of_body Bd) Bd.exec Bd.bytes hml0 Bd.returns Bd.notSynchronized (name_of_methodNamed Bd.named Bd.method).1 (findClass_of_methodNamed Bd.named) hZ (by rw [← hh, Bd.state]; rfl)
theorem own_callS {own : String} {index : Nat} {y : MethodName} {bytes : ByteArray} {maxL : Nat} {ret : Option FieldType} {rm : Room} {argsL rest : List Value} {pc W : Nat} {Ls : Array Slot} (X : Stand p l e R s m args below meth c T locs cells slots) (hx : p.tables.exec = Jvm.exec) (hZ : Z.Warmed39 s.vm) (hown : s.vm.findClass own = some m.cls)
    (w1 : (Jvm.Cond.methodLink own index y).before a0 Z = true) (w2 : (Jvm.Cond.static y).before a0 Z = true) (w3 : (Jvm.Cond.initialized y.cls).before a0 Z = true) (w4 : (Jvm.Cond.code y bytes maxL ret).before a0 Z = true) (hy : y.cls ≠ "java/lang/invoke/MethodHandle" ∧ y.cls ≠ "java/lang/invoke/VarHandle")
    (M : own_Ct l Z y bytes maxL ret [] rm argsL.toArray h Q rm.cells rm.slots) (hf : rm.frames + 1 ≤ R.frames) (hl : W + (maxL + 11) + rm.locals ≤ R.locals) (eT : T.heap = h) (hsize : Ls.size = c.maxLocals)
    (hlen : ∀ sig, parseMethodDescriptor y.desc = some sig → argsL.length = sig.parameters.length) {S : List Value} (hS : S = argsL.reverse ++ rest) (hW : (rest.map fun v => v.category).sum ≤ W) (hd : decode c.code pc = .ok (.invokestatic index, 3)) (hc : cells + rm.cells ≤ R.cells) (hs : slots + rm.slots ≤ R.slots) :
    ∃ v T' h' L, Stand p l e R s m args below meth c T' (locs ++ L) (cells + rm.cells) (slots + rm.slots) ∧ T'.heap = h' ∧ Q v h' L ∧ ∀ t, Steps p.tables e below (T'.setTop (mkF m (pc + 3) Ls (v.toList ++ rest))) t → Steps p.tables e below (T.setTop (mkF m pc Ls S)) t := by
  obtain ⟨v, _, ⟨T4, L4, k4, n4⟩, -, X4, ⟨Lc, hQ, l4, y4, z4⟩, st⟩ := Jvm.LawKit.callS X hx hown (mvT hZ w1) (mvT hZ w2) (mvT hZ w3) (mvT hZ w4) hy (backOf (W := W) M hZ w4 w3 hf hl) (g := mkF m pc Ls S) rfl hsize (argsL := argsL) (rest := rest) hlen hS (by show 2 * 0 + _ ≤ _; omega) hd (fun _ _ => ⟨rfl, eT, hc, hs⟩)
  dsimp only [Pt.U, Pt.locs, Pt.cells, Pt.slots] at X4 l4 y4 z4 st hQ
  subst l4 y4 z4
  exact ⟨v, T4, _, Lc, X4, rfl, hQ, st⟩
theorem own_callV {own C : String} {index : Nat} {y z : MethodName} {bytes : ByteArray} {maxL : Nat} {ret : Option FieldType} {rm : Room} {b : Addr} {argsL rest : List Value} {pc W : Nat} {Ls : Array Slot} (X : Stand p l e R s m args below meth c T locs cells slots) (hx : p.tables.exec = Jvm.exec) (hZ : Z.Warmed39 s.vm) (hown : s.vm.findClass own = some m.cls)
    (w1 : (Jvm.Cond.methodLink own index y).before a0 Z = true) (w2 : (Jvm.Cond.declares y).before a0 Z = true) (w5 : (Jvm.Cond.selects C y z).before a0 Z = true) (w6 : (Jvm.Cond.instanceMethod z).before a0 Z = true) (w3 : (Jvm.Cond.initialized z.cls).before a0 Z = true) (w4 : (Jvm.Cond.code z bytes maxL ret).before a0 Z = true) (hnf : NotFace s y) (hy : y.cls ≠ "java/lang/invoke/MethodHandle" ∧ y.cls ≠ "java/lang/invoke/VarHandle")
    (M : own_Ct l Z z bytes maxL ret [] rm (.ref b :: argsL).toArray h Q rm.cells rm.slots) (hf : rm.frames + 1 ≤ R.frames) (hl : W + (maxL + 11) + rm.locals ≤ R.locals) (eT : T.heap = h) (E : Exa Z h b C) (hsize : Ls.size = c.maxLocals)
    (hlen : ∀ sig, parseMethodDescriptor y.desc = some sig → argsL.length = sig.parameters.length) {S : List Value} (hS : S = argsL.reverse ++ .ref b :: rest) (hW : (rest.map fun v => v.category).sum ≤ W) (hd : decode c.code pc = .ok (.invokevirtual index, 3)) (hc : cells + rm.cells ≤ R.cells) (hs : slots + rm.slots ≤ R.slots) :
    ∃ v T' h' L, Stand p l e R s m args below meth c T' (locs ++ L) (cells + rm.cells) (slots + rm.slots) ∧ T'.heap = h' ∧ Q v h' L ∧ ∀ t, Steps p.tables e below (T'.setTop (mkF m (pc + 3) Ls (v.toList ++ rest))) t → Steps p.tables e below (T.setTop (mkF m pc Ls S)) t := by
  obtain ⟨cq, kq, qa, qb, qc⟩ := isOf hZ eT E
  obtain ⟨v, _, ⟨T4, L4, k4, n4⟩, -, X4, ⟨Lc, hQ, l4, y4, z4⟩, st⟩ := X.virtualBack hx (y := y) (z := z) hown (mvT hZ w1) (mvT hZ w2) hnf (mvT hZ w5) (mvT hZ w6) hy (backOf (W := W) M hZ w4 w3 hf hl) qa qc (g := mkF m pc Ls S) rfl hsize (Steps.refl _) (argsL := argsL) (rest := rest) hlen hS (by show 2 * 0 + _ ≤ _; omega) hd (fun _ _ => ⟨rfl, eT, hc, hs⟩)
  dsimp only [Pt.U, Pt.locs, Pt.cells, Pt.slots] at X4 l4 y4 z4 st hQ
  subst l4 y4 z4
  exact ⟨v, T4, _, Lc, X4, rfl, hQ, fun t k => st.trans k⟩
theorem own_callU {own C owner : String} {index : Nat} {y z : MethodName} {bytes : ByteArray} {maxL : Nat} {ret : Option FieldType} {rm : Room} {b : Addr} {argsL rest : List Value} {pc W : Nat} {Ls : Array Slot} (X : Stand p l e R s m args below meth c T locs cells slots) (hx : p.tables.exec = Jvm.exec) (hZ : Z.Warmed39 s.vm) (hown : s.vm.findClass own = some m.cls)
    (w1 : (Jvm.Cond.methodLink own index y).before a0 Z = true) (w0 : (Jvm.Cond.sameMethod y.cls owner y.name y.desc).before a0 Z = true) (w2 : (Jvm.Cond.declares ⟨owner, y.name, y.desc⟩).before a0 Z = true) (w5 : (Jvm.Cond.selects C y z).before a0 Z = true) (w6 : (Jvm.Cond.instanceMethod z).before a0 Z = true) (w3 : (Jvm.Cond.initialized z.cls).before a0 Z = true) (w4 : (Jvm.Cond.code z bytes maxL ret).before a0 Z = true) (hy : owner ≠ "java/lang/invoke/MethodHandle" ∧ owner ≠ "java/lang/invoke/VarHandle")
    (M : own_Ct l Z z bytes maxL ret [] rm (.ref b :: argsL).toArray h Q rm.cells rm.slots) (hf : rm.frames + 1 ≤ R.frames) (hl : W + (maxL + 11) + rm.locals ≤ R.locals) (eT : T.heap = h) (E : Exa Z h b C) (hsize : Ls.size = c.maxLocals)
    (hlen : ∀ sig, parseMethodDescriptor y.desc = some sig → argsL.length = sig.parameters.length) {S : List Value} (hS : S = argsL.reverse ++ .ref b :: rest) (hW : (rest.map fun v => v.category).sum ≤ W) (hd : decode c.code pc = .ok (.invokevirtual index, 3)) (hc : cells + rm.cells ≤ R.cells) (hs : slots + rm.slots ≤ R.slots) :
    ∃ v T' h' L, Stand p l e R s m args below meth c T' (locs ++ L) (cells + rm.cells) (slots + rm.slots) ∧ T'.heap = h' ∧ Q v h' L ∧ ∀ t, Steps p.tables e below (T'.setTop (mkF m (pc + 3) Ls (v.toList ++ rest))) t → Steps p.tables e below (T.setTop (mkF m pc Ls S)) t := by
  obtain ⟨cq, kq, qa, qb, qc⟩ := isOf hZ eT E
  obtain ⟨v, _, ⟨T4, L4, k4, n4⟩, -, X4, ⟨Lc, hQ, l4, y4, z4⟩, st⟩ := X.virtualBackUp hx (x := y) (y := z) hown (mvT hZ w1) (mvT hZ w0) (mvT hZ w2) hy (mvT hZ w5) (mvT hZ w6) (backOf (W := W) M hZ w4 w3 hf hl) qa qc (g := mkF m pc Ls S) rfl hsize (Steps.refl _) (argsL := argsL) (rest := rest) hlen hS (by show 2 * 0 + _ ≤ _; omega) hd (fun _ _ => ⟨rfl, eT, hc, hs⟩)
  dsimp only [Pt.U, Pt.locs, Pt.cells, Pt.slots] at X4 l4 y4 z4 st hQ
  subst l4 y4 z4
  exact ⟨v, T4, _, Lc, X4, rfl, hQ, fun t k => st.trans k⟩
theorem own_callP {own : String} {index : Nat} {y y' : MethodName} {bytes : ByteArray} {maxL : Nat} {ret : Option FieldType} {rm : Room} {b : Addr} {argsL rest : List Value} {pc W : Nat} {Ls : Array Slot} (X : Stand p l e R s m args below meth c T locs cells slots) (hx : p.tables.exec = Jvm.exec) (hZ : Z.Warmed39 s.vm) (hown : s.vm.findClass own = some m.cls)
    (w1 : (Jvm.Cond.methodLink own index y).before a0 Z = true) (w6 : (Jvm.Cond.instanceMethod y).before a0 Z = true) (w7 : (Jvm.Cond.privateMethod y).before a0 Z = true) (w5 : (Jvm.Cond.selects y.cls y' y').before a0 Z = true) (hy' : y'.cls = y.cls) (w3 : (Jvm.Cond.initialized y.cls).before a0 Z = true) (w4 : (Jvm.Cond.code y bytes maxL ret).before a0 Z = true) (hy : y.cls ≠ "java/lang/invoke/MethodHandle" ∧ y.cls ≠ "java/lang/invoke/VarHandle")
    (M : own_Ct l Z y bytes maxL ret [] rm (.ref b :: argsL).toArray h Q rm.cells rm.slots) (hf : rm.frames + 1 ≤ R.frames) (hl : W + (maxL + 11) + rm.locals ≤ R.locals) (eT : T.heap = h) {C : String} (E : Exa Z h b C) (hsize : Ls.size = c.maxLocals)
    (hlen : ∀ sig, parseMethodDescriptor y.desc = some sig → argsL.length = sig.parameters.length) {S : List Value} (hS : S = argsL.reverse ++ .ref b :: rest) (hW : (rest.map fun v => v.category).sum ≤ W) (hd : decode c.code pc = .ok (.invokevirtual index, 3)) (hc : cells + rm.cells ≤ R.cells) (hs : slots + rm.slots ≤ R.slots) :
    ∃ v T' h' L, Stand p l e R s m args below meth c T' (locs ++ L) (cells + rm.cells) (slots + rm.slots) ∧ T'.heap = h' ∧ Q v h' L ∧ ∀ t, Steps p.tables e below (T'.setTop (mkF m (pc + 3) Ls (v.toList ++ rest))) t → Steps p.tables e below (T.setTop (mkF m pc Ls S)) t := by
  obtain ⟨cq, q1, q2⟩ := E.cell
  have hpv : s.PrivateAt y := Cond.privateMethod_at (mvP hZ w7 (args := #[]))
  have hnf : NotFace s y' := notFace_of_selects (args := #[]) (mvT hZ w5)
  obtain ⟨c2, r2, m2, k1, k2, k3, k4, kP, hkP, hkPi⟩ := Cond.selects_spec (mvT (args := #[]) hZ w5)
  have k5 := findClass_of_methodNamed k3
  rw [hy'] at k5
  obtain ⟨v, _, ⟨T4, L4, k4, n4⟩, -, X4, ⟨Lc, hQ, l4, y4, z4⟩, st⟩ := X.privateBack hx hown (mvT hZ w1) (mvT hZ w6) (selects_self_of_private k5 hkP hkPi hpv (mvT hZ w6) hy) hpv (mvT hZ w4) hy (backOf (W := W) M hZ w4 w3 hf hl) (g := mkF m pc Ls S) rfl hsize (Steps.refl _) (a := b) (by rw [eT]; exact q1) q2 (argsL := argsL) (rest := rest) hlen hS (by show 2 * 0 + _ ≤ _; omega) hd (fun _ _ => ⟨rfl, eT, hc, hs⟩)
  dsimp only [Pt.U, Pt.locs, Pt.cells, Pt.slots] at X4 l4 y4 z4 st hQ
  subst l4 y4 z4
  exact ⟨v, T4, _, Lc, X4, rfl, hQ, fun t k => st.trans k⟩
theorem own_callI {own : String} {index : Nat} {y : MethodName} {bytes : ByteArray} {maxL : Nat} {rm : Room} {b : Addr} {argsL rest : List Value} {pc W : Nat} {Ls : Array Slot} (X : Stand p l e R s m args below meth c T locs cells slots) (hx : p.tables.exec = Jvm.exec) (hZ : Z.Warmed39 s.vm) (hown : s.vm.findClass own = some m.cls) (hi : y.name = "<init>")
    (w1 : (Jvm.Cond.methodLink own index y).before a0 Z = true) (w6 : (Jvm.Cond.instanceMethod y).before a0 Z = true) (w3 : (Jvm.Cond.initialized y.cls).before a0 Z = true) (w4 : (Jvm.Cond.code y bytes maxL none).before a0 Z = true) (hy : y.cls ≠ "java/lang/invoke/MethodHandle" ∧ y.cls ≠ "java/lang/invoke/VarHandle")
    (M : own_Ct l Z y bytes maxL none [] rm (.ref b :: argsL).toArray h Q rm.cells rm.slots) (hf : rm.frames + 1 ≤ R.frames) (hl : W + (maxL + 11) + rm.locals ≤ R.locals) (eT : T.heap = h) (hsize : Ls.size = c.maxLocals)
    (hlen : ∀ sig, parseMethodDescriptor y.desc = some sig → argsL.length = sig.parameters.length) {S : List Value} (hS : S = argsL.reverse ++ .ref b :: rest) (hW : (rest.map fun v => v.category).sum ≤ W) (hd : decode c.code pc = .ok (.invokespecial index, 3)) (hc : cells + rm.cells ≤ R.cells) (hs : slots + rm.slots ≤ R.slots) :
    ∃ v T' h' L, Stand p l e R s m args below meth c T' (locs ++ L) (cells + rm.cells) (slots + rm.slots) ∧ T'.heap = h' ∧ Q v h' L ∧ ∀ t, Steps p.tables e below (T'.setTop (mkF m (pc + 3) Ls (v.toList ++ rest))) t → Steps p.tables e below (T.setTop (mkF m pc Ls S)) t := by
  obtain ⟨v, _, ⟨T4, L4, k4, n4⟩, -, X4, ⟨Lc, hQ, l4, y4, z4⟩, st⟩ := X.specialBack hx hi hown (mvT hZ w1) (mvT hZ w6) (mvT hZ w4) hy (backOf (W := W) M hZ w4 w3 hf hl) (g := mkF m pc Ls S) rfl hsize (Steps.refl _) (a := b) (argsL := argsL) (rest := rest) hlen hS (by show 2 * 0 + _ ≤ _; omega) hd (fun _ _ => ⟨rfl, eT, hc, hs⟩)
  dsimp only [Pt.U, Pt.locs, Pt.cells, Pt.slots] at X4 l4 y4 z4 st hQ
  subst l4 y4 z4
  exact ⟨v, T4, _, Lc, X4, rfl, hQ, fun t k => st.trans k⟩
theorem own_eqI {st : State} {t : Term} {z : Int32} (k : (Jvm.Cond.eq t (Term.int z)).value args st none st [] = some true) : t.eval args st none [] st = some (.int z) := by
  simp only [Jvm.Cond.value, Term.eval] at k
  cases ht : t.eval args st none [] st with
  | none => simp [ht] at k
  | some q => cases q <;> simp [ht] at k ⊢; exact k
theorem own_eqR {st : State} {t u : Term} {b : Addr} (k : (Jvm.Cond.eq t u).value args st none st [] = some true) (hu : u.eval args st none [] st = some (.ref b)) : t.eval args st none [] st = some (.ref b) := by
  simp only [Jvm.Cond.value] at k
  cases ht : t.eval args st none [] st with
  | none => simp [ht] at k
  | some q => cases q <;> simp [ht, hu] at k ⊢; exact k
end Own

theorem pn_java_lang_StringUTF16 : plainName "java/lang/StringUTF16" = true := by first | (simp [plainName, overriddenIn]; done) | decide +kernel
theorem pn_java_lang_String : plainName "java/lang/String" = true := by first | (simp [plainName, overriddenIn]; done) | decide +kernel
theorem pn_java_lang_StringLatin1 : plainName "java/lang/StringLatin1" = true := by first | (simp [plainName, overriddenIn]; done) | decide +kernel
theorem pn_java_util_Objects : plainName "java/util/Objects" = true := by first | (simp [plainName, overriddenIn]; done) | decide +kernel
theorem pn_com_example_lattice_warden_latticewarden_FlagItem : plainName "com/example/lattice_warden/latticewarden/FlagItem" = true := by first | (simp [plainName, overriddenIn]; done) | decide +kernel
theorem pn_com_example_lattice_warden_latticewarden_FlagItemNamedPinLaw : plainName "com/example/lattice_warden/latticewarden/FlagItemNamedPinLaw" = true := by first | (simp [plainName, overriddenIn]; done) | decide +kernel
theorem pd___CI_BII_I : parseMethodDescriptor "([CI[BII)I" = some ⟨[(.array .char), .int, (.array .byte), .int, .int], some .int⟩ := by decide +kernel
theorem pd___CII__B : parseMethodDescriptor "([CII)[B" = some ⟨[(.array .char), .int, .int], some (.array .byte)⟩ := by decide +kernel
theorem pd___V : parseMethodDescriptor "()V" = some ⟨[], none⟩ := by decide +kernel
theorem pd___BI_B : parseMethodDescriptor "([BI)B" = some ⟨[(.array .byte), .int], some .byte⟩ := by decide +kernel
theorem pd___CIILjava_lang_Void__V : parseMethodDescriptor "([CIILjava/lang/Void;)V" = some ⟨[(.array .char), .int, .int, (.object "java/lang/Void")], none⟩ := by decide +kernel
theorem pd__C_Z : parseMethodDescriptor "(C)Z" = some ⟨[.char], some .boolean⟩ := by decide +kernel
theorem pd__C__B : parseMethodDescriptor "(C)[B" = some ⟨[.char], some (.array .byte)⟩ := by decide +kernel
theorem pd___BB_V : parseMethodDescriptor "([BB)V" = some ⟨[(.array .byte), .byte], none⟩ := by decide +kernel
theorem pd__Ljava_lang_String_J_V : parseMethodDescriptor "(Ljava/lang/String;J)V" = some ⟨[(.object "java/lang/String"), .long], none⟩ := by decide +kernel
theorem pd__Ljava_lang_Object_Ljava_lang_String__Ljava_lang_Object_ : parseMethodDescriptor "(Ljava/lang/Object;Ljava/lang/String;)Ljava/lang/Object;" = some ⟨[(.object "java/lang/Object"), (.object "java/lang/String")], some (.object "java/lang/Object")⟩ := by decide +kernel
theorem pd___B : parseMethodDescriptor "()B" = some ⟨[], some .byte⟩ := by decide +kernel
theorem pd___J : parseMethodDescriptor "()J" = some ⟨[], some .long⟩ := by decide +kernel
theorem pd__Ljava_lang_Object__Z : parseMethodDescriptor "(Ljava/lang/Object;)Z" = some ⟨[(.object "java/lang/Object")], some .boolean⟩ := by decide +kernel
theorem pd__Ljava_lang_String__Lcom_example_lattice_warden_latticewarden_FlagItem_ : parseMethodDescriptor "(Ljava/lang/String;)Lcom/example/lattice_warden/latticewarden/FlagItem;" = some ⟨[(.object "java/lang/String")], some (.object "com/example/lattice_warden/latticewarden/FlagItem")⟩ := by decide +kernel
theorem pd__C_Ljava_lang_String_ : parseMethodDescriptor "(C)Ljava/lang/String;" = some ⟨[.char], some (.object "java/lang/String")⟩ := by decide +kernel
theorem pd___I : parseMethodDescriptor "()I" = some ⟨[], some .int⟩ := by decide +kernel
theorem pd___C_V : parseMethodDescriptor "([C)V" = some ⟨[(.array .char)], none⟩ := by decide +kernel
theorem pd___Z : parseMethodDescriptor "()Z" = some ⟨[], some .boolean⟩ := by decide +kernel
theorem pd___Ljava_lang_String_ : parseMethodDescriptor "()Ljava/lang/String;" = some ⟨[], some (.object "java/lang/String")⟩ := by decide +kernel
section Own2
variable {p : Program} {l : Launch} {e : Env} {R : Room} {s : State} {m : MethodId} {args : Array Value} {below : List Frame} {meth : Method} {c : Code} {T : State} {locs : List Loc} {cells slots : Nat} {Z : State} {a0 : Array Value} {h : Heap} {a : Addr} {k : ClassId} {z j : Int32} {vs : List Value} {dv : Value} {pc : Nat} {Ls : Array Slot} {rest : List Value}
theorem own_stJ {x : Int64} (X : Stand p l e R s m args below meth c T locs cells slots) (hx : p.tables.exec = Jvm.exec) (hZ : Z.Warmed39 s.vm) (eT : T.heap = h) (F : Arv Z h a k .long z vs dv) (i : Nat) (hj : j.toNatClampNeg = i) (hz : ¬ j < 0 ∧ j < z) (hi : i < vs.length) (hd : decode c.code pc = .ok (.lastore, 1)) :
    ∃ T' h', Stand p l e R s m args below meth c T' (locs ++ [⟨a, j.toNatClampNeg⟩]) cells slots ∧ T'.heap = h' ∧ Wr h h' a j.toNatClampNeg (.long x) ∧ Arv Z h' a k .long z (vs.set i (.long x)) dv ∧ ∀ t, Steps p.tables e below (T'.setTop (mkF m (pc + 1) Ls rest)) t → Steps p.tables e below (T.setTop (mkF m pc Ls (.long x :: .int j :: .ref a :: rest))) t := by
  obtain ⟨cl, Ar, q, S, N, H, G⟩ := F
  obtain ⟨T', h', X', e', W, st⟩ := stJ X hx hZ eT Ar (j := j) (inb_of S hz) (g := mkF m pc Ls (.long x :: .int j :: .ref a :: rest)) rfl rfl hd
  exact ⟨T', h', X', e', W, Arv.set Ar q S N H G rfl W i hj hi, st⟩
theorem own_stB {x : Int32} (X : Stand p l e R s m args below meth c T locs cells slots) (hx : p.tables.exec = Jvm.exec) (hZ : Z.Warmed39 s.vm) (eT : T.heap = h) (F : Arv Z h a k .byte z vs dv) (i : Nat) (hj : j.toNatClampNeg = i) (hz : ¬ j < 0 ∧ j < z) (hi : i < vs.length) (hd : decode c.code pc = .ok (.bastore, 1)) :
    ∃ T' h', Stand p l e R s m args below meth c T' (locs ++ [⟨a, j.toNatClampNeg⟩]) cells slots ∧ T'.heap = h' ∧ Wr h h' a j.toNatClampNeg (.int x.toInt8.toInt32) ∧ Arv Z h' a k .byte z (vs.set i (.int x.toInt8.toInt32)) dv ∧ ∀ t, Steps p.tables e below (T'.setTop (mkF m (pc + 1) Ls rest)) t → Steps p.tables e below (T.setTop (mkF m pc Ls (.int x :: .int j :: .ref a :: rest))) t := by
  obtain ⟨cl, Ar, q, S, N, H, G⟩ := F
  obtain ⟨T', h', X', e', W, st⟩ := stB X hx hZ eT Ar (j := j) (inb_of S hz) (g := mkF m pc Ls (.int x :: .int j :: .ref a :: rest)) rfl rfl hd
  exact ⟨T', h', X', e', W, Arv.set Ar q S N H G (fits_nar_byte _) W i hj hi, st⟩
theorem own_stC {x x' : Int32} (hn : nar .char x = x') (X : Stand p l e R s m args below meth c T locs cells slots) (hx : p.tables.exec = Jvm.exec) (hZ : Z.Warmed39 s.vm) (eT : T.heap = h) (F : Arv Z h a k .char z vs dv) (i : Nat) (hj : j.toNatClampNeg = i) (hz : ¬ j < 0 ∧ j < z) (hi : i < vs.length) (hd : decode c.code pc = .ok (.castore, 1)) :
    ∃ T' h', Stand p l e R s m args below meth c T' (locs ++ [⟨a, j.toNatClampNeg⟩]) cells slots ∧ T'.heap = h' ∧ Wr h h' a j.toNatClampNeg (.int x') ∧ Arv Z h' a k .char z (vs.set i (.int x')) dv ∧ ∀ t, Steps p.tables e below (T'.setTop (mkF m (pc + 1) Ls rest)) t → Steps p.tables e below (T.setTop (mkF m pc Ls (.int x :: .int j :: .ref a :: rest))) t := by
  subst hn
  obtain ⟨cl, Ar, q, S, N, H, G⟩ := F
  obtain ⟨T', h', X', e', W, st⟩ := stC X hx hZ eT Ar (j := j) (inb_of S hz) (g := mkF m pc Ls (.int x :: .int j :: .ref a :: rest)) rfl rfl hd
  exact ⟨T', h', X', e', W, Arv.set Ar q S N H G (fits_nar_char _) W i hj hi, st⟩
theorem own_ldC {v : Value} (X : Stand p l e R s m args below meth c T locs cells slots) (hx : p.tables.exec = Jvm.exec) (hZ : Z.Warmed39 s.vm) (eT : T.heap = h) (F : Arv Z h a k .char z vs dv) (hz : ¬ j < 0 ∧ j < z) (hv : vs.getD j.toNatClampNeg dv = v) (hd : decode c.code pc = .ok (.caload, 1)) :
    ∀ t, Steps p.tables e below (T.setTop (mkF m (pc + 1) Ls (v :: rest))) t → Steps p.tables e below (T.setTop (mkF m pc Ls (.int j :: .ref a :: rest))) t := by
  obtain ⟨cl, Ar, q, S, N, H, G⟩ := F
  exact X.caload hx (j := j) (v := v) (by rw [eT]; exact Ar.1) (State.isArrayOf_alike hZ.alike Ar.2.1) Ar.2.2 (inb_of S hz) (H.at (inb_of S hz) hv) (g := mkF m pc Ls (.int j :: .ref a :: rest)) rfl rfl hd
theorem own_stR {y : Addr} {ty : FieldType} (X : Stand p l e R s m args below meth c T locs cells slots) (hx : p.tables.exec = Jvm.exec) (hZ : Z.Warmed39 s.vm) (eT : T.heap = h) (F : Arv Z h a k ty z vs dv) (hty : ty.isReference = true) (hfit : fits ty (.ref y) = true) (hst : ∀ cl, Arr Z h a cl ty → cl.cls = k → Sto Z h a (.ref y)) (i : Nat) (hj : j.toNatClampNeg = i) (hz : ¬ j < 0 ∧ j < z) (hi : i < vs.length) (hd : decode c.code pc = .ok (.aastore, 1)) :
    ∃ T' h', Stand p l e R s m args below meth c T' (locs ++ [⟨a, j.toNatClampNeg⟩]) cells slots ∧ T'.heap = h' ∧ Wr h h' a j.toNatClampNeg (.ref y) ∧ Arv Z h' a k ty z (vs.set i (.ref y)) dv ∧ ∀ t, Steps p.tables e below (T'.setTop (mkF m (pc + 1) Ls rest)) t → Steps p.tables e below (T.setTop (mkF m pc Ls (.ref y :: .int j :: .ref a :: rest))) t := by
  obtain ⟨cl, Ar, q, S, N, H, G⟩ := F
  obtain ⟨T', h', X', e', W, st⟩ := stR X hx hZ eT Ar (j := j) (inb_of S hz) hty (hst cl Ar q) (g := mkF m pc Ls (.ref y :: .int j :: .ref a :: rest)) rfl rfl hd
  exact ⟨T', h', X', e', W, Arv.set Ar q S N H G hfit W i hj hi, st⟩
theorem own_ldJ {v : Value} (X : Stand p l e R s m args below meth c T locs cells slots) (hx : p.tables.exec = Jvm.exec) (hZ : Z.Warmed39 s.vm) (eT : T.heap = h) (F : Arv Z h a k .long z vs dv) (hz : ¬ j < 0 ∧ j < z) (hv : vs.getD j.toNatClampNeg dv = v) (hd : decode c.code pc = .ok (.laload, 1)) :
    ∀ t, Steps p.tables e below (T.setTop (mkF m (pc + 1) Ls (v :: rest))) t → Steps p.tables e below (T.setTop (mkF m pc Ls (.int j :: .ref a :: rest))) t := by
  obtain ⟨cl, Ar, q, S, N, H, G⟩ := F
  exact X.laload hx (j := j) (v := v) (by rw [eT]; exact Ar.1) (State.isArrayOf_alike hZ.alike Ar.2.1) Ar.2.2 (inb_of S hz) (H.at (inb_of S hz) hv) (g := mkF m pc Ls (.int j :: .ref a :: rest)) rfl rfl hd
theorem own_ldB {v : Value} (X : Stand p l e R s m args below meth c T locs cells slots) (hx : p.tables.exec = Jvm.exec) (hZ : Z.Warmed39 s.vm) (eT : T.heap = h) (F : Arv Z h a k .byte z vs dv) (hz : ¬ j < 0 ∧ j < z) (hv : vs.getD j.toNatClampNeg dv = v) (hd : decode c.code pc = .ok (.baload, 1)) :
    ∀ t, Steps p.tables e below (T.setTop (mkF m (pc + 1) Ls (v :: rest))) t → Steps p.tables e below (T.setTop (mkF m pc Ls (.int j :: .ref a :: rest))) t := by
  obtain ⟨cl, Ar, q, S, N, H, G⟩ := F
  exact X.baloadBytes hx (j := j) (v := v) (by rw [eT]; exact Ar.1) (State.isArrayOf_alike hZ.alike Ar.2.1) Ar.2.2 (inb_of S hz) (H.at (inb_of S hz) hv) (g := mkF m pc Ls (.int j :: .ref a :: rest)) rfl rfl hd
theorem own_ldR {v : Value} {ty : FieldType} (X : Stand p l e R s m args below meth c T locs cells slots) (hx : p.tables.exec = Jvm.exec) (hZ : Z.Warmed39 s.vm) (eT : T.heap = h) (F : Arv Z h a k ty z vs dv) (hty : ty.isReference = true) (hz : ¬ j < 0 ∧ j < z) (hv : vs.getD j.toNatClampNeg dv = v) (hd : decode c.code pc = .ok (.aaload, 1)) :
    ∀ t, Steps p.tables e below (T.setTop (mkF m (pc + 1) Ls (v :: rest))) t → Steps p.tables e below (T.setTop (mkF m pc Ls (.int j :: .ref a :: rest))) t := by
  obtain ⟨cl, Ar, q, S, N, H, G⟩ := F
  exact X.aaload hx (j := j) (v := v) (by rw [eT]; exact Ar.1) (State.isArrayOf_alike hZ.alike Ar.2.1) hty Ar.2.2 (inb_of S hz) (H.at (inb_of S hz) hv) (g := mkF m pc Ls (.int j :: .ref a :: rest)) rfl rfl hd
theorem own_len {ty : FieldType} (X : Stand p l e R s m args below meth c T locs cells slots) (hx : p.tables.exec = Jvm.exec) (hZ : Z.Warmed39 s.vm) (eT : T.heap = h) (F : Arv Z h a k ty z vs dv) (hd : decode c.code pc = .ok (.arraylength, 1)) :
    ∀ t, Steps p.tables e below (T.setTop (mkF m (pc + 1) Ls (.int z :: rest))) t → Steps p.tables e below (T.setTop (mkF m pc Ls (.ref a :: rest))) t := by
  obtain ⟨cl, Ar, q, S, N, H, G⟩ := F
  intro t kt
  refine X.arraylength hx (by rw [eT]; exact Ar.1) (State.isArrayOf_alike hZ.alike Ar.2.1) (g := mkF m pc Ls (.ref a :: rest)) rfl rfl hd t ?_
  rw [len_of S N]; exact kt
end Own2
/-! chars below 256 -/
def own_c8 (c : Int32) : Prop := 0 ≤ c.toInt ∧ c.toInt ≤ 255
theorem own_narc {c : Int32} (h : own_c8 c) : nar .char c = c := by
  show c.toUInt32.toUInt16.toUInt32.toInt32 = c
  have q := c_i2c c
  obtain ⟨h1, h2⟩ := h
  apply Int32.toInt_inj.mp; omega
theorem own_c8n {c : Int32} (h : own_c8 c) : ¬ (255 : Int32) < c := by
  have e : (255 : Int32).toInt = 255 := by decide
  rw [Int32.lt_iff_toInt_lt, e]; have := h.2; omega
theorem own_b8 (x : Int32) : x.toInt8.toInt32.toInt8.toInt32 = x.toInt8.toInt32 := by simp
theorem own_cfl (z : Int32) : (XT.ushr (z - z) (31 : Int32)).toInt8.toInt32 = 0 := by rw [Int32.sub_self]; decide
theorem own_and8 (x : Int32) : ∃ c : Int32, (x &&& (255 : Int32)).toUInt32.toUInt16.toUInt32.toInt32 = c ∧ own_c8 c := by
  have e1 : (x &&& (255 : Int32)).toInt = x.toInt % (2 ^ 8 : Nat) := c_mask x _ 8 (by decide) (by decide)
  refine ⟨_, rfl, ?_⟩
  have q := c_i2c (x &&& (255 : Int32))
  unfold own_c8; omega
theorem own_shr0 (x : Int32) : x >>> ((0 : Int32) &&& 31) = x := by
  apply Int32.toInt_inj.mp; rw [c_ishr x (0 : Int32) 0 (by decide)]; simp
theorem own_bytes {c d : Int32} (hc : own_c8 c) (hd : own_c8 d) (q : c.toInt8.toInt32 = d.toInt8.toInt32) : c = d := by
  have e1 := c_i2b c
  have e2 := c_i2b d
  rw [q] at e1
  apply Int32.toInt_inj.mp
  obtain ⟨h1, h2⟩ := hc
  obtain ⟨h3, h4⟩ := hd
  omega
section OwnS
variable {p : Program} {l : Launch} {e : Env} {R : Room} {s : State} {m : MethodId} {args : Array Value} {below : List Frame} {meth : Method} {c : Code} {T : State} {locs : List Loc} {cells slots : Nat} {rc rs : Nat} {Z : State} {a0 : Array Value} {h h' : Heap} {vm0 : Vm} {k0 : Nat} {QS : Option Value → Heap → Vm → List Loc → Prop} {PS : Vm → Prop}
def own_postS (s : State) (Q : Option Value → Heap → Vm → List Loc → Prop) (rc rs : Nat) : Outcome → State → Prop :=
  fun o U' => ∃ v L, o = .returned v ∧ Q v U'.heap U'.vm L ∧ ReturnedEndW s o U' L rc rs
theorem own_leaveS {S : List Value} {pc : Nat} {Ls : Array Slot} {v : Option Value} (X : Stand p l e R (s.setVm vm0) m args below meth c T locs cells slots) (hS : s.Since vm0 k0) (hk : k0 ≤ h.size) (hlk : meth.locks = false) (hv : meth.sig.returnType = none → v = none)
    (st : ∀ fs, (∀ (f : JFrame) (acts : List Action), f.method = m → f.locked = none → f.entered = [] → (doReturn e (T.setTop f) acts v).1 = T.setFrames fs) → Steps p.tables e below (T.setTop (mkF m pc Ls S)) (T.setFrames fs))
    (hc : cells ≤ rc) (hs : slots ≤ rs) (eT : T.heap = h) (hq : QS v h T.vm locs) : own_Goes p e below (T.setTop (mkF m pc Ls S)) (own_postS s QS rc rs) := by
  subst eT
  obtain ⟨fs, hr, hrun, hended, r1, r2, r3, r4⟩ := X.leaveW hS hk (v := v) hv hlk
  exact ⟨_, _, st fs hr, hrun, hended, _, _, rfl, hq, r1, r2, r3, r4.mono hc hs⟩
theorem own_retSA {rest : List Value} {pc : Nat} {Ls : Array Slot} {w : Value} {t : FieldType} (X : Stand p l e R (s.setVm vm0) m args below meth c T locs cells slots) (hS : s.Since vm0 k0) (hk : k0 ≤ h.size) (hx : p.tables.exec = Jvm.exec) (hlk : meth.locks = false) (hret : meth.sig.returnType = some t) (ht : t.isReference = true) (hw : w.isRef = true) (hn : narrow t w = w) (hd : decode c.code pc = .ok (.areturn, 1))
    (hc : cells ≤ rc) (hs : slots ≤ rs) (eT : T.heap = h) (hq : QS (some w) h T.vm locs) : own_Goes p e below (T.setTop (mkF m pc Ls (w :: rest))) (own_postS s QS rc rs) :=
  own_leaveS X hS hk hlk (fun h => by rw [hret] at h; cases h) (fun fs hr => retOut X hx hret hn (Or.inr (Or.inr (Or.inr (Or.inr ⟨rfl, ht, hw⟩)))) hd hr) hc hs eT hq
theorem own_retSI {rest : List Value} {pc : Nat} {Ls : Array Slot} {z : Int32} (X : Stand p l e R (s.setVm vm0) m args below meth c T locs cells slots) (hS : s.Since vm0 k0) (hk : k0 ≤ h.size) (hx : p.tables.exec = Jvm.exec) (hlk : meth.locks = false) (hret : meth.sig.returnType = some .int) (hd : decode c.code pc = .ok (.ireturn, 1))
    (hc : cells ≤ rc) (hs : slots ≤ rs) (eT : T.heap = h) (hq : QS (some (.int z)) h T.vm locs) : own_Goes p e below (T.setTop (mkF m pc Ls (.int z :: rest))) (own_postS s QS rc rs) :=
  own_leaveS X hS hk hlk (fun h => by rw [hret] at h; cases h) (fun fs hr => retOut X hx hret rfl (Or.inl ⟨rfl, Or.inl rfl, z, rfl⟩) hd hr) hc hs eT hq
theorem own_retSN {rest : List Value} {pc : Nat} {Ls : Array Slot} {z z' : Int32} {t : FieldType} (X : Stand p l e R (s.setVm vm0) m args below meth c T locs cells slots) (hS : s.Since vm0 k0) (hk : k0 ≤ h.size) (hx : p.tables.exec = Jvm.exec) (hlk : meth.locks = false) (hret : meth.sig.returnType = some t) (ht : t = .boolean ∨ t = .byte ∨ t = .char ∨ t = .short) (hn : nar t z = z') (hd : decode c.code pc = .ok (.ireturn, 1))
    (hc : cells ≤ rc) (hs : slots ≤ rs) (eT : T.heap = h) (hq : QS (some (.int z')) h T.vm locs) : own_Goes p e below (T.setTop (mkF m pc Ls (.int z :: rest))) (own_postS s QS rc rs) :=
  own_leaveS X hS hk hlk (fun h => by rw [hret] at h; cases h) (fun fs hr => retN X hx hret ht hd (by rw [hn]; exact hr)) hc hs eT hq
theorem own_retSV {pc : Nat} {Ls : Array Slot} (X : Stand p l e R (s.setVm vm0) m args below meth c T locs cells slots) (hS : s.Since vm0 k0) (hk : k0 ≤ h.size) (hx : p.tables.exec = Jvm.exec) (hlk : meth.locks = false) (hret : meth.sig.returnType = none) (hd : decode c.code pc = .ok (.return_, 1))
    (hc : cells ≤ rc) (hs : slots ≤ rs) (eT : T.heap = h) (hq : QS none h T.vm locs) : own_Goes p e below (T.setTop (mkF m pc Ls [])) (own_postS s QS rc rs) :=
  own_leaveS X hS hk hlk (fun _ => rfl) (fun fs hr => X.returnOut hx hret hd hr) hc hs eT hq
abbrev own_CtS (l : Launch) (Z : State) (y : MethodName) (bytes : ByteArray) (maxL : Nat) (ret : Option FieldType) (ws : List Jvm.Cond) (rm : Room) (as' : Array Value) (h0 : Heap) (P : Vm → Prop) (Q : Option Value → Heap → Vm → List Loc → Prop) (rc rs : Nat) : Prop :=
  MetFree l y (head1 (Jvm.Cond.code y bytes maxL ret :: ws) rm) (fun a U => a = as' ∧ Z.Warmed39 U.vm ∧ U.heap = h0 ∧ P U.vm) (fun _ _ _ _ _ => True) (fun _ U o U' => ∃ v L, o = .returned v ∧ Q v U'.heap U'.vm L ∧ ReturnedEndW U o U' L rc rs)
theorem own_metS {y : MethodName} {bytes : ByteArray} {maxL : Nat} {ret : Option FieldType} {ws : List Jvm.Cond} {rm : Room} {as' : Array Value} {h0 : Heap} (hp : plainFor y = true)
    (body : ∀ p e s m below meth c s₁, Stand p l e rm (s.setVm s.vm) m as' below meth c s₁ [] 0 0 → p.tables.exec = Jvm.exec → c.code = bytes → c.maxLocals = maxL → meth.sig.returnType = ret → meth.locks = false → meth.name = y.name → (s.setVm s.vm).vm.findClass y.cls = some m.cls → Z.Warmed39 (s.setVm s.vm).vm → s₁.heap = h0 → s.heap = h0 → PS s.vm → s.Since s.vm 0 →
      own_Goes p e below (s₁.setTop (entryFrame m as' maxL)) (own_postS s QS rc rs)) : own_CtS l Z y bytes maxL ret ws rm as' h0 PS QS rc rs := by
  refine MetFree.of_bodySF hp hisR ?_
  intro p e s m args below meth c s₁ Bd hml0 hP hK
  obtain ⟨rfl, hZ, hh, hp⟩ := hP
  exact body p e s m below meth c s₁ (Stand.of_body Bd) Bd.exec Bd.bytes hml0 Bd.returns Bd.notSynchronized (name_of_methodNamed Bd.named Bd.method).1 (findClass_of_methodNamed Bd.named) hZ (by rw [← hh, Bd.state]; rfl) hh hp ((State.WarmedH.refl s).since 0)
theorem own_backS {y : MethodName} {bytes : ByteArray} {maxL : Nat} {ret : Option FieldType} {rm : Room} {len W : Nat} {as' : Array Value} (hM : own_CtS l Z y bytes maxL ret [] rm as' h PS QS rm.cells rm.slots)
    (hZ : Z.Warmed39 s.vm) (wc : (Jvm.Cond.code y bytes maxL ret).before a0 Z = true) (wz : (Jvm.Cond.initialized y.cls).before a0 Z = true) (hf : rm.frames + 1 ≤ R.frames) (hl : W + (maxL + 11) + rm.locals ≤ R.locals) :
    BackS l R p e below s args y len W (fun A a => a = as' ∧ A.U.heap = h ∧ PS A.U.vm ∧ A.cells + rm.cells ≤ R.cells ∧ A.slots + rm.slots ≤ R.slots)
      (fun A _ v B => ∃ L, QS v B.U.heap B.U.vm L ∧ B.locs = A.locs ++ L ∧ B.cells = A.cells + rm.cells ∧ B.slots = A.slots + rm.slots) :=
  BackS.of_freeW (bytes := bytes) (maxL := maxL) (ret := ret) (E := fun _ _ o t L k n => k = rm.cells ∧ n = rm.slots ∧ ∃ v, o = .returned v ∧ QS v t.heap t.vm L) hM hf hl
    (fun m meth c A a Y hp => have hU : Z.Warmed39 A.U.vm := wtrans hZ Y.warmed
      ⟨by show (Jvm.Cond.and _ .tt).before a A.U = true; rw [Cond.before_and, mv hU wc]; rfl, mv hU wc, mv hU wz, hp.2.2.2.1, hp.2.2.2.2⟩)
    (fun m meth c A a g mk Y hp => ⟨hp.1, wtrans hZ Y.warmed, hp.2.1, hp.2.2.1⟩) (fun _ _ _ _ _ _ _ _ _ => trivial)
    (fun _ _ _ _ ⟨v, L, h1, h2, h3⟩ => ⟨L, _, _, h3, rfl, rfl, v, h1, h2⟩)
    (fun m meth c A a g mk v t L k n Y hp _ _ ⟨e1, e2, v', e3, e4⟩ => by cases e3; subst e1 e2; exact ⟨L, e4, rfl, rfl, rfl⟩)
theorem own_callSS {own : String} {index : Nat} {y : MethodName} {bytes : ByteArray} {maxL : Nat} {ret : Option FieldType} {rm : Room} {argsL rest : List Value} {pc W : Nat} {Ls : Array Slot} (X : Stand p l e R (s.setVm vm0) m args below meth c T locs cells slots) (hx : p.tables.exec = Jvm.exec) (hZ : Z.Warmed39 (s.setVm vm0).vm) (hown : (s.setVm vm0).vm.findClass own = some m.cls) (hS : s.Since vm0 k0) (hk : k0 ≤ h.size) (hP : ∀ vm1, (s.setVm vm0).WarmedH vm1 → PS vm1)
    (w1 : (Jvm.Cond.methodLink own index y).before a0 Z = true) (w2 : (Jvm.Cond.static y).before a0 Z = true) (w3 : (Jvm.Cond.initialized y.cls).before a0 Z = true) (w4 : (Jvm.Cond.code y bytes maxL ret).before a0 Z = true) (hy : y.cls ≠ "java/lang/invoke/MethodHandle" ∧ y.cls ≠ "java/lang/invoke/VarHandle")
    (M : own_CtS l Z y bytes maxL ret [] rm argsL.toArray h PS QS rm.cells rm.slots) (hf : rm.frames + 1 ≤ R.frames) (hl : W + (maxL + 11) + rm.locals ≤ R.locals) (eT : T.heap = h) (hsize : Ls.size = c.maxLocals)
    (hlen : ∀ sig, parseMethodDescriptor y.desc = some sig → argsL.length = sig.parameters.length) {S : List Value} (hSt : S = argsL.reverse ++ rest) (hW : (rest.map fun v => v.category).sum ≤ W) (hd : decode c.code pc = .ok (.invokestatic index, 3)) (hc : cells + rm.cells ≤ R.cells) (hs : slots + rm.slots ≤ R.slots) :
    ∃ v T' h' L, Stand p l e R (s.setVm T'.vm) m args below meth c T' (locs ++ L) (cells + rm.cells) (slots + rm.slots) ∧ T'.heap = h' ∧ QS v h' T'.vm L ∧ s.Since T'.vm h'.size ∧ Z.Warmed39 (s.setVm T'.vm).vm ∧ (s.setVm T'.vm).vm.findClass own = some m.cls ∧ ∀ t, Steps p.tables e below (T'.setTop (mkF m (pc + 3) Ls (v.toList ++ rest))) t → Steps p.tables e below (T.setTop (mkF m pc Ls S)) t := by
  obtain ⟨v, _, ⟨T4, L4, k4, n4⟩, -, X4, S4, g4, ⟨Lc, hQ, l4, y4, z4⟩, st⟩ := callSS X hx hown (mvT hZ w1) (mvT hZ w2) (mvT hZ w3) (mvT hZ w4) hy (own_backS (W := W) M hZ w4 w3 hf hl) (g := mkF m pc Ls S) rfl hsize (argsL := argsL) (rest := rest) hlen hSt (by show 2 * 0 + _ ≤ _; omega) hd (fun vm1 hw1 => ⟨rfl, eT, hP vm1 hw1, hc, hs⟩)
  dsimp only [Pt.U, Pt.locs, Pt.cells, Pt.slots] at X4 S4 g4 l4 y4 z4 st hQ
  subst l4 y4 z4 eT
  obtain ⟨X5, S5, Z5, O5⟩ := rebS hS hk X4 S4 g4 hZ hown
  exact ⟨v, T4, _, Lc, X5, rfl, hQ, S5, Z5, O5, fun t k => st.trans k⟩
theorem own_callIS {own : String} {index : Nat} {y : MethodName} {bytes : ByteArray} {maxL : Nat} {rm : Room} {b : Addr} {argsL rest : List Value} {pc W : Nat} {Ls : Array Slot} (X : Stand p l e R (s.setVm vm0) m args below meth c T locs cells slots) (hx : p.tables.exec = Jvm.exec) (hZ : Z.Warmed39 (s.setVm vm0).vm) (hown : (s.setVm vm0).vm.findClass own = some m.cls) (hS : s.Since vm0 k0) (hk : k0 ≤ h.size) (hP : ∀ vm1, (s.setVm vm0).WarmedH vm1 → PS vm1) (hi : y.name = "<init>")
    (w1 : (Jvm.Cond.methodLink own index y).before a0 Z = true) (w6 : (Jvm.Cond.instanceMethod y).before a0 Z = true) (w3 : (Jvm.Cond.initialized y.cls).before a0 Z = true) (w4 : (Jvm.Cond.code y bytes maxL none).before a0 Z = true) (hy : y.cls ≠ "java/lang/invoke/MethodHandle" ∧ y.cls ≠ "java/lang/invoke/VarHandle")
    (M : own_CtS l Z y bytes maxL none [] rm (.ref b :: argsL).toArray h PS QS rm.cells rm.slots) (hf : rm.frames + 1 ≤ R.frames) (hl : W + (maxL + 11) + rm.locals ≤ R.locals) (eT : T.heap = h) (hsize : Ls.size = c.maxLocals)
    (hlen : ∀ sig, parseMethodDescriptor y.desc = some sig → argsL.length = sig.parameters.length) {S : List Value} (hSt : S = argsL.reverse ++ .ref b :: rest) (hW : (rest.map fun v => v.category).sum ≤ W) (hd : decode c.code pc = .ok (.invokespecial index, 3)) (hc : cells + rm.cells ≤ R.cells) (hs : slots + rm.slots ≤ R.slots) :
    ∃ v T' h' L, Stand p l e R (s.setVm T'.vm) m args below meth c T' (locs ++ L) (cells + rm.cells) (slots + rm.slots) ∧ T'.heap = h' ∧ QS v h' T'.vm L ∧ s.Since T'.vm h'.size ∧ Z.Warmed39 (s.setVm T'.vm).vm ∧ (s.setVm T'.vm).vm.findClass own = some m.cls ∧ ∀ t, Steps p.tables e below (T'.setTop (mkF m (pc + 3) Ls (v.toList ++ rest))) t → Steps p.tables e below (T.setTop (mkF m pc Ls S)) t := by
  obtain ⟨v, _, ⟨T4, L4, k4, n4⟩, -, X4, S4, g4, ⟨Lc, hQ, l4, y4, z4⟩, st⟩ := X.specialBackS hx hi hown (mvT hZ w1) (mvT hZ w6) (mvT hZ w4) hy (own_backS (W := W) M hZ w4 w3 hf hl) (g := mkF m pc Ls S) rfl hsize (Steps.refl _) (a := b) (argsL := argsL) (rest := rest) hlen hSt (by show 2 * 0 + _ ≤ _; omega) hd (fun vm1 hw1 => ⟨rfl, eT, hP vm1 hw1, hc, hs⟩)
  dsimp only [Pt.U, Pt.locs, Pt.cells, Pt.slots] at X4 S4 g4 l4 y4 z4 st hQ
  subst l4 y4 z4 eT
  obtain ⟨X5, S5, Z5, O5⟩ := rebS hS hk X4 S4 g4 hZ hown
  exact ⟨v, T4, _, Lc, X5, rfl, hQ, S5, Z5, O5, fun t k => st.trans k⟩
/-! Strings of the compact kind -/
def own_Str (Z : State) (h : Heap) (a b : Addr) (k : ClassId) (n : Int32) (bs : List Value) : Prop :=
  Exa Z h a "java/lang/String" ∧ Fld Z h a "java/lang/String" "value" "[B" (.ref b) ∧ Fld Z h a "java/lang/String" "coder" "B" (.int (0 : Int32)) ∧ Arv Z h b k .byte n bs (.int (0 : Int32))
theorem own_Str.ext {a b : Addr} {k : ClassId} {n : Int32} {bs : List Value} (F : own_Str Z h a b k n bs) (E : Ext h h') : own_Str Z h' a b k n bs := ⟨F.1.ext E, F.2.1.ext E, F.2.2.1.ext E, F.2.2.2.ext E⟩
theorem own_Str.keep {a b : Addr} {k : ClassId} {n : Int32} {bs : List Value} {ws : List Addr} (F : own_Str Z h a b k n bs) (K : Keep h h' ws) (q1 : a ∉ ws) (q2 : b ∉ ws) : own_Str Z h' a b k n bs := ⟨F.1.keep K, F.2.1.keep K q1, F.2.2.1.keep K q1, F.2.2.2.keep K q2⟩
theorem own_Str.other {a b x : Addr} {k : ClassId} {n : Int32} {bs : List Value} {sl : Nat} {v : Value} (F : own_Str Z h a b k n bs) (W : Wr h h' x sl v) (q1 : a ≠ x) (q2 : b ≠ x) : own_Str Z h' a b k n bs := ⟨F.1.wr W, F.2.1.other W (Or.inl q1), F.2.2.1.other W (Or.inl q1), F.2.2.2.other W q2⟩
/-- what is known of the constant "" of String's own pool: not loaded since the start, or loaded -/
def own_E (Z : State) (vm : Vm) (h : Heap) : Prop := IB Z vm [] ∨ ∃ (a b : Addr) (k : ClassId), Lit (Z.setVm vm) "java/lang/String" 7 a ∧ own_Str Z h a b k (0 : Int32) []
theorem own_E_keep {vm : Vm} (F : own_E Z vm h) (K : Keep h h' []) : own_E Z vm h' := by
  rcases F with F | ⟨a, b, k, L, F⟩
  · exact Or.inl F
  · exact Or.inr ⟨a, b, k, L, F.keep K nin0 nin0⟩
theorem own_E_warm {vm1 : Vm} (F : own_E Z vm0 h) (W : (s.setVm vm0).WarmedH vm1) : own_E Z vm1 h := by
  rcases F with ⟨more, q1, q2⟩ | ⟨a, b, k, L, F⟩
  · exact Or.inl ⟨more, W.interned_eq.trans q1, q2⟩
  · exact Or.inr ⟨a, b, k, Lit.stays (s := s) L W.wide, F⟩
end OwnS
theorem own_sa : ∀ a ∈ Bundle.stringAtoms, a ∈ tables_1 := by decide +kernel
/-! the plain law -/
theorem own_m4 (x : Int32) : ∃ la : Int32, (x &&& (3 : Int32)) = la ∧ (la = 0 ∨ la = 1 ∨ la = 2 ∨ la = 3) := by
  have e1 : (x &&& (3 : Int32)).toInt = x.toInt % (2 ^ 2 : Nat) := c_mask x _ 2 (by decide) (by decide)
  refine ⟨_, rfl, ?_⟩
  have k0 : (0 : Int32).toInt = 0 := by decide
  have k1 : (1 : Int32).toInt = 1 := by decide
  have k2 : (2 : Int32).toInt = 2 := by decide
  have k3 : (3 : Int32).toInt = 3 := by decide
  rw [← Int32.toInt_inj, ← Int32.toInt_inj, ← Int32.toInt_inj, ← Int32.toInt_inj, k0, k1, k2, k3]; omega

theorem d20_0 : decode jdk_52_method_15_code 0 = .ok (.iload_n 1, 1) := by decide +kernel
theorem d20_1 : decode jdk_52_method_15_code 1 = .ok (.aload_n 0, 1) := by decide +kernel
theorem d20_2 : decode jdk_52_method_15_code 2 = .ok (.arraylength, 1) := by decide +kernel
theorem d20_3 : decode jdk_52_method_15_code 3 = .ok (.isub, 1) := by decide +kernel
theorem d20_4 : decode jdk_52_method_15_code 4 = .ok (.bipush 31, 2) := by decide +kernel
theorem d20_6 : decode jdk_52_method_15_code 6 = .ok (.iushr, 1) := by decide +kernel
theorem d20_7 : decode jdk_52_method_15_code 7 = .ok (.i2b, 1) := by decide +kernel
theorem d20_8 : decode jdk_52_method_15_code 8 = .ok (.ireturn, 1) := by decide +kernel
theorem ef_20 (m : MethodId) (e0 : Addr) (e1 : Int32) : entryFrame m #[(.ref e0), (.int e1)] 2 = mkF m 0 #[.val (.ref e0), .val (.int e1)] [] := by first | (simp [entryFrame, mkF, argsToLocals, Value.category]; done) | rfl
set_option maxRecDepth 65536 in
set_option maxHeartbeats 40000000 in
theorem rm20 (l : Launch) (Z : State) (a0 : Array Value) (hw : ∀ d ∈ tables_1, d.before a0 Z = true) (ws : List Jvm.Cond) (b1 : Addr) (z1 : Int32) (k1 : ClassId) (vs : List Value) (h0 : Heap) (n0 : Nat) (Z0 : n0 ≤ h0.size) (V1 : Arv Z h0 b1 k1 .byte z1 vs (.int (0 : Int32))) :
    own_Ct l Z (⟨"java/lang/StringUTF16", "coderFromArrayLen", "([BI)B"⟩ : MethodName) jdk_52_method_15_code 2 (some .byte) ws ({ frames := 0, cells := 0, slots := 0, locals := 0 } : Room) #[(.ref b1), (.int z1)] h0 (fun v h L => v = some (.int (0 : Int32)) ∧ L = [] ∧ h = h0) ({ frames := 0, cells := 0, slots := 0, locals := 0 } : Room).cells ({ frames := 0, cells := 0, slots := 0, locals := 0 } : Room).slots := by
  refine own_met (plainFor_of_name pn_java_lang_StringUTF16) (fun p e s m below meth c s₁ X0 hx hby hml hret hlk hnm hown hZ e0 => ?_)
  have hml : c.maxLocals = 2 := hml
  have N0 := Fr.nil n0
  refine own_st (fun _ k => castTop (ef_20 m b1 z1) k) ?_
  show own_Goes p e below (s₁.setTop (mkF m 0 #[.val (.ref b1), .val (.int z1)] [])) _
  refine own_st (fun _ k => XS.iloadN X0.here hx rfl (hb hby d20_0) rfl k) ?_
  show own_Goes p e below (s₁.setTop (mkF m 1 #[.val (.ref b1), .val (.int z1)] [(.int z1)])) _
  refine own_st (fun _ k => XS.aloadN X0.here hx rfl (hb hby d20_1) rfl rfl k) ?_
  show own_Goes p e below (s₁.setTop (mkF m 2 #[.val (.ref b1), .val (.int z1)] [(.ref b1), (.int z1)])) _
  refine own_st (own_len (pc := 2) (Ls := #[.val (.ref b1), .val (.int z1)]) (rest := [(.int z1)]) X0 hx hZ e0 V1 (hb hby d20_2)) ?_
  show own_Goes p e below (s₁.setTop (mkF m 3 #[.val (.ref b1), .val (.int z1)] [(.int z1), (.int z1)])) _
  refine own_st (fun _ k => XS.isub X0.here hx rfl (hb hby d20_3) rfl k) ?_
  show own_Goes p e below (s₁.setTop (mkF m 4 #[.val (.ref b1), .val (.int z1)] [(.int (z1 - z1))])) _
  refine own_st (fun _ k => XS.bipush X0.here hx rfl (hb hby d20_4) k) ?_
  show own_Goes p e below (s₁.setTop (mkF m 6 #[.val (.ref b1), .val (.int z1)] [(.int (31 : Int32)), (.int (z1 - z1))])) _
  refine own_st (fun _ k => XT.iushr X0.here hx rfl (hb hby d20_6) rfl k) ?_
  show own_Goes p e below (s₁.setTop (mkF m 7 #[.val (.ref b1), .val (.int z1)] [(.int (XT.ushr (z1 - z1) (31 : Int32)))])) _
  refine own_st (fun _ k => XT.i2b X0.here hx rfl (hb hby d20_7) rfl k) ?_
  show own_Goes p e below (s₁.setTop (mkF m 8 #[.val (.ref b1), .val (.int z1)] [(.int (XT.ushr (z1 - z1) (31 : Int32)).toInt8.toInt32)])) _
  rw [own_cfl]
  show own_Goes p e below (s₁.setTop (mkF m 8 #[.val (.ref b1), .val (.int z1)] [(.int (0 : Int32))])) _
  exact own_retN (t := .byte) (z' := (0 : Int32)) X0 hx hlk hret (by simp) (by decide) (hb hby d20_8) (by decide) (by decide) e0 ⟨rfl, rfl, rfl⟩
theorem d40_0 : decode jdk_52_method_21_code 0 = .ok (.iconst 0, 1) := by decide +kernel
theorem d40_1 : decode jdk_52_method_21_code 1 = .ok (.istore 5, 2) := by decide +kernel
theorem d40_3 : decode jdk_52_method_21_code 3 = .ok (.iload 5, 2) := by decide +kernel
theorem d40_5 : decode jdk_52_method_21_code 5 = .ok (.iload 4, 2) := by decide +kernel
theorem d40_7 : decode jdk_52_method_21_code 7 = .ok (.if_icmp .ge 37, 3) := by decide +kernel
theorem d40_10 : decode jdk_52_method_21_code 10 = .ok (.aload_n 0, 1) := by decide +kernel
theorem d40_11 : decode jdk_52_method_21_code 11 = .ok (.iload_n 1, 1) := by decide +kernel
theorem d40_12 : decode jdk_52_method_21_code 12 = .ok (.caload, 1) := by decide +kernel
theorem d40_13 : decode jdk_52_method_21_code 13 = .ok (.istore 6, 2) := by decide +kernel
theorem d40_15 : decode jdk_52_method_21_code 15 = .ok (.iload 6, 2) := by decide +kernel
theorem d40_17 : decode jdk_52_method_21_code 17 = .ok (.sipush 255, 3) := by decide +kernel
theorem d40_20 : decode jdk_52_method_21_code 20 = .ok (.if_icmp .le 6, 3) := by decide +kernel
theorem d40_26 : decode jdk_52_method_21_code 26 = .ok (.aload_n 2, 1) := by decide +kernel
theorem d40_27 : decode jdk_52_method_21_code 27 = .ok (.iload_n 3, 1) := by decide +kernel
theorem d40_28 : decode jdk_52_method_21_code 28 = .ok (.iload 6, 2) := by decide +kernel
theorem d40_30 : decode jdk_52_method_21_code 30 = .ok (.i2b, 1) := by decide +kernel
theorem d40_31 : decode jdk_52_method_21_code 31 = .ok (.bastore, 1) := by decide +kernel
theorem d40_32 : decode jdk_52_method_21_code 32 = .ok (.iinc 1 1, 3) := by decide +kernel
theorem d40_35 : decode jdk_52_method_21_code 35 = .ok (.iinc 3 1, 3) := by decide +kernel
theorem d40_38 : decode jdk_52_method_21_code 38 = .ok (.iinc 5 1, 3) := by decide +kernel
theorem d40_41 : decode jdk_52_method_21_code 41 = .ok (.goto (-38), 3) := by decide +kernel
theorem d40_44 : decode jdk_52_method_21_code 44 = .ok (.iload 4, 2) := by decide +kernel
theorem d40_46 : decode jdk_52_method_21_code 46 = .ok (.ireturn, 1) := by decide +kernel
theorem ef_40 (m : MethodId) (e0 : Addr) (e1 : Int32) (e2 : Addr) (e3 : Int32) (e4 : Int32) : entryFrame m #[(.ref e0), (.int e1), (.ref e2), (.int e3), (.int e4)] 7 = mkF m 0 #[.val (.ref e0), .val (.int e1), .val (.ref e2), .val (.int e3), .val (.int e4), .unset, .unset] [] := by first | (simp [entryFrame, mkF, argsToLocals, Value.category]; done) | rfl
set_option maxRecDepth 65536 in
set_option maxHeartbeats 40000000 in
theorem rm40 (l : Launch) (Z : State) (a0 : Array Value) (hw : ∀ d ∈ tables_1, d.before a0 Z = true) (ws : List Jvm.Cond) (a1 b1 : Addr) (ka kb : ClassId) (c0 c1 : Int32) (h0 : Heap) (n0 : Nat) (Z0 : n0 ≤ h0.size) (V1 : Arv Z h0 a1 ka .char (2 : Int32) [(.int c0), (.int c1)] (.int (0 : Int32))) (V2 : Arv Z h0 b1 kb .byte (2 : Int32) [(.int (0 : Int32)), (.int (0 : Int32))] (.int (0 : Int32))) (g1 : n0 ≤ b1) (ne1 : a1 ≠ b1) (hc0 : own_c8 c0) (hc1 : own_c8 c1) :
    own_Ct l Z (⟨"java/lang/StringUTF16", "compress", "([CI[BII)I"⟩ : MethodName) jdk_52_method_21_code 7 (some .int) ws ({ frames := 0, cells := 0, slots := 0, locals := 0 } : Room) #[(.ref a1), (.int (0 : Int32)), (.ref b1), (.int (0 : Int32)), (.int (2 : Int32))] h0 (fun v h L => v = some (.int (2 : Int32)) ∧ Fr n0 L ∧ Keep h0 h [b1] ∧ Arv Z h b1 kb .byte (2 : Int32) [(.int c0.toInt8.toInt32), (.int c1.toInt8.toInt32)] (.int (0 : Int32))) ({ frames := 0, cells := 0, slots := 0, locals := 0 } : Room).cells ({ frames := 0, cells := 0, slots := 0, locals := 0 } : Room).slots := by
  refine own_met (plainFor_of_name pn_java_lang_StringUTF16) (fun p e s m below meth c s₁ X0 hx hby hml hret hlk hnm hown hZ e0 => ?_)
  have hml : c.maxLocals = 7 := hml
  have N0 := Fr.nil n0
  refine own_st (fun _ k => castTop (ef_40 m a1 (0 : Int32) b1 (0 : Int32) (2 : Int32)) k) ?_
  show own_Goes p e below (s₁.setTop (mkF m 0 #[.val (.ref a1), .val (.int (0 : Int32)), .val (.ref b1), .val (.int (0 : Int32)), .val (.int (2 : Int32)), .unset, .unset] [])) _
  refine own_st (fun _ k => XS.iconst X0.here hx rfl (hb hby d40_0) k) ?_
  show own_Goes p e below (s₁.setTop (mkF m 1 #[.val (.ref a1), .val (.int (0 : Int32)), .val (.ref b1), .val (.int (0 : Int32)), .val (.int (2 : Int32)), .unset, .unset] [(.int (0 : Int32))])) _
  refine own_st (fun _ k => XS.istore X0.here hx rfl (hb hby d40_1) rfl (l' := #[.val (.ref a1), .val (.int (0 : Int32)), .val (.ref b1), .val (.int (0 : Int32)), .val (.int (2 : Int32)), .val (.int (0 : Int32)), .unset]) rfl k) ?_
  show own_Goes p e below (s₁.setTop (mkF m 3 #[.val (.ref a1), .val (.int (0 : Int32)), .val (.ref b1), .val (.int (0 : Int32)), .val (.int (2 : Int32)), .val (.int (0 : Int32)), .unset] [])) _
  refine own_st (fun _ k => XS.iload X0.here hx rfl (hb hby d40_3) rfl k) ?_
  show own_Goes p e below (s₁.setTop (mkF m 5 #[.val (.ref a1), .val (.int (0 : Int32)), .val (.ref b1), .val (.int (0 : Int32)), .val (.int (2 : Int32)), .val (.int (0 : Int32)), .unset] [(.int (0 : Int32))])) _
  refine own_st (fun _ k => XS.iload X0.here hx rfl (hb hby d40_5) rfl k) ?_
  show own_Goes p e below (s₁.setTop (mkF m 7 #[.val (.ref a1), .val (.int (0 : Int32)), .val (.ref b1), .val (.int (0 : Int32)), .val (.int (2 : Int32)), .val (.int (0 : Int32)), .unset] [(.int (2 : Int32)), (.int (0 : Int32))])) _
  refine own_st (fun _ k => XS.icmpNo X0.here hx rfl (hb hby d40_7) rfl (tlt (by decide : (0 : Int32) < (2 : Int32))).2.1 k) ?_
  show own_Goes p e below (s₁.setTop (mkF m 10 #[.val (.ref a1), .val (.int (0 : Int32)), .val (.ref b1), .val (.int (0 : Int32)), .val (.int (2 : Int32)), .val (.int (0 : Int32)), .unset] [])) _
  refine own_st (fun _ k => XS.aloadN X0.here hx rfl (hb hby d40_10) rfl rfl k) ?_
  show own_Goes p e below (s₁.setTop (mkF m 11 #[.val (.ref a1), .val (.int (0 : Int32)), .val (.ref b1), .val (.int (0 : Int32)), .val (.int (2 : Int32)), .val (.int (0 : Int32)), .unset] [(.ref a1)])) _
  refine own_st (fun _ k => XS.iloadN X0.here hx rfl (hb hby d40_11) rfl k) ?_
  show own_Goes p e below (s₁.setTop (mkF m 12 #[.val (.ref a1), .val (.int (0 : Int32)), .val (.ref b1), .val (.int (0 : Int32)), .val (.int (2 : Int32)), .val (.int (0 : Int32)), .unset] [(.int (0 : Int32)), (.ref a1)])) _
  refine own_st (own_ldC (v := (.int c0)) (pc := 12) (Ls := #[.val (.ref a1), .val (.int (0 : Int32)), .val (.ref b1), .val (.int (0 : Int32)), .val (.int (2 : Int32)), .val (.int (0 : Int32)), .unset]) (rest := []) (j := (0 : Int32)) X0 hx hZ e0 V1 (by decide) rfl (hb hby d40_12)) ?_
  show own_Goes p e below (s₁.setTop (mkF m 13 #[.val (.ref a1), .val (.int (0 : Int32)), .val (.ref b1), .val (.int (0 : Int32)), .val (.int (2 : Int32)), .val (.int (0 : Int32)), .unset] [(.int c0)])) _
  refine own_st (fun _ k => XS.istore X0.here hx rfl (hb hby d40_13) rfl (l' := #[.val (.ref a1), .val (.int (0 : Int32)), .val (.ref b1), .val (.int (0 : Int32)), .val (.int (2 : Int32)), .val (.int (0 : Int32)), .val (.int c0)]) rfl k) ?_
  show own_Goes p e below (s₁.setTop (mkF m 15 #[.val (.ref a1), .val (.int (0 : Int32)), .val (.ref b1), .val (.int (0 : Int32)), .val (.int (2 : Int32)), .val (.int (0 : Int32)), .val (.int c0)] [])) _
  refine own_st (fun _ k => XS.iload X0.here hx rfl (hb hby d40_15) rfl k) ?_
  show own_Goes p e below (s₁.setTop (mkF m 17 #[.val (.ref a1), .val (.int (0 : Int32)), .val (.ref b1), .val (.int (0 : Int32)), .val (.int (2 : Int32)), .val (.int (0 : Int32)), .val (.int c0)] [(.int c0)])) _
  refine own_st (fun _ k => XS.sipush X0.here hx rfl (hb hby d40_17) k) ?_
  show own_Goes p e below (s₁.setTop (mkF m 20 #[.val (.ref a1), .val (.int (0 : Int32)), .val (.ref b1), .val (.int (0 : Int32)), .val (.int (2 : Int32)), .val (.int (0 : Int32)), .val (.int c0)] [(.int (255 : Int32)), (.int c0)])) _
  refine own_st (fun _ k => XS.icmpYes X0.here hx rfl (pc0 := 20) (pc' := 26) rfl (hb hby d40_20) rfl (flt (own_c8n hc0)).2.2.2 (by decide) (by decide) k) ?_
  show own_Goes p e below (s₁.setTop (mkF m 26 #[.val (.ref a1), .val (.int (0 : Int32)), .val (.ref b1), .val (.int (0 : Int32)), .val (.int (2 : Int32)), .val (.int (0 : Int32)), .val (.int c0)] [])) _
  refine own_st (fun _ k => XS.aloadN X0.here hx rfl (hb hby d40_26) rfl rfl k) ?_
  show own_Goes p e below (s₁.setTop (mkF m 27 #[.val (.ref a1), .val (.int (0 : Int32)), .val (.ref b1), .val (.int (0 : Int32)), .val (.int (2 : Int32)), .val (.int (0 : Int32)), .val (.int c0)] [(.ref b1)])) _
  refine own_st (fun _ k => XS.iloadN X0.here hx rfl (hb hby d40_27) rfl k) ?_
  show own_Goes p e below (s₁.setTop (mkF m 28 #[.val (.ref a1), .val (.int (0 : Int32)), .val (.ref b1), .val (.int (0 : Int32)), .val (.int (2 : Int32)), .val (.int (0 : Int32)), .val (.int c0)] [(.int (0 : Int32)), (.ref b1)])) _
  refine own_st (fun _ k => XS.iload X0.here hx rfl (hb hby d40_28) rfl k) ?_
  show own_Goes p e below (s₁.setTop (mkF m 30 #[.val (.ref a1), .val (.int (0 : Int32)), .val (.ref b1), .val (.int (0 : Int32)), .val (.int (2 : Int32)), .val (.int (0 : Int32)), .val (.int c0)] [(.int c0), (.int (0 : Int32)), (.ref b1)])) _
  refine own_st (fun _ k => XT.i2b X0.here hx rfl (hb hby d40_30) rfl k) ?_
  show own_Goes p e below (s₁.setTop (mkF m 31 #[.val (.ref a1), .val (.int (0 : Int32)), .val (.ref b1), .val (.int (0 : Int32)), .val (.int (2 : Int32)), .val (.int (0 : Int32)), .val (.int c0)] [(.int c0.toInt8.toInt32), (.int (0 : Int32)), (.ref b1)])) _
  obtain ⟨T101, h101, X101, e101, W101, V101, st101⟩ := own_stB (x := c0.toInt8.toInt32) (pc := 31) (Ls := #[.val (.ref a1), .val (.int (0 : Int32)), .val (.ref b1), .val (.int (0 : Int32)), .val (.int (2 : Int32)), .val (.int (0 : Int32)), .val (.int c0)]) (rest := []) (j := (0 : Int32)) X0 hx hZ e0 V2 0 (by decide) (by decide) (Nat.le_of_ble_eq_true rfl) (hb hby d40_31)
  rw [own_b8] at V101
  have V101 : Arv Z h101 b1 kb .byte (2 : Int32) [(.int c0.toInt8.toInt32), (.int (0 : Int32))] (.int (0 : Int32)) := V101
  have N101 := Fr.snoc X101 N0 g1
  refine own_st st101 ?_
  show own_Goes p e below (T101.setTop (mkF m 32 #[.val (.ref a1), .val (.int (0 : Int32)), .val (.ref b1), .val (.int (0 : Int32)), .val (.int (2 : Int32)), .val (.int (0 : Int32)), .val (.int c0)] [])) _
  refine own_st (fun _ k => XS.iinc X101.here hx rfl (hb hby d40_32) rfl (l' := #[.val (.ref a1), .val (.int (1 : Int32)), .val (.ref b1), .val (.int (0 : Int32)), .val (.int (2 : Int32)), .val (.int (0 : Int32)), .val (.int c0)]) rfl k) ?_
  show own_Goes p e below (T101.setTop (mkF m 35 #[.val (.ref a1), .val (.int (1 : Int32)), .val (.ref b1), .val (.int (0 : Int32)), .val (.int (2 : Int32)), .val (.int (0 : Int32)), .val (.int c0)] [])) _
  refine own_st (fun _ k => XS.iinc X101.here hx rfl (hb hby d40_35) rfl (l' := #[.val (.ref a1), .val (.int (1 : Int32)), .val (.ref b1), .val (.int (1 : Int32)), .val (.int (2 : Int32)), .val (.int (0 : Int32)), .val (.int c0)]) rfl k) ?_
  show own_Goes p e below (T101.setTop (mkF m 38 #[.val (.ref a1), .val (.int (1 : Int32)), .val (.ref b1), .val (.int (1 : Int32)), .val (.int (2 : Int32)), .val (.int (0 : Int32)), .val (.int c0)] [])) _
  refine own_st (fun _ k => XS.iinc X101.here hx rfl (hb hby d40_38) rfl (l' := #[.val (.ref a1), .val (.int (1 : Int32)), .val (.ref b1), .val (.int (1 : Int32)), .val (.int (2 : Int32)), .val (.int (1 : Int32)), .val (.int c0)]) rfl k) ?_
  show own_Goes p e below (T101.setTop (mkF m 41 #[.val (.ref a1), .val (.int (1 : Int32)), .val (.ref b1), .val (.int (1 : Int32)), .val (.int (2 : Int32)), .val (.int (1 : Int32)), .val (.int c0)] [])) _
  refine own_st (fun _ k => XS.goto X101.here hx rfl (pc0 := 41) (pc' := 3) rfl (hb hby d40_41) (by decide) (by decide) k) ?_
  show own_Goes p e below (T101.setTop (mkF m 3 #[.val (.ref a1), .val (.int (1 : Int32)), .val (.ref b1), .val (.int (1 : Int32)), .val (.int (2 : Int32)), .val (.int (1 : Int32)), .val (.int c0)] [])) _
  refine own_st (fun _ k => XS.iload X101.here hx rfl (hb hby d40_3) rfl k) ?_
  show own_Goes p e below (T101.setTop (mkF m 5 #[.val (.ref a1), .val (.int (1 : Int32)), .val (.ref b1), .val (.int (1 : Int32)), .val (.int (2 : Int32)), .val (.int (1 : Int32)), .val (.int c0)] [(.int (1 : Int32))])) _
  refine own_st (fun _ k => XS.iload X101.here hx rfl (hb hby d40_5) rfl k) ?_
  show own_Goes p e below (T101.setTop (mkF m 7 #[.val (.ref a1), .val (.int (1 : Int32)), .val (.ref b1), .val (.int (1 : Int32)), .val (.int (2 : Int32)), .val (.int (1 : Int32)), .val (.int c0)] [(.int (2 : Int32)), (.int (1 : Int32))])) _
  refine own_st (fun _ k => XS.icmpNo X101.here hx rfl (hb hby d40_7) rfl (tlt (by decide : (1 : Int32) < (2 : Int32))).2.1 k) ?_
  show own_Goes p e below (T101.setTop (mkF m 10 #[.val (.ref a1), .val (.int (1 : Int32)), .val (.ref b1), .val (.int (1 : Int32)), .val (.int (2 : Int32)), .val (.int (1 : Int32)), .val (.int c0)] [])) _
  refine own_st (fun _ k => XS.aloadN X101.here hx rfl (hb hby d40_10) rfl rfl k) ?_
  show own_Goes p e below (T101.setTop (mkF m 11 #[.val (.ref a1), .val (.int (1 : Int32)), .val (.ref b1), .val (.int (1 : Int32)), .val (.int (2 : Int32)), .val (.int (1 : Int32)), .val (.int c0)] [(.ref a1)])) _
  refine own_st (fun _ k => XS.iloadN X101.here hx rfl (hb hby d40_11) rfl k) ?_
  show own_Goes p e below (T101.setTop (mkF m 12 #[.val (.ref a1), .val (.int (1 : Int32)), .val (.ref b1), .val (.int (1 : Int32)), .val (.int (2 : Int32)), .val (.int (1 : Int32)), .val (.int c0)] [(.int (1 : Int32)), (.ref a1)])) _
  have f102 := (V1.other W101 ne1)
  refine own_st (own_ldC (v := (.int c1)) (pc := 12) (Ls := #[.val (.ref a1), .val (.int (1 : Int32)), .val (.ref b1), .val (.int (1 : Int32)), .val (.int (2 : Int32)), .val (.int (1 : Int32)), .val (.int c0)]) (rest := []) (j := (1 : Int32)) X101 hx hZ e101 f102 (by decide) rfl (hb hby d40_12)) ?_
  show own_Goes p e below (T101.setTop (mkF m 13 #[.val (.ref a1), .val (.int (1 : Int32)), .val (.ref b1), .val (.int (1 : Int32)), .val (.int (2 : Int32)), .val (.int (1 : Int32)), .val (.int c0)] [(.int c1)])) _
  refine own_st (fun _ k => XS.istore X101.here hx rfl (hb hby d40_13) rfl (l' := #[.val (.ref a1), .val (.int (1 : Int32)), .val (.ref b1), .val (.int (1 : Int32)), .val (.int (2 : Int32)), .val (.int (1 : Int32)), .val (.int c1)]) rfl k) ?_
  show own_Goes p e below (T101.setTop (mkF m 15 #[.val (.ref a1), .val (.int (1 : Int32)), .val (.ref b1), .val (.int (1 : Int32)), .val (.int (2 : Int32)), .val (.int (1 : Int32)), .val (.int c1)] [])) _
  refine own_st (fun _ k => XS.iload X101.here hx rfl (hb hby d40_15) rfl k) ?_
  show own_Goes p e below (T101.setTop (mkF m 17 #[.val (.ref a1), .val (.int (1 : Int32)), .val (.ref b1), .val (.int (1 : Int32)), .val (.int (2 : Int32)), .val (.int (1 : Int32)), .val (.int c1)] [(.int c1)])) _
  refine own_st (fun _ k => XS.sipush X101.here hx rfl (hb hby d40_17) k) ?_
  show own_Goes p e below (T101.setTop (mkF m 20 #[.val (.ref a1), .val (.int (1 : Int32)), .val (.ref b1), .val (.int (1 : Int32)), .val (.int (2 : Int32)), .val (.int (1 : Int32)), .val (.int c1)] [(.int (255 : Int32)), (.int c1)])) _
  refine own_st (fun _ k => XS.icmpYes X101.here hx rfl (pc0 := 20) (pc' := 26) rfl (hb hby d40_20) rfl (flt (own_c8n hc1)).2.2.2 (by decide) (by decide) k) ?_
  show own_Goes p e below (T101.setTop (mkF m 26 #[.val (.ref a1), .val (.int (1 : Int32)), .val (.ref b1), .val (.int (1 : Int32)), .val (.int (2 : Int32)), .val (.int (1 : Int32)), .val (.int c1)] [])) _
  refine own_st (fun _ k => XS.aloadN X101.here hx rfl (hb hby d40_26) rfl rfl k) ?_
  show own_Goes p e below (T101.setTop (mkF m 27 #[.val (.ref a1), .val (.int (1 : Int32)), .val (.ref b1), .val (.int (1 : Int32)), .val (.int (2 : Int32)), .val (.int (1 : Int32)), .val (.int c1)] [(.ref b1)])) _
  refine own_st (fun _ k => XS.iloadN X101.here hx rfl (hb hby d40_27) rfl k) ?_
  show own_Goes p e below (T101.setTop (mkF m 28 #[.val (.ref a1), .val (.int (1 : Int32)), .val (.ref b1), .val (.int (1 : Int32)), .val (.int (2 : Int32)), .val (.int (1 : Int32)), .val (.int c1)] [(.int (1 : Int32)), (.ref b1)])) _
  refine own_st (fun _ k => XS.iload X101.here hx rfl (hb hby d40_28) rfl k) ?_
  show own_Goes p e below (T101.setTop (mkF m 30 #[.val (.ref a1), .val (.int (1 : Int32)), .val (.ref b1), .val (.int (1 : Int32)), .val (.int (2 : Int32)), .val (.int (1 : Int32)), .val (.int c1)] [(.int c1), (.int (1 : Int32)), (.ref b1)])) _
  refine own_st (fun _ k => XT.i2b X101.here hx rfl (hb hby d40_30) rfl k) ?_
  show own_Goes p e below (T101.setTop (mkF m 31 #[.val (.ref a1), .val (.int (1 : Int32)), .val (.ref b1), .val (.int (1 : Int32)), .val (.int (2 : Int32)), .val (.int (1 : Int32)), .val (.int c1)] [(.int c1.toInt8.toInt32), (.int (1 : Int32)), (.ref b1)])) _
  obtain ⟨T103, h103, X103, e103, W103, V103, st103⟩ := own_stB (x := c1.toInt8.toInt32) (pc := 31) (Ls := #[.val (.ref a1), .val (.int (1 : Int32)), .val (.ref b1), .val (.int (1 : Int32)), .val (.int (2 : Int32)), .val (.int (1 : Int32)), .val (.int c1)]) (rest := []) (j := (1 : Int32)) X101 hx hZ e101 V101 1 (by decide) (by decide) (Nat.le_of_ble_eq_true rfl) (hb hby d40_31)
  rw [own_b8] at V103
  have V103 : Arv Z h103 b1 kb .byte (2 : Int32) [(.int c0.toInt8.toInt32), (.int c1.toInt8.toInt32)] (.int (0 : Int32)) := V103
  have N103 := Fr.snoc X103 N101 g1
  refine own_st st103 ?_
  show own_Goes p e below (T103.setTop (mkF m 32 #[.val (.ref a1), .val (.int (1 : Int32)), .val (.ref b1), .val (.int (1 : Int32)), .val (.int (2 : Int32)), .val (.int (1 : Int32)), .val (.int c1)] [])) _
  refine own_st (fun _ k => XS.iinc X103.here hx rfl (hb hby d40_32) rfl (l' := #[.val (.ref a1), .val (.int (2 : Int32)), .val (.ref b1), .val (.int (1 : Int32)), .val (.int (2 : Int32)), .val (.int (1 : Int32)), .val (.int c1)]) rfl k) ?_
  show own_Goes p e below (T103.setTop (mkF m 35 #[.val (.ref a1), .val (.int (2 : Int32)), .val (.ref b1), .val (.int (1 : Int32)), .val (.int (2 : Int32)), .val (.int (1 : Int32)), .val (.int c1)] [])) _
  refine own_st (fun _ k => XS.iinc X103.here hx rfl (hb hby d40_35) rfl (l' := #[.val (.ref a1), .val (.int (2 : Int32)), .val (.ref b1), .val (.int (2 : Int32)), .val (.int (2 : Int32)), .val (.int (1 : Int32)), .val (.int c1)]) rfl k) ?_
  show own_Goes p e below (T103.setTop (mkF m 38 #[.val (.ref a1), .val (.int (2 : Int32)), .val (.ref b1), .val (.int (2 : Int32)), .val (.int (2 : Int32)), .val (.int (1 : Int32)), .val (.int c1)] [])) _
  refine own_st (fun _ k => XS.iinc X103.here hx rfl (hb hby d40_38) rfl (l' := #[.val (.ref a1), .val (.int (2 : Int32)), .val (.ref b1), .val (.int (2 : Int32)), .val (.int (2 : Int32)), .val (.int (2 : Int32)), .val (.int c1)]) rfl k) ?_
  show own_Goes p e below (T103.setTop (mkF m 41 #[.val (.ref a1), .val (.int (2 : Int32)), .val (.ref b1), .val (.int (2 : Int32)), .val (.int (2 : Int32)), .val (.int (2 : Int32)), .val (.int c1)] [])) _
  refine own_st (fun _ k => XS.goto X103.here hx rfl (pc0 := 41) (pc' := 3) rfl (hb hby d40_41) (by decide) (by decide) k) ?_
  show own_Goes p e below (T103.setTop (mkF m 3 #[.val (.ref a1), .val (.int (2 : Int32)), .val (.ref b1), .val (.int (2 : Int32)), .val (.int (2 : Int32)), .val (.int (2 : Int32)), .val (.int c1)] [])) _
  refine own_st (fun _ k => XS.iload X103.here hx rfl (hb hby d40_3) rfl k) ?_
  show own_Goes p e below (T103.setTop (mkF m 5 #[.val (.ref a1), .val (.int (2 : Int32)), .val (.ref b1), .val (.int (2 : Int32)), .val (.int (2 : Int32)), .val (.int (2 : Int32)), .val (.int c1)] [(.int (2 : Int32))])) _
  refine own_st (fun _ k => XS.iload X103.here hx rfl (hb hby d40_5) rfl k) ?_
  show own_Goes p e below (T103.setTop (mkF m 7 #[.val (.ref a1), .val (.int (2 : Int32)), .val (.ref b1), .val (.int (2 : Int32)), .val (.int (2 : Int32)), .val (.int (2 : Int32)), .val (.int c1)] [(.int (2 : Int32)), (.int (2 : Int32))])) _
  refine own_st (fun _ k => XS.icmpYes X103.here hx rfl (pc0 := 7) (pc' := 44) rfl (hb hby d40_7) rfl (flt (by decide : ¬ ((2 : Int32) < (2 : Int32)))).2.1 (by decide) (by decide) k) ?_
  show own_Goes p e below (T103.setTop (mkF m 44 #[.val (.ref a1), .val (.int (2 : Int32)), .val (.ref b1), .val (.int (2 : Int32)), .val (.int (2 : Int32)), .val (.int (2 : Int32)), .val (.int c1)] [])) _
  refine own_st (fun _ k => XS.iload X103.here hx rfl (hb hby d40_44) rfl k) ?_
  show own_Goes p e below (T103.setTop (mkF m 46 #[.val (.ref a1), .val (.int (2 : Int32)), .val (.ref b1), .val (.int (2 : Int32)), .val (.int (2 : Int32)), .val (.int (2 : Int32)), .val (.int c1)] [(.int (2 : Int32))])) _
  have f104 := (((Keep.refl h0 [b1]).wr W101 (Or.inl (by simp))).wr W103 (Or.inl (by simp)))
  exact own_retI X103 hx hlk hret (hb hby d40_46) (by decide) (by decide) e103 ⟨rfl, N103, f104, V103⟩
theorem d41_0 : decode jdk_52_method_16_code 0 = .ok (.iload_n 2, 1) := by decide +kernel
theorem d41_1 : decode jdk_52_method_16_code 1 = .ok (.newarray .byte, 2) := by decide +kernel
theorem d41_3 : decode jdk_52_method_16_code 3 = .ok (.astore_n 3, 1) := by decide +kernel
theorem d41_4 : decode jdk_52_method_16_code 4 = .ok (.aload_n 0, 1) := by decide +kernel
theorem d41_5 : decode jdk_52_method_16_code 5 = .ok (.iload_n 1, 1) := by decide +kernel
theorem d41_6 : decode jdk_52_method_16_code 6 = .ok (.aload_n 3, 1) := by decide +kernel
theorem d41_7 : decode jdk_52_method_16_code 7 = .ok (.iconst 0, 1) := by decide +kernel
theorem d41_8 : decode jdk_52_method_16_code 8 = .ok (.iload_n 2, 1) := by decide +kernel
theorem d41_9 : decode jdk_52_method_16_code 9 = .ok (.invokestatic 115, 3) := by decide +kernel
theorem d41_12 : decode jdk_52_method_16_code 12 = .ok (.istore 4, 2) := by decide +kernel
theorem d41_14 : decode jdk_52_method_16_code 14 = .ok (.iload 4, 2) := by decide +kernel
theorem d41_16 : decode jdk_52_method_16_code 16 = .ok (.iload_n 2, 1) := by decide +kernel
theorem d41_17 : decode jdk_52_method_16_code 17 = .ok (.if_icmp .eq 40, 3) := by decide +kernel
theorem d41_57 : decode jdk_52_method_16_code 57 = .ok (.aload_n 3, 1) := by decide +kernel
theorem d41_58 : decode jdk_52_method_16_code 58 = .ok (.areturn, 1) := by decide +kernel
theorem ef_41 (m : MethodId) (e0 : Addr) (e1 : Int32) (e2 : Int32) : entryFrame m #[(.ref e0), (.int e1), (.int e2)] 6 = mkF m 0 #[.val (.ref e0), .val (.int e1), .val (.int e2), .unset, .unset, .unset] [] := by first | (simp [entryFrame, mkF, argsToLocals, Value.category]; done) | rfl
set_option maxRecDepth 65536 in
set_option maxHeartbeats 40000000 in
theorem rm41 (l : Launch) (Z : State) (a0 : Array Value) (hw : ∀ d ∈ tables_1, d.before a0 Z = true) (ws : List Jvm.Cond) (a1 : Addr) (ka : ClassId) (c0 c1 : Int32) (h0 : Heap) (n0 : Nat) (Z0 : n0 ≤ h0.size) (V1 : Arv Z h0 a1 ka .char (2 : Int32) [(.int c0), (.int c1)] (.int (0 : Int32))) (hc0 : own_c8 c0) (hc1 : own_c8 c1) :
    own_Ct l Z (⟨"java/lang/StringUTF16", "compress", "([CII)[B"⟩ : MethodName) jdk_52_method_16_code 6 (some (.array .byte)) ws ({ frames := 1, cells := 1, slots := 2, locals := 18 } : Room) #[(.ref a1), (.int (0 : Int32)), (.int (2 : Int32))] h0 (fun v h L => ∃ (b : Addr) (kb : ClassId), v = some (.ref b) ∧ n0 ≤ b ∧ h0.size ≤ b ∧ Fr n0 L ∧ Keep h0 h [] ∧ Arv Z h b kb .byte (2 : Int32) [(.int c0.toInt8.toInt32), (.int c1.toInt8.toInt32)] (.int (0 : Int32))) ({ frames := 1, cells := 1, slots := 2, locals := 18 } : Room).cells ({ frames := 1, cells := 1, slots := 2, locals := 18 } : Room).slots := by
  refine own_met (plainFor_of_name pn_java_lang_StringUTF16) (fun p e s m below meth c s₁ X0 hx hby hml hret hlk hnm hown hZ e0 => ?_)
  have hml : c.maxLocals = 6 := hml
  have N0 := Fr.nil n0
  refine own_st (fun _ k => castTop (ef_41 m a1 (0 : Int32) (2 : Int32)) k) ?_
  show own_Goes p e below (s₁.setTop (mkF m 0 #[.val (.ref a1), .val (.int (0 : Int32)), .val (.int (2 : Int32)), .unset, .unset, .unset] [])) _
  refine own_st (fun _ k => XS.iloadN X0.here hx rfl (hb hby d41_0) rfl k) ?_
  show own_Goes p e below (s₁.setTop (mkF m 1 #[.val (.ref a1), .val (.int (0 : Int32)), .val (.int (2 : Int32)), .unset, .unset, .unset] [(.int (2 : Int32))])) _
  obtain ⟨T101, h101, k101, X101, e101, E101, A101, st101⟩ := newP X0 hx hZ (hw _ (List.mem_of_getElem? (i := 14) rfl)) e0 (g := (mkF m 1 #[.val (.ref a1), .val (.int (0 : Int32)), .val (.int (2 : Int32)), .unset, .unset, .unset] [(.int (2 : Int32))])) rfl (hb hby d41_1) rfl (by decide) (cap := 2) (by decide) (by decide) (by decide) (by decide)
  obtain ⟨b101, g101⟩ : ∃ z, z = h0.size := ⟨_, rfl⟩
  rw [← g101] at A101 st101
  have g_b101 : n0 ≤ b101 := Nat.le_trans Z0 (Nat.le_of_eq g101.symm)
  have sz_b101 : h0.size ≤ b101 := Nat.le_trans (Keep.refl h0 []).1 (Nat.le_of_eq g101.symm)
  have ne_a1_b101 : a1 ≠ b101 := by rw [g101]; exact Nat.ne_of_lt (V1).lt
  have V_b101 : Arv Z h101 b101 k101 .byte (2 : Int32) [(.int (0 : Int32)), (.int (0 : Int32))] (.int (0 : Int32)) := Arv.pad (Arv.new A101 (by decide)) (pad_rep [] _ 2)
  refine own_st st101 ?_
  show own_Goes p e below (T101.setTop (mkF m 3 #[.val (.ref a1), .val (.int (0 : Int32)), .val (.int (2 : Int32)), .unset, .unset, .unset] [(.ref b101)])) _
  refine own_st (fun _ k => XS.astoreN X101.here hx rfl (hb hby d41_3) rfl rfl (l' := #[.val (.ref a1), .val (.int (0 : Int32)), .val (.int (2 : Int32)), .val (.ref b101), .unset, .unset]) rfl k) ?_
  show own_Goes p e below (T101.setTop (mkF m 4 #[.val (.ref a1), .val (.int (0 : Int32)), .val (.int (2 : Int32)), .val (.ref b101), .unset, .unset] [])) _
  refine own_st (fun _ k => XS.aloadN X101.here hx rfl (hb hby d41_4) rfl rfl k) ?_
  show own_Goes p e below (T101.setTop (mkF m 5 #[.val (.ref a1), .val (.int (0 : Int32)), .val (.int (2 : Int32)), .val (.ref b101), .unset, .unset] [(.ref a1)])) _
  refine own_st (fun _ k => XS.iloadN X101.here hx rfl (hb hby d41_5) rfl k) ?_
  show own_Goes p e below (T101.setTop (mkF m 6 #[.val (.ref a1), .val (.int (0 : Int32)), .val (.int (2 : Int32)), .val (.ref b101), .unset, .unset] [(.int (0 : Int32)), (.ref a1)])) _
  refine own_st (fun _ k => XS.aloadN X101.here hx rfl (hb hby d41_6) rfl rfl k) ?_
  show own_Goes p e below (T101.setTop (mkF m 7 #[.val (.ref a1), .val (.int (0 : Int32)), .val (.int (2 : Int32)), .val (.ref b101), .unset, .unset] [(.ref b101), (.int (0 : Int32)), (.ref a1)])) _
  refine own_st (fun _ k => XS.iconst X101.here hx rfl (hb hby d41_7) k) ?_
  show own_Goes p e below (T101.setTop (mkF m 8 #[.val (.ref a1), .val (.int (0 : Int32)), .val (.int (2 : Int32)), .val (.ref b101), .unset, .unset] [(.int (0 : Int32)), (.ref b101), (.int (0 : Int32)), (.ref a1)])) _
  refine own_st (fun _ k => XS.iloadN X101.here hx rfl (hb hby d41_8) rfl k) ?_
  show own_Goes p e below (T101.setTop (mkF m 9 #[.val (.ref a1), .val (.int (0 : Int32)), .val (.int (2 : Int32)), .val (.ref b101), .unset, .unset] [(.int (2 : Int32)), (.int (0 : Int32)), (.ref b101), (.int (0 : Int32)), (.ref a1)])) _
  have f103 := (Nat.le_trans Z0 E101.1)
  have f104 := (V1.ext E101)
  obtain ⟨_, T102, h102, L102, X102, e102, ⟨rfl, N102q, K102, V102⟩, st102⟩ := own_callS (argsL := [(.ref a1), (.int (0 : Int32)), (.ref b101), (.int (0 : Int32)), (.int (2 : Int32))]) (rest := []) (pc := 9) (W := 0) (Ls := #[.val (.ref a1), .val (.int (0 : Int32)), .val (.int (2 : Int32)), .val (.ref b101), .unset, .unset]) (S := [(.int (2 : Int32)), (.int (0 : Int32)), (.ref b101), (.int (0 : Int32)), (.ref a1)]) X101 hx hZ hown (hw _ (List.mem_of_getElem? (i := 90) rfl)) (hw _ (List.mem_of_getElem? (i := 91) rfl)) (hw _ (List.mem_of_getElem? (i := 88) rfl)) (hw _ (List.mem_of_getElem? (i := 92) rfl)) (by decide) (rm40 l Z a0 hw [] a1 b101 ka k101 c0 c1 h101 n0 f103 f104 V_b101 g_b101 ne_a1_b101 hc0 hc1) (by decide) (by decide) e101 (by rw [hml]; rfl) (lenOf pd___CI_BII_I rfl) rfl (Nat.le_of_eq rfl) (hb hby d41_9) (by decide) (by decide)
  refine own_st st102 ?_
  have N102 := Fr.app N0 N102q
  show own_Goes p e below (T102.setTop (mkF m 12 #[.val (.ref a1), .val (.int (0 : Int32)), .val (.int (2 : Int32)), .val (.ref b101), .unset, .unset] [(.int (2 : Int32))])) _
  refine own_st (fun _ k => XS.istore X102.here hx rfl (hb hby d41_12) rfl (l' := #[.val (.ref a1), .val (.int (0 : Int32)), .val (.int (2 : Int32)), .val (.ref b101), .val (.int (2 : Int32)), .unset]) rfl k) ?_
  show own_Goes p e below (T102.setTop (mkF m 14 #[.val (.ref a1), .val (.int (0 : Int32)), .val (.int (2 : Int32)), .val (.ref b101), .val (.int (2 : Int32)), .unset] [])) _
  refine own_st (fun _ k => XS.iload X102.here hx rfl (hb hby d41_14) rfl k) ?_
  show own_Goes p e below (T102.setTop (mkF m 16 #[.val (.ref a1), .val (.int (0 : Int32)), .val (.int (2 : Int32)), .val (.ref b101), .val (.int (2 : Int32)), .unset] [(.int (2 : Int32))])) _
  refine own_st (fun _ k => XS.iloadN X102.here hx rfl (hb hby d41_16) rfl k) ?_
  show own_Goes p e below (T102.setTop (mkF m 17 #[.val (.ref a1), .val (.int (0 : Int32)), .val (.int (2 : Int32)), .val (.ref b101), .val (.int (2 : Int32)), .unset] [(.int (2 : Int32)), (.int (2 : Int32))])) _
  refine own_st (fun _ k => XS.icmpYes X102.here hx rfl (pc0 := 17) (pc' := 57) rfl (hb hby d41_17) rfl (teq (by decide : (2 : Int32) = (2 : Int32))).1 (by decide) (by decide) k) ?_
  show own_Goes p e below (T102.setTop (mkF m 57 #[.val (.ref a1), .val (.int (0 : Int32)), .val (.int (2 : Int32)), .val (.ref b101), .val (.int (2 : Int32)), .unset] [])) _
  refine own_st (fun _ k => XS.aloadN X102.here hx rfl (hb hby d41_57) rfl rfl k) ?_
  show own_Goes p e below (T102.setTop (mkF m 58 #[.val (.ref a1), .val (.int (0 : Int32)), .val (.int (2 : Int32)), .val (.ref b101), .val (.int (2 : Int32)), .unset] [(.ref b101)])) _
  have f105 := (((Keep.refl h0 []).ext E101).trans K102 (allS (Or.inr sz_b101) all0))
  exact own_retA X102 hx hlk hret rfl rfl rfl (hb hby d41_58) (by decide) (by decide) e102 ⟨b101, k101, rfl, g_b101, sz_b101, N102, f105, V102⟩
theorem d42_0 : decode jdk_42_method_149_code 0 = .ok (.aload_n 0, 1) := by decide +kernel
theorem d42_1 : decode jdk_42_method_149_code 1 = .ok (.invokespecial 1, 3) := by decide +kernel
theorem d42_4 : decode jdk_42_method_149_code 4 = .ok (.iload_n 3, 1) := by decide +kernel
theorem d42_5 : decode jdk_42_method_149_code 5 = .ok (.ifCond .ne 22, 3) := by decide +kernel
theorem d42_27 : decode jdk_42_method_149_code 27 = .ok (.getstatic 38, 3) := by decide +kernel
theorem d42_30 : decode jdk_42_method_149_code 30 = .ok (.ifCond .eq 28, 3) := by decide +kernel
theorem d42_33 : decode jdk_42_method_149_code 33 = .ok (.aload_n 1, 1) := by decide +kernel
theorem d42_34 : decode jdk_42_method_149_code 34 = .ok (.iload_n 2, 1) := by decide +kernel
theorem d42_35 : decode jdk_42_method_149_code 35 = .ok (.iload_n 3, 1) := by decide +kernel
theorem d42_36 : decode jdk_42_method_149_code 36 = .ok (.invokestatic 177, 3) := by decide +kernel
theorem d42_39 : decode jdk_42_method_149_code 39 = .ok (.astore 5, 2) := by decide +kernel
theorem d42_41 : decode jdk_42_method_149_code 41 = .ok (.aload_n 0, 1) := by decide +kernel
theorem d42_42 : decode jdk_42_method_149_code 42 = .ok (.aload 5, 2) := by decide +kernel
theorem d42_44 : decode jdk_42_method_149_code 44 = .ok (.iload_n 3, 1) := by decide +kernel
theorem d42_45 : decode jdk_42_method_149_code 45 = .ok (.invokestatic 47, 3) := by decide +kernel
theorem d42_48 : decode jdk_42_method_149_code 48 = .ok (.putfield 15, 3) := by decide +kernel
theorem d42_51 : decode jdk_42_method_149_code 51 = .ok (.aload_n 0, 1) := by decide +kernel
theorem d42_52 : decode jdk_42_method_149_code 52 = .ok (.aload 5, 2) := by decide +kernel
theorem d42_54 : decode jdk_42_method_149_code 54 = .ok (.putfield 9, 3) := by decide +kernel
theorem d42_57 : decode jdk_42_method_149_code 57 = .ok (.return_, 1) := by decide +kernel
theorem ef_42 (m : MethodId) (e0 : Addr) (e1 : Addr) (e2 : Int32) (e3 : Int32) : entryFrame m #[(.ref e0), (.ref e1), (.int e2), (.int e3), .null] 6 = mkF m 0 #[.val (.ref e0), .val (.ref e1), .val (.int e2), .val (.int e3), .val .null, .unset] [] := by first | (simp [entryFrame, mkF, argsToLocals, Value.category]; done) | rfl
set_option maxRecDepth 65536 in
set_option maxHeartbeats 40000000 in
theorem rm42 (l : Launch) (Z : State) (a0 : Array Value) (hw : ∀ d ∈ tables_1, d.before a0 Z = true) (ws : List Jvm.Cond) (x1 a1 : Addr) (ka : ClassId) (cs : Int32) (c0 c1 : Int32) (h0 : Heap) (n0 : Nat) (Z0 : n0 ≤ h0.size) (F1 : Fld Z h0 x1 "java/lang/String" "value" "[B" .null) (F2 : Fld Z h0 x1 "java/lang/String" "coder" "B" (.int (0 : Int32))) (E1 : Exa Z h0 x1 "java/lang/String") (V1 : Arv Z h0 a1 ka .char (2 : Int32) [(.int c0), (.int c1)] (.int (0 : Int32))) (g1 : n0 ≤ x1) (ne1 : a1 ≠ x1) (C1 : Sta Z h0 "java/lang/String" "COMPACT_STRINGS" "Z" (.int cs)) (hcs : ¬ cs = (0 : Int32)) (hc0 : own_c8 c0) (hc1 : own_c8 c1) :
    own_Ct l Z (⟨"java/lang/String", "<init>", "([CIILjava/lang/Void;)V"⟩ : MethodName) jdk_42_method_149_code 6 none ws ({ frames := 2, cells := 1, slots := 2, locals := 36 } : Room) #[(.ref x1), (.ref a1), (.int (0 : Int32)), (.int (2 : Int32)), .null] h0 (fun v h L => v = none ∧ Fr n0 L ∧ Keep h0 h [x1] ∧ ∃ (b : Addr) (kb : ClassId), n0 ≤ b ∧ h0.size ≤ b ∧ own_Str Z h x1 b kb (2 : Int32) [(.int c0.toInt8.toInt32), (.int c1.toInt8.toInt32)]) ({ frames := 2, cells := 1, slots := 2, locals := 36 } : Room).cells ({ frames := 2, cells := 1, slots := 2, locals := 36 } : Room).slots := by
  refine own_met (plainFor_of_name pn_java_lang_String) (fun p e s m below meth c s₁ X0 hx hby hml hret hlk hnm hown hZ e0 => ?_)
  have hml : c.maxLocals = 6 := hml
  have N0 := Fr.nil n0
  refine own_st (fun _ k => castTop (ef_42 m x1 a1 (0 : Int32) (2 : Int32)) k) ?_
  show own_Goes p e below (s₁.setTop (mkF m 0 #[.val (.ref x1), .val (.ref a1), .val (.int (0 : Int32)), .val (.int (2 : Int32)), .val .null, .unset] [])) _
  refine own_st (fun _ k => XS.aloadN X0.here hx rfl (hb hby d42_0) rfl rfl k) ?_
  show own_Goes p e below (s₁.setTop (mkF m 1 #[.val (.ref x1), .val (.ref a1), .val (.int (0 : Int32)), .val (.int (2 : Int32)), .val .null, .unset] [(.ref x1)])) _
  obtain ⟨T101, X101, e101, st101⟩ := initO X0 hx hZ hown (hw _ (List.mem_of_getElem? (i := 19) rfl)) (hw _ (List.mem_of_getElem? (i := 20) rfl)) (hw _ (List.mem_of_getElem? (i := 21) rfl)) e0 (g := (mkF m 1 #[.val (.ref x1), .val (.ref a1), .val (.int (0 : Int32)), .val (.int (2 : Int32)), .val .null, .unset] [(.ref x1)])) rfl (by rw [hml]; rfl) rfl (hb hby d42_1) (by decide) (W := 0) (by show 2 * 0 + _ ≤ _; exact Nat.le_of_eq rfl) (by decide)
  refine own_st st101 ?_
  show own_Goes p e below (T101.setTop (mkF m 4 #[.val (.ref x1), .val (.ref a1), .val (.int (0 : Int32)), .val (.int (2 : Int32)), .val .null, .unset] [])) _
  refine own_st (fun _ k => XS.iloadN X101.here hx rfl (hb hby d42_4) rfl k) ?_
  show own_Goes p e below (T101.setTop (mkF m 5 #[.val (.ref x1), .val (.ref a1), .val (.int (0 : Int32)), .val (.int (2 : Int32)), .val .null, .unset] [(.int (2 : Int32))])) _
  refine own_st (fun _ k => XS.ifYes X101.here hx rfl (pc0 := 5) (pc' := 27) rfl (hb hby d42_5) rfl ((if0 _ _).trans (feq (by decide : ¬ ((2 : Int32) = (0 : Int32)))).2) (by decide) (by decide) k) ?_
  show own_Goes p e below (T101.setTop (mkF m 27 #[.val (.ref x1), .val (.ref a1), .val (.int (0 : Int32)), .val (.int (2 : Int32)), .val .null, .unset] [])) _
  obtain ⟨T102, X102, e102, st102⟩ := getS2 X101 hx hZ hown (host := "") (Or.inl (hw _ (List.mem_of_getElem? (i := 4) rfl))) Via.refl e101 C1 (g := (mkF m 27 #[.val (.ref x1), .val (.ref a1), .val (.int (0 : Int32)), .val (.int (2 : Int32)), .val .null, .unset] [])) rfl (hb hby d42_27)
  refine own_st st102 ?_
  show own_Goes p e below (T102.setTop (mkF m 30 #[.val (.ref x1), .val (.ref a1), .val (.int (0 : Int32)), .val (.int (2 : Int32)), .val .null, .unset] [(.int cs)])) _
  refine own_st (fun _ k => XS.ifNo X102.here hx rfl (hb hby d42_30) rfl ((if0 _ _).trans (feq hcs).1) k) ?_
  show own_Goes p e below (T102.setTop (mkF m 33 #[.val (.ref x1), .val (.ref a1), .val (.int (0 : Int32)), .val (.int (2 : Int32)), .val .null, .unset] [])) _
  refine own_st (fun _ k => XS.aloadN X102.here hx rfl (hb hby d42_33) rfl rfl k) ?_
  show own_Goes p e below (T102.setTop (mkF m 34 #[.val (.ref x1), .val (.ref a1), .val (.int (0 : Int32)), .val (.int (2 : Int32)), .val .null, .unset] [(.ref a1)])) _
  refine own_st (fun _ k => XS.iloadN X102.here hx rfl (hb hby d42_34) rfl k) ?_
  show own_Goes p e below (T102.setTop (mkF m 35 #[.val (.ref x1), .val (.ref a1), .val (.int (0 : Int32)), .val (.int (2 : Int32)), .val .null, .unset] [(.int (0 : Int32)), (.ref a1)])) _
  refine own_st (fun _ k => XS.iloadN X102.here hx rfl (hb hby d42_35) rfl k) ?_
  show own_Goes p e below (T102.setTop (mkF m 36 #[.val (.ref x1), .val (.ref a1), .val (.int (0 : Int32)), .val (.int (2 : Int32)), .val .null, .unset] [(.int (2 : Int32)), (.int (0 : Int32)), (.ref a1)])) _
  obtain ⟨_, T103, h103, L103, X103, e103, ⟨b103, k103, rfl, g103, s103, N103q, K103, V103⟩, st103⟩ := own_callS (argsL := [(.ref a1), (.int (0 : Int32)), (.int (2 : Int32))]) (rest := []) (pc := 36) (W := 0) (Ls := #[.val (.ref x1), .val (.ref a1), .val (.int (0 : Int32)), .val (.int (2 : Int32)), .val .null, .unset]) (S := [(.int (2 : Int32)), (.int (0 : Int32)), (.ref a1)]) X102 hx hZ hown (hw _ (List.mem_of_getElem? (i := 86) rfl)) (hw _ (List.mem_of_getElem? (i := 87) rfl)) (hw _ (List.mem_of_getElem? (i := 88) rfl)) (hw _ (List.mem_of_getElem? (i := 89) rfl)) (by decide) (rm41 l Z a0 hw [] a1 ka c0 c1 h0 n0 Z0 V1 hc0 hc1) (by decide) (by decide) e102 (by rw [hml]; rfl) (lenOf pd___CII__B rfl) rfl (Nat.le_of_eq rfl) (hb hby d42_36) (by decide) (by decide)
  refine own_st st103 ?_
  have N103 := Fr.app N0 N103q
  have ne103 : x1 ≠ b103 := fun q => Nat.lt_irrefl _ (Nat.lt_of_lt_of_le (q ▸ E1.lt) s103)
  show own_Goes p e below (T103.setTop (mkF m 39 #[.val (.ref x1), .val (.ref a1), .val (.int (0 : Int32)), .val (.int (2 : Int32)), .val .null, .unset] [(.ref b103)])) _
  refine own_st (fun _ k => XS.astore X103.here hx rfl (hb hby d42_39) rfl rfl (l' := #[.val (.ref x1), .val (.ref a1), .val (.int (0 : Int32)), .val (.int (2 : Int32)), .val .null, .val (.ref b103)]) rfl k) ?_
  show own_Goes p e below (T103.setTop (mkF m 41 #[.val (.ref x1), .val (.ref a1), .val (.int (0 : Int32)), .val (.int (2 : Int32)), .val .null, .val (.ref b103)] [])) _
  refine own_st (fun _ k => XS.aloadN X103.here hx rfl (hb hby d42_41) rfl rfl k) ?_
  show own_Goes p e below (T103.setTop (mkF m 42 #[.val (.ref x1), .val (.ref a1), .val (.int (0 : Int32)), .val (.int (2 : Int32)), .val .null, .val (.ref b103)] [(.ref x1)])) _
  refine own_st (fun _ k => XS.aload X103.here hx rfl (hb hby d42_42) rfl rfl k) ?_
  show own_Goes p e below (T103.setTop (mkF m 44 #[.val (.ref x1), .val (.ref a1), .val (.int (0 : Int32)), .val (.int (2 : Int32)), .val .null, .val (.ref b103)] [(.ref b103), (.ref x1)])) _
  refine own_st (fun _ k => XS.iloadN X103.here hx rfl (hb hby d42_44) rfl k) ?_
  show own_Goes p e below (T103.setTop (mkF m 45 #[.val (.ref x1), .val (.ref a1), .val (.int (0 : Int32)), .val (.int (2 : Int32)), .val .null, .val (.ref b103)] [(.int (2 : Int32)), (.ref b103), (.ref x1)])) _
  have f105 := (Nat.le_trans Z0 K103.1)
  obtain ⟨_, T104, h104, L104, X104, e104, ⟨rfl, rfl, q104⟩, st104⟩ := own_callS (argsL := [(.ref b103), (.int (2 : Int32))]) (rest := [(.ref x1)]) (pc := 45) (W := 1) (Ls := #[.val (.ref x1), .val (.ref a1), .val (.int (0 : Int32)), .val (.int (2 : Int32)), .val .null, .val (.ref b103)]) (S := [(.int (2 : Int32)), (.ref b103), (.ref x1)]) X103 hx hZ hown (hw _ (List.mem_of_getElem? (i := 93) rfl)) (hw _ (List.mem_of_getElem? (i := 94) rfl)) (hw _ (List.mem_of_getElem? (i := 88) rfl)) (hw _ (List.mem_of_getElem? (i := 95) rfl)) (by decide) (rm20 l Z a0 hw [] b103 (2 : Int32) k103 _ h103 n0 f105 V103) (by decide) (by decide) e103 (by rw [hml]; rfl) (lenOf pd___BI_B rfl) rfl (Nat.le_of_eq rfl) (hb hby d42_45) (by decide) (by decide)
  refine own_st st104 ?_
  have N104 := Fr.app N103 (Fr.nil n0)
  show own_Goes p e below (T104.setTop (mkF m 48 #[.val (.ref x1), .val (.ref a1), .val (.int (0 : Int32)), .val (.int (2 : Int32)), .val .null, .val (.ref b103)] [(.int (0 : Int32)), (.ref x1)])) _
  have f106 := (F2.keep K103 nin0)
  have f107 := (E1.keep K103)
  obtain ⟨T108, h108, X108, e108, W108, st108⟩ := putFN X104 hx hZ hown (hw _ (List.mem_of_getElem? (i := 24) rfl)) Via.refl (e104.trans q104) f106 f107 (Or.inr ⟨(hw _ (List.mem_of_getElem? (i := 25) rfl)), rfl, hnm⟩) (hw _ (List.mem_of_getElem? (i := 10) rfl)) (ty := .byte) (v' := (.int (0 : Int32))) (by decide) rfl (by decide) (g := (mkF m 48 #[.val (.ref x1), .val (.ref a1), .val (.int (0 : Int32)), .val (.int (2 : Int32)), .val .null, .val (.ref b103)] [(.int (0 : Int32)), (.ref x1)])) rfl rfl (hb hby d42_48)
  have Fw108 := f106.same W108
  have N108 := Fr.snoc X108 N104 g1
  refine own_st st108 ?_
  show own_Goes p e below (T108.setTop (mkF m 51 #[.val (.ref x1), .val (.ref a1), .val (.int (0 : Int32)), .val (.int (2 : Int32)), .val .null, .val (.ref b103)] [])) _
  refine own_st (fun _ k => XS.aloadN X108.here hx rfl (hb hby d42_51) rfl rfl k) ?_
  show own_Goes p e below (T108.setTop (mkF m 52 #[.val (.ref x1), .val (.ref a1), .val (.int (0 : Int32)), .val (.int (2 : Int32)), .val .null, .val (.ref b103)] [(.ref x1)])) _
  refine own_st (fun _ k => XS.aload X108.here hx rfl (hb hby d42_52) rfl rfl k) ?_
  show own_Goes p e below (T108.setTop (mkF m 54 #[.val (.ref x1), .val (.ref a1), .val (.int (0 : Int32)), .val (.int (2 : Int32)), .val .null, .val (.ref b103)] [(.ref b103), (.ref x1)])) _
  have f109 := ((F1.keep K103 nin0).other W108 (Or.inr (slot_ne (t := (.array .byte)) (t' := .byte) (Or.inr (hw _ (List.mem_of_getElem? (i := 23) rfl))) (Or.inr (hw _ (List.mem_of_getElem? (i := 25) rfl))) (by decide) (by decide) (by decide))))
  have f110 := (f107.wr W108)
  obtain ⟨T111, h111, X111, e111, W111, st111⟩ := putF X108 hx hZ hown (host := "") (Or.inl (hw _ (List.mem_of_getElem? (i := 22) rfl))) Via.refl e108 f109 f110 (Or.inr ⟨(hw _ (List.mem_of_getElem? (i := 23) rfl)), rfl, hnm⟩) (hw _ (List.mem_of_getElem? (i := 10) rfl)) (ty := (.array .byte)) (by decide) rfl rfl (g := (mkF m 54 #[.val (.ref x1), .val (.ref a1), .val (.int (0 : Int32)), .val (.int (2 : Int32)), .val .null, .val (.ref b103)] [(.ref b103), (.ref x1)])) rfl rfl (hb hby d42_54)
  have Fw111 := f109.same W111
  have N111 := Fr.snoc X111 N108 g1
  refine own_st st111 ?_
  show own_Goes p e below (T111.setTop (mkF m 57 #[.val (.ref x1), .val (.ref a1), .val (.int (0 : Int32)), .val (.int (2 : Int32)), .val .null, .val (.ref b103)] [])) _
  have f112 := ((((Keep.refl h0 [x1]).trans K103 all0).wr W108 (Or.inl (by simp))).wr W111 (Or.inl (by simp)))
  have f113 := (f110.wr W111)
  have f114 := (Fw108.other W111 (Or.inr (slot_ne (t := .byte) (t' := (.array .byte)) (Or.inr (hw _ (List.mem_of_getElem? (i := 25) rfl))) (Or.inr (hw _ (List.mem_of_getElem? (i := 23) rfl))) (by decide) (by decide) (by decide))))
  have f115 := ((V103.other W108 (Ne.symm ne103)).other W111 (Ne.symm ne103))
  exact own_retV X111 hx hlk hret (hb hby d42_57) (by decide) (by decide) e111 ⟨rfl, N111, f112, b103, k103, g103, s103, f113, Fw111, f114, f115⟩
theorem d43_0 : decode jdk_42_method_3_code 0 = .ok (.aload_n 0, 1) := by decide +kernel
theorem d43_1 : decode jdk_42_method_3_code 1 = .ok (.aload_n 1, 1) := by decide +kernel
theorem d43_2 : decode jdk_42_method_3_code 2 = .ok (.iconst 0, 1) := by decide +kernel
theorem d43_3 : decode jdk_42_method_3_code 3 = .ok (.aload_n 1, 1) := by decide +kernel
theorem d43_4 : decode jdk_42_method_3_code 4 = .ok (.arraylength, 1) := by decide +kernel
theorem d43_5 : decode jdk_42_method_3_code 5 = .ok (.aconst_null, 1) := by decide +kernel
theorem d43_6 : decode jdk_42_method_3_code 6 = .ok (.invokespecial 27, 3) := by decide +kernel
theorem d43_9 : decode jdk_42_method_3_code 9 = .ok (.return_, 1) := by decide +kernel
theorem ef_43 (m : MethodId) (e0 : Addr) (e1 : Addr) : entryFrame m #[(.ref e0), (.ref e1)] 2 = mkF m 0 #[.val (.ref e0), .val (.ref e1)] [] := by first | (simp [entryFrame, mkF, argsToLocals, Value.category]; done) | rfl
set_option maxRecDepth 65536 in
set_option maxHeartbeats 40000000 in
theorem rm43 (l : Launch) (Z : State) (a0 : Array Value) (hw : ∀ d ∈ tables_1, d.before a0 Z = true) (ws : List Jvm.Cond) (x1 a1 : Addr) (ka : ClassId) (cs : Int32) (c0 c1 : Int32) (h0 : Heap) (n0 : Nat) (Z0 : n0 ≤ h0.size) (F1 : Fld Z h0 x1 "java/lang/String" "value" "[B" .null) (F2 : Fld Z h0 x1 "java/lang/String" "coder" "B" (.int (0 : Int32))) (E1 : Exa Z h0 x1 "java/lang/String") (V1 : Arv Z h0 a1 ka .char (2 : Int32) [(.int c0), (.int c1)] (.int (0 : Int32))) (g1 : n0 ≤ x1) (ne1 : a1 ≠ x1) (C1 : Sta Z h0 "java/lang/String" "COMPACT_STRINGS" "Z" (.int cs)) (hcs : ¬ cs = (0 : Int32)) (hc0 : own_c8 c0) (hc1 : own_c8 c1) :
    own_Ct l Z (⟨"java/lang/String", "<init>", "([C)V"⟩ : MethodName) jdk_42_method_3_code 2 none ws ({ frames := 3, cells := 1, slots := 2, locals := 60 } : Room) #[(.ref x1), (.ref a1)] h0 (fun v h L => v = none ∧ Fr n0 L ∧ Keep h0 h [x1] ∧ ∃ (b : Addr) (kb : ClassId), n0 ≤ b ∧ h0.size ≤ b ∧ own_Str Z h x1 b kb (2 : Int32) [(.int c0.toInt8.toInt32), (.int c1.toInt8.toInt32)]) ({ frames := 3, cells := 1, slots := 2, locals := 60 } : Room).cells ({ frames := 3, cells := 1, slots := 2, locals := 60 } : Room).slots := by
  refine own_met (plainFor_of_name pn_java_lang_String) (fun p e s m below meth c s₁ X0 hx hby hml hret hlk hnm hown hZ e0 => ?_)
  have hml : c.maxLocals = 2 := hml
  have N0 := Fr.nil n0
  refine own_st (fun _ k => castTop (ef_43 m x1 a1) k) ?_
  show own_Goes p e below (s₁.setTop (mkF m 0 #[.val (.ref x1), .val (.ref a1)] [])) _
  refine own_st (fun _ k => XS.aloadN X0.here hx rfl (hb hby d43_0) rfl rfl k) ?_
  show own_Goes p e below (s₁.setTop (mkF m 1 #[.val (.ref x1), .val (.ref a1)] [(.ref x1)])) _
  refine own_st (fun _ k => XS.aloadN X0.here hx rfl (hb hby d43_1) rfl rfl k) ?_
  show own_Goes p e below (s₁.setTop (mkF m 2 #[.val (.ref x1), .val (.ref a1)] [(.ref a1), (.ref x1)])) _
  refine own_st (fun _ k => XS.iconst X0.here hx rfl (hb hby d43_2) k) ?_
  show own_Goes p e below (s₁.setTop (mkF m 3 #[.val (.ref x1), .val (.ref a1)] [(.int (0 : Int32)), (.ref a1), (.ref x1)])) _
  refine own_st (fun _ k => XS.aloadN X0.here hx rfl (hb hby d43_3) rfl rfl k) ?_
  show own_Goes p e below (s₁.setTop (mkF m 4 #[.val (.ref x1), .val (.ref a1)] [(.ref a1), (.int (0 : Int32)), (.ref a1), (.ref x1)])) _
  refine own_st (own_len (pc := 4) (Ls := #[.val (.ref x1), .val (.ref a1)]) (rest := [(.int (0 : Int32)), (.ref a1), (.ref x1)]) X0 hx hZ e0 V1 (hb hby d43_4)) ?_
  show own_Goes p e below (s₁.setTop (mkF m 5 #[.val (.ref x1), .val (.ref a1)] [(.int (2 : Int32)), (.int (0 : Int32)), (.ref a1), (.ref x1)])) _
  refine own_st (fun _ k => XS.aconstNull X0.here hx rfl (hb hby d43_5) k) ?_
  show own_Goes p e below (s₁.setTop (mkF m 6 #[.val (.ref x1), .val (.ref a1)] [.null, (.int (2 : Int32)), (.int (0 : Int32)), (.ref a1), (.ref x1)])) _
  obtain ⟨_, T101, h101, L101, X101, e101, ⟨rfl, N101q, K101, bb101, kb101, gb101, sb101, T101q⟩, st101⟩ := own_callI (argsL := [(.ref a1), (.int (0 : Int32)), (.int (2 : Int32)), .null]) (rest := []) (pc := 6) (W := 0) (Ls := #[.val (.ref x1), .val (.ref a1)]) (S := [.null, (.int (2 : Int32)), (.int (0 : Int32)), (.ref a1), (.ref x1)]) X0 hx hZ hown rfl (hw _ (List.mem_of_getElem? (i := 83) rfl)) (hw _ (List.mem_of_getElem? (i := 84) rfl)) (hw _ (List.mem_of_getElem? (i := 2) rfl)) (hw _ (List.mem_of_getElem? (i := 85) rfl)) (by decide) (rm42 l Z a0 hw [] x1 a1 ka cs c0 c1 h0 n0 Z0 F1 F2 E1 V1 g1 ne1 C1 hcs hc0 hc1) (by decide) (by decide) e0 (by rw [hml]; rfl) (lenOf pd___CIILjava_lang_Void__V rfl) rfl (Nat.le_of_eq rfl) (hb hby d43_6) (by decide) (by decide)
  refine own_st st101 ?_
  have N101 := Fr.app N0 N101q
  show own_Goes p e below (T101.setTop (mkF m 9 #[.val (.ref x1), .val (.ref a1)] [])) _
  have f102 := ((Keep.refl h0 [x1]).trans K101 (allS (Or.inl (by simp)) all0))
  exact own_retV X101 hx hlk hret (hb hby d43_9) (by decide) (by decide) e101 ⟨rfl, N101, f102, bb101, kb101, gb101, sb101, T101q⟩
theorem d50_0 : decode jdk_52_method_21_code 0 = .ok (.iconst 0, 1) := by decide +kernel
theorem d50_1 : decode jdk_52_method_21_code 1 = .ok (.istore 5, 2) := by decide +kernel
theorem d50_3 : decode jdk_52_method_21_code 3 = .ok (.iload 5, 2) := by decide +kernel
theorem d50_5 : decode jdk_52_method_21_code 5 = .ok (.iload 4, 2) := by decide +kernel
theorem d50_7 : decode jdk_52_method_21_code 7 = .ok (.if_icmp .ge 37, 3) := by decide +kernel
theorem d50_10 : decode jdk_52_method_21_code 10 = .ok (.aload_n 0, 1) := by decide +kernel
theorem d50_11 : decode jdk_52_method_21_code 11 = .ok (.iload_n 1, 1) := by decide +kernel
theorem d50_12 : decode jdk_52_method_21_code 12 = .ok (.caload, 1) := by decide +kernel
theorem d50_13 : decode jdk_52_method_21_code 13 = .ok (.istore 6, 2) := by decide +kernel
theorem d50_15 : decode jdk_52_method_21_code 15 = .ok (.iload 6, 2) := by decide +kernel
theorem d50_17 : decode jdk_52_method_21_code 17 = .ok (.sipush 255, 3) := by decide +kernel
theorem d50_20 : decode jdk_52_method_21_code 20 = .ok (.if_icmp .le 6, 3) := by decide +kernel
theorem d50_26 : decode jdk_52_method_21_code 26 = .ok (.aload_n 2, 1) := by decide +kernel
theorem d50_27 : decode jdk_52_method_21_code 27 = .ok (.iload_n 3, 1) := by decide +kernel
theorem d50_28 : decode jdk_52_method_21_code 28 = .ok (.iload 6, 2) := by decide +kernel
theorem d50_30 : decode jdk_52_method_21_code 30 = .ok (.i2b, 1) := by decide +kernel
theorem d50_31 : decode jdk_52_method_21_code 31 = .ok (.bastore, 1) := by decide +kernel
theorem d50_32 : decode jdk_52_method_21_code 32 = .ok (.iinc 1 1, 3) := by decide +kernel
theorem d50_35 : decode jdk_52_method_21_code 35 = .ok (.iinc 3 1, 3) := by decide +kernel
theorem d50_38 : decode jdk_52_method_21_code 38 = .ok (.iinc 5 1, 3) := by decide +kernel
theorem d50_41 : decode jdk_52_method_21_code 41 = .ok (.goto (-38), 3) := by decide +kernel
theorem d50_44 : decode jdk_52_method_21_code 44 = .ok (.iload 4, 2) := by decide +kernel
theorem d50_46 : decode jdk_52_method_21_code 46 = .ok (.ireturn, 1) := by decide +kernel
theorem ef_50 (m : MethodId) (e0 : Addr) (e1 : Int32) (e2 : Addr) (e3 : Int32) (e4 : Int32) : entryFrame m #[(.ref e0), (.int e1), (.ref e2), (.int e3), (.int e4)] 7 = mkF m 0 #[.val (.ref e0), .val (.int e1), .val (.ref e2), .val (.int e3), .val (.int e4), .unset, .unset] [] := by first | (simp [entryFrame, mkF, argsToLocals, Value.category]; done) | rfl
set_option maxRecDepth 65536 in
set_option maxHeartbeats 40000000 in
theorem rm50 (l : Launch) (Z : State) (a0 : Array Value) (hw : ∀ d ∈ tables_1, d.before a0 Z = true) (ws : List Jvm.Cond) (a1 b1 : Addr) (ka kb : ClassId) (c0 c1 c2 : Int32) (h0 : Heap) (n0 : Nat) (Z0 : n0 ≤ h0.size) (V1 : Arv Z h0 a1 ka .char (3 : Int32) [(.int c0), (.int c1), (.int c2)] (.int (0 : Int32))) (V2 : Arv Z h0 b1 kb .byte (3 : Int32) [(.int (0 : Int32)), (.int (0 : Int32)), (.int (0 : Int32))] (.int (0 : Int32))) (g1 : n0 ≤ b1) (ne1 : a1 ≠ b1) (hc0 : own_c8 c0) (hc1 : own_c8 c1) (hc2 : own_c8 c2) :
    own_Ct l Z (⟨"java/lang/StringUTF16", "compress", "([CI[BII)I"⟩ : MethodName) jdk_52_method_21_code 7 (some .int) ws ({ frames := 0, cells := 0, slots := 0, locals := 0 } : Room) #[(.ref a1), (.int (0 : Int32)), (.ref b1), (.int (0 : Int32)), (.int (3 : Int32))] h0 (fun v h L => v = some (.int (3 : Int32)) ∧ Fr n0 L ∧ Keep h0 h [b1] ∧ Arv Z h b1 kb .byte (3 : Int32) [(.int c0.toInt8.toInt32), (.int c1.toInt8.toInt32), (.int c2.toInt8.toInt32)] (.int (0 : Int32))) ({ frames := 0, cells := 0, slots := 0, locals := 0 } : Room).cells ({ frames := 0, cells := 0, slots := 0, locals := 0 } : Room).slots := by
  refine own_met (plainFor_of_name pn_java_lang_StringUTF16) (fun p e s m below meth c s₁ X0 hx hby hml hret hlk hnm hown hZ e0 => ?_)
  have hml : c.maxLocals = 7 := hml
  have N0 := Fr.nil n0
  refine own_st (fun _ k => castTop (ef_50 m a1 (0 : Int32) b1 (0 : Int32) (3 : Int32)) k) ?_
  show own_Goes p e below (s₁.setTop (mkF m 0 #[.val (.ref a1), .val (.int (0 : Int32)), .val (.ref b1), .val (.int (0 : Int32)), .val (.int (3 : Int32)), .unset, .unset] [])) _
  refine own_st (fun _ k => XS.iconst X0.here hx rfl (hb hby d50_0) k) ?_
  show own_Goes p e below (s₁.setTop (mkF m 1 #[.val (.ref a1), .val (.int (0 : Int32)), .val (.ref b1), .val (.int (0 : Int32)), .val (.int (3 : Int32)), .unset, .unset] [(.int (0 : Int32))])) _
  refine own_st (fun _ k => XS.istore X0.here hx rfl (hb hby d50_1) rfl (l' := #[.val (.ref a1), .val (.int (0 : Int32)), .val (.ref b1), .val (.int (0 : Int32)), .val (.int (3 : Int32)), .val (.int (0 : Int32)), .unset]) rfl k) ?_
  show own_Goes p e below (s₁.setTop (mkF m 3 #[.val (.ref a1), .val (.int (0 : Int32)), .val (.ref b1), .val (.int (0 : Int32)), .val (.int (3 : Int32)), .val (.int (0 : Int32)), .unset] [])) _
  refine own_st (fun _ k => XS.iload X0.here hx rfl (hb hby d50_3) rfl k) ?_
  show own_Goes p e below (s₁.setTop (mkF m 5 #[.val (.ref a1), .val (.int (0 : Int32)), .val (.ref b1), .val (.int (0 : Int32)), .val (.int (3 : Int32)), .val (.int (0 : Int32)), .unset] [(.int (0 : Int32))])) _
  refine own_st (fun _ k => XS.iload X0.here hx rfl (hb hby d50_5) rfl k) ?_
  show own_Goes p e below (s₁.setTop (mkF m 7 #[.val (.ref a1), .val (.int (0 : Int32)), .val (.ref b1), .val (.int (0 : Int32)), .val (.int (3 : Int32)), .val (.int (0 : Int32)), .unset] [(.int (3 : Int32)), (.int (0 : Int32))])) _
  refine own_st (fun _ k => XS.icmpNo X0.here hx rfl (hb hby d50_7) rfl (tlt (by decide : (0 : Int32) < (3 : Int32))).2.1 k) ?_
  show own_Goes p e below (s₁.setTop (mkF m 10 #[.val (.ref a1), .val (.int (0 : Int32)), .val (.ref b1), .val (.int (0 : Int32)), .val (.int (3 : Int32)), .val (.int (0 : Int32)), .unset] [])) _
  refine own_st (fun _ k => XS.aloadN X0.here hx rfl (hb hby d50_10) rfl rfl k) ?_
  show own_Goes p e below (s₁.setTop (mkF m 11 #[.val (.ref a1), .val (.int (0 : Int32)), .val (.ref b1), .val (.int (0 : Int32)), .val (.int (3 : Int32)), .val (.int (0 : Int32)), .unset] [(.ref a1)])) _
  refine own_st (fun _ k => XS.iloadN X0.here hx rfl (hb hby d50_11) rfl k) ?_
  show own_Goes p e below (s₁.setTop (mkF m 12 #[.val (.ref a1), .val (.int (0 : Int32)), .val (.ref b1), .val (.int (0 : Int32)), .val (.int (3 : Int32)), .val (.int (0 : Int32)), .unset] [(.int (0 : Int32)), (.ref a1)])) _
  refine own_st (own_ldC (v := (.int c0)) (pc := 12) (Ls := #[.val (.ref a1), .val (.int (0 : Int32)), .val (.ref b1), .val (.int (0 : Int32)), .val (.int (3 : Int32)), .val (.int (0 : Int32)), .unset]) (rest := []) (j := (0 : Int32)) X0 hx hZ e0 V1 (by decide) rfl (hb hby d50_12)) ?_
  show own_Goes p e below (s₁.setTop (mkF m 13 #[.val (.ref a1), .val (.int (0 : Int32)), .val (.ref b1), .val (.int (0 : Int32)), .val (.int (3 : Int32)), .val (.int (0 : Int32)), .unset] [(.int c0)])) _
  refine own_st (fun _ k => XS.istore X0.here hx rfl (hb hby d50_13) rfl (l' := #[.val (.ref a1), .val (.int (0 : Int32)), .val (.ref b1), .val (.int (0 : Int32)), .val (.int (3 : Int32)), .val (.int (0 : Int32)), .val (.int c0)]) rfl k) ?_
  show own_Goes p e below (s₁.setTop (mkF m 15 #[.val (.ref a1), .val (.int (0 : Int32)), .val (.ref b1), .val (.int (0 : Int32)), .val (.int (3 : Int32)), .val (.int (0 : Int32)), .val (.int c0)] [])) _
  refine own_st (fun _ k => XS.iload X0.here hx rfl (hb hby d50_15) rfl k) ?_
  show own_Goes p e below (s₁.setTop (mkF m 17 #[.val (.ref a1), .val (.int (0 : Int32)), .val (.ref b1), .val (.int (0 : Int32)), .val (.int (3 : Int32)), .val (.int (0 : Int32)), .val (.int c0)] [(.int c0)])) _
  refine own_st (fun _ k => XS.sipush X0.here hx rfl (hb hby d50_17) k) ?_
  show own_Goes p e below (s₁.setTop (mkF m 20 #[.val (.ref a1), .val (.int (0 : Int32)), .val (.ref b1), .val (.int (0 : Int32)), .val (.int (3 : Int32)), .val (.int (0 : Int32)), .val (.int c0)] [(.int (255 : Int32)), (.int c0)])) _
  refine own_st (fun _ k => XS.icmpYes X0.here hx rfl (pc0 := 20) (pc' := 26) rfl (hb hby d50_20) rfl (flt (own_c8n hc0)).2.2.2 (by decide) (by decide) k) ?_
  show own_Goes p e below (s₁.setTop (mkF m 26 #[.val (.ref a1), .val (.int (0 : Int32)), .val (.ref b1), .val (.int (0 : Int32)), .val (.int (3 : Int32)), .val (.int (0 : Int32)), .val (.int c0)] [])) _
  refine own_st (fun _ k => XS.aloadN X0.here hx rfl (hb hby d50_26) rfl rfl k) ?_
  show own_Goes p e below (s₁.setTop (mkF m 27 #[.val (.ref a1), .val (.int (0 : Int32)), .val (.ref b1), .val (.int (0 : Int32)), .val (.int (3 : Int32)), .val (.int (0 : Int32)), .val (.int c0)] [(.ref b1)])) _
  refine own_st (fun _ k => XS.iloadN X0.here hx rfl (hb hby d50_27) rfl k) ?_
  show own_Goes p e below (s₁.setTop (mkF m 28 #[.val (.ref a1), .val (.int (0 : Int32)), .val (.ref b1), .val (.int (0 : Int32)), .val (.int (3 : Int32)), .val (.int (0 : Int32)), .val (.int c0)] [(.int (0 : Int32)), (.ref b1)])) _
  refine own_st (fun _ k => XS.iload X0.here hx rfl (hb hby d50_28) rfl k) ?_
  show own_Goes p e below (s₁.setTop (mkF m 30 #[.val (.ref a1), .val (.int (0 : Int32)), .val (.ref b1), .val (.int (0 : Int32)), .val (.int (3 : Int32)), .val (.int (0 : Int32)), .val (.int c0)] [(.int c0), (.int (0 : Int32)), (.ref b1)])) _
  refine own_st (fun _ k => XT.i2b X0.here hx rfl (hb hby d50_30) rfl k) ?_
  show own_Goes p e below (s₁.setTop (mkF m 31 #[.val (.ref a1), .val (.int (0 : Int32)), .val (.ref b1), .val (.int (0 : Int32)), .val (.int (3 : Int32)), .val (.int (0 : Int32)), .val (.int c0)] [(.int c0.toInt8.toInt32), (.int (0 : Int32)), (.ref b1)])) _
  obtain ⟨T101, h101, X101, e101, W101, V101, st101⟩ := own_stB (x := c0.toInt8.toInt32) (pc := 31) (Ls := #[.val (.ref a1), .val (.int (0 : Int32)), .val (.ref b1), .val (.int (0 : Int32)), .val (.int (3 : Int32)), .val (.int (0 : Int32)), .val (.int c0)]) (rest := []) (j := (0 : Int32)) X0 hx hZ e0 V2 0 (by decide) (by decide) (Nat.le_of_ble_eq_true rfl) (hb hby d50_31)
  rw [own_b8] at V101
  have V101 : Arv Z h101 b1 kb .byte (3 : Int32) [(.int c0.toInt8.toInt32), (.int (0 : Int32)), (.int (0 : Int32))] (.int (0 : Int32)) := V101
  have N101 := Fr.snoc X101 N0 g1
  refine own_st st101 ?_
  show own_Goes p e below (T101.setTop (mkF m 32 #[.val (.ref a1), .val (.int (0 : Int32)), .val (.ref b1), .val (.int (0 : Int32)), .val (.int (3 : Int32)), .val (.int (0 : Int32)), .val (.int c0)] [])) _
  refine own_st (fun _ k => XS.iinc X101.here hx rfl (hb hby d50_32) rfl (l' := #[.val (.ref a1), .val (.int (1 : Int32)), .val (.ref b1), .val (.int (0 : Int32)), .val (.int (3 : Int32)), .val (.int (0 : Int32)), .val (.int c0)]) rfl k) ?_
  show own_Goes p e below (T101.setTop (mkF m 35 #[.val (.ref a1), .val (.int (1 : Int32)), .val (.ref b1), .val (.int (0 : Int32)), .val (.int (3 : Int32)), .val (.int (0 : Int32)), .val (.int c0)] [])) _
  refine own_st (fun _ k => XS.iinc X101.here hx rfl (hb hby d50_35) rfl (l' := #[.val (.ref a1), .val (.int (1 : Int32)), .val (.ref b1), .val (.int (1 : Int32)), .val (.int (3 : Int32)), .val (.int (0 : Int32)), .val (.int c0)]) rfl k) ?_
  show own_Goes p e below (T101.setTop (mkF m 38 #[.val (.ref a1), .val (.int (1 : Int32)), .val (.ref b1), .val (.int (1 : Int32)), .val (.int (3 : Int32)), .val (.int (0 : Int32)), .val (.int c0)] [])) _
  refine own_st (fun _ k => XS.iinc X101.here hx rfl (hb hby d50_38) rfl (l' := #[.val (.ref a1), .val (.int (1 : Int32)), .val (.ref b1), .val (.int (1 : Int32)), .val (.int (3 : Int32)), .val (.int (1 : Int32)), .val (.int c0)]) rfl k) ?_
  show own_Goes p e below (T101.setTop (mkF m 41 #[.val (.ref a1), .val (.int (1 : Int32)), .val (.ref b1), .val (.int (1 : Int32)), .val (.int (3 : Int32)), .val (.int (1 : Int32)), .val (.int c0)] [])) _
  refine own_st (fun _ k => XS.goto X101.here hx rfl (pc0 := 41) (pc' := 3) rfl (hb hby d50_41) (by decide) (by decide) k) ?_
  show own_Goes p e below (T101.setTop (mkF m 3 #[.val (.ref a1), .val (.int (1 : Int32)), .val (.ref b1), .val (.int (1 : Int32)), .val (.int (3 : Int32)), .val (.int (1 : Int32)), .val (.int c0)] [])) _
  refine own_st (fun _ k => XS.iload X101.here hx rfl (hb hby d50_3) rfl k) ?_
  show own_Goes p e below (T101.setTop (mkF m 5 #[.val (.ref a1), .val (.int (1 : Int32)), .val (.ref b1), .val (.int (1 : Int32)), .val (.int (3 : Int32)), .val (.int (1 : Int32)), .val (.int c0)] [(.int (1 : Int32))])) _
  refine own_st (fun _ k => XS.iload X101.here hx rfl (hb hby d50_5) rfl k) ?_
  show own_Goes p e below (T101.setTop (mkF m 7 #[.val (.ref a1), .val (.int (1 : Int32)), .val (.ref b1), .val (.int (1 : Int32)), .val (.int (3 : Int32)), .val (.int (1 : Int32)), .val (.int c0)] [(.int (3 : Int32)), (.int (1 : Int32))])) _
  refine own_st (fun _ k => XS.icmpNo X101.here hx rfl (hb hby d50_7) rfl (tlt (by decide : (1 : Int32) < (3 : Int32))).2.1 k) ?_
  show own_Goes p e below (T101.setTop (mkF m 10 #[.val (.ref a1), .val (.int (1 : Int32)), .val (.ref b1), .val (.int (1 : Int32)), .val (.int (3 : Int32)), .val (.int (1 : Int32)), .val (.int c0)] [])) _
  refine own_st (fun _ k => XS.aloadN X101.here hx rfl (hb hby d50_10) rfl rfl k) ?_
  show own_Goes p e below (T101.setTop (mkF m 11 #[.val (.ref a1), .val (.int (1 : Int32)), .val (.ref b1), .val (.int (1 : Int32)), .val (.int (3 : Int32)), .val (.int (1 : Int32)), .val (.int c0)] [(.ref a1)])) _
  refine own_st (fun _ k => XS.iloadN X101.here hx rfl (hb hby d50_11) rfl k) ?_
  show own_Goes p e below (T101.setTop (mkF m 12 #[.val (.ref a1), .val (.int (1 : Int32)), .val (.ref b1), .val (.int (1 : Int32)), .val (.int (3 : Int32)), .val (.int (1 : Int32)), .val (.int c0)] [(.int (1 : Int32)), (.ref a1)])) _
  have f102 := (V1.other W101 ne1)
  refine own_st (own_ldC (v := (.int c1)) (pc := 12) (Ls := #[.val (.ref a1), .val (.int (1 : Int32)), .val (.ref b1), .val (.int (1 : Int32)), .val (.int (3 : Int32)), .val (.int (1 : Int32)), .val (.int c0)]) (rest := []) (j := (1 : Int32)) X101 hx hZ e101 f102 (by decide) rfl (hb hby d50_12)) ?_
  show own_Goes p e below (T101.setTop (mkF m 13 #[.val (.ref a1), .val (.int (1 : Int32)), .val (.ref b1), .val (.int (1 : Int32)), .val (.int (3 : Int32)), .val (.int (1 : Int32)), .val (.int c0)] [(.int c1)])) _
  refine own_st (fun _ k => XS.istore X101.here hx rfl (hb hby d50_13) rfl (l' := #[.val (.ref a1), .val (.int (1 : Int32)), .val (.ref b1), .val (.int (1 : Int32)), .val (.int (3 : Int32)), .val (.int (1 : Int32)), .val (.int c1)]) rfl k) ?_
  show own_Goes p e below (T101.setTop (mkF m 15 #[.val (.ref a1), .val (.int (1 : Int32)), .val (.ref b1), .val (.int (1 : Int32)), .val (.int (3 : Int32)), .val (.int (1 : Int32)), .val (.int c1)] [])) _
  refine own_st (fun _ k => XS.iload X101.here hx rfl (hb hby d50_15) rfl k) ?_
  show own_Goes p e below (T101.setTop (mkF m 17 #[.val (.ref a1), .val (.int (1 : Int32)), .val (.ref b1), .val (.int (1 : Int32)), .val (.int (3 : Int32)), .val (.int (1 : Int32)), .val (.int c1)] [(.int c1)])) _
  refine own_st (fun _ k => XS.sipush X101.here hx rfl (hb hby d50_17) k) ?_
  show own_Goes p e below (T101.setTop (mkF m 20 #[.val (.ref a1), .val (.int (1 : Int32)), .val (.ref b1), .val (.int (1 : Int32)), .val (.int (3 : Int32)), .val (.int (1 : Int32)), .val (.int c1)] [(.int (255 : Int32)), (.int c1)])) _
  refine own_st (fun _ k => XS.icmpYes X101.here hx rfl (pc0 := 20) (pc' := 26) rfl (hb hby d50_20) rfl (flt (own_c8n hc1)).2.2.2 (by decide) (by decide) k) ?_
  show own_Goes p e below (T101.setTop (mkF m 26 #[.val (.ref a1), .val (.int (1 : Int32)), .val (.ref b1), .val (.int (1 : Int32)), .val (.int (3 : Int32)), .val (.int (1 : Int32)), .val (.int c1)] [])) _
  refine own_st (fun _ k => XS.aloadN X101.here hx rfl (hb hby d50_26) rfl rfl k) ?_
  show own_Goes p e below (T101.setTop (mkF m 27 #[.val (.ref a1), .val (.int (1 : Int32)), .val (.ref b1), .val (.int (1 : Int32)), .val (.int (3 : Int32)), .val (.int (1 : Int32)), .val (.int c1)] [(.ref b1)])) _
  refine own_st (fun _ k => XS.iloadN X101.here hx rfl (hb hby d50_27) rfl k) ?_
  show own_Goes p e below (T101.setTop (mkF m 28 #[.val (.ref a1), .val (.int (1 : Int32)), .val (.ref b1), .val (.int (1 : Int32)), .val (.int (3 : Int32)), .val (.int (1 : Int32)), .val (.int c1)] [(.int (1 : Int32)), (.ref b1)])) _
  refine own_st (fun _ k => XS.iload X101.here hx rfl (hb hby d50_28) rfl k) ?_
  show own_Goes p e below (T101.setTop (mkF m 30 #[.val (.ref a1), .val (.int (1 : Int32)), .val (.ref b1), .val (.int (1 : Int32)), .val (.int (3 : Int32)), .val (.int (1 : Int32)), .val (.int c1)] [(.int c1), (.int (1 : Int32)), (.ref b1)])) _
  refine own_st (fun _ k => XT.i2b X101.here hx rfl (hb hby d50_30) rfl k) ?_
  show own_Goes p e below (T101.setTop (mkF m 31 #[.val (.ref a1), .val (.int (1 : Int32)), .val (.ref b1), .val (.int (1 : Int32)), .val (.int (3 : Int32)), .val (.int (1 : Int32)), .val (.int c1)] [(.int c1.toInt8.toInt32), (.int (1 : Int32)), (.ref b1)])) _
  obtain ⟨T103, h103, X103, e103, W103, V103, st103⟩ := own_stB (x := c1.toInt8.toInt32) (pc := 31) (Ls := #[.val (.ref a1), .val (.int (1 : Int32)), .val (.ref b1), .val (.int (1 : Int32)), .val (.int (3 : Int32)), .val (.int (1 : Int32)), .val (.int c1)]) (rest := []) (j := (1 : Int32)) X101 hx hZ e101 V101 1 (by decide) (by decide) (Nat.le_of_ble_eq_true rfl) (hb hby d50_31)
  rw [own_b8] at V103
  have V103 : Arv Z h103 b1 kb .byte (3 : Int32) [(.int c0.toInt8.toInt32), (.int c1.toInt8.toInt32), (.int (0 : Int32))] (.int (0 : Int32)) := V103
  have N103 := Fr.snoc X103 N101 g1
  refine own_st st103 ?_
  show own_Goes p e below (T103.setTop (mkF m 32 #[.val (.ref a1), .val (.int (1 : Int32)), .val (.ref b1), .val (.int (1 : Int32)), .val (.int (3 : Int32)), .val (.int (1 : Int32)), .val (.int c1)] [])) _
  refine own_st (fun _ k => XS.iinc X103.here hx rfl (hb hby d50_32) rfl (l' := #[.val (.ref a1), .val (.int (2 : Int32)), .val (.ref b1), .val (.int (1 : Int32)), .val (.int (3 : Int32)), .val (.int (1 : Int32)), .val (.int c1)]) rfl k) ?_
  show own_Goes p e below (T103.setTop (mkF m 35 #[.val (.ref a1), .val (.int (2 : Int32)), .val (.ref b1), .val (.int (1 : Int32)), .val (.int (3 : Int32)), .val (.int (1 : Int32)), .val (.int c1)] [])) _
  refine own_st (fun _ k => XS.iinc X103.here hx rfl (hb hby d50_35) rfl (l' := #[.val (.ref a1), .val (.int (2 : Int32)), .val (.ref b1), .val (.int (2 : Int32)), .val (.int (3 : Int32)), .val (.int (1 : Int32)), .val (.int c1)]) rfl k) ?_
  show own_Goes p e below (T103.setTop (mkF m 38 #[.val (.ref a1), .val (.int (2 : Int32)), .val (.ref b1), .val (.int (2 : Int32)), .val (.int (3 : Int32)), .val (.int (1 : Int32)), .val (.int c1)] [])) _
  refine own_st (fun _ k => XS.iinc X103.here hx rfl (hb hby d50_38) rfl (l' := #[.val (.ref a1), .val (.int (2 : Int32)), .val (.ref b1), .val (.int (2 : Int32)), .val (.int (3 : Int32)), .val (.int (2 : Int32)), .val (.int c1)]) rfl k) ?_
  show own_Goes p e below (T103.setTop (mkF m 41 #[.val (.ref a1), .val (.int (2 : Int32)), .val (.ref b1), .val (.int (2 : Int32)), .val (.int (3 : Int32)), .val (.int (2 : Int32)), .val (.int c1)] [])) _
  refine own_st (fun _ k => XS.goto X103.here hx rfl (pc0 := 41) (pc' := 3) rfl (hb hby d50_41) (by decide) (by decide) k) ?_
  show own_Goes p e below (T103.setTop (mkF m 3 #[.val (.ref a1), .val (.int (2 : Int32)), .val (.ref b1), .val (.int (2 : Int32)), .val (.int (3 : Int32)), .val (.int (2 : Int32)), .val (.int c1)] [])) _
  refine own_st (fun _ k => XS.iload X103.here hx rfl (hb hby d50_3) rfl k) ?_
  show own_Goes p e below (T103.setTop (mkF m 5 #[.val (.ref a1), .val (.int (2 : Int32)), .val (.ref b1), .val (.int (2 : Int32)), .val (.int (3 : Int32)), .val (.int (2 : Int32)), .val (.int c1)] [(.int (2 : Int32))])) _
  refine own_st (fun _ k => XS.iload X103.here hx rfl (hb hby d50_5) rfl k) ?_
  show own_Goes p e below (T103.setTop (mkF m 7 #[.val (.ref a1), .val (.int (2 : Int32)), .val (.ref b1), .val (.int (2 : Int32)), .val (.int (3 : Int32)), .val (.int (2 : Int32)), .val (.int c1)] [(.int (3 : Int32)), (.int (2 : Int32))])) _
  refine own_st (fun _ k => XS.icmpNo X103.here hx rfl (hb hby d50_7) rfl (tlt (by decide : (2 : Int32) < (3 : Int32))).2.1 k) ?_
  show own_Goes p e below (T103.setTop (mkF m 10 #[.val (.ref a1), .val (.int (2 : Int32)), .val (.ref b1), .val (.int (2 : Int32)), .val (.int (3 : Int32)), .val (.int (2 : Int32)), .val (.int c1)] [])) _
  refine own_st (fun _ k => XS.aloadN X103.here hx rfl (hb hby d50_10) rfl rfl k) ?_
  show own_Goes p e below (T103.setTop (mkF m 11 #[.val (.ref a1), .val (.int (2 : Int32)), .val (.ref b1), .val (.int (2 : Int32)), .val (.int (3 : Int32)), .val (.int (2 : Int32)), .val (.int c1)] [(.ref a1)])) _
  refine own_st (fun _ k => XS.iloadN X103.here hx rfl (hb hby d50_11) rfl k) ?_
  show own_Goes p e below (T103.setTop (mkF m 12 #[.val (.ref a1), .val (.int (2 : Int32)), .val (.ref b1), .val (.int (2 : Int32)), .val (.int (3 : Int32)), .val (.int (2 : Int32)), .val (.int c1)] [(.int (2 : Int32)), (.ref a1)])) _
  have f104 := (f102.other W103 ne1)
  refine own_st (own_ldC (v := (.int c2)) (pc := 12) (Ls := #[.val (.ref a1), .val (.int (2 : Int32)), .val (.ref b1), .val (.int (2 : Int32)), .val (.int (3 : Int32)), .val (.int (2 : Int32)), .val (.int c1)]) (rest := []) (j := (2 : Int32)) X103 hx hZ e103 f104 (by decide) rfl (hb hby d50_12)) ?_
  show own_Goes p e below (T103.setTop (mkF m 13 #[.val (.ref a1), .val (.int (2 : Int32)), .val (.ref b1), .val (.int (2 : Int32)), .val (.int (3 : Int32)), .val (.int (2 : Int32)), .val (.int c1)] [(.int c2)])) _
  refine own_st (fun _ k => XS.istore X103.here hx rfl (hb hby d50_13) rfl (l' := #[.val (.ref a1), .val (.int (2 : Int32)), .val (.ref b1), .val (.int (2 : Int32)), .val (.int (3 : Int32)), .val (.int (2 : Int32)), .val (.int c2)]) rfl k) ?_
  show own_Goes p e below (T103.setTop (mkF m 15 #[.val (.ref a1), .val (.int (2 : Int32)), .val (.ref b1), .val (.int (2 : Int32)), .val (.int (3 : Int32)), .val (.int (2 : Int32)), .val (.int c2)] [])) _
  refine own_st (fun _ k => XS.iload X103.here hx rfl (hb hby d50_15) rfl k) ?_
  show own_Goes p e below (T103.setTop (mkF m 17 #[.val (.ref a1), .val (.int (2 : Int32)), .val (.ref b1), .val (.int (2 : Int32)), .val (.int (3 : Int32)), .val (.int (2 : Int32)), .val (.int c2)] [(.int c2)])) _
  refine own_st (fun _ k => XS.sipush X103.here hx rfl (hb hby d50_17) k) ?_
  show own_Goes p e below (T103.setTop (mkF m 20 #[.val (.ref a1), .val (.int (2 : Int32)), .val (.ref b1), .val (.int (2 : Int32)), .val (.int (3 : Int32)), .val (.int (2 : Int32)), .val (.int c2)] [(.int (255 : Int32)), (.int c2)])) _
  refine own_st (fun _ k => XS.icmpYes X103.here hx rfl (pc0 := 20) (pc' := 26) rfl (hb hby d50_20) rfl (flt (own_c8n hc2)).2.2.2 (by decide) (by decide) k) ?_
  show own_Goes p e below (T103.setTop (mkF m 26 #[.val (.ref a1), .val (.int (2 : Int32)), .val (.ref b1), .val (.int (2 : Int32)), .val (.int (3 : Int32)), .val (.int (2 : Int32)), .val (.int c2)] [])) _
  refine own_st (fun _ k => XS.aloadN X103.here hx rfl (hb hby d50_26) rfl rfl k) ?_
  show own_Goes p e below (T103.setTop (mkF m 27 #[.val (.ref a1), .val (.int (2 : Int32)), .val (.ref b1), .val (.int (2 : Int32)), .val (.int (3 : Int32)), .val (.int (2 : Int32)), .val (.int c2)] [(.ref b1)])) _
  refine own_st (fun _ k => XS.iloadN X103.here hx rfl (hb hby d50_27) rfl k) ?_
  show own_Goes p e below (T103.setTop (mkF m 28 #[.val (.ref a1), .val (.int (2 : Int32)), .val (.ref b1), .val (.int (2 : Int32)), .val (.int (3 : Int32)), .val (.int (2 : Int32)), .val (.int c2)] [(.int (2 : Int32)), (.ref b1)])) _
  refine own_st (fun _ k => XS.iload X103.here hx rfl (hb hby d50_28) rfl k) ?_
  show own_Goes p e below (T103.setTop (mkF m 30 #[.val (.ref a1), .val (.int (2 : Int32)), .val (.ref b1), .val (.int (2 : Int32)), .val (.int (3 : Int32)), .val (.int (2 : Int32)), .val (.int c2)] [(.int c2), (.int (2 : Int32)), (.ref b1)])) _
  refine own_st (fun _ k => XT.i2b X103.here hx rfl (hb hby d50_30) rfl k) ?_
  show own_Goes p e below (T103.setTop (mkF m 31 #[.val (.ref a1), .val (.int (2 : Int32)), .val (.ref b1), .val (.int (2 : Int32)), .val (.int (3 : Int32)), .val (.int (2 : Int32)), .val (.int c2)] [(.int c2.toInt8.toInt32), (.int (2 : Int32)), (.ref b1)])) _
  obtain ⟨T105, h105, X105, e105, W105, V105, st105⟩ := own_stB (x := c2.toInt8.toInt32) (pc := 31) (Ls := #[.val (.ref a1), .val (.int (2 : Int32)), .val (.ref b1), .val (.int (2 : Int32)), .val (.int (3 : Int32)), .val (.int (2 : Int32)), .val (.int c2)]) (rest := []) (j := (2 : Int32)) X103 hx hZ e103 V103 2 (by decide) (by decide) (Nat.le_of_ble_eq_true rfl) (hb hby d50_31)
  rw [own_b8] at V105
  have V105 : Arv Z h105 b1 kb .byte (3 : Int32) [(.int c0.toInt8.toInt32), (.int c1.toInt8.toInt32), (.int c2.toInt8.toInt32)] (.int (0 : Int32)) := V105
  have N105 := Fr.snoc X105 N103 g1
  refine own_st st105 ?_
  show own_Goes p e below (T105.setTop (mkF m 32 #[.val (.ref a1), .val (.int (2 : Int32)), .val (.ref b1), .val (.int (2 : Int32)), .val (.int (3 : Int32)), .val (.int (2 : Int32)), .val (.int c2)] [])) _
  refine own_st (fun _ k => XS.iinc X105.here hx rfl (hb hby d50_32) rfl (l' := #[.val (.ref a1), .val (.int (3 : Int32)), .val (.ref b1), .val (.int (2 : Int32)), .val (.int (3 : Int32)), .val (.int (2 : Int32)), .val (.int c2)]) rfl k) ?_
  show own_Goes p e below (T105.setTop (mkF m 35 #[.val (.ref a1), .val (.int (3 : Int32)), .val (.ref b1), .val (.int (2 : Int32)), .val (.int (3 : Int32)), .val (.int (2 : Int32)), .val (.int c2)] [])) _
  refine own_st (fun _ k => XS.iinc X105.here hx rfl (hb hby d50_35) rfl (l' := #[.val (.ref a1), .val (.int (3 : Int32)), .val (.ref b1), .val (.int (3 : Int32)), .val (.int (3 : Int32)), .val (.int (2 : Int32)), .val (.int c2)]) rfl k) ?_
  show own_Goes p e below (T105.setTop (mkF m 38 #[.val (.ref a1), .val (.int (3 : Int32)), .val (.ref b1), .val (.int (3 : Int32)), .val (.int (3 : Int32)), .val (.int (2 : Int32)), .val (.int c2)] [])) _
  refine own_st (fun _ k => XS.iinc X105.here hx rfl (hb hby d50_38) rfl (l' := #[.val (.ref a1), .val (.int (3 : Int32)), .val (.ref b1), .val (.int (3 : Int32)), .val (.int (3 : Int32)), .val (.int (3 : Int32)), .val (.int c2)]) rfl k) ?_
  show own_Goes p e below (T105.setTop (mkF m 41 #[.val (.ref a1), .val (.int (3 : Int32)), .val (.ref b1), .val (.int (3 : Int32)), .val (.int (3 : Int32)), .val (.int (3 : Int32)), .val (.int c2)] [])) _
  refine own_st (fun _ k => XS.goto X105.here hx rfl (pc0 := 41) (pc' := 3) rfl (hb hby d50_41) (by decide) (by decide) k) ?_
  show own_Goes p e below (T105.setTop (mkF m 3 #[.val (.ref a1), .val (.int (3 : Int32)), .val (.ref b1), .val (.int (3 : Int32)), .val (.int (3 : Int32)), .val (.int (3 : Int32)), .val (.int c2)] [])) _
  refine own_st (fun _ k => XS.iload X105.here hx rfl (hb hby d50_3) rfl k) ?_
  show own_Goes p e below (T105.setTop (mkF m 5 #[.val (.ref a1), .val (.int (3 : Int32)), .val (.ref b1), .val (.int (3 : Int32)), .val (.int (3 : Int32)), .val (.int (3 : Int32)), .val (.int c2)] [(.int (3 : Int32))])) _
  refine own_st (fun _ k => XS.iload X105.here hx rfl (hb hby d50_5) rfl k) ?_
  show own_Goes p e below (T105.setTop (mkF m 7 #[.val (.ref a1), .val (.int (3 : Int32)), .val (.ref b1), .val (.int (3 : Int32)), .val (.int (3 : Int32)), .val (.int (3 : Int32)), .val (.int c2)] [(.int (3 : Int32)), (.int (3 : Int32))])) _
  refine own_st (fun _ k => XS.icmpYes X105.here hx rfl (pc0 := 7) (pc' := 44) rfl (hb hby d50_7) rfl (flt (by decide : ¬ ((3 : Int32) < (3 : Int32)))).2.1 (by decide) (by decide) k) ?_
  show own_Goes p e below (T105.setTop (mkF m 44 #[.val (.ref a1), .val (.int (3 : Int32)), .val (.ref b1), .val (.int (3 : Int32)), .val (.int (3 : Int32)), .val (.int (3 : Int32)), .val (.int c2)] [])) _
  refine own_st (fun _ k => XS.iload X105.here hx rfl (hb hby d50_44) rfl k) ?_
  show own_Goes p e below (T105.setTop (mkF m 46 #[.val (.ref a1), .val (.int (3 : Int32)), .val (.ref b1), .val (.int (3 : Int32)), .val (.int (3 : Int32)), .val (.int (3 : Int32)), .val (.int c2)] [(.int (3 : Int32))])) _
  have f106 := ((((Keep.refl h0 [b1]).wr W101 (Or.inl (by simp))).wr W103 (Or.inl (by simp))).wr W105 (Or.inl (by simp)))
  exact own_retI X105 hx hlk hret (hb hby d50_46) (by decide) (by decide) e105 ⟨rfl, N105, f106, V105⟩
theorem d51_0 : decode jdk_52_method_16_code 0 = .ok (.iload_n 2, 1) := by decide +kernel
theorem d51_1 : decode jdk_52_method_16_code 1 = .ok (.newarray .byte, 2) := by decide +kernel
theorem d51_3 : decode jdk_52_method_16_code 3 = .ok (.astore_n 3, 1) := by decide +kernel
theorem d51_4 : decode jdk_52_method_16_code 4 = .ok (.aload_n 0, 1) := by decide +kernel
theorem d51_5 : decode jdk_52_method_16_code 5 = .ok (.iload_n 1, 1) := by decide +kernel
theorem d51_6 : decode jdk_52_method_16_code 6 = .ok (.aload_n 3, 1) := by decide +kernel
theorem d51_7 : decode jdk_52_method_16_code 7 = .ok (.iconst 0, 1) := by decide +kernel
theorem d51_8 : decode jdk_52_method_16_code 8 = .ok (.iload_n 2, 1) := by decide +kernel
theorem d51_9 : decode jdk_52_method_16_code 9 = .ok (.invokestatic 115, 3) := by decide +kernel
theorem d51_12 : decode jdk_52_method_16_code 12 = .ok (.istore 4, 2) := by decide +kernel
theorem d51_14 : decode jdk_52_method_16_code 14 = .ok (.iload 4, 2) := by decide +kernel
theorem d51_16 : decode jdk_52_method_16_code 16 = .ok (.iload_n 2, 1) := by decide +kernel
theorem d51_17 : decode jdk_52_method_16_code 17 = .ok (.if_icmp .eq 40, 3) := by decide +kernel
theorem d51_57 : decode jdk_52_method_16_code 57 = .ok (.aload_n 3, 1) := by decide +kernel
theorem d51_58 : decode jdk_52_method_16_code 58 = .ok (.areturn, 1) := by decide +kernel
theorem ef_51 (m : MethodId) (e0 : Addr) (e1 : Int32) (e2 : Int32) : entryFrame m #[(.ref e0), (.int e1), (.int e2)] 6 = mkF m 0 #[.val (.ref e0), .val (.int e1), .val (.int e2), .unset, .unset, .unset] [] := by first | (simp [entryFrame, mkF, argsToLocals, Value.category]; done) | rfl
set_option maxRecDepth 65536 in
set_option maxHeartbeats 40000000 in
theorem rm51 (l : Launch) (Z : State) (a0 : Array Value) (hw : ∀ d ∈ tables_1, d.before a0 Z = true) (ws : List Jvm.Cond) (a1 : Addr) (ka : ClassId) (c0 c1 c2 : Int32) (h0 : Heap) (n0 : Nat) (Z0 : n0 ≤ h0.size) (V1 : Arv Z h0 a1 ka .char (3 : Int32) [(.int c0), (.int c1), (.int c2)] (.int (0 : Int32))) (hc0 : own_c8 c0) (hc1 : own_c8 c1) (hc2 : own_c8 c2) :
    own_Ct l Z (⟨"java/lang/StringUTF16", "compress", "([CII)[B"⟩ : MethodName) jdk_52_method_16_code 6 (some (.array .byte)) ws ({ frames := 1, cells := 1, slots := 3, locals := 18 } : Room) #[(.ref a1), (.int (0 : Int32)), (.int (3 : Int32))] h0 (fun v h L => ∃ (b : Addr) (kb : ClassId), v = some (.ref b) ∧ n0 ≤ b ∧ h0.size ≤ b ∧ Fr n0 L ∧ Keep h0 h [] ∧ Arv Z h b kb .byte (3 : Int32) [(.int c0.toInt8.toInt32), (.int c1.toInt8.toInt32), (.int c2.toInt8.toInt32)] (.int (0 : Int32))) ({ frames := 1, cells := 1, slots := 3, locals := 18 } : Room).cells ({ frames := 1, cells := 1, slots := 3, locals := 18 } : Room).slots := by
  refine own_met (plainFor_of_name pn_java_lang_StringUTF16) (fun p e s m below meth c s₁ X0 hx hby hml hret hlk hnm hown hZ e0 => ?_)
  have hml : c.maxLocals = 6 := hml
  have N0 := Fr.nil n0
  refine own_st (fun _ k => castTop (ef_51 m a1 (0 : Int32) (3 : Int32)) k) ?_
  show own_Goes p e below (s₁.setTop (mkF m 0 #[.val (.ref a1), .val (.int (0 : Int32)), .val (.int (3 : Int32)), .unset, .unset, .unset] [])) _
  refine own_st (fun _ k => XS.iloadN X0.here hx rfl (hb hby d51_0) rfl k) ?_
  show own_Goes p e below (s₁.setTop (mkF m 1 #[.val (.ref a1), .val (.int (0 : Int32)), .val (.int (3 : Int32)), .unset, .unset, .unset] [(.int (3 : Int32))])) _
  obtain ⟨T101, h101, k101, X101, e101, E101, A101, st101⟩ := newP X0 hx hZ (hw _ (List.mem_of_getElem? (i := 14) rfl)) e0 (g := (mkF m 1 #[.val (.ref a1), .val (.int (0 : Int32)), .val (.int (3 : Int32)), .unset, .unset, .unset] [(.int (3 : Int32))])) rfl (hb hby d51_1) rfl (by decide) (cap := 3) (by decide) (by decide) (by decide) (by decide)
  obtain ⟨b101, g101⟩ : ∃ z, z = h0.size := ⟨_, rfl⟩
  rw [← g101] at A101 st101
  have g_b101 : n0 ≤ b101 := Nat.le_trans Z0 (Nat.le_of_eq g101.symm)
  have sz_b101 : h0.size ≤ b101 := Nat.le_trans (Keep.refl h0 []).1 (Nat.le_of_eq g101.symm)
  have ne_a1_b101 : a1 ≠ b101 := by rw [g101]; exact Nat.ne_of_lt (V1).lt
  have V_b101 : Arv Z h101 b101 k101 .byte (3 : Int32) [(.int (0 : Int32)), (.int (0 : Int32)), (.int (0 : Int32))] (.int (0 : Int32)) := Arv.pad (Arv.new A101 (by decide)) (pad_rep [] _ 3)
  refine own_st st101 ?_
  show own_Goes p e below (T101.setTop (mkF m 3 #[.val (.ref a1), .val (.int (0 : Int32)), .val (.int (3 : Int32)), .unset, .unset, .unset] [(.ref b101)])) _
  refine own_st (fun _ k => XS.astoreN X101.here hx rfl (hb hby d51_3) rfl rfl (l' := #[.val (.ref a1), .val (.int (0 : Int32)), .val (.int (3 : Int32)), .val (.ref b101), .unset, .unset]) rfl k) ?_
  show own_Goes p e below (T101.setTop (mkF m 4 #[.val (.ref a1), .val (.int (0 : Int32)), .val (.int (3 : Int32)), .val (.ref b101), .unset, .unset] [])) _
  refine own_st (fun _ k => XS.aloadN X101.here hx rfl (hb hby d51_4) rfl rfl k) ?_
  show own_Goes p e below (T101.setTop (mkF m 5 #[.val (.ref a1), .val (.int (0 : Int32)), .val (.int (3 : Int32)), .val (.ref b101), .unset, .unset] [(.ref a1)])) _
  refine own_st (fun _ k => XS.iloadN X101.here hx rfl (hb hby d51_5) rfl k) ?_
  show own_Goes p e below (T101.setTop (mkF m 6 #[.val (.ref a1), .val (.int (0 : Int32)), .val (.int (3 : Int32)), .val (.ref b101), .unset, .unset] [(.int (0 : Int32)), (.ref a1)])) _
  refine own_st (fun _ k => XS.aloadN X101.here hx rfl (hb hby d51_6) rfl rfl k) ?_
  show own_Goes p e below (T101.setTop (mkF m 7 #[.val (.ref a1), .val (.int (0 : Int32)), .val (.int (3 : Int32)), .val (.ref b101), .unset, .unset] [(.ref b101), (.int (0 : Int32)), (.ref a1)])) _
  refine own_st (fun _ k => XS.iconst X101.here hx rfl (hb hby d51_7) k) ?_
  show own_Goes p e below (T101.setTop (mkF m 8 #[.val (.ref a1), .val (.int (0 : Int32)), .val (.int (3 : Int32)), .val (.ref b101), .unset, .unset] [(.int (0 : Int32)), (.ref b101), (.int (0 : Int32)), (.ref a1)])) _
  refine own_st (fun _ k => XS.iloadN X101.here hx rfl (hb hby d51_8) rfl k) ?_
  show own_Goes p e below (T101.setTop (mkF m 9 #[.val (.ref a1), .val (.int (0 : Int32)), .val (.int (3 : Int32)), .val (.ref b101), .unset, .unset] [(.int (3 : Int32)), (.int (0 : Int32)), (.ref b101), (.int (0 : Int32)), (.ref a1)])) _
  have f103 := (Nat.le_trans Z0 E101.1)
  have f104 := (V1.ext E101)
  obtain ⟨_, T102, h102, L102, X102, e102, ⟨rfl, N102q, K102, V102⟩, st102⟩ := own_callS (argsL := [(.ref a1), (.int (0 : Int32)), (.ref b101), (.int (0 : Int32)), (.int (3 : Int32))]) (rest := []) (pc := 9) (W := 0) (Ls := #[.val (.ref a1), .val (.int (0 : Int32)), .val (.int (3 : Int32)), .val (.ref b101), .unset, .unset]) (S := [(.int (3 : Int32)), (.int (0 : Int32)), (.ref b101), (.int (0 : Int32)), (.ref a1)]) X101 hx hZ hown (hw _ (List.mem_of_getElem? (i := 90) rfl)) (hw _ (List.mem_of_getElem? (i := 91) rfl)) (hw _ (List.mem_of_getElem? (i := 88) rfl)) (hw _ (List.mem_of_getElem? (i := 92) rfl)) (by decide) (rm50 l Z a0 hw [] a1 b101 ka k101 c0 c1 c2 h101 n0 f103 f104 V_b101 g_b101 ne_a1_b101 hc0 hc1 hc2) (by decide) (by decide) e101 (by rw [hml]; rfl) (lenOf pd___CI_BII_I rfl) rfl (Nat.le_of_eq rfl) (hb hby d51_9) (by decide) (by decide)
  refine own_st st102 ?_
  have N102 := Fr.app N0 N102q
  show own_Goes p e below (T102.setTop (mkF m 12 #[.val (.ref a1), .val (.int (0 : Int32)), .val (.int (3 : Int32)), .val (.ref b101), .unset, .unset] [(.int (3 : Int32))])) _
  refine own_st (fun _ k => XS.istore X102.here hx rfl (hb hby d51_12) rfl (l' := #[.val (.ref a1), .val (.int (0 : Int32)), .val (.int (3 : Int32)), .val (.ref b101), .val (.int (3 : Int32)), .unset]) rfl k) ?_
  show own_Goes p e below (T102.setTop (mkF m 14 #[.val (.ref a1), .val (.int (0 : Int32)), .val (.int (3 : Int32)), .val (.ref b101), .val (.int (3 : Int32)), .unset] [])) _
  refine own_st (fun _ k => XS.iload X102.here hx rfl (hb hby d51_14) rfl k) ?_
  show own_Goes p e below (T102.setTop (mkF m 16 #[.val (.ref a1), .val (.int (0 : Int32)), .val (.int (3 : Int32)), .val (.ref b101), .val (.int (3 : Int32)), .unset] [(.int (3 : Int32))])) _
  refine own_st (fun _ k => XS.iloadN X102.here hx rfl (hb hby d51_16) rfl k) ?_
  show own_Goes p e below (T102.setTop (mkF m 17 #[.val (.ref a1), .val (.int (0 : Int32)), .val (.int (3 : Int32)), .val (.ref b101), .val (.int (3 : Int32)), .unset] [(.int (3 : Int32)), (.int (3 : Int32))])) _
  refine own_st (fun _ k => XS.icmpYes X102.here hx rfl (pc0 := 17) (pc' := 57) rfl (hb hby d51_17) rfl (teq (by decide : (3 : Int32) = (3 : Int32))).1 (by decide) (by decide) k) ?_
  show own_Goes p e below (T102.setTop (mkF m 57 #[.val (.ref a1), .val (.int (0 : Int32)), .val (.int (3 : Int32)), .val (.ref b101), .val (.int (3 : Int32)), .unset] [])) _
  refine own_st (fun _ k => XS.aloadN X102.here hx rfl (hb hby d51_57) rfl rfl k) ?_
  show own_Goes p e below (T102.setTop (mkF m 58 #[.val (.ref a1), .val (.int (0 : Int32)), .val (.int (3 : Int32)), .val (.ref b101), .val (.int (3 : Int32)), .unset] [(.ref b101)])) _
  have f105 := (((Keep.refl h0 []).ext E101).trans K102 (allS (Or.inr sz_b101) all0))
  exact own_retA X102 hx hlk hret rfl rfl rfl (hb hby d51_58) (by decide) (by decide) e102 ⟨b101, k101, rfl, g_b101, sz_b101, N102, f105, V102⟩
theorem d52_0 : decode jdk_42_method_149_code 0 = .ok (.aload_n 0, 1) := by decide +kernel
theorem d52_1 : decode jdk_42_method_149_code 1 = .ok (.invokespecial 1, 3) := by decide +kernel
theorem d52_4 : decode jdk_42_method_149_code 4 = .ok (.iload_n 3, 1) := by decide +kernel
theorem d52_5 : decode jdk_42_method_149_code 5 = .ok (.ifCond .ne 22, 3) := by decide +kernel
theorem d52_27 : decode jdk_42_method_149_code 27 = .ok (.getstatic 38, 3) := by decide +kernel
theorem d52_30 : decode jdk_42_method_149_code 30 = .ok (.ifCond .eq 28, 3) := by decide +kernel
theorem d52_33 : decode jdk_42_method_149_code 33 = .ok (.aload_n 1, 1) := by decide +kernel
theorem d52_34 : decode jdk_42_method_149_code 34 = .ok (.iload_n 2, 1) := by decide +kernel
theorem d52_35 : decode jdk_42_method_149_code 35 = .ok (.iload_n 3, 1) := by decide +kernel
theorem d52_36 : decode jdk_42_method_149_code 36 = .ok (.invokestatic 177, 3) := by decide +kernel
theorem d52_39 : decode jdk_42_method_149_code 39 = .ok (.astore 5, 2) := by decide +kernel
theorem d52_41 : decode jdk_42_method_149_code 41 = .ok (.aload_n 0, 1) := by decide +kernel
theorem d52_42 : decode jdk_42_method_149_code 42 = .ok (.aload 5, 2) := by decide +kernel
theorem d52_44 : decode jdk_42_method_149_code 44 = .ok (.iload_n 3, 1) := by decide +kernel
theorem d52_45 : decode jdk_42_method_149_code 45 = .ok (.invokestatic 47, 3) := by decide +kernel
theorem d52_48 : decode jdk_42_method_149_code 48 = .ok (.putfield 15, 3) := by decide +kernel
theorem d52_51 : decode jdk_42_method_149_code 51 = .ok (.aload_n 0, 1) := by decide +kernel
theorem d52_52 : decode jdk_42_method_149_code 52 = .ok (.aload 5, 2) := by decide +kernel
theorem d52_54 : decode jdk_42_method_149_code 54 = .ok (.putfield 9, 3) := by decide +kernel
theorem d52_57 : decode jdk_42_method_149_code 57 = .ok (.return_, 1) := by decide +kernel
theorem ef_52 (m : MethodId) (e0 : Addr) (e1 : Addr) (e2 : Int32) (e3 : Int32) : entryFrame m #[(.ref e0), (.ref e1), (.int e2), (.int e3), .null] 6 = mkF m 0 #[.val (.ref e0), .val (.ref e1), .val (.int e2), .val (.int e3), .val .null, .unset] [] := by first | (simp [entryFrame, mkF, argsToLocals, Value.category]; done) | rfl
set_option maxRecDepth 65536 in
set_option maxHeartbeats 40000000 in
theorem rm52 (l : Launch) (Z : State) (a0 : Array Value) (hw : ∀ d ∈ tables_1, d.before a0 Z = true) (ws : List Jvm.Cond) (x1 a1 : Addr) (ka : ClassId) (cs : Int32) (c0 c1 c2 : Int32) (h0 : Heap) (n0 : Nat) (Z0 : n0 ≤ h0.size) (F1 : Fld Z h0 x1 "java/lang/String" "value" "[B" .null) (F2 : Fld Z h0 x1 "java/lang/String" "coder" "B" (.int (0 : Int32))) (E1 : Exa Z h0 x1 "java/lang/String") (V1 : Arv Z h0 a1 ka .char (3 : Int32) [(.int c0), (.int c1), (.int c2)] (.int (0 : Int32))) (g1 : n0 ≤ x1) (ne1 : a1 ≠ x1) (C1 : Sta Z h0 "java/lang/String" "COMPACT_STRINGS" "Z" (.int cs)) (hcs : ¬ cs = (0 : Int32)) (hc0 : own_c8 c0) (hc1 : own_c8 c1) (hc2 : own_c8 c2) :
    own_Ct l Z (⟨"java/lang/String", "<init>", "([CIILjava/lang/Void;)V"⟩ : MethodName) jdk_42_method_149_code 6 none ws ({ frames := 2, cells := 1, slots := 3, locals := 36 } : Room) #[(.ref x1), (.ref a1), (.int (0 : Int32)), (.int (3 : Int32)), .null] h0 (fun v h L => v = none ∧ Fr n0 L ∧ Keep h0 h [x1] ∧ ∃ (b : Addr) (kb : ClassId), n0 ≤ b ∧ h0.size ≤ b ∧ own_Str Z h x1 b kb (3 : Int32) [(.int c0.toInt8.toInt32), (.int c1.toInt8.toInt32), (.int c2.toInt8.toInt32)]) ({ frames := 2, cells := 1, slots := 3, locals := 36 } : Room).cells ({ frames := 2, cells := 1, slots := 3, locals := 36 } : Room).slots := by
  refine own_met (plainFor_of_name pn_java_lang_String) (fun p e s m below meth c s₁ X0 hx hby hml hret hlk hnm hown hZ e0 => ?_)
  have hml : c.maxLocals = 6 := hml
  have N0 := Fr.nil n0
  refine own_st (fun _ k => castTop (ef_52 m x1 a1 (0 : Int32) (3 : Int32)) k) ?_
  show own_Goes p e below (s₁.setTop (mkF m 0 #[.val (.ref x1), .val (.ref a1), .val (.int (0 : Int32)), .val (.int (3 : Int32)), .val .null, .unset] [])) _
  refine own_st (fun _ k => XS.aloadN X0.here hx rfl (hb hby d52_0) rfl rfl k) ?_
  show own_Goes p e below (s₁.setTop (mkF m 1 #[.val (.ref x1), .val (.ref a1), .val (.int (0 : Int32)), .val (.int (3 : Int32)), .val .null, .unset] [(.ref x1)])) _
  obtain ⟨T101, X101, e101, st101⟩ := initO X0 hx hZ hown (hw _ (List.mem_of_getElem? (i := 19) rfl)) (hw _ (List.mem_of_getElem? (i := 20) rfl)) (hw _ (List.mem_of_getElem? (i := 21) rfl)) e0 (g := (mkF m 1 #[.val (.ref x1), .val (.ref a1), .val (.int (0 : Int32)), .val (.int (3 : Int32)), .val .null, .unset] [(.ref x1)])) rfl (by rw [hml]; rfl) rfl (hb hby d52_1) (by decide) (W := 0) (by show 2 * 0 + _ ≤ _; exact Nat.le_of_eq rfl) (by decide)
  refine own_st st101 ?_
  show own_Goes p e below (T101.setTop (mkF m 4 #[.val (.ref x1), .val (.ref a1), .val (.int (0 : Int32)), .val (.int (3 : Int32)), .val .null, .unset] [])) _
  refine own_st (fun _ k => XS.iloadN X101.here hx rfl (hb hby d52_4) rfl k) ?_
  show own_Goes p e below (T101.setTop (mkF m 5 #[.val (.ref x1), .val (.ref a1), .val (.int (0 : Int32)), .val (.int (3 : Int32)), .val .null, .unset] [(.int (3 : Int32))])) _
  refine own_st (fun _ k => XS.ifYes X101.here hx rfl (pc0 := 5) (pc' := 27) rfl (hb hby d52_5) rfl ((if0 _ _).trans (feq (by decide : ¬ ((3 : Int32) = (0 : Int32)))).2) (by decide) (by decide) k) ?_
  show own_Goes p e below (T101.setTop (mkF m 27 #[.val (.ref x1), .val (.ref a1), .val (.int (0 : Int32)), .val (.int (3 : Int32)), .val .null, .unset] [])) _
  obtain ⟨T102, X102, e102, st102⟩ := getS2 X101 hx hZ hown (host := "") (Or.inl (hw _ (List.mem_of_getElem? (i := 4) rfl))) Via.refl e101 C1 (g := (mkF m 27 #[.val (.ref x1), .val (.ref a1), .val (.int (0 : Int32)), .val (.int (3 : Int32)), .val .null, .unset] [])) rfl (hb hby d52_27)
  refine own_st st102 ?_
  show own_Goes p e below (T102.setTop (mkF m 30 #[.val (.ref x1), .val (.ref a1), .val (.int (0 : Int32)), .val (.int (3 : Int32)), .val .null, .unset] [(.int cs)])) _
  refine own_st (fun _ k => XS.ifNo X102.here hx rfl (hb hby d52_30) rfl ((if0 _ _).trans (feq hcs).1) k) ?_
  show own_Goes p e below (T102.setTop (mkF m 33 #[.val (.ref x1), .val (.ref a1), .val (.int (0 : Int32)), .val (.int (3 : Int32)), .val .null, .unset] [])) _
  refine own_st (fun _ k => XS.aloadN X102.here hx rfl (hb hby d52_33) rfl rfl k) ?_
  show own_Goes p e below (T102.setTop (mkF m 34 #[.val (.ref x1), .val (.ref a1), .val (.int (0 : Int32)), .val (.int (3 : Int32)), .val .null, .unset] [(.ref a1)])) _
  refine own_st (fun _ k => XS.iloadN X102.here hx rfl (hb hby d52_34) rfl k) ?_
  show own_Goes p e below (T102.setTop (mkF m 35 #[.val (.ref x1), .val (.ref a1), .val (.int (0 : Int32)), .val (.int (3 : Int32)), .val .null, .unset] [(.int (0 : Int32)), (.ref a1)])) _
  refine own_st (fun _ k => XS.iloadN X102.here hx rfl (hb hby d52_35) rfl k) ?_
  show own_Goes p e below (T102.setTop (mkF m 36 #[.val (.ref x1), .val (.ref a1), .val (.int (0 : Int32)), .val (.int (3 : Int32)), .val .null, .unset] [(.int (3 : Int32)), (.int (0 : Int32)), (.ref a1)])) _
  obtain ⟨_, T103, h103, L103, X103, e103, ⟨b103, k103, rfl, g103, s103, N103q, K103, V103⟩, st103⟩ := own_callS (argsL := [(.ref a1), (.int (0 : Int32)), (.int (3 : Int32))]) (rest := []) (pc := 36) (W := 0) (Ls := #[.val (.ref x1), .val (.ref a1), .val (.int (0 : Int32)), .val (.int (3 : Int32)), .val .null, .unset]) (S := [(.int (3 : Int32)), (.int (0 : Int32)), (.ref a1)]) X102 hx hZ hown (hw _ (List.mem_of_getElem? (i := 86) rfl)) (hw _ (List.mem_of_getElem? (i := 87) rfl)) (hw _ (List.mem_of_getElem? (i := 88) rfl)) (hw _ (List.mem_of_getElem? (i := 89) rfl)) (by decide) (rm51 l Z a0 hw [] a1 ka c0 c1 c2 h0 n0 Z0 V1 hc0 hc1 hc2) (by decide) (by decide) e102 (by rw [hml]; rfl) (lenOf pd___CII__B rfl) rfl (Nat.le_of_eq rfl) (hb hby d52_36) (by decide) (by decide)
  refine own_st st103 ?_
  have N103 := Fr.app N0 N103q
  have ne103 : x1 ≠ b103 := fun q => Nat.lt_irrefl _ (Nat.lt_of_lt_of_le (q ▸ E1.lt) s103)
  show own_Goes p e below (T103.setTop (mkF m 39 #[.val (.ref x1), .val (.ref a1), .val (.int (0 : Int32)), .val (.int (3 : Int32)), .val .null, .unset] [(.ref b103)])) _
  refine own_st (fun _ k => XS.astore X103.here hx rfl (hb hby d52_39) rfl rfl (l' := #[.val (.ref x1), .val (.ref a1), .val (.int (0 : Int32)), .val (.int (3 : Int32)), .val .null, .val (.ref b103)]) rfl k) ?_
  show own_Goes p e below (T103.setTop (mkF m 41 #[.val (.ref x1), .val (.ref a1), .val (.int (0 : Int32)), .val (.int (3 : Int32)), .val .null, .val (.ref b103)] [])) _
  refine own_st (fun _ k => XS.aloadN X103.here hx rfl (hb hby d52_41) rfl rfl k) ?_
  show own_Goes p e below (T103.setTop (mkF m 42 #[.val (.ref x1), .val (.ref a1), .val (.int (0 : Int32)), .val (.int (3 : Int32)), .val .null, .val (.ref b103)] [(.ref x1)])) _
  refine own_st (fun _ k => XS.aload X103.here hx rfl (hb hby d52_42) rfl rfl k) ?_
  show own_Goes p e below (T103.setTop (mkF m 44 #[.val (.ref x1), .val (.ref a1), .val (.int (0 : Int32)), .val (.int (3 : Int32)), .val .null, .val (.ref b103)] [(.ref b103), (.ref x1)])) _
  refine own_st (fun _ k => XS.iloadN X103.here hx rfl (hb hby d52_44) rfl k) ?_
  show own_Goes p e below (T103.setTop (mkF m 45 #[.val (.ref x1), .val (.ref a1), .val (.int (0 : Int32)), .val (.int (3 : Int32)), .val .null, .val (.ref b103)] [(.int (3 : Int32)), (.ref b103), (.ref x1)])) _
  have f105 := (Nat.le_trans Z0 K103.1)
  obtain ⟨_, T104, h104, L104, X104, e104, ⟨rfl, rfl, q104⟩, st104⟩ := own_callS (argsL := [(.ref b103), (.int (3 : Int32))]) (rest := [(.ref x1)]) (pc := 45) (W := 1) (Ls := #[.val (.ref x1), .val (.ref a1), .val (.int (0 : Int32)), .val (.int (3 : Int32)), .val .null, .val (.ref b103)]) (S := [(.int (3 : Int32)), (.ref b103), (.ref x1)]) X103 hx hZ hown (hw _ (List.mem_of_getElem? (i := 93) rfl)) (hw _ (List.mem_of_getElem? (i := 94) rfl)) (hw _ (List.mem_of_getElem? (i := 88) rfl)) (hw _ (List.mem_of_getElem? (i := 95) rfl)) (by decide) (rm20 l Z a0 hw [] b103 (3 : Int32) k103 _ h103 n0 f105 V103) (by decide) (by decide) e103 (by rw [hml]; rfl) (lenOf pd___BI_B rfl) rfl (Nat.le_of_eq rfl) (hb hby d52_45) (by decide) (by decide)
  refine own_st st104 ?_
  have N104 := Fr.app N103 (Fr.nil n0)
  show own_Goes p e below (T104.setTop (mkF m 48 #[.val (.ref x1), .val (.ref a1), .val (.int (0 : Int32)), .val (.int (3 : Int32)), .val .null, .val (.ref b103)] [(.int (0 : Int32)), (.ref x1)])) _
  have f106 := (F2.keep K103 nin0)
  have f107 := (E1.keep K103)
  obtain ⟨T108, h108, X108, e108, W108, st108⟩ := putFN X104 hx hZ hown (hw _ (List.mem_of_getElem? (i := 24) rfl)) Via.refl (e104.trans q104) f106 f107 (Or.inr ⟨(hw _ (List.mem_of_getElem? (i := 25) rfl)), rfl, hnm⟩) (hw _ (List.mem_of_getElem? (i := 10) rfl)) (ty := .byte) (v' := (.int (0 : Int32))) (by decide) rfl (by decide) (g := (mkF m 48 #[.val (.ref x1), .val (.ref a1), .val (.int (0 : Int32)), .val (.int (3 : Int32)), .val .null, .val (.ref b103)] [(.int (0 : Int32)), (.ref x1)])) rfl rfl (hb hby d52_48)
  have Fw108 := f106.same W108
  have N108 := Fr.snoc X108 N104 g1
  refine own_st st108 ?_
  show own_Goes p e below (T108.setTop (mkF m 51 #[.val (.ref x1), .val (.ref a1), .val (.int (0 : Int32)), .val (.int (3 : Int32)), .val .null, .val (.ref b103)] [])) _
  refine own_st (fun _ k => XS.aloadN X108.here hx rfl (hb hby d52_51) rfl rfl k) ?_
  show own_Goes p e below (T108.setTop (mkF m 52 #[.val (.ref x1), .val (.ref a1), .val (.int (0 : Int32)), .val (.int (3 : Int32)), .val .null, .val (.ref b103)] [(.ref x1)])) _
  refine own_st (fun _ k => XS.aload X108.here hx rfl (hb hby d52_52) rfl rfl k) ?_
  show own_Goes p e below (T108.setTop (mkF m 54 #[.val (.ref x1), .val (.ref a1), .val (.int (0 : Int32)), .val (.int (3 : Int32)), .val .null, .val (.ref b103)] [(.ref b103), (.ref x1)])) _
  have f109 := ((F1.keep K103 nin0).other W108 (Or.inr (slot_ne (t := (.array .byte)) (t' := .byte) (Or.inr (hw _ (List.mem_of_getElem? (i := 23) rfl))) (Or.inr (hw _ (List.mem_of_getElem? (i := 25) rfl))) (by decide) (by decide) (by decide))))
  have f110 := (f107.wr W108)
  obtain ⟨T111, h111, X111, e111, W111, st111⟩ := putF X108 hx hZ hown (host := "") (Or.inl (hw _ (List.mem_of_getElem? (i := 22) rfl))) Via.refl e108 f109 f110 (Or.inr ⟨(hw _ (List.mem_of_getElem? (i := 23) rfl)), rfl, hnm⟩) (hw _ (List.mem_of_getElem? (i := 10) rfl)) (ty := (.array .byte)) (by decide) rfl rfl (g := (mkF m 54 #[.val (.ref x1), .val (.ref a1), .val (.int (0 : Int32)), .val (.int (3 : Int32)), .val .null, .val (.ref b103)] [(.ref b103), (.ref x1)])) rfl rfl (hb hby d52_54)
  have Fw111 := f109.same W111
  have N111 := Fr.snoc X111 N108 g1
  refine own_st st111 ?_
  show own_Goes p e below (T111.setTop (mkF m 57 #[.val (.ref x1), .val (.ref a1), .val (.int (0 : Int32)), .val (.int (3 : Int32)), .val .null, .val (.ref b103)] [])) _
  have f112 := ((((Keep.refl h0 [x1]).trans K103 all0).wr W108 (Or.inl (by simp))).wr W111 (Or.inl (by simp)))
  have f113 := (f110.wr W111)
  have f114 := (Fw108.other W111 (Or.inr (slot_ne (t := .byte) (t' := (.array .byte)) (Or.inr (hw _ (List.mem_of_getElem? (i := 25) rfl))) (Or.inr (hw _ (List.mem_of_getElem? (i := 23) rfl))) (by decide) (by decide) (by decide))))
  have f115 := ((V103.other W108 (Ne.symm ne103)).other W111 (Ne.symm ne103))
  exact own_retV X111 hx hlk hret (hb hby d52_57) (by decide) (by decide) e111 ⟨rfl, N111, f112, b103, k103, g103, s103, f113, Fw111, f114, f115⟩
theorem d53_0 : decode jdk_42_method_3_code 0 = .ok (.aload_n 0, 1) := by decide +kernel
theorem d53_1 : decode jdk_42_method_3_code 1 = .ok (.aload_n 1, 1) := by decide +kernel
theorem d53_2 : decode jdk_42_method_3_code 2 = .ok (.iconst 0, 1) := by decide +kernel
theorem d53_3 : decode jdk_42_method_3_code 3 = .ok (.aload_n 1, 1) := by decide +kernel
theorem d53_4 : decode jdk_42_method_3_code 4 = .ok (.arraylength, 1) := by decide +kernel
theorem d53_5 : decode jdk_42_method_3_code 5 = .ok (.aconst_null, 1) := by decide +kernel
theorem d53_6 : decode jdk_42_method_3_code 6 = .ok (.invokespecial 27, 3) := by decide +kernel
theorem d53_9 : decode jdk_42_method_3_code 9 = .ok (.return_, 1) := by decide +kernel
theorem ef_53 (m : MethodId) (e0 : Addr) (e1 : Addr) : entryFrame m #[(.ref e0), (.ref e1)] 2 = mkF m 0 #[.val (.ref e0), .val (.ref e1)] [] := by first | (simp [entryFrame, mkF, argsToLocals, Value.category]; done) | rfl
set_option maxRecDepth 65536 in
set_option maxHeartbeats 40000000 in
theorem rm53 (l : Launch) (Z : State) (a0 : Array Value) (hw : ∀ d ∈ tables_1, d.before a0 Z = true) (ws : List Jvm.Cond) (x1 a1 : Addr) (ka : ClassId) (cs : Int32) (c0 c1 c2 : Int32) (h0 : Heap) (n0 : Nat) (Z0 : n0 ≤ h0.size) (F1 : Fld Z h0 x1 "java/lang/String" "value" "[B" .null) (F2 : Fld Z h0 x1 "java/lang/String" "coder" "B" (.int (0 : Int32))) (E1 : Exa Z h0 x1 "java/lang/String") (V1 : Arv Z h0 a1 ka .char (3 : Int32) [(.int c0), (.int c1), (.int c2)] (.int (0 : Int32))) (g1 : n0 ≤ x1) (ne1 : a1 ≠ x1) (C1 : Sta Z h0 "java/lang/String" "COMPACT_STRINGS" "Z" (.int cs)) (hcs : ¬ cs = (0 : Int32)) (hc0 : own_c8 c0) (hc1 : own_c8 c1) (hc2 : own_c8 c2) :
    own_Ct l Z (⟨"java/lang/String", "<init>", "([C)V"⟩ : MethodName) jdk_42_method_3_code 2 none ws ({ frames := 3, cells := 1, slots := 3, locals := 60 } : Room) #[(.ref x1), (.ref a1)] h0 (fun v h L => v = none ∧ Fr n0 L ∧ Keep h0 h [x1] ∧ ∃ (b : Addr) (kb : ClassId), n0 ≤ b ∧ h0.size ≤ b ∧ own_Str Z h x1 b kb (3 : Int32) [(.int c0.toInt8.toInt32), (.int c1.toInt8.toInt32), (.int c2.toInt8.toInt32)]) ({ frames := 3, cells := 1, slots := 3, locals := 60 } : Room).cells ({ frames := 3, cells := 1, slots := 3, locals := 60 } : Room).slots := by
  refine own_met (plainFor_of_name pn_java_lang_String) (fun p e s m below meth c s₁ X0 hx hby hml hret hlk hnm hown hZ e0 => ?_)
  have hml : c.maxLocals = 2 := hml
  have N0 := Fr.nil n0
  refine own_st (fun _ k => castTop (ef_53 m x1 a1) k) ?_
  show own_Goes p e below (s₁.setTop (mkF m 0 #[.val (.ref x1), .val (.ref a1)] [])) _
  refine own_st (fun _ k => XS.aloadN X0.here hx rfl (hb hby d53_0) rfl rfl k) ?_
  show own_Goes p e below (s₁.setTop (mkF m 1 #[.val (.ref x1), .val (.ref a1)] [(.ref x1)])) _
  refine own_st (fun _ k => XS.aloadN X0.here hx rfl (hb hby d53_1) rfl rfl k) ?_
  show own_Goes p e below (s₁.setTop (mkF m 2 #[.val (.ref x1), .val (.ref a1)] [(.ref a1), (.ref x1)])) _
  refine own_st (fun _ k => XS.iconst X0.here hx rfl (hb hby d53_2) k) ?_
  show own_Goes p e below (s₁.setTop (mkF m 3 #[.val (.ref x1), .val (.ref a1)] [(.int (0 : Int32)), (.ref a1), (.ref x1)])) _
  refine own_st (fun _ k => XS.aloadN X0.here hx rfl (hb hby d53_3) rfl rfl k) ?_
  show own_Goes p e below (s₁.setTop (mkF m 4 #[.val (.ref x1), .val (.ref a1)] [(.ref a1), (.int (0 : Int32)), (.ref a1), (.ref x1)])) _
  refine own_st (own_len (pc := 4) (Ls := #[.val (.ref x1), .val (.ref a1)]) (rest := [(.int (0 : Int32)), (.ref a1), (.ref x1)]) X0 hx hZ e0 V1 (hb hby d53_4)) ?_
  show own_Goes p e below (s₁.setTop (mkF m 5 #[.val (.ref x1), .val (.ref a1)] [(.int (3 : Int32)), (.int (0 : Int32)), (.ref a1), (.ref x1)])) _
  refine own_st (fun _ k => XS.aconstNull X0.here hx rfl (hb hby d53_5) k) ?_
  show own_Goes p e below (s₁.setTop (mkF m 6 #[.val (.ref x1), .val (.ref a1)] [.null, (.int (3 : Int32)), (.int (0 : Int32)), (.ref a1), (.ref x1)])) _
  obtain ⟨_, T101, h101, L101, X101, e101, ⟨rfl, N101q, K101, bb101, kb101, gb101, sb101, T101q⟩, st101⟩ := own_callI (argsL := [(.ref a1), (.int (0 : Int32)), (.int (3 : Int32)), .null]) (rest := []) (pc := 6) (W := 0) (Ls := #[.val (.ref x1), .val (.ref a1)]) (S := [.null, (.int (3 : Int32)), (.int (0 : Int32)), (.ref a1), (.ref x1)]) X0 hx hZ hown rfl (hw _ (List.mem_of_getElem? (i := 83) rfl)) (hw _ (List.mem_of_getElem? (i := 84) rfl)) (hw _ (List.mem_of_getElem? (i := 2) rfl)) (hw _ (List.mem_of_getElem? (i := 85) rfl)) (by decide) (rm52 l Z a0 hw [] x1 a1 ka cs c0 c1 c2 h0 n0 Z0 F1 F2 E1 V1 g1 ne1 C1 hcs hc0 hc1 hc2) (by decide) (by decide) e0 (by rw [hml]; rfl) (lenOf pd___CIILjava_lang_Void__V rfl) rfl (Nat.le_of_eq rfl) (hb hby d53_6) (by decide) (by decide)
  refine own_st st101 ?_
  have N101 := Fr.app N0 N101q
  show own_Goes p e below (T101.setTop (mkF m 9 #[.val (.ref x1), .val (.ref a1)] [])) _
  have f102 := ((Keep.refl h0 [x1]).trans K101 (allS (Or.inl (by simp)) all0))
  exact own_retV X101 hx hlk hret (hb hby d53_9) (by decide) (by decide) e101 ⟨rfl, N101, f102, bb101, kb101, gb101, sb101, T101q⟩
theorem d60_0 : decode jdk_42_method_149_code 0 = .ok (.aload_n 0, 1) := by decide +kernel
theorem d60_1 : decode jdk_42_method_149_code 1 = .ok (.invokespecial 1, 3) := by decide +kernel
theorem d60_4 : decode jdk_42_method_149_code 4 = .ok (.iload_n 3, 1) := by decide +kernel
theorem d60_5 : decode jdk_42_method_149_code 5 = .ok (.ifCond .ne 22, 3) := by decide +kernel
theorem d60_8 : decode jdk_42_method_149_code 8 = .ok (.aload_n 0, 1) := by decide +kernel
theorem d60_9 : decode jdk_42_method_149_code 9 = .ok (.ldc 7, 2) := by decide +kernel
theorem d60_11 : decode jdk_42_method_149_code 11 = .ok (.getfield 9, 3) := by decide +kernel
theorem d60_14 : decode jdk_42_method_149_code 14 = .ok (.putfield 9, 3) := by decide +kernel
theorem d60_17 : decode jdk_42_method_149_code 17 = .ok (.aload_n 0, 1) := by decide +kernel
theorem d60_18 : decode jdk_42_method_149_code 18 = .ok (.ldc 7, 2) := by decide +kernel
theorem d60_20 : decode jdk_42_method_149_code 20 = .ok (.getfield 15, 3) := by decide +kernel
theorem d60_23 : decode jdk_42_method_149_code 23 = .ok (.putfield 15, 3) := by decide +kernel
theorem d60_26 : decode jdk_42_method_149_code 26 = .ok (.return_, 1) := by decide +kernel
theorem ef_60 (m : MethodId) (e0 : Addr) (e1 : Addr) (e2 : Int32) (e3 : Int32) : entryFrame m #[(.ref e0), (.ref e1), (.int e2), (.int e3), .null] 6 = mkF m 0 #[.val (.ref e0), .val (.ref e1), .val (.int e2), .val (.int e3), .val .null, .unset] [] := by first | (simp [entryFrame, mkF, argsToLocals, Value.category]; done) | rfl
set_option maxRecDepth 65536 in
set_option maxHeartbeats 40000000 in
theorem rm60 (l : Launch) (Z : State) (a0 : Array Value) (hw : ∀ d ∈ tables_1, d.before a0 Z = true) (ws : List Jvm.Cond) (x1 a1 : Addr) (h0 : Heap) (n0 : Nat) (Z0 : n0 ≤ h0.size) (F1 : Fld Z h0 x1 "java/lang/String" "value" "[B" .null) (F2 : Fld Z h0 x1 "java/lang/String" "coder" "B" (.int (0 : Int32))) (E1 : Exa Z h0 x1 "java/lang/String") (g1 : n0 ≤ x1) (O0 : Old Z n0 h0) (hh0 : Jvm.Lit.constHeld Z "java/lang/String" 7) (hcw0 : Jvm.Lit.compactW.before a0 Z = true) :
    own_CtS l Z (⟨"java/lang/String", "<init>", "([CIILjava/lang/Void;)V"⟩ : MethodName) jdk_42_method_149_code 6 none ws ({ frames := 1, cells := 2, slots := 4, locals := 12 } : Room) #[(.ref x1), (.ref a1), (.int (0 : Int32)), (.int (0 : Int32)), .null] h0 (fun vm => own_E Z vm h0) (fun v h vm L => v = none ∧ Fr n0 L ∧ Keep h0 h [x1] ∧ (∃ (b : Addr) (kb : ClassId), own_Str Z h x1 b kb (0 : Int32) []) ∧ own_E Z vm h) ({ frames := 1, cells := 2, slots := 4, locals := 12 } : Room).cells ({ frames := 1, cells := 2, slots := 4, locals := 12 } : Room).slots := by
  refine own_metS (plainFor_of_name pn_java_lang_String) (fun p e s m below meth c s₁ X0 hx hby hml hret hlk hnm hown hZ e0 hs0 hP hS => ?_)
  have hml : c.maxLocals = 6 := hml
  have N0 := Fr.nil n0
  refine own_st (fun _ k => castTop (ef_60 m x1 a1 (0 : Int32) (0 : Int32)) k) ?_
  show own_Goes p e below (s₁.setTop (mkF m 0 #[.val (.ref x1), .val (.ref a1), .val (.int (0 : Int32)), .val (.int (0 : Int32)), .val .null, .unset] [])) _
  refine own_st (fun _ k => XS.aloadN X0.here hx rfl (hb hby d60_0) rfl rfl k) ?_
  show own_Goes p e below (s₁.setTop (mkF m 1 #[.val (.ref x1), .val (.ref a1), .val (.int (0 : Int32)), .val (.int (0 : Int32)), .val .null, .unset] [(.ref x1)])) _
  obtain ⟨T101, X101, e101, st101⟩ := initO X0 hx hZ hown (hw _ (List.mem_of_getElem? (i := 19) rfl)) (hw _ (List.mem_of_getElem? (i := 20) rfl)) (hw _ (List.mem_of_getElem? (i := 21) rfl)) e0 (g := (mkF m 1 #[.val (.ref x1), .val (.ref a1), .val (.int (0 : Int32)), .val (.int (0 : Int32)), .val .null, .unset] [(.ref x1)])) rfl (by rw [hml]; rfl) rfl (hb hby d60_1) (by decide) (W := 0) (by show 2 * 0 + _ ≤ _; exact Nat.le_of_eq rfl) (by decide)
  refine own_st st101 ?_
  show own_Goes p e below (T101.setTop (mkF m 4 #[.val (.ref x1), .val (.ref a1), .val (.int (0 : Int32)), .val (.int (0 : Int32)), .val .null, .unset] [])) _
  refine own_st (fun _ k => XS.iloadN X101.here hx rfl (hb hby d60_4) rfl k) ?_
  show own_Goes p e below (T101.setTop (mkF m 5 #[.val (.ref x1), .val (.ref a1), .val (.int (0 : Int32)), .val (.int (0 : Int32)), .val .null, .unset] [(.int (0 : Int32))])) _
  refine own_st (fun _ k => XS.ifNo X101.here hx rfl (hb hby d60_5) rfl ((if0 _ _).trans (teq (by decide : (0 : Int32) = (0 : Int32))).2) k) ?_
  show own_Goes p e below (T101.setTop (mkF m 8 #[.val (.ref x1), .val (.ref a1), .val (.int (0 : Int32)), .val (.int (0 : Int32)), .val .null, .unset] [])) _
  refine own_st (fun _ k => XS.aloadN X101.here hx rfl (hb hby d60_8) rfl rfl k) ?_
  show own_Goes p e below (T101.setTop (mkF m 9 #[.val (.ref x1), .val (.ref a1), .val (.int (0 : Int32)), .val (.int (0 : Int32)), .val .null, .unset] [(.ref x1)])) _
  rcases hP with hI | ⟨la, lb, lk, hL, hT⟩
  · obtain ⟨la, T102, h102, k102, lb, lk, X102, e102, E102, hS, hk102, hZ, hown, A102, C102, V102, R102, -, -, I102, hL, st102⟩ := ldcSVL X101 hx hZ hown (hw _ (List.mem_of_getElem? (i := 96) rfl)) (fun a ha => hw a (own_sa a ha)) e101 hS (Nat.zero_le _) (Fr.nil _) (fun b cl q => by rw [hs0]; exact O0.2.2 b cl q) hI (by simp) hh0 hcw0 (vs := []) (z := (0 : Int32)) ⟨by simp, by simp⟩ (by decide) (by decide) (g := (mkF m 9 #[.val (.ref x1), .val (.ref a1), .val (.int (0 : Int32)), .val (.int (0 : Int32)), .val .null, .unset] [(.ref x1)])) rfl (hb hby d60_9) (n := 0) (by decide) (by decide) (by decide) (by decide)
    have hT : own_Str Z h102 la lb lk (0 : Int32) [] := ⟨A102, V102, C102, R102⟩
    refine own_st st102 ?_
    have f103 := (F1.ext E102)
    have f104 := (E1.ext E102)
    have ne_la : la ≠ x1 := hT.2.1.ne f103 (fun q => nomatch q)
    have ne_lb : lb ≠ x1 := Ne.symm (f104.neArv hT.2.2.2 (hw _ (List.mem_of_getElem? (i := 10) rfl)))
    show own_Goes p e below (T102.setTop (mkF m 11 #[.val (.ref x1), .val (.ref a1), .val (.int (0 : Int32)), .val (.int (0 : Int32)), .val .null, .unset] [(.ref la), (.ref x1)])) _
    obtain ⟨T105, X105, e105, st105⟩ := getF X102 hx hZ hown (host := "") (Or.inl (hw _ (List.mem_of_getElem? (i := 22) rfl))) Via.refl e102 hT.2.1 (g := (mkF m 11 #[.val (.ref x1), .val (.ref a1), .val (.int (0 : Int32)), .val (.int (0 : Int32)), .val .null, .unset] [(.ref la), (.ref x1)])) rfl rfl (hb hby d60_11)
    refine own_st st105 ?_
    show own_Goes p e below (T105.setTop (mkF m 14 #[.val (.ref x1), .val (.ref a1), .val (.int (0 : Int32)), .val (.int (0 : Int32)), .val .null, .unset] [(.ref lb), (.ref x1)])) _
    obtain ⟨T106, h106, X106, e106, W106, st106⟩ := putF X105 hx hZ hown (host := "") (Or.inl (hw _ (List.mem_of_getElem? (i := 22) rfl))) Via.refl e105 f103 f104 (Or.inr ⟨(hw _ (List.mem_of_getElem? (i := 23) rfl)), rfl, hnm⟩) (hw _ (List.mem_of_getElem? (i := 10) rfl)) (ty := (.array .byte)) (by decide) rfl rfl (g := (mkF m 14 #[.val (.ref x1), .val (.ref a1), .val (.int (0 : Int32)), .val (.int (0 : Int32)), .val .null, .unset] [(.ref lb), (.ref x1)])) rfl rfl (hb hby d60_14)
    have Fw106 := f103.same W106
    have N106 := Fr.snoc X106 N0 g1
    refine own_st st106 ?_
    show own_Goes p e below (T106.setTop (mkF m 17 #[.val (.ref x1), .val (.ref a1), .val (.int (0 : Int32)), .val (.int (0 : Int32)), .val .null, .unset] [])) _
    refine own_st (fun _ k => XS.aloadN X106.here hx rfl (hb hby d60_17) rfl rfl k) ?_
    show own_Goes p e below (T106.setTop (mkF m 18 #[.val (.ref x1), .val (.ref a1), .val (.int (0 : Int32)), .val (.int (0 : Int32)), .val .null, .unset] [(.ref x1)])) _
    refine own_st (ldcAgain X106 hx hZ hown (hw _ (List.mem_of_getElem? (i := 96) rfl)) hL (g := (mkF m 18 #[.val (.ref x1), .val (.ref a1), .val (.int (0 : Int32)), .val (.int (0 : Int32)), .val .null, .unset] [(.ref x1)])) rfl (hb hby d60_18)) ?_
    show own_Goes p e below (T106.setTop (mkF m 20 #[.val (.ref x1), .val (.ref a1), .val (.int (0 : Int32)), .val (.int (0 : Int32)), .val .null, .unset] [(.ref la), (.ref x1)])) _
    have f107 := (hT.other W106 ne_la ne_lb)
    obtain ⟨T108, X108, e108, st108⟩ := getF X106 hx hZ hown (host := "") (Or.inl (hw _ (List.mem_of_getElem? (i := 24) rfl))) Via.refl e106 f107.2.2.1 (g := (mkF m 20 #[.val (.ref x1), .val (.ref a1), .val (.int (0 : Int32)), .val (.int (0 : Int32)), .val .null, .unset] [(.ref la), (.ref x1)])) rfl rfl (hb hby d60_20)
    refine own_st st108 ?_
    show own_Goes p e below (T108.setTop (mkF m 23 #[.val (.ref x1), .val (.ref a1), .val (.int (0 : Int32)), .val (.int (0 : Int32)), .val .null, .unset] [(.int (0 : Int32)), (.ref x1)])) _
    have f109 := ((F2.ext E102).other W106 (Or.inr (slot_ne (t := .byte) (t' := (.array .byte)) (Or.inr (hw _ (List.mem_of_getElem? (i := 25) rfl))) (Or.inr (hw _ (List.mem_of_getElem? (i := 23) rfl))) (by decide) (by decide) (by decide))))
    have f110 := (f104.wr W106)
    obtain ⟨T111, h111, X111, e111, W111, st111⟩ := putFN X108 hx hZ hown (hw _ (List.mem_of_getElem? (i := 24) rfl)) Via.refl e108 f109 f110 (Or.inr ⟨(hw _ (List.mem_of_getElem? (i := 25) rfl)), rfl, hnm⟩) (hw _ (List.mem_of_getElem? (i := 10) rfl)) (ty := .byte) (v' := (.int (0 : Int32))) (by decide) rfl (by decide) (g := (mkF m 23 #[.val (.ref x1), .val (.ref a1), .val (.int (0 : Int32)), .val (.int (0 : Int32)), .val .null, .unset] [(.int (0 : Int32)), (.ref x1)])) rfl rfl (hb hby d60_23)
    have Fw111 := f109.same W111
    have N111 := Fr.snoc X111 N106 g1
    refine own_st st111 ?_
    show own_Goes p e below (T111.setTop (mkF m 26 #[.val (.ref x1), .val (.ref a1), .val (.int (0 : Int32)), .val (.int (0 : Int32)), .val .null, .unset] [])) _
    have f112 := (Nat.le_trans (Nat.le_trans hk102 (Nat.le_of_eq W106.size.symm)) (Nat.le_of_eq W111.size.symm))
    have f113 := ((((Keep.refl h0 [x1]).ext E102).wr W106 (Or.inl (by simp))).wr W111 (Or.inl (by simp)))
    have f114 := (f110.wr W111)
    have f115 := (Fw106.other W111 (Or.inr (slot_ne (t := (.array .byte)) (t' := .byte) (Or.inr (hw _ (List.mem_of_getElem? (i := 23) rfl))) (Or.inr (hw _ (List.mem_of_getElem? (i := 25) rfl))) (by decide) (by decide) (by decide))))
    have f116 := (f107.other W111 ne_la ne_lb)
    exact own_retSV X111 hS f112 hx hlk hret (hb hby d60_26) (by decide) (by decide) e111 ⟨rfl, N111, f113, ⟨lb, lk, f114, f115, Fw111, f116.2.2.2⟩, Or.inr ⟨la, lb, lk, Lit.stays (s := s) hL X111.warmed.wide, f116⟩⟩
  · have ne_la : la ≠ x1 := hT.2.1.ne F1 (fun q => nomatch q)
    have ne_lb : lb ≠ x1 := Ne.symm (E1.neArv hT.2.2.2 (hw _ (List.mem_of_getElem? (i := 10) rfl)))
    refine own_st (ldcAgain X101 hx hZ hown (hw _ (List.mem_of_getElem? (i := 96) rfl)) hL (g := (mkF m 9 #[.val (.ref x1), .val (.ref a1), .val (.int (0 : Int32)), .val (.int (0 : Int32)), .val .null, .unset] [(.ref x1)])) rfl (hb hby d60_9)) ?_
    show own_Goes p e below (T101.setTop (mkF m 11 #[.val (.ref x1), .val (.ref a1), .val (.int (0 : Int32)), .val (.int (0 : Int32)), .val .null, .unset] [(.ref la), (.ref x1)])) _
    obtain ⟨T117, X117, e117, st117⟩ := getF X101 hx hZ hown (host := "") (Or.inl (hw _ (List.mem_of_getElem? (i := 22) rfl))) Via.refl e101 hT.2.1 (g := (mkF m 11 #[.val (.ref x1), .val (.ref a1), .val (.int (0 : Int32)), .val (.int (0 : Int32)), .val .null, .unset] [(.ref la), (.ref x1)])) rfl rfl (hb hby d60_11)
    refine own_st st117 ?_
    show own_Goes p e below (T117.setTop (mkF m 14 #[.val (.ref x1), .val (.ref a1), .val (.int (0 : Int32)), .val (.int (0 : Int32)), .val .null, .unset] [(.ref lb), (.ref x1)])) _
    obtain ⟨T118, h118, X118, e118, W118, st118⟩ := putF X117 hx hZ hown (host := "") (Or.inl (hw _ (List.mem_of_getElem? (i := 22) rfl))) Via.refl e117 F1 E1 (Or.inr ⟨(hw _ (List.mem_of_getElem? (i := 23) rfl)), rfl, hnm⟩) (hw _ (List.mem_of_getElem? (i := 10) rfl)) (ty := (.array .byte)) (by decide) rfl rfl (g := (mkF m 14 #[.val (.ref x1), .val (.ref a1), .val (.int (0 : Int32)), .val (.int (0 : Int32)), .val .null, .unset] [(.ref lb), (.ref x1)])) rfl rfl (hb hby d60_14)
    have Fw118 := F1.same W118
    have N118 := Fr.snoc X118 N0 g1
    refine own_st st118 ?_
    show own_Goes p e below (T118.setTop (mkF m 17 #[.val (.ref x1), .val (.ref a1), .val (.int (0 : Int32)), .val (.int (0 : Int32)), .val .null, .unset] [])) _
    refine own_st (fun _ k => XS.aloadN X118.here hx rfl (hb hby d60_17) rfl rfl k) ?_
    show own_Goes p e below (T118.setTop (mkF m 18 #[.val (.ref x1), .val (.ref a1), .val (.int (0 : Int32)), .val (.int (0 : Int32)), .val .null, .unset] [(.ref x1)])) _
    refine own_st (ldcAgain X118 hx hZ hown (hw _ (List.mem_of_getElem? (i := 96) rfl)) hL (g := (mkF m 18 #[.val (.ref x1), .val (.ref a1), .val (.int (0 : Int32)), .val (.int (0 : Int32)), .val .null, .unset] [(.ref x1)])) rfl (hb hby d60_18)) ?_
    show own_Goes p e below (T118.setTop (mkF m 20 #[.val (.ref x1), .val (.ref a1), .val (.int (0 : Int32)), .val (.int (0 : Int32)), .val .null, .unset] [(.ref la), (.ref x1)])) _
    have f119 := (hT.other W118 ne_la ne_lb)
    obtain ⟨T120, X120, e120, st120⟩ := getF X118 hx hZ hown (host := "") (Or.inl (hw _ (List.mem_of_getElem? (i := 24) rfl))) Via.refl e118 f119.2.2.1 (g := (mkF m 20 #[.val (.ref x1), .val (.ref a1), .val (.int (0 : Int32)), .val (.int (0 : Int32)), .val .null, .unset] [(.ref la), (.ref x1)])) rfl rfl (hb hby d60_20)
    refine own_st st120 ?_
    show own_Goes p e below (T120.setTop (mkF m 23 #[.val (.ref x1), .val (.ref a1), .val (.int (0 : Int32)), .val (.int (0 : Int32)), .val .null, .unset] [(.int (0 : Int32)), (.ref x1)])) _
    have f121 := (F2.other W118 (Or.inr (slot_ne (t := .byte) (t' := (.array .byte)) (Or.inr (hw _ (List.mem_of_getElem? (i := 25) rfl))) (Or.inr (hw _ (List.mem_of_getElem? (i := 23) rfl))) (by decide) (by decide) (by decide))))
    have f122 := (E1.wr W118)
    obtain ⟨T123, h123, X123, e123, W123, st123⟩ := putFN X120 hx hZ hown (hw _ (List.mem_of_getElem? (i := 24) rfl)) Via.refl e120 f121 f122 (Or.inr ⟨(hw _ (List.mem_of_getElem? (i := 25) rfl)), rfl, hnm⟩) (hw _ (List.mem_of_getElem? (i := 10) rfl)) (ty := .byte) (v' := (.int (0 : Int32))) (by decide) rfl (by decide) (g := (mkF m 23 #[.val (.ref x1), .val (.ref a1), .val (.int (0 : Int32)), .val (.int (0 : Int32)), .val .null, .unset] [(.int (0 : Int32)), (.ref x1)])) rfl rfl (hb hby d60_23)
    have Fw123 := f121.same W123
    have N123 := Fr.snoc X123 N118 g1
    refine own_st st123 ?_
    show own_Goes p e below (T123.setTop (mkF m 26 #[.val (.ref x1), .val (.ref a1), .val (.int (0 : Int32)), .val (.int (0 : Int32)), .val .null, .unset] [])) _
    have f124 := (Nat.le_trans (Nat.le_trans (Nat.zero_le _) (Nat.le_of_eq W118.size.symm)) (Nat.le_of_eq W123.size.symm))
    have f125 := (((Keep.refl h0 [x1]).wr W118 (Or.inl (by simp))).wr W123 (Or.inl (by simp)))
    have f126 := (f122.wr W123)
    have f127 := (Fw118.other W123 (Or.inr (slot_ne (t := (.array .byte)) (t' := .byte) (Or.inr (hw _ (List.mem_of_getElem? (i := 23) rfl))) (Or.inr (hw _ (List.mem_of_getElem? (i := 25) rfl))) (by decide) (by decide) (by decide))))
    have f128 := (f119.other W123 ne_la ne_lb)
    exact own_retSV X123 hS f124 hx hlk hret (hb hby d60_26) (by decide) (by decide) e123 ⟨rfl, N123, f125, ⟨lb, lk, f126, f127, Fw123, f128.2.2.2⟩, Or.inr ⟨la, lb, lk, Lit.stays (s := s) hL X123.warmed.wide, f128⟩⟩
theorem d61_0 : decode jdk_42_method_3_code 0 = .ok (.aload_n 0, 1) := by decide +kernel
theorem d61_1 : decode jdk_42_method_3_code 1 = .ok (.aload_n 1, 1) := by decide +kernel
theorem d61_2 : decode jdk_42_method_3_code 2 = .ok (.iconst 0, 1) := by decide +kernel
theorem d61_3 : decode jdk_42_method_3_code 3 = .ok (.aload_n 1, 1) := by decide +kernel
theorem d61_4 : decode jdk_42_method_3_code 4 = .ok (.arraylength, 1) := by decide +kernel
theorem d61_5 : decode jdk_42_method_3_code 5 = .ok (.aconst_null, 1) := by decide +kernel
theorem d61_6 : decode jdk_42_method_3_code 6 = .ok (.invokespecial 27, 3) := by decide +kernel
theorem d61_9 : decode jdk_42_method_3_code 9 = .ok (.return_, 1) := by decide +kernel
theorem ef_61 (m : MethodId) (e0 : Addr) (e1 : Addr) : entryFrame m #[(.ref e0), (.ref e1)] 2 = mkF m 0 #[.val (.ref e0), .val (.ref e1)] [] := by first | (simp [entryFrame, mkF, argsToLocals, Value.category]; done) | rfl
set_option maxRecDepth 65536 in
set_option maxHeartbeats 40000000 in
theorem rm61 (l : Launch) (Z : State) (a0 : Array Value) (hw : ∀ d ∈ tables_1, d.before a0 Z = true) (ws : List Jvm.Cond) (x1 a1 : Addr) (ka : ClassId) (h0 : Heap) (n0 : Nat) (Z0 : n0 ≤ h0.size) (V1 : Arv Z h0 a1 ka .char (0 : Int32) [] (.int (0 : Int32))) (F1 : Fld Z h0 x1 "java/lang/String" "value" "[B" .null) (F2 : Fld Z h0 x1 "java/lang/String" "coder" "B" (.int (0 : Int32))) (E1 : Exa Z h0 x1 "java/lang/String") (g1 : n0 ≤ x1) (O0 : Old Z n0 h0) (hh0 : Jvm.Lit.constHeld Z "java/lang/String" 7) (hcw0 : Jvm.Lit.compactW.before a0 Z = true) :
    own_CtS l Z (⟨"java/lang/String", "<init>", "([C)V"⟩ : MethodName) jdk_42_method_3_code 2 none ws ({ frames := 2, cells := 2, slots := 4, locals := 36 } : Room) #[(.ref x1), (.ref a1)] h0 (fun vm => own_E Z vm h0) (fun v h vm L => v = none ∧ Fr n0 L ∧ Keep h0 h [x1] ∧ (∃ (b : Addr) (kb : ClassId), own_Str Z h x1 b kb (0 : Int32) []) ∧ own_E Z vm h) ({ frames := 2, cells := 2, slots := 4, locals := 36 } : Room).cells ({ frames := 2, cells := 2, slots := 4, locals := 36 } : Room).slots := by
  refine own_metS (plainFor_of_name pn_java_lang_String) (fun p e s m below meth c s₁ X0 hx hby hml hret hlk hnm hown hZ e0 hs0 hP hS => ?_)
  have hml : c.maxLocals = 2 := hml
  have N0 := Fr.nil n0
  refine own_st (fun _ k => castTop (ef_61 m x1 a1) k) ?_
  show own_Goes p e below (s₁.setTop (mkF m 0 #[.val (.ref x1), .val (.ref a1)] [])) _
  refine own_st (fun _ k => XS.aloadN X0.here hx rfl (hb hby d61_0) rfl rfl k) ?_
  show own_Goes p e below (s₁.setTop (mkF m 1 #[.val (.ref x1), .val (.ref a1)] [(.ref x1)])) _
  refine own_st (fun _ k => XS.aloadN X0.here hx rfl (hb hby d61_1) rfl rfl k) ?_
  show own_Goes p e below (s₁.setTop (mkF m 2 #[.val (.ref x1), .val (.ref a1)] [(.ref a1), (.ref x1)])) _
  refine own_st (fun _ k => XS.iconst X0.here hx rfl (hb hby d61_2) k) ?_
  show own_Goes p e below (s₁.setTop (mkF m 3 #[.val (.ref x1), .val (.ref a1)] [(.int (0 : Int32)), (.ref a1), (.ref x1)])) _
  refine own_st (fun _ k => XS.aloadN X0.here hx rfl (hb hby d61_3) rfl rfl k) ?_
  show own_Goes p e below (s₁.setTop (mkF m 4 #[.val (.ref x1), .val (.ref a1)] [(.ref a1), (.int (0 : Int32)), (.ref a1), (.ref x1)])) _
  refine own_st (own_len (pc := 4) (Ls := #[.val (.ref x1), .val (.ref a1)]) (rest := [(.int (0 : Int32)), (.ref a1), (.ref x1)]) X0 hx hZ e0 V1 (hb hby d61_4)) ?_
  show own_Goes p e below (s₁.setTop (mkF m 5 #[.val (.ref x1), .val (.ref a1)] [(.int (0 : Int32)), (.int (0 : Int32)), (.ref a1), (.ref x1)])) _
  refine own_st (fun _ k => XS.aconstNull X0.here hx rfl (hb hby d61_5) k) ?_
  show own_Goes p e below (s₁.setTop (mkF m 6 #[.val (.ref x1), .val (.ref a1)] [.null, (.int (0 : Int32)), (.int (0 : Int32)), (.ref a1), (.ref x1)])) _
  obtain ⟨_, T101, h101, L101, X101, e101, ⟨rfl, N101q, K101, T101q, hE101⟩, hS, hZ, hown, st101⟩ := own_callIS (argsL := [(.ref a1), (.int (0 : Int32)), (.int (0 : Int32)), .null]) (rest := []) (pc := 6) (W := 0) (Ls := #[.val (.ref x1), .val (.ref a1)]) (S := [.null, (.int (0 : Int32)), (.int (0 : Int32)), (.ref a1), (.ref x1)]) X0 hx hZ hown hS (Nat.zero_le _) (fun _ w => own_E_warm hP w) rfl (hw _ (List.mem_of_getElem? (i := 83) rfl)) (hw _ (List.mem_of_getElem? (i := 84) rfl)) (hw _ (List.mem_of_getElem? (i := 2) rfl)) (hw _ (List.mem_of_getElem? (i := 85) rfl)) (by decide) (rm60 l Z a0 hw [] x1 a1 h0 n0 Z0 F1 F2 E1 g1 O0 hh0 hcw0) (by decide) (by decide) e0 (by rw [hml]; rfl) (lenOf pd___CIILjava_lang_Void__V rfl) rfl (Nat.le_of_eq rfl) (hb hby d61_6) (by decide) (by decide)
  refine own_st st101 ?_
  have N101 := Fr.app N0 N101q
  show own_Goes p e below (T101.setTop (mkF m 9 #[.val (.ref x1), .val (.ref a1)] [])) _
  have f102 := ((Keep.refl h0 [x1]).trans K101 (allS (Or.inl (by simp)) all0))
  exact own_retSV X101 hS (Nat.le_refl h101.size) hx hlk hret (hb hby d61_9) (by decide) (by decide) e101 ⟨rfl, N101, f102, T101q, hE101⟩
theorem d1_0 : decode jdk_43_method_3_code 0 = .ok (.iload_n 0, 1) := by decide +kernel
theorem d1_1 : decode jdk_43_method_3_code 1 = .ok (.sipush 255, 3) := by decide +kernel
theorem d1_4 : decode jdk_43_method_3_code 4 = .ok (.if_icmp .gt 7, 3) := by decide +kernel
theorem d1_7 : decode jdk_43_method_3_code 7 = .ok (.iconst 1, 1) := by decide +kernel
theorem d1_8 : decode jdk_43_method_3_code 8 = .ok (.goto 4, 3) := by decide +kernel
theorem d1_12 : decode jdk_43_method_3_code 12 = .ok (.ireturn, 1) := by decide +kernel
theorem ef_1 (m : MethodId) (e0 : Int32) : entryFrame m #[(.int e0)] 1 = mkF m 0 #[.val (.int e0)] [] := by first | (simp [entryFrame, mkF, argsToLocals, Value.category]; done) | rfl
set_option maxRecDepth 65536 in
set_option maxHeartbeats 40000000 in
theorem rm1 (l : Launch) (Z : State) (a0 : Array Value) (hw : ∀ d ∈ tables_1, d.before a0 Z = true) (ws : List Jvm.Cond) (c0 : Int32) (h0 : Heap) (n0 : Nat) (Z0 : n0 ≤ h0.size) (hc : own_c8 c0) :
    own_Ct l Z (⟨"java/lang/StringLatin1", "canEncode", "(C)Z"⟩ : MethodName) jdk_43_method_3_code 1 (some .boolean) ws ({ frames := 0, cells := 0, slots := 0, locals := 0 } : Room) #[(.int c0)] h0 (fun v h L => v = some (.int (1 : Int32)) ∧ L = [] ∧ h = h0) ({ frames := 0, cells := 0, slots := 0, locals := 0 } : Room).cells ({ frames := 0, cells := 0, slots := 0, locals := 0 } : Room).slots := by
  refine own_met (plainFor_of_name pn_java_lang_StringLatin1) (fun p e s m below meth c s₁ X0 hx hby hml hret hlk hnm hown hZ e0 => ?_)
  have hml : c.maxLocals = 1 := hml
  have N0 := Fr.nil n0
  refine own_st (fun _ k => castTop (ef_1 m c0) k) ?_
  show own_Goes p e below (s₁.setTop (mkF m 0 #[.val (.int c0)] [])) _
  refine own_st (fun _ k => XS.iloadN X0.here hx rfl (hb hby d1_0) rfl k) ?_
  show own_Goes p e below (s₁.setTop (mkF m 1 #[.val (.int c0)] [(.int c0)])) _
  refine own_st (fun _ k => XS.sipush X0.here hx rfl (hb hby d1_1) k) ?_
  show own_Goes p e below (s₁.setTop (mkF m 4 #[.val (.int c0)] [(.int (255 : Int32)), (.int c0)])) _
  refine own_st (fun _ k => XS.icmpNo X0.here hx rfl (hb hby d1_4) rfl (flt (own_c8n hc)).2.2.1 k) ?_
  show own_Goes p e below (s₁.setTop (mkF m 7 #[.val (.int c0)] [])) _
  refine own_st (fun _ k => XS.iconst X0.here hx rfl (hb hby d1_7) k) ?_
  show own_Goes p e below (s₁.setTop (mkF m 8 #[.val (.int c0)] [(.int (1 : Int32))])) _
  refine own_st (fun _ k => XS.goto X0.here hx rfl (pc0 := 8) (pc' := 12) rfl (hb hby d1_8) (by decide) (by decide) k) ?_
  show own_Goes p e below (s₁.setTop (mkF m 12 #[.val (.int c0)] [(.int (1 : Int32))])) _
  exact own_retN (t := .boolean) (z' := (1 : Int32)) X0 hx hlk hret (by simp) (by decide) (hb hby d1_12) (by decide) (by decide) e0 ⟨rfl, rfl, rfl⟩
theorem d2_0 : decode jdk_43_method_46_code 0 = .ok (.iconst 1, 1) := by decide +kernel
theorem d2_1 : decode jdk_43_method_46_code 1 = .ok (.newarray .byte, 2) := by decide +kernel
theorem d2_3 : decode jdk_43_method_46_code 3 = .ok (.dup, 1) := by decide +kernel
theorem d2_4 : decode jdk_43_method_46_code 4 = .ok (.iconst 0, 1) := by decide +kernel
theorem d2_5 : decode jdk_43_method_46_code 5 = .ok (.iload_n 0, 1) := by decide +kernel
theorem d2_6 : decode jdk_43_method_46_code 6 = .ok (.i2b, 1) := by decide +kernel
theorem d2_7 : decode jdk_43_method_46_code 7 = .ok (.bastore, 1) := by decide +kernel
theorem d2_8 : decode jdk_43_method_46_code 8 = .ok (.areturn, 1) := by decide +kernel
theorem ef_2 (m : MethodId) (e0 : Int32) : entryFrame m #[(.int e0)] 1 = mkF m 0 #[.val (.int e0)] [] := by first | (simp [entryFrame, mkF, argsToLocals, Value.category]; done) | rfl
set_option maxRecDepth 65536 in
set_option maxHeartbeats 40000000 in
theorem rm2 (l : Launch) (Z : State) (a0 : Array Value) (hw : ∀ d ∈ tables_1, d.before a0 Z = true) (ws : List Jvm.Cond) (c0 : Int32) (h0 : Heap) (n0 : Nat) (Z0 : n0 ≤ h0.size)  :
    own_Ct l Z (⟨"java/lang/StringLatin1", "toBytes", "(C)[B"⟩ : MethodName) jdk_43_method_46_code 1 (some (.array .byte)) ws ({ frames := 0, cells := 1, slots := 1, locals := 0 } : Room) #[(.int c0)] h0 (fun v h L => ∃ (b : Addr) (kb : ClassId), v = some (.ref b) ∧ n0 ≤ b ∧ h0.size ≤ b ∧ Fr n0 L ∧ Keep h0 h [] ∧ Arv Z h b kb .byte (1 : Int32) [(.int c0.toInt8.toInt32)] (.int (0 : Int32))) ({ frames := 0, cells := 1, slots := 1, locals := 0 } : Room).cells ({ frames := 0, cells := 1, slots := 1, locals := 0 } : Room).slots := by
  refine own_met (plainFor_of_name pn_java_lang_StringLatin1) (fun p e s m below meth c s₁ X0 hx hby hml hret hlk hnm hown hZ e0 => ?_)
  have hml : c.maxLocals = 1 := hml
  have N0 := Fr.nil n0
  refine own_st (fun _ k => castTop (ef_2 m c0) k) ?_
  show own_Goes p e below (s₁.setTop (mkF m 0 #[.val (.int c0)] [])) _
  refine own_st (fun _ k => XS.iconst X0.here hx rfl (hb hby d2_0) k) ?_
  show own_Goes p e below (s₁.setTop (mkF m 1 #[.val (.int c0)] [(.int (1 : Int32))])) _
  obtain ⟨T101, h101, k101, X101, e101, E101, A101, st101⟩ := newP X0 hx hZ (hw _ (List.mem_of_getElem? (i := 14) rfl)) e0 (g := (mkF m 1 #[.val (.int c0)] [(.int (1 : Int32))])) rfl (hb hby d2_1) rfl (by decide) (cap := 1) (by decide) (by decide) (by decide) (by decide)
  obtain ⟨b101, g101⟩ : ∃ z, z = h0.size := ⟨_, rfl⟩
  rw [← g101] at A101 st101
  have g_b101 : n0 ≤ b101 := Nat.le_trans Z0 (Nat.le_of_eq g101.symm)
  have sz_b101 : h0.size ≤ b101 := Nat.le_trans (Keep.refl h0 []).1 (Nat.le_of_eq g101.symm)
  have V_b101 : Arv Z h101 b101 k101 .byte (1 : Int32) [(.int (0 : Int32))] (.int (0 : Int32)) := Arv.pad (Arv.new A101 (by decide)) (pad_rep [] _ 1)
  refine own_st st101 ?_
  show own_Goes p e below (T101.setTop (mkF m 3 #[.val (.int c0)] [(.ref b101)])) _
  refine own_st (fun _ k => XS.dup X101.here hx rfl (hb hby d2_3) rfl rfl k) ?_
  show own_Goes p e below (T101.setTop (mkF m 4 #[.val (.int c0)] [(.ref b101), (.ref b101)])) _
  refine own_st (fun _ k => XS.iconst X101.here hx rfl (hb hby d2_4) k) ?_
  show own_Goes p e below (T101.setTop (mkF m 5 #[.val (.int c0)] [(.int (0 : Int32)), (.ref b101), (.ref b101)])) _
  refine own_st (fun _ k => XS.iloadN X101.here hx rfl (hb hby d2_5) rfl k) ?_
  show own_Goes p e below (T101.setTop (mkF m 6 #[.val (.int c0)] [(.int c0), (.int (0 : Int32)), (.ref b101), (.ref b101)])) _
  refine own_st (fun _ k => XT.i2b X101.here hx rfl (hb hby d2_6) rfl k) ?_
  show own_Goes p e below (T101.setTop (mkF m 7 #[.val (.int c0)] [(.int c0.toInt8.toInt32), (.int (0 : Int32)), (.ref b101), (.ref b101)])) _
  obtain ⟨T102, h102, X102, e102, W102, V102, st102⟩ := own_stB (x := c0.toInt8.toInt32) (pc := 7) (Ls := #[.val (.int c0)]) (rest := [(.ref b101)]) (j := (0 : Int32)) X101 hx hZ e101 V_b101 0 (by decide) (by decide) (Nat.le_of_ble_eq_true rfl) (hb hby d2_7)
  rw [own_b8] at V102
  have V102 : Arv Z h102 b101 k101 .byte (1 : Int32) [(.int c0.toInt8.toInt32)] (.int (0 : Int32)) := V102
  have N102 := Fr.snoc X102 N0 g_b101
  refine own_st st102 ?_
  show own_Goes p e below (T102.setTop (mkF m 8 #[.val (.int c0)] [(.ref b101)])) _
  have f103 := (((Keep.refl h0 []).ext E101).wr W102 (Or.inr sz_b101))
  exact own_retA X102 hx hlk hret rfl rfl rfl (hb hby d2_8) (by decide) (by decide) e102 ⟨b101, k101, rfl, g_b101, sz_b101, N102, f103, V102⟩
theorem d3_0 : decode jdk_42_method_151_code 0 = .ok (.aload_n 0, 1) := by decide +kernel
theorem d3_1 : decode jdk_42_method_151_code 1 = .ok (.invokespecial 1, 3) := by decide +kernel
theorem d3_4 : decode jdk_42_method_151_code 4 = .ok (.aload_n 0, 1) := by decide +kernel
theorem d3_5 : decode jdk_42_method_151_code 5 = .ok (.aload_n 1, 1) := by decide +kernel
theorem d3_6 : decode jdk_42_method_151_code 6 = .ok (.putfield 9, 3) := by decide +kernel
theorem d3_9 : decode jdk_42_method_151_code 9 = .ok (.aload_n 0, 1) := by decide +kernel
theorem d3_10 : decode jdk_42_method_151_code 10 = .ok (.iload_n 2, 1) := by decide +kernel
theorem d3_11 : decode jdk_42_method_151_code 11 = .ok (.putfield 15, 3) := by decide +kernel
theorem d3_14 : decode jdk_42_method_151_code 14 = .ok (.return_, 1) := by decide +kernel
theorem ef_3 (m : MethodId) (e0 : Addr) (e1 : Addr) (e2 : Int32) : entryFrame m #[(.ref e0), (.ref e1), (.int e2)] 3 = mkF m 0 #[.val (.ref e0), .val (.ref e1), .val (.int e2)] [] := by first | (simp [entryFrame, mkF, argsToLocals, Value.category]; done) | rfl
set_option maxRecDepth 65536 in
set_option maxHeartbeats 40000000 in
theorem rm3 (l : Launch) (Z : State) (a0 : Array Value) (hw : ∀ d ∈ tables_1, d.before a0 Z = true) (ws : List Jvm.Cond) (x1 a1 : Addr) (h0 : Heap) (n0 : Nat) (Z0 : n0 ≤ h0.size) (F1 : Fld Z h0 x1 "java/lang/String" "value" "[B" .null) (F2 : Fld Z h0 x1 "java/lang/String" "coder" "B" (.int (0 : Int32))) (E1 : Exa Z h0 x1 "java/lang/String") (g1 : n0 ≤ x1) :
    own_Ct l Z (⟨"java/lang/String", "<init>", "([BB)V"⟩ : MethodName) jdk_42_method_151_code 3 none ws ({ frames := 1, cells := 0, slots := 0, locals := 12 } : Room) #[(.ref x1), (.ref a1), (.int (0 : Int32))] h0 (fun v h L => v = none ∧ Fr n0 L ∧ Keep h0 h [x1] ∧ Exa Z h x1 "java/lang/String" ∧ Fld Z h x1 "java/lang/String" "value" "[B" (.ref a1) ∧ Fld Z h x1 "java/lang/String" "coder" "B" (.int (0 : Int32))) ({ frames := 1, cells := 0, slots := 0, locals := 12 } : Room).cells ({ frames := 1, cells := 0, slots := 0, locals := 12 } : Room).slots := by
  refine own_met (plainFor_of_name pn_java_lang_String) (fun p e s m below meth c s₁ X0 hx hby hml hret hlk hnm hown hZ e0 => ?_)
  have hml : c.maxLocals = 3 := hml
  have N0 := Fr.nil n0
  refine own_st (fun _ k => castTop (ef_3 m x1 a1 (0 : Int32)) k) ?_
  show own_Goes p e below (s₁.setTop (mkF m 0 #[.val (.ref x1), .val (.ref a1), .val (.int (0 : Int32))] [])) _
  refine own_st (fun _ k => XS.aloadN X0.here hx rfl (hb hby d3_0) rfl rfl k) ?_
  show own_Goes p e below (s₁.setTop (mkF m 1 #[.val (.ref x1), .val (.ref a1), .val (.int (0 : Int32))] [(.ref x1)])) _
  obtain ⟨T101, X101, e101, st101⟩ := initO X0 hx hZ hown (hw _ (List.mem_of_getElem? (i := 19) rfl)) (hw _ (List.mem_of_getElem? (i := 20) rfl)) (hw _ (List.mem_of_getElem? (i := 21) rfl)) e0 (g := (mkF m 1 #[.val (.ref x1), .val (.ref a1), .val (.int (0 : Int32))] [(.ref x1)])) rfl (by rw [hml]; rfl) rfl (hb hby d3_1) (by decide) (W := 0) (by show 2 * 0 + _ ≤ _; exact Nat.le_of_eq rfl) (by decide)
  refine own_st st101 ?_
  show own_Goes p e below (T101.setTop (mkF m 4 #[.val (.ref x1), .val (.ref a1), .val (.int (0 : Int32))] [])) _
  refine own_st (fun _ k => XS.aloadN X101.here hx rfl (hb hby d3_4) rfl rfl k) ?_
  show own_Goes p e below (T101.setTop (mkF m 5 #[.val (.ref x1), .val (.ref a1), .val (.int (0 : Int32))] [(.ref x1)])) _
  refine own_st (fun _ k => XS.aloadN X101.here hx rfl (hb hby d3_5) rfl rfl k) ?_
  show own_Goes p e below (T101.setTop (mkF m 6 #[.val (.ref x1), .val (.ref a1), .val (.int (0 : Int32))] [(.ref a1), (.ref x1)])) _
  obtain ⟨T102, h102, X102, e102, W102, st102⟩ := putF X101 hx hZ hown (host := "") (Or.inl (hw _ (List.mem_of_getElem? (i := 22) rfl))) Via.refl e101 F1 E1 (Or.inr ⟨(hw _ (List.mem_of_getElem? (i := 23) rfl)), rfl, hnm⟩) (hw _ (List.mem_of_getElem? (i := 10) rfl)) (ty := (.array .byte)) (by decide) rfl rfl (g := (mkF m 6 #[.val (.ref x1), .val (.ref a1), .val (.int (0 : Int32))] [(.ref a1), (.ref x1)])) rfl rfl (hb hby d3_6)
  have Fw102 := F1.same W102
  have N102 := Fr.snoc X102 N0 g1
  refine own_st st102 ?_
  show own_Goes p e below (T102.setTop (mkF m 9 #[.val (.ref x1), .val (.ref a1), .val (.int (0 : Int32))] [])) _
  refine own_st (fun _ k => XS.aloadN X102.here hx rfl (hb hby d3_9) rfl rfl k) ?_
  show own_Goes p e below (T102.setTop (mkF m 10 #[.val (.ref x1), .val (.ref a1), .val (.int (0 : Int32))] [(.ref x1)])) _
  refine own_st (fun _ k => XS.iloadN X102.here hx rfl (hb hby d3_10) rfl k) ?_
  show own_Goes p e below (T102.setTop (mkF m 11 #[.val (.ref x1), .val (.ref a1), .val (.int (0 : Int32))] [(.int (0 : Int32)), (.ref x1)])) _
  have f103 := (F2.other W102 (Or.inr (slot_ne (t := .byte) (t' := (.array .byte)) (Or.inr (hw _ (List.mem_of_getElem? (i := 25) rfl))) (Or.inr (hw _ (List.mem_of_getElem? (i := 23) rfl))) (by decide) (by decide) (by decide))))
  have f104 := (E1.wr W102)
  obtain ⟨T105, h105, X105, e105, W105, st105⟩ := putFN X102 hx hZ hown (hw _ (List.mem_of_getElem? (i := 24) rfl)) Via.refl e102 f103 f104 (Or.inr ⟨(hw _ (List.mem_of_getElem? (i := 25) rfl)), rfl, hnm⟩) (hw _ (List.mem_of_getElem? (i := 10) rfl)) (ty := .byte) (v' := (.int (0 : Int32))) (by decide) rfl (by decide) (g := (mkF m 11 #[.val (.ref x1), .val (.ref a1), .val (.int (0 : Int32))] [(.int (0 : Int32)), (.ref x1)])) rfl rfl (hb hby d3_11)
  have Fw105 := f103.same W105
  have N105 := Fr.snoc X105 N102 g1
  refine own_st st105 ?_
  show own_Goes p e below (T105.setTop (mkF m 14 #[.val (.ref x1), .val (.ref a1), .val (.int (0 : Int32))] [])) _
  have f106 := (((Keep.refl h0 [x1]).wr W102 (Or.inl (by simp))).wr W105 (Or.inl (by simp)))
  have f107 := (f104.wr W105)
  have f108 := (Fw102.other W105 (Or.inr (slot_ne (t := (.array .byte)) (t' := .byte) (Or.inr (hw _ (List.mem_of_getElem? (i := 23) rfl))) (Or.inr (hw _ (List.mem_of_getElem? (i := 25) rfl))) (by decide) (by decide) (by decide))))
  exact own_retV X105 hx hlk hret (hb hby d3_14) (by decide) (by decide) e105 ⟨rfl, N105, f106, f107, f108, Fw105⟩
theorem d4_0 : decode jdk_42_method_139_code 0 = .ok (.getstatic 38, 3) := by decide +kernel
theorem d4_3 : decode jdk_42_method_139_code 3 = .ok (.ifCond .eq 23, 3) := by decide +kernel
theorem d4_6 : decode jdk_42_method_139_code 6 = .ok (.iload_n 0, 1) := by decide +kernel
theorem d4_7 : decode jdk_42_method_139_code 7 = .ok (.invokestatic 1015, 3) := by decide +kernel
theorem d4_10 : decode jdk_42_method_139_code 10 = .ok (.ifCond .eq 16, 3) := by decide +kernel
theorem d4_13 : decode jdk_42_method_139_code 13 = .ok (.new 10, 3) := by decide +kernel
theorem d4_16 : decode jdk_42_method_139_code 16 = .ok (.dup, 1) := by decide +kernel
theorem d4_17 : decode jdk_42_method_139_code 17 = .ok (.iload_n 0, 1) := by decide +kernel
theorem d4_18 : decode jdk_42_method_139_code 18 = .ok (.invokestatic 1018, 3) := by decide +kernel
theorem d4_21 : decode jdk_42_method_139_code 21 = .ok (.iconst 0, 1) := by decide +kernel
theorem d4_22 : decode jdk_42_method_139_code 22 = .ok (.invokespecial 209, 3) := by decide +kernel
theorem d4_25 : decode jdk_42_method_139_code 25 = .ok (.areturn, 1) := by decide +kernel
theorem ef_4 (m : MethodId) (e0 : Int32) : entryFrame m #[(.int e0)] 1 = mkF m 0 #[.val (.int e0)] [] := by first | (simp [entryFrame, mkF, argsToLocals, Value.category]; done) | rfl
set_option maxRecDepth 65536 in
set_option maxHeartbeats 40000000 in
theorem rm4 (l : Launch) (Z : State) (a0 : Array Value) (hw : ∀ d ∈ tables_1, d.before a0 Z = true) (ws : List Jvm.Cond) (c0 cs : Int32) (h0 : Heap) (n0 : Nat) (Z0 : n0 ≤ h0.size) (hc : own_c8 c0) (C1 : Sta Z h0 "java/lang/String" "COMPACT_STRINGS" "Z" (.int cs)) (hcs : ¬ cs = (0 : Int32)) :
    own_Ct l Z (⟨"java/lang/String", "valueOf", "(C)Ljava/lang/String;"⟩ : MethodName) jdk_42_method_139_code 1 (some (.object "java/lang/String")) ws ({ frames := 2, cells := 2, slots := 5, locals := 40 } : Room) #[(.int c0)] h0 (fun v h L => ∃ (a b : Addr) (k : ClassId), v = some (.ref a) ∧ n0 ≤ a ∧ h0.size ≤ a ∧ Fr n0 L ∧ Keep h0 h [] ∧ own_Str Z h a b k (1 : Int32) [(.int c0.toInt8.toInt32)]) ({ frames := 2, cells := 2, slots := 5, locals := 40 } : Room).cells ({ frames := 2, cells := 2, slots := 5, locals := 40 } : Room).slots := by
  refine own_met (plainFor_of_name pn_java_lang_String) (fun p e s m below meth c s₁ X0 hx hby hml hret hlk hnm hown hZ e0 => ?_)
  have hml : c.maxLocals = 1 := hml
  have N0 := Fr.nil n0
  refine own_st (fun _ k => castTop (ef_4 m c0) k) ?_
  show own_Goes p e below (s₁.setTop (mkF m 0 #[.val (.int c0)] [])) _
  obtain ⟨T101, X101, e101, st101⟩ := getS2 X0 hx hZ hown (host := "") (Or.inl (hw _ (List.mem_of_getElem? (i := 4) rfl))) Via.refl e0 C1 (g := (mkF m 0 #[.val (.int c0)] [])) rfl (hb hby d4_0)
  refine own_st st101 ?_
  show own_Goes p e below (T101.setTop (mkF m 3 #[.val (.int c0)] [(.int cs)])) _
  refine own_st (fun _ k => XS.ifNo X101.here hx rfl (hb hby d4_3) rfl ((if0 _ _).trans (feq hcs).1) k) ?_
  show own_Goes p e below (T101.setTop (mkF m 6 #[.val (.int c0)] [])) _
  refine own_st (fun _ k => XS.iloadN X101.here hx rfl (hb hby d4_6) rfl k) ?_
  show own_Goes p e below (T101.setTop (mkF m 7 #[.val (.int c0)] [(.int c0)])) _
  obtain ⟨_, T102, h102, L102, X102, e102, ⟨rfl, rfl, q102⟩, st102⟩ := own_callS (argsL := [(.int c0)]) (rest := []) (pc := 7) (W := 0) (Ls := #[.val (.int c0)]) (S := [(.int c0)]) X101 hx hZ hown (hw _ (List.mem_of_getElem? (i := 5) rfl)) (hw _ (List.mem_of_getElem? (i := 6) rfl)) (hw _ (List.mem_of_getElem? (i := 7) rfl)) (hw _ (List.mem_of_getElem? (i := 8) rfl)) (by decide) (rm1 l Z a0 hw [] c0 h0 n0 Z0 hc) (by decide) (by decide) e101 (by rw [hml]; rfl) (lenOf pd__C_Z rfl) rfl (Nat.le_of_eq rfl) (hb hby d4_7) (by decide) (by decide)
  refine own_st st102 ?_
  show own_Goes p e below (T102.setTop (mkF m 10 #[.val (.int c0)] [(.int (1 : Int32))])) _
  refine own_st (fun _ k => XS.ifNo X102.here hx rfl (hb hby d4_10) rfl ((if0 _ _).trans (feq (by decide : ¬ ((1 : Int32) = (0 : Int32)))).1) k) ?_
  show own_Goes p e below (T102.setTop (mkF m 13 #[.val (.int c0)] [])) _
  obtain ⟨T103, h103, X103, e103, E103, A103, D103, -, st103⟩ := newO X102 hx hZ hown (hw _ (List.mem_of_getElem? (i := 9) rfl)) (hw _ (List.mem_of_getElem? (i := 10) rfl)) (hw _ (List.mem_of_getElem? (i := 2) rfl)) (e102.trans q102) (g := (mkF m 13 #[.val (.int c0)] [])) rfl (hb hby d4_13) (by decide) (by decide)
  obtain ⟨b103, g103⟩ : ∃ z, z = h0.size := ⟨_, rfl⟩
  rw [← g103] at A103 D103 st103
  have g_b103 : n0 ≤ b103 := Nat.le_trans Z0 (Nat.le_of_eq g103.symm)
  have sz_b103 : h0.size ≤ b103 := Nat.le_trans (Keep.refl h0 []).1 (Nat.le_of_eq g103.symm)
  have F_value_b103 : Fld Z h103 b103 "java/lang/String" "value" "[B" .null := D103 (Or.inr (hw _ (List.mem_of_getElem? (i := 23) rfl))) (ty := (.array .byte)) (by decide)
  have F_coder_b103 : Fld Z h103 b103 "java/lang/String" "coder" "B" (.int (0 : Int32)) := D103 (Or.inr (hw _ (List.mem_of_getElem? (i := 25) rfl))) (ty := .byte) (by decide)
  refine own_st st103 ?_
  show own_Goes p e below (T103.setTop (mkF m 16 #[.val (.int c0)] [(.ref b103)])) _
  refine own_st (fun _ k => XS.dup X103.here hx rfl (hb hby d4_16) rfl rfl k) ?_
  show own_Goes p e below (T103.setTop (mkF m 17 #[.val (.int c0)] [(.ref b103), (.ref b103)])) _
  refine own_st (fun _ k => XS.iloadN X103.here hx rfl (hb hby d4_17) rfl k) ?_
  show own_Goes p e below (T103.setTop (mkF m 18 #[.val (.int c0)] [(.int c0), (.ref b103), (.ref b103)])) _
  have f105 := ((Keep.refl h0 []).ext E103)
  have f106 := (Nat.le_trans Z0 E103.1)
  obtain ⟨_, T104, h104, L104, X104, e104, ⟨b104, k104, rfl, g104, s104, N104q, K104, V104⟩, st104⟩ := own_callS (argsL := [(.int c0)]) (rest := [(.ref b103), (.ref b103)]) (pc := 18) (W := 2) (Ls := #[.val (.int c0)]) (S := [(.int c0), (.ref b103), (.ref b103)]) X103 hx hZ hown (hw _ (List.mem_of_getElem? (i := 11) rfl)) (hw _ (List.mem_of_getElem? (i := 12) rfl)) (hw _ (List.mem_of_getElem? (i := 7) rfl)) (hw _ (List.mem_of_getElem? (i := 13) rfl)) (by decide) (rm2 l Z a0 hw [] c0 h103 n0 f106) (by decide) (by decide) e103 (by rw [hml]; rfl) (lenOf pd__C__B rfl) rfl (Nat.le_of_eq rfl) (hb hby d4_18) (by decide) (by decide)
  refine own_st st104 ?_
  have N104 := Fr.app N0 N104q
  have ne_b103_b104 : b103 ≠ b104 := fun q => Nat.lt_irrefl _ (Nat.lt_of_lt_of_le (q ▸ (A103).lt) s104)
  have sz_b104 : h0.size ≤ b104 := Nat.le_trans f105.1 s104
  show own_Goes p e below (T104.setTop (mkF m 21 #[.val (.int c0)] [(.ref b104), (.ref b103), (.ref b103)])) _
  refine own_st (fun _ k => XS.iconst X104.here hx rfl (hb hby d4_21) k) ?_
  show own_Goes p e below (T104.setTop (mkF m 22 #[.val (.int c0)] [(.int (0 : Int32)), (.ref b104), (.ref b103), (.ref b103)])) _
  have f108 := (Nat.le_trans f106 K104.1)
  have f109 := (F_value_b103.keep K104 nin0)
  have f110 := (F_coder_b103.keep K104 nin0)
  have f111 := (A103.keep K104)
  obtain ⟨_, T107, h107, L107, X107, e107, ⟨rfl, N107q, K107, E107, F107, G107⟩, st107⟩ := own_callI (argsL := [(.ref b104), (.int (0 : Int32))]) (rest := [(.ref b103)]) (pc := 22) (W := 1) (Ls := #[.val (.int c0)]) (S := [(.int (0 : Int32)), (.ref b104), (.ref b103), (.ref b103)]) X104 hx hZ hown rfl (hw _ (List.mem_of_getElem? (i := 15) rfl)) (hw _ (List.mem_of_getElem? (i := 16) rfl)) (hw _ (List.mem_of_getElem? (i := 2) rfl)) (hw _ (List.mem_of_getElem? (i := 18) rfl)) (by decide) (rm3 l Z a0 hw [] b103 b104 h104 n0 f108 f109 f110 f111 g_b103) (by decide) (by decide) e104 (by rw [hml]; rfl) (lenOf pd___BB_V rfl) rfl (Nat.le_of_eq rfl) (hb hby d4_22) (by decide) (by decide)
  refine own_st st107 ?_
  have N107 := Fr.app N104 N107q
  show own_Goes p e below (T107.setTop (mkF m 25 #[.val (.int c0)] [(.ref b103)])) _
  have f112 := ((f105.trans K104 all0).trans K107 (allS (Or.inr sz_b103) all0))
  have f113 := (V104.keep K107 (ninS (Ne.symm ne_b103_b104) nin0))
  exact own_retA X107 hx hlk hret rfl rfl rfl (hb hby d4_25) (by decide) (by decide) e107 ⟨b103, b104, k104, rfl, g_b103, sz_b103, N107, f112, E107, F107, G107, f113⟩
theorem d5_0 : decode jdk_31_method_11_code 0 = .ok (.aload_n 0, 1) := by decide +kernel
theorem d5_1 : decode jdk_31_method_11_code 1 = .ok (.ifnonnull 12, 3) := by decide +kernel
theorem d5_13 : decode jdk_31_method_11_code 13 = .ok (.aload_n 0, 1) := by decide +kernel
theorem d5_14 : decode jdk_31_method_11_code 14 = .ok (.areturn, 1) := by decide +kernel
theorem ef_5 (m : MethodId) (e0 : Addr) (e1 : Addr) : entryFrame m #[(.ref e0), (.ref e1)] 2 = mkF m 0 #[.val (.ref e0), .val (.ref e1)] [] := by first | (simp [entryFrame, mkF, argsToLocals, Value.category]; done) | rfl
set_option maxRecDepth 65536 in
set_option maxHeartbeats 40000000 in
theorem rm5 (l : Launch) (Z : State) (a0 : Array Value) (hw : ∀ d ∈ tables_1, d.before a0 Z = true) (ws : List Jvm.Cond) (a1 a2 : Addr) (h0 : Heap) (n0 : Nat) (Z0 : n0 ≤ h0.size)  :
    own_Ct l Z (⟨"java/util/Objects", "requireNonNull", "(Ljava/lang/Object;Ljava/lang/String;)Ljava/lang/Object;"⟩ : MethodName) jdk_31_method_11_code 2 (some (.object "java/lang/Object")) ws ({ frames := 0, cells := 0, slots := 0, locals := 0 } : Room) #[(.ref a1), (.ref a2)] h0 (fun v h L => v = some (.ref a1) ∧ L = [] ∧ h = h0) ({ frames := 0, cells := 0, slots := 0, locals := 0 } : Room).cells ({ frames := 0, cells := 0, slots := 0, locals := 0 } : Room).slots := by
  refine own_met (plainFor_of_name pn_java_util_Objects) (fun p e s m below meth c s₁ X0 hx hby hml hret hlk hnm hown hZ e0 => ?_)
  have hml : c.maxLocals = 2 := hml
  have N0 := Fr.nil n0
  refine own_st (fun _ k => castTop (ef_5 m a1 a2) k) ?_
  show own_Goes p e below (s₁.setTop (mkF m 0 #[.val (.ref a1), .val (.ref a2)] [])) _
  refine own_st (fun _ k => XS.aloadN X0.here hx rfl (hb hby d5_0) rfl rfl k) ?_
  show own_Goes p e below (s₁.setTop (mkF m 1 #[.val (.ref a1), .val (.ref a2)] [(.ref a1)])) _
  refine own_st (fun _ k => XT.ifnonnullYes X0.here hx rfl (pc0 := 1) (pc' := 13) rfl (hb hby d5_1) rfl (by decide) (by decide) k) ?_
  show own_Goes p e below (s₁.setTop (mkF m 13 #[.val (.ref a1), .val (.ref a2)] [])) _
  refine own_st (fun _ k => XS.aloadN X0.here hx rfl (hb hby d5_13) rfl rfl k) ?_
  show own_Goes p e below (s₁.setTop (mkF m 14 #[.val (.ref a1), .val (.ref a2)] [(.ref a1)])) _
  exact own_retA X0 hx hlk hret rfl rfl rfl (hb hby d5_14) (by decide) (by decide) e0 ⟨rfl, rfl, rfl⟩
theorem d6_0 : decode prog_7_method_1_code 0 = .ok (.aload_n 0, 1) := by decide +kernel
theorem d6_1 : decode prog_7_method_1_code 1 = .ok (.invokespecial 1, 3) := by decide +kernel
theorem d6_4 : decode prog_7_method_1_code 4 = .ok (.aload_n 0, 1) := by decide +kernel
theorem d6_5 : decode prog_7_method_1_code 5 = .ok (.aload_n 1, 1) := by decide +kernel
theorem d6_6 : decode prog_7_method_1_code 6 = .ok (.putfield 7, 3) := by decide +kernel
theorem d6_9 : decode prog_7_method_1_code 9 = .ok (.aload_n 0, 1) := by decide +kernel
theorem d6_10 : decode prog_7_method_1_code 10 = .ok (.lload_n 2, 1) := by decide +kernel
theorem d6_11 : decode prog_7_method_1_code 11 = .ok (.putfield 13, 3) := by decide +kernel
theorem d6_14 : decode prog_7_method_1_code 14 = .ok (.return_, 1) := by decide +kernel
theorem ef_6 (m : MethodId) (e0 : Addr) (e1 : Addr) (e2 : Int64) : entryFrame m #[(.ref e0), (.ref e1), (.long e2)] 4 = mkF m 0 #[.val (.ref e0), .val (.ref e1), .val (.long e2), .second] [] := by first | (simp [entryFrame, mkF, argsToLocals, Value.category]; done) | rfl
set_option maxRecDepth 65536 in
set_option maxHeartbeats 40000000 in
theorem rm6 (l : Launch) (Z : State) (a0 : Array Value) (hw : ∀ d ∈ tables_1, d.before a0 Z = true) (ws : List Jvm.Cond) (x1 a1 : Addr) (q1 : Int64) (h0 : Heap) (n0 : Nat) (Z0 : n0 ≤ h0.size) (F1 : Fld Z h0 x1 "com/example/lattice_warden/latticewarden/FlagItem" "name" "Ljava/lang/String;" .null) (F2 : Fld Z h0 x1 "com/example/lattice_warden/latticewarden/FlagItem" "number" "J" (.long (0 : Int64))) (E1 : Exa Z h0 x1 "com/example/lattice_warden/latticewarden/FlagItem") (g1 : n0 ≤ x1) :
    own_Ct l Z (⟨"com/example/lattice_warden/latticewarden/FlagItem", "<init>", "(Ljava/lang/String;J)V"⟩ : MethodName) prog_7_method_1_code 4 none ws ({ frames := 1, cells := 0, slots := 0, locals := 12 } : Room) #[(.ref x1), (.ref a1), (.long q1)] h0 (fun v h L => v = none ∧ Fr n0 L ∧ Keep h0 h [x1] ∧ Fld Z h x1 "com/example/lattice_warden/latticewarden/FlagItem" "name" "Ljava/lang/String;" (.ref a1) ∧ Fld Z h x1 "com/example/lattice_warden/latticewarden/FlagItem" "number" "J" (.long q1)) ({ frames := 1, cells := 0, slots := 0, locals := 12 } : Room).cells ({ frames := 1, cells := 0, slots := 0, locals := 12 } : Room).slots := by
  refine own_met (plainFor_of_name pn_com_example_lattice_warden_latticewarden_FlagItem) (fun p e s m below meth c s₁ X0 hx hby hml hret hlk hnm hown hZ e0 => ?_)
  have hml : c.maxLocals = 4 := hml
  have N0 := Fr.nil n0
  refine own_st (fun _ k => castTop (ef_6 m x1 a1 q1) k) ?_
  show own_Goes p e below (s₁.setTop (mkF m 0 #[.val (.ref x1), .val (.ref a1), .val (.long q1), .second] [])) _
  refine own_st (fun _ k => XS.aloadN X0.here hx rfl (hb hby d6_0) rfl rfl k) ?_
  show own_Goes p e below (s₁.setTop (mkF m 1 #[.val (.ref x1), .val (.ref a1), .val (.long q1), .second] [(.ref x1)])) _
  obtain ⟨T101, X101, e101, st101⟩ := initO X0 hx hZ hown (hw _ (List.mem_of_getElem? (i := 43) rfl)) (hw _ (List.mem_of_getElem? (i := 20) rfl)) (hw _ (List.mem_of_getElem? (i := 21) rfl)) e0 (g := (mkF m 1 #[.val (.ref x1), .val (.ref a1), .val (.long q1), .second] [(.ref x1)])) rfl (by rw [hml]; rfl) rfl (hb hby d6_1) (by decide) (W := 0) (by show 2 * 0 + _ ≤ _; exact Nat.le_of_eq rfl) (by decide)
  refine own_st st101 ?_
  show own_Goes p e below (T101.setTop (mkF m 4 #[.val (.ref x1), .val (.ref a1), .val (.long q1), .second] [])) _
  refine own_st (fun _ k => XS.aloadN X101.here hx rfl (hb hby d6_4) rfl rfl k) ?_
  show own_Goes p e below (T101.setTop (mkF m 5 #[.val (.ref x1), .val (.ref a1), .val (.long q1), .second] [(.ref x1)])) _
  refine own_st (fun _ k => XS.aloadN X101.here hx rfl (hb hby d6_5) rfl rfl k) ?_
  show own_Goes p e below (T101.setTop (mkF m 6 #[.val (.ref x1), .val (.ref a1), .val (.long q1), .second] [(.ref a1), (.ref x1)])) _
  obtain ⟨T102, h102, X102, e102, W102, st102⟩ := putF X101 hx hZ hown (host := "") (Or.inl (hw _ (List.mem_of_getElem? (i := 44) rfl))) Via.refl e101 F1 E1 (Or.inr ⟨(hw _ (List.mem_of_getElem? (i := 45) rfl)), rfl, hnm⟩) (hw _ (List.mem_of_getElem? (i := 31) rfl)) (ty := (.object "java/lang/String")) (by decide) rfl rfl (g := (mkF m 6 #[.val (.ref x1), .val (.ref a1), .val (.long q1), .second] [(.ref a1), (.ref x1)])) rfl rfl (hb hby d6_6)
  have Fw102 := F1.same W102
  have N102 := Fr.snoc X102 N0 g1
  refine own_st st102 ?_
  show own_Goes p e below (T102.setTop (mkF m 9 #[.val (.ref x1), .val (.ref a1), .val (.long q1), .second] [])) _
  refine own_st (fun _ k => XS.aloadN X102.here hx rfl (hb hby d6_9) rfl rfl k) ?_
  show own_Goes p e below (T102.setTop (mkF m 10 #[.val (.ref x1), .val (.ref a1), .val (.long q1), .second] [(.ref x1)])) _
  refine own_st (fun _ k => XT.lloadN X102.here hx rfl (hb hby d6_10) rfl k) ?_
  show own_Goes p e below (T102.setTop (mkF m 11 #[.val (.ref x1), .val (.ref a1), .val (.long q1), .second] [(.long q1), (.ref x1)])) _
  have f103 := (F2.other W102 (Or.inr (slot_ne (t := .long) (t' := (.object "java/lang/String")) (Or.inr (hw _ (List.mem_of_getElem? (i := 47) rfl))) (Or.inr (hw _ (List.mem_of_getElem? (i := 45) rfl))) (by decide) (by decide) (by decide))))
  have f104 := (E1.wr W102)
  obtain ⟨T105, h105, X105, e105, W105, st105⟩ := putF X102 hx hZ hown (host := "") (Or.inl (hw _ (List.mem_of_getElem? (i := 46) rfl))) Via.refl e102 f103 f104 (Or.inr ⟨(hw _ (List.mem_of_getElem? (i := 47) rfl)), rfl, hnm⟩) (hw _ (List.mem_of_getElem? (i := 31) rfl)) (ty := .long) (by decide) rfl rfl (g := (mkF m 11 #[.val (.ref x1), .val (.ref a1), .val (.long q1), .second] [(.long q1), (.ref x1)])) rfl rfl (hb hby d6_11)
  have Fw105 := f103.same W105
  have N105 := Fr.snoc X105 N102 g1
  refine own_st st105 ?_
  show own_Goes p e below (T105.setTop (mkF m 14 #[.val (.ref x1), .val (.ref a1), .val (.long q1), .second] [])) _
  have f106 := (((Keep.refl h0 [x1]).wr W102 (Or.inl (by simp))).wr W105 (Or.inl (by simp)))
  have f107 := (Fw102.other W105 (Or.inr (slot_ne (t := (.object "java/lang/String")) (t' := .long) (Or.inr (hw _ (List.mem_of_getElem? (i := 45) rfl))) (Or.inr (hw _ (List.mem_of_getElem? (i := 47) rfl))) (by decide) (by decide) (by decide))))
  exact own_retV X105 hx hlk hret (hb hby d6_14) (by decide) (by decide) e105 ⟨rfl, N105, f106, f107, Fw105⟩
theorem d7_0 : decode prog_7_method_2_code 0 = .ok (.new 8, 3) := by decide +kernel
theorem d7_3 : decode prog_7_method_2_code 3 = .ok (.dup, 1) := by decide +kernel
theorem d7_4 : decode prog_7_method_2_code 4 = .ok (.aload_n 0, 1) := by decide +kernel
theorem d7_5 : decode prog_7_method_2_code 5 = .ok (.ldc 17, 2) := by decide +kernel
theorem d7_7 : decode prog_7_method_2_code 7 = .ok (.invokestatic 18, 3) := by decide +kernel
theorem d7_10 : decode prog_7_method_2_code 10 = .ok (.checkcast 24, 3) := by decide +kernel
theorem d7_13 : decode prog_7_method_2_code 13 = .ok (.lconst 0, 1) := by decide +kernel
theorem d7_14 : decode prog_7_method_2_code 14 = .ok (.invokespecial 26, 3) := by decide +kernel
theorem d7_17 : decode prog_7_method_2_code 17 = .ok (.areturn, 1) := by decide +kernel
theorem ef_7 (m : MethodId) (e0 : Addr) : entryFrame m #[(.ref e0)] 1 = mkF m 0 #[.val (.ref e0)] [] := by first | (simp [entryFrame, mkF, argsToLocals, Value.category]; done) | rfl
set_option maxRecDepth 65536 in
set_option maxHeartbeats 40000000 in
theorem rm7 (l : Launch) (Z : State) (a0 : Array Value) (hw : ∀ d ∈ tables_1, d.before a0 Z = true) (ws : List Jvm.Cond) (a1 : Addr) (h0 : Heap) (n0 : Nat) (Z0 : n0 ≤ h0.size) (E1 : Exa Z h0 a1 "java/lang/String") :
    own_CtS l Z (⟨"com/example/lattice_warden/latticewarden/FlagItem", "named", "(Ljava/lang/String;)Lcom/example/lattice_warden/latticewarden/FlagItem;"⟩ : MethodName) prog_7_method_2_code 1 (some (.object "com/example/lattice_warden/latticewarden/FlagItem")) ws ({ frames := 2, cells := 3, slots := 22, locals := 40 } : Room) #[(.ref a1)] h0 (fun _ => True) (fun v h vm L => ∃ x : Addr, v = some (.ref x) ∧ n0 ≤ x ∧ h0.size ≤ x ∧ Fr n0 L ∧ Keep h0 h [] ∧ Exa Z h x "com/example/lattice_warden/latticewarden/FlagItem" ∧ Fld Z h x "com/example/lattice_warden/latticewarden/FlagItem" "name" "Ljava/lang/String;" (.ref a1) ∧ Fld Z h x "com/example/lattice_warden/latticewarden/FlagItem" "number" "J" (.long (0 : Int64))) ({ frames := 2, cells := 3, slots := 22, locals := 40 } : Room).cells ({ frames := 2, cells := 3, slots := 22, locals := 40 } : Room).slots := by
  refine own_metS (plainFor_of_name pn_com_example_lattice_warden_latticewarden_FlagItem) (fun p e s m below meth c s₁ X0 hx hby hml hret hlk hnm hown hZ e0 hs0 hP hS => ?_)
  have hml : c.maxLocals = 1 := hml
  have N0 := Fr.nil n0
  refine own_st (fun _ k => castTop (ef_7 m a1) k) ?_
  show own_Goes p e below (s₁.setTop (mkF m 0 #[.val (.ref a1)] [])) _
  obtain ⟨T101, h101, X101, e101, E101, A101, D101, -, st101⟩ := newO X0 hx hZ hown (hw _ (List.mem_of_getElem? (i := 30) rfl)) (hw _ (List.mem_of_getElem? (i := 31) rfl)) (hw _ (List.mem_of_getElem? (i := 28) rfl)) e0 (g := (mkF m 0 #[.val (.ref a1)] [])) rfl (hb hby d7_0) (by decide) (by decide)
  obtain ⟨b101, g101⟩ : ∃ z, z = h0.size := ⟨_, rfl⟩
  rw [← g101] at A101 D101 st101
  have g_b101 : n0 ≤ b101 := Nat.le_trans Z0 (Nat.le_of_eq g101.symm)
  have sz_b101 : h0.size ≤ b101 := Nat.le_trans (Keep.refl h0 []).1 (Nat.le_of_eq g101.symm)
  have ne_a1_b101 : a1 ≠ b101 := by rw [g101]; exact Nat.ne_of_lt (E1).lt
  have F_name_b101 : Fld Z h101 b101 "com/example/lattice_warden/latticewarden/FlagItem" "name" "Ljava/lang/String;" .null := D101 (Or.inr (hw _ (List.mem_of_getElem? (i := 45) rfl))) (ty := (.object "java/lang/String")) (by decide)
  have F_number_b101 : Fld Z h101 b101 "com/example/lattice_warden/latticewarden/FlagItem" "number" "J" (.long (0 : Int64)) := D101 (Or.inr (hw _ (List.mem_of_getElem? (i := 47) rfl))) (ty := .long) (by decide)
  refine own_st st101 ?_
  show own_Goes p e below (T101.setTop (mkF m 3 #[.val (.ref a1)] [(.ref b101)])) _
  refine own_st (fun _ k => XS.dup X101.here hx rfl (hb hby d7_3) rfl rfl k) ?_
  show own_Goes p e below (T101.setTop (mkF m 4 #[.val (.ref a1)] [(.ref b101), (.ref b101)])) _
  refine own_st (fun _ k => XS.aloadN X101.here hx rfl (hb hby d7_4) rfl rfl k) ?_
  show own_Goes p e below (T101.setTop (mkF m 5 #[.val (.ref a1)] [(.ref a1), (.ref b101), (.ref b101)])) _
  have f103 := (Nat.le_trans (Nat.zero_le _) E101.1)
  obtain ⟨c102, T102, h102, k102, X102, e102, E102, hS, hk102, hZ, hown, st102⟩ := ldcS X101 hx hZ hown (hw _ (List.mem_of_getElem? (i := 32) rfl)) (fun a ha => hw a (own_sa a ha)) e101 hS f103 (g := (mkF m 5 #[.val (.ref a1)] [(.ref a1), (.ref b101), (.ref b101)])) rfl (hb hby d7_5) (n := 16) (by decide) (by decide) (by decide) (by decide)
  refine own_st st102 ?_
  show own_Goes p e below (T102.setTop (mkF m 7 #[.val (.ref a1)] [(.ref c102), (.ref a1), (.ref b101), (.ref b101)])) _
  have f105 := (Nat.le_trans (Nat.le_trans Z0 E101.1) E102.1)
  obtain ⟨_, T104, h104, L104, X104, e104, ⟨rfl, rfl, q104⟩, st104⟩ := own_callS (argsL := [(.ref a1), (.ref c102)]) (rest := [(.ref b101), (.ref b101)]) (pc := 7) (W := 2) (Ls := #[.val (.ref a1)]) (S := [(.ref c102), (.ref a1), (.ref b101), (.ref b101)]) X102 hx hZ hown (hw _ (List.mem_of_getElem? (i := 35) rfl)) (hw _ (List.mem_of_getElem? (i := 36) rfl)) (hw _ (List.mem_of_getElem? (i := 37) rfl)) (hw _ (List.mem_of_getElem? (i := 38) rfl)) (by decide) (rm5 l Z a0 hw [] a1 c102 h102 n0 f105) (by decide) (by decide) e102 (by rw [hml]; rfl) (lenOf pd__Ljava_lang_Object_Ljava_lang_String__Ljava_lang_Object_ rfl) rfl (Nat.le_of_eq rfl) (hb hby d7_7) (by decide) (by decide)
  refine own_st st104 ?_
  show own_Goes p e below (T104.setTop (mkF m 10 #[.val (.ref a1)] [(.ref a1), (.ref b101), (.ref b101)])) _
  have f106 := ((E1.ext E101).ext E102)
  obtain ⟨T107, X107, e107, st107⟩ := castY X104 hx hZ hown (hw _ (List.mem_of_getElem? (i := 39) rfl)) (e104.trans q104) (Ins.self f106) (g := (mkF m 10 #[.val (.ref a1)] [(.ref a1), (.ref b101), (.ref b101)])) rfl rfl (hb hby d7_10)
  refine own_st st107 ?_
  show own_Goes p e below (T107.setTop (mkF m 13 #[.val (.ref a1)] [(.ref a1), (.ref b101), (.ref b101)])) _
  refine own_st (fun _ k => XT.lconst X107.here hx rfl (hb hby d7_13) k) ?_
  show own_Goes p e below (T107.setTop (mkF m 14 #[.val (.ref a1)] [(.long (0 : Int64)), (.ref a1), (.ref b101), (.ref b101)])) _
  have f109 := (F_name_b101.ext E102)
  have f110 := (F_number_b101.ext E102)
  have f111 := (A101.ext E102)
  obtain ⟨_, T108, h108, L108, X108, e108, ⟨rfl, N108q, K108, F108, G108⟩, st108⟩ := own_callI (argsL := [(.ref a1), (.long (0 : Int64))]) (rest := [(.ref b101)]) (pc := 14) (W := 1) (Ls := #[.val (.ref a1)]) (S := [(.long (0 : Int64)), (.ref a1), (.ref b101), (.ref b101)]) X107 hx hZ hown rfl (hw _ (List.mem_of_getElem? (i := 40) rfl)) (hw _ (List.mem_of_getElem? (i := 41) rfl)) (hw _ (List.mem_of_getElem? (i := 28) rfl)) (hw _ (List.mem_of_getElem? (i := 42) rfl)) (by decide) (rm6 l Z a0 hw [] b101 a1 (0 : Int64) h102 n0 f105 f109 f110 f111 g_b101) (by decide) (by decide) e107 (by rw [hml]; rfl) (lenOf pd__Ljava_lang_String_J_V rfl) rfl (Nat.le_of_eq rfl) (hb hby d7_14) (by decide) (by decide)
  refine own_st st108 ?_
  have N108 := Fr.app N0 N108q
  show own_Goes p e below (T108.setTop (mkF m 17 #[.val (.ref a1)] [(.ref b101)])) _
  have f112 := (Nat.le_trans hk102 K108.1)
  have f113 := ((((Keep.refl h0 []).ext E101).ext E102).trans K108 (allS (Or.inr sz_b101) all0))
  have f114 := (f111.keep K108)
  exact own_retSA X108 hS f112 hx hlk hret rfl rfl rfl (hb hby d7_17) (by decide) (by decide) e108 ⟨b101, rfl, g_b101, sz_b101, N108, f113, f114, F108, G108⟩
theorem d8_0 : decode prog_7_method_6_code 0 = .ok (.aload_n 0, 1) := by decide +kernel
theorem d8_1 : decode prog_7_method_6_code 1 = .ok (.getfield 7, 3) := by decide +kernel
theorem d8_4 : decode prog_7_method_6_code 4 = .ok (.areturn, 1) := by decide +kernel
theorem ef_8 (m : MethodId) (e0 : Addr) : entryFrame m #[(.ref e0)] 1 = mkF m 0 #[.val (.ref e0)] [] := by first | (simp [entryFrame, mkF, argsToLocals, Value.category]; done) | rfl
set_option maxRecDepth 65536 in
set_option maxHeartbeats 40000000 in
theorem rm8 (l : Launch) (Z : State) (a0 : Array Value) (hw : ∀ d ∈ tables_1, d.before a0 Z = true) (ws : List Jvm.Cond) (x1 a1 : Addr) (h0 : Heap) (n0 : Nat) (Z0 : n0 ≤ h0.size) (F1 : Fld Z h0 x1 "com/example/lattice_warden/latticewarden/FlagItem" "name" "Ljava/lang/String;" (.ref a1)) :
    own_Ct l Z (⟨"com/example/lattice_warden/latticewarden/FlagItem", "name", "()Ljava/lang/String;"⟩ : MethodName) prog_7_method_6_code 1 (some (.object "java/lang/String")) ws ({ frames := 0, cells := 0, slots := 0, locals := 0 } : Room) #[(.ref x1)] h0 (fun v h L => v = some (.ref a1) ∧ L = [] ∧ h = h0) ({ frames := 0, cells := 0, slots := 0, locals := 0 } : Room).cells ({ frames := 0, cells := 0, slots := 0, locals := 0 } : Room).slots := by
  refine own_met (plainFor_of_name pn_com_example_lattice_warden_latticewarden_FlagItem) (fun p e s m below meth c s₁ X0 hx hby hml hret hlk hnm hown hZ e0 => ?_)
  have hml : c.maxLocals = 1 := hml
  have N0 := Fr.nil n0
  refine own_st (fun _ k => castTop (ef_8 m x1) k) ?_
  show own_Goes p e below (s₁.setTop (mkF m 0 #[.val (.ref x1)] [])) _
  refine own_st (fun _ k => XS.aloadN X0.here hx rfl (hb hby d8_0) rfl rfl k) ?_
  show own_Goes p e below (s₁.setTop (mkF m 1 #[.val (.ref x1)] [(.ref x1)])) _
  obtain ⟨T101, X101, e101, st101⟩ := getF X0 hx hZ hown (host := "") (Or.inl (hw _ (List.mem_of_getElem? (i := 44) rfl))) Via.refl e0 F1 (g := (mkF m 1 #[.val (.ref x1)] [(.ref x1)])) rfl rfl (hb hby d8_1)
  refine own_st st101 ?_
  show own_Goes p e below (T101.setTop (mkF m 4 #[.val (.ref x1)] [(.ref a1)])) _
  exact own_retA X101 hx hlk hret rfl rfl rfl (hb hby d8_4) (by decide) (by decide) e101 ⟨rfl, rfl, rfl⟩
theorem d9_0 : decode prog_7_method_5_code 0 = .ok (.aload_n 0, 1) := by decide +kernel
theorem d9_1 : decode prog_7_method_5_code 1 = .ok (.getfield 7, 3) := by decide +kernel
theorem d9_4 : decode prog_7_method_5_code 4 = .ok (.ifnonnull 7, 3) := by decide +kernel
theorem d9_11 : decode prog_7_method_5_code 11 = .ok (.iconst 0, 1) := by decide +kernel
theorem d9_12 : decode prog_7_method_5_code 12 = .ok (.ireturn, 1) := by decide +kernel
theorem ef_9 (m : MethodId) (e0 : Addr) : entryFrame m #[(.ref e0)] 1 = mkF m 0 #[.val (.ref e0)] [] := by first | (simp [entryFrame, mkF, argsToLocals, Value.category]; done) | rfl
set_option maxRecDepth 65536 in
set_option maxHeartbeats 40000000 in
theorem rm9 (l : Launch) (Z : State) (a0 : Array Value) (hw : ∀ d ∈ tables_1, d.before a0 Z = true) (ws : List Jvm.Cond) (x1 a1 : Addr) (h0 : Heap) (n0 : Nat) (Z0 : n0 ≤ h0.size) (F1 : Fld Z h0 x1 "com/example/lattice_warden/latticewarden/FlagItem" "name" "Ljava/lang/String;" (.ref a1)) :
    own_Ct l Z (⟨"com/example/lattice_warden/latticewarden/FlagItem", "isNumber", "()Z"⟩ : MethodName) prog_7_method_5_code 1 (some .boolean) ws ({ frames := 0, cells := 0, slots := 0, locals := 0 } : Room) #[(.ref x1)] h0 (fun v h L => v = some (.int (0 : Int32)) ∧ L = [] ∧ h = h0) ({ frames := 0, cells := 0, slots := 0, locals := 0 } : Room).cells ({ frames := 0, cells := 0, slots := 0, locals := 0 } : Room).slots := by
  refine own_met (plainFor_of_name pn_com_example_lattice_warden_latticewarden_FlagItem) (fun p e s m below meth c s₁ X0 hx hby hml hret hlk hnm hown hZ e0 => ?_)
  have hml : c.maxLocals = 1 := hml
  have N0 := Fr.nil n0
  refine own_st (fun _ k => castTop (ef_9 m x1) k) ?_
  show own_Goes p e below (s₁.setTop (mkF m 0 #[.val (.ref x1)] [])) _
  refine own_st (fun _ k => XS.aloadN X0.here hx rfl (hb hby d9_0) rfl rfl k) ?_
  show own_Goes p e below (s₁.setTop (mkF m 1 #[.val (.ref x1)] [(.ref x1)])) _
  obtain ⟨T101, X101, e101, st101⟩ := getF X0 hx hZ hown (host := "") (Or.inl (hw _ (List.mem_of_getElem? (i := 44) rfl))) Via.refl e0 F1 (g := (mkF m 1 #[.val (.ref x1)] [(.ref x1)])) rfl rfl (hb hby d9_1)
  refine own_st st101 ?_
  show own_Goes p e below (T101.setTop (mkF m 4 #[.val (.ref x1)] [(.ref a1)])) _
  refine own_st (fun _ k => XT.ifnonnullYes X101.here hx rfl (pc0 := 4) (pc' := 11) rfl (hb hby d9_4) rfl (by decide) (by decide) k) ?_
  show own_Goes p e below (T101.setTop (mkF m 11 #[.val (.ref x1)] [])) _
  refine own_st (fun _ k => XS.iconst X101.here hx rfl (hb hby d9_11) k) ?_
  show own_Goes p e below (T101.setTop (mkF m 12 #[.val (.ref x1)] [(.int (0 : Int32))])) _
  exact own_retN (t := .boolean) (z' := (0 : Int32)) X101 hx hlk hret (by simp) (by decide) (hb hby d9_12) (by decide) (by decide) e101 ⟨rfl, rfl, rfl⟩
theorem d10_0 : decode prog_7_method_7_code 0 = .ok (.aload_n 0, 1) := by decide +kernel
theorem d10_1 : decode prog_7_method_7_code 1 = .ok (.getfield 13, 3) := by decide +kernel
theorem d10_4 : decode prog_7_method_7_code 4 = .ok (.lreturn, 1) := by decide +kernel
theorem ef_10 (m : MethodId) (e0 : Addr) : entryFrame m #[(.ref e0)] 1 = mkF m 0 #[.val (.ref e0)] [] := by first | (simp [entryFrame, mkF, argsToLocals, Value.category]; done) | rfl
set_option maxRecDepth 65536 in
set_option maxHeartbeats 40000000 in
theorem rm10 (l : Launch) (Z : State) (a0 : Array Value) (hw : ∀ d ∈ tables_1, d.before a0 Z = true) (ws : List Jvm.Cond) (x1 : Addr) (q1 : Int64) (h0 : Heap) (n0 : Nat) (Z0 : n0 ≤ h0.size) (F1 : Fld Z h0 x1 "com/example/lattice_warden/latticewarden/FlagItem" "number" "J" (.long q1)) :
    own_Ct l Z (⟨"com/example/lattice_warden/latticewarden/FlagItem", "number", "()J"⟩ : MethodName) prog_7_method_7_code 1 (some .long) ws ({ frames := 0, cells := 0, slots := 0, locals := 0 } : Room) #[(.ref x1)] h0 (fun v h L => v = some (.long q1) ∧ L = [] ∧ h = h0) ({ frames := 0, cells := 0, slots := 0, locals := 0 } : Room).cells ({ frames := 0, cells := 0, slots := 0, locals := 0 } : Room).slots := by
  refine own_met (plainFor_of_name pn_com_example_lattice_warden_latticewarden_FlagItem) (fun p e s m below meth c s₁ X0 hx hby hml hret hlk hnm hown hZ e0 => ?_)
  have hml : c.maxLocals = 1 := hml
  have N0 := Fr.nil n0
  refine own_st (fun _ k => castTop (ef_10 m x1) k) ?_
  show own_Goes p e below (s₁.setTop (mkF m 0 #[.val (.ref x1)] [])) _
  refine own_st (fun _ k => XS.aloadN X0.here hx rfl (hb hby d10_0) rfl rfl k) ?_
  show own_Goes p e below (s₁.setTop (mkF m 1 #[.val (.ref x1)] [(.ref x1)])) _
  obtain ⟨T101, X101, e101, st101⟩ := getF X0 hx hZ hown (host := "") (Or.inl (hw _ (List.mem_of_getElem? (i := 46) rfl))) Via.refl e0 F1 (g := (mkF m 1 #[.val (.ref x1)] [(.ref x1)])) rfl rfl (hb hby d10_1)
  refine own_st st101 ?_
  show own_Goes p e below (T101.setTop (mkF m 4 #[.val (.ref x1)] [(.long q1)])) _
  exact own_retJ X101 hx hlk hret (hb hby d10_4) (by decide) (by decide) e101 ⟨rfl, rfl, rfl⟩
theorem d11_0 : decode jdk_42_method_152_code 0 = .ok (.getstatic 38, 3) := by decide +kernel
theorem d11_3 : decode jdk_42_method_152_code 3 = .ok (.ifCond .eq 10, 3) := by decide +kernel
theorem d11_6 : decode jdk_42_method_152_code 6 = .ok (.aload_n 0, 1) := by decide +kernel
theorem d11_7 : decode jdk_42_method_152_code 7 = .ok (.getfield 15, 3) := by decide +kernel
theorem d11_10 : decode jdk_42_method_152_code 10 = .ok (.goto 4, 3) := by decide +kernel
theorem d11_14 : decode jdk_42_method_152_code 14 = .ok (.ireturn, 1) := by decide +kernel
theorem ef_11 (m : MethodId) (e0 : Addr) : entryFrame m #[(.ref e0)] 1 = mkF m 0 #[.val (.ref e0)] [] := by first | (simp [entryFrame, mkF, argsToLocals, Value.category]; done) | rfl
set_option maxRecDepth 65536 in
set_option maxHeartbeats 40000000 in
theorem rm11 (l : Launch) (Z : State) (a0 : Array Value) (hw : ∀ d ∈ tables_1, d.before a0 Z = true) (ws : List Jvm.Cond) (a1 b1 : Addr) (k1 : ClassId) (z1 cs : Int32) (bs : List Value) (h0 : Heap) (n0 : Nat) (Z0 : n0 ≤ h0.size) (T1 : own_Str Z h0 a1 b1 k1 z1 bs) (C1 : Sta Z h0 "java/lang/String" "COMPACT_STRINGS" "Z" (.int cs)) (hcs : ¬ cs = (0 : Int32)) :
    own_Ct l Z (⟨"java/lang/String", "coder", "()B"⟩ : MethodName) jdk_42_method_152_code 1 (some .byte) ws ({ frames := 0, cells := 0, slots := 0, locals := 0 } : Room) #[(.ref a1)] h0 (fun v h L => v = some (.int (0 : Int32)) ∧ L = [] ∧ h = h0) ({ frames := 0, cells := 0, slots := 0, locals := 0 } : Room).cells ({ frames := 0, cells := 0, slots := 0, locals := 0 } : Room).slots := by
  refine own_met (plainFor_of_name pn_java_lang_String) (fun p e s m below meth c s₁ X0 hx hby hml hret hlk hnm hown hZ e0 => ?_)
  have hml : c.maxLocals = 1 := hml
  have N0 := Fr.nil n0
  refine own_st (fun _ k => castTop (ef_11 m a1) k) ?_
  show own_Goes p e below (s₁.setTop (mkF m 0 #[.val (.ref a1)] [])) _
  obtain ⟨T101, X101, e101, st101⟩ := getS2 X0 hx hZ hown (host := "") (Or.inl (hw _ (List.mem_of_getElem? (i := 4) rfl))) Via.refl e0 C1 (g := (mkF m 0 #[.val (.ref a1)] [])) rfl (hb hby d11_0)
  refine own_st st101 ?_
  show own_Goes p e below (T101.setTop (mkF m 3 #[.val (.ref a1)] [(.int cs)])) _
  refine own_st (fun _ k => XS.ifNo X101.here hx rfl (hb hby d11_3) rfl ((if0 _ _).trans (feq hcs).1) k) ?_
  show own_Goes p e below (T101.setTop (mkF m 6 #[.val (.ref a1)] [])) _
  refine own_st (fun _ k => XS.aloadN X101.here hx rfl (hb hby d11_6) rfl rfl k) ?_
  show own_Goes p e below (T101.setTop (mkF m 7 #[.val (.ref a1)] [(.ref a1)])) _
  obtain ⟨T102, X102, e102, st102⟩ := getF X101 hx hZ hown (host := "") (Or.inl (hw _ (List.mem_of_getElem? (i := 24) rfl))) Via.refl e101 T1.2.2.1 (g := (mkF m 7 #[.val (.ref a1)] [(.ref a1)])) rfl rfl (hb hby d11_7)
  refine own_st st102 ?_
  show own_Goes p e below (T102.setTop (mkF m 10 #[.val (.ref a1)] [(.int (0 : Int32))])) _
  refine own_st (fun _ k => XS.goto X102.here hx rfl (pc0 := 10) (pc' := 14) rfl (hb hby d11_10) (by decide) (by decide) k) ?_
  show own_Goes p e below (T102.setTop (mkF m 14 #[.val (.ref a1)] [(.int (0 : Int32))])) _
  exact own_retN (t := .byte) (z' := (0 : Int32)) X102 hx hlk hret (by simp) (by decide) (hb hby d11_14) (by decide) (by decide) e102 ⟨rfl, rfl, rfl⟩
theorem d12_0 : decode jdk_42_method_54_code 0 = .ok (.aload_n 0, 1) := by decide +kernel
theorem d12_1 : decode jdk_42_method_54_code 1 = .ok (.getfield 9, 3) := by decide +kernel
theorem d12_4 : decode jdk_42_method_54_code 4 = .ok (.arraylength, 1) := by decide +kernel
theorem d12_5 : decode jdk_42_method_54_code 5 = .ok (.aload_n 0, 1) := by decide +kernel
theorem d12_6 : decode jdk_42_method_54_code 6 = .ok (.invokevirtual 335, 3) := by decide +kernel
theorem d12_9 : decode jdk_42_method_54_code 9 = .ok (.ishr, 1) := by decide +kernel
theorem d12_10 : decode jdk_42_method_54_code 10 = .ok (.ireturn, 1) := by decide +kernel
theorem ef_12 (m : MethodId) (e0 : Addr) : entryFrame m #[(.ref e0)] 1 = mkF m 0 #[.val (.ref e0)] [] := by first | (simp [entryFrame, mkF, argsToLocals, Value.category]; done) | rfl
set_option maxRecDepth 65536 in
set_option maxHeartbeats 40000000 in
theorem rm12 (l : Launch) (Z : State) (a0 : Array Value) (hw : ∀ d ∈ tables_1, d.before a0 Z = true) (ws : List Jvm.Cond) (a1 b1 : Addr) (k1 : ClassId) (z1 cs : Int32) (bs : List Value) (h0 : Heap) (n0 : Nat) (Z0 : n0 ≤ h0.size) (T1 : own_Str Z h0 a1 b1 k1 z1 bs) (C1 : Sta Z h0 "java/lang/String" "COMPACT_STRINGS" "Z" (.int cs)) (hcs : ¬ cs = (0 : Int32)) :
    own_Ct l Z (⟨"java/lang/String", "length", "()I"⟩ : MethodName) jdk_42_method_54_code 1 (some .int) ws ({ frames := 1, cells := 0, slots := 0, locals := 16 } : Room) #[(.ref a1)] h0 (fun v h L => v = some (.int z1) ∧ L = [] ∧ h = h0) ({ frames := 1, cells := 0, slots := 0, locals := 16 } : Room).cells ({ frames := 1, cells := 0, slots := 0, locals := 16 } : Room).slots := by
  refine own_met (plainFor_of_name pn_java_lang_String) (fun p e s m below meth c s₁ X0 hx hby hml hret hlk hnm hown hZ e0 => ?_)
  have hml : c.maxLocals = 1 := hml
  have N0 := Fr.nil n0
  refine own_st (fun _ k => castTop (ef_12 m a1) k) ?_
  show own_Goes p e below (s₁.setTop (mkF m 0 #[.val (.ref a1)] [])) _
  refine own_st (fun _ k => XS.aloadN X0.here hx rfl (hb hby d12_0) rfl rfl k) ?_
  show own_Goes p e below (s₁.setTop (mkF m 1 #[.val (.ref a1)] [(.ref a1)])) _
  obtain ⟨T101, X101, e101, st101⟩ := getF X0 hx hZ hown (host := "") (Or.inl (hw _ (List.mem_of_getElem? (i := 22) rfl))) Via.refl e0 T1.2.1 (g := (mkF m 1 #[.val (.ref a1)] [(.ref a1)])) rfl rfl (hb hby d12_1)
  refine own_st st101 ?_
  show own_Goes p e below (T101.setTop (mkF m 4 #[.val (.ref a1)] [(.ref b1)])) _
  refine own_st (own_len (pc := 4) (Ls := #[.val (.ref a1)]) (rest := []) X101 hx hZ e101 T1.2.2.2 (hb hby d12_4)) ?_
  show own_Goes p e below (T101.setTop (mkF m 5 #[.val (.ref a1)] [(.int z1)])) _
  refine own_st (fun _ k => XS.aloadN X101.here hx rfl (hb hby d12_5) rfl rfl k) ?_
  show own_Goes p e below (T101.setTop (mkF m 6 #[.val (.ref a1)] [(.ref a1), (.int z1)])) _
  obtain ⟨_, T102, h102, L102, X102, e102, ⟨rfl, rfl, q102⟩, st102⟩ := own_callV (argsL := []) (rest := [(.int z1)]) (pc := 6) (W := 1) (Ls := #[.val (.ref a1)]) (S := [(.ref a1), (.int z1)]) X101 hx hZ hown (hw _ (List.mem_of_getElem? (i := 58) rfl)) (hw _ (List.mem_of_getElem? (i := 59) rfl)) (hw _ (List.mem_of_getElem? (i := 61) rfl)) (hw _ (List.mem_of_getElem? (i := 60) rfl)) (hw _ (List.mem_of_getElem? (i := 2) rfl)) (hw _ (List.mem_of_getElem? (i := 62) rfl)) (notFace_of_selects (args := #[]) (mvT hZ (hw _ (List.mem_of_getElem? (i := 61) rfl)))) (by decide) (rm11 l Z a0 hw [] a1 b1 k1 z1 cs bs h0 n0 Z0 T1 C1 hcs) (by decide) (by decide) e101 T1.1 (by rw [hml]; rfl) (lenOf pd___B rfl) rfl (Nat.le_of_eq rfl) (hb hby d12_6) (by decide) (by decide)
  refine own_st st102 ?_
  show own_Goes p e below (T102.setTop (mkF m 9 #[.val (.ref a1)] [(.int (0 : Int32)), (.int z1)])) _
  refine own_st (fun _ k => XT.ishr X102.here hx rfl (hb hby d12_9) rfl k) ?_
  show own_Goes p e below (T102.setTop (mkF m 10 #[.val (.ref a1)] [(.int (z1 >>> ((0 : Int32) &&& 31)))])) _
  rw [own_shr0]
  show own_Goes p e below (T102.setTop (mkF m 10 #[.val (.ref a1)] [(.int z1)])) _
  exact own_retI X102 hx hlk hret (hb hby d12_10) (by decide) (by decide) (e102.trans q102) ⟨rfl, rfl, rfl⟩
theorem d13_0 : decode jdk_42_method_66_code 0 = .ok (.aload_n 0, 1) := by decide +kernel
theorem d13_1 : decode jdk_42_method_66_code 1 = .ok (.aload_n 1, 1) := by decide +kernel
theorem d13_2 : decode jdk_42_method_66_code 2 = .ok (.if_acmp .ne 5, 3) := by decide +kernel
theorem d13_5 : decode jdk_42_method_66_code 5 = .ok (.iconst 1, 1) := by decide +kernel
theorem d13_6 : decode jdk_42_method_66_code 6 = .ok (.ireturn, 1) := by decide +kernel
theorem ef_13 (m : MethodId) (e0 : Addr) (e1 : Addr) : entryFrame m #[(.ref e0), (.ref e1)] 3 = mkF m 0 #[.val (.ref e0), .val (.ref e1), .unset] [] := by first | (simp [entryFrame, mkF, argsToLocals, Value.category]; done) | rfl
set_option maxRecDepth 65536 in
set_option maxHeartbeats 40000000 in
theorem rm13 (l : Launch) (Z : State) (a0 : Array Value) (hw : ∀ d ∈ tables_1, d.before a0 Z = true) (ws : List Jvm.Cond) (a1 : Addr) (h0 : Heap) (n0 : Nat) (Z0 : n0 ≤ h0.size)  :
    own_Ct l Z (⟨"java/lang/String", "equals", "(Ljava/lang/Object;)Z"⟩ : MethodName) jdk_42_method_66_code 3 (some .boolean) ws ({ frames := 0, cells := 0, slots := 0, locals := 0 } : Room) #[(.ref a1), (.ref a1)] h0 (fun v h L => v = some (.int (1 : Int32)) ∧ L = [] ∧ h = h0) ({ frames := 0, cells := 0, slots := 0, locals := 0 } : Room).cells ({ frames := 0, cells := 0, slots := 0, locals := 0 } : Room).slots := by
  refine own_met (plainFor_of_name pn_java_lang_String) (fun p e s m below meth c s₁ X0 hx hby hml hret hlk hnm hown hZ e0 => ?_)
  have hml : c.maxLocals = 3 := hml
  have N0 := Fr.nil n0
  refine own_st (fun _ k => castTop (ef_13 m a1 a1) k) ?_
  show own_Goes p e below (s₁.setTop (mkF m 0 #[.val (.ref a1), .val (.ref a1), .unset] [])) _
  refine own_st (fun _ k => XS.aloadN X0.here hx rfl (hb hby d13_0) rfl rfl k) ?_
  show own_Goes p e below (s₁.setTop (mkF m 1 #[.val (.ref a1), .val (.ref a1), .unset] [(.ref a1)])) _
  refine own_st (fun _ k => XS.aloadN X0.here hx rfl (hb hby d13_1) rfl rfl k) ?_
  show own_Goes p e below (s₁.setTop (mkF m 2 #[.val (.ref a1), .val (.ref a1), .unset] [(.ref a1), (.ref a1)])) _
  refine own_st (fun _ k => Jvm.RoadKit.acmp (g := (mkF m 2 #[.val (.ref a1), .val (.ref a1), .unset] [(.ref a1), (.ref a1)])) X0 hx rfl rfl rfl (pc0 := 2) (pc' := 5) (same := true) rfl (hb hby d13_2) rfl (decide_eq_true rfl) (by decide) (by decide) k) ?_
  show own_Goes p e below (s₁.setTop (mkF m 5 #[.val (.ref a1), .val (.ref a1), .unset] [])) _
  refine own_st (fun _ k => XS.iconst X0.here hx rfl (hb hby d13_5) k) ?_
  show own_Goes p e below (s₁.setTop (mkF m 6 #[.val (.ref a1), .val (.ref a1), .unset] [(.int (1 : Int32))])) _
  exact own_retN (t := .boolean) (z' := (1 : Int32)) X0 hx hlk hret (by simp) (by decide) (hb hby d13_6) (by decide) (by decide) e0 ⟨rfl, rfl, rfl⟩
theorem ef_0 (m : MethodId) (e0 : Int32) (e1 : Int32) (e2 : Int32) (e3 : Int32) : entryFrame m #[(.int e0), (.int e1), (.int e2), (.int e3)] maxLocals = mkF m 0 #[.val (.int e0), .val (.int e1), .val (.int e2), .val (.int e3), .unset, .unset, .unset, .unset, .unset, .unset, .unset] [] := by first | (simp [entryFrame, mkF, argsToLocals, Value.category, maxLocals]; done) | rfl
set_option maxRecDepth 65536 in
set_option maxHeartbeats 40000000 in
theorem rm0 (l : Launch) (Z : State) (a0 : Array Value) (hw : ∀ d ∈ tables_1, d.before a0 Z = true) (ws : List Jvm.Cond) (i0 i1 i2 i3 cs : Int32) (h0 : Heap) (n0 : Nat) (Z0 : n0 ≤ h0.size) (S_cs : Sta Z Z.heap "java/lang/String" "COMPACT_STRINGS" "Z" (.int cs)) (hcs : ¬ cs = (0 : Int32)) (O0 : Old Z n0 h0) (hh0 : Jvm.Lit.constHeld Z "java/lang/String" 7) (hcw0 : Jvm.Lit.compactW.before a0 Z = true) :
    own_CtS l Z x code maxLocals ret ws room_1 #[(.int i0), (.int i1), (.int i2), (.int i3)] h0 (fun vm => own_E Z vm h0) (fun v h vm L => v = some (.int (1 : Int32)) ∧ Fr n0 L) room_1.cells room_1.slots := by
  refine own_metS (plainFor_of_name pn_com_example_lattice_warden_latticewarden_FlagItemNamedPinLaw) (fun p e s m below meth c s₁ X0 hx hby hml hret hlk hnm hown hZ e0 hs0 hP hS => ?_)
  have hml : c.maxLocals = 11 := hml
  have N0 := Fr.nil n0
  refine own_st (fun _ k => castTop (ef_0 m i0 i1 i2 i3) k) ?_
  show own_Goes p e below (s₁.setTop (mkF m 0 #[.val (.int i0), .val (.int i1), .val (.int i2), .val (.int i3), .unset, .unset, .unset, .unset, .unset, .unset, .unset] [])) _
  refine own_st (fun _ k => XS.iloadN X0.here hx rfl (hb hby at_0) rfl k) ?_
  show own_Goes p e below (s₁.setTop (mkF m 1 #[.val (.int i0), .val (.int i1), .val (.int i2), .val (.int i3), .unset, .unset, .unset, .unset, .unset, .unset, .unset] [(.int i0)])) _
  refine own_st (fun _ k => XS.sipush X0.here hx rfl (hb hby at_1) k) ?_
  show own_Goes p e below (s₁.setTop (mkF m 4 #[.val (.int i0), .val (.int i1), .val (.int i2), .val (.int i3), .unset, .unset, .unset, .unset, .unset, .unset, .unset] [(.int (255 : Int32)), (.int i0)])) _
  refine own_st (fun _ k => XS.iand X0.here hx rfl (hb hby at_4) rfl k) ?_
  show own_Goes p e below (s₁.setTop (mkF m 5 #[.val (.int i0), .val (.int i1), .val (.int i2), .val (.int i3), .unset, .unset, .unset, .unset, .unset, .unset, .unset] [(.int (i0 &&& (255 : Int32)))])) _
  refine own_st (fun _ k => XT.i2c X0.here hx rfl (hb hby at_5) rfl k) ?_
  show own_Goes p e below (s₁.setTop (mkF m 6 #[.val (.int i0), .val (.int i1), .val (.int i2), .val (.int i3), .unset, .unset, .unset, .unset, .unset, .unset, .unset] [(.int (i0 &&& (255 : Int32)).toUInt32.toUInt16.toUInt32.toInt32)])) _
  obtain ⟨c0, e_c0, hc0⟩ := own_and8 i0
  rw [e_c0]
  show own_Goes p e below (s₁.setTop (mkF m 6 #[.val (.int i0), .val (.int i1), .val (.int i2), .val (.int i3), .unset, .unset, .unset, .unset, .unset, .unset, .unset] [(.int c0)])) _
  refine own_st (fun _ k => XS.istore X0.here hx rfl (hb hby at_6) rfl (l' := #[.val (.int i0), .val (.int i1), .val (.int i2), .val (.int i3), .val (.int c0), .unset, .unset, .unset, .unset, .unset, .unset]) rfl k) ?_
  show own_Goes p e below (s₁.setTop (mkF m 8 #[.val (.int i0), .val (.int i1), .val (.int i2), .val (.int i3), .val (.int c0), .unset, .unset, .unset, .unset, .unset, .unset] [])) _
  refine own_st (fun _ k => XS.iloadN X0.here hx rfl (hb hby at_8) rfl k) ?_
  show own_Goes p e below (s₁.setTop (mkF m 9 #[.val (.int i0), .val (.int i1), .val (.int i2), .val (.int i3), .val (.int c0), .unset, .unset, .unset, .unset, .unset, .unset] [(.int i1)])) _
  refine own_st (fun _ k => XS.sipush X0.here hx rfl (hb hby at_9) k) ?_
  show own_Goes p e below (s₁.setTop (mkF m 12 #[.val (.int i0), .val (.int i1), .val (.int i2), .val (.int i3), .val (.int c0), .unset, .unset, .unset, .unset, .unset, .unset] [(.int (255 : Int32)), (.int i1)])) _
  refine own_st (fun _ k => XS.iand X0.here hx rfl (hb hby at_12) rfl k) ?_
  show own_Goes p e below (s₁.setTop (mkF m 13 #[.val (.int i0), .val (.int i1), .val (.int i2), .val (.int i3), .val (.int c0), .unset, .unset, .unset, .unset, .unset, .unset] [(.int (i1 &&& (255 : Int32)))])) _
  refine own_st (fun _ k => XT.i2c X0.here hx rfl (hb hby at_13) rfl k) ?_
  show own_Goes p e below (s₁.setTop (mkF m 14 #[.val (.int i0), .val (.int i1), .val (.int i2), .val (.int i3), .val (.int c0), .unset, .unset, .unset, .unset, .unset, .unset] [(.int (i1 &&& (255 : Int32)).toUInt32.toUInt16.toUInt32.toInt32)])) _
  obtain ⟨c1, e_c1, hc1⟩ := own_and8 i1
  rw [e_c1]
  show own_Goes p e below (s₁.setTop (mkF m 14 #[.val (.int i0), .val (.int i1), .val (.int i2), .val (.int i3), .val (.int c0), .unset, .unset, .unset, .unset, .unset, .unset] [(.int c1)])) _
  refine own_st (fun _ k => XS.istore X0.here hx rfl (hb hby at_14) rfl (l' := #[.val (.int i0), .val (.int i1), .val (.int i2), .val (.int i3), .val (.int c0), .val (.int c1), .unset, .unset, .unset, .unset, .unset]) rfl k) ?_
  show own_Goes p e below (s₁.setTop (mkF m 16 #[.val (.int i0), .val (.int i1), .val (.int i2), .val (.int i3), .val (.int c0), .val (.int c1), .unset, .unset, .unset, .unset, .unset] [])) _
  refine own_st (fun _ k => XS.iloadN X0.here hx rfl (hb hby at_16) rfl k) ?_
  show own_Goes p e below (s₁.setTop (mkF m 17 #[.val (.int i0), .val (.int i1), .val (.int i2), .val (.int i3), .val (.int c0), .val (.int c1), .unset, .unset, .unset, .unset, .unset] [(.int i2)])) _
  refine own_st (fun _ k => XS.sipush X0.here hx rfl (hb hby at_17) k) ?_
  show own_Goes p e below (s₁.setTop (mkF m 20 #[.val (.int i0), .val (.int i1), .val (.int i2), .val (.int i3), .val (.int c0), .val (.int c1), .unset, .unset, .unset, .unset, .unset] [(.int (255 : Int32)), (.int i2)])) _
  refine own_st (fun _ k => XS.iand X0.here hx rfl (hb hby at_20) rfl k) ?_
  show own_Goes p e below (s₁.setTop (mkF m 21 #[.val (.int i0), .val (.int i1), .val (.int i2), .val (.int i3), .val (.int c0), .val (.int c1), .unset, .unset, .unset, .unset, .unset] [(.int (i2 &&& (255 : Int32)))])) _
  refine own_st (fun _ k => XT.i2c X0.here hx rfl (hb hby at_21) rfl k) ?_
  show own_Goes p e below (s₁.setTop (mkF m 22 #[.val (.int i0), .val (.int i1), .val (.int i2), .val (.int i3), .val (.int c0), .val (.int c1), .unset, .unset, .unset, .unset, .unset] [(.int (i2 &&& (255 : Int32)).toUInt32.toUInt16.toUInt32.toInt32)])) _
  obtain ⟨c2, e_c2, hc2⟩ := own_and8 i2
  rw [e_c2]
  show own_Goes p e below (s₁.setTop (mkF m 22 #[.val (.int i0), .val (.int i1), .val (.int i2), .val (.int i3), .val (.int c0), .val (.int c1), .unset, .unset, .unset, .unset, .unset] [(.int c2)])) _
  refine own_st (fun _ k => XS.istore X0.here hx rfl (hb hby at_22) rfl (l' := #[.val (.int i0), .val (.int i1), .val (.int i2), .val (.int i3), .val (.int c0), .val (.int c1), .val (.int c2), .unset, .unset, .unset, .unset]) rfl k) ?_
  show own_Goes p e below (s₁.setTop (mkF m 24 #[.val (.int i0), .val (.int i1), .val (.int i2), .val (.int i3), .val (.int c0), .val (.int c1), .val (.int c2), .unset, .unset, .unset, .unset] [])) _
  refine own_st (fun _ k => XS.iloadN X0.here hx rfl (hb hby at_24) rfl k) ?_
  show own_Goes p e below (s₁.setTop (mkF m 25 #[.val (.int i0), .val (.int i1), .val (.int i2), .val (.int i3), .val (.int c0), .val (.int c1), .val (.int c2), .unset, .unset, .unset, .unset] [(.int i3)])) _
  refine own_st (fun _ k => XS.iconst X0.here hx rfl (hb hby at_25) k) ?_
  show own_Goes p e below (s₁.setTop (mkF m 26 #[.val (.int i0), .val (.int i1), .val (.int i2), .val (.int i3), .val (.int c0), .val (.int c1), .val (.int c2), .unset, .unset, .unset, .unset] [(.int (3 : Int32)), (.int i3)])) _
  refine own_st (fun _ k => XS.iand X0.here hx rfl (hb hby at_26) rfl k) ?_
  show own_Goes p e below (s₁.setTop (mkF m 27 #[.val (.int i0), .val (.int i1), .val (.int i2), .val (.int i3), .val (.int c0), .val (.int c1), .val (.int c2), .unset, .unset, .unset, .unset] [(.int (i3 &&& (3 : Int32)))])) _
  obtain ⟨la, e_la, hla⟩ := own_m4 i3
  rw [e_la]
  show own_Goes p e below (s₁.setTop (mkF m 27 #[.val (.int i0), .val (.int i1), .val (.int i2), .val (.int i3), .val (.int c0), .val (.int c1), .val (.int c2), .unset, .unset, .unset, .unset] [(.int la)])) _
  refine own_st (fun _ k => XS.istore X0.here hx rfl (hb hby at_27) rfl (l' := #[.val (.int i0), .val (.int i1), .val (.int i2), .val (.int i3), .val (.int c0), .val (.int c1), .val (.int c2), .val (.int la), .unset, .unset, .unset]) rfl k) ?_
  show own_Goes p e below (s₁.setTop (mkF m 29 #[.val (.int i0), .val (.int i1), .val (.int i2), .val (.int i3), .val (.int c0), .val (.int c1), .val (.int c2), .val (.int la), .unset, .unset, .unset] [])) _
  refine own_st (fun _ k => XS.iload X0.here hx rfl (hb hby at_29) rfl k) ?_
  show own_Goes p e below (s₁.setTop (mkF m 31 #[.val (.int i0), .val (.int i1), .val (.int i2), .val (.int i3), .val (.int c0), .val (.int c1), .val (.int c2), .val (.int la), .unset, .unset, .unset] [(.int la)])) _
  rcases hla with rfl | rfl | rfl | rfl
  · show own_Goes p e below (s₁.setTop (mkF m 31 #[.val (.int i0), .val (.int i1), .val (.int i2), .val (.int i3), .val (.int c0), .val (.int c1), .val (.int c2), .val (.int (0 : Int32)), .unset, .unset, .unset] [(.int (0 : Int32))])) _
    refine own_st (fun _ k => XS.ifNo X0.here hx rfl (hb hby at_31) rfl ((if0 _ _).trans (teq (by decide : (0 : Int32) = (0 : Int32))).2) k) ?_
    show own_Goes p e below (s₁.setTop (mkF m 34 #[.val (.int i0), .val (.int i1), .val (.int i2), .val (.int i3), .val (.int c0), .val (.int c1), .val (.int c2), .val (.int (0 : Int32)), .unset, .unset, .unset] [])) _
    obtain ⟨T101, h101, X101, e101, E101, A101, D101, -, st101⟩ := newO X0 hx hZ hown (hw _ (List.mem_of_getElem? (i := 78) rfl)) (hw _ (List.mem_of_getElem? (i := 10) rfl)) (hw _ (List.mem_of_getElem? (i := 2) rfl)) e0 (g := (mkF m 34 #[.val (.int i0), .val (.int i1), .val (.int i2), .val (.int i3), .val (.int c0), .val (.int c1), .val (.int c2), .val (.int (0 : Int32)), .unset, .unset, .unset] [])) rfl (hb hby at_34) (by decide) (by decide)
    obtain ⟨b101, g101⟩ : ∃ z, z = h0.size := ⟨_, rfl⟩
    rw [← g101] at A101 D101 st101
    have g_b101 : n0 ≤ b101 := Nat.le_trans Z0 (Nat.le_of_eq g101.symm)
    have sz_b101 : h0.size ≤ b101 := Nat.le_trans (Keep.refl h0 []).1 (Nat.le_of_eq g101.symm)
    have F_value_b101 : Fld Z h101 b101 "java/lang/String" "value" "[B" .null := D101 (Or.inr (hw _ (List.mem_of_getElem? (i := 23) rfl))) (ty := (.array .byte)) (by decide)
    have F_coder_b101 : Fld Z h101 b101 "java/lang/String" "coder" "B" (.int (0 : Int32)) := D101 (Or.inr (hw _ (List.mem_of_getElem? (i := 25) rfl))) (ty := .byte) (by decide)
    refine own_st st101 ?_
    show own_Goes p e below (T101.setTop (mkF m 37 #[.val (.int i0), .val (.int i1), .val (.int i2), .val (.int i3), .val (.int c0), .val (.int c1), .val (.int c2), .val (.int (0 : Int32)), .unset, .unset, .unset] [(.ref b101)])) _
    refine own_st (fun _ k => XS.dup X101.here hx rfl (hb hby at_37) rfl rfl k) ?_
    show own_Goes p e below (T101.setTop (mkF m 38 #[.val (.int i0), .val (.int i1), .val (.int i2), .val (.int i3), .val (.int c0), .val (.int c1), .val (.int c2), .val (.int (0 : Int32)), .unset, .unset, .unset] [(.ref b101), (.ref b101)])) _
    refine own_st (fun _ k => XS.iconst X101.here hx rfl (hb hby at_38) k) ?_
    show own_Goes p e below (T101.setTop (mkF m 39 #[.val (.int i0), .val (.int i1), .val (.int i2), .val (.int i3), .val (.int c0), .val (.int c1), .val (.int c2), .val (.int (0 : Int32)), .unset, .unset, .unset] [(.int (0 : Int32)), (.ref b101), (.ref b101)])) _
    have f102 := (Nat.le_trans Z0 E101.1)
    have f103 := ((Keep.refl h0 []).ext E101)
    obtain ⟨T104, h104, k104, X104, e104, E104, A104, st104⟩ := newP X101 hx hZ (hw _ (List.mem_of_getElem? (i := 79) rfl)) e101 (g := (mkF m 39 #[.val (.int i0), .val (.int i1), .val (.int i2), .val (.int i3), .val (.int c0), .val (.int c1), .val (.int c2), .val (.int (0 : Int32)), .unset, .unset, .unset] [(.int (0 : Int32)), (.ref b101), (.ref b101)])) rfl (hb hby at_39) rfl (by decide) (cap := 0) (by decide) (by decide) (by decide) (by decide)
    obtain ⟨b104, g104⟩ : ∃ z, z = h101.size := ⟨_, rfl⟩
    rw [← g104] at A104 st104
    have g_b104 : n0 ≤ b104 := Nat.le_trans f102 (Nat.le_of_eq g104.symm)
    have sz_b104 : h0.size ≤ b104 := Nat.le_trans f103.1 (Nat.le_of_eq g104.symm)
    have ne_b101_b104 : b101 ≠ b104 := by rw [g104]; exact Nat.ne_of_lt (A101).lt
    have V_b104 : Arv Z h104 b104 k104 .char (0 : Int32) [] (.int (0 : Int32)) := Arv.pad (Arv.new A104 (by decide)) (pad_rep [] _ 0)
    refine own_st st104 ?_
    show own_Goes p e below (T104.setTop (mkF m 41 #[.val (.int i0), .val (.int i1), .val (.int i2), .val (.int i3), .val (.int c0), .val (.int c1), .val (.int c2), .val (.int (0 : Int32)), .unset, .unset, .unset] [(.ref b104), (.ref b101), (.ref b101)])) _
    have f106 := (Nat.le_trans f102 E104.1)
    have f107 := (F_value_b101.ext E104)
    have f108 := (F_coder_b101.ext E104)
    have f109 := (A101.ext E104)
    have f110 := ((O0.ext E101).ext E104)
    have f111 := (f103.ext E104)
    have f112 := (Nat.le_trans (Nat.le_trans (Nat.zero_le _) E101.1) E104.1)
    obtain ⟨_, T105, h105, L105, X105, e105, ⟨rfl, N105q, K105, ⟨bb105, kb105, T105q⟩, hE105⟩, hS, hZ, hown, st105⟩ := own_callIS (argsL := [(.ref b104)]) (rest := [(.ref b101)]) (pc := 41) (W := 1) (Ls := #[.val (.int i0), .val (.int i1), .val (.int i2), .val (.int i3), .val (.int c0), .val (.int c1), .val (.int c2), .val (.int (0 : Int32)), .unset, .unset, .unset]) (S := [(.ref b104), (.ref b101), (.ref b101)]) X104 hx hZ hown hS f112 (fun _ w => own_E_warm (own_E_keep hP f111) w) rfl (hw _ (List.mem_of_getElem? (i := 80) rfl)) (hw _ (List.mem_of_getElem? (i := 81) rfl)) (hw _ (List.mem_of_getElem? (i := 2) rfl)) (hw _ (List.mem_of_getElem? (i := 82) rfl)) (by decide) (rm61 l Z a0 hw [] b101 b104 k104 h104 n0 f106 V_b104 f107 f108 f109 g_b101 f110 hh0 hcw0) (by decide) (by decide) e104 (by rw [hml]; rfl) (lenOf pd___C_V rfl) rfl (Nat.le_of_eq rfl) (hb hby at_41) (by decide) (by decide)
    refine own_st st105 ?_
    have N105 := Fr.app N0 N105q
    show own_Goes p e below (T105.setTop (mkF m 44 #[.val (.int i0), .val (.int i1), .val (.int i2), .val (.int i3), .val (.int c0), .val (.int c1), .val (.int c2), .val (.int (0 : Int32)), .unset, .unset, .unset] [(.ref b101)])) _
    refine own_st (fun _ k => XS.astore X105.here hx rfl (hb hby at_44) rfl rfl (l' := #[.val (.int i0), .val (.int i1), .val (.int i2), .val (.int i3), .val (.int c0), .val (.int c1), .val (.int c2), .val (.int (0 : Int32)), .val (.ref b101), .unset, .unset]) rfl k) ?_
    show own_Goes p e below (T105.setTop (mkF m 46 #[.val (.int i0), .val (.int i1), .val (.int i2), .val (.int i3), .val (.int c0), .val (.int c1), .val (.int c2), .val (.int (0 : Int32)), .val (.ref b101), .unset, .unset] [])) _
    refine own_st (fun _ k => XS.goto X105.here hx rfl (pc0 := 46) (pc' := 123) rfl (hb hby at_46) (by decide) (by decide) k) ?_
    show own_Goes p e below (T105.setTop (mkF m 123 #[.val (.int i0), .val (.int i1), .val (.int i2), .val (.int i3), .val (.int c0), .val (.int c1), .val (.int c2), .val (.int (0 : Int32)), .val (.ref b101), .unset, .unset] [])) _
    refine own_st (fun _ k => XS.aload X105.here hx rfl (hb hby at_123) rfl rfl k) ?_
    show own_Goes p e below (T105.setTop (mkF m 125 #[.val (.int i0), .val (.int i1), .val (.int i2), .val (.int i3), .val (.int c0), .val (.int c1), .val (.int c2), .val (.int (0 : Int32)), .val (.ref b101), .unset, .unset] [(.ref b101)])) _
    have f114 := (Nat.le_trans f106 K105.1)
    obtain ⟨_, T113, h113, L113, X113, e113, ⟨x113, rfl, g113, s113, N113q, K113, E113, F113, G113⟩, hS, hZ, hown, st113⟩ := own_callSS (argsL := [(.ref b101)]) (rest := []) (pc := 125) (W := 0) (Ls := #[.val (.int i0), .val (.int i1), .val (.int i2), .val (.int i3), .val (.int c0), .val (.int c1), .val (.int c2), .val (.int (0 : Int32)), .val (.ref b101), .unset, .unset]) (S := [(.ref b101)]) X105 hx hZ hown hS (Nat.le_refl h105.size) (fun _ _ => trivial) (hw _ (List.mem_of_getElem? (i := 26) rfl)) (hw _ (List.mem_of_getElem? (i := 27) rfl)) (hw _ (List.mem_of_getElem? (i := 28) rfl)) (hw _ (List.mem_of_getElem? (i := 29) rfl)) (by decide) (rm7 l Z a0 hw [] b101 h105 n0 f114 (T105q).1) (by decide) (by decide) e105 (by rw [hml]; rfl) (lenOf pd__Ljava_lang_String__Lcom_example_lattice_warden_latticewarden_FlagItem_ rfl) rfl (Nat.le_of_eq rfl) (hb hby at_125) (by decide) (by decide)
    refine own_st st113 ?_
    have N113 := Fr.app N105 N113q
    show own_Goes p e below (T113.setTop (mkF m 128 #[.val (.int i0), .val (.int i1), .val (.int i2), .val (.int i3), .val (.int c0), .val (.int c1), .val (.int c2), .val (.int (0 : Int32)), .val (.ref b101), .unset, .unset] [(.ref x113)])) _
    refine own_st (fun _ k => XS.astore X113.here hx rfl (hb hby at_128) rfl rfl (l' := #[.val (.int i0), .val (.int i1), .val (.int i2), .val (.int i3), .val (.int c0), .val (.int c1), .val (.int c2), .val (.int (0 : Int32)), .val (.ref b101), .val (.ref x113), .unset]) rfl k) ?_
    show own_Goes p e below (T113.setTop (mkF m 130 #[.val (.int i0), .val (.int i1), .val (.int i2), .val (.int i3), .val (.int c0), .val (.int c1), .val (.int c2), .val (.int (0 : Int32)), .val (.ref b101), .val (.ref x113), .unset] [])) _
    refine own_st (fun _ k => XS.aload X113.here hx rfl (hb hby at_130) rfl rfl k) ?_
    show own_Goes p e below (T113.setTop (mkF m 132 #[.val (.int i0), .val (.int i1), .val (.int i2), .val (.int i3), .val (.int c0), .val (.int c1), .val (.int c2), .val (.int (0 : Int32)), .val (.ref b101), .val (.ref x113), .unset] [(.ref x113)])) _
    have f116 := (Nat.le_trans f114 K113.1)
    obtain ⟨_, T115, h115, L115, X115, e115, ⟨rfl, rfl, q115⟩, st115⟩ := own_callV (argsL := []) (rest := []) (pc := 132) (W := 0) (Ls := #[.val (.int i0), .val (.int i1), .val (.int i2), .val (.int i3), .val (.int c0), .val (.int c1), .val (.int c2), .val (.int (0 : Int32)), .val (.ref b101), .val (.ref x113), .unset]) (S := [(.ref x113)]) X113 hx hZ hown (hw _ (List.mem_of_getElem? (i := 48) rfl)) (hw _ (List.mem_of_getElem? (i := 49) rfl)) (hw _ (List.mem_of_getElem? (i := 51) rfl)) (hw _ (List.mem_of_getElem? (i := 50) rfl)) (hw _ (List.mem_of_getElem? (i := 28) rfl)) (hw _ (List.mem_of_getElem? (i := 52) rfl)) (notFace_of_selects (args := #[]) (mvT hZ (hw _ (List.mem_of_getElem? (i := 51) rfl)))) (by decide) (rm8 l Z a0 hw [] x113 b101 h113 n0 f116 F113) (by decide) (by decide) e113 E113 (by rw [hml]; rfl) (lenOf pd___Ljava_lang_String_ rfl) rfl (Nat.le_of_eq rfl) (hb hby at_132) (by decide) (by decide)
    refine own_st st115 ?_
    have N115 := Fr.app N113 (Fr.nil n0)
    show own_Goes p e below (T115.setTop (mkF m 135 #[.val (.int i0), .val (.int i1), .val (.int i2), .val (.int i3), .val (.int c0), .val (.int c1), .val (.int c2), .val (.int (0 : Int32)), .val (.ref b101), .val (.ref x113), .unset] [(.ref b101)])) _
    refine own_st (fun _ k => XS.astore X115.here hx rfl (hb hby at_135) rfl rfl (l' := #[.val (.int i0), .val (.int i1), .val (.int i2), .val (.int i3), .val (.int c0), .val (.int c1), .val (.int c2), .val (.int (0 : Int32)), .val (.ref b101), .val (.ref x113), .val (.ref b101)]) rfl k) ?_
    show own_Goes p e below (T115.setTop (mkF m 137 #[.val (.int i0), .val (.int i1), .val (.int i2), .val (.int i3), .val (.int c0), .val (.int c1), .val (.int c2), .val (.int (0 : Int32)), .val (.ref b101), .val (.ref x113), .val (.ref b101)] [])) _
    refine own_st (fun _ k => XS.aload X115.here hx rfl (hb hby at_137) rfl rfl k) ?_
    show own_Goes p e below (T115.setTop (mkF m 139 #[.val (.int i0), .val (.int i1), .val (.int i2), .val (.int i3), .val (.int c0), .val (.int c1), .val (.int c2), .val (.int (0 : Int32)), .val (.ref b101), .val (.ref x113), .val (.ref b101)] [(.ref b101)])) _
    refine own_st (fun _ k => XT.ifnonnullYes X115.here hx rfl (pc0 := 139) (pc' := 144) rfl (hb hby at_139) rfl (by decide) (by decide) k) ?_
    show own_Goes p e below (T115.setTop (mkF m 144 #[.val (.int i0), .val (.int i1), .val (.int i2), .val (.int i3), .val (.int c0), .val (.int c1), .val (.int c2), .val (.int (0 : Int32)), .val (.ref b101), .val (.ref x113), .val (.ref b101)] [])) _
    refine own_st (fun _ k => XS.aload X115.here hx rfl (hb hby at_144) rfl rfl k) ?_
    show own_Goes p e below (T115.setTop (mkF m 146 #[.val (.int i0), .val (.int i1), .val (.int i2), .val (.int i3), .val (.int c0), .val (.int c1), .val (.int c2), .val (.int (0 : Int32)), .val (.ref b101), .val (.ref x113), .val (.ref b101)] [(.ref b101)])) _
    have f118 := (T105q.keep K113 nin0 nin0)
    have f119 := ((f110.keep K105 (allS g_b101 all0)).keep K113 all0)
    obtain ⟨_, T117, h117, L117, X117, e117, ⟨rfl, rfl, q117⟩, st117⟩ := own_callV (argsL := []) (rest := []) (pc := 146) (W := 0) (Ls := #[.val (.int i0), .val (.int i1), .val (.int i2), .val (.int i3), .val (.int c0), .val (.int c1), .val (.int c2), .val (.int (0 : Int32)), .val (.ref b101), .val (.ref x113), .val (.ref b101)]) (S := [(.ref b101)]) X115 hx hZ hown (hw _ (List.mem_of_getElem? (i := 53) rfl)) (hw _ (List.mem_of_getElem? (i := 54) rfl)) (hw _ (List.mem_of_getElem? (i := 56) rfl)) (hw _ (List.mem_of_getElem? (i := 55) rfl)) (hw _ (List.mem_of_getElem? (i := 2) rfl)) (hw _ (List.mem_of_getElem? (i := 57) rfl)) (notFace_of_selects (args := #[]) (mvT hZ (hw _ (List.mem_of_getElem? (i := 56) rfl)))) (by decide) (rm12 l Z a0 hw [] b101 bb105 kb105 (0 : Int32) cs [] h113 n0 f116 f118 (S_cs.ext f119.2) hcs) (by decide) (by decide) (e115.trans q115) f118.1 (by rw [hml]; rfl) (lenOf pd___I rfl) rfl (Nat.le_of_eq rfl) (hb hby at_146) (by decide) (by decide)
    refine own_st st117 ?_
    have N117 := Fr.app N115 (Fr.nil n0)
    show own_Goes p e below (T117.setTop (mkF m 149 #[.val (.int i0), .val (.int i1), .val (.int i2), .val (.int i3), .val (.int c0), .val (.int c1), .val (.int c2), .val (.int (0 : Int32)), .val (.ref b101), .val (.ref x113), .val (.ref b101)] [(.int (0 : Int32))])) _
    refine own_st (fun _ k => XS.iload X117.here hx rfl (hb hby at_149) rfl k) ?_
    show own_Goes p e below (T117.setTop (mkF m 151 #[.val (.int i0), .val (.int i1), .val (.int i2), .val (.int i3), .val (.int c0), .val (.int c1), .val (.int c2), .val (.int (0 : Int32)), .val (.ref b101), .val (.ref x113), .val (.ref b101)] [(.int (0 : Int32)), (.int (0 : Int32))])) _
    refine own_st (fun _ k => XS.icmpYes X117.here hx rfl (pc0 := 151) (pc' := 156) rfl (hb hby at_151) rfl (teq (by decide : (0 : Int32) = (0 : Int32))).1 (by decide) (by decide) k) ?_
    show own_Goes p e below (T117.setTop (mkF m 156 #[.val (.int i0), .val (.int i1), .val (.int i2), .val (.int i3), .val (.int c0), .val (.int c1), .val (.int c2), .val (.int (0 : Int32)), .val (.ref b101), .val (.ref x113), .val (.ref b101)] [])) _
    refine own_st (fun _ k => XS.aload X117.here hx rfl (hb hby at_156) rfl rfl k) ?_
    show own_Goes p e below (T117.setTop (mkF m 158 #[.val (.int i0), .val (.int i1), .val (.int i2), .val (.int i3), .val (.int c0), .val (.int c1), .val (.int c2), .val (.int (0 : Int32)), .val (.ref b101), .val (.ref x113), .val (.ref b101)] [(.ref x113)])) _
    obtain ⟨_, T120, h120, L120, X120, e120, ⟨rfl, rfl, q120⟩, st120⟩ := own_callV (argsL := []) (rest := []) (pc := 158) (W := 0) (Ls := #[.val (.int i0), .val (.int i1), .val (.int i2), .val (.int i3), .val (.int c0), .val (.int c1), .val (.int c2), .val (.int (0 : Int32)), .val (.ref b101), .val (.ref x113), .val (.ref b101)]) (S := [(.ref x113)]) X117 hx hZ hown (hw _ (List.mem_of_getElem? (i := 63) rfl)) (hw _ (List.mem_of_getElem? (i := 64) rfl)) (hw _ (List.mem_of_getElem? (i := 66) rfl)) (hw _ (List.mem_of_getElem? (i := 65) rfl)) (hw _ (List.mem_of_getElem? (i := 28) rfl)) (hw _ (List.mem_of_getElem? (i := 67) rfl)) (notFace_of_selects (args := #[]) (mvT hZ (hw _ (List.mem_of_getElem? (i := 66) rfl)))) (by decide) (rm9 l Z a0 hw [] x113 b101 h113 n0 f116 F113) (by decide) (by decide) (e117.trans q117) E113 (by rw [hml]; rfl) (lenOf pd___Z rfl) rfl (Nat.le_of_eq rfl) (hb hby at_158) (by decide) (by decide)
    refine own_st st120 ?_
    have N120 := Fr.app N117 (Fr.nil n0)
    show own_Goes p e below (T120.setTop (mkF m 161 #[.val (.int i0), .val (.int i1), .val (.int i2), .val (.int i3), .val (.int c0), .val (.int c1), .val (.int c2), .val (.int (0 : Int32)), .val (.ref b101), .val (.ref x113), .val (.ref b101)] [(.int (0 : Int32))])) _
    refine own_st (fun _ k => XS.ifNo X120.here hx rfl (hb hby at_161) rfl ((if0 _ _).trans (teq (by decide : (0 : Int32) = (0 : Int32))).2) k) ?_
    show own_Goes p e below (T120.setTop (mkF m 164 #[.val (.int i0), .val (.int i1), .val (.int i2), .val (.int i3), .val (.int c0), .val (.int c1), .val (.int c2), .val (.int (0 : Int32)), .val (.ref b101), .val (.ref x113), .val (.ref b101)] [])) _
    refine own_st (fun _ k => XS.aload X120.here hx rfl (hb hby at_164) rfl rfl k) ?_
    show own_Goes p e below (T120.setTop (mkF m 166 #[.val (.int i0), .val (.int i1), .val (.int i2), .val (.int i3), .val (.int c0), .val (.int c1), .val (.int c2), .val (.int (0 : Int32)), .val (.ref b101), .val (.ref x113), .val (.ref b101)] [(.ref x113)])) _
    obtain ⟨_, T121, h121, L121, X121, e121, ⟨rfl, rfl, q121⟩, st121⟩ := own_callV (argsL := []) (rest := []) (pc := 166) (W := 0) (Ls := #[.val (.int i0), .val (.int i1), .val (.int i2), .val (.int i3), .val (.int c0), .val (.int c1), .val (.int c2), .val (.int (0 : Int32)), .val (.ref b101), .val (.ref x113), .val (.ref b101)]) (S := [(.ref x113)]) X120 hx hZ hown (hw _ (List.mem_of_getElem? (i := 68) rfl)) (hw _ (List.mem_of_getElem? (i := 69) rfl)) (hw _ (List.mem_of_getElem? (i := 71) rfl)) (hw _ (List.mem_of_getElem? (i := 70) rfl)) (hw _ (List.mem_of_getElem? (i := 28) rfl)) (hw _ (List.mem_of_getElem? (i := 72) rfl)) (notFace_of_selects (args := #[]) (mvT hZ (hw _ (List.mem_of_getElem? (i := 71) rfl)))) (by decide) (rm10 l Z a0 hw [] x113 (0 : Int64) h113 n0 f116 G113) (by decide) (by decide) (e120.trans q120) E113 (by rw [hml]; rfl) (lenOf pd___J rfl) rfl (Nat.le_of_eq rfl) (hb hby at_166) (by decide) (by decide)
    refine own_st st121 ?_
    have N121 := Fr.app N120 (Fr.nil n0)
    show own_Goes p e below (T121.setTop (mkF m 169 #[.val (.int i0), .val (.int i1), .val (.int i2), .val (.int i3), .val (.int c0), .val (.int c1), .val (.int c2), .val (.int (0 : Int32)), .val (.ref b101), .val (.ref x113), .val (.ref b101)] [(.long (0 : Int64))])) _
    refine own_st (fun _ k => XT.lconst X121.here hx rfl (hb hby at_169) k) ?_
    show own_Goes p e below (T121.setTop (mkF m 170 #[.val (.int i0), .val (.int i1), .val (.int i2), .val (.int i3), .val (.int c0), .val (.int c1), .val (.int c2), .val (.int (0 : Int32)), .val (.ref b101), .val (.ref x113), .val (.ref b101)] [(.long (0 : Int64)), (.long (0 : Int64))])) _
    refine own_st (fun _ k => XT.lcmp X121.here hx rfl (hb hby at_170) rfl k) ?_
    show own_Goes p e below (T121.setTop (mkF m 171 #[.val (.int i0), .val (.int i1), .val (.int i2), .val (.int i3), .val (.int c0), .val (.int c1), .val (.int c2), .val (.int (0 : Int32)), .val (.ref b101), .val (.ref x113), .val (.ref b101)] [(.int (XT.cmpL (0 : Int64) (0 : Int64)))])) _
    refine own_st (fun _ k => XS.ifNo X121.here hx rfl (hb hby at_171) rfl ((if0 _ _).trans (teq (by decide : (XT.cmpL (0 : Int64) (0 : Int64)) = (0 : Int32))).2) k) ?_
    show own_Goes p e below (T121.setTop (mkF m 174 #[.val (.int i0), .val (.int i1), .val (.int i2), .val (.int i3), .val (.int c0), .val (.int c1), .val (.int c2), .val (.int (0 : Int32)), .val (.ref b101), .val (.ref x113), .val (.ref b101)] [])) _
    refine own_st (fun _ k => XS.aload X121.here hx rfl (hb hby at_174) rfl rfl k) ?_
    show own_Goes p e below (T121.setTop (mkF m 176 #[.val (.int i0), .val (.int i1), .val (.int i2), .val (.int i3), .val (.int c0), .val (.int c1), .val (.int c2), .val (.int (0 : Int32)), .val (.ref b101), .val (.ref x113), .val (.ref b101)] [(.ref b101)])) _
    refine own_st (fun _ k => XS.aload X121.here hx rfl (hb hby at_176) rfl rfl k) ?_
    show own_Goes p e below (T121.setTop (mkF m 178 #[.val (.int i0), .val (.int i1), .val (.int i2), .val (.int i3), .val (.int c0), .val (.int c1), .val (.int c2), .val (.int (0 : Int32)), .val (.ref b101), .val (.ref x113), .val (.ref b101)] [(.ref b101), (.ref b101)])) _
    obtain ⟨_, T122, h122, L122, X122, e122, ⟨rfl, rfl, q122⟩, st122⟩ := own_callV (argsL := [(.ref b101)]) (rest := []) (pc := 178) (W := 0) (Ls := #[.val (.int i0), .val (.int i1), .val (.int i2), .val (.int i3), .val (.int c0), .val (.int c1), .val (.int c2), .val (.int (0 : Int32)), .val (.ref b101), .val (.ref x113), .val (.ref b101)]) (S := [(.ref b101), (.ref b101)]) X121 hx hZ hown (hw _ (List.mem_of_getElem? (i := 73) rfl)) (hw _ (List.mem_of_getElem? (i := 74) rfl)) (hw _ (List.mem_of_getElem? (i := 76) rfl)) (hw _ (List.mem_of_getElem? (i := 75) rfl)) (hw _ (List.mem_of_getElem? (i := 2) rfl)) (hw _ (List.mem_of_getElem? (i := 77) rfl)) (notFace_of_selects (args := #[]) (mvT hZ (hw _ (List.mem_of_getElem? (i := 76) rfl)))) (by decide) (rm13 l Z a0 hw [] b101 h113 n0 f116) (by decide) (by decide) (e121.trans q121) f118.1 (by rw [hml]; rfl) (lenOf pd__Ljava_lang_Object__Z rfl) rfl (Nat.le_of_eq rfl) (hb hby at_178) (by decide) (by decide)
    refine own_st st122 ?_
    have N122 := Fr.app N121 (Fr.nil n0)
    show own_Goes p e below (T122.setTop (mkF m 181 #[.val (.int i0), .val (.int i1), .val (.int i2), .val (.int i3), .val (.int c0), .val (.int c1), .val (.int c2), .val (.int (0 : Int32)), .val (.ref b101), .val (.ref x113), .val (.ref b101)] [(.int (1 : Int32))])) _
    refine own_st (fun _ k => XS.ifNo X122.here hx rfl (hb hby at_181) rfl ((if0 _ _).trans (feq (by decide : ¬ ((1 : Int32) = (0 : Int32)))).1) k) ?_
    show own_Goes p e below (T122.setTop (mkF m 184 #[.val (.int i0), .val (.int i1), .val (.int i2), .val (.int i3), .val (.int c0), .val (.int c1), .val (.int c2), .val (.int (0 : Int32)), .val (.ref b101), .val (.ref x113), .val (.ref b101)] [])) _
    refine own_st (fun _ k => XS.iconst X122.here hx rfl (hb hby at_184) k) ?_
    show own_Goes p e below (T122.setTop (mkF m 185 #[.val (.int i0), .val (.int i1), .val (.int i2), .val (.int i3), .val (.int c0), .val (.int c1), .val (.int c2), .val (.int (0 : Int32)), .val (.ref b101), .val (.ref x113), .val (.ref b101)] [(.int (1 : Int32))])) _
    refine own_st (fun _ k => XS.goto X122.here hx rfl (pc0 := 185) (pc' := 189) rfl (hb hby at_185) (by decide) (by decide) k) ?_
    show own_Goes p e below (T122.setTop (mkF m 189 #[.val (.int i0), .val (.int i1), .val (.int i2), .val (.int i3), .val (.int c0), .val (.int c1), .val (.int c2), .val (.int (0 : Int32)), .val (.ref b101), .val (.ref x113), .val (.ref b101)] [(.int (1 : Int32))])) _
    exact own_retSN (t := .boolean) (z' := (1 : Int32)) X122 hS (Nat.le_refl h113.size) hx hlk hret (by simp) (by decide) (hb hby at_189) (by decide) (by decide) (e122.trans q122) ⟨rfl, N122⟩
  · show own_Goes p e below (s₁.setTop (mkF m 31 #[.val (.int i0), .val (.int i1), .val (.int i2), .val (.int i3), .val (.int c0), .val (.int c1), .val (.int c2), .val (.int (1 : Int32)), .unset, .unset, .unset] [(.int (1 : Int32))])) _
    refine own_st (fun _ k => XS.ifYes X0.here hx rfl (pc0 := 31) (pc' := 49) rfl (hb hby at_31) rfl ((if0 _ _).trans (feq (by decide : ¬ ((1 : Int32) = (0 : Int32)))).2) (by decide) (by decide) k) ?_
    show own_Goes p e below (s₁.setTop (mkF m 49 #[.val (.int i0), .val (.int i1), .val (.int i2), .val (.int i3), .val (.int c0), .val (.int c1), .val (.int c2), .val (.int (1 : Int32)), .unset, .unset, .unset] [])) _
    refine own_st (fun _ k => XS.iload X0.here hx rfl (hb hby at_49) rfl k) ?_
    show own_Goes p e below (s₁.setTop (mkF m 51 #[.val (.int i0), .val (.int i1), .val (.int i2), .val (.int i3), .val (.int c0), .val (.int c1), .val (.int c2), .val (.int (1 : Int32)), .unset, .unset, .unset] [(.int (1 : Int32))])) _
    refine own_st (fun _ k => XS.iconst X0.here hx rfl (hb hby at_51) k) ?_
    show own_Goes p e below (s₁.setTop (mkF m 52 #[.val (.int i0), .val (.int i1), .val (.int i2), .val (.int i3), .val (.int c0), .val (.int c1), .val (.int c2), .val (.int (1 : Int32)), .unset, .unset, .unset] [(.int (1 : Int32)), (.int (1 : Int32))])) _
    refine own_st (fun _ k => XS.icmpNo X0.here hx rfl (hb hby at_52) rfl (teq (by decide : (1 : Int32) = (1 : Int32))).2 k) ?_
    show own_Goes p e below (s₁.setTop (mkF m 55 #[.val (.int i0), .val (.int i1), .val (.int i2), .val (.int i3), .val (.int c0), .val (.int c1), .val (.int c2), .val (.int (1 : Int32)), .unset, .unset, .unset] [])) _
    refine own_st (fun _ k => XS.iload X0.here hx rfl (hb hby at_55) rfl k) ?_
    show own_Goes p e below (s₁.setTop (mkF m 57 #[.val (.int i0), .val (.int i1), .val (.int i2), .val (.int i3), .val (.int c0), .val (.int c1), .val (.int c2), .val (.int (1 : Int32)), .unset, .unset, .unset] [(.int c0)])) _
    obtain ⟨_, T123, h123, L123, X123, e123, ⟨a123, b123, k123, rfl, g123, s123, N123q, K123, T123q⟩, st123⟩ := own_callS (argsL := [(.int c0)]) (rest := []) (pc := 57) (W := 0) (Ls := #[.val (.int i0), .val (.int i1), .val (.int i2), .val (.int i3), .val (.int c0), .val (.int c1), .val (.int c2), .val (.int (1 : Int32)), .unset, .unset, .unset]) (S := [(.int c0)]) X0 hx hZ hown (hw _ (List.mem_of_getElem? (i := 0) rfl)) (hw _ (List.mem_of_getElem? (i := 1) rfl)) (hw _ (List.mem_of_getElem? (i := 2) rfl)) (hw _ (List.mem_of_getElem? (i := 3) rfl)) (by decide) (rm4 l Z a0 hw [] c0 cs h0 n0 Z0 hc0 (S_cs.ext O0.2) hcs) (by decide) (by decide) e0 (by rw [hml]; rfl) (lenOf pd__C_Ljava_lang_String_ rfl) rfl (Nat.le_of_eq rfl) (hb hby at_57) (by decide) (by decide)
    refine own_st st123 ?_
    have N123 := Fr.app N0 N123q
    show own_Goes p e below (T123.setTop (mkF m 60 #[.val (.int i0), .val (.int i1), .val (.int i2), .val (.int i3), .val (.int c0), .val (.int c1), .val (.int c2), .val (.int (1 : Int32)), .unset, .unset, .unset] [(.ref a123)])) _
    refine own_st (fun _ k => XS.astore X123.here hx rfl (hb hby at_60) rfl rfl (l' := #[.val (.int i0), .val (.int i1), .val (.int i2), .val (.int i3), .val (.int c0), .val (.int c1), .val (.int c2), .val (.int (1 : Int32)), .val (.ref a123), .unset, .unset]) rfl k) ?_
    show own_Goes p e below (T123.setTop (mkF m 62 #[.val (.int i0), .val (.int i1), .val (.int i2), .val (.int i3), .val (.int c0), .val (.int c1), .val (.int c2), .val (.int (1 : Int32)), .val (.ref a123), .unset, .unset] [])) _
    refine own_st (fun _ k => XS.goto X123.here hx rfl (pc0 := 62) (pc' := 123) rfl (hb hby at_62) (by decide) (by decide) k) ?_
    show own_Goes p e below (T123.setTop (mkF m 123 #[.val (.int i0), .val (.int i1), .val (.int i2), .val (.int i3), .val (.int c0), .val (.int c1), .val (.int c2), .val (.int (1 : Int32)), .val (.ref a123), .unset, .unset] [])) _
    refine own_st (fun _ k => XS.aload X123.here hx rfl (hb hby at_123) rfl rfl k) ?_
    show own_Goes p e below (T123.setTop (mkF m 125 #[.val (.int i0), .val (.int i1), .val (.int i2), .val (.int i3), .val (.int c0), .val (.int c1), .val (.int c2), .val (.int (1 : Int32)), .val (.ref a123), .unset, .unset] [(.ref a123)])) _
    have f125 := (Nat.le_trans Z0 K123.1)
    have f126 := (Nat.le_trans (Nat.zero_le _) K123.1)
    obtain ⟨_, T124, h124, L124, X124, e124, ⟨x124, rfl, g124, s124, N124q, K124, E124, F124, G124⟩, hS, hZ, hown, st124⟩ := own_callSS (argsL := [(.ref a123)]) (rest := []) (pc := 125) (W := 0) (Ls := #[.val (.int i0), .val (.int i1), .val (.int i2), .val (.int i3), .val (.int c0), .val (.int c1), .val (.int c2), .val (.int (1 : Int32)), .val (.ref a123), .unset, .unset]) (S := [(.ref a123)]) X123 hx hZ hown hS f126 (fun _ _ => trivial) (hw _ (List.mem_of_getElem? (i := 26) rfl)) (hw _ (List.mem_of_getElem? (i := 27) rfl)) (hw _ (List.mem_of_getElem? (i := 28) rfl)) (hw _ (List.mem_of_getElem? (i := 29) rfl)) (by decide) (rm7 l Z a0 hw [] a123 h123 n0 f125 (T123q).1) (by decide) (by decide) e123 (by rw [hml]; rfl) (lenOf pd__Ljava_lang_String__Lcom_example_lattice_warden_latticewarden_FlagItem_ rfl) rfl (Nat.le_of_eq rfl) (hb hby at_125) (by decide) (by decide)
    refine own_st st124 ?_
    have N124 := Fr.app N123 N124q
    show own_Goes p e below (T124.setTop (mkF m 128 #[.val (.int i0), .val (.int i1), .val (.int i2), .val (.int i3), .val (.int c0), .val (.int c1), .val (.int c2), .val (.int (1 : Int32)), .val (.ref a123), .unset, .unset] [(.ref x124)])) _
    refine own_st (fun _ k => XS.astore X124.here hx rfl (hb hby at_128) rfl rfl (l' := #[.val (.int i0), .val (.int i1), .val (.int i2), .val (.int i3), .val (.int c0), .val (.int c1), .val (.int c2), .val (.int (1 : Int32)), .val (.ref a123), .val (.ref x124), .unset]) rfl k) ?_
    show own_Goes p e below (T124.setTop (mkF m 130 #[.val (.int i0), .val (.int i1), .val (.int i2), .val (.int i3), .val (.int c0), .val (.int c1), .val (.int c2), .val (.int (1 : Int32)), .val (.ref a123), .val (.ref x124), .unset] [])) _
    refine own_st (fun _ k => XS.aload X124.here hx rfl (hb hby at_130) rfl rfl k) ?_
    show own_Goes p e below (T124.setTop (mkF m 132 #[.val (.int i0), .val (.int i1), .val (.int i2), .val (.int i3), .val (.int c0), .val (.int c1), .val (.int c2), .val (.int (1 : Int32)), .val (.ref a123), .val (.ref x124), .unset] [(.ref x124)])) _
    have f128 := (Nat.le_trans f125 K124.1)
    obtain ⟨_, T127, h127, L127, X127, e127, ⟨rfl, rfl, q127⟩, st127⟩ := own_callV (argsL := []) (rest := []) (pc := 132) (W := 0) (Ls := #[.val (.int i0), .val (.int i1), .val (.int i2), .val (.int i3), .val (.int c0), .val (.int c1), .val (.int c2), .val (.int (1 : Int32)), .val (.ref a123), .val (.ref x124), .unset]) (S := [(.ref x124)]) X124 hx hZ hown (hw _ (List.mem_of_getElem? (i := 48) rfl)) (hw _ (List.mem_of_getElem? (i := 49) rfl)) (hw _ (List.mem_of_getElem? (i := 51) rfl)) (hw _ (List.mem_of_getElem? (i := 50) rfl)) (hw _ (List.mem_of_getElem? (i := 28) rfl)) (hw _ (List.mem_of_getElem? (i := 52) rfl)) (notFace_of_selects (args := #[]) (mvT hZ (hw _ (List.mem_of_getElem? (i := 51) rfl)))) (by decide) (rm8 l Z a0 hw [] x124 a123 h124 n0 f128 F124) (by decide) (by decide) e124 E124 (by rw [hml]; rfl) (lenOf pd___Ljava_lang_String_ rfl) rfl (Nat.le_of_eq rfl) (hb hby at_132) (by decide) (by decide)
    refine own_st st127 ?_
    have N127 := Fr.app N124 (Fr.nil n0)
    show own_Goes p e below (T127.setTop (mkF m 135 #[.val (.int i0), .val (.int i1), .val (.int i2), .val (.int i3), .val (.int c0), .val (.int c1), .val (.int c2), .val (.int (1 : Int32)), .val (.ref a123), .val (.ref x124), .unset] [(.ref a123)])) _
    refine own_st (fun _ k => XS.astore X127.here hx rfl (hb hby at_135) rfl rfl (l' := #[.val (.int i0), .val (.int i1), .val (.int i2), .val (.int i3), .val (.int c0), .val (.int c1), .val (.int c2), .val (.int (1 : Int32)), .val (.ref a123), .val (.ref x124), .val (.ref a123)]) rfl k) ?_
    show own_Goes p e below (T127.setTop (mkF m 137 #[.val (.int i0), .val (.int i1), .val (.int i2), .val (.int i3), .val (.int c0), .val (.int c1), .val (.int c2), .val (.int (1 : Int32)), .val (.ref a123), .val (.ref x124), .val (.ref a123)] [])) _
    refine own_st (fun _ k => XS.aload X127.here hx rfl (hb hby at_137) rfl rfl k) ?_
    show own_Goes p e below (T127.setTop (mkF m 139 #[.val (.int i0), .val (.int i1), .val (.int i2), .val (.int i3), .val (.int c0), .val (.int c1), .val (.int c2), .val (.int (1 : Int32)), .val (.ref a123), .val (.ref x124), .val (.ref a123)] [(.ref a123)])) _
    refine own_st (fun _ k => XT.ifnonnullYes X127.here hx rfl (pc0 := 139) (pc' := 144) rfl (hb hby at_139) rfl (by decide) (by decide) k) ?_
    show own_Goes p e below (T127.setTop (mkF m 144 #[.val (.int i0), .val (.int i1), .val (.int i2), .val (.int i3), .val (.int c0), .val (.int c1), .val (.int c2), .val (.int (1 : Int32)), .val (.ref a123), .val (.ref x124), .val (.ref a123)] [])) _
    refine own_st (fun _ k => XS.aload X127.here hx rfl (hb hby at_144) rfl rfl k) ?_
    show own_Goes p e below (T127.setTop (mkF m 146 #[.val (.int i0), .val (.int i1), .val (.int i2), .val (.int i3), .val (.int c0), .val (.int c1), .val (.int c2), .val (.int (1 : Int32)), .val (.ref a123), .val (.ref x124), .val (.ref a123)] [(.ref a123)])) _
    have f130 := (T123q.keep K124 nin0 nin0)
    have f131 := ((O0.keep K123 all0).keep K124 all0)
    obtain ⟨_, T129, h129, L129, X129, e129, ⟨rfl, rfl, q129⟩, st129⟩ := own_callV (argsL := []) (rest := []) (pc := 146) (W := 0) (Ls := #[.val (.int i0), .val (.int i1), .val (.int i2), .val (.int i3), .val (.int c0), .val (.int c1), .val (.int c2), .val (.int (1 : Int32)), .val (.ref a123), .val (.ref x124), .val (.ref a123)]) (S := [(.ref a123)]) X127 hx hZ hown (hw _ (List.mem_of_getElem? (i := 53) rfl)) (hw _ (List.mem_of_getElem? (i := 54) rfl)) (hw _ (List.mem_of_getElem? (i := 56) rfl)) (hw _ (List.mem_of_getElem? (i := 55) rfl)) (hw _ (List.mem_of_getElem? (i := 2) rfl)) (hw _ (List.mem_of_getElem? (i := 57) rfl)) (notFace_of_selects (args := #[]) (mvT hZ (hw _ (List.mem_of_getElem? (i := 56) rfl)))) (by decide) (rm12 l Z a0 hw [] a123 b123 k123 (1 : Int32) cs [(.int c0.toInt8.toInt32)] h124 n0 f128 f130 (S_cs.ext f131.2) hcs) (by decide) (by decide) (e127.trans q127) f130.1 (by rw [hml]; rfl) (lenOf pd___I rfl) rfl (Nat.le_of_eq rfl) (hb hby at_146) (by decide) (by decide)
    refine own_st st129 ?_
    have N129 := Fr.app N127 (Fr.nil n0)
    show own_Goes p e below (T129.setTop (mkF m 149 #[.val (.int i0), .val (.int i1), .val (.int i2), .val (.int i3), .val (.int c0), .val (.int c1), .val (.int c2), .val (.int (1 : Int32)), .val (.ref a123), .val (.ref x124), .val (.ref a123)] [(.int (1 : Int32))])) _
    refine own_st (fun _ k => XS.iload X129.here hx rfl (hb hby at_149) rfl k) ?_
    show own_Goes p e below (T129.setTop (mkF m 151 #[.val (.int i0), .val (.int i1), .val (.int i2), .val (.int i3), .val (.int c0), .val (.int c1), .val (.int c2), .val (.int (1 : Int32)), .val (.ref a123), .val (.ref x124), .val (.ref a123)] [(.int (1 : Int32)), (.int (1 : Int32))])) _
    refine own_st (fun _ k => XS.icmpYes X129.here hx rfl (pc0 := 151) (pc' := 156) rfl (hb hby at_151) rfl (teq (by decide : (1 : Int32) = (1 : Int32))).1 (by decide) (by decide) k) ?_
    show own_Goes p e below (T129.setTop (mkF m 156 #[.val (.int i0), .val (.int i1), .val (.int i2), .val (.int i3), .val (.int c0), .val (.int c1), .val (.int c2), .val (.int (1 : Int32)), .val (.ref a123), .val (.ref x124), .val (.ref a123)] [])) _
    refine own_st (fun _ k => XS.aload X129.here hx rfl (hb hby at_156) rfl rfl k) ?_
    show own_Goes p e below (T129.setTop (mkF m 158 #[.val (.int i0), .val (.int i1), .val (.int i2), .val (.int i3), .val (.int c0), .val (.int c1), .val (.int c2), .val (.int (1 : Int32)), .val (.ref a123), .val (.ref x124), .val (.ref a123)] [(.ref x124)])) _
    obtain ⟨_, T132, h132, L132, X132, e132, ⟨rfl, rfl, q132⟩, st132⟩ := own_callV (argsL := []) (rest := []) (pc := 158) (W := 0) (Ls := #[.val (.int i0), .val (.int i1), .val (.int i2), .val (.int i3), .val (.int c0), .val (.int c1), .val (.int c2), .val (.int (1 : Int32)), .val (.ref a123), .val (.ref x124), .val (.ref a123)]) (S := [(.ref x124)]) X129 hx hZ hown (hw _ (List.mem_of_getElem? (i := 63) rfl)) (hw _ (List.mem_of_getElem? (i := 64) rfl)) (hw _ (List.mem_of_getElem? (i := 66) rfl)) (hw _ (List.mem_of_getElem? (i := 65) rfl)) (hw _ (List.mem_of_getElem? (i := 28) rfl)) (hw _ (List.mem_of_getElem? (i := 67) rfl)) (notFace_of_selects (args := #[]) (mvT hZ (hw _ (List.mem_of_getElem? (i := 66) rfl)))) (by decide) (rm9 l Z a0 hw [] x124 a123 h124 n0 f128 F124) (by decide) (by decide) (e129.trans q129) E124 (by rw [hml]; rfl) (lenOf pd___Z rfl) rfl (Nat.le_of_eq rfl) (hb hby at_158) (by decide) (by decide)
    refine own_st st132 ?_
    have N132 := Fr.app N129 (Fr.nil n0)
    show own_Goes p e below (T132.setTop (mkF m 161 #[.val (.int i0), .val (.int i1), .val (.int i2), .val (.int i3), .val (.int c0), .val (.int c1), .val (.int c2), .val (.int (1 : Int32)), .val (.ref a123), .val (.ref x124), .val (.ref a123)] [(.int (0 : Int32))])) _
    refine own_st (fun _ k => XS.ifNo X132.here hx rfl (hb hby at_161) rfl ((if0 _ _).trans (teq (by decide : (0 : Int32) = (0 : Int32))).2) k) ?_
    show own_Goes p e below (T132.setTop (mkF m 164 #[.val (.int i0), .val (.int i1), .val (.int i2), .val (.int i3), .val (.int c0), .val (.int c1), .val (.int c2), .val (.int (1 : Int32)), .val (.ref a123), .val (.ref x124), .val (.ref a123)] [])) _
    refine own_st (fun _ k => XS.aload X132.here hx rfl (hb hby at_164) rfl rfl k) ?_
    show own_Goes p e below (T132.setTop (mkF m 166 #[.val (.int i0), .val (.int i1), .val (.int i2), .val (.int i3), .val (.int c0), .val (.int c1), .val (.int c2), .val (.int (1 : Int32)), .val (.ref a123), .val (.ref x124), .val (.ref a123)] [(.ref x124)])) _
    obtain ⟨_, T133, h133, L133, X133, e133, ⟨rfl, rfl, q133⟩, st133⟩ := own_callV (argsL := []) (rest := []) (pc := 166) (W := 0) (Ls := #[.val (.int i0), .val (.int i1), .val (.int i2), .val (.int i3), .val (.int c0), .val (.int c1), .val (.int c2), .val (.int (1 : Int32)), .val (.ref a123), .val (.ref x124), .val (.ref a123)]) (S := [(.ref x124)]) X132 hx hZ hown (hw _ (List.mem_of_getElem? (i := 68) rfl)) (hw _ (List.mem_of_getElem? (i := 69) rfl)) (hw _ (List.mem_of_getElem? (i := 71) rfl)) (hw _ (List.mem_of_getElem? (i := 70) rfl)) (hw _ (List.mem_of_getElem? (i := 28) rfl)) (hw _ (List.mem_of_getElem? (i := 72) rfl)) (notFace_of_selects (args := #[]) (mvT hZ (hw _ (List.mem_of_getElem? (i := 71) rfl)))) (by decide) (rm10 l Z a0 hw [] x124 (0 : Int64) h124 n0 f128 G124) (by decide) (by decide) (e132.trans q132) E124 (by rw [hml]; rfl) (lenOf pd___J rfl) rfl (Nat.le_of_eq rfl) (hb hby at_166) (by decide) (by decide)
    refine own_st st133 ?_
    have N133 := Fr.app N132 (Fr.nil n0)
    show own_Goes p e below (T133.setTop (mkF m 169 #[.val (.int i0), .val (.int i1), .val (.int i2), .val (.int i3), .val (.int c0), .val (.int c1), .val (.int c2), .val (.int (1 : Int32)), .val (.ref a123), .val (.ref x124), .val (.ref a123)] [(.long (0 : Int64))])) _
    refine own_st (fun _ k => XT.lconst X133.here hx rfl (hb hby at_169) k) ?_
    show own_Goes p e below (T133.setTop (mkF m 170 #[.val (.int i0), .val (.int i1), .val (.int i2), .val (.int i3), .val (.int c0), .val (.int c1), .val (.int c2), .val (.int (1 : Int32)), .val (.ref a123), .val (.ref x124), .val (.ref a123)] [(.long (0 : Int64)), (.long (0 : Int64))])) _
    refine own_st (fun _ k => XT.lcmp X133.here hx rfl (hb hby at_170) rfl k) ?_
    show own_Goes p e below (T133.setTop (mkF m 171 #[.val (.int i0), .val (.int i1), .val (.int i2), .val (.int i3), .val (.int c0), .val (.int c1), .val (.int c2), .val (.int (1 : Int32)), .val (.ref a123), .val (.ref x124), .val (.ref a123)] [(.int (XT.cmpL (0 : Int64) (0 : Int64)))])) _
    refine own_st (fun _ k => XS.ifNo X133.here hx rfl (hb hby at_171) rfl ((if0 _ _).trans (teq (by decide : (XT.cmpL (0 : Int64) (0 : Int64)) = (0 : Int32))).2) k) ?_
    show own_Goes p e below (T133.setTop (mkF m 174 #[.val (.int i0), .val (.int i1), .val (.int i2), .val (.int i3), .val (.int c0), .val (.int c1), .val (.int c2), .val (.int (1 : Int32)), .val (.ref a123), .val (.ref x124), .val (.ref a123)] [])) _
    refine own_st (fun _ k => XS.aload X133.here hx rfl (hb hby at_174) rfl rfl k) ?_
    show own_Goes p e below (T133.setTop (mkF m 176 #[.val (.int i0), .val (.int i1), .val (.int i2), .val (.int i3), .val (.int c0), .val (.int c1), .val (.int c2), .val (.int (1 : Int32)), .val (.ref a123), .val (.ref x124), .val (.ref a123)] [(.ref a123)])) _
    refine own_st (fun _ k => XS.aload X133.here hx rfl (hb hby at_176) rfl rfl k) ?_
    show own_Goes p e below (T133.setTop (mkF m 178 #[.val (.int i0), .val (.int i1), .val (.int i2), .val (.int i3), .val (.int c0), .val (.int c1), .val (.int c2), .val (.int (1 : Int32)), .val (.ref a123), .val (.ref x124), .val (.ref a123)] [(.ref a123), (.ref a123)])) _
    obtain ⟨_, T134, h134, L134, X134, e134, ⟨rfl, rfl, q134⟩, st134⟩ := own_callV (argsL := [(.ref a123)]) (rest := []) (pc := 178) (W := 0) (Ls := #[.val (.int i0), .val (.int i1), .val (.int i2), .val (.int i3), .val (.int c0), .val (.int c1), .val (.int c2), .val (.int (1 : Int32)), .val (.ref a123), .val (.ref x124), .val (.ref a123)]) (S := [(.ref a123), (.ref a123)]) X133 hx hZ hown (hw _ (List.mem_of_getElem? (i := 73) rfl)) (hw _ (List.mem_of_getElem? (i := 74) rfl)) (hw _ (List.mem_of_getElem? (i := 76) rfl)) (hw _ (List.mem_of_getElem? (i := 75) rfl)) (hw _ (List.mem_of_getElem? (i := 2) rfl)) (hw _ (List.mem_of_getElem? (i := 77) rfl)) (notFace_of_selects (args := #[]) (mvT hZ (hw _ (List.mem_of_getElem? (i := 76) rfl)))) (by decide) (rm13 l Z a0 hw [] a123 h124 n0 f128) (by decide) (by decide) (e133.trans q133) f130.1 (by rw [hml]; rfl) (lenOf pd__Ljava_lang_Object__Z rfl) rfl (Nat.le_of_eq rfl) (hb hby at_178) (by decide) (by decide)
    refine own_st st134 ?_
    have N134 := Fr.app N133 (Fr.nil n0)
    show own_Goes p e below (T134.setTop (mkF m 181 #[.val (.int i0), .val (.int i1), .val (.int i2), .val (.int i3), .val (.int c0), .val (.int c1), .val (.int c2), .val (.int (1 : Int32)), .val (.ref a123), .val (.ref x124), .val (.ref a123)] [(.int (1 : Int32))])) _
    refine own_st (fun _ k => XS.ifNo X134.here hx rfl (hb hby at_181) rfl ((if0 _ _).trans (feq (by decide : ¬ ((1 : Int32) = (0 : Int32)))).1) k) ?_
    show own_Goes p e below (T134.setTop (mkF m 184 #[.val (.int i0), .val (.int i1), .val (.int i2), .val (.int i3), .val (.int c0), .val (.int c1), .val (.int c2), .val (.int (1 : Int32)), .val (.ref a123), .val (.ref x124), .val (.ref a123)] [])) _
    refine own_st (fun _ k => XS.iconst X134.here hx rfl (hb hby at_184) k) ?_
    show own_Goes p e below (T134.setTop (mkF m 185 #[.val (.int i0), .val (.int i1), .val (.int i2), .val (.int i3), .val (.int c0), .val (.int c1), .val (.int c2), .val (.int (1 : Int32)), .val (.ref a123), .val (.ref x124), .val (.ref a123)] [(.int (1 : Int32))])) _
    refine own_st (fun _ k => XS.goto X134.here hx rfl (pc0 := 185) (pc' := 189) rfl (hb hby at_185) (by decide) (by decide) k) ?_
    show own_Goes p e below (T134.setTop (mkF m 189 #[.val (.int i0), .val (.int i1), .val (.int i2), .val (.int i3), .val (.int c0), .val (.int c1), .val (.int c2), .val (.int (1 : Int32)), .val (.ref a123), .val (.ref x124), .val (.ref a123)] [(.int (1 : Int32))])) _
    exact own_retSN (t := .boolean) (z' := (1 : Int32)) X134 hS (Nat.le_refl h124.size) hx hlk hret (by simp) (by decide) (hb hby at_189) (by decide) (by decide) (e134.trans q134) ⟨rfl, N134⟩
  · show own_Goes p e below (s₁.setTop (mkF m 31 #[.val (.int i0), .val (.int i1), .val (.int i2), .val (.int i3), .val (.int c0), .val (.int c1), .val (.int c2), .val (.int (2 : Int32)), .unset, .unset, .unset] [(.int (2 : Int32))])) _
    refine own_st (fun _ k => XS.ifYes X0.here hx rfl (pc0 := 31) (pc' := 49) rfl (hb hby at_31) rfl ((if0 _ _).trans (feq (by decide : ¬ ((2 : Int32) = (0 : Int32)))).2) (by decide) (by decide) k) ?_
    show own_Goes p e below (s₁.setTop (mkF m 49 #[.val (.int i0), .val (.int i1), .val (.int i2), .val (.int i3), .val (.int c0), .val (.int c1), .val (.int c2), .val (.int (2 : Int32)), .unset, .unset, .unset] [])) _
    refine own_st (fun _ k => XS.iload X0.here hx rfl (hb hby at_49) rfl k) ?_
    show own_Goes p e below (s₁.setTop (mkF m 51 #[.val (.int i0), .val (.int i1), .val (.int i2), .val (.int i3), .val (.int c0), .val (.int c1), .val (.int c2), .val (.int (2 : Int32)), .unset, .unset, .unset] [(.int (2 : Int32))])) _
    refine own_st (fun _ k => XS.iconst X0.here hx rfl (hb hby at_51) k) ?_
    show own_Goes p e below (s₁.setTop (mkF m 52 #[.val (.int i0), .val (.int i1), .val (.int i2), .val (.int i3), .val (.int c0), .val (.int c1), .val (.int c2), .val (.int (2 : Int32)), .unset, .unset, .unset] [(.int (1 : Int32)), (.int (2 : Int32))])) _
    refine own_st (fun _ k => XS.icmpYes X0.here hx rfl (pc0 := 52) (pc' := 65) rfl (hb hby at_52) rfl (feq (by decide : ¬ ((2 : Int32) = (1 : Int32)))).2 (by decide) (by decide) k) ?_
    show own_Goes p e below (s₁.setTop (mkF m 65 #[.val (.int i0), .val (.int i1), .val (.int i2), .val (.int i3), .val (.int c0), .val (.int c1), .val (.int c2), .val (.int (2 : Int32)), .unset, .unset, .unset] [])) _
    refine own_st (fun _ k => XS.iload X0.here hx rfl (hb hby at_65) rfl k) ?_
    show own_Goes p e below (s₁.setTop (mkF m 67 #[.val (.int i0), .val (.int i1), .val (.int i2), .val (.int i3), .val (.int c0), .val (.int c1), .val (.int c2), .val (.int (2 : Int32)), .unset, .unset, .unset] [(.int (2 : Int32))])) _
    refine own_st (fun _ k => XS.iconst X0.here hx rfl (hb hby at_67) k) ?_
    show own_Goes p e below (s₁.setTop (mkF m 68 #[.val (.int i0), .val (.int i1), .val (.int i2), .val (.int i3), .val (.int c0), .val (.int c1), .val (.int c2), .val (.int (2 : Int32)), .unset, .unset, .unset] [(.int (2 : Int32)), (.int (2 : Int32))])) _
    refine own_st (fun _ k => XS.icmpNo X0.here hx rfl (hb hby at_68) rfl (teq (by decide : (2 : Int32) = (2 : Int32))).2 k) ?_
    show own_Goes p e below (s₁.setTop (mkF m 71 #[.val (.int i0), .val (.int i1), .val (.int i2), .val (.int i3), .val (.int c0), .val (.int c1), .val (.int c2), .val (.int (2 : Int32)), .unset, .unset, .unset] [])) _
    obtain ⟨T135, h135, X135, e135, E135, A135, D135, -, st135⟩ := newO X0 hx hZ hown (hw _ (List.mem_of_getElem? (i := 78) rfl)) (hw _ (List.mem_of_getElem? (i := 10) rfl)) (hw _ (List.mem_of_getElem? (i := 2) rfl)) e0 (g := (mkF m 71 #[.val (.int i0), .val (.int i1), .val (.int i2), .val (.int i3), .val (.int c0), .val (.int c1), .val (.int c2), .val (.int (2 : Int32)), .unset, .unset, .unset] [])) rfl (hb hby at_71) (by decide) (by decide)
    obtain ⟨b135, g135⟩ : ∃ z, z = h0.size := ⟨_, rfl⟩
    rw [← g135] at A135 D135 st135
    have g_b135 : n0 ≤ b135 := Nat.le_trans Z0 (Nat.le_of_eq g135.symm)
    have sz_b135 : h0.size ≤ b135 := Nat.le_trans (Keep.refl h0 []).1 (Nat.le_of_eq g135.symm)
    have F_value_b135 : Fld Z h135 b135 "java/lang/String" "value" "[B" .null := D135 (Or.inr (hw _ (List.mem_of_getElem? (i := 23) rfl))) (ty := (.array .byte)) (by decide)
    have F_coder_b135 : Fld Z h135 b135 "java/lang/String" "coder" "B" (.int (0 : Int32)) := D135 (Or.inr (hw _ (List.mem_of_getElem? (i := 25) rfl))) (ty := .byte) (by decide)
    refine own_st st135 ?_
    show own_Goes p e below (T135.setTop (mkF m 74 #[.val (.int i0), .val (.int i1), .val (.int i2), .val (.int i3), .val (.int c0), .val (.int c1), .val (.int c2), .val (.int (2 : Int32)), .unset, .unset, .unset] [(.ref b135)])) _
    refine own_st (fun _ k => XS.dup X135.here hx rfl (hb hby at_74) rfl rfl k) ?_
    show own_Goes p e below (T135.setTop (mkF m 75 #[.val (.int i0), .val (.int i1), .val (.int i2), .val (.int i3), .val (.int c0), .val (.int c1), .val (.int c2), .val (.int (2 : Int32)), .unset, .unset, .unset] [(.ref b135), (.ref b135)])) _
    refine own_st (fun _ k => XS.iconst X135.here hx rfl (hb hby at_75) k) ?_
    show own_Goes p e below (T135.setTop (mkF m 76 #[.val (.int i0), .val (.int i1), .val (.int i2), .val (.int i3), .val (.int c0), .val (.int c1), .val (.int c2), .val (.int (2 : Int32)), .unset, .unset, .unset] [(.int (2 : Int32)), (.ref b135), (.ref b135)])) _
    have f136 := (Nat.le_trans Z0 E135.1)
    have f137 := ((Keep.refl h0 []).ext E135)
    obtain ⟨T138, h138, k138, X138, e138, E138, A138, st138⟩ := newP X135 hx hZ (hw _ (List.mem_of_getElem? (i := 79) rfl)) e135 (g := (mkF m 76 #[.val (.int i0), .val (.int i1), .val (.int i2), .val (.int i3), .val (.int c0), .val (.int c1), .val (.int c2), .val (.int (2 : Int32)), .unset, .unset, .unset] [(.int (2 : Int32)), (.ref b135), (.ref b135)])) rfl (hb hby at_76) rfl (by decide) (cap := 2) (by decide) (by decide) (by decide) (by decide)
    obtain ⟨b138, g138⟩ : ∃ z, z = h135.size := ⟨_, rfl⟩
    rw [← g138] at A138 st138
    have g_b138 : n0 ≤ b138 := Nat.le_trans f136 (Nat.le_of_eq g138.symm)
    have sz_b138 : h0.size ≤ b138 := Nat.le_trans f137.1 (Nat.le_of_eq g138.symm)
    have ne_b135_b138 : b135 ≠ b138 := by rw [g138]; exact Nat.ne_of_lt (A135).lt
    have V_b138 : Arv Z h138 b138 k138 .char (2 : Int32) [(.int (0 : Int32)), (.int (0 : Int32))] (.int (0 : Int32)) := Arv.pad (Arv.new A138 (by decide)) (pad_rep [] _ 2)
    refine own_st st138 ?_
    show own_Goes p e below (T138.setTop (mkF m 78 #[.val (.int i0), .val (.int i1), .val (.int i2), .val (.int i3), .val (.int c0), .val (.int c1), .val (.int c2), .val (.int (2 : Int32)), .unset, .unset, .unset] [(.ref b138), (.ref b135), (.ref b135)])) _
    refine own_st (fun _ k => XS.dup X138.here hx rfl (hb hby at_78) rfl rfl k) ?_
    show own_Goes p e below (T138.setTop (mkF m 79 #[.val (.int i0), .val (.int i1), .val (.int i2), .val (.int i3), .val (.int c0), .val (.int c1), .val (.int c2), .val (.int (2 : Int32)), .unset, .unset, .unset] [(.ref b138), (.ref b138), (.ref b135), (.ref b135)])) _
    refine own_st (fun _ k => XS.iconst X138.here hx rfl (hb hby at_79) k) ?_
    show own_Goes p e below (T138.setTop (mkF m 80 #[.val (.int i0), .val (.int i1), .val (.int i2), .val (.int i3), .val (.int c0), .val (.int c1), .val (.int c2), .val (.int (2 : Int32)), .unset, .unset, .unset] [(.int (0 : Int32)), (.ref b138), (.ref b138), (.ref b135), (.ref b135)])) _
    refine own_st (fun _ k => XS.iload X138.here hx rfl (hb hby at_80) rfl k) ?_
    show own_Goes p e below (T138.setTop (mkF m 82 #[.val (.int i0), .val (.int i1), .val (.int i2), .val (.int i3), .val (.int c0), .val (.int c1), .val (.int c2), .val (.int (2 : Int32)), .unset, .unset, .unset] [(.int c0), (.int (0 : Int32)), (.ref b138), (.ref b138), (.ref b135), (.ref b135)])) _
    obtain ⟨T139, h139, X139, e139, W139, V139, st139⟩ := own_stC (x := c0) (x' := c0) (own_narc hc0) (pc := 82) (Ls := #[.val (.int i0), .val (.int i1), .val (.int i2), .val (.int i3), .val (.int c0), .val (.int c1), .val (.int c2), .val (.int (2 : Int32)), .unset, .unset, .unset]) (rest := [(.ref b138), (.ref b135), (.ref b135)]) (j := (0 : Int32)) X138 hx hZ e138 V_b138 0 (by decide) (by decide) (Nat.le_of_ble_eq_true rfl) (hb hby at_82)
    have V139 : Arv Z h139 b138 k138 .char (2 : Int32) [(.int c0), (.int (0 : Int32))] (.int (0 : Int32)) := V139
    have N139 := Fr.snoc X139 N0 g_b138
    refine own_st st139 ?_
    show own_Goes p e below (T139.setTop (mkF m 83 #[.val (.int i0), .val (.int i1), .val (.int i2), .val (.int i3), .val (.int c0), .val (.int c1), .val (.int c2), .val (.int (2 : Int32)), .unset, .unset, .unset] [(.ref b138), (.ref b135), (.ref b135)])) _
    refine own_st (fun _ k => XS.dup X139.here hx rfl (hb hby at_83) rfl rfl k) ?_
    show own_Goes p e below (T139.setTop (mkF m 84 #[.val (.int i0), .val (.int i1), .val (.int i2), .val (.int i3), .val (.int c0), .val (.int c1), .val (.int c2), .val (.int (2 : Int32)), .unset, .unset, .unset] [(.ref b138), (.ref b138), (.ref b135), (.ref b135)])) _
    refine own_st (fun _ k => XS.iconst X139.here hx rfl (hb hby at_84) k) ?_
    show own_Goes p e below (T139.setTop (mkF m 85 #[.val (.int i0), .val (.int i1), .val (.int i2), .val (.int i3), .val (.int c0), .val (.int c1), .val (.int c2), .val (.int (2 : Int32)), .unset, .unset, .unset] [(.int (1 : Int32)), (.ref b138), (.ref b138), (.ref b135), (.ref b135)])) _
    refine own_st (fun _ k => XS.iload X139.here hx rfl (hb hby at_85) rfl k) ?_
    show own_Goes p e below (T139.setTop (mkF m 87 #[.val (.int i0), .val (.int i1), .val (.int i2), .val (.int i3), .val (.int c0), .val (.int c1), .val (.int c2), .val (.int (2 : Int32)), .unset, .unset, .unset] [(.int c1), (.int (1 : Int32)), (.ref b138), (.ref b138), (.ref b135), (.ref b135)])) _
    obtain ⟨T140, h140, X140, e140, W140, V140, st140⟩ := own_stC (x := c1) (x' := c1) (own_narc hc1) (pc := 87) (Ls := #[.val (.int i0), .val (.int i1), .val (.int i2), .val (.int i3), .val (.int c0), .val (.int c1), .val (.int c2), .val (.int (2 : Int32)), .unset, .unset, .unset]) (rest := [(.ref b138), (.ref b135), (.ref b135)]) (j := (1 : Int32)) X139 hx hZ e139 V139 1 (by decide) (by decide) (Nat.le_of_ble_eq_true rfl) (hb hby at_87)
    have V140 : Arv Z h140 b138 k138 .char (2 : Int32) [(.int c0), (.int c1)] (.int (0 : Int32)) := V140
    have N140 := Fr.snoc X140 N139 g_b138
    refine own_st st140 ?_
    show own_Goes p e below (T140.setTop (mkF m 88 #[.val (.int i0), .val (.int i1), .val (.int i2), .val (.int i3), .val (.int c0), .val (.int c1), .val (.int c2), .val (.int (2 : Int32)), .unset, .unset, .unset] [(.ref b138), (.ref b135), (.ref b135)])) _
    have f142 := (Nat.le_trans (Nat.le_trans (Nat.le_trans f136 E138.1) (Nat.le_of_eq W139.size.symm)) (Nat.le_of_eq W140.size.symm))
    have f143 := (((F_value_b135.ext E138).other W139 (Or.inl ne_b135_b138)).other W140 (Or.inl ne_b135_b138))
    have f144 := (((F_coder_b135.ext E138).other W139 (Or.inl ne_b135_b138)).other W140 (Or.inl ne_b135_b138))
    have f145 := (((A135.ext E138).wr W139).wr W140)
    have f146 := ((((O0.ext E135).ext E138).wr W139 g_b138).wr W140 g_b138)
    obtain ⟨_, T141, h141, L141, X141, e141, ⟨rfl, N141q, K141, bb141, kb141, gb141, sb141, T141q⟩, st141⟩ := own_callI (argsL := [(.ref b138)]) (rest := [(.ref b135)]) (pc := 88) (W := 1) (Ls := #[.val (.int i0), .val (.int i1), .val (.int i2), .val (.int i3), .val (.int c0), .val (.int c1), .val (.int c2), .val (.int (2 : Int32)), .unset, .unset, .unset]) (S := [(.ref b138), (.ref b135), (.ref b135)]) X140 hx hZ hown rfl (hw _ (List.mem_of_getElem? (i := 80) rfl)) (hw _ (List.mem_of_getElem? (i := 81) rfl)) (hw _ (List.mem_of_getElem? (i := 2) rfl)) (hw _ (List.mem_of_getElem? (i := 82) rfl)) (by decide) (rm43 l Z a0 hw [] b135 b138 k138 cs c0 c1 h140 n0 f142 f143 f144 f145 V140 g_b135 (Ne.symm ne_b135_b138) (S_cs.ext f146.2) hcs hc0 hc1) (by decide) (by decide) e140 (by rw [hml]; rfl) (lenOf pd___C_V rfl) rfl (Nat.le_of_eq rfl) (hb hby at_88) (by decide) (by decide)
    refine own_st st141 ?_
    have N141 := Fr.app N140 N141q
    show own_Goes p e below (T141.setTop (mkF m 91 #[.val (.int i0), .val (.int i1), .val (.int i2), .val (.int i3), .val (.int c0), .val (.int c1), .val (.int c2), .val (.int (2 : Int32)), .unset, .unset, .unset] [(.ref b135)])) _
    refine own_st (fun _ k => XS.astore X141.here hx rfl (hb hby at_91) rfl rfl (l' := #[.val (.int i0), .val (.int i1), .val (.int i2), .val (.int i3), .val (.int c0), .val (.int c1), .val (.int c2), .val (.int (2 : Int32)), .val (.ref b135), .unset, .unset]) rfl k) ?_
    show own_Goes p e below (T141.setTop (mkF m 93 #[.val (.int i0), .val (.int i1), .val (.int i2), .val (.int i3), .val (.int c0), .val (.int c1), .val (.int c2), .val (.int (2 : Int32)), .val (.ref b135), .unset, .unset] [])) _
    refine own_st (fun _ k => XS.goto X141.here hx rfl (pc0 := 93) (pc' := 123) rfl (hb hby at_93) (by decide) (by decide) k) ?_
    show own_Goes p e below (T141.setTop (mkF m 123 #[.val (.int i0), .val (.int i1), .val (.int i2), .val (.int i3), .val (.int c0), .val (.int c1), .val (.int c2), .val (.int (2 : Int32)), .val (.ref b135), .unset, .unset] [])) _
    refine own_st (fun _ k => XS.aload X141.here hx rfl (hb hby at_123) rfl rfl k) ?_
    show own_Goes p e below (T141.setTop (mkF m 125 #[.val (.int i0), .val (.int i1), .val (.int i2), .val (.int i3), .val (.int c0), .val (.int c1), .val (.int c2), .val (.int (2 : Int32)), .val (.ref b135), .unset, .unset] [(.ref b135)])) _
    have f148 := (Nat.le_trans f142 K141.1)
    have f149 := (Nat.le_trans (Nat.le_trans (Nat.le_trans (Nat.le_trans (Nat.le_trans (Nat.zero_le _) E135.1) E138.1) (Nat.le_of_eq W139.size.symm)) (Nat.le_of_eq W140.size.symm)) K141.1)
    obtain ⟨_, T147, h147, L147, X147, e147, ⟨x147, rfl, g147, s147, N147q, K147, E147, F147, G147⟩, hS, hZ, hown, st147⟩ := own_callSS (argsL := [(.ref b135)]) (rest := []) (pc := 125) (W := 0) (Ls := #[.val (.int i0), .val (.int i1), .val (.int i2), .val (.int i3), .val (.int c0), .val (.int c1), .val (.int c2), .val (.int (2 : Int32)), .val (.ref b135), .unset, .unset]) (S := [(.ref b135)]) X141 hx hZ hown hS f149 (fun _ _ => trivial) (hw _ (List.mem_of_getElem? (i := 26) rfl)) (hw _ (List.mem_of_getElem? (i := 27) rfl)) (hw _ (List.mem_of_getElem? (i := 28) rfl)) (hw _ (List.mem_of_getElem? (i := 29) rfl)) (by decide) (rm7 l Z a0 hw [] b135 h141 n0 f148 (T141q).1) (by decide) (by decide) e141 (by rw [hml]; rfl) (lenOf pd__Ljava_lang_String__Lcom_example_lattice_warden_latticewarden_FlagItem_ rfl) rfl (Nat.le_of_eq rfl) (hb hby at_125) (by decide) (by decide)
    refine own_st st147 ?_
    have N147 := Fr.app N141 N147q
    show own_Goes p e below (T147.setTop (mkF m 128 #[.val (.int i0), .val (.int i1), .val (.int i2), .val (.int i3), .val (.int c0), .val (.int c1), .val (.int c2), .val (.int (2 : Int32)), .val (.ref b135), .unset, .unset] [(.ref x147)])) _
    refine own_st (fun _ k => XS.astore X147.here hx rfl (hb hby at_128) rfl rfl (l' := #[.val (.int i0), .val (.int i1), .val (.int i2), .val (.int i3), .val (.int c0), .val (.int c1), .val (.int c2), .val (.int (2 : Int32)), .val (.ref b135), .val (.ref x147), .unset]) rfl k) ?_
    show own_Goes p e below (T147.setTop (mkF m 130 #[.val (.int i0), .val (.int i1), .val (.int i2), .val (.int i3), .val (.int c0), .val (.int c1), .val (.int c2), .val (.int (2 : Int32)), .val (.ref b135), .val (.ref x147), .unset] [])) _
    refine own_st (fun _ k => XS.aload X147.here hx rfl (hb hby at_130) rfl rfl k) ?_
    show own_Goes p e below (T147.setTop (mkF m 132 #[.val (.int i0), .val (.int i1), .val (.int i2), .val (.int i3), .val (.int c0), .val (.int c1), .val (.int c2), .val (.int (2 : Int32)), .val (.ref b135), .val (.ref x147), .unset] [(.ref x147)])) _
    have f151 := (Nat.le_trans f148 K147.1)
    obtain ⟨_, T150, h150, L150, X150, e150, ⟨rfl, rfl, q150⟩, st150⟩ := own_callV (argsL := []) (rest := []) (pc := 132) (W := 0) (Ls := #[.val (.int i0), .val (.int i1), .val (.int i2), .val (.int i3), .val (.int c0), .val (.int c1), .val (.int c2), .val (.int (2 : Int32)), .val (.ref b135), .val (.ref x147), .unset]) (S := [(.ref x147)]) X147 hx hZ hown (hw _ (List.mem_of_getElem? (i := 48) rfl)) (hw _ (List.mem_of_getElem? (i := 49) rfl)) (hw _ (List.mem_of_getElem? (i := 51) rfl)) (hw _ (List.mem_of_getElem? (i := 50) rfl)) (hw _ (List.mem_of_getElem? (i := 28) rfl)) (hw _ (List.mem_of_getElem? (i := 52) rfl)) (notFace_of_selects (args := #[]) (mvT hZ (hw _ (List.mem_of_getElem? (i := 51) rfl)))) (by decide) (rm8 l Z a0 hw [] x147 b135 h147 n0 f151 F147) (by decide) (by decide) e147 E147 (by rw [hml]; rfl) (lenOf pd___Ljava_lang_String_ rfl) rfl (Nat.le_of_eq rfl) (hb hby at_132) (by decide) (by decide)
    refine own_st st150 ?_
    have N150 := Fr.app N147 (Fr.nil n0)
    show own_Goes p e below (T150.setTop (mkF m 135 #[.val (.int i0), .val (.int i1), .val (.int i2), .val (.int i3), .val (.int c0), .val (.int c1), .val (.int c2), .val (.int (2 : Int32)), .val (.ref b135), .val (.ref x147), .unset] [(.ref b135)])) _
    refine own_st (fun _ k => XS.astore X150.here hx rfl (hb hby at_135) rfl rfl (l' := #[.val (.int i0), .val (.int i1), .val (.int i2), .val (.int i3), .val (.int c0), .val (.int c1), .val (.int c2), .val (.int (2 : Int32)), .val (.ref b135), .val (.ref x147), .val (.ref b135)]) rfl k) ?_
    show own_Goes p e below (T150.setTop (mkF m 137 #[.val (.int i0), .val (.int i1), .val (.int i2), .val (.int i3), .val (.int c0), .val (.int c1), .val (.int c2), .val (.int (2 : Int32)), .val (.ref b135), .val (.ref x147), .val (.ref b135)] [])) _
    refine own_st (fun _ k => XS.aload X150.here hx rfl (hb hby at_137) rfl rfl k) ?_
    show own_Goes p e below (T150.setTop (mkF m 139 #[.val (.int i0), .val (.int i1), .val (.int i2), .val (.int i3), .val (.int c0), .val (.int c1), .val (.int c2), .val (.int (2 : Int32)), .val (.ref b135), .val (.ref x147), .val (.ref b135)] [(.ref b135)])) _
    refine own_st (fun _ k => XT.ifnonnullYes X150.here hx rfl (pc0 := 139) (pc' := 144) rfl (hb hby at_139) rfl (by decide) (by decide) k) ?_
    show own_Goes p e below (T150.setTop (mkF m 144 #[.val (.int i0), .val (.int i1), .val (.int i2), .val (.int i3), .val (.int c0), .val (.int c1), .val (.int c2), .val (.int (2 : Int32)), .val (.ref b135), .val (.ref x147), .val (.ref b135)] [])) _
    refine own_st (fun _ k => XS.aload X150.here hx rfl (hb hby at_144) rfl rfl k) ?_
    show own_Goes p e below (T150.setTop (mkF m 146 #[.val (.int i0), .val (.int i1), .val (.int i2), .val (.int i3), .val (.int c0), .val (.int c1), .val (.int c2), .val (.int (2 : Int32)), .val (.ref b135), .val (.ref x147), .val (.ref b135)] [(.ref b135)])) _
    have f153 := (T141q.keep K147 nin0 nin0)
    have f154 := ((f146.keep K141 (allS g_b135 all0)).keep K147 all0)
    obtain ⟨_, T152, h152, L152, X152, e152, ⟨rfl, rfl, q152⟩, st152⟩ := own_callV (argsL := []) (rest := []) (pc := 146) (W := 0) (Ls := #[.val (.int i0), .val (.int i1), .val (.int i2), .val (.int i3), .val (.int c0), .val (.int c1), .val (.int c2), .val (.int (2 : Int32)), .val (.ref b135), .val (.ref x147), .val (.ref b135)]) (S := [(.ref b135)]) X150 hx hZ hown (hw _ (List.mem_of_getElem? (i := 53) rfl)) (hw _ (List.mem_of_getElem? (i := 54) rfl)) (hw _ (List.mem_of_getElem? (i := 56) rfl)) (hw _ (List.mem_of_getElem? (i := 55) rfl)) (hw _ (List.mem_of_getElem? (i := 2) rfl)) (hw _ (List.mem_of_getElem? (i := 57) rfl)) (notFace_of_selects (args := #[]) (mvT hZ (hw _ (List.mem_of_getElem? (i := 56) rfl)))) (by decide) (rm12 l Z a0 hw [] b135 bb141 kb141 (2 : Int32) cs [(.int c0.toInt8.toInt32), (.int c1.toInt8.toInt32)] h147 n0 f151 f153 (S_cs.ext f154.2) hcs) (by decide) (by decide) (e150.trans q150) f153.1 (by rw [hml]; rfl) (lenOf pd___I rfl) rfl (Nat.le_of_eq rfl) (hb hby at_146) (by decide) (by decide)
    refine own_st st152 ?_
    have N152 := Fr.app N150 (Fr.nil n0)
    show own_Goes p e below (T152.setTop (mkF m 149 #[.val (.int i0), .val (.int i1), .val (.int i2), .val (.int i3), .val (.int c0), .val (.int c1), .val (.int c2), .val (.int (2 : Int32)), .val (.ref b135), .val (.ref x147), .val (.ref b135)] [(.int (2 : Int32))])) _
    refine own_st (fun _ k => XS.iload X152.here hx rfl (hb hby at_149) rfl k) ?_
    show own_Goes p e below (T152.setTop (mkF m 151 #[.val (.int i0), .val (.int i1), .val (.int i2), .val (.int i3), .val (.int c0), .val (.int c1), .val (.int c2), .val (.int (2 : Int32)), .val (.ref b135), .val (.ref x147), .val (.ref b135)] [(.int (2 : Int32)), (.int (2 : Int32))])) _
    refine own_st (fun _ k => XS.icmpYes X152.here hx rfl (pc0 := 151) (pc' := 156) rfl (hb hby at_151) rfl (teq (by decide : (2 : Int32) = (2 : Int32))).1 (by decide) (by decide) k) ?_
    show own_Goes p e below (T152.setTop (mkF m 156 #[.val (.int i0), .val (.int i1), .val (.int i2), .val (.int i3), .val (.int c0), .val (.int c1), .val (.int c2), .val (.int (2 : Int32)), .val (.ref b135), .val (.ref x147), .val (.ref b135)] [])) _
    refine own_st (fun _ k => XS.aload X152.here hx rfl (hb hby at_156) rfl rfl k) ?_
    show own_Goes p e below (T152.setTop (mkF m 158 #[.val (.int i0), .val (.int i1), .val (.int i2), .val (.int i3), .val (.int c0), .val (.int c1), .val (.int c2), .val (.int (2 : Int32)), .val (.ref b135), .val (.ref x147), .val (.ref b135)] [(.ref x147)])) _
    obtain ⟨_, T155, h155, L155, X155, e155, ⟨rfl, rfl, q155⟩, st155⟩ := own_callV (argsL := []) (rest := []) (pc := 158) (W := 0) (Ls := #[.val (.int i0), .val (.int i1), .val (.int i2), .val (.int i3), .val (.int c0), .val (.int c1), .val (.int c2), .val (.int (2 : Int32)), .val (.ref b135), .val (.ref x147), .val (.ref b135)]) (S := [(.ref x147)]) X152 hx hZ hown (hw _ (List.mem_of_getElem? (i := 63) rfl)) (hw _ (List.mem_of_getElem? (i := 64) rfl)) (hw _ (List.mem_of_getElem? (i := 66) rfl)) (hw _ (List.mem_of_getElem? (i := 65) rfl)) (hw _ (List.mem_of_getElem? (i := 28) rfl)) (hw _ (List.mem_of_getElem? (i := 67) rfl)) (notFace_of_selects (args := #[]) (mvT hZ (hw _ (List.mem_of_getElem? (i := 66) rfl)))) (by decide) (rm9 l Z a0 hw [] x147 b135 h147 n0 f151 F147) (by decide) (by decide) (e152.trans q152) E147 (by rw [hml]; rfl) (lenOf pd___Z rfl) rfl (Nat.le_of_eq rfl) (hb hby at_158) (by decide) (by decide)
    refine own_st st155 ?_
    have N155 := Fr.app N152 (Fr.nil n0)
    show own_Goes p e below (T155.setTop (mkF m 161 #[.val (.int i0), .val (.int i1), .val (.int i2), .val (.int i3), .val (.int c0), .val (.int c1), .val (.int c2), .val (.int (2 : Int32)), .val (.ref b135), .val (.ref x147), .val (.ref b135)] [(.int (0 : Int32))])) _
    refine own_st (fun _ k => XS.ifNo X155.here hx rfl (hb hby at_161) rfl ((if0 _ _).trans (teq (by decide : (0 : Int32) = (0 : Int32))).2) k) ?_
    show own_Goes p e below (T155.setTop (mkF m 164 #[.val (.int i0), .val (.int i1), .val (.int i2), .val (.int i3), .val (.int c0), .val (.int c1), .val (.int c2), .val (.int (2 : Int32)), .val (.ref b135), .val (.ref x147), .val (.ref b135)] [])) _
    refine own_st (fun _ k => XS.aload X155.here hx rfl (hb hby at_164) rfl rfl k) ?_
    show own_Goes p e below (T155.setTop (mkF m 166 #[.val (.int i0), .val (.int i1), .val (.int i2), .val (.int i3), .val (.int c0), .val (.int c1), .val (.int c2), .val (.int (2 : Int32)), .val (.ref b135), .val (.ref x147), .val (.ref b135)] [(.ref x147)])) _
    obtain ⟨_, T156, h156, L156, X156, e156, ⟨rfl, rfl, q156⟩, st156⟩ := own_callV (argsL := []) (rest := []) (pc := 166) (W := 0) (Ls := #[.val (.int i0), .val (.int i1), .val (.int i2), .val (.int i3), .val (.int c0), .val (.int c1), .val (.int c2), .val (.int (2 : Int32)), .val (.ref b135), .val (.ref x147), .val (.ref b135)]) (S := [(.ref x147)]) X155 hx hZ hown (hw _ (List.mem_of_getElem? (i := 68) rfl)) (hw _ (List.mem_of_getElem? (i := 69) rfl)) (hw _ (List.mem_of_getElem? (i := 71) rfl)) (hw _ (List.mem_of_getElem? (i := 70) rfl)) (hw _ (List.mem_of_getElem? (i := 28) rfl)) (hw _ (List.mem_of_getElem? (i := 72) rfl)) (notFace_of_selects (args := #[]) (mvT hZ (hw _ (List.mem_of_getElem? (i := 71) rfl)))) (by decide) (rm10 l Z a0 hw [] x147 (0 : Int64) h147 n0 f151 G147) (by decide) (by decide) (e155.trans q155) E147 (by rw [hml]; rfl) (lenOf pd___J rfl) rfl (Nat.le_of_eq rfl) (hb hby at_166) (by decide) (by decide)
    refine own_st st156 ?_
    have N156 := Fr.app N155 (Fr.nil n0)
    show own_Goes p e below (T156.setTop (mkF m 169 #[.val (.int i0), .val (.int i1), .val (.int i2), .val (.int i3), .val (.int c0), .val (.int c1), .val (.int c2), .val (.int (2 : Int32)), .val (.ref b135), .val (.ref x147), .val (.ref b135)] [(.long (0 : Int64))])) _
    refine own_st (fun _ k => XT.lconst X156.here hx rfl (hb hby at_169) k) ?_
    show own_Goes p e below (T156.setTop (mkF m 170 #[.val (.int i0), .val (.int i1), .val (.int i2), .val (.int i3), .val (.int c0), .val (.int c1), .val (.int c2), .val (.int (2 : Int32)), .val (.ref b135), .val (.ref x147), .val (.ref b135)] [(.long (0 : Int64)), (.long (0 : Int64))])) _
    refine own_st (fun _ k => XT.lcmp X156.here hx rfl (hb hby at_170) rfl k) ?_
    show own_Goes p e below (T156.setTop (mkF m 171 #[.val (.int i0), .val (.int i1), .val (.int i2), .val (.int i3), .val (.int c0), .val (.int c1), .val (.int c2), .val (.int (2 : Int32)), .val (.ref b135), .val (.ref x147), .val (.ref b135)] [(.int (XT.cmpL (0 : Int64) (0 : Int64)))])) _
    refine own_st (fun _ k => XS.ifNo X156.here hx rfl (hb hby at_171) rfl ((if0 _ _).trans (teq (by decide : (XT.cmpL (0 : Int64) (0 : Int64)) = (0 : Int32))).2) k) ?_
    show own_Goes p e below (T156.setTop (mkF m 174 #[.val (.int i0), .val (.int i1), .val (.int i2), .val (.int i3), .val (.int c0), .val (.int c1), .val (.int c2), .val (.int (2 : Int32)), .val (.ref b135), .val (.ref x147), .val (.ref b135)] [])) _
    refine own_st (fun _ k => XS.aload X156.here hx rfl (hb hby at_174) rfl rfl k) ?_
    show own_Goes p e below (T156.setTop (mkF m 176 #[.val (.int i0), .val (.int i1), .val (.int i2), .val (.int i3), .val (.int c0), .val (.int c1), .val (.int c2), .val (.int (2 : Int32)), .val (.ref b135), .val (.ref x147), .val (.ref b135)] [(.ref b135)])) _
    refine own_st (fun _ k => XS.aload X156.here hx rfl (hb hby at_176) rfl rfl k) ?_
    show own_Goes p e below (T156.setTop (mkF m 178 #[.val (.int i0), .val (.int i1), .val (.int i2), .val (.int i3), .val (.int c0), .val (.int c1), .val (.int c2), .val (.int (2 : Int32)), .val (.ref b135), .val (.ref x147), .val (.ref b135)] [(.ref b135), (.ref b135)])) _
    obtain ⟨_, T157, h157, L157, X157, e157, ⟨rfl, rfl, q157⟩, st157⟩ := own_callV (argsL := [(.ref b135)]) (rest := []) (pc := 178) (W := 0) (Ls := #[.val (.int i0), .val (.int i1), .val (.int i2), .val (.int i3), .val (.int c0), .val (.int c1), .val (.int c2), .val (.int (2 : Int32)), .val (.ref b135), .val (.ref x147), .val (.ref b135)]) (S := [(.ref b135), (.ref b135)]) X156 hx hZ hown (hw _ (List.mem_of_getElem? (i := 73) rfl)) (hw _ (List.mem_of_getElem? (i := 74) rfl)) (hw _ (List.mem_of_getElem? (i := 76) rfl)) (hw _ (List.mem_of_getElem? (i := 75) rfl)) (hw _ (List.mem_of_getElem? (i := 2) rfl)) (hw _ (List.mem_of_getElem? (i := 77) rfl)) (notFace_of_selects (args := #[]) (mvT hZ (hw _ (List.mem_of_getElem? (i := 76) rfl)))) (by decide) (rm13 l Z a0 hw [] b135 h147 n0 f151) (by decide) (by decide) (e156.trans q156) f153.1 (by rw [hml]; rfl) (lenOf pd__Ljava_lang_Object__Z rfl) rfl (Nat.le_of_eq rfl) (hb hby at_178) (by decide) (by decide)
    refine own_st st157 ?_
    have N157 := Fr.app N156 (Fr.nil n0)
    show own_Goes p e below (T157.setTop (mkF m 181 #[.val (.int i0), .val (.int i1), .val (.int i2), .val (.int i3), .val (.int c0), .val (.int c1), .val (.int c2), .val (.int (2 : Int32)), .val (.ref b135), .val (.ref x147), .val (.ref b135)] [(.int (1 : Int32))])) _
    refine own_st (fun _ k => XS.ifNo X157.here hx rfl (hb hby at_181) rfl ((if0 _ _).trans (feq (by decide : ¬ ((1 : Int32) = (0 : Int32)))).1) k) ?_
    show own_Goes p e below (T157.setTop (mkF m 184 #[.val (.int i0), .val (.int i1), .val (.int i2), .val (.int i3), .val (.int c0), .val (.int c1), .val (.int c2), .val (.int (2 : Int32)), .val (.ref b135), .val (.ref x147), .val (.ref b135)] [])) _
    refine own_st (fun _ k => XS.iconst X157.here hx rfl (hb hby at_184) k) ?_
    show own_Goes p e below (T157.setTop (mkF m 185 #[.val (.int i0), .val (.int i1), .val (.int i2), .val (.int i3), .val (.int c0), .val (.int c1), .val (.int c2), .val (.int (2 : Int32)), .val (.ref b135), .val (.ref x147), .val (.ref b135)] [(.int (1 : Int32))])) _
    refine own_st (fun _ k => XS.goto X157.here hx rfl (pc0 := 185) (pc' := 189) rfl (hb hby at_185) (by decide) (by decide) k) ?_
    show own_Goes p e below (T157.setTop (mkF m 189 #[.val (.int i0), .val (.int i1), .val (.int i2), .val (.int i3), .val (.int c0), .val (.int c1), .val (.int c2), .val (.int (2 : Int32)), .val (.ref b135), .val (.ref x147), .val (.ref b135)] [(.int (1 : Int32))])) _
    exact own_retSN (t := .boolean) (z' := (1 : Int32)) X157 hS (Nat.le_refl h147.size) hx hlk hret (by simp) (by decide) (hb hby at_189) (by decide) (by decide) (e157.trans q157) ⟨rfl, N157⟩
  · show own_Goes p e below (s₁.setTop (mkF m 31 #[.val (.int i0), .val (.int i1), .val (.int i2), .val (.int i3), .val (.int c0), .val (.int c1), .val (.int c2), .val (.int (3 : Int32)), .unset, .unset, .unset] [(.int (3 : Int32))])) _
    refine own_st (fun _ k => XS.ifYes X0.here hx rfl (pc0 := 31) (pc' := 49) rfl (hb hby at_31) rfl ((if0 _ _).trans (feq (by decide : ¬ ((3 : Int32) = (0 : Int32)))).2) (by decide) (by decide) k) ?_
    show own_Goes p e below (s₁.setTop (mkF m 49 #[.val (.int i0), .val (.int i1), .val (.int i2), .val (.int i3), .val (.int c0), .val (.int c1), .val (.int c2), .val (.int (3 : Int32)), .unset, .unset, .unset] [])) _
    refine own_st (fun _ k => XS.iload X0.here hx rfl (hb hby at_49) rfl k) ?_
    show own_Goes p e below (s₁.setTop (mkF m 51 #[.val (.int i0), .val (.int i1), .val (.int i2), .val (.int i3), .val (.int c0), .val (.int c1), .val (.int c2), .val (.int (3 : Int32)), .unset, .unset, .unset] [(.int (3 : Int32))])) _
    refine own_st (fun _ k => XS.iconst X0.here hx rfl (hb hby at_51) k) ?_
    show own_Goes p e below (s₁.setTop (mkF m 52 #[.val (.int i0), .val (.int i1), .val (.int i2), .val (.int i3), .val (.int c0), .val (.int c1), .val (.int c2), .val (.int (3 : Int32)), .unset, .unset, .unset] [(.int (1 : Int32)), (.int (3 : Int32))])) _
    refine own_st (fun _ k => XS.icmpYes X0.here hx rfl (pc0 := 52) (pc' := 65) rfl (hb hby at_52) rfl (feq (by decide : ¬ ((3 : Int32) = (1 : Int32)))).2 (by decide) (by decide) k) ?_
    show own_Goes p e below (s₁.setTop (mkF m 65 #[.val (.int i0), .val (.int i1), .val (.int i2), .val (.int i3), .val (.int c0), .val (.int c1), .val (.int c2), .val (.int (3 : Int32)), .unset, .unset, .unset] [])) _
    refine own_st (fun _ k => XS.iload X0.here hx rfl (hb hby at_65) rfl k) ?_
    show own_Goes p e below (s₁.setTop (mkF m 67 #[.val (.int i0), .val (.int i1), .val (.int i2), .val (.int i3), .val (.int c0), .val (.int c1), .val (.int c2), .val (.int (3 : Int32)), .unset, .unset, .unset] [(.int (3 : Int32))])) _
    refine own_st (fun _ k => XS.iconst X0.here hx rfl (hb hby at_67) k) ?_
    show own_Goes p e below (s₁.setTop (mkF m 68 #[.val (.int i0), .val (.int i1), .val (.int i2), .val (.int i3), .val (.int c0), .val (.int c1), .val (.int c2), .val (.int (3 : Int32)), .unset, .unset, .unset] [(.int (2 : Int32)), (.int (3 : Int32))])) _
    refine own_st (fun _ k => XS.icmpYes X0.here hx rfl (pc0 := 68) (pc' := 96) rfl (hb hby at_68) rfl (feq (by decide : ¬ ((3 : Int32) = (2 : Int32)))).2 (by decide) (by decide) k) ?_
    show own_Goes p e below (s₁.setTop (mkF m 96 #[.val (.int i0), .val (.int i1), .val (.int i2), .val (.int i3), .val (.int c0), .val (.int c1), .val (.int c2), .val (.int (3 : Int32)), .unset, .unset, .unset] [])) _
    obtain ⟨T158, h158, X158, e158, E158, A158, D158, -, st158⟩ := newO X0 hx hZ hown (hw _ (List.mem_of_getElem? (i := 78) rfl)) (hw _ (List.mem_of_getElem? (i := 10) rfl)) (hw _ (List.mem_of_getElem? (i := 2) rfl)) e0 (g := (mkF m 96 #[.val (.int i0), .val (.int i1), .val (.int i2), .val (.int i3), .val (.int c0), .val (.int c1), .val (.int c2), .val (.int (3 : Int32)), .unset, .unset, .unset] [])) rfl (hb hby at_96) (by decide) (by decide)
    obtain ⟨b158, g158⟩ : ∃ z, z = h0.size := ⟨_, rfl⟩
    rw [← g158] at A158 D158 st158
    have g_b158 : n0 ≤ b158 := Nat.le_trans Z0 (Nat.le_of_eq g158.symm)
    have sz_b158 : h0.size ≤ b158 := Nat.le_trans (Keep.refl h0 []).1 (Nat.le_of_eq g158.symm)
    have F_value_b158 : Fld Z h158 b158 "java/lang/String" "value" "[B" .null := D158 (Or.inr (hw _ (List.mem_of_getElem? (i := 23) rfl))) (ty := (.array .byte)) (by decide)
    have F_coder_b158 : Fld Z h158 b158 "java/lang/String" "coder" "B" (.int (0 : Int32)) := D158 (Or.inr (hw _ (List.mem_of_getElem? (i := 25) rfl))) (ty := .byte) (by decide)
    refine own_st st158 ?_
    show own_Goes p e below (T158.setTop (mkF m 99 #[.val (.int i0), .val (.int i1), .val (.int i2), .val (.int i3), .val (.int c0), .val (.int c1), .val (.int c2), .val (.int (3 : Int32)), .unset, .unset, .unset] [(.ref b158)])) _
    refine own_st (fun _ k => XS.dup X158.here hx rfl (hb hby at_99) rfl rfl k) ?_
    show own_Goes p e below (T158.setTop (mkF m 100 #[.val (.int i0), .val (.int i1), .val (.int i2), .val (.int i3), .val (.int c0), .val (.int c1), .val (.int c2), .val (.int (3 : Int32)), .unset, .unset, .unset] [(.ref b158), (.ref b158)])) _
    refine own_st (fun _ k => XS.iconst X158.here hx rfl (hb hby at_100) k) ?_
    show own_Goes p e below (T158.setTop (mkF m 101 #[.val (.int i0), .val (.int i1), .val (.int i2), .val (.int i3), .val (.int c0), .val (.int c1), .val (.int c2), .val (.int (3 : Int32)), .unset, .unset, .unset] [(.int (3 : Int32)), (.ref b158), (.ref b158)])) _
    have f159 := (Nat.le_trans Z0 E158.1)
    have f160 := ((Keep.refl h0 []).ext E158)
    obtain ⟨T161, h161, k161, X161, e161, E161, A161, st161⟩ := newP X158 hx hZ (hw _ (List.mem_of_getElem? (i := 79) rfl)) e158 (g := (mkF m 101 #[.val (.int i0), .val (.int i1), .val (.int i2), .val (.int i3), .val (.int c0), .val (.int c1), .val (.int c2), .val (.int (3 : Int32)), .unset, .unset, .unset] [(.int (3 : Int32)), (.ref b158), (.ref b158)])) rfl (hb hby at_101) rfl (by decide) (cap := 3) (by decide) (by decide) (by decide) (by decide)
    obtain ⟨b161, g161⟩ : ∃ z, z = h158.size := ⟨_, rfl⟩
    rw [← g161] at A161 st161
    have g_b161 : n0 ≤ b161 := Nat.le_trans f159 (Nat.le_of_eq g161.symm)
    have sz_b161 : h0.size ≤ b161 := Nat.le_trans f160.1 (Nat.le_of_eq g161.symm)
    have ne_b158_b161 : b158 ≠ b161 := by rw [g161]; exact Nat.ne_of_lt (A158).lt
    have V_b161 : Arv Z h161 b161 k161 .char (3 : Int32) [(.int (0 : Int32)), (.int (0 : Int32)), (.int (0 : Int32))] (.int (0 : Int32)) := Arv.pad (Arv.new A161 (by decide)) (pad_rep [] _ 3)
    refine own_st st161 ?_
    show own_Goes p e below (T161.setTop (mkF m 103 #[.val (.int i0), .val (.int i1), .val (.int i2), .val (.int i3), .val (.int c0), .val (.int c1), .val (.int c2), .val (.int (3 : Int32)), .unset, .unset, .unset] [(.ref b161), (.ref b158), (.ref b158)])) _
    refine own_st (fun _ k => XS.dup X161.here hx rfl (hb hby at_103) rfl rfl k) ?_
    show own_Goes p e below (T161.setTop (mkF m 104 #[.val (.int i0), .val (.int i1), .val (.int i2), .val (.int i3), .val (.int c0), .val (.int c1), .val (.int c2), .val (.int (3 : Int32)), .unset, .unset, .unset] [(.ref b161), (.ref b161), (.ref b158), (.ref b158)])) _
    refine own_st (fun _ k => XS.iconst X161.here hx rfl (hb hby at_104) k) ?_
    show own_Goes p e below (T161.setTop (mkF m 105 #[.val (.int i0), .val (.int i1), .val (.int i2), .val (.int i3), .val (.int c0), .val (.int c1), .val (.int c2), .val (.int (3 : Int32)), .unset, .unset, .unset] [(.int (0 : Int32)), (.ref b161), (.ref b161), (.ref b158), (.ref b158)])) _
    refine own_st (fun _ k => XS.iload X161.here hx rfl (hb hby at_105) rfl k) ?_
    show own_Goes p e below (T161.setTop (mkF m 107 #[.val (.int i0), .val (.int i1), .val (.int i2), .val (.int i3), .val (.int c0), .val (.int c1), .val (.int c2), .val (.int (3 : Int32)), .unset, .unset, .unset] [(.int c0), (.int (0 : Int32)), (.ref b161), (.ref b161), (.ref b158), (.ref b158)])) _
    obtain ⟨T162, h162, X162, e162, W162, V162, st162⟩ := own_stC (x := c0) (x' := c0) (own_narc hc0) (pc := 107) (Ls := #[.val (.int i0), .val (.int i1), .val (.int i2), .val (.int i3), .val (.int c0), .val (.int c1), .val (.int c2), .val (.int (3 : Int32)), .unset, .unset, .unset]) (rest := [(.ref b161), (.ref b158), (.ref b158)]) (j := (0 : Int32)) X161 hx hZ e161 V_b161 0 (by decide) (by decide) (Nat.le_of_ble_eq_true rfl) (hb hby at_107)
    have V162 : Arv Z h162 b161 k161 .char (3 : Int32) [(.int c0), (.int (0 : Int32)), (.int (0 : Int32))] (.int (0 : Int32)) := V162
    have N162 := Fr.snoc X162 N0 g_b161
    refine own_st st162 ?_
    show own_Goes p e below (T162.setTop (mkF m 108 #[.val (.int i0), .val (.int i1), .val (.int i2), .val (.int i3), .val (.int c0), .val (.int c1), .val (.int c2), .val (.int (3 : Int32)), .unset, .unset, .unset] [(.ref b161), (.ref b158), (.ref b158)])) _
    refine own_st (fun _ k => XS.dup X162.here hx rfl (hb hby at_108) rfl rfl k) ?_
    show own_Goes p e below (T162.setTop (mkF m 109 #[.val (.int i0), .val (.int i1), .val (.int i2), .val (.int i3), .val (.int c0), .val (.int c1), .val (.int c2), .val (.int (3 : Int32)), .unset, .unset, .unset] [(.ref b161), (.ref b161), (.ref b158), (.ref b158)])) _
    refine own_st (fun _ k => XS.iconst X162.here hx rfl (hb hby at_109) k) ?_
    show own_Goes p e below (T162.setTop (mkF m 110 #[.val (.int i0), .val (.int i1), .val (.int i2), .val (.int i3), .val (.int c0), .val (.int c1), .val (.int c2), .val (.int (3 : Int32)), .unset, .unset, .unset] [(.int (1 : Int32)), (.ref b161), (.ref b161), (.ref b158), (.ref b158)])) _
    refine own_st (fun _ k => XS.iload X162.here hx rfl (hb hby at_110) rfl k) ?_
    show own_Goes p e below (T162.setTop (mkF m 112 #[.val (.int i0), .val (.int i1), .val (.int i2), .val (.int i3), .val (.int c0), .val (.int c1), .val (.int c2), .val (.int (3 : Int32)), .unset, .unset, .unset] [(.int c1), (.int (1 : Int32)), (.ref b161), (.ref b161), (.ref b158), (.ref b158)])) _
    obtain ⟨T163, h163, X163, e163, W163, V163, st163⟩ := own_stC (x := c1) (x' := c1) (own_narc hc1) (pc := 112) (Ls := #[.val (.int i0), .val (.int i1), .val (.int i2), .val (.int i3), .val (.int c0), .val (.int c1), .val (.int c2), .val (.int (3 : Int32)), .unset, .unset, .unset]) (rest := [(.ref b161), (.ref b158), (.ref b158)]) (j := (1 : Int32)) X162 hx hZ e162 V162 1 (by decide) (by decide) (Nat.le_of_ble_eq_true rfl) (hb hby at_112)
    have V163 : Arv Z h163 b161 k161 .char (3 : Int32) [(.int c0), (.int c1), (.int (0 : Int32))] (.int (0 : Int32)) := V163
    have N163 := Fr.snoc X163 N162 g_b161
    refine own_st st163 ?_
    show own_Goes p e below (T163.setTop (mkF m 113 #[.val (.int i0), .val (.int i1), .val (.int i2), .val (.int i3), .val (.int c0), .val (.int c1), .val (.int c2), .val (.int (3 : Int32)), .unset, .unset, .unset] [(.ref b161), (.ref b158), (.ref b158)])) _
    refine own_st (fun _ k => XS.dup X163.here hx rfl (hb hby at_113) rfl rfl k) ?_
    show own_Goes p e below (T163.setTop (mkF m 114 #[.val (.int i0), .val (.int i1), .val (.int i2), .val (.int i3), .val (.int c0), .val (.int c1), .val (.int c2), .val (.int (3 : Int32)), .unset, .unset, .unset] [(.ref b161), (.ref b161), (.ref b158), (.ref b158)])) _
    refine own_st (fun _ k => XS.iconst X163.here hx rfl (hb hby at_114) k) ?_
    show own_Goes p e below (T163.setTop (mkF m 115 #[.val (.int i0), .val (.int i1), .val (.int i2), .val (.int i3), .val (.int c0), .val (.int c1), .val (.int c2), .val (.int (3 : Int32)), .unset, .unset, .unset] [(.int (2 : Int32)), (.ref b161), (.ref b161), (.ref b158), (.ref b158)])) _
    refine own_st (fun _ k => XS.iload X163.here hx rfl (hb hby at_115) rfl k) ?_
    show own_Goes p e below (T163.setTop (mkF m 117 #[.val (.int i0), .val (.int i1), .val (.int i2), .val (.int i3), .val (.int c0), .val (.int c1), .val (.int c2), .val (.int (3 : Int32)), .unset, .unset, .unset] [(.int c2), (.int (2 : Int32)), (.ref b161), (.ref b161), (.ref b158), (.ref b158)])) _
    obtain ⟨T164, h164, X164, e164, W164, V164, st164⟩ := own_stC (x := c2) (x' := c2) (own_narc hc2) (pc := 117) (Ls := #[.val (.int i0), .val (.int i1), .val (.int i2), .val (.int i3), .val (.int c0), .val (.int c1), .val (.int c2), .val (.int (3 : Int32)), .unset, .unset, .unset]) (rest := [(.ref b161), (.ref b158), (.ref b158)]) (j := (2 : Int32)) X163 hx hZ e163 V163 2 (by decide) (by decide) (Nat.le_of_ble_eq_true rfl) (hb hby at_117)
    have V164 : Arv Z h164 b161 k161 .char (3 : Int32) [(.int c0), (.int c1), (.int c2)] (.int (0 : Int32)) := V164
    have N164 := Fr.snoc X164 N163 g_b161
    refine own_st st164 ?_
    show own_Goes p e below (T164.setTop (mkF m 118 #[.val (.int i0), .val (.int i1), .val (.int i2), .val (.int i3), .val (.int c0), .val (.int c1), .val (.int c2), .val (.int (3 : Int32)), .unset, .unset, .unset] [(.ref b161), (.ref b158), (.ref b158)])) _
    have f166 := (Nat.le_trans (Nat.le_trans (Nat.le_trans (Nat.le_trans f159 E161.1) (Nat.le_of_eq W162.size.symm)) (Nat.le_of_eq W163.size.symm)) (Nat.le_of_eq W164.size.symm))
    have f167 := ((((F_value_b158.ext E161).other W162 (Or.inl ne_b158_b161)).other W163 (Or.inl ne_b158_b161)).other W164 (Or.inl ne_b158_b161))
    have f168 := ((((F_coder_b158.ext E161).other W162 (Or.inl ne_b158_b161)).other W163 (Or.inl ne_b158_b161)).other W164 (Or.inl ne_b158_b161))
    have f169 := ((((A158.ext E161).wr W162).wr W163).wr W164)
    have f170 := (((((O0.ext E158).ext E161).wr W162 g_b161).wr W163 g_b161).wr W164 g_b161)
    obtain ⟨_, T165, h165, L165, X165, e165, ⟨rfl, N165q, K165, bb165, kb165, gb165, sb165, T165q⟩, st165⟩ := own_callI (argsL := [(.ref b161)]) (rest := [(.ref b158)]) (pc := 118) (W := 1) (Ls := #[.val (.int i0), .val (.int i1), .val (.int i2), .val (.int i3), .val (.int c0), .val (.int c1), .val (.int c2), .val (.int (3 : Int32)), .unset, .unset, .unset]) (S := [(.ref b161), (.ref b158), (.ref b158)]) X164 hx hZ hown rfl (hw _ (List.mem_of_getElem? (i := 80) rfl)) (hw _ (List.mem_of_getElem? (i := 81) rfl)) (hw _ (List.mem_of_getElem? (i := 2) rfl)) (hw _ (List.mem_of_getElem? (i := 82) rfl)) (by decide) (rm53 l Z a0 hw [] b158 b161 k161 cs c0 c1 c2 h164 n0 f166 f167 f168 f169 V164 g_b158 (Ne.symm ne_b158_b161) (S_cs.ext f170.2) hcs hc0 hc1 hc2) (by decide) (by decide) e164 (by rw [hml]; rfl) (lenOf pd___C_V rfl) rfl (Nat.le_of_eq rfl) (hb hby at_118) (by decide) (by decide)
    refine own_st st165 ?_
    have N165 := Fr.app N164 N165q
    show own_Goes p e below (T165.setTop (mkF m 121 #[.val (.int i0), .val (.int i1), .val (.int i2), .val (.int i3), .val (.int c0), .val (.int c1), .val (.int c2), .val (.int (3 : Int32)), .unset, .unset, .unset] [(.ref b158)])) _
    refine own_st (fun _ k => XS.astore X165.here hx rfl (hb hby at_121) rfl rfl (l' := #[.val (.int i0), .val (.int i1), .val (.int i2), .val (.int i3), .val (.int c0), .val (.int c1), .val (.int c2), .val (.int (3 : Int32)), .val (.ref b158), .unset, .unset]) rfl k) ?_
    show own_Goes p e below (T165.setTop (mkF m 123 #[.val (.int i0), .val (.int i1), .val (.int i2), .val (.int i3), .val (.int c0), .val (.int c1), .val (.int c2), .val (.int (3 : Int32)), .val (.ref b158), .unset, .unset] [])) _
    refine own_st (fun _ k => XS.aload X165.here hx rfl (hb hby at_123) rfl rfl k) ?_
    show own_Goes p e below (T165.setTop (mkF m 125 #[.val (.int i0), .val (.int i1), .val (.int i2), .val (.int i3), .val (.int c0), .val (.int c1), .val (.int c2), .val (.int (3 : Int32)), .val (.ref b158), .unset, .unset] [(.ref b158)])) _
    have f172 := (Nat.le_trans f166 K165.1)
    have f173 := (Nat.le_trans (Nat.le_trans (Nat.le_trans (Nat.le_trans (Nat.le_trans (Nat.le_trans (Nat.zero_le _) E158.1) E161.1) (Nat.le_of_eq W162.size.symm)) (Nat.le_of_eq W163.size.symm)) (Nat.le_of_eq W164.size.symm)) K165.1)
    obtain ⟨_, T171, h171, L171, X171, e171, ⟨x171, rfl, g171, s171, N171q, K171, E171, F171, G171⟩, hS, hZ, hown, st171⟩ := own_callSS (argsL := [(.ref b158)]) (rest := []) (pc := 125) (W := 0) (Ls := #[.val (.int i0), .val (.int i1), .val (.int i2), .val (.int i3), .val (.int c0), .val (.int c1), .val (.int c2), .val (.int (3 : Int32)), .val (.ref b158), .unset, .unset]) (S := [(.ref b158)]) X165 hx hZ hown hS f173 (fun _ _ => trivial) (hw _ (List.mem_of_getElem? (i := 26) rfl)) (hw _ (List.mem_of_getElem? (i := 27) rfl)) (hw _ (List.mem_of_getElem? (i := 28) rfl)) (hw _ (List.mem_of_getElem? (i := 29) rfl)) (by decide) (rm7 l Z a0 hw [] b158 h165 n0 f172 (T165q).1) (by decide) (by decide) e165 (by rw [hml]; rfl) (lenOf pd__Ljava_lang_String__Lcom_example_lattice_warden_latticewarden_FlagItem_ rfl) rfl (Nat.le_of_eq rfl) (hb hby at_125) (by decide) (by decide)
    refine own_st st171 ?_
    have N171 := Fr.app N165 N171q
    show own_Goes p e below (T171.setTop (mkF m 128 #[.val (.int i0), .val (.int i1), .val (.int i2), .val (.int i3), .val (.int c0), .val (.int c1), .val (.int c2), .val (.int (3 : Int32)), .val (.ref b158), .unset, .unset] [(.ref x171)])) _
    refine own_st (fun _ k => XS.astore X171.here hx rfl (hb hby at_128) rfl rfl (l' := #[.val (.int i0), .val (.int i1), .val (.int i2), .val (.int i3), .val (.int c0), .val (.int c1), .val (.int c2), .val (.int (3 : Int32)), .val (.ref b158), .val (.ref x171), .unset]) rfl k) ?_
    show own_Goes p e below (T171.setTop (mkF m 130 #[.val (.int i0), .val (.int i1), .val (.int i2), .val (.int i3), .val (.int c0), .val (.int c1), .val (.int c2), .val (.int (3 : Int32)), .val (.ref b158), .val (.ref x171), .unset] [])) _
    refine own_st (fun _ k => XS.aload X171.here hx rfl (hb hby at_130) rfl rfl k) ?_
    show own_Goes p e below (T171.setTop (mkF m 132 #[.val (.int i0), .val (.int i1), .val (.int i2), .val (.int i3), .val (.int c0), .val (.int c1), .val (.int c2), .val (.int (3 : Int32)), .val (.ref b158), .val (.ref x171), .unset] [(.ref x171)])) _
    have f175 := (Nat.le_trans f172 K171.1)
    obtain ⟨_, T174, h174, L174, X174, e174, ⟨rfl, rfl, q174⟩, st174⟩ := own_callV (argsL := []) (rest := []) (pc := 132) (W := 0) (Ls := #[.val (.int i0), .val (.int i1), .val (.int i2), .val (.int i3), .val (.int c0), .val (.int c1), .val (.int c2), .val (.int (3 : Int32)), .val (.ref b158), .val (.ref x171), .unset]) (S := [(.ref x171)]) X171 hx hZ hown (hw _ (List.mem_of_getElem? (i := 48) rfl)) (hw _ (List.mem_of_getElem? (i := 49) rfl)) (hw _ (List.mem_of_getElem? (i := 51) rfl)) (hw _ (List.mem_of_getElem? (i := 50) rfl)) (hw _ (List.mem_of_getElem? (i := 28) rfl)) (hw _ (List.mem_of_getElem? (i := 52) rfl)) (notFace_of_selects (args := #[]) (mvT hZ (hw _ (List.mem_of_getElem? (i := 51) rfl)))) (by decide) (rm8 l Z a0 hw [] x171 b158 h171 n0 f175 F171) (by decide) (by decide) e171 E171 (by rw [hml]; rfl) (lenOf pd___Ljava_lang_String_ rfl) rfl (Nat.le_of_eq rfl) (hb hby at_132) (by decide) (by decide)
    refine own_st st174 ?_
    have N174 := Fr.app N171 (Fr.nil n0)
    show own_Goes p e below (T174.setTop (mkF m 135 #[.val (.int i0), .val (.int i1), .val (.int i2), .val (.int i3), .val (.int c0), .val (.int c1), .val (.int c2), .val (.int (3 : Int32)), .val (.ref b158), .val (.ref x171), .unset] [(.ref b158)])) _
    refine own_st (fun _ k => XS.astore X174.here hx rfl (hb hby at_135) rfl rfl (l' := #[.val (.int i0), .val (.int i1), .val (.int i2), .val (.int i3), .val (.int c0), .val (.int c1), .val (.int c2), .val (.int (3 : Int32)), .val (.ref b158), .val (.ref x171), .val (.ref b158)]) rfl k) ?_
    show own_Goes p e below (T174.setTop (mkF m 137 #[.val (.int i0), .val (.int i1), .val (.int i2), .val (.int i3), .val (.int c0), .val (.int c1), .val (.int c2), .val (.int (3 : Int32)), .val (.ref b158), .val (.ref x171), .val (.ref b158)] [])) _
    refine own_st (fun _ k => XS.aload X174.here hx rfl (hb hby at_137) rfl rfl k) ?_
    show own_Goes p e below (T174.setTop (mkF m 139 #[.val (.int i0), .val (.int i1), .val (.int i2), .val (.int i3), .val (.int c0), .val (.int c1), .val (.int c2), .val (.int (3 : Int32)), .val (.ref b158), .val (.ref x171), .val (.ref b158)] [(.ref b158)])) _
    refine own_st (fun _ k => XT.ifnonnullYes X174.here hx rfl (pc0 := 139) (pc' := 144) rfl (hb hby at_139) rfl (by decide) (by decide) k) ?_
    show own_Goes p e below (T174.setTop (mkF m 144 #[.val (.int i0), .val (.int i1), .val (.int i2), .val (.int i3), .val (.int c0), .val (.int c1), .val (.int c2), .val (.int (3 : Int32)), .val (.ref b158), .val (.ref x171), .val (.ref b158)] [])) _
    refine own_st (fun _ k => XS.aload X174.here hx rfl (hb hby at_144) rfl rfl k) ?_
    show own_Goes p e below (T174.setTop (mkF m 146 #[.val (.int i0), .val (.int i1), .val (.int i2), .val (.int i3), .val (.int c0), .val (.int c1), .val (.int c2), .val (.int (3 : Int32)), .val (.ref b158), .val (.ref x171), .val (.ref b158)] [(.ref b158)])) _
    have f177 := (T165q.keep K171 nin0 nin0)
    have f178 := ((f170.keep K165 (allS g_b158 all0)).keep K171 all0)
    obtain ⟨_, T176, h176, L176, X176, e176, ⟨rfl, rfl, q176⟩, st176⟩ := own_callV (argsL := []) (rest := []) (pc := 146) (W := 0) (Ls := #[.val (.int i0), .val (.int i1), .val (.int i2), .val (.int i3), .val (.int c0), .val (.int c1), .val (.int c2), .val (.int (3 : Int32)), .val (.ref b158), .val (.ref x171), .val (.ref b158)]) (S := [(.ref b158)]) X174 hx hZ hown (hw _ (List.mem_of_getElem? (i := 53) rfl)) (hw _ (List.mem_of_getElem? (i := 54) rfl)) (hw _ (List.mem_of_getElem? (i := 56) rfl)) (hw _ (List.mem_of_getElem? (i := 55) rfl)) (hw _ (List.mem_of_getElem? (i := 2) rfl)) (hw _ (List.mem_of_getElem? (i := 57) rfl)) (notFace_of_selects (args := #[]) (mvT hZ (hw _ (List.mem_of_getElem? (i := 56) rfl)))) (by decide) (rm12 l Z a0 hw [] b158 bb165 kb165 (3 : Int32) cs [(.int c0.toInt8.toInt32), (.int c1.toInt8.toInt32), (.int c2.toInt8.toInt32)] h171 n0 f175 f177 (S_cs.ext f178.2) hcs) (by decide) (by decide) (e174.trans q174) f177.1 (by rw [hml]; rfl) (lenOf pd___I rfl) rfl (Nat.le_of_eq rfl) (hb hby at_146) (by decide) (by decide)
    refine own_st st176 ?_
    have N176 := Fr.app N174 (Fr.nil n0)
    show own_Goes p e below (T176.setTop (mkF m 149 #[.val (.int i0), .val (.int i1), .val (.int i2), .val (.int i3), .val (.int c0), .val (.int c1), .val (.int c2), .val (.int (3 : Int32)), .val (.ref b158), .val (.ref x171), .val (.ref b158)] [(.int (3 : Int32))])) _
    refine own_st (fun _ k => XS.iload X176.here hx rfl (hb hby at_149) rfl k) ?_
    show own_Goes p e below (T176.setTop (mkF m 151 #[.val (.int i0), .val (.int i1), .val (.int i2), .val (.int i3), .val (.int c0), .val (.int c1), .val (.int c2), .val (.int (3 : Int32)), .val (.ref b158), .val (.ref x171), .val (.ref b158)] [(.int (3 : Int32)), (.int (3 : Int32))])) _
    refine own_st (fun _ k => XS.icmpYes X176.here hx rfl (pc0 := 151) (pc' := 156) rfl (hb hby at_151) rfl (teq (by decide : (3 : Int32) = (3 : Int32))).1 (by decide) (by decide) k) ?_
    show own_Goes p e below (T176.setTop (mkF m 156 #[.val (.int i0), .val (.int i1), .val (.int i2), .val (.int i3), .val (.int c0), .val (.int c1), .val (.int c2), .val (.int (3 : Int32)), .val (.ref b158), .val (.ref x171), .val (.ref b158)] [])) _
    refine own_st (fun _ k => XS.aload X176.here hx rfl (hb hby at_156) rfl rfl k) ?_
    show own_Goes p e below (T176.setTop (mkF m 158 #[.val (.int i0), .val (.int i1), .val (.int i2), .val (.int i3), .val (.int c0), .val (.int c1), .val (.int c2), .val (.int (3 : Int32)), .val (.ref b158), .val (.ref x171), .val (.ref b158)] [(.ref x171)])) _
    obtain ⟨_, T179, h179, L179, X179, e179, ⟨rfl, rfl, q179⟩, st179⟩ := own_callV (argsL := []) (rest := []) (pc := 158) (W := 0) (Ls := #[.val (.int i0), .val (.int i1), .val (.int i2), .val (.int i3), .val (.int c0), .val (.int c1), .val (.int c2), .val (.int (3 : Int32)), .val (.ref b158), .val (.ref x171), .val (.ref b158)]) (S := [(.ref x171)]) X176 hx hZ hown (hw _ (List.mem_of_getElem? (i := 63) rfl)) (hw _ (List.mem_of_getElem? (i := 64) rfl)) (hw _ (List.mem_of_getElem? (i := 66) rfl)) (hw _ (List.mem_of_getElem? (i := 65) rfl)) (hw _ (List.mem_of_getElem? (i := 28) rfl)) (hw _ (List.mem_of_getElem? (i := 67) rfl)) (notFace_of_selects (args := #[]) (mvT hZ (hw _ (List.mem_of_getElem? (i := 66) rfl)))) (by decide) (rm9 l Z a0 hw [] x171 b158 h171 n0 f175 F171) (by decide) (by decide) (e176.trans q176) E171 (by rw [hml]; rfl) (lenOf pd___Z rfl) rfl (Nat.le_of_eq rfl) (hb hby at_158) (by decide) (by decide)
    refine own_st st179 ?_
    have N179 := Fr.app N176 (Fr.nil n0)
    show own_Goes p e below (T179.setTop (mkF m 161 #[.val (.int i0), .val (.int i1), .val (.int i2), .val (.int i3), .val (.int c0), .val (.int c1), .val (.int c2), .val (.int (3 : Int32)), .val (.ref b158), .val (.ref x171), .val (.ref b158)] [(.int (0 : Int32))])) _
    refine own_st (fun _ k => XS.ifNo X179.here hx rfl (hb hby at_161) rfl ((if0 _ _).trans (teq (by decide : (0 : Int32) = (0 : Int32))).2) k) ?_
    show own_Goes p e below (T179.setTop (mkF m 164 #[.val (.int i0), .val (.int i1), .val (.int i2), .val (.int i3), .val (.int c0), .val (.int c1), .val (.int c2), .val (.int (3 : Int32)), .val (.ref b158), .val (.ref x171), .val (.ref b158)] [])) _
    refine own_st (fun _ k => XS.aload X179.here hx rfl (hb hby at_164) rfl rfl k) ?_
    show own_Goes p e below (T179.setTop (mkF m 166 #[.val (.int i0), .val (.int i1), .val (.int i2), .val (.int i3), .val (.int c0), .val (.int c1), .val (.int c2), .val (.int (3 : Int32)), .val (.ref b158), .val (.ref x171), .val (.ref b158)] [(.ref x171)])) _
    obtain ⟨_, T180, h180, L180, X180, e180, ⟨rfl, rfl, q180⟩, st180⟩ := own_callV (argsL := []) (rest := []) (pc := 166) (W := 0) (Ls := #[.val (.int i0), .val (.int i1), .val (.int i2), .val (.int i3), .val (.int c0), .val (.int c1), .val (.int c2), .val (.int (3 : Int32)), .val (.ref b158), .val (.ref x171), .val (.ref b158)]) (S := [(.ref x171)]) X179 hx hZ hown (hw _ (List.mem_of_getElem? (i := 68) rfl)) (hw _ (List.mem_of_getElem? (i := 69) rfl)) (hw _ (List.mem_of_getElem? (i := 71) rfl)) (hw _ (List.mem_of_getElem? (i := 70) rfl)) (hw _ (List.mem_of_getElem? (i := 28) rfl)) (hw _ (List.mem_of_getElem? (i := 72) rfl)) (notFace_of_selects (args := #[]) (mvT hZ (hw _ (List.mem_of_getElem? (i := 71) rfl)))) (by decide) (rm10 l Z a0 hw [] x171 (0 : Int64) h171 n0 f175 G171) (by decide) (by decide) (e179.trans q179) E171 (by rw [hml]; rfl) (lenOf pd___J rfl) rfl (Nat.le_of_eq rfl) (hb hby at_166) (by decide) (by decide)
    refine own_st st180 ?_
    have N180 := Fr.app N179 (Fr.nil n0)
    show own_Goes p e below (T180.setTop (mkF m 169 #[.val (.int i0), .val (.int i1), .val (.int i2), .val (.int i3), .val (.int c0), .val (.int c1), .val (.int c2), .val (.int (3 : Int32)), .val (.ref b158), .val (.ref x171), .val (.ref b158)] [(.long (0 : Int64))])) _
    refine own_st (fun _ k => XT.lconst X180.here hx rfl (hb hby at_169) k) ?_
    show own_Goes p e below (T180.setTop (mkF m 170 #[.val (.int i0), .val (.int i1), .val (.int i2), .val (.int i3), .val (.int c0), .val (.int c1), .val (.int c2), .val (.int (3 : Int32)), .val (.ref b158), .val (.ref x171), .val (.ref b158)] [(.long (0 : Int64)), (.long (0 : Int64))])) _
    refine own_st (fun _ k => XT.lcmp X180.here hx rfl (hb hby at_170) rfl k) ?_
    show own_Goes p e below (T180.setTop (mkF m 171 #[.val (.int i0), .val (.int i1), .val (.int i2), .val (.int i3), .val (.int c0), .val (.int c1), .val (.int c2), .val (.int (3 : Int32)), .val (.ref b158), .val (.ref x171), .val (.ref b158)] [(.int (XT.cmpL (0 : Int64) (0 : Int64)))])) _
    refine own_st (fun _ k => XS.ifNo X180.here hx rfl (hb hby at_171) rfl ((if0 _ _).trans (teq (by decide : (XT.cmpL (0 : Int64) (0 : Int64)) = (0 : Int32))).2) k) ?_
    show own_Goes p e below (T180.setTop (mkF m 174 #[.val (.int i0), .val (.int i1), .val (.int i2), .val (.int i3), .val (.int c0), .val (.int c1), .val (.int c2), .val (.int (3 : Int32)), .val (.ref b158), .val (.ref x171), .val (.ref b158)] [])) _
    refine own_st (fun _ k => XS.aload X180.here hx rfl (hb hby at_174) rfl rfl k) ?_
    show own_Goes p e below (T180.setTop (mkF m 176 #[.val (.int i0), .val (.int i1), .val (.int i2), .val (.int i3), .val (.int c0), .val (.int c1), .val (.int c2), .val (.int (3 : Int32)), .val (.ref b158), .val (.ref x171), .val (.ref b158)] [(.ref b158)])) _
    refine own_st (fun _ k => XS.aload X180.here hx rfl (hb hby at_176) rfl rfl k) ?_
    show own_Goes p e below (T180.setTop (mkF m 178 #[.val (.int i0), .val (.int i1), .val (.int i2), .val (.int i3), .val (.int c0), .val (.int c1), .val (.int c2), .val (.int (3 : Int32)), .val (.ref b158), .val (.ref x171), .val (.ref b158)] [(.ref b158), (.ref b158)])) _
    obtain ⟨_, T181, h181, L181, X181, e181, ⟨rfl, rfl, q181⟩, st181⟩ := own_callV (argsL := [(.ref b158)]) (rest := []) (pc := 178) (W := 0) (Ls := #[.val (.int i0), .val (.int i1), .val (.int i2), .val (.int i3), .val (.int c0), .val (.int c1), .val (.int c2), .val (.int (3 : Int32)), .val (.ref b158), .val (.ref x171), .val (.ref b158)]) (S := [(.ref b158), (.ref b158)]) X180 hx hZ hown (hw _ (List.mem_of_getElem? (i := 73) rfl)) (hw _ (List.mem_of_getElem? (i := 74) rfl)) (hw _ (List.mem_of_getElem? (i := 76) rfl)) (hw _ (List.mem_of_getElem? (i := 75) rfl)) (hw _ (List.mem_of_getElem? (i := 2) rfl)) (hw _ (List.mem_of_getElem? (i := 77) rfl)) (notFace_of_selects (args := #[]) (mvT hZ (hw _ (List.mem_of_getElem? (i := 76) rfl)))) (by decide) (rm13 l Z a0 hw [] b158 h171 n0 f175) (by decide) (by decide) (e180.trans q180) f177.1 (by rw [hml]; rfl) (lenOf pd__Ljava_lang_Object__Z rfl) rfl (Nat.le_of_eq rfl) (hb hby at_178) (by decide) (by decide)
    refine own_st st181 ?_
    have N181 := Fr.app N180 (Fr.nil n0)
    show own_Goes p e below (T181.setTop (mkF m 181 #[.val (.int i0), .val (.int i1), .val (.int i2), .val (.int i3), .val (.int c0), .val (.int c1), .val (.int c2), .val (.int (3 : Int32)), .val (.ref b158), .val (.ref x171), .val (.ref b158)] [(.int (1 : Int32))])) _
    refine own_st (fun _ k => XS.ifNo X181.here hx rfl (hb hby at_181) rfl ((if0 _ _).trans (feq (by decide : ¬ ((1 : Int32) = (0 : Int32)))).1) k) ?_
    show own_Goes p e below (T181.setTop (mkF m 184 #[.val (.int i0), .val (.int i1), .val (.int i2), .val (.int i3), .val (.int c0), .val (.int c1), .val (.int c2), .val (.int (3 : Int32)), .val (.ref b158), .val (.ref x171), .val (.ref b158)] [])) _
    refine own_st (fun _ k => XS.iconst X181.here hx rfl (hb hby at_184) k) ?_
    show own_Goes p e below (T181.setTop (mkF m 185 #[.val (.int i0), .val (.int i1), .val (.int i2), .val (.int i3), .val (.int c0), .val (.int c1), .val (.int c2), .val (.int (3 : Int32)), .val (.ref b158), .val (.ref x171), .val (.ref b158)] [(.int (1 : Int32))])) _
    refine own_st (fun _ k => XS.goto X181.here hx rfl (pc0 := 185) (pc' := 189) rfl (hb hby at_185) (by decide) (by decide) k) ?_
    show own_Goes p e below (T181.setTop (mkF m 189 #[.val (.int i0), .val (.int i1), .val (.int i2), .val (.int i3), .val (.int c0), .val (.int c1), .val (.int c2), .val (.int (3 : Int32)), .val (.ref b158), .val (.ref x171), .val (.ref b158)] [(.int (1 : Int32))])) _
    exact own_retSN (t := .boolean) (z' := (1 : Int32)) X181 hS (Nat.le_refl h171.size) hx hlk hret (by simp) (by decide) (hb hby at_189) (by decide) (by decide) (e181.trans q181) ⟨rfl, N181⟩
set_option maxRecDepth 65536 in
set_option maxHeartbeats 40000000 in
theorem comes_1 {Post : Tables → Env → Array Value → State → Outcome → State → Prop} (hpost : ∀ tb e args s v u, (limb_1_1.after args s (.returned v) u = true ∧ limb_1_2.after args s (.returned v) u = true ∧ True) → ReturnedEndW s (.returned v) u (Jvm.fieldLocs frame_1_writes args s ++ Jvm.arrayLocs frame_1_arrays args s ++ Jvm.staticLocs frame_1_statics s) 24 2176 → Post tb e args s (.returned v) u) :
    ArmFor flags0 classFile x code maxLocals ret World_1 tables_1 room_1 Calls_1 rest_1 Pre_1 Post := by
  intro l hfl _ _ p e ha hc hk s m args below hf hA hF happ hP
  obtain ⟨hcalls, hrest, hpre⟩ := hP
  obtain ⟨-, -, -, hnamed, -, -, -, hat⟩ := (Spec.applies_iff hf).mp happ
  obtain ⟨hg, hn⟩ := and_e (Cond.before_iff.mp (show (Jvm.Cond.and given_1 narrow_1).before args s = true from hpre))
  obtain ⟨hcount, g0⟩ := and_e hg
  obtain ⟨q0, g1⟩ := and_e g0
  obtain ⟨q1, g2⟩ := and_e g1
  obtain ⟨q2, g3⟩ := and_e g2
  have q3 := g3
  obtain ⟨w0, w1, w2, w3, rfl⟩ : ∃ w0 w1 w2 w3 : Value, args = #[w0, w1, w2, w3] := by
    have hs : args.size = 4 := by simpa [Cond.value, given_1] using hcount
    obtain ⟨L⟩ := args
    match L, hs with
    | [w0, w1, w2, w3], _ => exact ⟨w0, w1, w2, w3, rfl⟩
  obtain ⟨i0, ei0⟩ := is_v q0
  obtain rfl : w0 = (.int i0) := Option.some.inj ei0
  obtain ⟨i1, ei1⟩ := is_v q1
  obtain rfl : w1 = (.int i1) := Option.some.inj ei1
  obtain ⟨i2, ei2⟩ := is_v q2
  obtain rfl : w2 = (.int i2) := Option.some.inj ei2
  obtain ⟨i3, ei3⟩ := is_v q3
  obtain rfl : w3 = (.int i3) := Option.some.inj ei3
  have hw := fun d (hd : d ∈ tables_1) => atoms_spec (ws := Jvm.Cond.code x code maxLocals ret :: tables_1) hat d (List.mem_cons_of_mem _ hd)
  have hfit : Fit s := fun {y c} hc i hi => by
    obtain ⟨ha, rfl⟩ := Array.getElem?_eq_some_iff.mp hc
    have q := List.all_eq_true.mp ((Array.all_eq_true_iff_forall_mem.mp hF) _ (Array.getElem_mem ha)) i (List.mem_range.mpr hi)
    simpa [Array.getElem?_eq_getElem hi] using q
  obtain ⟨hsets, hown0⟩ := atoms_of _ (rest_1_c_eq ▸ (show rest_1_c.before _ s = true from hrest))
  have O0 := Old.start s
  obtain ⟨cs, v_cs⟩ := is_v (Cond.before_iff.mp (hsets _ (List.mem_of_getElem? (i := 1) rfl)))
  have S_cs := Sta.start v_cs (Or.inl (hsets _ (List.mem_of_getElem? (i := 0) rfl)))
  have hcs : ¬ cs = (0 : Int32) := fun q => by
    have k1 := not_v (Cond.before_iff.mp (hsets _ (List.mem_of_getElem? (i := 2) rfl)))
    rw [eq_i v_cs (Term.int_eval 0) (by rw [q])] at k1
    cases k1
  have hh0 : Jvm.Lit.constHeld s "java/lang/String" 7 := hcalls.1 _ (List.mem_of_getElem? (i := 1) rfl)
  have hcw0 : Jvm.Lit.compactW.before #[] s = true := hsets _ (List.mem_of_getElem? (i := 2) rfl)
  obtain ⟨n, o, h1, h2, h3, _, L, rfl, ⟨rfl, N⟩, hq⟩ := rm0 l s _ hw tables_1 i0 i1 i2 i3 cs s.heap s.heap.size (Nat.le_refl _) S_cs hcs O0 hh0 hcw0 p e ha hc hk s m _ below hf ((Spec.applies_iff_loose hf).mp happ).1 ⟨rfl, State.Warmed39.refl s, rfl, (Or.inl IB.start)⟩ trivial
  refine ⟨n, _, h1, h2, h3, hpost _ _ _ _ _ _ ⟨Cond.after_iff.mpr rfl, Cond.after_iff.mpr (eq_i res_at (Term.int_eval (1)) rfl), trivial⟩ ⟨hq.1, hq.2.1, hq.2.2.1, (hq.2.2.2.sift fun y hy => Or.inr (N y hy)).mono (by decide) (by decide)⟩⟩
theorem main_1_1 : Claimed_1_1 := comes_1 fun _ _ _ _ _ _ h hF => ⟨h.1, hF⟩
theorem main_1_2 : Claimed_1_2 := comes_1 fun _ _ _ _ _ _ h hF => ⟨h.2.1, hF⟩
end Jvm.Pilot.@@N@@
namespace Jvm.Pilot.@@N@@
open Jvm Jvm.ClassFile Sem Op Lib Jvm.Free Jvm.Stand Jvm.Pilot.@@N@@.Jvm.D
/-! MADE BY PROGRAM (witnessworld.py) out of the Statement's table words and the real class files: 21 classes; the members and pool entries that the words name. The judged class is class 1, her method 1. -/
namespace start1
open Jvm.ClassFile
def u (s : String) : CpInfo := .utf8 (stringToUtf16 s)
/-- a pool by its gaps: so many unusable entries, then the entry; so many at the end -/
def gap : Nat → List CpInfo → List CpInfo
  | 0, r => r
  | n + 1, r => .unusable :: gap n r
def poolList (es : List (Nat × CpInfo)) (last : Nat) : List CpInfo := es.foldr (fun e r => gap e.1 (e.2 :: r)) (gap last [])
def pool (es : List (Nat × CpInfo)) (last : Nat) : Array CpInfo := ⟨poolList es last⟩
def fileOf (pool : Array CpInfo) (this : Nat) (attrs : Array Attribute := #[]) (ms : Array MethodInfo := #[]) (fl : Nat := 33) (sup : Nat := 0) (ifs : Array Nat := #[]) (fds : Array FieldInfo := #[]) : ClassFile where
  minorVersion := 0
  majorVersion := 65
  constantPool := pool
  accessFlags := fl
  thisClass := this
  superClass := sup
  interfaces := ifs
  fields := fds
  methods := ms
  attributes := attrs
def plain (name : String) (sup : Option ClassId) : Class where
  name := name
  kind := .ordinary
  loader := none
  accessFlags := 33
  super := sup
  interfaces := #[]
  cf := none
  fields := #[]
  methods := #[]
  instanceTypes := #[]
  staticTypes := #[]
  resolved := #[]
  callSites := []
  init := .initialized
  statics := none
  mirror := none

def pool0 : Array CpInfo := pool [(5, u "<init>"), (0, u "()V"), (1, .class_ 10), (1, u "java/lang/Object")] 113

def k0c0 : Code := { maxStack := 0, maxLocals := 1, code := object_method_1_code, exceptionTable := #[], attributes := #[] }
def k0m0 : Method := { name := "<init>", desc := "()V", sig := { parameters := [], returnType := none }, accessFlags := 1, code := some k0c0 }
/-- java/lang/Object -/
def k0 : Class := { plain "java/lang/Object" none with
  accessFlags := 33
  interfaces := #[]
  cf := some (fileOf pool0 8 #[] #[{ accessFlags := 1, nameIndex := 5, descriptorIndex := 6, attributes := #[] }] 33 0 #[] #[])
  fields := #[]
  methods := #[k0m0]
  instanceTypes := #[]
  staticTypes := #[]
  resolved := Array.replicate 124 none
  statics := none }

def pool1 : Array CpInfo := pool [(2, .class_ 4), (1, u "java/lang/Object"), (0, u "<init>"), (0, u "()V"), (0, .class_ 8), (0, u "java/lang/String"), (0, .methodref 7 10), (0, .nameAndType 5 11), (0, u "([C)V"), (0, .methodref 7 13), (0, .nameAndType 14 15), (0, u "valueOf"), (0, u "(C)Ljava/lang/String;"), (0, .methodref 17 18), (0, .class_ 19), (0, .nameAndType 20 21), (0, u "com/example/lattice_warden/latticewarden/FlagItem"), (0, u "named"), (0, u "(Ljava/lang/String;)Lcom/example/lattice_warden/latticewarden/FlagItem;"), (0, .methodref 17 23), (0, .nameAndType 24 25), (0, u "name"), (0, u "()Ljava/lang/String;"), (0, .methodref 7 27), (0, .nameAndType 28 29), (0, u "length"), (0, u "()I"), (0, .methodref 17 31), (0, .nameAndType 32 33), (0, u "isNumber"), (0, u "()Z"), (0, .methodref 17 35), (0, .nameAndType 36 37), (0, u "number"), (0, u "()J"), (0, .methodref 7 39), (0, .nameAndType 40 41), (0, u "equals"), (0, u "(Ljava/lang/Object;)Z"), (0, .class_ 43), (0, u "com/example/lattice_warden/latticewarden/FlagItemNamedPinLaw"), (2, u "law"), (0, u "(IIII)Z")] 3

def k1m0 : Method := { name := "<init>", desc := "()V", sig := { parameters := [], returnType := none }, accessFlags := 1, code := none }
def k1c1 : Code := { maxStack := 6, maxLocals := 11, code := code, exceptionTable := #[], attributes := #[] }
def k1m1 : Method := { name := "law", desc := "(IIII)Z", sig := { parameters := [.int, .int, .int, .int], returnType := some .boolean }, accessFlags := 9, code := some k1c1 }
/-- com/example/lattice_warden/latticewarden/FlagItemNamedPinLaw -/
def k1 : Class := { plain "com/example/lattice_warden/latticewarden/FlagItemNamedPinLaw" (some 0) with
  accessFlags := 49
  interfaces := #[]
  cf := some (fileOf pool1 42 #[] #[{ accessFlags := 1, nameIndex := 5, descriptorIndex := 6, attributes := #[] }, { accessFlags := 9, nameIndex := 46, descriptorIndex := 47, attributes := #[] }] 49 2 #[] #[])
  fields := #[]
  methods := #[k1m0, k1m1]
  instanceTypes := #[]
  staticTypes := #[]
  resolved := Array.replicate 51 none
  statics := none }

def pool2 : Array CpInfo := pool [(1, .class_ 2), (0, u "java/io/Serializable"), (0, .class_ 4), (0, u "java/lang/Object")] 2

/-- java/io/Serializable -/
def k2 : Class := { plain "java/io/Serializable" (some 0) with
  accessFlags := 1537
  interfaces := #[]
  cf := some (fileOf pool2 1 #[] #[] 1537 3 #[] #[])
  fields := #[]
  methods := #[]
  instanceTypes := #[]
  staticTypes := #[]
  resolved := Array.replicate 7 none
  statics := none }

def pool3 : Array CpInfo := pool [(1, .class_ 2), (0, u "java/lang/Comparable"), (0, .class_ 4), (0, u "java/lang/Object")] 7

/-- java/lang/Comparable -/
def k3 : Class := { plain "java/lang/Comparable" (some 0) with
  accessFlags := 1537
  interfaces := #[]
  cf := some (fileOf pool3 1 #[] #[] 1537 3 #[] #[])
  fields := #[]
  methods := #[]
  instanceTypes := #[]
  staticTypes := #[]
  resolved := Array.replicate 12 none
  statics := none }

def pool4 : Array CpInfo := pool [(2, .class_ 4), (1, u "java/lang/CharSequence"), (42, .class_ 48), (0, u "java/lang/CharSequence$1CodePointIterator"), (10, .class_ 60), (0, u "java/lang/CharSequence$1CharIterator"), (5, .class_ 67), (0, u "java/lang/Object")] 63

/-- java/lang/CharSequence -/
def k4 : Class := { plain "java/lang/CharSequence" (some 0) with
  accessFlags := 1537
  interfaces := #[]
  cf := some (fileOf pool4 2 #[.nestMembers #[47, 59]] #[] 1537 66 #[] #[])
  fields := #[]
  methods := #[]
  instanceTypes := #[]
  staticTypes := #[]
  resolved := Array.replicate 131 none
  statics := none }

def pool5 : Array CpInfo := pool [(1, .class_ 2), (0, u "java/lang/constant/Constable"), (0, .class_ 4), (0, u "java/lang/Object")] 6

/-- java/lang/constant/Constable -/
def k5 : Class := { plain "java/lang/constant/Constable" (some 0) with
  accessFlags := 1537
  interfaces := #[]
  cf := some (fileOf pool5 1 #[] #[] 1537 3 #[] #[])
  fields := #[]
  methods := #[]
  instanceTypes := #[]
  staticTypes := #[]
  resolved := Array.replicate 11 none
  statics := none }

def pool6 : Array CpInfo := pool [(1, .class_ 2), (0, u "java/lang/constant/ConstantDesc"), (0, .class_ 4), (0, u "java/lang/Object")] 32

/-- java/lang/constant/ConstantDesc -/
def k6 : Class := { plain "java/lang/constant/ConstantDesc" (some 0) with
  accessFlags := 1537
  interfaces := #[]
  cf := some (fileOf pool6 1 #[] #[] 1537 3 #[] #[])
  fields := #[]
  methods := #[]
  instanceTypes := #[]
  staticTypes := #[]
  resolved := Array.replicate 37 none
  statics := none }

def pool7 : Array CpInfo := pool [(1, .methodref 2 3), (0, .class_ 4), (0, .nameAndType 5 6), (0, u "java/lang/Object"), (0, u "<init>"), (0, u "()V"), (0, .string 8), (0, u ""), (0, .fieldref 10 11), (0, .class_ 12), (0, .nameAndType 13 14), (0, u "java/lang/String"), (0, u "value"), (0, u "[B"), (0, .fieldref 10 16), (0, .nameAndType 17 18), (0, u "coder"), (0, u "B"), (2, u "hash"), (0, u "I"), (2, u "hashIsZero"), (0, u "Z"), (0, .methodref 10 28), (0, .nameAndType 5 29), (0, u "([CIILjava/lang/Void;)V"), (8, .fieldref 10 39), (0, .nameAndType 40 26), (0, u "COMPACT_STRINGS"), (1, .class_ 44), (1, u "java/lang/StringUTF16"), (0, u "compress"), (1, .methodref 42 48), (0, .nameAndType 49 50), (0, u "coderFromArrayLen"), (0, u "([BI)B"), (2, u "toBytes"), (53, .class_ 109), (1, u "java/lang/StringLatin1"), (67, .methodref 42 178), (0, .nameAndType 45 179), (0, u "([CII)[B"), (29, .methodref 10 210), (0, .nameAndType 5 211), (0, u "([BB)V"), (122, u "()I"), (0, .methodref 10 336), (0, .nameAndType 17 337), (0, u "()B"), (31, u "(C)Z"), (137, u "length"), (35, u "equals"), (29, u "(Ljava/lang/Object;)Z"), (1, .class_ 576), (0, u "java/lang/CharSequence"), (22, u "CASE_INSENSITIVE_ORDER"), (0, u "Ljava/util/Comparator;"), (181, u "valueOf"), (0, u "(C)Ljava/lang/String;"), (226, u "([C)V"), (4, .methodref 107 1016), (0, .nameAndType 1017 369), (0, u "canEncode"), (0, .methodref 107 1019), (0, .nameAndType 53 1020), (0, u "(C)[B"), (80, u "serialPersistentFields"), (0, u "[Ljava/io/ObjectStreamField;"), (0, .class_ 1104), (0, u "java/lang/String$CaseInsensitiveComparator"), (1, .class_ 1107), (0, u "java/io/Serializable"), (0, .class_ 1109), (0, u "java/lang/Comparable"), (0, .class_ 1111), (0, u "java/lang/constant/Constable"), (0, .class_ 1113), (0, u "java/lang/constant/ConstantDesc"), (2, u "serialVersionUID"), (0, u "J"), (3, u "REPL"), (0, u "C"), (2, u "LATIN1"), (1, u "UTF16")] 323

def k7m0 : Method := { name := "<init>", desc := "()V", sig := { parameters := [], returnType := none }, accessFlags := 1, code := none }
def k7c1 : Code := { maxStack := 5, maxLocals := 2, code := jdk_42_method_3_code, exceptionTable := #[], attributes := #[] }
def k7m1 : Method := { name := "<init>", desc := "([C)V", sig := { parameters := [(.array .char)], returnType := none }, accessFlags := 1, code := some k7c1 }
def k7c2 : Code := { maxStack := 2, maxLocals := 1, code := jdk_42_method_54_code, exceptionTable := #[], attributes := #[] }
def k7m2 : Method := { name := "length", desc := "()I", sig := { parameters := [], returnType := some .int }, accessFlags := 1, code := some k7c2 }
def k7c3 : Code := { maxStack := 2, maxLocals := 3, code := jdk_42_method_66_code, exceptionTable := #[], attributes := #[] }
def k7m3 : Method := { name := "equals", desc := "(Ljava/lang/Object;)Z", sig := { parameters := [(.object "java/lang/Object")], returnType := some .boolean }, accessFlags := 1, code := some k7c3 }
def k7c4 : Code := { maxStack := 4, maxLocals := 1, code := jdk_42_method_139_code, exceptionTable := #[], attributes := #[] }
def k7m4 : Method := { name := "valueOf", desc := "(C)Ljava/lang/String;", sig := { parameters := [.char], returnType := some (.object "java/lang/String") }, accessFlags := 9, code := some k7c4 }
def k7c5 : Code := { maxStack := 4, maxLocals := 6, code := jdk_42_method_149_code, exceptionTable := #[], attributes := #[] }
def k7m5 : Method := { name := "<init>", desc := "([CIILjava/lang/Void;)V", sig := { parameters := [(.array .char), .int, .int, (.object "java/lang/Void")], returnType := none }, accessFlags := 2, code := some k7c5 }
def k7c6 : Code := { maxStack := 2, maxLocals := 3, code := jdk_42_method_151_code, exceptionTable := #[], attributes := #[] }
def k7m6 : Method := { name := "<init>", desc := "([BB)V", sig := { parameters := [(.array .byte), .byte], returnType := none }, accessFlags := 0, code := some k7c6 }
def k7c7 : Code := { maxStack := 1, maxLocals := 1, code := jdk_42_method_152_code, exceptionTable := #[], attributes := #[] }
def k7m7 : Method := { name := "coder", desc := "()B", sig := { parameters := [], returnType := some .byte }, accessFlags := 0, code := some k7c7 }
/-- java/lang/String -/
def k7 : Class := { plain "java/lang/String" (some 0) with
  accessFlags := 49
  interfaces := #[2, 3, 4, 5, 6]
  cf := some (fileOf pool7 10 #[.nestMembers #[1103]] #[{ accessFlags := 1, nameIndex := 5, descriptorIndex := 6, attributes := #[] }, { accessFlags := 1, nameIndex := 5, descriptorIndex := 1010, attributes := #[] }, { accessFlags := 1, nameIndex := 507, descriptorIndex := 334, attributes := #[] }, { accessFlags := 1, nameIndex := 543, descriptorIndex := 573, attributes := #[] }, { accessFlags := 9, nameIndex := 782, descriptorIndex := 783, attributes := #[] }, { accessFlags := 2, nameIndex := 5, descriptorIndex := 29, attributes := #[] }, { accessFlags := 0, nameIndex := 5, descriptorIndex := 211, attributes := #[] }, { accessFlags := 0, nameIndex := 17, descriptorIndex := 337, attributes := #[] }] 49 2 #[1106, 1108, 575, 1110, 1112] #[{ accessFlags := 18, nameIndex := 13, descriptorIndex := 14, attributes := #[] }, { accessFlags := 18, nameIndex := 17, descriptorIndex := 18, attributes := #[] }, { accessFlags := 2, nameIndex := 21, descriptorIndex := 22, attributes := #[] }, { accessFlags := 2, nameIndex := 25, descriptorIndex := 26, attributes := #[] }, { accessFlags := 26, nameIndex := 1116, descriptorIndex := 1117, attributes := #[] }, { accessFlags := 24, nameIndex := 40, descriptorIndex := 26, attributes := #[] }, { accessFlags := 26, nameIndex := 1101, descriptorIndex := 1102, attributes := #[] }, { accessFlags := 26, nameIndex := 1121, descriptorIndex := 1122, attributes := #[] }, { accessFlags := 25, nameIndex := 599, descriptorIndex := 600, attributes := #[] }, { accessFlags := 24, nameIndex := 1125, descriptorIndex := 18, attributes := #[] }, { accessFlags := 24, nameIndex := 1127, descriptorIndex := 18, attributes := #[] }])
  fields := #[{ name := "value", type := (.array .byte), accessFlags := 18, slot := 0, constantValue := 0 }, { name := "coder", type := .byte, accessFlags := 18, slot := 1, constantValue := 0 }, { name := "hash", type := .int, accessFlags := 2, slot := 2, constantValue := 0 }, { name := "hashIsZero", type := .boolean, accessFlags := 2, slot := 3, constantValue := 0 }, { name := "serialVersionUID", type := .long, accessFlags := 26, slot := 0, constantValue := 0 }, { name := "COMPACT_STRINGS", type := .boolean, accessFlags := 24, slot := 1, constantValue := 0 }, { name := "serialPersistentFields", type := (.array (.object "java/io/ObjectStreamField")), accessFlags := 26, slot := 2, constantValue := 0 }, { name := "REPL", type := .char, accessFlags := 26, slot := 3, constantValue := 0 }, { name := "CASE_INSENSITIVE_ORDER", type := (.object "java/util/Comparator"), accessFlags := 25, slot := 4, constantValue := 0 }, { name := "LATIN1", type := .byte, accessFlags := 24, slot := 5, constantValue := 0 }, { name := "UTF16", type := .byte, accessFlags := 24, slot := 6, constantValue := 0 }]
  methods := #[k7m0, k7m1, k7m2, k7m3, k7m4, k7m5, k7m6, k7m7]
  instanceTypes := #[(.array .byte), .byte, .int, .boolean]
  staticTypes := #[.long, .boolean, (.array (.object "java/io/ObjectStreamField")), .char, (.object "java/util/Comparator"), .byte, .byte]
  resolved := Array.replicate 1451 none
  statics := some 0 }

def pool8 : Array CpInfo := pool [(4, .class_ 6), (1, u "java/lang/Object"), (0, u "<init>"), (0, u "()V"), (5, .class_ 16), (1, u "java/lang/StringLatin1"), (73, u "canEncode"), (14, u "(C)Z"), (15, u "$assertionsDisabled"), (0, u "Z"), (98, .class_ 223), (1, u "java/lang/StringLatin1$LinesSpliterator"), (156, u "toBytes"), (1, u "(C)[B"), (7, .class_ 391), (0, u "java/lang/StringLatin1$CharsSpliterator")] 3

def k8m0 : Method := { name := "<init>", desc := "()V", sig := { parameters := [], returnType := none }, accessFlags := 0, code := none }
def k8c1 : Code := { maxStack := 2, maxLocals := 1, code := jdk_43_method_3_code, exceptionTable := #[], attributes := #[] }
def k8m1 : Method := { name := "canEncode", desc := "(C)Z", sig := { parameters := [.char], returnType := some .boolean }, accessFlags := 9, code := some k8c1 }
def k8c2 : Code := { maxStack := 4, maxLocals := 1, code := jdk_43_method_46_code, exceptionTable := #[], attributes := #[] }
def k8m2 : Method := { name := "toBytes", desc := "(C)[B", sig := { parameters := [.char], returnType := some (.array .byte) }, accessFlags := 9, code := some k8c2 }
/-- java/lang/StringLatin1 -/
def k8 : Class := { plain "java/lang/StringLatin1" (some 0) with
  accessFlags := 48
  interfaces := #[]
  cf := some (fileOf pool8 14 #[.nestMembers #[390, 221]] #[{ accessFlags := 0, nameIndex := 7, descriptorIndex := 8, attributes := #[] }, { accessFlags := 9, nameIndex := 90, descriptorIndex := 105, attributes := #[] }, { accessFlags := 9, nameIndex := 380, descriptorIndex := 382, attributes := #[] }] 48 4 #[] #[{ accessFlags := 4120, nameIndex := 121, descriptorIndex := 122, attributes := #[] }])
  fields := #[{ name := "$assertionsDisabled", type := .boolean, accessFlags := 4120, slot := 0, constantValue := 0 }]
  methods := #[k8m0, k8m1, k8m2]
  instanceTypes := #[]
  staticTypes := #[.boolean]
  resolved := Array.replicate 395 none
  statics := none }

def pool9 : Array CpInfo := pool [(1, .methodref 2 3), (0, .class_ 4), (0, .nameAndType 5 6), (0, u "java/lang/Object"), (0, u "<init>"), (0, u "()V"), (0, .fieldref 8 9), (0, .class_ 10), (0, .nameAndType 11 12), (0, u "com/example/lattice_warden/latticewarden/FlagItem"), (0, u "name"), (0, u "Ljava/lang/String;"), (0, .fieldref 8 14), (0, .nameAndType 15 16), (0, u "number"), (0, u "J"), (0, .string 11), (0, .methodref 19 20), (0, .class_ 21), (0, .nameAndType 22 23), (0, u "java/util/Objects"), (0, u "requireNonNull"), (0, u "(Ljava/lang/Object;Ljava/lang/String;)Ljava/lang/Object;"), (0, .class_ 25), (0, u "java/lang/String"), (0, .methodref 8 27), (0, .nameAndType 5 28), (0, u "(Ljava/lang/String;J)V"), (14, u "()Z"), (8, u "()Ljava/lang/String;"), (2, u "named"), (0, u "(Ljava/lang/String;)Lcom/example/lattice_warden/latticewarden/FlagItem;"), (14, u "isNumber"), (0, u "()J")] 2

def k9c0 : Code := { maxStack := 3, maxLocals := 4, code := prog_7_method_1_code, exceptionTable := #[], attributes := #[] }
def k9m0 : Method := { name := "<init>", desc := "(Ljava/lang/String;J)V", sig := { parameters := [(.object "java/lang/String"), .long], returnType := none }, accessFlags := 2, code := some k9c0 }
def k9c1 : Code := { maxStack := 5, maxLocals := 1, code := prog_7_method_2_code, exceptionTable := #[], attributes := #[] }
def k9m1 : Method := { name := "named", desc := "(Ljava/lang/String;)Lcom/example/lattice_warden/latticewarden/FlagItem;", sig := { parameters := [(.object "java/lang/String")], returnType := some (.object "com/example/lattice_warden/latticewarden/FlagItem") }, accessFlags := 8, code := some k9c1 }
def k9c2 : Code := { maxStack := 1, maxLocals := 1, code := prog_7_method_5_code, exceptionTable := #[], attributes := #[] }
def k9m2 : Method := { name := "isNumber", desc := "()Z", sig := { parameters := [], returnType := some .boolean }, accessFlags := 0, code := some k9c2 }
def k9c3 : Code := { maxStack := 1, maxLocals := 1, code := prog_7_method_6_code, exceptionTable := #[], attributes := #[] }
def k9m3 : Method := { name := "name", desc := "()Ljava/lang/String;", sig := { parameters := [], returnType := some (.object "java/lang/String") }, accessFlags := 0, code := some k9c3 }
def k9c4 : Code := { maxStack := 2, maxLocals := 1, code := prog_7_method_7_code, exceptionTable := #[], attributes := #[] }
def k9m4 : Method := { name := "number", desc := "()J", sig := { parameters := [], returnType := some .long }, accessFlags := 0, code := some k9c4 }
/-- com/example/lattice_warden/latticewarden/FlagItem -/
def k9 : Class := { plain "com/example/lattice_warden/latticewarden/FlagItem" (some 0) with
  accessFlags := 32
  interfaces := #[]
  cf := some (fileOf pool9 8 #[] #[{ accessFlags := 2, nameIndex := 5, descriptorIndex := 28, attributes := #[] }, { accessFlags := 8, nameIndex := 55, descriptorIndex := 56, attributes := #[] }, { accessFlags := 0, nameIndex := 71, descriptorIndex := 43, attributes := #[] }, { accessFlags := 0, nameIndex := 11, descriptorIndex := 52, attributes := #[] }, { accessFlags := 0, nameIndex := 15, descriptorIndex := 72, attributes := #[] }] 32 2 #[] #[{ accessFlags := 18, nameIndex := 11, descriptorIndex := 12, attributes := #[] }, { accessFlags := 18, nameIndex := 15, descriptorIndex := 16, attributes := #[] }])
  fields := #[{ name := "name", type := (.object "java/lang/String"), accessFlags := 18, slot := 0, constantValue := 0 }, { name := "number", type := .long, accessFlags := 18, slot := 1, constantValue := 0 }]
  methods := #[k9m0, k9m1, k9m2, k9m3, k9m4]
  instanceTypes := #[(.object "java/lang/String"), .long]
  staticTypes := #[]
  resolved := Array.replicate 75 none
  statics := none }

def pool10 : Array CpInfo := pool [(2, .class_ 4), (1, u "java/lang/Object"), (0, u "<init>"), (0, u "()V"), (35, .class_ 44), (1, u "java/util/Objects"), (0, u "requireNonNull"), (48, u "(Ljava/lang/Object;Ljava/lang/String;)Ljava/lang/Object;")] 89

def k10m0 : Method := { name := "<init>", desc := "()V", sig := { parameters := [], returnType := none }, accessFlags := 2, code := none }
def k10c1 : Code := { maxStack := 3, maxLocals := 2, code := jdk_31_method_11_code, exceptionTable := #[], attributes := #[] }
def k10m1 : Method := { name := "requireNonNull", desc := "(Ljava/lang/Object;Ljava/lang/String;)Ljava/lang/Object;", sig := { parameters := [(.object "java/lang/Object"), (.object "java/lang/String")], returnType := some (.object "java/lang/Object") }, accessFlags := 9, code := some k10c1 }
/-- java/util/Objects -/
def k10 : Class := { plain "java/util/Objects" (some 0) with
  accessFlags := 49
  interfaces := #[]
  cf := some (fileOf pool10 42 #[] #[{ accessFlags := 2, nameIndex := 5, descriptorIndex := 6, attributes := #[] }, { accessFlags := 9, nameIndex := 45, descriptorIndex := 94, attributes := #[] }] 49 2 #[] #[])
  fields := #[]
  methods := #[k10m0, k10m1]
  instanceTypes := #[]
  staticTypes := #[]
  resolved := Array.replicate 184 none
  statics := none }

def pool11 : Array CpInfo := pool [(6, .class_ 8), (1, u "java/lang/Object"), (0, u "<init>"), (0, u "()V"), (1, .class_ 14), (1, u "java/lang/StringUTF16"), (31, u "$assertionsDisabled"), (0, u "Z"), (13, u "HI_BYTE_SHIFT"), (0, u "I"), (2, u "LO_BYTE_SHIFT"), (49, .methodref 12 116), (0, .nameAndType 117 118), (0, u "compress"), (0, u "([CI[BII)I"), (3, u "([CII)[B"), (138, u "coderFromArrayLen"), (0, u "([BI)B"), (106, .class_ 371), (1, u "java/lang/StringUTF16$LinesSpliterator"), (58, u "MAX_LENGTH"), (196, .class_ 628), (0, u "java/lang/StringUTF16$CodePointsSpliterator"), (0, .class_ 630), (0, u "java/lang/StringUTF16$CharsSpliterator")] 4

def k11m0 : Method := { name := "<init>", desc := "()V", sig := { parameters := [], returnType := none }, accessFlags := 0, code := none }
def k11c1 : Code := { maxStack := 2, maxLocals := 2, code := jdk_52_method_15_code, exceptionTable := #[], attributes := #[] }
def k11m1 : Method := { name := "coderFromArrayLen", desc := "([BI)B", sig := { parameters := [(.array .byte), .int], returnType := some .byte }, accessFlags := 8, code := some k11c1 }
def k11c2 : Code := { maxStack := 5, maxLocals := 6, code := jdk_52_method_16_code, exceptionTable := #[], attributes := #[] }
def k11m2 : Method := { name := "compress", desc := "([CII)[B", sig := { parameters := [(.array .char), .int, .int], returnType := some (.array .byte) }, accessFlags := 9, code := some k11c2 }
def k11c3 : Code := { maxStack := 3, maxLocals := 7, code := jdk_52_method_21_code, exceptionTable := #[], attributes := #[] }
def k11m3 : Method := { name := "compress", desc := "([CI[BII)I", sig := { parameters := [(.array .char), .int, (.array .byte), .int, .int], returnType := some .int }, accessFlags := 9, code := some k11c3 }
/-- java/lang/StringUTF16 -/
def k11 : Class := { plain "java/lang/StringUTF16" (some 0) with
  accessFlags := 48
  interfaces := #[]
  cf := some (fileOf pool11 12 #[.nestMembers #[627, 629, 369]] #[{ accessFlags := 0, nameIndex := 9, descriptorIndex := 10, attributes := #[] }, { accessFlags := 8, nameIndex := 261, descriptorIndex := 262, attributes := #[] }, { accessFlags := 9, nameIndex := 117, descriptorIndex := 122, attributes := #[] }, { accessFlags := 9, nameIndex := 117, descriptorIndex := 118, attributes := #[] }] 48 6 #[] #[{ accessFlags := 26, nameIndex := 61, descriptorIndex := 62, attributes := #[] }, { accessFlags := 26, nameIndex := 65, descriptorIndex := 62, attributes := #[] }, { accessFlags := 24, nameIndex := 430, descriptorIndex := 62, attributes := #[] }, { accessFlags := 4120, nameIndex := 46, descriptorIndex := 47, attributes := #[] }])
  fields := #[{ name := "HI_BYTE_SHIFT", type := .int, accessFlags := 26, slot := 0, constantValue := 0 }, { name := "LO_BYTE_SHIFT", type := .int, accessFlags := 26, slot := 1, constantValue := 0 }, { name := "MAX_LENGTH", type := .int, accessFlags := 24, slot := 2, constantValue := 0 }, { name := "$assertionsDisabled", type := .boolean, accessFlags := 4120, slot := 3, constantValue := 0 }]
  methods := #[k11m0, k11m1, k11m2, k11m3]
  instanceTypes := #[]
  staticTypes := #[.int, .int, .int, .boolean]
  resolved := Array.replicate 635 none
  statics := none }

def pool12 : Array CpInfo := pool [(2, .class_ 4), (1, u "java/lang/Object"), (0, u "<init>"), (0, u "()V"), (17, .class_ 26), (1, u "jdk/internal/util/Preconditions"), (28, .class_ 56), (0, u "jdk/internal/util/Preconditions$4"), (57, .class_ 115), (0, u "jdk/internal/util/Preconditions$1"), (7, u "SIOOBE_FORMATTER"), (0, u "Ljava/util/function/BiFunction;"), (0, .class_ 126), (0, u "jdk/internal/util/Preconditions$2"), (3, u "AIOOBE_FORMATTER"), (0, .class_ 132), (0, u "jdk/internal/util/Preconditions$3"), (3, u "IOOBE_FORMATTER")] 57

def k12m0 : Method := { name := "<init>", desc := "()V", sig := { parameters := [], returnType := none }, accessFlags := 1, code := none }
/-- jdk/internal/util/Preconditions -/
def k12 : Class := { plain "jdk/internal/util/Preconditions" (some 0) with
  accessFlags := 33
  interfaces := #[]
  cf := some (fileOf pool12 24 #[.nestMembers #[55, 131, 125, 114]] #[{ accessFlags := 1, nameIndex := 5, descriptorIndex := 6, attributes := #[] }] 33 2 #[] #[{ accessFlags := 25, nameIndex := 123, descriptorIndex := 124, attributes := #[] }, { accessFlags := 25, nameIndex := 130, descriptorIndex := 124, attributes := #[] }, { accessFlags := 25, nameIndex := 136, descriptorIndex := 124, attributes := #[] }])
  fields := #[{ name := "SIOOBE_FORMATTER", type := (.object "java/util/function/BiFunction"), accessFlags := 25, slot := 0, constantValue := 0 }, { name := "AIOOBE_FORMATTER", type := (.object "java/util/function/BiFunction"), accessFlags := 25, slot := 1, constantValue := 0 }, { name := "IOOBE_FORMATTER", type := (.object "java/util/function/BiFunction"), accessFlags := 25, slot := 2, constantValue := 0 }]
  methods := #[k12m0]
  instanceTypes := #[]
  staticTypes := #[(.object "java/util/function/BiFunction"), (.object "java/util/function/BiFunction"), (.object "java/util/function/BiFunction")]
  resolved := Array.replicate 194 none
  statics := some 1 }

def pool13 : Array CpInfo := pool [(9, u "<init>"), (6, .class_ 18), (1, u "java/lang/Object"), (0, u "()V"), (1, .class_ 23), (1, u "jdk/internal/util/ArraysSupport"), (0, u "LOG2_ARRAY_LONG_INDEX_SCALE"), (0, u "I"), (2, u "U"), (0, u "Ljdk/internal/misc/Unsafe;"), (8, u "BIG_ENDIAN"), (0, u "Z"), (8, u "LOG2_BYTE_BIT_SIZE"), (4, u "LOG2_ARRAY_INT_INDEX_SCALE"), (54, u "JLA"), (0, u "Ljdk/internal/access/JavaLangAccess;"), (11, u "LOG2_ARRAY_BOOLEAN_INDEX_SCALE"), (9, u "LOG2_ARRAY_BYTE_INDEX_SCALE"), (5, u "LOG2_ARRAY_CHAR_INDEX_SCALE"), (5, u "LOG2_ARRAY_SHORT_INDEX_SCALE"), (18, u "LOG2_ARRAY_FLOAT_INDEX_SCALE"), (24, u "LOG2_ARRAY_DOUBLE_INDEX_SCALE"), (89, u "T_BOOLEAN"), (2, u "T_CHAR"), (1, u "T_FLOAT"), (1, u "T_DOUBLE"), (1, u "T_BYTE"), (1, u "T_SHORT"), (1, u "T_INT"), (1, u "T_LONG"), (1, u "SOFT_MAX_ARRAY_LENGTH")] 83

def k13m0 : Method := { name := "<init>", desc := "()V", sig := { parameters := [], returnType := none }, accessFlags := 2, code := none }
/-- jdk/internal/util/ArraysSupport -/
def k13 : Class := { plain "jdk/internal/util/ArraysSupport" (some 0) with
  accessFlags := 33
  interfaces := #[]
  cf := some (fileOf pool13 21 #[] #[{ accessFlags := 2, nameIndex := 9, descriptorIndex := 19, attributes := #[] }] 33 16 #[] #[{ accessFlags := 24, nameIndex := 28, descriptorIndex := 29, attributes := #[] }, { accessFlags := 26, nameIndex := 38, descriptorIndex := 39, attributes := #[] }, { accessFlags := 25, nameIndex := 121, descriptorIndex := 25, attributes := #[] }, { accessFlags := 25, nameIndex := 131, descriptorIndex := 25, attributes := #[] }, { accessFlags := 25, nameIndex := 137, descriptorIndex := 25, attributes := #[] }, { accessFlags := 25, nameIndex := 143, descriptorIndex := 25, attributes := #[] }, { accessFlags := 25, nameIndex := 53, descriptorIndex := 25, attributes := #[] }, { accessFlags := 25, nameIndex := 24, descriptorIndex := 25, attributes := #[] }, { accessFlags := 25, nameIndex := 162, descriptorIndex := 25, attributes := #[] }, { accessFlags := 25, nameIndex := 187, descriptorIndex := 25, attributes := #[] }, { accessFlags := 26, nameIndex := 48, descriptorIndex := 25, attributes := #[] }, { accessFlags := 25, nameIndex := 277, descriptorIndex := 25, attributes := #[] }, { accessFlags := 25, nameIndex := 280, descriptorIndex := 25, attributes := #[] }, { accessFlags := 25, nameIndex := 282, descriptorIndex := 25, attributes := #[] }, { accessFlags := 25, nameIndex := 284, descriptorIndex := 25, attributes := #[] }, { accessFlags := 25, nameIndex := 286, descriptorIndex := 25, attributes := #[] }, { accessFlags := 25, nameIndex := 288, descriptorIndex := 25, attributes := #[] }, { accessFlags := 25, nameIndex := 290, descriptorIndex := 25, attributes := #[] }, { accessFlags := 25, nameIndex := 292, descriptorIndex := 25, attributes := #[] }, { accessFlags := 26, nameIndex := 108, descriptorIndex := 109, attributes := #[] }, { accessFlags := 25, nameIndex := 294, descriptorIndex := 25, attributes := #[] }])
  fields := #[{ name := "U", type := (.object "jdk/internal/misc/Unsafe"), accessFlags := 24, slot := 0, constantValue := 0 }, { name := "BIG_ENDIAN", type := .boolean, accessFlags := 26, slot := 1, constantValue := 0 }, { name := "LOG2_ARRAY_BOOLEAN_INDEX_SCALE", type := .int, accessFlags := 25, slot := 2, constantValue := 0 }, { name := "LOG2_ARRAY_BYTE_INDEX_SCALE", type := .int, accessFlags := 25, slot := 3, constantValue := 0 }, { name := "LOG2_ARRAY_CHAR_INDEX_SCALE", type := .int, accessFlags := 25, slot := 4, constantValue := 0 }, { name := "LOG2_ARRAY_SHORT_INDEX_SCALE", type := .int, accessFlags := 25, slot := 5, constantValue := 0 }, { name := "LOG2_ARRAY_INT_INDEX_SCALE", type := .int, accessFlags := 25, slot := 6, constantValue := 0 }, { name := "LOG2_ARRAY_LONG_INDEX_SCALE", type := .int, accessFlags := 25, slot := 7, constantValue := 0 }, { name := "LOG2_ARRAY_FLOAT_INDEX_SCALE", type := .int, accessFlags := 25, slot := 8, constantValue := 0 }, { name := "LOG2_ARRAY_DOUBLE_INDEX_SCALE", type := .int, accessFlags := 25, slot := 9, constantValue := 0 }, { name := "LOG2_BYTE_BIT_SIZE", type := .int, accessFlags := 26, slot := 10, constantValue := 0 }, { name := "T_BOOLEAN", type := .int, accessFlags := 25, slot := 11, constantValue := 0 }, { name := "T_CHAR", type := .int, accessFlags := 25, slot := 12, constantValue := 0 }, { name := "T_FLOAT", type := .int, accessFlags := 25, slot := 13, constantValue := 0 }, { name := "T_DOUBLE", type := .int, accessFlags := 25, slot := 14, constantValue := 0 }, { name := "T_BYTE", type := .int, accessFlags := 25, slot := 15, constantValue := 0 }, { name := "T_SHORT", type := .int, accessFlags := 25, slot := 16, constantValue := 0 }, { name := "T_INT", type := .int, accessFlags := 25, slot := 17, constantValue := 0 }, { name := "T_LONG", type := .int, accessFlags := 25, slot := 18, constantValue := 0 }, { name := "JLA", type := (.object "jdk/internal/access/JavaLangAccess"), accessFlags := 26, slot := 19, constantValue := 0 }, { name := "SOFT_MAX_ARRAY_LENGTH", type := .int, accessFlags := 25, slot := 20, constantValue := 0 }]
  methods := #[k13m0]
  instanceTypes := #[]
  staticTypes := #[(.object "jdk/internal/misc/Unsafe"), .boolean, .int, .int, .int, .int, .int, .int, .int, .int, .int, .int, .int, .int, .int, .int, .int, .int, .int, (.object "jdk/internal/access/JavaLangAccess"), .int]
  resolved := Array.replicate 378 none
  statics := none }

def pool14 : Array CpInfo := pool [(1, u "java/lang/Cloneable"), (0, .class_ 1), (0, u "java/lang/Object"), (0, .class_ 3)] 3

/-- java/lang/Cloneable -/
def k14 : Class := { plain "java/lang/Cloneable" (some 0) with
  accessFlags := 1537
  interfaces := #[]
  cf := some (fileOf pool14 2 #[] #[] 1537 4 #[] #[])
  fields := #[]
  methods := #[]
  instanceTypes := #[]
  staticTypes := #[]
  resolved := Array.replicate 8 none
  statics := none }

/-- the primitive byte -/
def k15 : Class := { plain "byte" none with kind := .primitive 'B', accessFlags := 0x411 }
/-- [B -/
def k16 : Class := { plain "[B" (some 0) with kind := .array 15 .byte, interfaces := #[14, 2], accessFlags := 1041 }

/-- the primitive char -/
def k17 : Class := { plain "char" none with kind := .primitive 'C', accessFlags := 0x411 }
/-- [C -/
def k18 : Class := { plain "[C" (some 0) with kind := .array 17 .char, interfaces := #[14, 2], accessFlags := 1041 }

/-- the primitive int -/
def k19 : Class := { plain "int" none with kind := .primitive 'I', accessFlags := 0x411 }
/-- [I -/
def k20 : Class := { plain "[I" (some 0) with kind := .array 19 .int, interfaces := #[14, 2], accessFlags := 1041 }

def heap : Heap := #[{ cls := 7, slots := #[.long 0, .int 1, .null, .int 0, .null, .int 0, .int 0], vm := .statics 7 },
  { cls := 12, slots := #[.null, .null, .null], vm := .statics 12 }]
def classes : Array Class := #[k0, k1, k2, k3, k4, k5, k6, k7, k8, k9, k10, k11, k12, k13, k14, k15, k16, k17, k18, k19, k20]
def interned : List (Array UInt16 × Addr) := []
def slotsUsed : Nat := 10
def theMethod : MethodId := ⟨1, 1⟩
def args0 : Array Value := #[.int 0, .int 0, .int 0, .int 0]
def aboutOver (below : List Frame) : State where
  vm := { classes := classes, interned := interned.toArray }
  heap := heap
  slotsUsed := slotsUsed
  threads := #[{ frames := .invoking theMethod args0 :: below }]
def below0 : List Frame := [.native { method := ⟨0, 0⟩, args := #[] }]
def about1 : State := aboutOver below0
def p0 : Program := .bare "" "" ""
def e0 : Env := launch0.env 0 0 0
theorem w_frames : about1.frames = Frame.invoking theMethod args0 :: below0 := rfl
set_option maxRecDepth 65536 in
theorem w_args : argsFit about1.vm theMethod args0 = true := by decide +kernel
set_option maxRecDepth 65536 in
theorem w_heap : heapFits about1 = true := by decide +kernel
set_option maxRecDepth 65536 in
theorem w_runnable : about1.curStatus? = some .runnable := by decide +kernel
set_option maxRecDepth 65536 in
theorem w_alone : about1.alone = true := by decide +kernel
set_option maxRecDepth 65536 in
theorem w_named : about1.methodNamed? x = some theMethod := by decide +kernel
set_option maxRecDepth 65536 in
theorem w_hears : about1.hears theMethod below0 = true := by decide +kernel
set_option maxRecDepth 65536 in
theorem w_ripe : about1.ripe theMethod args0 below0 = true := by decide +kernel
theorem w_running : about1.status = .running := rfl
set_option maxRecDepth 65536 in
theorem w_room : about1.hasRoom e0.platform room_1 = true :=
  launch0.hasRoom_least _ room_1 (by decide +kernel) (by decide +kernel) (by decide +kernel) (by decide +kernel) (by decide +kernel) (by decide +kernel)
theorem allAtoms_all (ts : List Jvm.Cond) (a : Array Jvm.Value) (st : Jvm.State) : (allAtoms ts).before a st = ts.all (fun c => c.before a st) := by
  induction ts with
  | nil => rfl
  | cons c t ih =>
    show (Jvm.Cond.and c (allAtoms t)).before a st = _
    rw [Jvm.Cond.before_and, ih, List.all_cons]
def words1 : List Jvm.Cond := Jvm.Cond.code x code maxLocals ret :: tables_1
/-- a 'code' word, met by the world's own term for the bytes: nothing is compared byte by byte -/
theorem code_word {y : MethodName} {bytes : ByteArray} {mx : Nat} {rt : Option FieldType} {a : Array Value} {s : State} {m : MethodId} {meth : Method} {c : Code} (h1 : s.methodNamed? y = some m) (h2 : s.vm.method? m = some meth) (h3 : meth.code = some c) (h4 : c.code = bytes)
    (h5 : (c.maxLocals == mx && c.exceptionTable.isEmpty && decide (c.maxStack ≤ mostOperands) && decide (meth.sig.returnType = rt) && !meth.locks && decide (parseMethodDescriptor y.desc = some meth.sig)) = true) : (Jvm.Cond.code y bytes mx rt).before a s = true := by
  simp only [Bool.and_eq_true, beq_iff_eq, Bool.not_eq_true', decide_eq_true_eq] at h5
  obtain ⟨⟨⟨⟨⟨g1, g2⟩, g3⟩, g4⟩, g5⟩, g6⟩ := h5
  simp [Cond.before, Cond.holds, Cond.value, h1, h2, h3, h4, g1, g2, g3, g4, g5, g6]
def isCode : Jvm.Cond → Bool
  | .code _ _ _ _ => true
  | _ => false
theorem all_split {L : List Jvm.Cond} {P : Jvm.Cond → Bool} (h1 : L.all (fun c => isCode c || P c) = true) (h2 : ∀ c ∈ L.filter isCode, P c = true) : L.all P = true := by
  refine List.all_eq_true.mpr fun c hc => ?_
  have h := List.all_eq_true.mp h1 c hc
  rcases Bool.eq_false_or_eq_true (isCode c) with hi | hi
  · exact h2 c (List.mem_filter.mpr ⟨hc, hi⟩)
  · simpa [hi] using h
set_option maxRecDepth 65536 in
theorem w_c0 : (Jvm.Cond.code x code maxLocals ret).before args0 about1 = true := code_word (m := ⟨1, 1⟩) (meth := k1m1) (c := k1c1) (by decide +kernel) rfl rfl rfl (by decide +kernel)
set_option maxRecDepth 65536 in
theorem w_c1 : (Jvm.Cond.code ({ cls := "java/lang/String", name := "valueOf", desc := "(C)Ljava/lang/String;" } : Jvm.MethodName) jdk_42_method_139_code (1 : Nat) (Option.some (Jvm.ClassFile.FieldType.object "java/lang/String"))).before args0 about1 = true := code_word (m := ⟨7, 4⟩) (meth := k7m4) (c := k7c4) (by decide +kernel) rfl rfl rfl (by decide +kernel)
set_option maxRecDepth 65536 in
theorem w_c2 : (Jvm.Cond.code ({ cls := "java/lang/StringLatin1", name := "canEncode", desc := "(C)Z" } : Jvm.MethodName) jdk_43_method_3_code (1 : Nat) (Option.some Jvm.ClassFile.FieldType.boolean)).before args0 about1 = true := code_word (m := ⟨8, 1⟩) (meth := k8m1) (c := k8c1) (by decide +kernel) rfl rfl rfl (by decide +kernel)
set_option maxRecDepth 65536 in
theorem w_c3 : (Jvm.Cond.code ({ cls := "java/lang/StringLatin1", name := "toBytes", desc := "(C)[B" } : Jvm.MethodName) jdk_43_method_46_code (1 : Nat) (Option.some (Jvm.ClassFile.FieldType.array Jvm.ClassFile.FieldType.byte))).before args0 about1 = true := code_word (m := ⟨8, 2⟩) (meth := k8m2) (c := k8c2) (by decide +kernel) rfl rfl rfl (by decide +kernel)
set_option maxRecDepth 65536 in
theorem w_c4 : (Jvm.Cond.code ({ cls := "java/lang/String", name := "<init>", desc := "([BB)V" } : Jvm.MethodName) jdk_42_method_151_code (3 : Nat) (Option.none : Option Jvm.ClassFile.FieldType)).before args0 about1 = true := code_word (m := ⟨7, 6⟩) (meth := k7m6) (c := k7c6) (by decide +kernel) rfl rfl rfl (by decide +kernel)
set_option maxRecDepth 65536 in
theorem w_c5 : (Jvm.Cond.code ({ cls := "java/lang/Object", name := "<init>", desc := "()V" } : Jvm.MethodName) object_method_1_code (1 : Nat) (Option.none : Option Jvm.ClassFile.FieldType)).before args0 about1 = true := code_word (m := ⟨0, 0⟩) (meth := k0m0) (c := k0c0) (by decide +kernel) rfl rfl rfl (by decide +kernel)
set_option maxRecDepth 65536 in
theorem w_c6 : (Jvm.Cond.code ({ cls := "com/example/lattice_warden/latticewarden/FlagItem", name := "named", desc := "(Ljava/lang/String;)Lcom/example/lattice_warden/latticewarden/FlagItem;" } : Jvm.MethodName) prog_7_method_2_code (1 : Nat) (Option.some (Jvm.ClassFile.FieldType.object "com/example/lattice_warden/latticewarden/FlagItem"))).before args0 about1 = true := code_word (m := ⟨9, 1⟩) (meth := k9m1) (c := k9c1) (by decide +kernel) rfl rfl rfl (by decide +kernel)
set_option maxRecDepth 65536 in
theorem w_c7 : (Jvm.Cond.code ({ cls := "java/util/Objects", name := "requireNonNull", desc := "(Ljava/lang/Object;Ljava/lang/String;)Ljava/lang/Object;" } : Jvm.MethodName) jdk_31_method_11_code (2 : Nat) (Option.some (Jvm.ClassFile.FieldType.object "java/lang/Object"))).before args0 about1 = true := code_word (m := ⟨10, 1⟩) (meth := k10m1) (c := k10c1) (by decide +kernel) rfl rfl rfl (by decide +kernel)
set_option maxRecDepth 65536 in
theorem w_c8 : (Jvm.Cond.code ({ cls := "com/example/lattice_warden/latticewarden/FlagItem", name := "<init>", desc := "(Ljava/lang/String;J)V" } : Jvm.MethodName) prog_7_method_1_code (4 : Nat) (Option.none : Option Jvm.ClassFile.FieldType)).before args0 about1 = true := code_word (m := ⟨9, 0⟩) (meth := k9m0) (c := k9c0) (by decide +kernel) rfl rfl rfl (by decide +kernel)
set_option maxRecDepth 65536 in
theorem w_c9 : (Jvm.Cond.code ({ cls := "com/example/lattice_warden/latticewarden/FlagItem", name := "name", desc := "()Ljava/lang/String;" } : Jvm.MethodName) prog_7_method_6_code (1 : Nat) (Option.some (Jvm.ClassFile.FieldType.object "java/lang/String"))).before args0 about1 = true := code_word (m := ⟨9, 3⟩) (meth := k9m3) (c := k9c3) (by decide +kernel) rfl rfl rfl (by decide +kernel)
set_option maxRecDepth 65536 in
theorem w_c10 : (Jvm.Cond.code ({ cls := "java/lang/String", name := "length", desc := "()I" } : Jvm.MethodName) jdk_42_method_54_code (1 : Nat) (Option.some Jvm.ClassFile.FieldType.int)).before args0 about1 = true := code_word (m := ⟨7, 2⟩) (meth := k7m2) (c := k7c2) (by decide +kernel) rfl rfl rfl (by decide +kernel)
set_option maxRecDepth 65536 in
theorem w_c11 : (Jvm.Cond.code ({ cls := "java/lang/String", name := "coder", desc := "()B" } : Jvm.MethodName) jdk_42_method_152_code (1 : Nat) (Option.some Jvm.ClassFile.FieldType.byte)).before args0 about1 = true := code_word (m := ⟨7, 7⟩) (meth := k7m7) (c := k7c7) (by decide +kernel) rfl rfl rfl (by decide +kernel)
set_option maxRecDepth 65536 in
theorem w_c12 : (Jvm.Cond.code ({ cls := "com/example/lattice_warden/latticewarden/FlagItem", name := "isNumber", desc := "()Z" } : Jvm.MethodName) prog_7_method_5_code (1 : Nat) (Option.some Jvm.ClassFile.FieldType.boolean)).before args0 about1 = true := code_word (m := ⟨9, 2⟩) (meth := k9m2) (c := k9c2) (by decide +kernel) rfl rfl rfl (by decide +kernel)
set_option maxRecDepth 65536 in
theorem w_c13 : (Jvm.Cond.code ({ cls := "com/example/lattice_warden/latticewarden/FlagItem", name := "number", desc := "()J" } : Jvm.MethodName) prog_7_method_7_code (1 : Nat) (Option.some Jvm.ClassFile.FieldType.long)).before args0 about1 = true := code_word (m := ⟨9, 4⟩) (meth := k9m4) (c := k9c4) (by decide +kernel) rfl rfl rfl (by decide +kernel)
set_option maxRecDepth 65536 in
theorem w_c14 : (Jvm.Cond.code ({ cls := "java/lang/String", name := "equals", desc := "(Ljava/lang/Object;)Z" } : Jvm.MethodName) jdk_42_method_66_code (3 : Nat) (Option.some Jvm.ClassFile.FieldType.boolean)).before args0 about1 = true := code_word (m := ⟨7, 3⟩) (meth := k7m3) (c := k7c3) (by decide +kernel) rfl rfl rfl (by decide +kernel)
set_option maxRecDepth 65536 in
theorem w_c15 : (Jvm.Cond.code ({ cls := "java/lang/String", name := "<init>", desc := "([C)V" } : Jvm.MethodName) jdk_42_method_3_code (2 : Nat) (Option.none : Option Jvm.ClassFile.FieldType)).before args0 about1 = true := code_word (m := ⟨7, 1⟩) (meth := k7m1) (c := k7c1) (by decide +kernel) rfl rfl rfl (by decide +kernel)
set_option maxRecDepth 65536 in
theorem w_c16 : (Jvm.Cond.code ({ cls := "java/lang/String", name := "<init>", desc := "([CIILjava/lang/Void;)V" } : Jvm.MethodName) jdk_42_method_149_code (6 : Nat) (Option.none : Option Jvm.ClassFile.FieldType)).before args0 about1 = true := code_word (m := ⟨7, 5⟩) (meth := k7m5) (c := k7c5) (by decide +kernel) rfl rfl rfl (by decide +kernel)
set_option maxRecDepth 65536 in
theorem w_c17 : (Jvm.Cond.code ({ cls := "java/lang/StringUTF16", name := "compress", desc := "([CII)[B" } : Jvm.MethodName) jdk_52_method_16_code (6 : Nat) (Option.some (Jvm.ClassFile.FieldType.array Jvm.ClassFile.FieldType.byte))).before args0 about1 = true := code_word (m := ⟨11, 2⟩) (meth := k11m2) (c := k11c2) (by decide +kernel) rfl rfl rfl (by decide +kernel)
set_option maxRecDepth 65536 in
theorem w_c18 : (Jvm.Cond.code ({ cls := "java/lang/StringUTF16", name := "compress", desc := "([CI[BII)I" } : Jvm.MethodName) jdk_52_method_21_code (7 : Nat) (Option.some Jvm.ClassFile.FieldType.int)).before args0 about1 = true := code_word (m := ⟨11, 3⟩) (meth := k11m3) (c := k11c3) (by decide +kernel) rfl rfl rfl (by decide +kernel)
set_option maxRecDepth 65536 in
theorem w_c19 : (Jvm.Cond.code ({ cls := "java/lang/StringUTF16", name := "coderFromArrayLen", desc := "([BI)B" } : Jvm.MethodName) jdk_52_method_15_code (2 : Nat) (Option.some Jvm.ClassFile.FieldType.byte)).before args0 about1 = true := code_word (m := ⟨11, 1⟩) (meth := k11m1) (c := k11c1) (by decide +kernel) rfl rfl rfl (by decide +kernel)
def codes1 : List Jvm.Cond := [Jvm.Cond.code x code maxLocals ret, Jvm.Cond.code ({ cls := "java/lang/String", name := "valueOf", desc := "(C)Ljava/lang/String;" } : Jvm.MethodName) jdk_42_method_139_code (1 : Nat) (Option.some (Jvm.ClassFile.FieldType.object "java/lang/String")), Jvm.Cond.code ({ cls := "java/lang/StringLatin1", name := "canEncode", desc := "(C)Z" } : Jvm.MethodName) jdk_43_method_3_code (1 : Nat) (Option.some Jvm.ClassFile.FieldType.boolean), Jvm.Cond.code ({ cls := "java/lang/StringLatin1", name := "toBytes", desc := "(C)[B" } : Jvm.MethodName) jdk_43_method_46_code (1 : Nat) (Option.some (Jvm.ClassFile.FieldType.array Jvm.ClassFile.FieldType.byte)), Jvm.Cond.code ({ cls := "java/lang/String", name := "<init>", desc := "([BB)V" } : Jvm.MethodName) jdk_42_method_151_code (3 : Nat) (Option.none : Option Jvm.ClassFile.FieldType), Jvm.Cond.code ({ cls := "java/lang/Object", name := "<init>", desc := "()V" } : Jvm.MethodName) object_method_1_code (1 : Nat) (Option.none : Option Jvm.ClassFile.FieldType), Jvm.Cond.code ({ cls := "com/example/lattice_warden/latticewarden/FlagItem", name := "named", desc := "(Ljava/lang/String;)Lcom/example/lattice_warden/latticewarden/FlagItem;" } : Jvm.MethodName) prog_7_method_2_code (1 : Nat) (Option.some (Jvm.ClassFile.FieldType.object "com/example/lattice_warden/latticewarden/FlagItem")), Jvm.Cond.code ({ cls := "java/util/Objects", name := "requireNonNull", desc := "(Ljava/lang/Object;Ljava/lang/String;)Ljava/lang/Object;" } : Jvm.MethodName) jdk_31_method_11_code (2 : Nat) (Option.some (Jvm.ClassFile.FieldType.object "java/lang/Object")), Jvm.Cond.code ({ cls := "com/example/lattice_warden/latticewarden/FlagItem", name := "<init>", desc := "(Ljava/lang/String;J)V" } : Jvm.MethodName) prog_7_method_1_code (4 : Nat) (Option.none : Option Jvm.ClassFile.FieldType), Jvm.Cond.code ({ cls := "com/example/lattice_warden/latticewarden/FlagItem", name := "name", desc := "()Ljava/lang/String;" } : Jvm.MethodName) prog_7_method_6_code (1 : Nat) (Option.some (Jvm.ClassFile.FieldType.object "java/lang/String")), Jvm.Cond.code ({ cls := "java/lang/String", name := "length", desc := "()I" } : Jvm.MethodName) jdk_42_method_54_code (1 : Nat) (Option.some Jvm.ClassFile.FieldType.int), Jvm.Cond.code ({ cls := "java/lang/String", name := "coder", desc := "()B" } : Jvm.MethodName) jdk_42_method_152_code (1 : Nat) (Option.some Jvm.ClassFile.FieldType.byte), Jvm.Cond.code ({ cls := "com/example/lattice_warden/latticewarden/FlagItem", name := "isNumber", desc := "()Z" } : Jvm.MethodName) prog_7_method_5_code (1 : Nat) (Option.some Jvm.ClassFile.FieldType.boolean), Jvm.Cond.code ({ cls := "com/example/lattice_warden/latticewarden/FlagItem", name := "number", desc := "()J" } : Jvm.MethodName) prog_7_method_7_code (1 : Nat) (Option.some Jvm.ClassFile.FieldType.long), Jvm.Cond.code ({ cls := "java/lang/String", name := "equals", desc := "(Ljava/lang/Object;)Z" } : Jvm.MethodName) jdk_42_method_66_code (3 : Nat) (Option.some Jvm.ClassFile.FieldType.boolean), Jvm.Cond.code ({ cls := "java/lang/String", name := "<init>", desc := "([C)V" } : Jvm.MethodName) jdk_42_method_3_code (2 : Nat) (Option.none : Option Jvm.ClassFile.FieldType), Jvm.Cond.code ({ cls := "java/lang/String", name := "<init>", desc := "([CIILjava/lang/Void;)V" } : Jvm.MethodName) jdk_42_method_149_code (6 : Nat) (Option.none : Option Jvm.ClassFile.FieldType), Jvm.Cond.code ({ cls := "java/lang/StringUTF16", name := "compress", desc := "([CII)[B" } : Jvm.MethodName) jdk_52_method_16_code (6 : Nat) (Option.some (Jvm.ClassFile.FieldType.array Jvm.ClassFile.FieldType.byte)), Jvm.Cond.code ({ cls := "java/lang/StringUTF16", name := "compress", desc := "([CI[BII)I" } : Jvm.MethodName) jdk_52_method_21_code (7 : Nat) (Option.some Jvm.ClassFile.FieldType.int), Jvm.Cond.code ({ cls := "java/lang/StringUTF16", name := "coderFromArrayLen", desc := "([BI)B" } : Jvm.MethodName) jdk_52_method_15_code (2 : Nat) (Option.some Jvm.ClassFile.FieldType.byte)]
set_option maxRecDepth 65536 in
theorem codes_eq : words1.filter isCode = codes1 := rfl
theorem w_codes : ∀ c ∈ words1.filter isCode, c.before args0 about1 = true := by
  rw [codes_eq]
  intro c hc
  simp only [codes1, List.mem_cons, List.not_mem_nil, or_false] at hc
  rcases hc with rfl | rfl | rfl | rfl | rfl | rfl | rfl | rfl | rfl | rfl | rfl | rfl | rfl | rfl | rfl | rfl | rfl | rfl | rfl | rfl
  · exact w_c0
  · exact w_c1
  · exact w_c2
  · exact w_c3
  · exact w_c4
  · exact w_c5
  · exact w_c6
  · exact w_c7
  · exact w_c8
  · exact w_c9
  · exact w_c10
  · exact w_c11
  · exact w_c12
  · exact w_c13
  · exact w_c14
  · exact w_c15
  · exact w_c16
  · exact w_c17
  · exact w_c18
  · exact w_c19
set_option maxRecDepth 65536 in
theorem w_t1 : (words1.take 24).all (fun c => isCode c || c.before args0 about1) = true := by decide +kernel
set_option maxRecDepth 65536 in
theorem w_t2 : ((words1.drop 24).take 24).all (fun c => isCode c || c.before args0 about1) = true := by decide +kernel
set_option maxRecDepth 65536 in
theorem w_t3 : (((words1.drop 24).drop 24).take 24).all (fun c => isCode c || c.before args0 about1) = true := by decide +kernel
set_option maxRecDepth 65536 in
theorem w_t4 : ((((words1.drop 24).drop 24).drop 24).take 24).all (fun c => isCode c || c.before args0 about1) = true := by decide +kernel
set_option maxRecDepth 65536 in
theorem w_t5 : ((((words1.drop 24).drop 24).drop 24).drop 24).all (fun c => isCode c || c.before args0 about1) = true := by decide +kernel
theorem w_tables : (allAtoms (Jvm.Cond.code x code maxLocals ret :: tables_1)).before args0 about1 = true := by
  rw [allAtoms_all]
  show words1.all (fun c => c.before args0 about1) = true
  refine all_split ?_ w_codes
  rw [← List.take_append_drop 24 words1, List.all_append, w_t1, ← List.take_append_drop 24 (words1.drop 24), List.all_append, w_t2, ← List.take_append_drop 24 ((words1.drop 24).drop 24), List.all_append, w_t3, ← List.take_append_drop 24 (((words1.drop 24).drop 24).drop 24), List.all_append, w_t4, w_t5]
  rfl
set_option maxRecDepth 65536 in
theorem w_rest : rest_1_c.before args0 about1 = true := by decide +kernel
set_option maxRecDepth 65536 in
theorem w_case : (Jvm.Cond.and given_1 narrow_1).before args0 about1 = true := by decide +kernel
set_option maxRecDepth 65536 in
theorem w_consts : constsHeld consts_1 about1 := Jvm.Lit.constsHeldB_iff.mp (by decide +kernel)
theorem w_applies : (headSpec (Jvm.Cond.code x code maxLocals ret :: tables_1) room_1).applies x e0.platform about1 = true :=
  (Spec.applies_iff w_frames).mpr ⟨w_running, w_runnable, w_alone, w_named, w_hears, w_ripe, w_room, w_tables⟩
theorem atStart : AtStart classFile x code maxLocals ret World_1 tables_1 room_1 Calls_1 rest_1 Pre_1 launch0 p0 e0 about1 theMethod args0 below0 :=
  ⟨lists_1, trivial, launch0.admits_env _ _ _, launch0.least_env, fairChoices_fair.cas, fairChoices_fair.clock, w_frames, w_args, w_heap, w_applies, ⟨w_consts, trivial⟩, w_rest, w_case⟩
end start1
theorem witness_1 : WitnessClaimed_1 := ⟨start1.p0, start1.e0, start1.about1, start1.theMethod, start1.args0, start1.below0, start1.atStart⟩
end Jvm.Pilot.@@N@@
