import JvmDerived
import JvmDerived.Pilot.@@N@@Statement
import JvmDerived.Pilot.@@N@@Code
set_option linter.unusedVariables false
set_option linter.unusedSimpArgs false
namespace Jvm.Pilot.@@N@@
open Jvm Jvm.ClassFile Sem Op Lib Jvm.Free Jvm.Stand Jvm.LawKit Jvm.RoadKit Bundle Jvm.Pilot.@@N@@.Jvm.D
/-! what is left of a run (own_Dn) and the steps towards it: a walk goes FORWARD, goal by goal, and may fork anywhere -/
section Own
variable {p : Program} {l : Launch} {e : Env} {R : Room} {s : State} {m : MethodId} {args : Array Value} {below : List Frame} {meth : Method} {c : Code} {T : State} {locs : List Loc} {cells slots : Nat} {Z : State} {a0 : Array Value} {h : Heap}
def own_Dn (p : Program) (e : Env) (below : List Frame) (G : State → Outcome → Prop) (A : State) : Prop :=
  ∃ s₂ o, Steps p.tables e below A s₂ ∧ s₂.status = .running ∧ Ended s₂ below o ∧ G s₂ o
abbrev own_Ret (s : State) (Q : Option Value → Heap → List Loc → Prop) (k n : Nat) : State → Outcome → Prop :=
  fun s₂ o => ∃ v L, o = .returned v ∧ Q v s₂.heap L ∧ FrameEnd s o s₂ L k n
theorem own_st {G : State → Outcome → Prop} {A B : State} (k : ∀ t, Steps p.tables e below B t → Steps p.tables e below A t) (d : own_Dn p e below G B) : own_Dn p e below G A := by
  obtain ⟨n, o, h1, h2⟩ := d
  exact ⟨n, o, k n h1, h2⟩
theorem own_to {G : State → Outcome → Prop} {A B : State} (k : Steps p.tables e below A B) (d : own_Dn p e below G B) : own_Dn p e below G A := by
  obtain ⟨n, o, h1, h2⟩ := d
  exact ⟨n, o, k.trans h1, h2⟩
theorem own_ret {Q : Option Value → Heap → List Loc → Prop} {v : Option Value} {k n : Nat} {g : JFrame} (X : Stand p l e R s m args below meth c T locs cells slots) (hlk : meth.locks = false) (hv : meth.sig.returnType = none → v = none)
    (hstep : ∀ fs, (∀ (f : JFrame) (acts : List Action), f.method = m → f.locked = none → f.entered = [] → (doReturn e (T.setTop f) acts v).1 = T.setFrames fs) → Steps p.tables e below (T.setTop g) (T.setFrames fs))
    (hQ : Q v T.heap locs) (hk : cells ≤ k) (hn : slots ≤ n) : own_Dn p e below (own_Ret s Q k n) (T.setTop g) := by
  obtain ⟨fs, hr, hrun, hended, hW, hsame⟩ := X.leave (v := v) hv hlk
  exact ⟨_, _, hstep fs hr, hrun, hended, v, locs, rfl, hQ, ⟨_, rfl⟩, hW, hsame.mono hk hn⟩
/-- a return of nothing -/
theorem own_retV {Q : Option Value → Heap → List Loc → Prop} {k n pc : Nat} {Ls : Array Slot} (X : Stand p l e R s m args below meth c T locs cells slots) (hx : p.tables.exec = Jvm.exec) (hlk : meth.locks = false) (hret : meth.sig.returnType = none)
    (hd : decode c.code pc = .ok (.return_, 1)) (hQ : Q none T.heap locs) (hk : cells ≤ k) (hn : slots ≤ n) : own_Dn p e below (own_Ret s Q k n) (T.setTop (mkF m pc Ls [])) :=
  own_ret X hlk (fun _ => rfl) (fun _ hr => X.returnOut hx hret hd hr) hQ hk hn
/-- a return of a value of the return type's kind -/
theorem own_retW {Q : Option Value → Heap → List Loc → Prop} {k n pc : Nat} {Ls : Array Slot} {w : Value} {t : FieldType} {i : Instr} {rest : List Value} (X : Stand p l e R s m args below meth c T locs cells slots) (hx : p.tables.exec = Jvm.exec) (hlk : meth.locks = false)
    (hret : meth.sig.returnType = some t) (hnr : narrow t w = w)
    (hi : (i = .ireturn ∧ (t = .int ∨ t = .boolean ∨ t = .byte ∨ t = .char ∨ t = .short) ∧ ∃ z, w = .int z) ∨ (i = .lreturn ∧ t = .long ∧ ∃ z, w = .long z) ∨ (i = .dreturn ∧ t = .double ∧ ∃ z, w = .double z) ∨ (i = .freturn ∧ t = .float ∧ ∃ z, w = .float z) ∨ (i = .areturn ∧ t.isReference = true ∧ w.isRef = true))
    (hd : decode c.code pc = .ok (i, 1)) (hQ : Q (some w) T.heap locs) (hk : cells ≤ k) (hn : slots ≤ n) : own_Dn p e below (own_Ret s Q k n) (T.setTop (mkF m pc Ls (w :: rest))) :=
  own_ret X hlk (fun h => by rw [hret] at h; cases h) (fun _ hr => retOut X hx hret hnr hi hd hr) hQ hk hn
theorem own_retI {Q : Option Value → Heap → List Loc → Prop} {k n pc : Nat} {Ls : Array Slot} {z : Int32} {rest : List Value} (X : Stand p l e R s m args below meth c T locs cells slots) (hx : p.tables.exec = Jvm.exec) (hlk : meth.locks = false)
    (hret : meth.sig.returnType = some .int) (hd : decode c.code pc = .ok (.ireturn, 1)) (hQ : Q (some (.int z)) T.heap locs) (hk : cells ≤ k) (hn : slots ≤ n) : own_Dn p e below (own_Ret s Q k n) (T.setTop (mkF m pc Ls (.int z :: rest))) :=
  own_retW X hx hlk hret rfl (Or.inl ⟨rfl, Or.inl rfl, z, rfl⟩) hd hQ hk hn
theorem own_retJ {Q : Option Value → Heap → List Loc → Prop} {k n pc : Nat} {Ls : Array Slot} {z : Int64} {rest : List Value} (X : Stand p l e R s m args below meth c T locs cells slots) (hx : p.tables.exec = Jvm.exec) (hlk : meth.locks = false)
    (hret : meth.sig.returnType = some .long) (hd : decode c.code pc = .ok (.lreturn, 1)) (hQ : Q (some (.long z)) T.heap locs) (hk : cells ≤ k) (hn : slots ≤ n) : own_Dn p e below (own_Ret s Q k n) (T.setTop (mkF m pc Ls (.long z :: rest))) :=
  own_retW X hx hlk hret rfl (Or.inr (Or.inl ⟨rfl, rfl, z, rfl⟩)) hd hQ hk hn
theorem own_retA {Q : Option Value → Heap → List Loc → Prop} {k n pc : Nat} {Ls : Array Slot} {a : Addr} {t : FieldType} {rest : List Value} (X : Stand p l e R s m args below meth c T locs cells slots) (hx : p.tables.exec = Jvm.exec) (hlk : meth.locks = false)
    (hret : meth.sig.returnType = some t) (ht : t.isReference = true) (hd : decode c.code pc = .ok (.areturn, 1)) (hQ : Q (some (.ref a)) T.heap locs) (hk : cells ≤ k) (hn : slots ≤ n) : own_Dn p e below (own_Ret s Q k n) (T.setTop (mkF m pc Ls (.ref a :: rest))) :=
  own_retW X hx hlk hret (by cases t <;> first | rfl | (simp [FieldType.isReference] at ht)) (Or.inr (Or.inr (Or.inr (Or.inr ⟨rfl, ht, rfl⟩)))) hd hQ hk hn
/-- a boolean, byte, char or short -/
theorem own_retN {Q : Option Value → Heap → List Loc → Prop} {k n pc : Nat} {Ls : Array Slot} {z : Int32} {t : FieldType} {rest : List Value} (X : Stand p l e R s m args below meth c T locs cells slots) (hx : p.tables.exec = Jvm.exec) (hlk : meth.locks = false)
    (hret : meth.sig.returnType = some t) (ht : t = .boolean ∨ t = .byte ∨ t = .char ∨ t = .short) (hd : decode c.code pc = .ok (.ireturn, 1)) (hQ : Q (some (.int (nar t z))) T.heap locs) (hk : cells ≤ k) (hn : slots ≤ n) : own_Dn p e below (own_Ret s Q k n) (T.setTop (mkF m pc Ls (.int z :: rest))) :=
  own_ret X hlk (fun h => by rw [hret] at h; cases h) (fun _ hr => retN X hx hret ht hd hr) hQ hk hn
/-- a static call by the callee's contract -/
theorem own_callS {rm : Room} {W : Nat} {as' : Array Value} {Q : Option Value → Heap → List Loc → Prop} {own : String} {index : Nat} {y : MethodName} {bytes : ByteArray} {maxL : Nat} {ret : Option FieldType} (X : Stand p l e R s m args below meth c T locs cells slots) (hx : p.tables.exec = Jvm.exec) (hZ : Z.Warmed39 s.vm)
    (hown : s.vm.findClass own = some m.cls) (w1 : (Cond.methodLink own index y).before a0 Z = true) (w2 : (Cond.static y).before a0 Z = true) (w3 : (Cond.initialized y.cls).before a0 Z = true) (w4 : (Cond.code y bytes maxL ret).before a0 Z = true) (hy : y.cls ≠ "java/lang/invoke/MethodHandle" ∧ y.cls ≠ "java/lang/invoke/VarHandle")
    (eT : T.heap = h) (hM : MetFree l y (head1 [Cond.code y bytes maxL ret] rm) (fun a U => a = as' ∧ Z.Warmed39 U.vm ∧ U.heap = h) (fun _ _ _ _ _ => True) (fun _ U o U' => ∃ v L, o = .returned v ∧ Q v U'.heap L ∧ FrameEnd U o U' L rm.cells rm.slots))
    {g : JFrame} (hg : g.method = m) (hsize : g.locals.size = c.maxLocals) {argsL rest : List Value} (hlen : ∀ sig, parseMethodDescriptor y.desc = some sig → argsL.length = sig.parameters.length) (hstack : g.stack = argsL.reverse ++ rest) (has : argsL.toArray = as') (hW : 2 * g.monitorRoom + (rest.map fun v => v.category).sum ≤ W)
    (hdg : decode c.code g.pc = .ok (.invokestatic index, 3)) (hf : rm.frames + 1 ≤ R.frames) (hl : W + (maxL + 11) + rm.locals ≤ R.locals) (hc : cells + rm.cells ≤ R.cells) (hsl : slots + rm.slots ≤ R.slots) :
    ∃ v T' L, Stand p l e R s m args below meth c T' (locs ++ L) (cells + rm.cells) (slots + rm.slots) ∧ Q v T'.heap L ∧
      ∀ t, Steps p.tables e below (T'.setTop { g with pc := g.pc + 3, stack := v.toList ++ rest }) t → Steps p.tables e below (T.setTop g) t := by
  obtain ⟨v, _, ⟨T', L, k', n'⟩, -, X', ⟨Lc, hQ, l1, l2, l3⟩, st⟩ := Jvm.LawKit.callS X hx hown (mvT hZ w1) (mvT hZ w2) (mvT hZ w3) (mvT hZ w4) hy (backOf (W := W) hM hZ w4 w3 hf hl) hg hsize hlen hstack hW hdg (fun _ _ => ⟨has, eT, hc, hsl⟩)
  dsimp only [Pt.U, Pt.locs, Pt.cells, Pt.slots] at X' l1 l2 l3 st hQ
  subst l1 l2 l3
  exact ⟨v, T', Lc, X', hQ, st⟩
/-- a constructor by its contract -/
theorem own_callN {rm : Room} {W : Nat} {as' : Array Value} {Q : Option Value → Heap → List Loc → Prop} {own : String} {index : Nat} {y : MethodName} {bytes : ByteArray} {maxL : Nat} (X : Stand p l e R s m args below meth c T locs cells slots) (hx : p.tables.exec = Jvm.exec) (hZ : Z.Warmed39 s.vm) (hy1 : y.name = "<init>")
    (hown : s.vm.findClass own = some m.cls) (w1 : (Cond.methodLink own index y).before a0 Z = true) (w2 : (Cond.instanceMethod y).before a0 Z = true) (w3 : (Cond.initialized y.cls).before a0 Z = true) (w4 : (Cond.code y bytes maxL none).before a0 Z = true) (hy : y.cls ≠ "java/lang/invoke/MethodHandle" ∧ y.cls ≠ "java/lang/invoke/VarHandle")
    (eT : T.heap = h) (hM : MetFree l y (head1 [Cond.code y bytes maxL none] rm) (fun a U => a = as' ∧ Z.Warmed39 U.vm ∧ U.heap = h) (fun _ _ _ _ _ => True) (fun _ U o U' => ∃ v L, o = .returned v ∧ Q v U'.heap L ∧ FrameEnd U o U' L rm.cells rm.slots))
    {g : JFrame} (hg : g.method = m) (hsize : g.locals.size = c.maxLocals) {a : Addr} {argsL rest : List Value} (hlen : ∀ sig, parseMethodDescriptor y.desc = some sig → argsL.length = sig.parameters.length) (hstack : g.stack = argsL.reverse ++ .ref a :: rest) (has : (.ref a :: argsL).toArray = as') (hW : 2 * g.monitorRoom + (rest.map fun v => v.category).sum ≤ W)
    (hdg : decode c.code g.pc = .ok (.invokespecial index, 3)) (hf : rm.frames + 1 ≤ R.frames) (hl : W + (maxL + 11) + rm.locals ≤ R.locals) (hc : cells + rm.cells ≤ R.cells) (hsl : slots + rm.slots ≤ R.slots) :
    ∃ v T' L, Stand p l e R s m args below meth c T' (locs ++ L) (cells + rm.cells) (slots + rm.slots) ∧ Q v T'.heap L ∧
      ∀ t, Steps p.tables e below (T'.setTop { g with pc := g.pc + 3, stack := v.toList ++ rest }) t → Steps p.tables e below (T.setTop g) t := by
  obtain ⟨v, _, ⟨T', L, k', n'⟩, -, X', ⟨Lc, hQ, l1, l2, l3⟩, st⟩ := X.specialBack hx hy1 hown (mvT hZ w1) (mvT hZ w2) (mvT hZ w4) hy (backOf (W := W) hM hZ w4 w3 hf hl) hg hsize (Steps.refl _) hlen hstack hW hdg (fun _ _ => ⟨has, eT, hc, hsl⟩)
  dsimp only [Pt.U, Pt.locs, Pt.cells, Pt.slots] at X' l1 l2 l3 st hQ
  subst l1 l2 l3
  exact ⟨v, T', Lc, X', hQ, fun t k => st.trans k⟩
/-- a constructor by a payer that is at hand -/
theorem own_callNK {mc ms W : Nat} {as' : Array Value} {Q : Option Value → Heap → List Loc → Prop} {own : String} {index : Nat} {y : MethodName} {bytes : ByteArray} {maxL : Nat} (X : Stand p l e R s m args below meth c T locs cells slots) (hx : p.tables.exec = Jvm.exec) (hZ : Z.Warmed39 s.vm) (hy1 : y.name = "<init>")
    (hown : s.vm.findClass own = some m.cls) (w1 : (Cond.methodLink own index y).before a0 Z = true) (w2 : (Cond.instanceMethod y).before a0 Z = true) (w4 : (Cond.code y bytes maxL none).before a0 Z = true) (hy : y.cls ≠ "java/lang/invoke/MethodHandle" ∧ y.cls ≠ "java/lang/invoke/VarHandle")
    (eT : T.heap = h) (hK : Back l R p e below s args y 3 W (fun A a => a = as' ∧ A.U.heap = h ∧ A.cells + mc ≤ R.cells ∧ A.slots + ms ≤ R.slots) (fun A _ v B => ∃ L, Q v B.U.heap L ∧ B.locs = A.locs ++ L ∧ B.cells = A.cells + mc ∧ B.slots = A.slots + ms))
    {g : JFrame} (hg : g.method = m) (hsize : g.locals.size = c.maxLocals) {a : Addr} {argsL rest : List Value} (hlen : ∀ sig, parseMethodDescriptor y.desc = some sig → argsL.length = sig.parameters.length) (hstack : g.stack = argsL.reverse ++ .ref a :: rest) (has : (.ref a :: argsL).toArray = as') (hW : 2 * g.monitorRoom + (rest.map fun v => v.category).sum ≤ W)
    (hdg : decode c.code g.pc = .ok (.invokespecial index, 3)) (hc : cells + mc ≤ R.cells) (hsl : slots + ms ≤ R.slots) :
    ∃ v T' L, Stand p l e R s m args below meth c T' (locs ++ L) (cells + mc) (slots + ms) ∧ Q v T'.heap L ∧
      ∀ t, Steps p.tables e below (T'.setTop { g with pc := g.pc + 3, stack := v.toList ++ rest }) t → Steps p.tables e below (T.setTop g) t := by
  obtain ⟨v, _, ⟨T', L, k', n'⟩, -, X', ⟨Lc, hQ, l1, l2, l3⟩, st⟩ := X.specialBack hx hy1 hown (mvT hZ w1) (mvT hZ w2) (mvT hZ w4) hy hK hg hsize (Steps.refl _) hlen hstack hW hdg (fun _ _ => ⟨has, eT, hc, hsl⟩)
  dsimp only [Pt.U, Pt.locs, Pt.cells, Pt.slots] at X' l1 l2 l3 st hQ
  subst l1 l2 l3
  exact ⟨v, T', Lc, X', hQ, fun t k => st.trans k⟩
/-- a virtual call by the contract of the method that is selected (declared by a class, the receiver exactly of the class C) -/
theorem own_callV {rm : Room} {W : Nat} {as' : Array Value} {Q : Option Value → Heap → List Loc → Prop} {own C : String} {index : Nat} {y z : MethodName} {bytes : ByteArray} {maxL : Nat} {ret : Option FieldType} (X : Stand p l e R s m args below meth c T locs cells slots) (hx : p.tables.exec = Jvm.exec) (hZ : Z.Warmed39 s.vm)
    (hown : s.vm.findClass own = some m.cls) (w1 : (Cond.methodLink own index y).before a0 Z = true) (w2 : (Cond.declares y).before a0 Z = true) (hnf : NotFace s y) (w5 : (Cond.selects C y z).before a0 Z = true) (w6 : (Cond.instanceMethod z).before a0 Z = true) (w3 : (Cond.initialized z.cls).before a0 Z = true) (w4 : (Cond.code z bytes maxL ret).before a0 Z = true) (hy : y.cls ≠ "java/lang/invoke/MethodHandle" ∧ y.cls ≠ "java/lang/invoke/VarHandle")
    (eT : T.heap = h) (hM : MetFree l z (head1 [Cond.code z bytes maxL ret] rm) (fun a U => a = as' ∧ Z.Warmed39 U.vm ∧ U.heap = h) (fun _ _ _ _ _ => True) (fun _ U o U' => ∃ v L, o = .returned v ∧ Q v U'.heap L ∧ FrameEnd U o U' L rm.cells rm.slots))
    {a : Addr} (E : Exa Z h a C) {g : JFrame} (hg : g.method = m) (hsize : g.locals.size = c.maxLocals) {argsL rest : List Value} (hlen : ∀ sig, parseMethodDescriptor y.desc = some sig → argsL.length = sig.parameters.length) (hstack : g.stack = argsL.reverse ++ .ref a :: rest) (has : (.ref a :: argsL).toArray = as') (hW : 2 * g.monitorRoom + (rest.map fun v => v.category).sum ≤ W)
    (hdg : decode c.code g.pc = .ok (.invokevirtual index, 3)) (hf : rm.frames + 1 ≤ R.frames) (hl : W + (maxL + 11) + rm.locals ≤ R.locals) (hc : cells + rm.cells ≤ R.cells) (hsl : slots + rm.slots ≤ R.slots) :
    ∃ v T' L, Stand p l e R s m args below meth c T' (locs ++ L) (cells + rm.cells) (slots + rm.slots) ∧ Q v T'.heap L ∧
      ∀ t, Steps p.tables e below (T'.setTop { g with pc := g.pc + 3, stack := v.toList ++ rest }) t → Steps p.tables e below (T.setTop g) t := by
  obtain ⟨cq, kq, qa, qb, qc⟩ := isOf hZ eT E
  obtain ⟨v, _, ⟨T', L, k', n'⟩, -, X', ⟨Lc, hQ, l1, l2, l3⟩, st⟩ := X.virtualBack hx hown (mvT hZ w1) (mvT hZ w2) hnf (mvT hZ w5) (mvT hZ w6) hy (backOf (W := W) hM hZ w4 w3 hf hl) qa qc hg hsize (Steps.refl _) hlen hstack hW hdg (fun _ _ => ⟨has, eT, hc, hsl⟩)
  dsimp only [Pt.U, Pt.locs, Pt.cells, Pt.slots] at X' l1 l2 l3 st hQ
  subst l1 l2 l3
  exact ⟨v, T', Lc, X', hQ, fun t k => st.trans k⟩
/-- a virtual call of a method that the named class inherits from 'owner' -/
theorem own_callU {rm : Room} {W : Nat} {as' : Array Value} {Q : Option Value → Heap → List Loc → Prop} {own C owner : String} {index : Nat} {y z : MethodName} {bytes : ByteArray} {maxL : Nat} {ret : Option FieldType} (X : Stand p l e R s m args below meth c T locs cells slots) (hx : p.tables.exec = Jvm.exec) (hZ : Z.Warmed39 s.vm)
    (hown : s.vm.findClass own = some m.cls) (w1 : (Cond.methodLink own index y).before a0 Z = true) (w2 : (Cond.sameMethod y.cls owner y.name y.desc).before a0 Z = true) (w7 : (Cond.declares ⟨owner, y.name, y.desc⟩).before a0 Z = true) (ho : owner ≠ "java/lang/invoke/MethodHandle" ∧ owner ≠ "java/lang/invoke/VarHandle") (w5 : (Cond.selects C y z).before a0 Z = true) (w6 : (Cond.instanceMethod z).before a0 Z = true) (w3 : (Cond.initialized z.cls).before a0 Z = true) (w4 : (Cond.code z bytes maxL ret).before a0 Z = true)
    (eT : T.heap = h) (hM : MetFree l z (head1 [Cond.code z bytes maxL ret] rm) (fun a U => a = as' ∧ Z.Warmed39 U.vm ∧ U.heap = h) (fun _ _ _ _ _ => True) (fun _ U o U' => ∃ v L, o = .returned v ∧ Q v U'.heap L ∧ FrameEnd U o U' L rm.cells rm.slots))
    {a : Addr} (E : Exa Z h a C) {g : JFrame} (hg : g.method = m) (hsize : g.locals.size = c.maxLocals) {argsL rest : List Value} (hlen : ∀ sig, parseMethodDescriptor y.desc = some sig → argsL.length = sig.parameters.length) (hstack : g.stack = argsL.reverse ++ .ref a :: rest) (has : (.ref a :: argsL).toArray = as') (hW : 2 * g.monitorRoom + (rest.map fun v => v.category).sum ≤ W)
    (hdg : decode c.code g.pc = .ok (.invokevirtual index, 3)) (hf : rm.frames + 1 ≤ R.frames) (hl : W + (maxL + 11) + rm.locals ≤ R.locals) (hc : cells + rm.cells ≤ R.cells) (hsl : slots + rm.slots ≤ R.slots) :
    ∃ v T' L, Stand p l e R s m args below meth c T' (locs ++ L) (cells + rm.cells) (slots + rm.slots) ∧ Q v T'.heap L ∧
      ∀ t, Steps p.tables e below (T'.setTop { g with pc := g.pc + 3, stack := v.toList ++ rest }) t → Steps p.tables e below (T.setTop g) t := by
  obtain ⟨cq, kq, qa, qb, qc⟩ := isOf hZ eT E
  obtain ⟨v, _, ⟨T', L, k', n'⟩, -, X', ⟨Lc, hQ, l1, l2, l3⟩, st⟩ := X.virtualBackUp hx hown (mvT hZ w1) (mvT hZ w2) (mvT hZ w7) ho (mvT hZ w5) (mvT hZ w6) (backOf (W := W) hM hZ w4 w3 hf hl) qa qc hg hsize (Steps.refl _) hlen hstack hW hdg (fun _ _ => ⟨has, eT, hc, hsl⟩)
  dsimp only [Pt.U, Pt.locs, Pt.cells, Pt.slots] at X' l1 l2 l3 st hQ
  subst l1 l2 l3
  exact ⟨v, T', Lc, X', hQ, fun t k => st.trans k⟩
theorem own_lrem {g : JFrame} {target : State} (X : Stand p l e R s m args below meth c T locs cells slots) (hx : p.tables.exec = Jvm.exec) (hg : g.method = m) {x y : Int64} {rest : List Value} (hd : decode c.code g.pc = .ok (.lrem, 1)) (hs : g.stack = .long y :: .long x :: rest) (hy : y ≠ 0)
    (hr : Steps p.tables e below (T.setTop { g with pc := g.pc + 1, stack := .long (x % y) :: rest }) target) : Steps p.tables e below (T.setTop g) target :=
  XS.lrem X.here hx hg hd hs hy (by rw [lrem_mod]; exact hr)
end Own
/-! ints as integers -/
theorem own_tL {x y : Int32} (h : x < y) : x.toInt < y.toInt := Int32.lt_iff_toInt_lt.mp h
theorem own_tLn {x y : Int32} (h : ¬ x < y) : ¬ x.toInt < y.toInt := fun q => h (Int32.lt_iff_toInt_lt.mpr q)
theorem own_tE {x y : Int32} (h : x = y) : x.toInt = y.toInt := congrArg _ h
theorem own_tEn {x y : Int32} (h : ¬ x = y) : ¬ x.toInt = y.toInt := fun q => h (Int32.toInt_inj.mp q)
theorem own_uL {x y : Int64} (h : x < y) : x.toInt < y.toInt := Int64.lt_iff_toInt_lt.mp h
theorem own_uLn {x y : Int64} (h : ¬ x < y) : ¬ x.toInt < y.toInt := fun q => h (Int64.lt_iff_toInt_lt.mpr q)
theorem own_uE {x y : Int64} (h : x = y) : x.toInt = y.toInt := congrArg _ h
theorem own_uEn {x y : Int64} (h : ¬ x = y) : ¬ x.toInt = y.toInt := fun q => h (Int64.toInt_inj.mp q)
/-! an array by its values: n places, place i holds f i -/
section OwnArr
variable {p : Program} {l : Launch} {e : Env} {R : Room} {s : State} {m : MethodId} {args : Array Value} {below : List Frame} {meth : Method} {c : Code} {T : State} {locs : List Loc} {cells slots : Nat} {Z : State} {a0 : Array Value} {h h' : Heap} {a b : Addr} {ty : FieldType} {n sl : Nat} {f : Nat → Value} {v : Value} {ws : List Addr}
def own_AV (Z : State) (h : Heap) (a : Addr) (ty : FieldType) (n : Nat) (f : Nat → Value) : Prop := ∃ cl : Cell, Arr Z h a cl ty ∧ cl.slots.size = n ∧ ∀ i, i < n → cl.slots[i]? = some (f i)
theorem own_AV.new {k : ClassId} {z : Int32} (A : Arr Z h a (newA k ty z) ty) (hn : z.toNatClampNeg = n) : own_AV Z h a ty n (fun _ => defaultValue ty) := by
  subst hn
  exact ⟨_, A, sz_new _ _ _, fun i hi => by simp [newA, hi]⟩
theorem own_AV.ext (F : own_AV Z h a ty n f) (E : Ext h h') : own_AV Z h' a ty n f := by
  obtain ⟨cl, A, r⟩ := F
  exact ⟨cl, A.ext E, r⟩
theorem own_AV.other (F : own_AV Z h b ty n f) (W : Wr h h' a sl v) (q : b ≠ a) : own_AV Z h' b ty n f := by
  obtain ⟨cl, A, r⟩ := F
  exact ⟨cl, A.other W q, r⟩
theorem own_AV.lt (F : own_AV Z h a ty n f) : a < h.size := by
  obtain ⟨cl, A, r⟩ := F
  exact A.lt
theorem own_AV.same {i : Nat} (F : own_AV Z h a ty n f) (W : Wr h h' a i v) (hi : i < n) : own_AV Z h' a ty n (fun k => if k = i then v else f k) := by
  obtain ⟨cl, A, S, H⟩ := F
  refine ⟨_, A.same W, (sz_set _ _ _).trans S, fun k hk => ?_⟩
  by_cases q : k = i
  · subst q
    simp [Cell.setSlot, S, hk]
  · simp only [Cell.setSlot, if_neg q]
    rw [Array.getElem?_setIfInBounds_ne (Ne.symm q)]
    exact H k hk
theorem own_AV.congr {f' : Nat → Value} (F : own_AV Z h a ty n f) (q : ∀ i, i < n → f i = f' i) : own_AV Z h a ty n f' := by
  obtain ⟨cl, A, S, H⟩ := F
  exact ⟨cl, A, S, fun i hi => (H i hi).trans (congrArg some (q i hi))⟩
theorem own_AV.keep (F : own_AV Z h a ty n f) (K : Keep h h' ws) (q : a ∉ ws) : own_AV Z h' a ty n f := by
  obtain ⟨cl, A, r⟩ := F
  exact ⟨cl, ⟨K.2.1 _ _ A.1 q, A.2⟩, r⟩
theorem own_AV.arv {z : Int32} {vs : List Value} {d : Value} (F : own_AV Z h a ty n f) (hz : z.toNatClampNeg = n) (h0 : ¬ z < 0) (hv : ∀ i, i < n → vs.getD i d = f i) (hf : ∀ i, i < n → fits ty (f i) = true) : ∃ k, Arv Z h a k ty z vs d := by
  obtain ⟨cl, A, S, H⟩ := F
  refine ⟨cl.cls, cl, A, rfl, S.trans hz.symm, h0, fun i hi => ?_, fun i hi => ?_⟩
  · rw [hv i (S ▸ hi)]
    exact H i (S ▸ hi)
  · rw [hv i (S ▸ hi)]
    exact hf i (S ▸ hi)
theorem own_AV.of_arv {k : ClassId} {z : Int32} {vs : List Value} {d : Value} (F : Arv Z h a k ty z vs d) (hz : z.toNatClampNeg = n) : own_AV Z h a ty n (fun i => vs.getD i d) := by
  obtain ⟨cl, A, -, S, -, H, -⟩ := F
  exact ⟨cl, A, S.trans hz, fun i hi => H i (by rw [S, hz]; exact hi)⟩
theorem own_inb {cl : Cell} {j : Int32} {i : Nat} (S : cl.slots.size = n) (hj : j.toNatClampNeg = i) (h0 : ¬ j < 0) (hi : i < n) : ¬ (j < 0 ∨ cl.slots.size ≤ j.toNatClampNeg) := by
  rintro (q | q)
  · exact h0 q
  · rw [S, hj] at q
    omega
theorem own_caload (X : Stand p l e R s m args below meth c T locs cells slots) (hx : p.tables.exec = Jvm.exec) (hZ : Z.Warmed39 s.vm) (eT : T.heap = h) (F : own_AV Z h a .char n f) {j : Int32} {i : Nat} (hj : j.toNatClampNeg = i) (h0 : ¬ j < 0) (hi : i < n) {g : JFrame} (hg : g.method = m) {rest : List Value} (hs : g.stack = .int j :: .ref a :: rest) (hd : decode c.code g.pc = .ok (.caload, 1)) :
    ∀ t, Steps p.tables e below (T.setTop { g with pc := g.pc + 1, stack := f i :: rest }) t → Steps p.tables e below (T.setTop g) t := by
  obtain ⟨cl, A, S, H⟩ := F
  exact fun t k => X.caload hx (by rw [eT]; exact A.1) (State.isArrayOf_alike hZ.alike A.2.1) A.2.2 (own_inb S hj h0 hi) (by rw [hj]; exact H i hi) hg hs hd t k
theorem own_iaload (X : Stand p l e R s m args below meth c T locs cells slots) (hx : p.tables.exec = Jvm.exec) (hZ : Z.Warmed39 s.vm) (eT : T.heap = h) (F : own_AV Z h a .int n f) {j : Int32} {i : Nat} (hj : j.toNatClampNeg = i) (h0 : ¬ j < 0) (hi : i < n) {g : JFrame} (hg : g.method = m) {rest : List Value} (hs : g.stack = .int j :: .ref a :: rest) (hd : decode c.code g.pc = .ok (.iaload, 1)) :
    ∀ t, Steps p.tables e below (T.setTop { g with pc := g.pc + 1, stack := f i :: rest }) t → Steps p.tables e below (T.setTop g) t := by
  obtain ⟨cl, A, S, H⟩ := F
  exact fun t k => X.iaload hx (by rw [eT]; exact A.1) (State.isArrayOf_alike hZ.alike A.2.1) A.2.2 (own_inb S hj h0 hi) (by rw [hj]; exact H i hi) hg hs hd t k
theorem own_laload (X : Stand p l e R s m args below meth c T locs cells slots) (hx : p.tables.exec = Jvm.exec) (hZ : Z.Warmed39 s.vm) (eT : T.heap = h) (F : own_AV Z h a .long n f) {j : Int32} {i : Nat} (hj : j.toNatClampNeg = i) (h0 : ¬ j < 0) (hi : i < n) {g : JFrame} (hg : g.method = m) {rest : List Value} (hs : g.stack = .int j :: .ref a :: rest) (hd : decode c.code g.pc = .ok (.laload, 1)) :
    ∀ t, Steps p.tables e below (T.setTop { g with pc := g.pc + 1, stack := f i :: rest }) t → Steps p.tables e below (T.setTop g) t := by
  obtain ⟨cl, A, S, H⟩ := F
  exact fun t k => X.laload hx (by rw [eT]; exact A.1) (State.isArrayOf_alike hZ.alike A.2.1) A.2.2 (own_inb S hj h0 hi) (by rw [hj]; exact H i hi) hg hs hd t k
theorem own_baload (X : Stand p l e R s m args below meth c T locs cells slots) (hx : p.tables.exec = Jvm.exec) (hZ : Z.Warmed39 s.vm) (eT : T.heap = h) (F : own_AV Z h a .byte n f) {j : Int32} {i : Nat} (hj : j.toNatClampNeg = i) (h0 : ¬ j < 0) (hi : i < n) {g : JFrame} (hg : g.method = m) {rest : List Value} (hs : g.stack = .int j :: .ref a :: rest) (hd : decode c.code g.pc = .ok (.baload, 1)) :
    ∀ t, Steps p.tables e below (T.setTop { g with pc := g.pc + 1, stack := f i :: rest }) t → Steps p.tables e below (T.setTop g) t := by
  obtain ⟨cl, A, S, H⟩ := F
  exact fun t k => X.baloadBytes hx (by rw [eT]; exact A.1) (State.isArrayOf_alike hZ.alike A.2.1) A.2.2 (own_inb S hj h0 hi) (by rw [hj]; exact H i hi) hg hs hd t k
theorem own_alen (X : Stand p l e R s m args below meth c T locs cells slots) (hx : p.tables.exec = Jvm.exec) (hZ : Z.Warmed39 s.vm) (eT : T.heap = h) (F : own_AV Z h a ty n f) {z : Int32} (hz : n.toInt32 = z) {g : JFrame} (hg : g.method = m) {rest : List Value} (hs : g.stack = .ref a :: rest) (hd : decode c.code g.pc = .ok (.arraylength, 1)) :
    ∀ t, Steps p.tables e below (T.setTop { g with pc := g.pc + 1, stack := .int z :: rest }) t → Steps p.tables e below (T.setTop g) t := by
  obtain ⟨cl, A, S, H⟩ := F
  refine fun t k => X.arraylength hx (by rw [eT]; exact A.1) (State.isArrayOf_alike hZ.alike A.2.1) hg hs hd t ?_
  rw [S, hz]
  exact k
theorem own_stI (X : Stand p l e R s m args below meth c T locs cells slots) (hx : p.tables.exec = Jvm.exec) (hZ : Z.Warmed39 s.vm) (eT : T.heap = h) (F : own_AV Z h a .int n f) {j x : Int32} {i : Nat} (hj : j.toNatClampNeg = i) (h0 : ¬ j < 0) (hi : i < n) {g : JFrame} (hg : g.method = m) {rest : List Value} (hs : g.stack = .int x :: .int j :: .ref a :: rest) (hd : decode c.code g.pc = .ok (.iastore, 1)) :
    ∃ T' h', Stand p l e R s m args below meth c T' (locs ++ [⟨a, i⟩]) cells slots ∧ T'.heap = h' ∧ Wr h h' a i (.int x) ∧ own_AV Z h' a .int n (fun k => if k = i then .int x else f k) ∧ ∀ target, Steps p.tables e below (T'.setTop { g with pc := g.pc + 1, stack := rest }) target → Steps p.tables e below (T.setTop g) target := by
  obtain ⟨cl, A, S, H⟩ := F
  subst hj
  obtain ⟨T', h', X', e', W, st⟩ := stI X hx hZ eT A (own_inb S rfl h0 hi) hg hs hd
  exact ⟨T', h', X', e', W, own_AV.same ⟨cl, A, S, H⟩ W hi, st⟩
theorem own_stJ (X : Stand p l e R s m args below meth c T locs cells slots) (hx : p.tables.exec = Jvm.exec) (hZ : Z.Warmed39 s.vm) (eT : T.heap = h) (F : own_AV Z h a .long n f) {j : Int32} {x : Int64} {i : Nat} (hj : j.toNatClampNeg = i) (h0 : ¬ j < 0) (hi : i < n) {g : JFrame} (hg : g.method = m) {rest : List Value} (hs : g.stack = .long x :: .int j :: .ref a :: rest) (hd : decode c.code g.pc = .ok (.lastore, 1)) :
    ∃ T' h', Stand p l e R s m args below meth c T' (locs ++ [⟨a, i⟩]) cells slots ∧ T'.heap = h' ∧ Wr h h' a i (.long x) ∧ own_AV Z h' a .long n (fun k => if k = i then .long x else f k) ∧ ∀ target, Steps p.tables e below (T'.setTop { g with pc := g.pc + 1, stack := rest }) target → Steps p.tables e below (T.setTop g) target := by
  obtain ⟨cl, A, S, H⟩ := F
  subst hj
  obtain ⟨T', h', X', e', W, st⟩ := stJ X hx hZ eT A (own_inb S rfl h0 hi) hg hs hd
  exact ⟨T', h', X', e', W, own_AV.same ⟨cl, A, S, H⟩ W hi, st⟩
theorem own_stC (X : Stand p l e R s m args below meth c T locs cells slots) (hx : p.tables.exec = Jvm.exec) (hZ : Z.Warmed39 s.vm) (eT : T.heap = h) (F : own_AV Z h a .char n f) {j x : Int32} {i : Nat} (hj : j.toNatClampNeg = i) (h0 : ¬ j < 0) (hi : i < n) {g : JFrame} (hg : g.method = m) {rest : List Value} (hs : g.stack = .int x :: .int j :: .ref a :: rest) (hd : decode c.code g.pc = .ok (.castore, 1)) :
    ∃ T' h', Stand p l e R s m args below meth c T' (locs ++ [⟨a, i⟩]) cells slots ∧ T'.heap = h' ∧ Wr h h' a i (.int (nar .char x)) ∧ own_AV Z h' a .char n (fun k => if k = i then .int (nar .char x) else f k) ∧ ∀ target, Steps p.tables e below (T'.setTop { g with pc := g.pc + 1, stack := rest }) target → Steps p.tables e below (T.setTop g) target := by
  obtain ⟨cl, A, S, H⟩ := F
  subst hj
  obtain ⟨T', h', X', e', W, st⟩ := stC X hx hZ eT A (own_inb S rfl h0 hi) hg hs hd
  exact ⟨T', h', X', e', W, own_AV.same ⟨cl, A, S, H⟩ W hi, st⟩
theorem own_stB (X : Stand p l e R s m args below meth c T locs cells slots) (hx : p.tables.exec = Jvm.exec) (hZ : Z.Warmed39 s.vm) (eT : T.heap = h) (F : own_AV Z h a .byte n f) {j x : Int32} {i : Nat} (hj : j.toNatClampNeg = i) (h0 : ¬ j < 0) (hi : i < n) {g : JFrame} (hg : g.method = m) {rest : List Value} (hs : g.stack = .int x :: .int j :: .ref a :: rest) (hd : decode c.code g.pc = .ok (.bastore, 1)) :
    ∃ T' h', Stand p l e R s m args below meth c T' (locs ++ [⟨a, i⟩]) cells slots ∧ T'.heap = h' ∧ Wr h h' a i (.int (nar .byte x)) ∧ own_AV Z h' a .byte n (fun k => if k = i then .int (nar .byte x) else f k) ∧ ∀ target, Steps p.tables e below (T'.setTop { g with pc := g.pc + 1, stack := rest }) target → Steps p.tables e below (T.setTop g) target := by
  obtain ⟨cl, A, S, H⟩ := F
  subst hj
  obtain ⟨T', h', X', e', W, st⟩ := stB X hx hZ eT A (own_inb S rfl h0 hi) hg hs hd
  exact ⟨T', h', X', e', W, own_AV.same ⟨cl, A, S, H⟩ W hi, st⟩
end OwnArr
def own_bz (n : Int) : Int32 := if n = 65 then 0 else if n = 67 then 1 else if n = 71 then 2 else if n = 84 then 3 else if n = 97 then 0 else if n = 99 then 1 else if n = 103 then 2 else if n = 116 then 3 else -1
theorem own_miss {x k : Int32} {n : Int} (h : ¬ x = k) (hk : k.toInt = n) : n ≠ x.toInt := fun e => h (Int32.toInt_inj.mp (e.symm.trans hk.symm))
def own_Q1 (p1 : Int32) (h0 : Heap) (v : Option Value) (h : Heap) (L : List Loc) : Prop := v = some (.int (own_bz p1.toInt)) ∧ L = [] ∧ h = h0
theorem d1_0 : decode prog_42_method_5_code 0 = .ok (.iload_n 0, 1) := by decide +kernel
theorem d1_1 : decode prog_42_method_5_code 1 = .ok (.lookupswitch 91 #[(65, 75), (67, 79), (71, 83), (84, 87), (97, 75), (99, 79), (103, 83), (116, 87)], 75) := by decide +kernel
theorem d1_76 : decode prog_42_method_5_code 76 = .ok (.iconst 0, 1) := by decide +kernel
theorem d1_77 : decode prog_42_method_5_code 77 = .ok (.goto 16, 3) := by decide +kernel
theorem d1_93 : decode prog_42_method_5_code 93 = .ok (.ireturn, 1) := by decide +kernel
theorem d1_80 : decode prog_42_method_5_code 80 = .ok (.iconst 1, 1) := by decide +kernel
theorem d1_81 : decode prog_42_method_5_code 81 = .ok (.goto 12, 3) := by decide +kernel
theorem d1_84 : decode prog_42_method_5_code 84 = .ok (.iconst 2, 1) := by decide +kernel
theorem d1_85 : decode prog_42_method_5_code 85 = .ok (.goto 8, 3) := by decide +kernel
theorem d1_88 : decode prog_42_method_5_code 88 = .ok (.iconst 3, 1) := by decide +kernel
theorem d1_89 : decode prog_42_method_5_code 89 = .ok (.goto 4, 3) := by decide +kernel
theorem d1_92 : decode prog_42_method_5_code 92 = .ok (.iconst (-1), 1) := by decide +kernel
theorem ef_rm_base (m : MethodId) (x0 : Int32) : entryFrame m #[(.int x0)] 1 = mkF m 0 #[.val (.int x0)] [] := by first | (simp [entryFrame, mkF, argsToLocals, Value.category]; done) | rfl
theorem pn_0 : plainName "com/example/splitwell/splitwell/model/DistanceModel" = true := by first | (simp [plainName, overriddenIn]; done) | decide +kernel
set_option maxRecDepth 65536 in
set_option maxHeartbeats 40000000 in
theorem rm_base (l : Launch) (Z : State) (a0 : Array Value) (hw : ∀ d ∈ tables_1, d.before a0 Z = true) (ws : List Jvm.Cond) (p1 : Int32) (h0 : Heap)  :
    MetFree l (⟨"com/example/splitwell/splitwell/model/DistanceModel", "base", "(C)I"⟩ : MethodName) (head1 (Jvm.Cond.code (⟨"com/example/splitwell/splitwell/model/DistanceModel", "base", "(C)I"⟩ : MethodName) prog_42_method_5_code 1 (some .int) :: ws) ({ frames := 0, cells := 0, slots := 0, locals := 0 } : Room)) (fun a U => a = #[(.int p1)] ∧ Z.Warmed39 U.vm ∧ U.heap = h0) (fun _ _ _ _ _ => True) (fun _ U o U' => ∃ v L, o = .returned v ∧ own_Q1 p1 h0 v U'.heap L ∧ FrameEnd U o U' L ({ frames := 0, cells := 0, slots := 0, locals := 0 } : Room).cells ({ frames := 0, cells := 0, slots := 0, locals := 0 } : Room).slots) := by
  refine MetFree.of_bodySF (plainFor_of_name pn_0) hisR ?_
  intro p e s m args below meth c s₁ Bd hml0 hP hK
  obtain ⟨rfl, hZ, hh⟩ := hP
  have hx := Bd.exec
  have hby := Bd.bytes
  have hlk := Bd.notSynchronized
  have hret := Bd.returns
  have hml : c.maxLocals = 1 := hml0
  have hown : s.vm.findClass "com/example/splitwell/splitwell/model/DistanceModel" = some m.cls := findClass_of_methodNamed Bd.named
  have hnm := (name_of_methodNamed Bd.named Bd.method).1
  have X0 : Stand p l e ({ frames := 0, cells := 0, slots := 0, locals := 0 } : Room) s m #[(.int p1)] below meth c s₁ [] 0 0 := Stand.of_body Bd
  have e0 : s₁.heap = h0 := by rw [← hh, Bd.state]; rfl
  show own_Dn p e below (own_Ret s (own_Q1 p1 h0) ({ frames := 0, cells := 0, slots := 0, locals := 0 } : Room).cells ({ frames := 0, cells := 0, slots := 0, locals := 0 } : Room).slots) (s₁.setTop (entryFrame m #[(.int p1)] 1))
  rw [ef_rm_base]
  refine own_st (B := (s₁.setTop (mkF m 1 #[.val (.int p1)] [(.int p1)]))) (fun _ k => XS.iloadN X0.here hx rfl (hb hby d1_0) rfl k) ?_
  by_cases s65 : p1 = 65
  · subst s65
    refine own_st (B := (s₁.setTop (mkF m 76 #[.val (.int (65 : Int32))] []))) (fun t k => X0.lookupswitchHit hx (g := (mkF m 1 #[.val (.int (65 : Int32))] [(.int (65 : Int32))])) rfl (k := 65) (rest := []) rfl (hb hby d1_1) (by decide) (a := 65) (off := 75) (by decide) (by show (0 : Int) ≤ (1 : Nat) + 75; decide) t k) ?_
    refine own_st (B := (s₁.setTop (mkF m 77 #[.val (.int (65 : Int32))] [(.int (0 : Int32))]))) (fun _ k => XS.iconst X0.here hx rfl (hb hby d1_76) k) ?_
    refine own_st (B := (s₁.setTop (mkF m 93 #[.val (.int (65 : Int32))] [(.int (0 : Int32))]))) (fun _ k => XS.goto X0.here hx rfl (pc0 := 77) (pc' := 93) rfl (hb hby d1_77) (by decide) (by decide) k) ?_
    exact own_retI X0 hx hlk hret (hb hby d1_93) (by show own_Q1 (65 : Int32) h0 _ s₁.heap _; rw [e0]; exact ⟨rfl, rfl, rfl⟩) (by decide) (by decide)
  · by_cases s67 : p1 = 67
    · subst s67
      refine own_st (B := (s₁.setTop (mkF m 80 #[.val (.int (67 : Int32))] []))) (fun t k => X0.lookupswitchHit hx (g := (mkF m 1 #[.val (.int (67 : Int32))] [(.int (67 : Int32))])) rfl (k := 67) (rest := []) rfl (hb hby d1_1) (by decide) (a := 67) (off := 79) (by decide) (by show (0 : Int) ≤ (1 : Nat) + 79; decide) t k) ?_
      refine own_st (B := (s₁.setTop (mkF m 81 #[.val (.int (67 : Int32))] [(.int (1 : Int32))]))) (fun _ k => XS.iconst X0.here hx rfl (hb hby d1_80) k) ?_
      refine own_st (B := (s₁.setTop (mkF m 93 #[.val (.int (67 : Int32))] [(.int (1 : Int32))]))) (fun _ k => XS.goto X0.here hx rfl (pc0 := 81) (pc' := 93) rfl (hb hby d1_81) (by decide) (by decide) k) ?_
      exact own_retI X0 hx hlk hret (hb hby d1_93) (by show own_Q1 (67 : Int32) h0 _ s₁.heap _; rw [e0]; exact ⟨rfl, rfl, rfl⟩) (by decide) (by decide)
    · by_cases s71 : p1 = 71
      · subst s71
        refine own_st (B := (s₁.setTop (mkF m 84 #[.val (.int (71 : Int32))] []))) (fun t k => X0.lookupswitchHit hx (g := (mkF m 1 #[.val (.int (71 : Int32))] [(.int (71 : Int32))])) rfl (k := 71) (rest := []) rfl (hb hby d1_1) (by decide) (a := 71) (off := 83) (by decide) (by show (0 : Int) ≤ (1 : Nat) + 83; decide) t k) ?_
        refine own_st (B := (s₁.setTop (mkF m 85 #[.val (.int (71 : Int32))] [(.int (2 : Int32))]))) (fun _ k => XS.iconst X0.here hx rfl (hb hby d1_84) k) ?_
        refine own_st (B := (s₁.setTop (mkF m 93 #[.val (.int (71 : Int32))] [(.int (2 : Int32))]))) (fun _ k => XS.goto X0.here hx rfl (pc0 := 85) (pc' := 93) rfl (hb hby d1_85) (by decide) (by decide) k) ?_
        exact own_retI X0 hx hlk hret (hb hby d1_93) (by show own_Q1 (71 : Int32) h0 _ s₁.heap _; rw [e0]; exact ⟨rfl, rfl, rfl⟩) (by decide) (by decide)
      · by_cases s84 : p1 = 84
        · subst s84
          refine own_st (B := (s₁.setTop (mkF m 88 #[.val (.int (84 : Int32))] []))) (fun t k => X0.lookupswitchHit hx (g := (mkF m 1 #[.val (.int (84 : Int32))] [(.int (84 : Int32))])) rfl (k := 84) (rest := []) rfl (hb hby d1_1) (by decide) (a := 84) (off := 87) (by decide) (by show (0 : Int) ≤ (1 : Nat) + 87; decide) t k) ?_
          refine own_st (B := (s₁.setTop (mkF m 89 #[.val (.int (84 : Int32))] [(.int (3 : Int32))]))) (fun _ k => XS.iconst X0.here hx rfl (hb hby d1_88) k) ?_
          refine own_st (B := (s₁.setTop (mkF m 93 #[.val (.int (84 : Int32))] [(.int (3 : Int32))]))) (fun _ k => XS.goto X0.here hx rfl (pc0 := 89) (pc' := 93) rfl (hb hby d1_89) (by decide) (by decide) k) ?_
          exact own_retI X0 hx hlk hret (hb hby d1_93) (by show own_Q1 (84 : Int32) h0 _ s₁.heap _; rw [e0]; exact ⟨rfl, rfl, rfl⟩) (by decide) (by decide)
        · by_cases s97 : p1 = 97
          · subst s97
            refine own_st (B := (s₁.setTop (mkF m 76 #[.val (.int (97 : Int32))] []))) (fun t k => X0.lookupswitchHit hx (g := (mkF m 1 #[.val (.int (97 : Int32))] [(.int (97 : Int32))])) rfl (k := 97) (rest := []) rfl (hb hby d1_1) (by decide) (a := 97) (off := 75) (by decide) (by show (0 : Int) ≤ (1 : Nat) + 75; decide) t k) ?_
            refine own_st (B := (s₁.setTop (mkF m 77 #[.val (.int (97 : Int32))] [(.int (0 : Int32))]))) (fun _ k => XS.iconst X0.here hx rfl (hb hby d1_76) k) ?_
            refine own_st (B := (s₁.setTop (mkF m 93 #[.val (.int (97 : Int32))] [(.int (0 : Int32))]))) (fun _ k => XS.goto X0.here hx rfl (pc0 := 77) (pc' := 93) rfl (hb hby d1_77) (by decide) (by decide) k) ?_
            exact own_retI X0 hx hlk hret (hb hby d1_93) (by show own_Q1 (97 : Int32) h0 _ s₁.heap _; rw [e0]; exact ⟨rfl, rfl, rfl⟩) (by decide) (by decide)
          · by_cases s99 : p1 = 99
            · subst s99
              refine own_st (B := (s₁.setTop (mkF m 80 #[.val (.int (99 : Int32))] []))) (fun t k => X0.lookupswitchHit hx (g := (mkF m 1 #[.val (.int (99 : Int32))] [(.int (99 : Int32))])) rfl (k := 99) (rest := []) rfl (hb hby d1_1) (by decide) (a := 99) (off := 79) (by decide) (by show (0 : Int) ≤ (1 : Nat) + 79; decide) t k) ?_
              refine own_st (B := (s₁.setTop (mkF m 81 #[.val (.int (99 : Int32))] [(.int (1 : Int32))]))) (fun _ k => XS.iconst X0.here hx rfl (hb hby d1_80) k) ?_
              refine own_st (B := (s₁.setTop (mkF m 93 #[.val (.int (99 : Int32))] [(.int (1 : Int32))]))) (fun _ k => XS.goto X0.here hx rfl (pc0 := 81) (pc' := 93) rfl (hb hby d1_81) (by decide) (by decide) k) ?_
              exact own_retI X0 hx hlk hret (hb hby d1_93) (by show own_Q1 (99 : Int32) h0 _ s₁.heap _; rw [e0]; exact ⟨rfl, rfl, rfl⟩) (by decide) (by decide)
            · by_cases s103 : p1 = 103
              · subst s103
                refine own_st (B := (s₁.setTop (mkF m 84 #[.val (.int (103 : Int32))] []))) (fun t k => X0.lookupswitchHit hx (g := (mkF m 1 #[.val (.int (103 : Int32))] [(.int (103 : Int32))])) rfl (k := 103) (rest := []) rfl (hb hby d1_1) (by decide) (a := 103) (off := 83) (by decide) (by show (0 : Int) ≤ (1 : Nat) + 83; decide) t k) ?_
                refine own_st (B := (s₁.setTop (mkF m 85 #[.val (.int (103 : Int32))] [(.int (2 : Int32))]))) (fun _ k => XS.iconst X0.here hx rfl (hb hby d1_84) k) ?_
                refine own_st (B := (s₁.setTop (mkF m 93 #[.val (.int (103 : Int32))] [(.int (2 : Int32))]))) (fun _ k => XS.goto X0.here hx rfl (pc0 := 85) (pc' := 93) rfl (hb hby d1_85) (by decide) (by decide) k) ?_
                exact own_retI X0 hx hlk hret (hb hby d1_93) (by show own_Q1 (103 : Int32) h0 _ s₁.heap _; rw [e0]; exact ⟨rfl, rfl, rfl⟩) (by decide) (by decide)
              · by_cases s116 : p1 = 116
                · subst s116
                  refine own_st (B := (s₁.setTop (mkF m 88 #[.val (.int (116 : Int32))] []))) (fun t k => X0.lookupswitchHit hx (g := (mkF m 1 #[.val (.int (116 : Int32))] [(.int (116 : Int32))])) rfl (k := 116) (rest := []) rfl (hb hby d1_1) (by decide) (a := 116) (off := 87) (by decide) (by show (0 : Int) ≤ (1 : Nat) + 87; decide) t k) ?_
                  refine own_st (B := (s₁.setTop (mkF m 89 #[.val (.int (116 : Int32))] [(.int (3 : Int32))]))) (fun _ k => XS.iconst X0.here hx rfl (hb hby d1_88) k) ?_
                  refine own_st (B := (s₁.setTop (mkF m 93 #[.val (.int (116 : Int32))] [(.int (3 : Int32))]))) (fun _ k => XS.goto X0.here hx rfl (pc0 := 89) (pc' := 93) rfl (hb hby d1_89) (by decide) (by decide) k) ?_
                  exact own_retI X0 hx hlk hret (hb hby d1_93) (by show own_Q1 (116 : Int32) h0 _ s₁.heap _; rw [e0]; exact ⟨rfl, rfl, rfl⟩) (by decide) (by decide)
                · refine own_st (B := (s₁.setTop (mkF m 92 #[.val (.int p1)] []))) (fun t k => X0.lookupswitchMiss hx (g := (mkF m 1 #[.val (.int p1)] [(.int p1)])) rfl (k := p1) (rest := []) rfl (hb hby d1_1) (by decide) (find_miss (fun q hq => by
                      simp only [List.mem_cons, List.not_mem_nil, or_false] at hq
                      rcases hq with rfl | rfl | rfl | rfl | rfl | rfl | rfl | rfl
                      · exact own_miss s65 (by decide)
                      · exact own_miss s67 (by decide)
                      · exact own_miss s71 (by decide)
                      · exact own_miss s84 (by decide)
                      · exact own_miss s97 (by decide)
                      · exact own_miss s99 (by decide)
                      · exact own_miss s103 (by decide)
                      · exact own_miss s116 (by decide))) (by show (0 : Int) ≤ (1 : Nat) + 91; decide) t k) ?_
                  refine own_st (B := (s₁.setTop (mkF m 93 #[.val (.int p1)] [(.int (-1 : Int32))]))) (fun _ k => XS.iconst X0.here hx rfl (hb hby d1_92) k) ?_
                  have i_s65 : ¬ p1.toInt = 65 := own_tEn s65
                  have i_s67 : ¬ p1.toInt = 67 := own_tEn s67
                  have i_s71 : ¬ p1.toInt = 71 := own_tEn s71
                  have i_s84 : ¬ p1.toInt = 84 := own_tEn s84
                  have i_s97 : ¬ p1.toInt = 97 := own_tEn s97
                  have i_s99 : ¬ p1.toInt = 99 := own_tEn s99
                  have i_s103 : ¬ p1.toInt = 103 := own_tEn s103
                  have i_s116 : ¬ p1.toInt = 116 := own_tEn s116
                  exact own_retI X0 hx hlk hret (hb hby d1_93) (by show own_Q1 p1 h0 _ s₁.heap _; rw [e0]; exact ⟨congrArg (fun z => some (Value.int z)) (by unfold own_bz; (repeat' split) <;> first | rfl | omega), rfl, rfl⟩) (by decide) (by decide)
theorem d2_0 : decode method_2_code 0 = .ok (.iload_n 0, 1) := by decide +kernel
theorem d2_1 : decode method_2_code 1 = .ok (.istore_n 1, 1) := by decide +kernel
theorem d2_2 : decode method_2_code 2 = .ok (.iload_n 1, 1) := by decide +kernel
theorem d2_3 : decode method_2_code 3 = .ok (.bipush 97, 2) := by decide +kernel
theorem d2_5 : decode method_2_code 5 = .ok (.if_icmp .lt 14, 3) := by decide +kernel
theorem d2_19 : decode method_2_code 19 = .ok (.iload_n 1, 1) := by decide +kernel
theorem d2_20 : decode method_2_code 20 = .ok (.bipush 65, 2) := by decide +kernel
theorem d2_22 : decode method_2_code 22 = .ok (.if_icmp .ne 5, 3) := by decide +kernel
theorem d2_25 : decode method_2_code 25 = .ok (.iconst 0, 1) := by decide +kernel
theorem d2_26 : decode method_2_code 26 = .ok (.ireturn, 1) := by decide +kernel
theorem d2_27 : decode method_2_code 27 = .ok (.iload_n 1, 1) := by decide +kernel
theorem d2_28 : decode method_2_code 28 = .ok (.bipush 67, 2) := by decide +kernel
theorem d2_30 : decode method_2_code 30 = .ok (.if_icmp .ne 5, 3) := by decide +kernel
theorem d2_33 : decode method_2_code 33 = .ok (.iconst 1, 1) := by decide +kernel
theorem d2_34 : decode method_2_code 34 = .ok (.ireturn, 1) := by decide +kernel
theorem d2_35 : decode method_2_code 35 = .ok (.iload_n 1, 1) := by decide +kernel
theorem d2_36 : decode method_2_code 36 = .ok (.bipush 71, 2) := by decide +kernel
theorem d2_38 : decode method_2_code 38 = .ok (.if_icmp .ne 5, 3) := by decide +kernel
theorem d2_41 : decode method_2_code 41 = .ok (.iconst 2, 1) := by decide +kernel
theorem d2_42 : decode method_2_code 42 = .ok (.ireturn, 1) := by decide +kernel
theorem d2_43 : decode method_2_code 43 = .ok (.iload_n 1, 1) := by decide +kernel
theorem d2_44 : decode method_2_code 44 = .ok (.bipush 84, 2) := by decide +kernel
theorem d2_46 : decode method_2_code 46 = .ok (.if_icmp .ne 5, 3) := by decide +kernel
theorem d2_49 : decode method_2_code 49 = .ok (.iconst 3, 1) := by decide +kernel
theorem d2_50 : decode method_2_code 50 = .ok (.ireturn, 1) := by decide +kernel
theorem d2_51 : decode method_2_code 51 = .ok (.iconst (-1), 1) := by decide +kernel
theorem d2_52 : decode method_2_code 52 = .ok (.ireturn, 1) := by decide +kernel
theorem d2_8 : decode method_2_code 8 = .ok (.iload_n 1, 1) := by decide +kernel
theorem d2_9 : decode method_2_code 9 = .ok (.bipush 122, 2) := by decide +kernel
theorem d2_11 : decode method_2_code 11 = .ok (.if_icmp .gt 8, 3) := by decide +kernel
theorem d2_14 : decode method_2_code 14 = .ok (.iload_n 1, 1) := by decide +kernel
theorem d2_15 : decode method_2_code 15 = .ok (.bipush 32, 2) := by decide +kernel
theorem d2_17 : decode method_2_code 17 = .ok (.isub, 1) := by decide +kernel
theorem d2_18 : decode method_2_code 18 = .ok (.istore_n 1, 1) := by decide +kernel
theorem ef_rm_ref (m : MethodId) (x0 : Int32) : entryFrame m #[(.int x0)] 2 = mkF m 0 #[.val (.int x0), .unset] [] := by first | (simp [entryFrame, mkF, argsToLocals, Value.category]; done) | rfl
theorem pn_1 : plainName "com/example/splitwell/splitwell/model/DistanceModelBasePinLaw" = true := by first | (simp [plainName, overriddenIn]; done) | decide +kernel
set_option maxRecDepth 65536 in
set_option maxHeartbeats 40000000 in
theorem rm_ref (l : Launch) (Z : State) (a0 : Array Value) (hw : ∀ d ∈ tables_1, d.before a0 Z = true) (ws : List Jvm.Cond) (p1 : Int32) (h0 : Heap)  :
    MetFree l (⟨"com/example/splitwell/splitwell/model/DistanceModelBasePinLaw", "reference", "(C)I"⟩ : MethodName) (head1 (Jvm.Cond.code (⟨"com/example/splitwell/splitwell/model/DistanceModelBasePinLaw", "reference", "(C)I"⟩ : MethodName) method_2_code 2 (some .int) :: ws) ({ frames := 0, cells := 0, slots := 0, locals := 0 } : Room)) (fun a U => a = #[(.int p1)] ∧ Z.Warmed39 U.vm ∧ U.heap = h0) (fun _ _ _ _ _ => True) (fun _ U o U' => ∃ v L, o = .returned v ∧ own_Q1 p1 h0 v U'.heap L ∧ FrameEnd U o U' L ({ frames := 0, cells := 0, slots := 0, locals := 0 } : Room).cells ({ frames := 0, cells := 0, slots := 0, locals := 0 } : Room).slots) := by
  refine MetFree.of_bodySF (plainFor_of_name pn_1) hisR ?_
  intro p e s m args below meth c s₁ Bd hml0 hP hK
  obtain ⟨rfl, hZ, hh⟩ := hP
  have hx := Bd.exec
  have hby := Bd.bytes
  have hlk := Bd.notSynchronized
  have hret := Bd.returns
  have hml : c.maxLocals = 2 := hml0
  have hown : s.vm.findClass "com/example/splitwell/splitwell/model/DistanceModelBasePinLaw" = some m.cls := findClass_of_methodNamed Bd.named
  have hnm := (name_of_methodNamed Bd.named Bd.method).1
  have X0 : Stand p l e ({ frames := 0, cells := 0, slots := 0, locals := 0 } : Room) s m #[(.int p1)] below meth c s₁ [] 0 0 := Stand.of_body Bd
  have e0 : s₁.heap = h0 := by rw [← hh, Bd.state]; rfl
  show own_Dn p e below (own_Ret s (own_Q1 p1 h0) ({ frames := 0, cells := 0, slots := 0, locals := 0 } : Room).cells ({ frames := 0, cells := 0, slots := 0, locals := 0 } : Room).slots) (s₁.setTop (entryFrame m #[(.int p1)] 2))
  rw [ef_rm_ref]
  refine own_st (B := (s₁.setTop (mkF m 1 #[.val (.int p1), .unset] [(.int p1)]))) (fun _ k => XS.iloadN X0.here hx rfl (hb hby d2_0) rfl k) ?_
  refine own_st (B := (s₁.setTop (mkF m 2 #[.val (.int p1), .val (.int p1)] []))) (fun _ k => XS.istoreN X0.here hx rfl (hb hby d2_1) rfl (l' := #[.val (.int p1), .val (.int p1)]) rfl k) ?_
  refine own_st (B := (s₁.setTop (mkF m 3 #[.val (.int p1), .val (.int p1)] [(.int p1)]))) (fun _ k => XS.iloadN X0.here hx rfl (hb hby d2_2) rfl k) ?_
  refine own_st (B := (s₁.setTop (mkF m 5 #[.val (.int p1), .val (.int p1)] [(.int (97 : Int32)), (.int p1)]))) (fun _ k => XS.bipush X0.here hx rfl (hb hby d2_3) k) ?_
  by_cases c5_1 : p1 < (97 : Int32)
  · refine own_st (B := (s₁.setTop (mkF m 19 #[.val (.int p1), .val (.int p1)] []))) (fun _ k => XS.icmpYes X0.here hx rfl (pc0 := 5) (pc' := 19) rfl (hb hby d2_5) rfl (tlt c5_1).1 (by decide) (by decide) k) ?_
    refine own_st (B := (s₁.setTop (mkF m 20 #[.val (.int p1), .val (.int p1)] [(.int p1)]))) (fun _ k => XS.iloadN X0.here hx rfl (hb hby d2_19) rfl k) ?_
    refine own_st (B := (s₁.setTop (mkF m 22 #[.val (.int p1), .val (.int p1)] [(.int (65 : Int32)), (.int p1)]))) (fun _ k => XS.bipush X0.here hx rfl (hb hby d2_20) k) ?_
    by_cases c22_2 : p1 = (65 : Int32)
    · refine own_st (B := (s₁.setTop (mkF m 25 #[.val (.int p1), .val (.int p1)] []))) (fun _ k => XS.icmpNo X0.here hx rfl (hb hby d2_22) rfl (teq c22_2).2 k) ?_
      refine own_st (B := (s₁.setTop (mkF m 26 #[.val (.int p1), .val (.int p1)] [(.int (0 : Int32))]))) (fun _ k => XS.iconst X0.here hx rfl (hb hby d2_25) k) ?_
      have i_c5_1 : p1.toInt < 97 := own_tL c5_1
      have i_c22_2 : p1.toInt = 65 := own_tE c22_2
      exact own_retI X0 hx hlk hret (hb hby d2_26) (by show own_Q1 p1 h0 _ s₁.heap _; rw [e0]; exact ⟨congrArg (fun z => some (Value.int z)) (by unfold own_bz; (repeat' split) <;> first | rfl | omega), rfl, rfl⟩) (by decide) (by decide)
    · refine own_st (B := (s₁.setTop (mkF m 27 #[.val (.int p1), .val (.int p1)] []))) (fun _ k => XS.icmpYes X0.here hx rfl (pc0 := 22) (pc' := 27) rfl (hb hby d2_22) rfl (feq c22_2).2 (by decide) (by decide) k) ?_
      refine own_st (B := (s₁.setTop (mkF m 28 #[.val (.int p1), .val (.int p1)] [(.int p1)]))) (fun _ k => XS.iloadN X0.here hx rfl (hb hby d2_27) rfl k) ?_
      refine own_st (B := (s₁.setTop (mkF m 30 #[.val (.int p1), .val (.int p1)] [(.int (67 : Int32)), (.int p1)]))) (fun _ k => XS.bipush X0.here hx rfl (hb hby d2_28) k) ?_
      by_cases c30_3 : p1 = (67 : Int32)
      · refine own_st (B := (s₁.setTop (mkF m 33 #[.val (.int p1), .val (.int p1)] []))) (fun _ k => XS.icmpNo X0.here hx rfl (hb hby d2_30) rfl (teq c30_3).2 k) ?_
        refine own_st (B := (s₁.setTop (mkF m 34 #[.val (.int p1), .val (.int p1)] [(.int (1 : Int32))]))) (fun _ k => XS.iconst X0.here hx rfl (hb hby d2_33) k) ?_
        have i_c5_1 : p1.toInt < 97 := own_tL c5_1
        have i_c22_2 : ¬ p1.toInt = 65 := own_tEn c22_2
        have i_c30_3 : p1.toInt = 67 := own_tE c30_3
        exact own_retI X0 hx hlk hret (hb hby d2_34) (by show own_Q1 p1 h0 _ s₁.heap _; rw [e0]; exact ⟨congrArg (fun z => some (Value.int z)) (by unfold own_bz; (repeat' split) <;> first | rfl | omega), rfl, rfl⟩) (by decide) (by decide)
      · refine own_st (B := (s₁.setTop (mkF m 35 #[.val (.int p1), .val (.int p1)] []))) (fun _ k => XS.icmpYes X0.here hx rfl (pc0 := 30) (pc' := 35) rfl (hb hby d2_30) rfl (feq c30_3).2 (by decide) (by decide) k) ?_
        refine own_st (B := (s₁.setTop (mkF m 36 #[.val (.int p1), .val (.int p1)] [(.int p1)]))) (fun _ k => XS.iloadN X0.here hx rfl (hb hby d2_35) rfl k) ?_
        refine own_st (B := (s₁.setTop (mkF m 38 #[.val (.int p1), .val (.int p1)] [(.int (71 : Int32)), (.int p1)]))) (fun _ k => XS.bipush X0.here hx rfl (hb hby d2_36) k) ?_
        by_cases c38_4 : p1 = (71 : Int32)
        · refine own_st (B := (s₁.setTop (mkF m 41 #[.val (.int p1), .val (.int p1)] []))) (fun _ k => XS.icmpNo X0.here hx rfl (hb hby d2_38) rfl (teq c38_4).2 k) ?_
          refine own_st (B := (s₁.setTop (mkF m 42 #[.val (.int p1), .val (.int p1)] [(.int (2 : Int32))]))) (fun _ k => XS.iconst X0.here hx rfl (hb hby d2_41) k) ?_
          have i_c5_1 : p1.toInt < 97 := own_tL c5_1
          have i_c22_2 : ¬ p1.toInt = 65 := own_tEn c22_2
          have i_c30_3 : ¬ p1.toInt = 67 := own_tEn c30_3
          have i_c38_4 : p1.toInt = 71 := own_tE c38_4
          exact own_retI X0 hx hlk hret (hb hby d2_42) (by show own_Q1 p1 h0 _ s₁.heap _; rw [e0]; exact ⟨congrArg (fun z => some (Value.int z)) (by unfold own_bz; (repeat' split) <;> first | rfl | omega), rfl, rfl⟩) (by decide) (by decide)
        · refine own_st (B := (s₁.setTop (mkF m 43 #[.val (.int p1), .val (.int p1)] []))) (fun _ k => XS.icmpYes X0.here hx rfl (pc0 := 38) (pc' := 43) rfl (hb hby d2_38) rfl (feq c38_4).2 (by decide) (by decide) k) ?_
          refine own_st (B := (s₁.setTop (mkF m 44 #[.val (.int p1), .val (.int p1)] [(.int p1)]))) (fun _ k => XS.iloadN X0.here hx rfl (hb hby d2_43) rfl k) ?_
          refine own_st (B := (s₁.setTop (mkF m 46 #[.val (.int p1), .val (.int p1)] [(.int (84 : Int32)), (.int p1)]))) (fun _ k => XS.bipush X0.here hx rfl (hb hby d2_44) k) ?_
          by_cases c46_5 : p1 = (84 : Int32)
          · refine own_st (B := (s₁.setTop (mkF m 49 #[.val (.int p1), .val (.int p1)] []))) (fun _ k => XS.icmpNo X0.here hx rfl (hb hby d2_46) rfl (teq c46_5).2 k) ?_
            refine own_st (B := (s₁.setTop (mkF m 50 #[.val (.int p1), .val (.int p1)] [(.int (3 : Int32))]))) (fun _ k => XS.iconst X0.here hx rfl (hb hby d2_49) k) ?_
            have i_c5_1 : p1.toInt < 97 := own_tL c5_1
            have i_c22_2 : ¬ p1.toInt = 65 := own_tEn c22_2
            have i_c30_3 : ¬ p1.toInt = 67 := own_tEn c30_3
            have i_c38_4 : ¬ p1.toInt = 71 := own_tEn c38_4
            have i_c46_5 : p1.toInt = 84 := own_tE c46_5
            exact own_retI X0 hx hlk hret (hb hby d2_50) (by show own_Q1 p1 h0 _ s₁.heap _; rw [e0]; exact ⟨congrArg (fun z => some (Value.int z)) (by unfold own_bz; (repeat' split) <;> first | rfl | omega), rfl, rfl⟩) (by decide) (by decide)
          · refine own_st (B := (s₁.setTop (mkF m 51 #[.val (.int p1), .val (.int p1)] []))) (fun _ k => XS.icmpYes X0.here hx rfl (pc0 := 46) (pc' := 51) rfl (hb hby d2_46) rfl (feq c46_5).2 (by decide) (by decide) k) ?_
            refine own_st (B := (s₁.setTop (mkF m 52 #[.val (.int p1), .val (.int p1)] [(.int (-1 : Int32))]))) (fun _ k => XS.iconst X0.here hx rfl (hb hby d2_51) k) ?_
            have i_c5_1 : p1.toInt < 97 := own_tL c5_1
            have i_c22_2 : ¬ p1.toInt = 65 := own_tEn c22_2
            have i_c30_3 : ¬ p1.toInt = 67 := own_tEn c30_3
            have i_c38_4 : ¬ p1.toInt = 71 := own_tEn c38_4
            have i_c46_5 : ¬ p1.toInt = 84 := own_tEn c46_5
            exact own_retI X0 hx hlk hret (hb hby d2_52) (by show own_Q1 p1 h0 _ s₁.heap _; rw [e0]; exact ⟨congrArg (fun z => some (Value.int z)) (by unfold own_bz; (repeat' split) <;> first | rfl | omega), rfl, rfl⟩) (by decide) (by decide)
  · refine own_st (B := (s₁.setTop (mkF m 8 #[.val (.int p1), .val (.int p1)] []))) (fun _ k => XS.icmpNo X0.here hx rfl (hb hby d2_5) rfl (flt c5_1).1 k) ?_
    refine own_st (B := (s₁.setTop (mkF m 9 #[.val (.int p1), .val (.int p1)] [(.int p1)]))) (fun _ k => XS.iloadN X0.here hx rfl (hb hby d2_8) rfl k) ?_
    refine own_st (B := (s₁.setTop (mkF m 11 #[.val (.int p1), .val (.int p1)] [(.int (122 : Int32)), (.int p1)]))) (fun _ k => XS.bipush X0.here hx rfl (hb hby d2_9) k) ?_
    by_cases c11_6 : (122 : Int32) < p1
    · refine own_st (B := (s₁.setTop (mkF m 19 #[.val (.int p1), .val (.int p1)] []))) (fun _ k => XS.icmpYes X0.here hx rfl (pc0 := 11) (pc' := 19) rfl (hb hby d2_11) rfl (tlt c11_6).2.2.1 (by decide) (by decide) k) ?_
      refine own_st (B := (s₁.setTop (mkF m 20 #[.val (.int p1), .val (.int p1)] [(.int p1)]))) (fun _ k => XS.iloadN X0.here hx rfl (hb hby d2_19) rfl k) ?_
      refine own_st (B := (s₁.setTop (mkF m 22 #[.val (.int p1), .val (.int p1)] [(.int (65 : Int32)), (.int p1)]))) (fun _ k => XS.bipush X0.here hx rfl (hb hby d2_20) k) ?_
      by_cases c22_7 : p1 = (65 : Int32)
      · refine own_st (B := (s₁.setTop (mkF m 25 #[.val (.int p1), .val (.int p1)] []))) (fun _ k => XS.icmpNo X0.here hx rfl (hb hby d2_22) rfl (teq c22_7).2 k) ?_
        refine own_st (B := (s₁.setTop (mkF m 26 #[.val (.int p1), .val (.int p1)] [(.int (0 : Int32))]))) (fun _ k => XS.iconst X0.here hx rfl (hb hby d2_25) k) ?_
        have i_c5_1 : ¬ p1.toInt < 97 := own_tLn c5_1
        have i_c11_6 : 122 < p1.toInt := own_tL c11_6
        have i_c22_7 : p1.toInt = 65 := own_tE c22_7
        exact own_retI X0 hx hlk hret (hb hby d2_26) (by show own_Q1 p1 h0 _ s₁.heap _; rw [e0]; exact ⟨congrArg (fun z => some (Value.int z)) (by unfold own_bz; (repeat' split) <;> first | rfl | omega), rfl, rfl⟩) (by decide) (by decide)
      · refine own_st (B := (s₁.setTop (mkF m 27 #[.val (.int p1), .val (.int p1)] []))) (fun _ k => XS.icmpYes X0.here hx rfl (pc0 := 22) (pc' := 27) rfl (hb hby d2_22) rfl (feq c22_7).2 (by decide) (by decide) k) ?_
        refine own_st (B := (s₁.setTop (mkF m 28 #[.val (.int p1), .val (.int p1)] [(.int p1)]))) (fun _ k => XS.iloadN X0.here hx rfl (hb hby d2_27) rfl k) ?_
        refine own_st (B := (s₁.setTop (mkF m 30 #[.val (.int p1), .val (.int p1)] [(.int (67 : Int32)), (.int p1)]))) (fun _ k => XS.bipush X0.here hx rfl (hb hby d2_28) k) ?_
        by_cases c30_8 : p1 = (67 : Int32)
        · refine own_st (B := (s₁.setTop (mkF m 33 #[.val (.int p1), .val (.int p1)] []))) (fun _ k => XS.icmpNo X0.here hx rfl (hb hby d2_30) rfl (teq c30_8).2 k) ?_
          refine own_st (B := (s₁.setTop (mkF m 34 #[.val (.int p1), .val (.int p1)] [(.int (1 : Int32))]))) (fun _ k => XS.iconst X0.here hx rfl (hb hby d2_33) k) ?_
          have i_c5_1 : ¬ p1.toInt < 97 := own_tLn c5_1
          have i_c11_6 : 122 < p1.toInt := own_tL c11_6
          have i_c22_7 : ¬ p1.toInt = 65 := own_tEn c22_7
          have i_c30_8 : p1.toInt = 67 := own_tE c30_8
          exact own_retI X0 hx hlk hret (hb hby d2_34) (by show own_Q1 p1 h0 _ s₁.heap _; rw [e0]; exact ⟨congrArg (fun z => some (Value.int z)) (by unfold own_bz; (repeat' split) <;> first | rfl | omega), rfl, rfl⟩) (by decide) (by decide)
        · refine own_st (B := (s₁.setTop (mkF m 35 #[.val (.int p1), .val (.int p1)] []))) (fun _ k => XS.icmpYes X0.here hx rfl (pc0 := 30) (pc' := 35) rfl (hb hby d2_30) rfl (feq c30_8).2 (by decide) (by decide) k) ?_
          refine own_st (B := (s₁.setTop (mkF m 36 #[.val (.int p1), .val (.int p1)] [(.int p1)]))) (fun _ k => XS.iloadN X0.here hx rfl (hb hby d2_35) rfl k) ?_
          refine own_st (B := (s₁.setTop (mkF m 38 #[.val (.int p1), .val (.int p1)] [(.int (71 : Int32)), (.int p1)]))) (fun _ k => XS.bipush X0.here hx rfl (hb hby d2_36) k) ?_
          by_cases c38_9 : p1 = (71 : Int32)
          · refine own_st (B := (s₁.setTop (mkF m 41 #[.val (.int p1), .val (.int p1)] []))) (fun _ k => XS.icmpNo X0.here hx rfl (hb hby d2_38) rfl (teq c38_9).2 k) ?_
            refine own_st (B := (s₁.setTop (mkF m 42 #[.val (.int p1), .val (.int p1)] [(.int (2 : Int32))]))) (fun _ k => XS.iconst X0.here hx rfl (hb hby d2_41) k) ?_
            have i_c5_1 : ¬ p1.toInt < 97 := own_tLn c5_1
            have i_c11_6 : 122 < p1.toInt := own_tL c11_6
            have i_c22_7 : ¬ p1.toInt = 65 := own_tEn c22_7
            have i_c30_8 : ¬ p1.toInt = 67 := own_tEn c30_8
            have i_c38_9 : p1.toInt = 71 := own_tE c38_9
            exact own_retI X0 hx hlk hret (hb hby d2_42) (by show own_Q1 p1 h0 _ s₁.heap _; rw [e0]; exact ⟨congrArg (fun z => some (Value.int z)) (by unfold own_bz; (repeat' split) <;> first | rfl | omega), rfl, rfl⟩) (by decide) (by decide)
          · refine own_st (B := (s₁.setTop (mkF m 43 #[.val (.int p1), .val (.int p1)] []))) (fun _ k => XS.icmpYes X0.here hx rfl (pc0 := 38) (pc' := 43) rfl (hb hby d2_38) rfl (feq c38_9).2 (by decide) (by decide) k) ?_
            refine own_st (B := (s₁.setTop (mkF m 44 #[.val (.int p1), .val (.int p1)] [(.int p1)]))) (fun _ k => XS.iloadN X0.here hx rfl (hb hby d2_43) rfl k) ?_
            refine own_st (B := (s₁.setTop (mkF m 46 #[.val (.int p1), .val (.int p1)] [(.int (84 : Int32)), (.int p1)]))) (fun _ k => XS.bipush X0.here hx rfl (hb hby d2_44) k) ?_
            by_cases c46_10 : p1 = (84 : Int32)
            · refine own_st (B := (s₁.setTop (mkF m 49 #[.val (.int p1), .val (.int p1)] []))) (fun _ k => XS.icmpNo X0.here hx rfl (hb hby d2_46) rfl (teq c46_10).2 k) ?_
              refine own_st (B := (s₁.setTop (mkF m 50 #[.val (.int p1), .val (.int p1)] [(.int (3 : Int32))]))) (fun _ k => XS.iconst X0.here hx rfl (hb hby d2_49) k) ?_
              have i_c5_1 : ¬ p1.toInt < 97 := own_tLn c5_1
              have i_c11_6 : 122 < p1.toInt := own_tL c11_6
              have i_c22_7 : ¬ p1.toInt = 65 := own_tEn c22_7
              have i_c30_8 : ¬ p1.toInt = 67 := own_tEn c30_8
              have i_c38_9 : ¬ p1.toInt = 71 := own_tEn c38_9
              have i_c46_10 : p1.toInt = 84 := own_tE c46_10
              exact own_retI X0 hx hlk hret (hb hby d2_50) (by show own_Q1 p1 h0 _ s₁.heap _; rw [e0]; exact ⟨congrArg (fun z => some (Value.int z)) (by unfold own_bz; (repeat' split) <;> first | rfl | omega), rfl, rfl⟩) (by decide) (by decide)
            · refine own_st (B := (s₁.setTop (mkF m 51 #[.val (.int p1), .val (.int p1)] []))) (fun _ k => XS.icmpYes X0.here hx rfl (pc0 := 46) (pc' := 51) rfl (hb hby d2_46) rfl (feq c46_10).2 (by decide) (by decide) k) ?_
              refine own_st (B := (s₁.setTop (mkF m 52 #[.val (.int p1), .val (.int p1)] [(.int (-1 : Int32))]))) (fun _ k => XS.iconst X0.here hx rfl (hb hby d2_51) k) ?_
              have i_c5_1 : ¬ p1.toInt < 97 := own_tLn c5_1
              have i_c11_6 : 122 < p1.toInt := own_tL c11_6
              have i_c22_7 : ¬ p1.toInt = 65 := own_tEn c22_7
              have i_c30_8 : ¬ p1.toInt = 67 := own_tEn c30_8
              have i_c38_9 : ¬ p1.toInt = 71 := own_tEn c38_9
              have i_c46_10 : ¬ p1.toInt = 84 := own_tEn c46_10
              exact own_retI X0 hx hlk hret (hb hby d2_52) (by show own_Q1 p1 h0 _ s₁.heap _; rw [e0]; exact ⟨congrArg (fun z => some (Value.int z)) (by unfold own_bz; (repeat' split) <;> first | rfl | omega), rfl, rfl⟩) (by decide) (by decide)
    · refine own_st (B := (s₁.setTop (mkF m 14 #[.val (.int p1), .val (.int p1)] []))) (fun _ k => XS.icmpNo X0.here hx rfl (hb hby d2_11) rfl (flt c11_6).2.2.1 k) ?_
      refine own_st (B := (s₁.setTop (mkF m 15 #[.val (.int p1), .val (.int p1)] [(.int p1)]))) (fun _ k => XS.iloadN X0.here hx rfl (hb hby d2_14) rfl k) ?_
      refine own_st (B := (s₁.setTop (mkF m 17 #[.val (.int p1), .val (.int p1)] [(.int (32 : Int32)), (.int p1)]))) (fun _ k => XS.bipush X0.here hx rfl (hb hby d2_15) k) ?_
      refine own_st (B := (s₁.setTop (mkF m 18 #[.val (.int p1), .val (.int p1)] [(.int (p1 - (32 : Int32)))]))) (fun _ k => XS.isub X0.here hx rfl (hb hby d2_17) rfl k) ?_
      refine own_st (B := (s₁.setTop (mkF m 19 #[.val (.int p1), .val (.int (p1 - (32 : Int32)))] []))) (fun _ k => XS.istoreN X0.here hx rfl (hb hby d2_18) rfl (l' := #[.val (.int p1), .val (.int (p1 - (32 : Int32)))]) rfl k) ?_
      refine own_st (B := (s₁.setTop (mkF m 20 #[.val (.int p1), .val (.int (p1 - (32 : Int32)))] [(.int (p1 - (32 : Int32)))]))) (fun _ k => XS.iloadN X0.here hx rfl (hb hby d2_19) rfl k) ?_
      refine own_st (B := (s₁.setTop (mkF m 22 #[.val (.int p1), .val (.int (p1 - (32 : Int32)))] [(.int (65 : Int32)), (.int (p1 - (32 : Int32)))]))) (fun _ k => XS.bipush X0.here hx rfl (hb hby d2_20) k) ?_
      by_cases c22_11 : (p1 - (32 : Int32)) = (65 : Int32)
      · refine own_st (B := (s₁.setTop (mkF m 25 #[.val (.int p1), .val (.int (p1 - (32 : Int32)))] []))) (fun _ k => XS.icmpNo X0.here hx rfl (hb hby d2_22) rfl (teq c22_11).2 k) ?_
        refine own_st (B := (s₁.setTop (mkF m 26 #[.val (.int p1), .val (.int (p1 - (32 : Int32)))] [(.int (0 : Int32))]))) (fun _ k => XS.iconst X0.here hx rfl (hb hby d2_25) k) ?_
        have i_c5_1 : ¬ p1.toInt < 97 := own_tLn c5_1
        have i_c11_6 : ¬ 122 < p1.toInt := own_tLn c11_6
        have i_c22_11 : (p1 - (32 : Int32)).toInt = 65 := own_tE c22_11
        have d1 := c_isub p1 32
        have d2 := rng32 (p1 - 32)
        have d3 := rng32 p1
        have d4 : (32 : Int32).toInt = 32 := by decide
        rw [d4] at d1
        exact own_retI X0 hx hlk hret (hb hby d2_26) (by show own_Q1 p1 h0 _ s₁.heap _; rw [e0]; exact ⟨congrArg (fun z => some (Value.int z)) (by unfold own_bz; (repeat' split) <;> first | rfl | omega), rfl, rfl⟩) (by decide) (by decide)
      · refine own_st (B := (s₁.setTop (mkF m 27 #[.val (.int p1), .val (.int (p1 - (32 : Int32)))] []))) (fun _ k => XS.icmpYes X0.here hx rfl (pc0 := 22) (pc' := 27) rfl (hb hby d2_22) rfl (feq c22_11).2 (by decide) (by decide) k) ?_
        refine own_st (B := (s₁.setTop (mkF m 28 #[.val (.int p1), .val (.int (p1 - (32 : Int32)))] [(.int (p1 - (32 : Int32)))]))) (fun _ k => XS.iloadN X0.here hx rfl (hb hby d2_27) rfl k) ?_
        refine own_st (B := (s₁.setTop (mkF m 30 #[.val (.int p1), .val (.int (p1 - (32 : Int32)))] [(.int (67 : Int32)), (.int (p1 - (32 : Int32)))]))) (fun _ k => XS.bipush X0.here hx rfl (hb hby d2_28) k) ?_
        by_cases c30_12 : (p1 - (32 : Int32)) = (67 : Int32)
        · refine own_st (B := (s₁.setTop (mkF m 33 #[.val (.int p1), .val (.int (p1 - (32 : Int32)))] []))) (fun _ k => XS.icmpNo X0.here hx rfl (hb hby d2_30) rfl (teq c30_12).2 k) ?_
          refine own_st (B := (s₁.setTop (mkF m 34 #[.val (.int p1), .val (.int (p1 - (32 : Int32)))] [(.int (1 : Int32))]))) (fun _ k => XS.iconst X0.here hx rfl (hb hby d2_33) k) ?_
          have i_c5_1 : ¬ p1.toInt < 97 := own_tLn c5_1
          have i_c11_6 : ¬ 122 < p1.toInt := own_tLn c11_6
          have i_c22_11 : ¬ (p1 - (32 : Int32)).toInt = 65 := own_tEn c22_11
          have i_c30_12 : (p1 - (32 : Int32)).toInt = 67 := own_tE c30_12
          have d1 := c_isub p1 32
          have d2 := rng32 (p1 - 32)
          have d3 := rng32 p1
          have d4 : (32 : Int32).toInt = 32 := by decide
          rw [d4] at d1
          exact own_retI X0 hx hlk hret (hb hby d2_34) (by show own_Q1 p1 h0 _ s₁.heap _; rw [e0]; exact ⟨congrArg (fun z => some (Value.int z)) (by unfold own_bz; (repeat' split) <;> first | rfl | omega), rfl, rfl⟩) (by decide) (by decide)
        · refine own_st (B := (s₁.setTop (mkF m 35 #[.val (.int p1), .val (.int (p1 - (32 : Int32)))] []))) (fun _ k => XS.icmpYes X0.here hx rfl (pc0 := 30) (pc' := 35) rfl (hb hby d2_30) rfl (feq c30_12).2 (by decide) (by decide) k) ?_
          refine own_st (B := (s₁.setTop (mkF m 36 #[.val (.int p1), .val (.int (p1 - (32 : Int32)))] [(.int (p1 - (32 : Int32)))]))) (fun _ k => XS.iloadN X0.here hx rfl (hb hby d2_35) rfl k) ?_
          refine own_st (B := (s₁.setTop (mkF m 38 #[.val (.int p1), .val (.int (p1 - (32 : Int32)))] [(.int (71 : Int32)), (.int (p1 - (32 : Int32)))]))) (fun _ k => XS.bipush X0.here hx rfl (hb hby d2_36) k) ?_
          by_cases c38_13 : (p1 - (32 : Int32)) = (71 : Int32)
          · refine own_st (B := (s₁.setTop (mkF m 41 #[.val (.int p1), .val (.int (p1 - (32 : Int32)))] []))) (fun _ k => XS.icmpNo X0.here hx rfl (hb hby d2_38) rfl (teq c38_13).2 k) ?_
            refine own_st (B := (s₁.setTop (mkF m 42 #[.val (.int p1), .val (.int (p1 - (32 : Int32)))] [(.int (2 : Int32))]))) (fun _ k => XS.iconst X0.here hx rfl (hb hby d2_41) k) ?_
            have i_c5_1 : ¬ p1.toInt < 97 := own_tLn c5_1
            have i_c11_6 : ¬ 122 < p1.toInt := own_tLn c11_6
            have i_c22_11 : ¬ (p1 - (32 : Int32)).toInt = 65 := own_tEn c22_11
            have i_c30_12 : ¬ (p1 - (32 : Int32)).toInt = 67 := own_tEn c30_12
            have i_c38_13 : (p1 - (32 : Int32)).toInt = 71 := own_tE c38_13
            have d1 := c_isub p1 32
            have d2 := rng32 (p1 - 32)
            have d3 := rng32 p1
            have d4 : (32 : Int32).toInt = 32 := by decide
            rw [d4] at d1
            exact own_retI X0 hx hlk hret (hb hby d2_42) (by show own_Q1 p1 h0 _ s₁.heap _; rw [e0]; exact ⟨congrArg (fun z => some (Value.int z)) (by unfold own_bz; (repeat' split) <;> first | rfl | omega), rfl, rfl⟩) (by decide) (by decide)
          · refine own_st (B := (s₁.setTop (mkF m 43 #[.val (.int p1), .val (.int (p1 - (32 : Int32)))] []))) (fun _ k => XS.icmpYes X0.here hx rfl (pc0 := 38) (pc' := 43) rfl (hb hby d2_38) rfl (feq c38_13).2 (by decide) (by decide) k) ?_
            refine own_st (B := (s₁.setTop (mkF m 44 #[.val (.int p1), .val (.int (p1 - (32 : Int32)))] [(.int (p1 - (32 : Int32)))]))) (fun _ k => XS.iloadN X0.here hx rfl (hb hby d2_43) rfl k) ?_
            refine own_st (B := (s₁.setTop (mkF m 46 #[.val (.int p1), .val (.int (p1 - (32 : Int32)))] [(.int (84 : Int32)), (.int (p1 - (32 : Int32)))]))) (fun _ k => XS.bipush X0.here hx rfl (hb hby d2_44) k) ?_
            by_cases c46_14 : (p1 - (32 : Int32)) = (84 : Int32)
            · refine own_st (B := (s₁.setTop (mkF m 49 #[.val (.int p1), .val (.int (p1 - (32 : Int32)))] []))) (fun _ k => XS.icmpNo X0.here hx rfl (hb hby d2_46) rfl (teq c46_14).2 k) ?_
              refine own_st (B := (s₁.setTop (mkF m 50 #[.val (.int p1), .val (.int (p1 - (32 : Int32)))] [(.int (3 : Int32))]))) (fun _ k => XS.iconst X0.here hx rfl (hb hby d2_49) k) ?_
              have i_c5_1 : ¬ p1.toInt < 97 := own_tLn c5_1
              have i_c11_6 : ¬ 122 < p1.toInt := own_tLn c11_6
              have i_c22_11 : ¬ (p1 - (32 : Int32)).toInt = 65 := own_tEn c22_11
              have i_c30_12 : ¬ (p1 - (32 : Int32)).toInt = 67 := own_tEn c30_12
              have i_c38_13 : ¬ (p1 - (32 : Int32)).toInt = 71 := own_tEn c38_13
              have i_c46_14 : (p1 - (32 : Int32)).toInt = 84 := own_tE c46_14
              have d1 := c_isub p1 32
              have d2 := rng32 (p1 - 32)
              have d3 := rng32 p1
              have d4 : (32 : Int32).toInt = 32 := by decide
              rw [d4] at d1
              exact own_retI X0 hx hlk hret (hb hby d2_50) (by show own_Q1 p1 h0 _ s₁.heap _; rw [e0]; exact ⟨congrArg (fun z => some (Value.int z)) (by unfold own_bz; (repeat' split) <;> first | rfl | omega), rfl, rfl⟩) (by decide) (by decide)
            · refine own_st (B := (s₁.setTop (mkF m 51 #[.val (.int p1), .val (.int (p1 - (32 : Int32)))] []))) (fun _ k => XS.icmpYes X0.here hx rfl (pc0 := 46) (pc' := 51) rfl (hb hby d2_46) rfl (feq c46_14).2 (by decide) (by decide) k) ?_
              refine own_st (B := (s₁.setTop (mkF m 52 #[.val (.int p1), .val (.int (p1 - (32 : Int32)))] [(.int (-1 : Int32))]))) (fun _ k => XS.iconst X0.here hx rfl (hb hby d2_51) k) ?_
              have i_c5_1 : ¬ p1.toInt < 97 := own_tLn c5_1
              have i_c11_6 : ¬ 122 < p1.toInt := own_tLn c11_6
              have i_c22_11 : ¬ (p1 - (32 : Int32)).toInt = 65 := own_tEn c22_11
              have i_c30_12 : ¬ (p1 - (32 : Int32)).toInt = 67 := own_tEn c30_12
              have i_c38_13 : ¬ (p1 - (32 : Int32)).toInt = 71 := own_tEn c38_13
              have i_c46_14 : ¬ (p1 - (32 : Int32)).toInt = 84 := own_tEn c46_14
              have d1 := c_isub p1 32
              have d2 := rng32 (p1 - 32)
              have d3 := rng32 p1
              have d4 : (32 : Int32).toInt = 32 := by decide
              rw [d4] at d1
              exact own_retI X0 hx hlk hret (hb hby d2_52) (by show own_Q1 p1 h0 _ s₁.heap _; rw [e0]; exact ⟨congrArg (fun z => some (Value.int z)) (by unfold own_bz; (repeat' split) <;> first | rfl | omega), rfl, rfl⟩) (by decide) (by decide)
def own_Q0 (n0 : Nat) (v : Option Value) (h : Heap) (L : List Loc) : Prop := v = some (.int 1) ∧ Fr n0 L
theorem own_and7 (x : Int32) : ¬ (x &&& 7) < 0 ∧ (x &&& 7).toNatClampNeg < 8 := by
  have h := c_mask x 7 3 (by decide) (by decide)
  constructor
  · intro q
    have q' := own_tL q
    have z : (0 : Int32).toInt = 0 := by decide
    rw [z] at q'
    omega
  · show (x &&& 7).toInt.toNat < 8
    omega
theorem pd_0 : parseMethodDescriptor "(C)I" = some ⟨[.char], some .int⟩ := by decide +kernel
theorem ef_rm_law (m : MethodId) (x0 : Int32) (x1 : Int32) : entryFrame m #[(.int x0), (.int x1)] maxLocals = mkF m 0 #[.val (.int x0), .val (.int x1), .unset, .unset, .unset] [] := by first | (simp [entryFrame, mkF, argsToLocals, Value.category, maxLocals]; done) | rfl
set_option maxRecDepth 65536 in
set_option maxHeartbeats 40000000 in
theorem rm_law (l : Launch) (Z : State) (a0 : Array Value) (hw : ∀ d ∈ tables_1, d.before a0 Z = true) (ws : List Jvm.Cond) (p1 p2 : Int32) (h0 : Heap) (n0 : Nat) (Z0 : n0 ≤ h0.size)  :
    MetFree l x (head1 (Jvm.Cond.code x code maxLocals ret :: ws) room_1) (fun a U => a = #[(.int p1), (.int p2)] ∧ Z.Warmed39 U.vm ∧ U.heap = h0) (fun _ _ _ _ _ => True) (fun _ U o U' => ∃ v L, o = .returned v ∧ own_Q0 n0 v U'.heap L ∧ FrameEnd U o U' L 16 128) := by
  refine MetFree.of_bodySF (plainFor_of_name pn_1) hisR ?_
  intro p e s m args below meth c s₁ Bd hml0 hP hK
  obtain ⟨rfl, hZ, hh⟩ := hP
  have hx := Bd.exec
  have hby := Bd.bytes
  have hlk := Bd.notSynchronized
  have hret := Bd.returns
  have hml : c.maxLocals = 5 := hml0
  have hown : s.vm.findClass "com/example/splitwell/splitwell/model/DistanceModelBasePinLaw" = some m.cls := findClass_of_methodNamed Bd.named
  have hnm := (name_of_methodNamed Bd.named Bd.method).1
  have X0 : Stand p l e room_1 s m #[(.int p1), (.int p2)] below meth c s₁ [] 0 0 := Stand.of_body Bd
  have e0 : s₁.heap = h0 := by rw [← hh, Bd.state]; rfl
  have N0 := Fr.nil n0
  show own_Dn p e below (own_Ret s (own_Q0 n0) 16 128) (s₁.setTop (entryFrame m #[(.int p1), (.int p2)] maxLocals))
  rw [ef_rm_law]
  refine own_st (B := (s₁.setTop (mkF m 2 #[.val (.int p1), .val (.int p2), .unset, .unset, .unset] [(.int (8 : Int32))]))) (fun _ k => XS.bipush X0.here hx rfl (hb hby at_0) k) ?_
  obtain ⟨T1, h1, k1, X1, e1, E1, A1, st1⟩ := newP X0 hx hZ (hw _ (List.mem_of_getElem? (i := 0) rfl)) e0 (g := (mkF m 2 #[.val (.int p1), .val (.int p2), .unset, .unset, .unset] [(.int (8 : Int32))])) rfl (hb hby at_2) rfl (by decide) (cap := 8) (by decide) (by decide) (by decide) (by decide)
  obtain ⟨b1, g1⟩ : ∃ z, z = h0.size := ⟨_, rfl⟩
  rw [← g1] at A1 st1
  have g_b1 : n0 ≤ b1 := Nat.le_trans Z0 (Nat.le_of_eq g1.symm)
  have Z1 : n0 ≤ h1.size := Nat.le_trans Z0 E1.1
  refine own_st (B := (T1.setTop (mkF m 4 #[.val (.int p1), .val (.int p2), .unset, .unset, .unset] [(.ref b1)]))) st1 ?_
  have V0 : own_AV Z h1 b1 .char 8 (fun _ => defaultValue .char) := own_AV.new A1 (by decide)
  refine own_st (B := (T1.setTop (mkF m 5 #[.val (.int p1), .val (.int p2), .unset, .unset, .unset] [(.ref b1), (.ref b1)]))) (fun _ k => XS.dup X1.here hx rfl (hb hby at_4) rfl rfl k) ?_
  refine own_st (B := (T1.setTop (mkF m 6 #[.val (.int p1), .val (.int p2), .unset, .unset, .unset] [(.int (0 : Int32)), (.ref b1), (.ref b1)]))) (fun _ k => XS.iconst X1.here hx rfl (hb hby at_5) k) ?_
  refine own_st (B := (T1.setTop (mkF m 8 #[.val (.int p1), .val (.int p2), .unset, .unset, .unset] [(.int (65 : Int32)), (.int (0 : Int32)), (.ref b1), (.ref b1)]))) (fun _ k => XS.bipush X1.here hx rfl (hb hby at_6) k) ?_
  obtain ⟨T2, h2, X2, e2, W2, V2, st2⟩ := own_stC X1 hx hZ e1 V0 (i := 0) (by decide) (by decide) (by decide) (g := (mkF m 8 #[.val (.int p1), .val (.int p2), .unset, .unset, .unset] [(.int (65 : Int32)), (.int (0 : Int32)), (.ref b1), (.ref b1)])) rfl rfl (hb hby at_8)
  refine own_st (B := (T2.setTop (mkF m 9 #[.val (.int p1), .val (.int p2), .unset, .unset, .unset] [(.ref b1)]))) st2 ?_
  have N2 := Fr.snoc X2 N0 g_b1
  refine own_st (B := (T2.setTop (mkF m 10 #[.val (.int p1), .val (.int p2), .unset, .unset, .unset] [(.ref b1), (.ref b1)]))) (fun _ k => XS.dup X2.here hx rfl (hb hby at_9) rfl rfl k) ?_
  refine own_st (B := (T2.setTop (mkF m 11 #[.val (.int p1), .val (.int p2), .unset, .unset, .unset] [(.int (1 : Int32)), (.ref b1), (.ref b1)]))) (fun _ k => XS.iconst X2.here hx rfl (hb hby at_10) k) ?_
  refine own_st (B := (T2.setTop (mkF m 13 #[.val (.int p1), .val (.int p2), .unset, .unset, .unset] [(.int (97 : Int32)), (.int (1 : Int32)), (.ref b1), (.ref b1)]))) (fun _ k => XS.bipush X2.here hx rfl (hb hby at_11) k) ?_
  obtain ⟨T3, h3, X3, e3, W3, V3, st3⟩ := own_stC X2 hx hZ e2 V2 (i := 1) (by decide) (by decide) (by decide) (g := (mkF m 13 #[.val (.int p1), .val (.int p2), .unset, .unset, .unset] [(.int (97 : Int32)), (.int (1 : Int32)), (.ref b1), (.ref b1)])) rfl rfl (hb hby at_13)
  refine own_st (B := (T3.setTop (mkF m 14 #[.val (.int p1), .val (.int p2), .unset, .unset, .unset] [(.ref b1)]))) st3 ?_
  have N3 := Fr.snoc X3 N2 g_b1
  refine own_st (B := (T3.setTop (mkF m 15 #[.val (.int p1), .val (.int p2), .unset, .unset, .unset] [(.ref b1), (.ref b1)]))) (fun _ k => XS.dup X3.here hx rfl (hb hby at_14) rfl rfl k) ?_
  refine own_st (B := (T3.setTop (mkF m 16 #[.val (.int p1), .val (.int p2), .unset, .unset, .unset] [(.int (2 : Int32)), (.ref b1), (.ref b1)]))) (fun _ k => XS.iconst X3.here hx rfl (hb hby at_15) k) ?_
  refine own_st (B := (T3.setTop (mkF m 18 #[.val (.int p1), .val (.int p2), .unset, .unset, .unset] [(.int (67 : Int32)), (.int (2 : Int32)), (.ref b1), (.ref b1)]))) (fun _ k => XS.bipush X3.here hx rfl (hb hby at_16) k) ?_
  obtain ⟨T4, h4, X4, e4, W4, V4, st4⟩ := own_stC X3 hx hZ e3 V3 (i := 2) (by decide) (by decide) (by decide) (g := (mkF m 18 #[.val (.int p1), .val (.int p2), .unset, .unset, .unset] [(.int (67 : Int32)), (.int (2 : Int32)), (.ref b1), (.ref b1)])) rfl rfl (hb hby at_18)
  refine own_st (B := (T4.setTop (mkF m 19 #[.val (.int p1), .val (.int p2), .unset, .unset, .unset] [(.ref b1)]))) st4 ?_
  have N4 := Fr.snoc X4 N3 g_b1
  refine own_st (B := (T4.setTop (mkF m 20 #[.val (.int p1), .val (.int p2), .unset, .unset, .unset] [(.ref b1), (.ref b1)]))) (fun _ k => XS.dup X4.here hx rfl (hb hby at_19) rfl rfl k) ?_
  refine own_st (B := (T4.setTop (mkF m 21 #[.val (.int p1), .val (.int p2), .unset, .unset, .unset] [(.int (3 : Int32)), (.ref b1), (.ref b1)]))) (fun _ k => XS.iconst X4.here hx rfl (hb hby at_20) k) ?_
  refine own_st (B := (T4.setTop (mkF m 23 #[.val (.int p1), .val (.int p2), .unset, .unset, .unset] [(.int (99 : Int32)), (.int (3 : Int32)), (.ref b1), (.ref b1)]))) (fun _ k => XS.bipush X4.here hx rfl (hb hby at_21) k) ?_
  obtain ⟨T5, h5, X5, e5, W5, V5, st5⟩ := own_stC X4 hx hZ e4 V4 (i := 3) (by decide) (by decide) (by decide) (g := (mkF m 23 #[.val (.int p1), .val (.int p2), .unset, .unset, .unset] [(.int (99 : Int32)), (.int (3 : Int32)), (.ref b1), (.ref b1)])) rfl rfl (hb hby at_23)
  refine own_st (B := (T5.setTop (mkF m 24 #[.val (.int p1), .val (.int p2), .unset, .unset, .unset] [(.ref b1)]))) st5 ?_
  have N5 := Fr.snoc X5 N4 g_b1
  refine own_st (B := (T5.setTop (mkF m 25 #[.val (.int p1), .val (.int p2), .unset, .unset, .unset] [(.ref b1), (.ref b1)]))) (fun _ k => XS.dup X5.here hx rfl (hb hby at_24) rfl rfl k) ?_
  refine own_st (B := (T5.setTop (mkF m 26 #[.val (.int p1), .val (.int p2), .unset, .unset, .unset] [(.int (4 : Int32)), (.ref b1), (.ref b1)]))) (fun _ k => XS.iconst X5.here hx rfl (hb hby at_25) k) ?_
  refine own_st (B := (T5.setTop (mkF m 28 #[.val (.int p1), .val (.int p2), .unset, .unset, .unset] [(.int (71 : Int32)), (.int (4 : Int32)), (.ref b1), (.ref b1)]))) (fun _ k => XS.bipush X5.here hx rfl (hb hby at_26) k) ?_
  obtain ⟨T6, h6, X6, e6, W6, V6, st6⟩ := own_stC X5 hx hZ e5 V5 (i := 4) (by decide) (by decide) (by decide) (g := (mkF m 28 #[.val (.int p1), .val (.int p2), .unset, .unset, .unset] [(.int (71 : Int32)), (.int (4 : Int32)), (.ref b1), (.ref b1)])) rfl rfl (hb hby at_28)
  refine own_st (B := (T6.setTop (mkF m 29 #[.val (.int p1), .val (.int p2), .unset, .unset, .unset] [(.ref b1)]))) st6 ?_
  have N6 := Fr.snoc X6 N5 g_b1
  refine own_st (B := (T6.setTop (mkF m 30 #[.val (.int p1), .val (.int p2), .unset, .unset, .unset] [(.ref b1), (.ref b1)]))) (fun _ k => XS.dup X6.here hx rfl (hb hby at_29) rfl rfl k) ?_
  refine own_st (B := (T6.setTop (mkF m 31 #[.val (.int p1), .val (.int p2), .unset, .unset, .unset] [(.int (5 : Int32)), (.ref b1), (.ref b1)]))) (fun _ k => XS.iconst X6.here hx rfl (hb hby at_30) k) ?_
  refine own_st (B := (T6.setTop (mkF m 33 #[.val (.int p1), .val (.int p2), .unset, .unset, .unset] [(.int (103 : Int32)), (.int (5 : Int32)), (.ref b1), (.ref b1)]))) (fun _ k => XS.bipush X6.here hx rfl (hb hby at_31) k) ?_
  obtain ⟨T7, h7, X7, e7, W7, V7, st7⟩ := own_stC X6 hx hZ e6 V6 (i := 5) (by decide) (by decide) (by decide) (g := (mkF m 33 #[.val (.int p1), .val (.int p2), .unset, .unset, .unset] [(.int (103 : Int32)), (.int (5 : Int32)), (.ref b1), (.ref b1)])) rfl rfl (hb hby at_33)
  refine own_st (B := (T7.setTop (mkF m 34 #[.val (.int p1), .val (.int p2), .unset, .unset, .unset] [(.ref b1)]))) st7 ?_
  have N7 := Fr.snoc X7 N6 g_b1
  refine own_st (B := (T7.setTop (mkF m 35 #[.val (.int p1), .val (.int p2), .unset, .unset, .unset] [(.ref b1), (.ref b1)]))) (fun _ k => XS.dup X7.here hx rfl (hb hby at_34) rfl rfl k) ?_
  refine own_st (B := (T7.setTop (mkF m 37 #[.val (.int p1), .val (.int p2), .unset, .unset, .unset] [(.int (6 : Int32)), (.ref b1), (.ref b1)]))) (fun _ k => XS.bipush X7.here hx rfl (hb hby at_35) k) ?_
  refine own_st (B := (T7.setTop (mkF m 39 #[.val (.int p1), .val (.int p2), .unset, .unset, .unset] [(.int (84 : Int32)), (.int (6 : Int32)), (.ref b1), (.ref b1)]))) (fun _ k => XS.bipush X7.here hx rfl (hb hby at_37) k) ?_
  obtain ⟨T8, h8, X8, e8, W8, V8, st8⟩ := own_stC X7 hx hZ e7 V7 (i := 6) (by decide) (by decide) (by decide) (g := (mkF m 39 #[.val (.int p1), .val (.int p2), .unset, .unset, .unset] [(.int (84 : Int32)), (.int (6 : Int32)), (.ref b1), (.ref b1)])) rfl rfl (hb hby at_39)
  refine own_st (B := (T8.setTop (mkF m 40 #[.val (.int p1), .val (.int p2), .unset, .unset, .unset] [(.ref b1)]))) st8 ?_
  have N8 := Fr.snoc X8 N7 g_b1
  refine own_st (B := (T8.setTop (mkF m 41 #[.val (.int p1), .val (.int p2), .unset, .unset, .unset] [(.ref b1), (.ref b1)]))) (fun _ k => XS.dup X8.here hx rfl (hb hby at_40) rfl rfl k) ?_
  refine own_st (B := (T8.setTop (mkF m 43 #[.val (.int p1), .val (.int p2), .unset, .unset, .unset] [(.int (7 : Int32)), (.ref b1), (.ref b1)]))) (fun _ k => XS.bipush X8.here hx rfl (hb hby at_41) k) ?_
  refine own_st (B := (T8.setTop (mkF m 45 #[.val (.int p1), .val (.int p2), .unset, .unset, .unset] [(.int (116 : Int32)), (.int (7 : Int32)), (.ref b1), (.ref b1)]))) (fun _ k => XS.bipush X8.here hx rfl (hb hby at_43) k) ?_
  obtain ⟨T9, h9, X9, e9, W9, V9, st9⟩ := own_stC X8 hx hZ e8 V8 (i := 7) (by decide) (by decide) (by decide) (g := (mkF m 45 #[.val (.int p1), .val (.int p2), .unset, .unset, .unset] [(.int (116 : Int32)), (.int (7 : Int32)), (.ref b1), (.ref b1)])) rfl rfl (hb hby at_45)
  refine own_st (B := (T9.setTop (mkF m 46 #[.val (.int p1), .val (.int p2), .unset, .unset, .unset] [(.ref b1)]))) st9 ?_
  have N9 := Fr.snoc X9 N8 g_b1
  obtain ⟨f, hf, VF⟩ : ∃ f : Nat → Int32, True ∧ own_AV Z h9 b1 .char 8 (fun i => .int (f i)) := by
    refine ⟨fun i => if i = 7 then nar .char 116 else if i = 6 then nar .char 84 else if i = 5 then nar .char 103 else if i = 4 then nar .char 71 else if i = 3 then nar .char 99 else if i = 2 then nar .char 67 else if i = 1 then nar .char 97 else nar .char 65, trivial, V9.congr fun i hi => ?_⟩
    have hi' : i = 0 ∨ i = 1 ∨ i = 2 ∨ i = 3 ∨ i = 4 ∨ i = 5 ∨ i = 6 ∨ i = 7 := by omega
    rcases hi' with rfl | rfl | rfl | rfl | rfl | rfl | rfl | rfl <;> rfl
  refine own_st (B := (T9.setTop (mkF m 47 #[.val (.int p1), .val (.int p2), .val (.ref b1), .unset, .unset] []))) (fun _ k => XS.astoreN X9.here hx rfl (hb hby at_46) rfl rfl (l' := #[.val (.int p1), .val (.int p2), .val (.ref b1), .unset, .unset]) rfl k) ?_
  refine own_st (B := (T9.setTop (mkF m 48 #[.val (.int p1), .val (.int p2), .val (.ref b1), .unset, .unset] [(.int p2)]))) (fun _ k => XS.iloadN X9.here hx rfl (hb hby at_47) rfl k) ?_
  refine own_st (B := (T9.setTop (mkF m 49 #[.val (.int p1), .val (.int p2), .val (.ref b1), .unset, .unset] [(.int (1 : Int32)), (.int p2)]))) (fun _ k => XS.iconst X9.here hx rfl (hb hby at_48) k) ?_
  refine own_st (B := (T9.setTop (mkF m 50 #[.val (.int p1), .val (.int p2), .val (.ref b1), .unset, .unset] [(.int (p2 &&& (1 : Int32)))]))) (fun _ k => XS.iand X9.here hx rfl (hb hby at_49) rfl k) ?_
  suffices K : ∀ cc : Int32, own_Dn p e below (own_Ret s (own_Q0 n0) 16 128) (T9.setTop (mkF m 66 #[.val (.int p1), .val (.int p2), .val (.ref b1), .val (.int cc), .unset] [])) by
    by_cases c50_10 : (p2 &&& (1 : Int32)) = (0 : Int32)
    · refine own_st (B := (T9.setTop (mkF m 63 #[.val (.int p1), .val (.int p2), .val (.ref b1), .unset, .unset] []))) (fun _ k => XS.ifYes X9.here hx rfl (pc0 := 50) (pc' := 63) rfl (hb hby at_50) rfl ((if0 _ _).trans (teq c50_10).1) (by decide) (by decide) k) ?_
      refine own_st (B := (T9.setTop (mkF m 64 #[.val (.int p1), .val (.int p2), .val (.ref b1), .unset, .unset] [(.int p1)]))) (fun _ k => XS.iloadN X9.here hx rfl (hb hby at_63) rfl k) ?_
      refine own_st (B := (T9.setTop (mkF m 65 #[.val (.int p1), .val (.int p2), .val (.ref b1), .unset, .unset] [(.int (p1.toUInt32.toUInt16.toUInt32.toInt32))]))) (fun _ k => XS.i2c X9.here hx rfl (hb hby at_64) rfl k) ?_
      refine own_st (B := (T9.setTop (mkF m 66 #[.val (.int p1), .val (.int p2), .val (.ref b1), .val (.int (p1.toUInt32.toUInt16.toUInt32.toInt32)), .unset] []))) (fun _ k => XS.istoreN X9.here hx rfl (hb hby at_65) rfl (l' := #[.val (.int p1), .val (.int p2), .val (.ref b1), .val (.int (p1.toUInt32.toUInt16.toUInt32.toInt32)), .unset]) rfl k) ?_
      exact K _
    · refine own_st (B := (T9.setTop (mkF m 53 #[.val (.int p1), .val (.int p2), .val (.ref b1), .unset, .unset] []))) (fun _ k => XS.ifNo X9.here hx rfl (hb hby at_50) rfl ((if0 _ _).trans (feq c50_10).1) k) ?_
      refine own_st (B := (T9.setTop (mkF m 54 #[.val (.int p1), .val (.int p2), .val (.ref b1), .unset, .unset] [(.ref b1)]))) (fun _ k => XS.aloadN X9.here hx rfl (hb hby at_53) rfl rfl k) ?_
      refine own_st (B := (T9.setTop (mkF m 55 #[.val (.int p1), .val (.int p2), .val (.ref b1), .unset, .unset] [(.int p1), (.ref b1)]))) (fun _ k => XS.iloadN X9.here hx rfl (hb hby at_54) rfl k) ?_
      refine own_st (B := (T9.setTop (mkF m 57 #[.val (.int p1), .val (.int p2), .val (.ref b1), .unset, .unset] [(.int (7 : Int32)), (.int p1), (.ref b1)]))) (fun _ k => XS.bipush X9.here hx rfl (hb hby at_55) k) ?_
      refine own_st (B := (T9.setTop (mkF m 58 #[.val (.int p1), .val (.int p2), .val (.ref b1), .unset, .unset] [(.int (p1 &&& (7 : Int32))), (.ref b1)]))) (fun _ k => XS.iand X9.here hx rfl (hb hby at_57) rfl k) ?_
      refine own_st (B := (T9.setTop (mkF m 59 #[.val (.int p1), .val (.int p2), .val (.ref b1), .unset, .unset] [(.int (f (p1 &&& 7).toNatClampNeg))]))) (fun _ k => own_caload X9 hx hZ e9 VF (i := (p1 &&& 7).toNatClampNeg) rfl (own_and7 p1).1 (own_and7 p1).2 (g := (mkF m 58 #[.val (.int p1), .val (.int p2), .val (.ref b1), .unset, .unset] [(.int (p1 &&& (7 : Int32))), (.ref b1)])) rfl rfl (hb hby at_58) _ k) ?_
      refine own_st (B := (T9.setTop (mkF m 60 #[.val (.int p1), .val (.int p2), .val (.ref b1), .val (.int (f (p1 &&& 7).toNatClampNeg)), .unset] []))) (fun _ k => XS.istoreN X9.here hx rfl (hb hby at_59) rfl (l' := #[.val (.int p1), .val (.int p2), .val (.ref b1), .val (.int (f (p1 &&& 7).toNatClampNeg)), .unset]) rfl k) ?_
      refine own_st (B := (T9.setTop (mkF m 66 #[.val (.int p1), .val (.int p2), .val (.ref b1), .val (.int (f (p1 &&& 7).toNatClampNeg)), .unset] []))) (fun _ k => XS.goto X9.here hx rfl (pc0 := 60) (pc' := 66) rfl (hb hby at_60) (by decide) (by decide) k) ?_
      exact K _
  intro cc
  refine own_st (B := (T9.setTop (mkF m 67 #[.val (.int p1), .val (.int p2), .val (.ref b1), .val (.int cc), .unset] [(.int cc)]))) (fun _ k => XS.iloadN X9.here hx rfl (hb hby at_66) rfl k) ?_
  obtain ⟨v11, T11, L11, X11, Q11, st11⟩ := own_callS (W := 0) X9 hx hZ (y := (⟨"com/example/splitwell/splitwell/model/DistanceModel", "base", "(C)I"⟩ : MethodName)) hown (hw _ (List.mem_of_getElem? (i := 1) rfl)) (hw _ (List.mem_of_getElem? (i := 2) rfl)) (hw _ (List.mem_of_getElem? (i := 3) rfl)) (hw _ (List.mem_of_getElem? (i := 4) rfl)) (by decide) e9 (rm_base l Z a0 hw [] cc h9) (g := (mkF m 67 #[.val (.int p1), .val (.int p2), .val (.ref b1), .val (.int cc), .unset] [(.int cc)])) rfl (by rw [hml]; rfl) (argsL := [(.int cc)]) (rest := []) (lenOf pd_0 rfl) rfl rfl (by show 2 * 0 + _ ≤ _; exact Nat.le_of_eq rfl) (hb hby at_67) (by decide) (by decide) (by decide) (by decide)
  obtain ⟨rfl, rfl, q11⟩ := Q11
  refine own_st (B := (T11.setTop (mkF m 70 #[.val (.int p1), .val (.int p2), .val (.ref b1), .val (.int cc), .unset] [(.int (own_bz cc.toInt))]))) st11 ?_
  refine own_st (B := (T11.setTop (mkF m 72 #[.val (.int p1), .val (.int p2), .val (.ref b1), .val (.int cc), .val (.int (own_bz cc.toInt))] []))) (fun _ k => XS.istore X11.here hx rfl (hb hby at_70) rfl (l' := #[.val (.int p1), .val (.int p2), .val (.ref b1), .val (.int cc), .val (.int (own_bz cc.toInt))]) rfl k) ?_
  refine own_st (B := (T11.setTop (mkF m 74 #[.val (.int p1), .val (.int p2), .val (.ref b1), .val (.int cc), .val (.int (own_bz cc.toInt))] [(.int (own_bz cc.toInt))]))) (fun _ k => XS.iload X11.here hx rfl (hb hby at_72) rfl k) ?_
  refine own_st (B := (T11.setTop (mkF m 75 #[.val (.int p1), .val (.int p2), .val (.ref b1), .val (.int cc), .val (.int (own_bz cc.toInt))] [(.int cc), (.int (own_bz cc.toInt))]))) (fun _ k => XS.iloadN X11.here hx rfl (hb hby at_74) rfl k) ?_
  obtain ⟨v12, T12, L12, X12, Q12, st12⟩ := own_callS (W := 1) X11 hx hZ (y := (⟨"com/example/splitwell/splitwell/model/DistanceModelBasePinLaw", "reference", "(C)I"⟩ : MethodName)) hown (hw _ (List.mem_of_getElem? (i := 5) rfl)) (hw _ (List.mem_of_getElem? (i := 6) rfl)) (hw _ (List.mem_of_getElem? (i := 7) rfl)) (hw _ (List.mem_of_getElem? (i := 8) rfl)) (by decide) q11 (rm_ref l Z a0 hw [] cc h9) (g := (mkF m 75 #[.val (.int p1), .val (.int p2), .val (.ref b1), .val (.int cc), .val (.int (own_bz cc.toInt))] [(.int cc), (.int (own_bz cc.toInt))])) rfl (by rw [hml]; rfl) (argsL := [(.int cc)]) (rest := [(.int (own_bz cc.toInt))]) (lenOf pd_0 rfl) rfl rfl (by show 2 * 0 + _ ≤ _; exact Nat.le_of_eq rfl) (hb hby at_75) (by decide) (by decide) (by decide) (by decide)
  obtain ⟨rfl, rfl, q12⟩ := Q12
  refine own_st (B := (T12.setTop (mkF m 78 #[.val (.int p1), .val (.int p2), .val (.ref b1), .val (.int cc), .val (.int (own_bz cc.toInt))] [(.int (own_bz cc.toInt)), (.int (own_bz cc.toInt))]))) st12 ?_
  refine own_st (B := (T12.setTop (mkF m 81 #[.val (.int p1), .val (.int p2), .val (.ref b1), .val (.int cc), .val (.int (own_bz cc.toInt))] []))) (fun _ k => XS.icmpNo X12.here hx rfl (hb hby at_78) rfl (teq rfl).2 k) ?_
  refine own_st (B := (T12.setTop (mkF m 82 #[.val (.int p1), .val (.int p2), .val (.ref b1), .val (.int cc), .val (.int (own_bz cc.toInt))] [(.int (1 : Int32))]))) (fun _ k => XS.iconst X12.here hx rfl (hb hby at_81) k) ?_
  refine own_st (B := (T12.setTop (mkF m 86 #[.val (.int p1), .val (.int p2), .val (.ref b1), .val (.int cc), .val (.int (own_bz cc.toInt))] [(.int (1 : Int32))]))) (fun _ k => XS.goto X12.here hx rfl (pc0 := 82) (pc' := 86) rfl (hb hby at_82) (by decide) (by decide) k) ?_
  have NZ := Fr.app (Fr.app N9 (Fr.nil n0)) (Fr.nil n0)
  exact own_retN X12 hx hlk (t := .boolean) hret (by simp) (hb hby at_86) (by show own_Q0 n0 _ T12.heap _; rw [q12]; exact ⟨rfl, NZ⟩) (by decide) (by decide)
set_option maxRecDepth 65536 in
set_option maxHeartbeats 40000000 in
theorem comes_1 {Post : Tables → Env → Array Value → State → Outcome → State → Prop} (hpost : ∀ tb e args s v u, (limb_1_1.after args s (.returned v) u = true ∧ limb_1_2.after args s (.returned v) u = true ∧ True) → FrameEnd s (.returned v) u (Jvm.fieldLocs frame_1_writes args s ++ Jvm.arrayLocs frame_1_arrays args s ++ Jvm.staticLocs frame_1_statics s) 16 128 → Post tb e args s (.returned v) u) :
    ArmFor flags0 classFile x code maxLocals ret World_1 tables_1 room_1 Calls_1 rest_1 Pre_1 Post := by
  intro l hfl _ _ p e ha hc hk s m args below hf hA hF happ hP
  obtain ⟨hcalls, hrest, hpre⟩ := hP
  obtain ⟨-, -, -, hnamed, -, -, -, hat⟩ := (Spec.applies_iff hf).mp happ
  obtain ⟨hg, hn⟩ := and_e (Cond.before_iff.mp (show (Jvm.Cond.and given_1 narrow_1).before args s = true from hpre))
  obtain ⟨g1, g2⟩ := and_e hg
  obtain ⟨g3, g4⟩ := and_e g2
  obtain ⟨w0, w1, rfl⟩ : ∃ w0 w1 : Value, args = #[w0, w1] := by
    have hs : args.size = 2 := by simpa [Cond.value, given_1] using g1
    obtain ⟨L⟩ := args
    match L, hs with
    | [w0, w1], _ => exact ⟨w0, w1, rfl⟩
  have hw := fun d (hd : d ∈ tables_1) => atoms_spec (ws := Jvm.Cond.code x code maxLocals ret :: tables_1) hat d (List.mem_cons_of_mem _ hd)
  have hfit : Fit s := fun {y c} hc i hi => by
    obtain ⟨ha, rfl⟩ := Array.getElem?_eq_some_iff.mp hc
    have q := List.all_eq_true.mp ((Array.all_eq_true_iff_forall_mem.mp hF) _ (Array.getElem_mem ha)) i (List.mem_range.mpr hi)
    simpa [Array.getElem?_eq_getElem hi] using q
  obtain ⟨i0, ei0⟩ := is_v g3
  obtain rfl : w0 = (.int i0) := Option.some.inj ei0
  obtain ⟨i1, ei1⟩ := is_v g4
  obtain rfl : w1 = (.int i1) := Option.some.inj ei1
  obtain ⟨n, o, h1, h2, h3, _, L, rfl, ⟨rfl, N⟩, hq⟩ := rm_law l s _ hw tables_1 i0 i1 s.heap s.heap.size (Nat.le_refl _) p e ha hc hk s m _ below hf ((Spec.applies_iff_loose hf).mp happ).1 ⟨rfl, State.Warmed39.refl s, rfl⟩ trivial
  refine ⟨n, _, h1, h2, h3, hpost _ _ _ _ _ _ ⟨Cond.after_iff.mpr rfl, Cond.after_iff.mpr (eq_i res_at (Term.int_eval (1)) rfl), trivial⟩ ⟨hq.1, hq.2.1, (hq.2.2.sift fun y hy => Or.inr (N y hy)).mono (by decide) (by decide)⟩⟩
theorem main_1_1 : Claimed_1_1 := comes_1 fun _ _ _ _ _ _ h hF => ⟨h.1, hF⟩
theorem main_1_2 : Claimed_1_2 := comes_1 fun _ _ _ _ _ _ h hF => ⟨h.2.1, hF⟩
end Jvm.Pilot.@@N@@
namespace Jvm.Pilot.@@N@@
open Jvm Jvm.ClassFile Sem Op Lib Jvm.Free Jvm.Stand Jvm.Pilot.@@N@@.Jvm.D
/-! MADE BY PROGRAM (witnessworld.py) out of the Statement's table words and the real class files: 14 classes; the members and pool entries that the words name. The judged class is class 1, her method 2. -/
namespace start1
open Jvm.ClassFile
def u (s : String) : CpInfo := .utf8 (stringToUtf16 s)
/-- a pool by its gaps: so many unusable entries, then the entry; so many at the end -/
def gap : Nat → List CpInfo → List CpInfo
  | 0, r => r
  | n + 1, r => .unusable :: gap n r
def poolList (es : List (Nat × CpInfo)) (last : Nat) : List CpInfo := es.foldr (fun e r => gap e.1 (e.2 :: r)) (gap last [])
def pool (es : List (Nat × CpInfo)) (last : Nat) : Array CpInfo := ⟨poolList es last⟩
def fileOf (pool : Array CpInfo) (this : Nat) (attrs : Array Attribute := #[]) (ms : Array MethodInfo := #[]) (fl : Nat := 33) (sup : Nat := 0) (ifs : Array Nat := #[]) (fds : Array FieldInfo := #[]) : ClassFile where
  minorVersion := 0
  majorVersion := 65
  constantPool := pool
  accessFlags := fl
  thisClass := this
  superClass := sup
  interfaces := ifs
  fields := fds
  methods := ms
  attributes := attrs
def plain (name : String) (sup : Option ClassId) : Class where
  name := name
  kind := .ordinary
  loader := none
  accessFlags := 33
  super := sup
  interfaces := #[]
  cf := none
  fields := #[]
  methods := #[]
  instanceTypes := #[]
  staticTypes := #[]
  resolved := #[]
  callSites := []
  init := .initialized
  statics := none
  mirror := none

def pool0 : Array CpInfo := pool [(5, u "<init>"), (0, u "()V"), (1, .class_ 10), (1, u "java/lang/Object")] 113

def k0m0 : Method := { name := "<init>", desc := "()V", sig := { parameters := [], returnType := none }, accessFlags := 1, code := none }
/-- java/lang/Object -/
def k0 : Class := { plain "java/lang/Object" none with
  accessFlags := 33
  interfaces := #[]
  cf := some (fileOf pool0 8 #[] #[{ accessFlags := 1, nameIndex := 5, descriptorIndex := 6, attributes := #[] }] 33 0 #[] #[])
  fields := #[]
  methods := #[k0m0]
  instanceTypes := #[]
  staticTypes := #[]
  resolved := Array.replicate 124 none
  statics := none }

def pool1 : Array CpInfo := pool [(2, .class_ 4), (1, u "java/lang/Object"), (0, u "<init>"), (0, u "()V"), (0, .methodref 8 9), (0, .class_ 10), (0, .nameAndType 11 12), (0, u "com/example/splitwell/splitwell/model/DistanceModel"), (0, u "base"), (0, u "(C)I"), (0, .methodref 14 15), (0, .class_ 16), (0, .nameAndType 17 12), (0, u "com/example/splitwell/splitwell/model/DistanceModelBasePinLaw"), (0, u "reference"), (3, u "law"), (0, u "(II)Z")] 4

def k1m0 : Method := { name := "<init>", desc := "()V", sig := { parameters := [], returnType := none }, accessFlags := 2, code := none }
def k1c1 : Code := { maxStack := 2, maxLocals := 2, code := method_2_code, exceptionTable := #[], attributes := #[] }
def k1m1 : Method := { name := "reference", desc := "(C)I", sig := { parameters := [.char], returnType := some .int }, accessFlags := 10, code := some k1c1 }
def k1c2 : Code := { maxStack := 4, maxLocals := 5, code := code, exceptionTable := #[], attributes := #[] }
def k1m2 : Method := { name := "law", desc := "(II)Z", sig := { parameters := [.int, .int], returnType := some .boolean }, accessFlags := 9, code := some k1c2 }
/-- com/example/splitwell/splitwell/model/DistanceModelBasePinLaw -/
def k1 : Class := { plain "com/example/splitwell/splitwell/model/DistanceModelBasePinLaw" (some 0) with
  accessFlags := 49
  interfaces := #[]
  cf := some (fileOf pool1 14 #[] #[{ accessFlags := 2, nameIndex := 5, descriptorIndex := 6, attributes := #[] }, { accessFlags := 10, nameIndex := 17, descriptorIndex := 12, attributes := #[] }, { accessFlags := 9, nameIndex := 21, descriptorIndex := 22, attributes := #[] }] 49 2 #[] #[])
  fields := #[]
  methods := #[k1m0, k1m1, k1m2]
  instanceTypes := #[]
  staticTypes := #[]
  resolved := Array.replicate 27 none
  statics := none }

def pool2 : Array CpInfo := pool [(1, .class_ 2), (0, u "java/lang/constant/Constable"), (0, .class_ 4), (0, u "java/lang/Object")] 6

/-- java/lang/constant/Constable -/
def k2 : Class := { plain "java/lang/constant/Constable" (some 0) with
  accessFlags := 1537
  interfaces := #[]
  cf := some (fileOf pool2 1 #[] #[] 1537 3 #[] #[])
  fields := #[]
  methods := #[]
  instanceTypes := #[]
  staticTypes := #[]
  resolved := Array.replicate 11 none
  statics := none }

def pool3 : Array CpInfo := pool [(1, .class_ 2), (0, u "java/lang/Comparable"), (0, .class_ 4), (0, u "java/lang/Object")] 7

/-- java/lang/Comparable -/
def k3 : Class := { plain "java/lang/Comparable" (some 0) with
  accessFlags := 1537
  interfaces := #[]
  cf := some (fileOf pool3 1 #[] #[] 1537 3 #[] #[])
  fields := #[]
  methods := #[]
  instanceTypes := #[]
  staticTypes := #[]
  resolved := Array.replicate 12 none
  statics := none }

def pool4 : Array CpInfo := pool [(1, .class_ 2), (0, u "java/io/Serializable"), (0, .class_ 4), (0, u "java/lang/Object")] 2

/-- java/io/Serializable -/
def k4 : Class := { plain "java/io/Serializable" (some 0) with
  accessFlags := 1537
  interfaces := #[]
  cf := some (fileOf pool4 1 #[] #[] 1537 3 #[] #[])
  fields := #[]
  methods := #[]
  instanceTypes := #[]
  staticTypes := #[]
  resolved := Array.replicate 7 none
  statics := none }

def pool5 : Array CpInfo := pool [(2, .class_ 4), (1, u "java/lang/Enum"), (0, u "name"), (0, u "Ljava/lang/String;"), (2, u "ordinal"), (0, u "I"), (1, .class_ 14), (1, u "java/lang/Object"), (4, u "hash"), (86, .class_ 108), (1, u "java/lang/Enum$EnumDesc"), (2, .class_ 112), (0, u "java/lang/constant/Constable"), (0, .class_ 114), (0, u "java/lang/Comparable"), (0, .class_ 116), (0, u "java/io/Serializable")] 87

/-- java/lang/Enum -/
def k5 : Class := { plain "java/lang/Enum" (some 0) with
  accessFlags := 1057
  interfaces := #[2, 3, 4]
  cf := some (fileOf pool5 2 #[.nestMembers #[106]] #[] 1057 12 #[111, 113, 115] #[{ accessFlags := 18, nameIndex := 5, descriptorIndex := 6, attributes := #[] }, { accessFlags := 18, nameIndex := 9, descriptorIndex := 10, attributes := #[] }, { accessFlags := 2, nameIndex := 19, descriptorIndex := 10, attributes := #[] }])
  fields := #[{ name := "name", type := (.object "java/lang/String"), accessFlags := 18, slot := 0, constantValue := 0 }, { name := "ordinal", type := .int, accessFlags := 18, slot := 1, constantValue := 0 }, { name := "hash", type := .int, accessFlags := 2, slot := 2, constantValue := 0 }]
  methods := #[]
  instanceTypes := #[(.object "java/lang/String"), .int, .int]
  staticTypes := #[]
  resolved := Array.replicate 204 none
  statics := none }

def pool6 : Array CpInfo := pool [(1, .class_ 2), (0, u "com/example/splitwell/splitwell/model/DistanceModel"), (2, u "P"), (0, u "Lcom/example/splitwell/splitwell/model/DistanceModel;"), (2, u "JC69"), (2, u "K80"), (2, u "PARALINEAR"), (2, u "$VALUES"), (0, u "[Lcom/example/splitwell/splitwell/model/DistanceModel;"), (6, .class_ 28), (1, u "java/lang/Enum"), (8, u "modelName"), (0, u "Ljava/lang/String;"), (113, u "BASES"), (0, u "I"), (10, u "base"), (0, u "(C)I")] 9

def k6c0 : Code := { maxStack := 1, maxLocals := 1, code := prog_42_method_5_code, exceptionTable := #[], attributes := #[] }
def k6m0 : Method := { name := "base", desc := "(C)I", sig := { parameters := [.char], returnType := some .int }, accessFlags := 8, code := some k6c0 }
/-- com/example/splitwell/splitwell/model/DistanceModel -/
def k6 : Class := { plain "com/example/splitwell/splitwell/model/DistanceModel" (some 5) with
  accessFlags := 16433
  interfaces := #[]
  cf := some (fileOf pool6 1 #[] #[{ accessFlags := 8, nameIndex := 164, descriptorIndex := 165, attributes := #[] }] 16433 26 #[] #[{ accessFlags := 16409, nameIndex := 5, descriptorIndex := 6, attributes := #[] }, { accessFlags := 16409, nameIndex := 9, descriptorIndex := 6, attributes := #[] }, { accessFlags := 16409, nameIndex := 12, descriptorIndex := 6, attributes := #[] }, { accessFlags := 16409, nameIndex := 15, descriptorIndex := 6, attributes := #[] }, { accessFlags := 24, nameIndex := 152, descriptorIndex := 153, attributes := #[] }, { accessFlags := 18, nameIndex := 37, descriptorIndex := 38, attributes := #[] }, { accessFlags := 4122, nameIndex := 18, descriptorIndex := 19, attributes := #[] }])
  fields := #[{ name := "P", type := (.object "com/example/splitwell/splitwell/model/DistanceModel"), accessFlags := 16409, slot := 0, constantValue := 0 }, { name := "JC69", type := (.object "com/example/splitwell/splitwell/model/DistanceModel"), accessFlags := 16409, slot := 1, constantValue := 0 }, { name := "K80", type := (.object "com/example/splitwell/splitwell/model/DistanceModel"), accessFlags := 16409, slot := 2, constantValue := 0 }, { name := "PARALINEAR", type := (.object "com/example/splitwell/splitwell/model/DistanceModel"), accessFlags := 16409, slot := 3, constantValue := 0 }, { name := "BASES", type := .int, accessFlags := 24, slot := 4, constantValue := 0 }, { name := "modelName", type := (.object "java/lang/String"), accessFlags := 18, slot := 3, constantValue := 0 }, { name := "$VALUES", type := (.array (.object "com/example/splitwell/splitwell/model/DistanceModel")), accessFlags := 4122, slot := 5, constantValue := 0 }]
  methods := #[k6m0]
  instanceTypes := #[(.object "java/lang/String"), .int, .int, (.object "java/lang/String")]
  staticTypes := #[(.object "com/example/splitwell/splitwell/model/DistanceModel"), (.object "com/example/splitwell/splitwell/model/DistanceModel"), (.object "com/example/splitwell/splitwell/model/DistanceModel"), (.object "com/example/splitwell/splitwell/model/DistanceModel"), .int, (.array (.object "com/example/splitwell/splitwell/model/DistanceModel"))]
  resolved := Array.replicate 175 none
  statics := none }

def pool7 : Array CpInfo := pool [(1, u "java/lang/Cloneable"), (0, .class_ 1), (0, u "java/lang/Object"), (0, .class_ 3)] 3

/-- java/lang/Cloneable -/
def k7 : Class := { plain "java/lang/Cloneable" (some 0) with
  accessFlags := 1537
  interfaces := #[]
  cf := some (fileOf pool7 2 #[] #[] 1537 4 #[] #[])
  fields := #[]
  methods := #[]
  instanceTypes := #[]
  staticTypes := #[]
  resolved := Array.replicate 8 none
  statics := none }

/-- the primitive byte -/
def k8 : Class := { plain "byte" none with kind := .primitive 'B', accessFlags := 0x411 }
/-- [B -/
def k9 : Class := { plain "[B" (some 0) with kind := .array 8 .byte, interfaces := #[7, 4], accessFlags := 1041 }

/-- the primitive char -/
def k10 : Class := { plain "char" none with kind := .primitive 'C', accessFlags := 0x411 }
/-- [C -/
def k11 : Class := { plain "[C" (some 0) with kind := .array 10 .char, interfaces := #[7, 4], accessFlags := 1041 }

/-- the primitive int -/
def k12 : Class := { plain "int" none with kind := .primitive 'I', accessFlags := 0x411 }
/-- [I -/
def k13 : Class := { plain "[I" (some 0) with kind := .array 12 .int, interfaces := #[7, 4], accessFlags := 1041 }

def heap : Heap := #[]
def classes : Array Class := #[k0, k1, k2, k3, k4, k5, k6, k7, k8, k9, k10, k11, k12, k13]
def interned : List (Array UInt16 × Addr) := []
def slotsUsed : Nat := 0
def theMethod : MethodId := ⟨1, 2⟩
def args0 : Array Value := #[.int 5, .int 3]
def aboutOver (below : List Frame) : State where
  vm := { classes := classes, interned := interned.toArray }
  heap := heap
  slotsUsed := slotsUsed
  threads := #[{ frames := .invoking theMethod args0 :: below }]
def below0 : List Frame := [.native { method := ⟨0, 0⟩, args := #[] }]
def about1 : State := aboutOver below0
def p0 : Program := .bare "" "" ""
def e0 : Env := launch0.env 0 0 0
theorem w_frames : about1.frames = Frame.invoking theMethod args0 :: below0 := rfl
set_option maxRecDepth 65536 in
theorem w_args : argsFit about1.vm theMethod args0 = true := by decide +kernel
set_option maxRecDepth 65536 in
theorem w_heap : heapFits about1 = true := by decide +kernel
set_option maxRecDepth 65536 in
theorem w_runnable : about1.curStatus? = some .runnable := by decide +kernel
set_option maxRecDepth 65536 in
theorem w_alone : about1.alone = true := by decide +kernel
set_option maxRecDepth 65536 in
theorem w_named : about1.methodNamed? x = some theMethod := by decide +kernel
set_option maxRecDepth 65536 in
theorem w_hears : about1.hears theMethod below0 = true := by decide +kernel
set_option maxRecDepth 65536 in
theorem w_ripe : about1.ripe theMethod args0 below0 = true := by decide +kernel
theorem w_running : about1.status = .running := rfl
set_option maxRecDepth 65536 in
theorem w_room : about1.hasRoom e0.platform room_1 = true :=
  launch0.hasRoom_least _ room_1 (by decide +kernel) (by decide +kernel) (by decide +kernel) (by decide +kernel) (by decide +kernel) (by decide +kernel)
theorem allAtoms_all (ts : List Jvm.Cond) (a : Array Jvm.Value) (st : Jvm.State) : (allAtoms ts).before a st = ts.all (fun c => c.before a st) := by
  induction ts with
  | nil => rfl
  | cons c t ih =>
    show (Jvm.Cond.and c (allAtoms t)).before a st = _
    rw [Jvm.Cond.before_and, ih, List.all_cons]
def words1 : List Jvm.Cond := Jvm.Cond.code x code maxLocals ret :: tables_1
/-- a 'code' word, met by the world's own term for the bytes: nothing is compared byte by byte -/
theorem code_word {y : MethodName} {bytes : ByteArray} {mx : Nat} {rt : Option FieldType} {a : Array Value} {s : State} {m : MethodId} {meth : Method} {c : Code} (h1 : s.methodNamed? y = some m) (h2 : s.vm.method? m = some meth) (h3 : meth.code = some c) (h4 : c.code = bytes)
    (h5 : (c.maxLocals == mx && c.exceptionTable.isEmpty && decide (c.maxStack ≤ mostOperands) && decide (meth.sig.returnType = rt) && !meth.locks && decide (parseMethodDescriptor y.desc = some meth.sig)) = true) : (Jvm.Cond.code y bytes mx rt).before a s = true := by
  simp only [Bool.and_eq_true, beq_iff_eq, Bool.not_eq_true', decide_eq_true_eq] at h5
  obtain ⟨⟨⟨⟨⟨g1, g2⟩, g3⟩, g4⟩, g5⟩, g6⟩ := h5
  simp [Cond.before, Cond.holds, Cond.value, h1, h2, h3, h4, g1, g2, g3, g4, g5, g6]
def isCode : Jvm.Cond → Bool
  | .code _ _ _ _ => true
  | _ => false
theorem all_split {L : List Jvm.Cond} {P : Jvm.Cond → Bool} (h1 : L.all (fun c => isCode c || P c) = true) (h2 : ∀ c ∈ L.filter isCode, P c = true) : L.all P = true := by
  refine List.all_eq_true.mpr fun c hc => ?_
  have h := List.all_eq_true.mp h1 c hc
  rcases Bool.eq_false_or_eq_true (isCode c) with hi | hi
  · exact h2 c (List.mem_filter.mpr ⟨hc, hi⟩)
  · simpa [hi] using h
set_option maxRecDepth 65536 in
theorem w_c0 : (Jvm.Cond.code x code maxLocals ret).before args0 about1 = true := code_word (m := ⟨1, 2⟩) (meth := k1m2) (c := k1c2) (by decide +kernel) rfl rfl rfl (by decide +kernel)
set_option maxRecDepth 65536 in
theorem w_c1 : (Jvm.Cond.code ({ cls := "com/example/splitwell/splitwell/model/DistanceModel", name := "base", desc := "(C)I" } : Jvm.MethodName) prog_42_method_5_code (1 : Nat) (Option.some Jvm.ClassFile.FieldType.int)).before args0 about1 = true := code_word (m := ⟨6, 0⟩) (meth := k6m0) (c := k6c0) (by decide +kernel) rfl rfl rfl (by decide +kernel)
set_option maxRecDepth 65536 in
theorem w_c2 : (Jvm.Cond.code ({ cls := "com/example/splitwell/splitwell/model/DistanceModelBasePinLaw", name := "reference", desc := "(C)I" } : Jvm.MethodName) method_2_code (2 : Nat) (Option.some Jvm.ClassFile.FieldType.int)).before args0 about1 = true := code_word (m := ⟨1, 1⟩) (meth := k1m1) (c := k1c1) (by decide +kernel) rfl rfl rfl (by decide +kernel)
def codes1 : List Jvm.Cond := [Jvm.Cond.code x code maxLocals ret, Jvm.Cond.code ({ cls := "com/example/splitwell/splitwell/model/DistanceModel", name := "base", desc := "(C)I" } : Jvm.MethodName) prog_42_method_5_code (1 : Nat) (Option.some Jvm.ClassFile.FieldType.int), Jvm.Cond.code ({ cls := "com/example/splitwell/splitwell/model/DistanceModelBasePinLaw", name := "reference", desc := "(C)I" } : Jvm.MethodName) method_2_code (2 : Nat) (Option.some Jvm.ClassFile.FieldType.int)]
set_option maxRecDepth 65536 in
theorem codes_eq : words1.filter isCode = codes1 := rfl
theorem w_codes : ∀ c ∈ words1.filter isCode, c.before args0 about1 = true := by
  rw [codes_eq]
  intro c hc
  simp only [codes1, List.mem_cons, List.not_mem_nil, or_false] at hc
  rcases hc with rfl | rfl | rfl
  · exact w_c0
  · exact w_c1
  · exact w_c2
set_option maxRecDepth 65536 in
theorem w_t1 : words1.all (fun c => isCode c || c.before args0 about1) = true := by decide +kernel
theorem w_tables : (allAtoms (Jvm.Cond.code x code maxLocals ret :: tables_1)).before args0 about1 = true := by
  rw [allAtoms_all]
  show words1.all (fun c => c.before args0 about1) = true
  refine all_split ?_ w_codes
  rw [w_t1]
set_option maxRecDepth 65536 in
theorem w_case : (Jvm.Cond.and given_1 narrow_1).before args0 about1 = true := by decide +kernel
theorem w_applies : (headSpec (Jvm.Cond.code x code maxLocals ret :: tables_1) room_1).applies x e0.platform about1 = true :=
  (Spec.applies_iff w_frames).mpr ⟨w_running, w_runnable, w_alone, w_named, w_hears, w_ripe, w_room, w_tables⟩
theorem atStart : AtStart classFile x code maxLocals ret World_1 tables_1 room_1 Calls_1 rest_1 Pre_1 launch0 p0 e0 about1 theMethod args0 below0 :=
  ⟨lists_1, trivial, launch0.admits_env _ _ _, launch0.least_env, fairChoices_fair.cas, fairChoices_fair.clock, w_frames, w_args, w_heap, w_applies, trivial, trivial, w_case⟩
end start1
theorem witness_1 : WitnessClaimed_1 := ⟨start1.p0, start1.e0, start1.about1, start1.theMethod, start1.args0, start1.below0, start1.atStart⟩
end Jvm.Pilot.@@N@@
