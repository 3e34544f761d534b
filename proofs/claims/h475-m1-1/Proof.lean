import JvmDerived
import JvmDerived.Pilot.@@N@@Statement
import JvmDerived.Pilot.@@N@@Code
set_option linter.unusedVariables false
set_option linter.unusedSimpArgs false
namespace Jvm.Pilot.@@N@@
open Jvm Jvm.ClassFile Sem Op Lib Jvm.Free Jvm.Stand Jvm.LawKit Jvm.RoadKit Bundle Jvm.Pilot.@@N@@.Jvm.D
/-! what is left of a run (own_Dn) and the steps towards it: a walk goes FORWARD, goal by goal, and may fork anywhere -/
section Own
variable {p : Program} {l : Launch} {e : Env} {R : Room} {s : State} {m : MethodId} {args : Array Value} {below : List Frame} {meth : Method} {c : Code} {T : State} {locs : List Loc} {cells slots : Nat} {Z : State} {a0 : Array Value} {h : Heap}
def own_Dn (p : Program) (e : Env) (below : List Frame) (G : State → Outcome → Prop) (A : State) : Prop :=
  ∃ s₂ o, Steps p.tables e below A s₂ ∧ s₂.status = .running ∧ Ended s₂ below o ∧ G s₂ o
abbrev own_Ret (s : State) (Q : Option Value → Heap → List Loc → Prop) (k n : Nat) : State → Outcome → Prop :=
  fun s₂ o => ∃ v L, o = .returned v ∧ Q v s₂.heap L ∧ FrameEnd s o s₂ L k n
theorem own_st {G : State → Outcome → Prop} {A B : State} (k : ∀ t, Steps p.tables e below B t → Steps p.tables e below A t) (d : own_Dn p e below G B) : own_Dn p e below G A := by
  obtain ⟨n, o, h1, h2⟩ := d
  exact ⟨n, o, k n h1, h2⟩
theorem own_to {G : State → Outcome → Prop} {A B : State} (k : Steps p.tables e below A B) (d : own_Dn p e below G B) : own_Dn p e below G A := by
  obtain ⟨n, o, h1, h2⟩ := d
  exact ⟨n, o, k.trans h1, h2⟩
theorem own_ret {Q : Option Value → Heap → List Loc → Prop} {v : Option Value} {k n : Nat} {g : JFrame} (X : Stand p l e R s m args below meth c T locs cells slots) (hlk : meth.locks = false) (hv : meth.sig.returnType = none → v = none)
    (hstep : ∀ fs, (∀ (f : JFrame) (acts : List Action), f.method = m → f.locked = none → f.entered = [] → (doReturn e (T.setTop f) acts v).1 = T.setFrames fs) → Steps p.tables e below (T.setTop g) (T.setFrames fs))
    (hQ : Q v T.heap locs) (hk : cells ≤ k) (hn : slots ≤ n) : own_Dn p e below (own_Ret s Q k n) (T.setTop g) := by
  obtain ⟨fs, hr, hrun, hended, hW, hsame⟩ := X.leave (v := v) hv hlk
  exact ⟨_, _, hstep fs hr, hrun, hended, v, locs, rfl, hQ, ⟨_, rfl⟩, hW, hsame.mono hk hn⟩
/-- a return of nothing -/
theorem own_retV {Q : Option Value → Heap → List Loc → Prop} {k n pc : Nat} {Ls : Array Slot} (X : Stand p l e R s m args below meth c T locs cells slots) (hx : p.tables.exec = Jvm.exec) (hlk : meth.locks = false) (hret : meth.sig.returnType = none)
    (hd : decode c.code pc = .ok (.return_, 1)) (hQ : Q none T.heap locs) (hk : cells ≤ k) (hn : slots ≤ n) : own_Dn p e below (own_Ret s Q k n) (T.setTop (mkF m pc Ls [])) :=
  own_ret X hlk (fun _ => rfl) (fun _ hr => X.returnOut hx hret hd hr) hQ hk hn
/-- a return of a value of the return type's kind -/
theorem own_retW {Q : Option Value → Heap → List Loc → Prop} {k n pc : Nat} {Ls : Array Slot} {w : Value} {t : FieldType} {i : Instr} {rest : List Value} (X : Stand p l e R s m args below meth c T locs cells slots) (hx : p.tables.exec = Jvm.exec) (hlk : meth.locks = false)
    (hret : meth.sig.returnType = some t) (hnr : narrow t w = w)
    (hi : (i = .ireturn ∧ (t = .int ∨ t = .boolean ∨ t = .byte ∨ t = .char ∨ t = .short) ∧ ∃ z, w = .int z) ∨ (i = .lreturn ∧ t = .long ∧ ∃ z, w = .long z) ∨ (i = .dreturn ∧ t = .double ∧ ∃ z, w = .double z) ∨ (i = .freturn ∧ t = .float ∧ ∃ z, w = .float z) ∨ (i = .areturn ∧ t.isReference = true ∧ w.isRef = true))
    (hd : decode c.code pc = .ok (i, 1)) (hQ : Q (some w) T.heap locs) (hk : cells ≤ k) (hn : slots ≤ n) : own_Dn p e below (own_Ret s Q k n) (T.setTop (mkF m pc Ls (w :: rest))) :=
  own_ret X hlk (fun h => by rw [hret] at h; cases h) (fun _ hr => retOut X hx hret hnr hi hd hr) hQ hk hn
theorem own_retI {Q : Option Value → Heap → List Loc → Prop} {k n pc : Nat} {Ls : Array Slot} {z : Int32} {rest : List Value} (X : Stand p l e R s m args below meth c T locs cells slots) (hx : p.tables.exec = Jvm.exec) (hlk : meth.locks = false)
    (hret : meth.sig.returnType = some .int) (hd : decode c.code pc = .ok (.ireturn, 1)) (hQ : Q (some (.int z)) T.heap locs) (hk : cells ≤ k) (hn : slots ≤ n) : own_Dn p e below (own_Ret s Q k n) (T.setTop (mkF m pc Ls (.int z :: rest))) :=
  own_retW X hx hlk hret rfl (Or.inl ⟨rfl, Or.inl rfl, z, rfl⟩) hd hQ hk hn
theorem own_retJ {Q : Option Value → Heap → List Loc → Prop} {k n pc : Nat} {Ls : Array Slot} {z : Int64} {rest : List Value} (X : Stand p l e R s m args below meth c T locs cells slots) (hx : p.tables.exec = Jvm.exec) (hlk : meth.locks = false)
    (hret : meth.sig.returnType = some .long) (hd : decode c.code pc = .ok (.lreturn, 1)) (hQ : Q (some (.long z)) T.heap locs) (hk : cells ≤ k) (hn : slots ≤ n) : own_Dn p e below (own_Ret s Q k n) (T.setTop (mkF m pc Ls (.long z :: rest))) :=
  own_retW X hx hlk hret rfl (Or.inr (Or.inl ⟨rfl, rfl, z, rfl⟩)) hd hQ hk hn
theorem own_retA {Q : Option Value → Heap → List Loc → Prop} {k n pc : Nat} {Ls : Array Slot} {a : Addr} {t : FieldType} {rest : List Value} (X : Stand p l e R s m args below meth c T locs cells slots) (hx : p.tables.exec = Jvm.exec) (hlk : meth.locks = false)
    (hret : meth.sig.returnType = some t) (ht : t.isReference = true) (hd : decode c.code pc = .ok (.areturn, 1)) (hQ : Q (some (.ref a)) T.heap locs) (hk : cells ≤ k) (hn : slots ≤ n) : own_Dn p e below (own_Ret s Q k n) (T.setTop (mkF m pc Ls (.ref a :: rest))) :=
  own_retW X hx hlk hret (by cases t <;> first | rfl | (simp [FieldType.isReference] at ht)) (Or.inr (Or.inr (Or.inr (Or.inr ⟨rfl, ht, rfl⟩)))) hd hQ hk hn
/-- a boolean, byte, char or short -/
theorem own_retN {Q : Option Value → Heap → List Loc → Prop} {k n pc : Nat} {Ls : Array Slot} {z : Int32} {t : FieldType} {rest : List Value} (X : Stand p l e R s m args below meth c T locs cells slots) (hx : p.tables.exec = Jvm.exec) (hlk : meth.locks = false)
    (hret : meth.sig.returnType = some t) (ht : t = .boolean ∨ t = .byte ∨ t = .char ∨ t = .short) (hd : decode c.code pc = .ok (.ireturn, 1)) (hQ : Q (some (.int (nar t z))) T.heap locs) (hk : cells ≤ k) (hn : slots ≤ n) : own_Dn p e below (own_Ret s Q k n) (T.setTop (mkF m pc Ls (.int z :: rest))) :=
  own_ret X hlk (fun h => by rw [hret] at h; cases h) (fun _ hr => retN X hx hret ht hd hr) hQ hk hn
/-- a static call by the callee's contract -/
theorem own_callS {rm : Room} {W : Nat} {as' : Array Value} {Q : Option Value → Heap → List Loc → Prop} {own : String} {index : Nat} {y : MethodName} {bytes : ByteArray} {maxL : Nat} {ret : Option FieldType} (X : Stand p l e R s m args below meth c T locs cells slots) (hx : p.tables.exec = Jvm.exec) (hZ : Z.Warmed39 s.vm)
    (hown : s.vm.findClass own = some m.cls) (w1 : (Cond.methodLink own index y).before a0 Z = true) (w2 : (Cond.static y).before a0 Z = true) (w3 : (Cond.initialized y.cls).before a0 Z = true) (w4 : (Cond.code y bytes maxL ret).before a0 Z = true) (hy : y.cls ≠ "java/lang/invoke/MethodHandle" ∧ y.cls ≠ "java/lang/invoke/VarHandle")
    (eT : T.heap = h) (hM : MetFree l y (head1 [Cond.code y bytes maxL ret] rm) (fun a U => a = as' ∧ Z.Warmed39 U.vm ∧ U.heap = h) (fun _ _ _ _ _ => True) (fun _ U o U' => ∃ v L, o = .returned v ∧ Q v U'.heap L ∧ FrameEnd U o U' L rm.cells rm.slots))
    {g : JFrame} (hg : g.method = m) (hsize : g.locals.size = c.maxLocals) {argsL rest : List Value} (hlen : ∀ sig, parseMethodDescriptor y.desc = some sig → argsL.length = sig.parameters.length) (hstack : g.stack = argsL.reverse ++ rest) (has : argsL.toArray = as') (hW : 2 * g.monitorRoom + (rest.map fun v => v.category).sum ≤ W)
    (hdg : decode c.code g.pc = .ok (.invokestatic index, 3)) (hf : rm.frames + 1 ≤ R.frames) (hl : W + (maxL + 11) + rm.locals ≤ R.locals) (hc : cells + rm.cells ≤ R.cells) (hsl : slots + rm.slots ≤ R.slots) :
    ∃ v T' L, Stand p l e R s m args below meth c T' (locs ++ L) (cells + rm.cells) (slots + rm.slots) ∧ Q v T'.heap L ∧
      ∀ t, Steps p.tables e below (T'.setTop { g with pc := g.pc + 3, stack := v.toList ++ rest }) t → Steps p.tables e below (T.setTop g) t := by
  obtain ⟨v, _, ⟨T', L, k', n'⟩, -, X', ⟨Lc, hQ, l1, l2, l3⟩, st⟩ := Jvm.LawKit.callS X hx hown (mvT hZ w1) (mvT hZ w2) (mvT hZ w3) (mvT hZ w4) hy (backOf (W := W) hM hZ w4 w3 hf hl) hg hsize hlen hstack hW hdg (fun _ _ => ⟨has, eT, hc, hsl⟩)
  dsimp only [Pt.U, Pt.locs, Pt.cells, Pt.slots] at X' l1 l2 l3 st hQ
  subst l1 l2 l3
  exact ⟨v, T', Lc, X', hQ, st⟩
/-- a constructor by its contract -/
theorem own_callN {rm : Room} {W : Nat} {as' : Array Value} {Q : Option Value → Heap → List Loc → Prop} {own : String} {index : Nat} {y : MethodName} {bytes : ByteArray} {maxL : Nat} (X : Stand p l e R s m args below meth c T locs cells slots) (hx : p.tables.exec = Jvm.exec) (hZ : Z.Warmed39 s.vm) (hy1 : y.name = "<init>")
    (hown : s.vm.findClass own = some m.cls) (w1 : (Cond.methodLink own index y).before a0 Z = true) (w2 : (Cond.instanceMethod y).before a0 Z = true) (w3 : (Cond.initialized y.cls).before a0 Z = true) (w4 : (Cond.code y bytes maxL none).before a0 Z = true) (hy : y.cls ≠ "java/lang/invoke/MethodHandle" ∧ y.cls ≠ "java/lang/invoke/VarHandle")
    (eT : T.heap = h) (hM : MetFree l y (head1 [Cond.code y bytes maxL none] rm) (fun a U => a = as' ∧ Z.Warmed39 U.vm ∧ U.heap = h) (fun _ _ _ _ _ => True) (fun _ U o U' => ∃ v L, o = .returned v ∧ Q v U'.heap L ∧ FrameEnd U o U' L rm.cells rm.slots))
    {g : JFrame} (hg : g.method = m) (hsize : g.locals.size = c.maxLocals) {a : Addr} {argsL rest : List Value} (hlen : ∀ sig, parseMethodDescriptor y.desc = some sig → argsL.length = sig.parameters.length) (hstack : g.stack = argsL.reverse ++ .ref a :: rest) (has : (.ref a :: argsL).toArray = as') (hW : 2 * g.monitorRoom + (rest.map fun v => v.category).sum ≤ W)
    (hdg : decode c.code g.pc = .ok (.invokespecial index, 3)) (hf : rm.frames + 1 ≤ R.frames) (hl : W + (maxL + 11) + rm.locals ≤ R.locals) (hc : cells + rm.cells ≤ R.cells) (hsl : slots + rm.slots ≤ R.slots) :
    ∃ v T' L, Stand p l e R s m args below meth c T' (locs ++ L) (cells + rm.cells) (slots + rm.slots) ∧ Q v T'.heap L ∧
      ∀ t, Steps p.tables e below (T'.setTop { g with pc := g.pc + 3, stack := v.toList ++ rest }) t → Steps p.tables e below (T.setTop g) t := by
  obtain ⟨v, _, ⟨T', L, k', n'⟩, -, X', ⟨Lc, hQ, l1, l2, l3⟩, st⟩ := X.specialBack hx hy1 hown (mvT hZ w1) (mvT hZ w2) (mvT hZ w4) hy (backOf (W := W) hM hZ w4 w3 hf hl) hg hsize (Steps.refl _) hlen hstack hW hdg (fun _ _ => ⟨has, eT, hc, hsl⟩)
  dsimp only [Pt.U, Pt.locs, Pt.cells, Pt.slots] at X' l1 l2 l3 st hQ
  subst l1 l2 l3
  exact ⟨v, T', Lc, X', hQ, fun t k => st.trans k⟩
/-- a constructor by a payer that is at hand -/
theorem own_callNK {mc ms W : Nat} {as' : Array Value} {Q : Option Value → Heap → List Loc → Prop} {own : String} {index : Nat} {y : MethodName} {bytes : ByteArray} {maxL : Nat} (X : Stand p l e R s m args below meth c T locs cells slots) (hx : p.tables.exec = Jvm.exec) (hZ : Z.Warmed39 s.vm) (hy1 : y.name = "<init>")
    (hown : s.vm.findClass own = some m.cls) (w1 : (Cond.methodLink own index y).before a0 Z = true) (w2 : (Cond.instanceMethod y).before a0 Z = true) (w4 : (Cond.code y bytes maxL none).before a0 Z = true) (hy : y.cls ≠ "java/lang/invoke/MethodHandle" ∧ y.cls ≠ "java/lang/invoke/VarHandle")
    (eT : T.heap = h) (hK : Back l R p e below s args y 3 W (fun A a => a = as' ∧ A.U.heap = h ∧ A.cells + mc ≤ R.cells ∧ A.slots + ms ≤ R.slots) (fun A _ v B => ∃ L, Q v B.U.heap L ∧ B.locs = A.locs ++ L ∧ B.cells = A.cells + mc ∧ B.slots = A.slots + ms))
    {g : JFrame} (hg : g.method = m) (hsize : g.locals.size = c.maxLocals) {a : Addr} {argsL rest : List Value} (hlen : ∀ sig, parseMethodDescriptor y.desc = some sig → argsL.length = sig.parameters.length) (hstack : g.stack = argsL.reverse ++ .ref a :: rest) (has : (.ref a :: argsL).toArray = as') (hW : 2 * g.monitorRoom + (rest.map fun v => v.category).sum ≤ W)
    (hdg : decode c.code g.pc = .ok (.invokespecial index, 3)) (hc : cells + mc ≤ R.cells) (hsl : slots + ms ≤ R.slots) :
    ∃ v T' L, Stand p l e R s m args below meth c T' (locs ++ L) (cells + mc) (slots + ms) ∧ Q v T'.heap L ∧
      ∀ t, Steps p.tables e below (T'.setTop { g with pc := g.pc + 3, stack := v.toList ++ rest }) t → Steps p.tables e below (T.setTop g) t := by
  obtain ⟨v, _, ⟨T', L, k', n'⟩, -, X', ⟨Lc, hQ, l1, l2, l3⟩, st⟩ := X.specialBack hx hy1 hown (mvT hZ w1) (mvT hZ w2) (mvT hZ w4) hy hK hg hsize (Steps.refl _) hlen hstack hW hdg (fun _ _ => ⟨has, eT, hc, hsl⟩)
  dsimp only [Pt.U, Pt.locs, Pt.cells, Pt.slots] at X' l1 l2 l3 st hQ
  subst l1 l2 l3
  exact ⟨v, T', Lc, X', hQ, fun t k => st.trans k⟩
/-- a virtual call by the contract of the method that is selected (declared by a class, the receiver exactly of the class C) -/
theorem own_callV {rm : Room} {W : Nat} {as' : Array Value} {Q : Option Value → Heap → List Loc → Prop} {own C : String} {index : Nat} {y z : MethodName} {bytes : ByteArray} {maxL : Nat} {ret : Option FieldType} (X : Stand p l e R s m args below meth c T locs cells slots) (hx : p.tables.exec = Jvm.exec) (hZ : Z.Warmed39 s.vm)
    (hown : s.vm.findClass own = some m.cls) (w1 : (Cond.methodLink own index y).before a0 Z = true) (w2 : (Cond.declares y).before a0 Z = true) (hnf : NotFace s y) (w5 : (Cond.selects C y z).before a0 Z = true) (w6 : (Cond.instanceMethod z).before a0 Z = true) (w3 : (Cond.initialized z.cls).before a0 Z = true) (w4 : (Cond.code z bytes maxL ret).before a0 Z = true) (hy : y.cls ≠ "java/lang/invoke/MethodHandle" ∧ y.cls ≠ "java/lang/invoke/VarHandle")
    (eT : T.heap = h) (hM : MetFree l z (head1 [Cond.code z bytes maxL ret] rm) (fun a U => a = as' ∧ Z.Warmed39 U.vm ∧ U.heap = h) (fun _ _ _ _ _ => True) (fun _ U o U' => ∃ v L, o = .returned v ∧ Q v U'.heap L ∧ FrameEnd U o U' L rm.cells rm.slots))
    {a : Addr} (E : Exa Z h a C) {g : JFrame} (hg : g.method = m) (hsize : g.locals.size = c.maxLocals) {argsL rest : List Value} (hlen : ∀ sig, parseMethodDescriptor y.desc = some sig → argsL.length = sig.parameters.length) (hstack : g.stack = argsL.reverse ++ .ref a :: rest) (has : (.ref a :: argsL).toArray = as') (hW : 2 * g.monitorRoom + (rest.map fun v => v.category).sum ≤ W)
    (hdg : decode c.code g.pc = .ok (.invokevirtual index, 3)) (hf : rm.frames + 1 ≤ R.frames) (hl : W + (maxL + 11) + rm.locals ≤ R.locals) (hc : cells + rm.cells ≤ R.cells) (hsl : slots + rm.slots ≤ R.slots) :
    ∃ v T' L, Stand p l e R s m args below meth c T' (locs ++ L) (cells + rm.cells) (slots + rm.slots) ∧ Q v T'.heap L ∧
      ∀ t, Steps p.tables e below (T'.setTop { g with pc := g.pc + 3, stack := v.toList ++ rest }) t → Steps p.tables e below (T.setTop g) t := by
  obtain ⟨cq, kq, qa, qb, qc⟩ := isOf hZ eT E
  obtain ⟨v, _, ⟨T', L, k', n'⟩, -, X', ⟨Lc, hQ, l1, l2, l3⟩, st⟩ := X.virtualBack hx hown (mvT hZ w1) (mvT hZ w2) hnf (mvT hZ w5) (mvT hZ w6) hy (backOf (W := W) hM hZ w4 w3 hf hl) qa qc hg hsize (Steps.refl _) hlen hstack hW hdg (fun _ _ => ⟨has, eT, hc, hsl⟩)
  dsimp only [Pt.U, Pt.locs, Pt.cells, Pt.slots] at X' l1 l2 l3 st hQ
  subst l1 l2 l3
  exact ⟨v, T', Lc, X', hQ, fun t k => st.trans k⟩
/-- a virtual call of a method that the named class inherits from 'owner' -/
theorem own_callU {rm : Room} {W : Nat} {as' : Array Value} {Q : Option Value → Heap → List Loc → Prop} {own C owner : String} {index : Nat} {y z : MethodName} {bytes : ByteArray} {maxL : Nat} {ret : Option FieldType} (X : Stand p l e R s m args below meth c T locs cells slots) (hx : p.tables.exec = Jvm.exec) (hZ : Z.Warmed39 s.vm)
    (hown : s.vm.findClass own = some m.cls) (w1 : (Cond.methodLink own index y).before a0 Z = true) (w2 : (Cond.sameMethod y.cls owner y.name y.desc).before a0 Z = true) (w7 : (Cond.declares ⟨owner, y.name, y.desc⟩).before a0 Z = true) (ho : owner ≠ "java/lang/invoke/MethodHandle" ∧ owner ≠ "java/lang/invoke/VarHandle") (w5 : (Cond.selects C y z).before a0 Z = true) (w6 : (Cond.instanceMethod z).before a0 Z = true) (w3 : (Cond.initialized z.cls).before a0 Z = true) (w4 : (Cond.code z bytes maxL ret).before a0 Z = true)
    (eT : T.heap = h) (hM : MetFree l z (head1 [Cond.code z bytes maxL ret] rm) (fun a U => a = as' ∧ Z.Warmed39 U.vm ∧ U.heap = h) (fun _ _ _ _ _ => True) (fun _ U o U' => ∃ v L, o = .returned v ∧ Q v U'.heap L ∧ FrameEnd U o U' L rm.cells rm.slots))
    {a : Addr} (E : Exa Z h a C) {g : JFrame} (hg : g.method = m) (hsize : g.locals.size = c.maxLocals) {argsL rest : List Value} (hlen : ∀ sig, parseMethodDescriptor y.desc = some sig → argsL.length = sig.parameters.length) (hstack : g.stack = argsL.reverse ++ .ref a :: rest) (has : (.ref a :: argsL).toArray = as') (hW : 2 * g.monitorRoom + (rest.map fun v => v.category).sum ≤ W)
    (hdg : decode c.code g.pc = .ok (.invokevirtual index, 3)) (hf : rm.frames + 1 ≤ R.frames) (hl : W + (maxL + 11) + rm.locals ≤ R.locals) (hc : cells + rm.cells ≤ R.cells) (hsl : slots + rm.slots ≤ R.slots) :
    ∃ v T' L, Stand p l e R s m args below meth c T' (locs ++ L) (cells + rm.cells) (slots + rm.slots) ∧ Q v T'.heap L ∧
      ∀ t, Steps p.tables e below (T'.setTop { g with pc := g.pc + 3, stack := v.toList ++ rest }) t → Steps p.tables e below (T.setTop g) t := by
  obtain ⟨cq, kq, qa, qb, qc⟩ := isOf hZ eT E
  obtain ⟨v, _, ⟨T', L, k', n'⟩, -, X', ⟨Lc, hQ, l1, l2, l3⟩, st⟩ := X.virtualBackUp hx hown (mvT hZ w1) (mvT hZ w2) (mvT hZ w7) ho (mvT hZ w5) (mvT hZ w6) (backOf (W := W) hM hZ w4 w3 hf hl) qa qc hg hsize (Steps.refl _) hlen hstack hW hdg (fun _ _ => ⟨has, eT, hc, hsl⟩)
  dsimp only [Pt.U, Pt.locs, Pt.cells, Pt.slots] at X' l1 l2 l3 st hQ
  subst l1 l2 l3
  exact ⟨v, T', Lc, X', hQ, fun t k => st.trans k⟩
theorem own_lrem {g : JFrame} {target : State} (X : Stand p l e R s m args below meth c T locs cells slots) (hx : p.tables.exec = Jvm.exec) (hg : g.method = m) {x y : Int64} {rest : List Value} (hd : decode c.code g.pc = .ok (.lrem, 1)) (hs : g.stack = .long y :: .long x :: rest) (hy : y ≠ 0)
    (hr : Steps p.tables e below (T.setTop { g with pc := g.pc + 1, stack := .long (x % y) :: rest }) target) : Steps p.tables e below (T.setTop g) target :=
  XS.lrem X.here hx hg hd hs hy (by rw [lrem_mod]; exact hr)
end Own
/-! ints as integers -/
theorem own_tL {x y : Int32} (h : x < y) : x.toInt < y.toInt := Int32.lt_iff_toInt_lt.mp h
theorem own_tLn {x y : Int32} (h : ¬ x < y) : ¬ x.toInt < y.toInt := fun q => h (Int32.lt_iff_toInt_lt.mpr q)
theorem own_tE {x y : Int32} (h : x = y) : x.toInt = y.toInt := congrArg _ h
theorem own_tEn {x y : Int32} (h : ¬ x = y) : ¬ x.toInt = y.toInt := fun q => h (Int32.toInt_inj.mp q)
theorem own_uL {x y : Int64} (h : x < y) : x.toInt < y.toInt := Int64.lt_iff_toInt_lt.mp h
theorem own_uLn {x y : Int64} (h : ¬ x < y) : ¬ x.toInt < y.toInt := fun q => h (Int64.lt_iff_toInt_lt.mpr q)
theorem own_uE {x y : Int64} (h : x = y) : x.toInt = y.toInt := congrArg _ h
theorem own_uEn {x y : Int64} (h : ¬ x = y) : ¬ x.toInt = y.toInt := fun q => h (Int64.toInt_inj.mp q)
abbrev own_N (x : Int64) : Nat := x.toInt.toNat
theorem own_mod {x y : Int64} (hx : 0 ≤ x.toInt) (hy : 0 ≤ y.toInt) : (x % y).toInt = x.toInt % y.toInt := by
  rw [Int64.toInt_mod]
  exact Int.tmod_eq_emod_of_nonneg hx
theorem own_modN {x y : Int64} (hx : 0 ≤ x.toInt) (hy : 0 ≤ y.toInt) : own_N (x % y) = own_N x % own_N y := by
  unfold own_N
  rw [own_mod hx hy]
  exact Int.toNat_emod hx hy
theorem own_pos {y : Int64} (hy : 0 ≤ y.toInt) (h : ¬ y = 0) : 0 < y.toInt := by
  have q := own_uEn h
  have z : (0 : Int64).toInt = 0 := by decide
  rw [z] at q
  omega
theorem own_gstep (a b : Nat) : Nat.gcd b (a % b) = Nat.gcd a b := by
  rw [Nat.gcd_comm b, ← Nat.gcd_rec, Nat.gcd_comm]
theorem own_dvd00 {g v : Int64} (h1 : g = 0) (h2 : v = 0) : own_N g ∣ own_N v := by
  subst h1 h2
  exact ⟨0, by decide⟩
theorem own_dvd0n {g v : Int64} (h1 : g = 0) (h2 : ¬ v = 0) (hv : 0 ≤ v.toInt) : ¬ own_N g ∣ own_N v := by
  subst h1
  intro q
  have z : own_N 0 = 0 := by decide
  rw [z] at q
  have := Nat.eq_zero_of_zero_dvd q
  have := own_pos hv h2
  unfold own_N at *
  omega
theorem own_dvdr {g v : Int64} (hg : 0 ≤ g.toInt) (hv : 0 ≤ v.toInt) (h : v % g = 0) : own_N g ∣ own_N v := by
  have q : own_N (v % g) = 0 := by rw [h]; decide
  rw [own_modN hv hg] at q
  exact Nat.dvd_of_mod_eq_zero q
theorem own_dvdn {g v : Int64} (hg : 0 ≤ g.toInt) (hv : 0 ≤ v.toInt) (h0 : ¬ g = 0) (h : ¬ v % g = 0) : ¬ own_N g ∣ own_N v := by
  intro q
  have q' := Nat.mod_eq_zero_of_dvd q
  rw [← own_modN hv hg] at q'
  have hp := own_pos hg h0
  have hm := own_mod hv hg
  have := Int.emod_nonneg v.toInt (Int.ne_of_gt hp)
  have hn := own_pos (y := v % g) (by omega) h
  unfold own_N at q'
  omega
theorem own_dv1 {A : Prop} {r : Int32} (h : (A ∧ r = 1) ∨ (¬ A ∧ r = 0)) (q : A) : r = 1 := by
  rcases h with h | h
  · exact h.2
  · exact absurd q h.1
theorem own_dv0 {A : Prop} {r : Int32} (h : (A ∧ r = 1) ∨ (¬ A ∧ r = 0)) (q : ¬ A) : r = 0 := by
  rcases h with h | h
  · exact absurd h.1 q
  · exact h.2
theorem own_m31 (x : Int64) : 0 ≤ (x &&& 2147483647).toInt ∧ (x &&& 2147483647).toInt < 2147483648 := by
  have h := c_maskL x 2147483647 31 (by decide) (by decide)
  omega
theorem own_m63 (x : Int64) : 0 ≤ (x &&& 9223372036854775807).toInt := by
  have h := c_maskL x 9223372036854775807 63 (by decide) (by decide)
  omega
theorem own_mul {x y : Int64} (hx : 0 ≤ x.toInt ∧ x.toInt < 2147483648) (hy : 0 ≤ y.toInt ∧ y.toInt < 2147483648) : 0 ≤ (x * y).toInt := by
  have h := c_lmul x y
  have r := rng64 (x * y)
  have h1 := Int.mul_nonneg hx.1 hy.1
  have h2 : x.toInt * y.toInt ≤ 2147483648 * 2147483648 := Int.mul_le_mul (Int.le_of_lt hx.2) (Int.le_of_lt hy.2) hy.1 (by decide)
  generalize x.toInt * y.toInt = z at *
  omega
def own_Q1 (a b : Int64) (h0 : Heap) (v : Option Value) (h : Heap) (L : List Loc) : Prop := ∃ g : Int64, v = some (.long g) ∧ 0 ≤ g.toInt ∧ own_N g = Nat.gcd (own_N a) (own_N b) ∧ L = [] ∧ h = h0
def own_Q2 (r : Int32) (h0 : Heap) (v : Option Value) (h : Heap) (L : List Loc) : Prop := v = some (.int r) ∧ L = [] ∧ h = h0
def own_Q0 (n0 : Nat) (v : Option Value) (h : Heap) (L : List Loc) : Prop := v = some (.int 1) ∧ Fr n0 L
theorem d1_0 : decode prog_10_method_2_code 0 = .ok (.lload_n 0, 1) := by decide +kernel
theorem d1_1 : decode prog_10_method_2_code 1 = .ok (.lstore 4, 2) := by decide +kernel
theorem d1_3 : decode prog_10_method_2_code 3 = .ok (.lload_n 2, 1) := by decide +kernel
theorem d1_4 : decode prog_10_method_2_code 4 = .ok (.lstore 6, 2) := by decide +kernel
theorem d1_6 : decode prog_10_method_2_code 6 = .ok (.lload 6, 2) := by decide +kernel
theorem d1_8 : decode prog_10_method_2_code 8 = .ok (.lconst 0, 1) := by decide +kernel
theorem d1_9 : decode prog_10_method_2_code 9 = .ok (.lcmp, 1) := by decide +kernel
theorem d1_10 : decode prog_10_method_2_code 10 = .ok (.ifCond .eq 21, 3) := by decide +kernel
theorem d1_31 : decode prog_10_method_2_code 31 = .ok (.lload 4, 2) := by decide +kernel
theorem d1_33 : decode prog_10_method_2_code 33 = .ok (.lreturn, 1) := by decide +kernel
theorem d1_13 : decode prog_10_method_2_code 13 = .ok (.lload 4, 2) := by decide +kernel
theorem d1_15 : decode prog_10_method_2_code 15 = .ok (.lload 6, 2) := by decide +kernel
theorem d1_17 : decode prog_10_method_2_code 17 = .ok (.lrem, 1) := by decide +kernel
theorem d1_18 : decode prog_10_method_2_code 18 = .ok (.lstore 8, 2) := by decide +kernel
theorem d1_20 : decode prog_10_method_2_code 20 = .ok (.lload 6, 2) := by decide +kernel
theorem d1_22 : decode prog_10_method_2_code 22 = .ok (.lstore 4, 2) := by decide +kernel
theorem d1_24 : decode prog_10_method_2_code 24 = .ok (.lload 8, 2) := by decide +kernel
theorem d1_26 : decode prog_10_method_2_code 26 = .ok (.lstore 6, 2) := by decide +kernel
theorem d1_28 : decode prog_10_method_2_code 28 = .ok (.goto (-22), 3) := by decide +kernel
theorem ef_rm_gcd (m : MethodId) (x0 : Int64) (x1 : Int64) : entryFrame m #[(.long x0), (.long x1)] 10 = mkF m 0 #[.val (.long x0), .second, .val (.long x1), .second, .unset, .unset, .unset, .unset, .unset, .unset] [] := by first | (simp [entryFrame, mkF, argsToLocals, Value.category]; done) | rfl
theorem pn_0 : plainName "com/example/ratable/ratable/Fraction" = true := by first | (simp [plainName, overriddenIn]; done) | decide +kernel
set_option maxRecDepth 65536 in
set_option maxHeartbeats 40000000 in
theorem rm_gcd (l : Launch) (Z : State) (a0 : Array Value) (hw : ∀ d ∈ tables_1, d.before a0 Z = true) (ws : List Jvm.Cond) (q1 q2 : Int64) (h0 : Heap) (ha : 0 ≤ q1.toInt) (hb' : 0 ≤ q2.toInt) :
    MetFree l (⟨"com/example/ratable/ratable/Fraction", "gcd", "(JJ)J"⟩ : MethodName) (head1 (Jvm.Cond.code (⟨"com/example/ratable/ratable/Fraction", "gcd", "(JJ)J"⟩ : MethodName) prog_10_method_2_code 10 (some .long) :: ws) ({ frames := 0, cells := 0, slots := 0, locals := 0 } : Room)) (fun a U => a = #[(.long q1), (.long q2)] ∧ Z.Warmed39 U.vm ∧ U.heap = h0) (fun _ _ _ _ _ => True) (fun _ U o U' => ∃ v L, o = .returned v ∧ own_Q1 q1 q2 h0 v U'.heap L ∧ FrameEnd U o U' L ({ frames := 0, cells := 0, slots := 0, locals := 0 } : Room).cells ({ frames := 0, cells := 0, slots := 0, locals := 0 } : Room).slots) := by
  refine MetFree.of_bodySF (plainFor_of_name pn_0) hisR ?_
  intro p e s m args below meth c s₁ Bd hml0 hP hK
  obtain ⟨rfl, hZ, hh⟩ := hP
  have hx := Bd.exec
  have hby := Bd.bytes
  have hlk := Bd.notSynchronized
  have hret := Bd.returns
  have hml : c.maxLocals = 10 := hml0
  have hown : s.vm.findClass "com/example/ratable/ratable/Fraction" = some m.cls := findClass_of_methodNamed Bd.named
  have hnm := (name_of_methodNamed Bd.named Bd.method).1
  have X0 : Stand p l e ({ frames := 0, cells := 0, slots := 0, locals := 0 } : Room) s m #[(.long q1), (.long q2)] below meth c s₁ [] 0 0 := Stand.of_body Bd
  have e0 : s₁.heap = h0 := by rw [← hh, Bd.state]; rfl
  show own_Dn p e below (own_Ret s (own_Q1 q1 q2 h0) ({ frames := 0, cells := 0, slots := 0, locals := 0 } : Room).cells ({ frames := 0, cells := 0, slots := 0, locals := 0 } : Room).slots) (s₁.setTop (entryFrame m #[(.long q1), (.long q2)] 10))
  rw [ef_rm_gcd]
  refine own_st (B := (s₁.setTop (mkF m 1 #[.val (.long q1), .second, .val (.long q2), .second, .unset, .unset, .unset, .unset, .unset, .unset] [(.long q1)]))) (fun _ k => XS.lloadN X0.here hx rfl (hb hby d1_0) rfl k) ?_
  refine own_st (B := (s₁.setTop (mkF m 3 #[.val (.long q1), .second, .val (.long q2), .second, .val (.long q1), .second, .unset, .unset, .unset, .unset] []))) (fun _ k => XS.lstore X0.here hx rfl (hb hby d1_1) rfl (l' := #[.val (.long q1), .second, .val (.long q2), .second, .val (.long q1), .second, .unset, .unset, .unset, .unset]) rfl k) ?_
  refine own_st (B := (s₁.setTop (mkF m 4 #[.val (.long q1), .second, .val (.long q2), .second, .val (.long q1), .second, .unset, .unset, .unset, .unset] [(.long q2)]))) (fun _ k => XS.lloadN X0.here hx rfl (hb hby d1_3) rfl k) ?_
  refine own_st (B := (s₁.setTop (mkF m 6 #[.val (.long q1), .second, .val (.long q2), .second, .val (.long q1), .second, .val (.long q2), .second, .unset, .unset] []))) (fun _ k => XS.lstore X0.here hx rfl (hb hby d1_4) rfl (l' := #[.val (.long q1), .second, .val (.long q2), .second, .val (.long q1), .second, .val (.long q2), .second, .unset, .unset]) rfl k) ?_
  have loop : ∀ (k : Nat) (x y : Int64) (s8 s9 : Slot), 0 ≤ x.toInt → 0 ≤ y.toInt → own_N y ≤ k → Nat.gcd (own_N x) (own_N y) = Nat.gcd (own_N q1) (own_N q2) → ((s8 = .unset ∧ s9 = .unset) ∨ ∃ t, s8 = .val (.long t) ∧ s9 = .second) → own_Dn p e below (own_Ret s (own_Q1 q1 q2 h0) ({ frames := 0, cells := 0, slots := 0, locals := 0 } : Room).cells ({ frames := 0, cells := 0, slots := 0, locals := 0 } : Room).slots) (s₁.setTop (mkF m 6 #[.val (.long q1), .second, .val (.long q2), .second, .val (.long x), .second, .val (.long y), .second, s8, s9] [])) := by
    intro k
    induction k with
    | zero =>
      intro x y s8 s9 hx0 hy0 hk hG hs
      refine own_st (B := (s₁.setTop (mkF m 8 #[.val (.long q1), .second, .val (.long q2), .second, .val (.long x), .second, .val (.long y), .second, s8, s9] [(.long y)]))) (fun _ k => XS.lload X0.here hx rfl (hb hby d1_6) rfl k) ?_
      refine own_st (B := (s₁.setTop (mkF m 9 #[.val (.long q1), .second, .val (.long q2), .second, .val (.long x), .second, .val (.long y), .second, s8, s9] [(.long (0 : Int64)), (.long y)]))) (fun _ k => XS.lconst X0.here hx rfl (hb hby d1_8) k) ?_
      refine own_st (B := (s₁.setTop (mkF m 10 #[.val (.long q1), .second, .val (.long q2), .second, .val (.long x), .second, .val (.long y), .second, s8, s9] [(.int (lcmpW y (0 : Int64)))]))) (fun _ k => XS.lcmp X0.here hx rfl (hb hby d1_9) rfl k) ?_
      have c10 : y = 0 := by
        apply Int64.toInt_inj.mp
        have z : (0 : Int64).toInt = 0 := by decide
        rw [z]
        unfold own_N at hk
        omega
      refine own_st (B := (s₁.setTop (mkF m 31 #[.val (.long q1), .second, .val (.long q2), .second, .val (.long x), .second, .val (.long y), .second, s8, s9] []))) (fun _ k => XS.ifYes X0.here hx rfl (pc0 := 10) (pc' := 31) rfl (hb hby d1_10) rfl ((if0 _ _).trans (teq ((lw_eq y (0 : Int64)).mpr c10)).1) (by decide) (by decide) k) ?_
      refine own_st (B := (s₁.setTop (mkF m 33 #[.val (.long q1), .second, .val (.long q2), .second, .val (.long x), .second, .val (.long y), .second, s8, s9] [(.long x)]))) (fun _ k => XS.lload X0.here hx rfl (hb hby d1_31) rfl k) ?_
      have hG' : own_N x = Nat.gcd (own_N q1) (own_N q2) := by
        rw [← hG, c10]
        exact (Nat.gcd_zero_right _).symm
      exact own_retJ X0 hx hlk hret (hb hby d1_33) (by show own_Q1 q1 q2 h0 _ s₁.heap _; rw [e0]; exact ⟨x, rfl, hx0, hG', rfl, rfl⟩) (by decide) (by decide)
    | succ k ih =>
      intro x y s8 s9 hx0 hy0 hk hG hs
      refine own_st (B := (s₁.setTop (mkF m 8 #[.val (.long q1), .second, .val (.long q2), .second, .val (.long x), .second, .val (.long y), .second, s8, s9] [(.long y)]))) (fun _ k => XS.lload X0.here hx rfl (hb hby d1_6) rfl k) ?_
      refine own_st (B := (s₁.setTop (mkF m 9 #[.val (.long q1), .second, .val (.long q2), .second, .val (.long x), .second, .val (.long y), .second, s8, s9] [(.long (0 : Int64)), (.long y)]))) (fun _ k => XS.lconst X0.here hx rfl (hb hby d1_8) k) ?_
      refine own_st (B := (s₁.setTop (mkF m 10 #[.val (.long q1), .second, .val (.long q2), .second, .val (.long x), .second, .val (.long y), .second, s8, s9] [(.int (lcmpW y (0 : Int64)))]))) (fun _ k => XS.lcmp X0.here hx rfl (hb hby d1_9) rfl k) ?_
      by_cases c10 : y = (0 : Int64)
      · refine own_st (B := (s₁.setTop (mkF m 31 #[.val (.long q1), .second, .val (.long q2), .second, .val (.long x), .second, .val (.long y), .second, s8, s9] []))) (fun _ k => XS.ifYes X0.here hx rfl (pc0 := 10) (pc' := 31) rfl (hb hby d1_10) rfl ((if0 _ _).trans (teq ((lw_eq y (0 : Int64)).mpr c10)).1) (by decide) (by decide) k) ?_
        refine own_st (B := (s₁.setTop (mkF m 33 #[.val (.long q1), .second, .val (.long q2), .second, .val (.long x), .second, .val (.long y), .second, s8, s9] [(.long x)]))) (fun _ k => XS.lload X0.here hx rfl (hb hby d1_31) rfl k) ?_
        have hG' : own_N x = Nat.gcd (own_N q1) (own_N q2) := by
          rw [← hG, c10]
          exact (Nat.gcd_zero_right _).symm
        exact own_retJ X0 hx hlk hret (hb hby d1_33) (by show own_Q1 q1 q2 h0 _ s₁.heap _; rw [e0]; exact ⟨x, rfl, hx0, hG', rfl, rfl⟩) (by decide) (by decide)
      · refine own_st (B := (s₁.setTop (mkF m 13 #[.val (.long q1), .second, .val (.long q2), .second, .val (.long x), .second, .val (.long y), .second, s8, s9] []))) (fun _ k => XS.ifNo X0.here hx rfl (hb hby d1_10) rfl ((if0 _ _).trans (feq (mt (lw_eq y (0 : Int64)).mp c10)).1) k) ?_
        refine own_st (B := (s₁.setTop (mkF m 15 #[.val (.long q1), .second, .val (.long q2), .second, .val (.long x), .second, .val (.long y), .second, s8, s9] [(.long x)]))) (fun _ k => XS.lload X0.here hx rfl (hb hby d1_13) rfl k) ?_
        refine own_st (B := (s₁.setTop (mkF m 17 #[.val (.long q1), .second, .val (.long q2), .second, .val (.long x), .second, .val (.long y), .second, s8, s9] [(.long y), (.long x)]))) (fun _ k => XS.lload X0.here hx rfl (hb hby d1_15) rfl k) ?_
        refine own_st (B := (s₁.setTop (mkF m 18 #[.val (.long q1), .second, .val (.long q2), .second, .val (.long x), .second, .val (.long y), .second, s8, s9] [(.long (x % y))]))) (fun _ k => own_lrem X0 hx rfl (hb hby d1_17) rfl c10 k) ?_
        refine own_st (B := (s₁.setTop (mkF m 20 #[.val (.long q1), .second, .val (.long q2), .second, .val (.long x), .second, .val (.long y), .second, .val (.long (x % y)), .second] []))) (fun _ k => XS.lstore X0.here hx rfl (hb hby d1_18) rfl (l' := #[.val (.long q1), .second, .val (.long q2), .second, .val (.long x), .second, .val (.long y), .second, .val (.long (x % y)), .second]) (by rcases hs with ⟨rfl, rfl⟩ | ⟨t, rfl, rfl⟩ <;> rfl) k) ?_
        refine own_st (B := (s₁.setTop (mkF m 22 #[.val (.long q1), .second, .val (.long q2), .second, .val (.long x), .second, .val (.long y), .second, .val (.long (x % y)), .second] [(.long y)]))) (fun _ k => XS.lload X0.here hx rfl (hb hby d1_20) rfl k) ?_
        refine own_st (B := (s₁.setTop (mkF m 24 #[.val (.long q1), .second, .val (.long q2), .second, .val (.long y), .second, .val (.long y), .second, .val (.long (x % y)), .second] []))) (fun _ k => XS.lstore X0.here hx rfl (hb hby d1_22) rfl (l' := #[.val (.long q1), .second, .val (.long q2), .second, .val (.long y), .second, .val (.long y), .second, .val (.long (x % y)), .second]) rfl k) ?_
        refine own_st (B := (s₁.setTop (mkF m 26 #[.val (.long q1), .second, .val (.long q2), .second, .val (.long y), .second, .val (.long y), .second, .val (.long (x % y)), .second] [(.long (x % y))]))) (fun _ k => XS.lload X0.here hx rfl (hb hby d1_24) rfl k) ?_
        refine own_st (B := (s₁.setTop (mkF m 28 #[.val (.long q1), .second, .val (.long q2), .second, .val (.long y), .second, .val (.long (x % y)), .second, .val (.long (x % y)), .second] []))) (fun _ k => XS.lstore X0.here hx rfl (hb hby d1_26) rfl (l' := #[.val (.long q1), .second, .val (.long q2), .second, .val (.long y), .second, .val (.long (x % y)), .second, .val (.long (x % y)), .second]) rfl k) ?_
        refine own_st (B := (s₁.setTop (mkF m 6 #[.val (.long q1), .second, .val (.long q2), .second, .val (.long y), .second, .val (.long (x % y)), .second, .val (.long (x % y)), .second] []))) (fun _ k => XS.goto X0.here hx rfl (pc0 := 28) (pc' := 6) rfl (hb hby d1_28) (by decide) (by decide) k) ?_
        have hp := own_pos hy0 c10
        have hm := own_mod hx0 hy0
        have hbb := Int.emod_lt_of_pos x.toInt hp
        have hn := Int.emod_nonneg x.toInt (Int.ne_of_gt hp)
        refine ih y (x % y) _ _ hy0 (by omega) (by unfold own_N at hk ⊢; omega) ?_ (Or.inr ⟨_, rfl, rfl⟩)
        rw [own_modN hx0 hy0, own_gstep]
        exact hG
  exact loop _ q1 q2 .unset .unset ha hb' (Nat.le_refl _) rfl (Or.inl ⟨rfl, rfl⟩)
theorem d2_0 : decode method_2_code 0 = .ok (.lload_n 0, 1) := by decide +kernel
theorem d2_1 : decode method_2_code 1 = .ok (.lconst 0, 1) := by decide +kernel
theorem d2_2 : decode method_2_code 2 = .ok (.lcmp, 1) := by decide +kernel
theorem d2_3 : decode method_2_code 3 = .ok (.ifCond .ne 15, 3) := by decide +kernel
theorem d2_6 : decode method_2_code 6 = .ok (.lload_n 2, 1) := by decide +kernel
theorem d2_7 : decode method_2_code 7 = .ok (.lconst 0, 1) := by decide +kernel
theorem d2_8 : decode method_2_code 8 = .ok (.lcmp, 1) := by decide +kernel
theorem d2_9 : decode method_2_code 9 = .ok (.ifCond .ne 7, 3) := by decide +kernel
theorem d2_12 : decode method_2_code 12 = .ok (.iconst 1, 1) := by decide +kernel
theorem d2_13 : decode method_2_code 13 = .ok (.goto 4, 3) := by decide +kernel
theorem d2_17 : decode method_2_code 17 = .ok (.ireturn, 1) := by decide +kernel
theorem d2_16 : decode method_2_code 16 = .ok (.iconst 0, 1) := by decide +kernel
theorem d2_18 : decode method_2_code 18 = .ok (.lload_n 2, 1) := by decide +kernel
theorem d2_19 : decode method_2_code 19 = .ok (.lload_n 0, 1) := by decide +kernel
theorem d2_20 : decode method_2_code 20 = .ok (.lrem, 1) := by decide +kernel
theorem d2_21 : decode method_2_code 21 = .ok (.lconst 0, 1) := by decide +kernel
theorem d2_22 : decode method_2_code 22 = .ok (.lcmp, 1) := by decide +kernel
theorem d2_23 : decode method_2_code 23 = .ok (.ifCond .ne 7, 3) := by decide +kernel
theorem d2_26 : decode method_2_code 26 = .ok (.iconst 1, 1) := by decide +kernel
theorem d2_27 : decode method_2_code 27 = .ok (.goto 4, 3) := by decide +kernel
theorem d2_31 : decode method_2_code 31 = .ok (.ireturn, 1) := by decide +kernel
theorem d2_30 : decode method_2_code 30 = .ok (.iconst 0, 1) := by decide +kernel
theorem ef_rm_div (m : MethodId) (x0 : Int64) (x1 : Int64) : entryFrame m #[(.long x0), (.long x1)] 4 = mkF m 0 #[.val (.long x0), .second, .val (.long x1), .second] [] := by first | (simp [entryFrame, mkF, argsToLocals, Value.category]; done) | rfl
theorem pn_1 : plainName "com/example/ratable/ratable/FractionGcdPinLaw" = true := by first | (simp [plainName, overriddenIn]; done) | decide +kernel
set_option maxRecDepth 65536 in
set_option maxHeartbeats 40000000 in
theorem rm_div (l : Launch) (Z : State) (a0 : Array Value) (hw : ∀ d ∈ tables_1, d.before a0 Z = true) (ws : List Jvm.Cond) (q1 q2 : Int64) (r : Int32) (h0 : Heap) (hg : 0 ≤ q1.toInt) (hv : 0 ≤ q2.toInt) (hr : (own_N q1 ∣ own_N q2 ∧ r = 1) ∨ (¬ own_N q1 ∣ own_N q2 ∧ r = 0)) :
    MetFree l (⟨"com/example/ratable/ratable/FractionGcdPinLaw", "divides", "(JJ)Z"⟩ : MethodName) (head1 (Jvm.Cond.code (⟨"com/example/ratable/ratable/FractionGcdPinLaw", "divides", "(JJ)Z"⟩ : MethodName) method_2_code 4 (some .boolean) :: ws) ({ frames := 0, cells := 0, slots := 0, locals := 0 } : Room)) (fun a U => a = #[(.long q1), (.long q2)] ∧ Z.Warmed39 U.vm ∧ U.heap = h0) (fun _ _ _ _ _ => True) (fun _ U o U' => ∃ v L, o = .returned v ∧ own_Q2 r h0 v U'.heap L ∧ FrameEnd U o U' L ({ frames := 0, cells := 0, slots := 0, locals := 0 } : Room).cells ({ frames := 0, cells := 0, slots := 0, locals := 0 } : Room).slots) := by
  refine MetFree.of_bodySF (plainFor_of_name pn_1) hisR ?_
  intro p e s m args below meth c s₁ Bd hml0 hP hK
  obtain ⟨rfl, hZ, hh⟩ := hP
  have hx := Bd.exec
  have hby := Bd.bytes
  have hlk := Bd.notSynchronized
  have hret := Bd.returns
  have hml : c.maxLocals = 4 := hml0
  have hown : s.vm.findClass "com/example/ratable/ratable/FractionGcdPinLaw" = some m.cls := findClass_of_methodNamed Bd.named
  have hnm := (name_of_methodNamed Bd.named Bd.method).1
  have X0 : Stand p l e ({ frames := 0, cells := 0, slots := 0, locals := 0 } : Room) s m #[(.long q1), (.long q2)] below meth c s₁ [] 0 0 := Stand.of_body Bd
  have e0 : s₁.heap = h0 := by rw [← hh, Bd.state]; rfl
  show own_Dn p e below (own_Ret s (own_Q2 r h0) ({ frames := 0, cells := 0, slots := 0, locals := 0 } : Room).cells ({ frames := 0, cells := 0, slots := 0, locals := 0 } : Room).slots) (s₁.setTop (entryFrame m #[(.long q1), (.long q2)] 4))
  rw [ef_rm_div]
  refine own_st (B := (s₁.setTop (mkF m 1 #[.val (.long q1), .second, .val (.long q2), .second] [(.long q1)]))) (fun _ k => XS.lloadN X0.here hx rfl (hb hby d2_0) rfl k) ?_
  refine own_st (B := (s₁.setTop (mkF m 2 #[.val (.long q1), .second, .val (.long q2), .second] [(.long (0 : Int64)), (.long q1)]))) (fun _ k => XS.lconst X0.here hx rfl (hb hby d2_1) k) ?_
  refine own_st (B := (s₁.setTop (mkF m 3 #[.val (.long q1), .second, .val (.long q2), .second] [(.int (lcmpW q1 (0 : Int64)))]))) (fun _ k => XS.lcmp X0.here hx rfl (hb hby d2_2) rfl k) ?_
  by_cases c3 : q1 = (0 : Int64)
  · refine own_st (B := (s₁.setTop (mkF m 6 #[.val (.long q1), .second, .val (.long q2), .second] []))) (fun _ k => XS.ifNo X0.here hx rfl (hb hby d2_3) rfl ((if0 _ _).trans (teq ((lw_eq q1 (0 : Int64)).mpr c3)).2) k) ?_
    refine own_st (B := (s₁.setTop (mkF m 7 #[.val (.long q1), .second, .val (.long q2), .second] [(.long q2)]))) (fun _ k => XS.lloadN X0.here hx rfl (hb hby d2_6) rfl k) ?_
    refine own_st (B := (s₁.setTop (mkF m 8 #[.val (.long q1), .second, .val (.long q2), .second] [(.long (0 : Int64)), (.long q2)]))) (fun _ k => XS.lconst X0.here hx rfl (hb hby d2_7) k) ?_
    refine own_st (B := (s₁.setTop (mkF m 9 #[.val (.long q1), .second, .val (.long q2), .second] [(.int (lcmpW q2 (0 : Int64)))]))) (fun _ k => XS.lcmp X0.here hx rfl (hb hby d2_8) rfl k) ?_
    by_cases c9 : q2 = (0 : Int64)
    · refine own_st (B := (s₁.setTop (mkF m 12 #[.val (.long q1), .second, .val (.long q2), .second] []))) (fun _ k => XS.ifNo X0.here hx rfl (hb hby d2_9) rfl ((if0 _ _).trans (teq ((lw_eq q2 (0 : Int64)).mpr c9)).2) k) ?_
      refine own_st (B := (s₁.setTop (mkF m 13 #[.val (.long q1), .second, .val (.long q2), .second] [(.int (1 : Int32))]))) (fun _ k => XS.iconst X0.here hx rfl (hb hby d2_12) k) ?_
      refine own_st (B := (s₁.setTop (mkF m 17 #[.val (.long q1), .second, .val (.long q2), .second] [(.int (1 : Int32))]))) (fun _ k => XS.goto X0.here hx rfl (pc0 := 13) (pc' := 17) rfl (hb hby d2_13) (by decide) (by decide) k) ?_
      obtain rfl := own_dv1 hr (own_dvd00 c3 c9)
      exact own_retN X0 hx hlk (t := .boolean) hret (by simp) (hb hby d2_17) (by show own_Q2 1 h0 _ s₁.heap _; rw [e0]; exact ⟨rfl, rfl, rfl⟩) (by decide) (by decide)
    · refine own_st (B := (s₁.setTop (mkF m 16 #[.val (.long q1), .second, .val (.long q2), .second] []))) (fun _ k => XS.ifYes X0.here hx rfl (pc0 := 9) (pc' := 16) rfl (hb hby d2_9) rfl ((if0 _ _).trans (feq (mt (lw_eq q2 (0 : Int64)).mp c9)).2) (by decide) (by decide) k) ?_
      refine own_st (B := (s₁.setTop (mkF m 17 #[.val (.long q1), .second, .val (.long q2), .second] [(.int (0 : Int32))]))) (fun _ k => XS.iconst X0.here hx rfl (hb hby d2_16) k) ?_
      obtain rfl := own_dv0 hr (own_dvd0n c3 c9 hv)
      exact own_retN X0 hx hlk (t := .boolean) hret (by simp) (hb hby d2_17) (by show own_Q2 0 h0 _ s₁.heap _; rw [e0]; exact ⟨rfl, rfl, rfl⟩) (by decide) (by decide)
  · refine own_st (B := (s₁.setTop (mkF m 18 #[.val (.long q1), .second, .val (.long q2), .second] []))) (fun _ k => XS.ifYes X0.here hx rfl (pc0 := 3) (pc' := 18) rfl (hb hby d2_3) rfl ((if0 _ _).trans (feq (mt (lw_eq q1 (0 : Int64)).mp c3)).2) (by decide) (by decide) k) ?_
    refine own_st (B := (s₁.setTop (mkF m 19 #[.val (.long q1), .second, .val (.long q2), .second] [(.long q2)]))) (fun _ k => XS.lloadN X0.here hx rfl (hb hby d2_18) rfl k) ?_
    refine own_st (B := (s₁.setTop (mkF m 20 #[.val (.long q1), .second, .val (.long q2), .second] [(.long q1), (.long q2)]))) (fun _ k => XS.lloadN X0.here hx rfl (hb hby d2_19) rfl k) ?_
    refine own_st (B := (s₁.setTop (mkF m 21 #[.val (.long q1), .second, .val (.long q2), .second] [(.long (q2 % q1))]))) (fun _ k => own_lrem X0 hx rfl (hb hby d2_20) rfl c3 k) ?_
    refine own_st (B := (s₁.setTop (mkF m 22 #[.val (.long q1), .second, .val (.long q2), .second] [(.long (0 : Int64)), (.long (q2 % q1))]))) (fun _ k => XS.lconst X0.here hx rfl (hb hby d2_21) k) ?_
    refine own_st (B := (s₁.setTop (mkF m 23 #[.val (.long q1), .second, .val (.long q2), .second] [(.int (lcmpW (q2 % q1) (0 : Int64)))]))) (fun _ k => XS.lcmp X0.here hx rfl (hb hby d2_22) rfl k) ?_
    by_cases c23 : (q2 % q1) = (0 : Int64)
    · refine own_st (B := (s₁.setTop (mkF m 26 #[.val (.long q1), .second, .val (.long q2), .second] []))) (fun _ k => XS.ifNo X0.here hx rfl (hb hby d2_23) rfl ((if0 _ _).trans (teq ((lw_eq (q2 % q1) (0 : Int64)).mpr c23)).2) k) ?_
      refine own_st (B := (s₁.setTop (mkF m 27 #[.val (.long q1), .second, .val (.long q2), .second] [(.int (1 : Int32))]))) (fun _ k => XS.iconst X0.here hx rfl (hb hby d2_26) k) ?_
      refine own_st (B := (s₁.setTop (mkF m 31 #[.val (.long q1), .second, .val (.long q2), .second] [(.int (1 : Int32))]))) (fun _ k => XS.goto X0.here hx rfl (pc0 := 27) (pc' := 31) rfl (hb hby d2_27) (by decide) (by decide) k) ?_
      obtain rfl := own_dv1 hr (own_dvdr hg hv c23)
      exact own_retN X0 hx hlk (t := .boolean) hret (by simp) (hb hby d2_31) (by show own_Q2 1 h0 _ s₁.heap _; rw [e0]; exact ⟨rfl, rfl, rfl⟩) (by decide) (by decide)
    · refine own_st (B := (s₁.setTop (mkF m 30 #[.val (.long q1), .second, .val (.long q2), .second] []))) (fun _ k => XS.ifYes X0.here hx rfl (pc0 := 23) (pc' := 30) rfl (hb hby d2_23) rfl ((if0 _ _).trans (feq (mt (lw_eq (q2 % q1) (0 : Int64)).mp c23)).2) (by decide) (by decide) k) ?_
      refine own_st (B := (s₁.setTop (mkF m 31 #[.val (.long q1), .second, .val (.long q2), .second] [(.int (0 : Int32))]))) (fun _ k => XS.iconst X0.here hx rfl (hb hby d2_30) k) ?_
      obtain rfl := own_dv0 hr (own_dvdn hg hv c3 c23)
      exact own_retN X0 hx hlk (t := .boolean) hret (by simp) (hb hby d2_31) (by show own_Q2 0 h0 _ s₁.heap _; rw [e0]; exact ⟨rfl, rfl, rfl⟩) (by decide) (by decide)
theorem pd_0 : parseMethodDescriptor "(JJ)J" = some ⟨[.long, .long], some .long⟩ := by decide +kernel
theorem pd_1 : parseMethodDescriptor "(JJ)Z" = some ⟨[.long, .long], some .boolean⟩ := by decide +kernel
theorem ef_rm_law (m : MethodId) (x0 : Int64) (x1 : Int64) (x2 : Int64) (x3 : Int32) : entryFrame m #[(.long x0), (.long x1), (.long x2), (.int x3)] maxLocals = mkF m 0 #[.val (.long x0), .second, .val (.long x1), .second, .val (.long x2), .second, .val (.int x3), .unset, .unset, .unset, .unset, .unset, .unset, .unset, .unset, .unset, .unset, .unset] [] := by first | (simp [entryFrame, mkF, argsToLocals, Value.category, maxLocals]; done) | rfl
set_option maxRecDepth 65536 in
set_option maxHeartbeats 40000000 in
theorem rm_law (l : Launch) (Z : State) (a0 : Array Value) (hw : ∀ d ∈ tables_1, d.before a0 Z = true) (ws : List Jvm.Cond) (p1 p2 p3 : Int64) (p4 : Int32) (h0 : Heap) (n0 : Nat) (Z0 : n0 ≤ h0.size)  :
    MetFree l x (head1 (Jvm.Cond.code x code maxLocals ret :: ws) room_1) (fun a U => a = #[(.long p1), (.long p2), (.long p3), (.int p4)] ∧ Z.Warmed39 U.vm ∧ U.heap = h0) (fun _ _ _ _ _ => True) (fun _ U o U' => ∃ v L, o = .returned v ∧ own_Q0 n0 v U'.heap L ∧ FrameEnd U o U' L 0 0) := by
  refine MetFree.of_bodySF (plainFor_of_name pn_1) hisR ?_
  intro p e s m args below meth c s₁ Bd hml0 hP hK
  obtain ⟨rfl, hZ, hh⟩ := hP
  have hx := Bd.exec
  have hby := Bd.bytes
  have hlk := Bd.notSynchronized
  have hret := Bd.returns
  have hml : c.maxLocals = 18 := hml0
  have hown : s.vm.findClass "com/example/ratable/ratable/FractionGcdPinLaw" = some m.cls := findClass_of_methodNamed Bd.named
  have hnm := (name_of_methodNamed Bd.named Bd.method).1
  have X0 : Stand p l e room_1 s m #[(.long p1), (.long p2), (.long p3), (.int p4)] below meth c s₁ [] 0 0 := Stand.of_body Bd
  have e0 : s₁.heap = h0 := by rw [← hh, Bd.state]; rfl
  have N0 := Fr.nil n0
  show own_Dn p e below (own_Ret s (own_Q0 n0) 0 0) (s₁.setTop (entryFrame m #[(.long p1), (.long p2), (.long p3), (.int p4)] maxLocals))
  rw [ef_rm_law]
  refine own_st (B := (s₁.setTop (mkF m 2 #[.val (.long p1), .second, .val (.long p2), .second, .val (.long p3), .second, .val (.int p4), .unset, .unset, .unset, .unset, .unset, .unset, .unset, .unset, .unset, .unset, .unset] [(.int p4)]))) (fun _ k => XS.iload X0.here hx rfl (hb hby at_0) rfl k) ?_
  refine own_st (B := (s₁.setTop (mkF m 3 #[.val (.long p1), .second, .val (.long p2), .second, .val (.long p3), .second, .val (.int p4), .unset, .unset, .unset, .unset, .unset, .unset, .unset, .unset, .unset, .unset, .unset] [(.int (1 : Int32)), (.int p4)]))) (fun _ k => XS.iconst X0.here hx rfl (hb hby at_2) k) ?_
  refine own_st (B := (s₁.setTop (mkF m 4 #[.val (.long p1), .second, .val (.long p2), .second, .val (.long p3), .second, .val (.int p4), .unset, .unset, .unset, .unset, .unset, .unset, .unset, .unset, .unset, .unset, .unset] [(.int (p4 &&& (1 : Int32)))]))) (fun _ k => XS.iand X0.here hx rfl (hb hby at_3) rfl k) ?_
  by_cases c4 : (p4 &&& (1 : Int32)) = (0 : Int32)
  · refine own_st (B := (s₁.setTop (mkF m 7 #[.val (.long p1), .second, .val (.long p2), .second, .val (.long p3), .second, .val (.int p4), .unset, .unset, .unset, .unset, .unset, .unset, .unset, .unset, .unset, .unset, .unset] []))) (fun _ k => XS.ifNo X0.here hx rfl (hb hby at_4) rfl ((if0 _ _).trans (teq c4).2) k) ?_
    refine own_st (B := (s₁.setTop (mkF m 8 #[.val (.long p1), .second, .val (.long p2), .second, .val (.long p3), .second, .val (.int p4), .unset, .unset, .unset, .unset, .unset, .unset, .unset, .unset, .unset, .unset, .unset] [(.int (1 : Int32))]))) (fun _ k => XS.iconst X0.here hx rfl (hb hby at_7) k) ?_
    refine own_st (B := (s₁.setTop (mkF m 12 #[.val (.long p1), .second, .val (.long p2), .second, .val (.long p3), .second, .val (.int p4), .unset, .unset, .unset, .unset, .unset, .unset, .unset, .unset, .unset, .unset, .unset] [(.int (1 : Int32))]))) (fun _ k => XS.goto X0.here hx rfl (pc0 := 8) (pc' := 12) rfl (hb hby at_8) (by decide) (by decide) k) ?_
    refine own_st (B := (s₁.setTop (mkF m 14 #[.val (.long p1), .second, .val (.long p2), .second, .val (.long p3), .second, .val (.int p4), .val (.int (1 : Int32)), .unset, .unset, .unset, .unset, .unset, .unset, .unset, .unset, .unset, .unset] []))) (fun _ k => XS.istore X0.here hx rfl (hb hby at_12) rfl (l' := #[.val (.long p1), .second, .val (.long p2), .second, .val (.long p3), .second, .val (.int p4), .val (.int (1 : Int32)), .unset, .unset, .unset, .unset, .unset, .unset, .unset, .unset, .unset, .unset]) rfl k) ?_
    refine own_st (B := (s₁.setTop (mkF m 16 #[.val (.long p1), .second, .val (.long p2), .second, .val (.long p3), .second, .val (.int p4), .val (.int (1 : Int32)), .unset, .unset, .unset, .unset, .unset, .unset, .unset, .unset, .unset, .unset] [(.int (1 : Int32))]))) (fun _ k => XS.iload X0.here hx rfl (hb hby at_14) rfl k) ?_
    refine own_st (B := (s₁.setTop (mkF m 19 #[.val (.long p1), .second, .val (.long p2), .second, .val (.long p3), .second, .val (.int p4), .val (.int (1 : Int32)), .unset, .unset, .unset, .unset, .unset, .unset, .unset, .unset, .unset, .unset] []))) (fun _ k => XS.ifNo X0.here hx rfl (hb hby at_16) rfl ((if0 _ _).trans (feq (by decide)).1) k) ?_
    refine own_st (B := (s₁.setTop (mkF m 21 #[.val (.long p1), .second, .val (.long p2), .second, .val (.long p3), .second, .val (.int p4), .val (.int (1 : Int32)), .unset, .unset, .unset, .unset, .unset, .unset, .unset, .unset, .unset, .unset] [(.long p3)]))) (fun _ k => XS.lload X0.here hx rfl (hb hby at_19) rfl k) ?_
    refine own_st (B := (s₁.setTop (mkF m 24 #[.val (.long p1), .second, .val (.long p2), .second, .val (.long p3), .second, .val (.int p4), .val (.int (1 : Int32)), .unset, .unset, .unset, .unset, .unset, .unset, .unset, .unset, .unset, .unset] [(.long (2147483647 : Int64)), (.long p3)]))) (fun _ k => X0.ldc2Long hx hown (mvT hZ (hw _ (List.mem_of_getElem? (i := 0) rfl))) (g := (mkF m 21 #[.val (.long p1), .second, .val (.long p2), .second, .val (.long p3), .second, .val (.int p4), .val (.int (1 : Int32)), .unset, .unset, .unset, .unset, .unset, .unset, .unset, .unset, .unset, .unset] [(.long p3)])) rfl (hb hby at_21) _ k) ?_
    refine own_st (B := (s₁.setTop (mkF m 25 #[.val (.long p1), .second, .val (.long p2), .second, .val (.long p3), .second, .val (.int p4), .val (.int (1 : Int32)), .unset, .unset, .unset, .unset, .unset, .unset, .unset, .unset, .unset, .unset] [(.long (p3 &&& (2147483647 : Int64)))]))) (fun _ k => XS.land X0.here hx rfl (hb hby at_24) rfl k) ?_
    refine own_st (B := (s₁.setTop (mkF m 27 #[.val (.long p1), .second, .val (.long p2), .second, .val (.long p3), .second, .val (.int p4), .val (.int (1 : Int32)), .unset, .unset, .unset, .unset, .val (.long (p3 &&& (2147483647 : Int64))), .second, .unset, .unset, .unset, .unset] []))) (fun _ k => XS.lstore X0.here hx rfl (hb hby at_25) rfl (l' := #[.val (.long p1), .second, .val (.long p2), .second, .val (.long p3), .second, .val (.int p4), .val (.int (1 : Int32)), .unset, .unset, .unset, .unset, .val (.long (p3 &&& (2147483647 : Int64))), .second, .unset, .unset, .unset, .unset]) rfl k) ?_
    refine own_st (B := (s₁.setTop (mkF m 28 #[.val (.long p1), .second, .val (.long p2), .second, .val (.long p3), .second, .val (.int p4), .val (.int (1 : Int32)), .unset, .unset, .unset, .unset, .val (.long (p3 &&& (2147483647 : Int64))), .second, .unset, .unset, .unset, .unset] [(.long p1)]))) (fun _ k => XS.lloadN X0.here hx rfl (hb hby at_27) rfl k) ?_
    refine own_st (B := (s₁.setTop (mkF m 31 #[.val (.long p1), .second, .val (.long p2), .second, .val (.long p3), .second, .val (.int p4), .val (.int (1 : Int32)), .unset, .unset, .unset, .unset, .val (.long (p3 &&& (2147483647 : Int64))), .second, .unset, .unset, .unset, .unset] [(.long (2147483647 : Int64)), (.long p1)]))) (fun _ k => X0.ldc2Long hx hown (mvT hZ (hw _ (List.mem_of_getElem? (i := 0) rfl))) (g := (mkF m 28 #[.val (.long p1), .second, .val (.long p2), .second, .val (.long p3), .second, .val (.int p4), .val (.int (1 : Int32)), .unset, .unset, .unset, .unset, .val (.long (p3 &&& (2147483647 : Int64))), .second, .unset, .unset, .unset, .unset] [(.long p1)])) rfl (hb hby at_28) _ k) ?_
    refine own_st (B := (s₁.setTop (mkF m 32 #[.val (.long p1), .second, .val (.long p2), .second, .val (.long p3), .second, .val (.int p4), .val (.int (1 : Int32)), .unset, .unset, .unset, .unset, .val (.long (p3 &&& (2147483647 : Int64))), .second, .unset, .unset, .unset, .unset] [(.long (p1 &&& (2147483647 : Int64)))]))) (fun _ k => XS.land X0.here hx rfl (hb hby at_31) rfl k) ?_
    refine own_st (B := (s₁.setTop (mkF m 34 #[.val (.long p1), .second, .val (.long p2), .second, .val (.long p3), .second, .val (.int p4), .val (.int (1 : Int32)), .unset, .unset, .unset, .unset, .val (.long (p3 &&& (2147483647 : Int64))), .second, .val (.long (p1 &&& (2147483647 : Int64))), .second, .unset, .unset] []))) (fun _ k => XS.lstore X0.here hx rfl (hb hby at_32) rfl (l' := #[.val (.long p1), .second, .val (.long p2), .second, .val (.long p3), .second, .val (.int p4), .val (.int (1 : Int32)), .unset, .unset, .unset, .unset, .val (.long (p3 &&& (2147483647 : Int64))), .second, .val (.long (p1 &&& (2147483647 : Int64))), .second, .unset, .unset]) rfl k) ?_
    refine own_st (B := (s₁.setTop (mkF m 35 #[.val (.long p1), .second, .val (.long p2), .second, .val (.long p3), .second, .val (.int p4), .val (.int (1 : Int32)), .unset, .unset, .unset, .unset, .val (.long (p3 &&& (2147483647 : Int64))), .second, .val (.long (p1 &&& (2147483647 : Int64))), .second, .unset, .unset] [(.long p2)]))) (fun _ k => XS.lloadN X0.here hx rfl (hb hby at_34) rfl k) ?_
    refine own_st (B := (s₁.setTop (mkF m 38 #[.val (.long p1), .second, .val (.long p2), .second, .val (.long p3), .second, .val (.int p4), .val (.int (1 : Int32)), .unset, .unset, .unset, .unset, .val (.long (p3 &&& (2147483647 : Int64))), .second, .val (.long (p1 &&& (2147483647 : Int64))), .second, .unset, .unset] [(.long (2147483647 : Int64)), (.long p2)]))) (fun _ k => X0.ldc2Long hx hown (mvT hZ (hw _ (List.mem_of_getElem? (i := 0) rfl))) (g := (mkF m 35 #[.val (.long p1), .second, .val (.long p2), .second, .val (.long p3), .second, .val (.int p4), .val (.int (1 : Int32)), .unset, .unset, .unset, .unset, .val (.long (p3 &&& (2147483647 : Int64))), .second, .val (.long (p1 &&& (2147483647 : Int64))), .second, .unset, .unset] [(.long p2)])) rfl (hb hby at_35) _ k) ?_
    refine own_st (B := (s₁.setTop (mkF m 39 #[.val (.long p1), .second, .val (.long p2), .second, .val (.long p3), .second, .val (.int p4), .val (.int (1 : Int32)), .unset, .unset, .unset, .unset, .val (.long (p3 &&& (2147483647 : Int64))), .second, .val (.long (p1 &&& (2147483647 : Int64))), .second, .unset, .unset] [(.long (p2 &&& (2147483647 : Int64)))]))) (fun _ k => XS.land X0.here hx rfl (hb hby at_38) rfl k) ?_
    refine own_st (B := (s₁.setTop (mkF m 41 #[.val (.long p1), .second, .val (.long p2), .second, .val (.long p3), .second, .val (.int p4), .val (.int (1 : Int32)), .unset, .unset, .unset, .unset, .val (.long (p3 &&& (2147483647 : Int64))), .second, .val (.long (p1 &&& (2147483647 : Int64))), .second, .val (.long (p2 &&& (2147483647 : Int64))), .second] []))) (fun _ k => XS.lstore X0.here hx rfl (hb hby at_39) rfl (l' := #[.val (.long p1), .second, .val (.long p2), .second, .val (.long p3), .second, .val (.int p4), .val (.int (1 : Int32)), .unset, .unset, .unset, .unset, .val (.long (p3 &&& (2147483647 : Int64))), .second, .val (.long (p1 &&& (2147483647 : Int64))), .second, .val (.long (p2 &&& (2147483647 : Int64))), .second]) rfl k) ?_
    refine own_st (B := (s₁.setTop (mkF m 43 #[.val (.long p1), .second, .val (.long p2), .second, .val (.long p3), .second, .val (.int p4), .val (.int (1 : Int32)), .unset, .unset, .unset, .unset, .val (.long (p3 &&& (2147483647 : Int64))), .second, .val (.long (p1 &&& (2147483647 : Int64))), .second, .val (.long (p2 &&& (2147483647 : Int64))), .second] [(.long (p3 &&& (2147483647 : Int64)))]))) (fun _ k => XS.lload X0.here hx rfl (hb hby at_41) rfl k) ?_
    refine own_st (B := (s₁.setTop (mkF m 45 #[.val (.long p1), .second, .val (.long p2), .second, .val (.long p3), .second, .val (.int p4), .val (.int (1 : Int32)), .unset, .unset, .unset, .unset, .val (.long (p3 &&& (2147483647 : Int64))), .second, .val (.long (p1 &&& (2147483647 : Int64))), .second, .val (.long (p2 &&& (2147483647 : Int64))), .second] [(.long (p1 &&& (2147483647 : Int64))), (.long (p3 &&& (2147483647 : Int64)))]))) (fun _ k => XS.lload X0.here hx rfl (hb hby at_43) rfl k) ?_
    refine own_st (B := (s₁.setTop (mkF m 46 #[.val (.long p1), .second, .val (.long p2), .second, .val (.long p3), .second, .val (.int p4), .val (.int (1 : Int32)), .unset, .unset, .unset, .unset, .val (.long (p3 &&& (2147483647 : Int64))), .second, .val (.long (p1 &&& (2147483647 : Int64))), .second, .val (.long (p2 &&& (2147483647 : Int64))), .second] [(.long ((p3 &&& (2147483647 : Int64)) * (p1 &&& (2147483647 : Int64))))]))) (fun _ k => XS.lmul X0.here hx rfl (hb hby at_45) rfl k) ?_
    refine own_st (B := (s₁.setTop (mkF m 48 #[.val (.long p1), .second, .val (.long p2), .second, .val (.long p3), .second, .val (.int p4), .val (.int (1 : Int32)), .val (.long ((p3 &&& (2147483647 : Int64)) * (p1 &&& (2147483647 : Int64)))), .second, .unset, .unset, .val (.long (p3 &&& (2147483647 : Int64))), .second, .val (.long (p1 &&& (2147483647 : Int64))), .second, .val (.long (p2 &&& (2147483647 : Int64))), .second] []))) (fun _ k => XS.lstore X0.here hx rfl (hb hby at_46) rfl (l' := #[.val (.long p1), .second, .val (.long p2), .second, .val (.long p3), .second, .val (.int p4), .val (.int (1 : Int32)), .val (.long ((p3 &&& (2147483647 : Int64)) * (p1 &&& (2147483647 : Int64)))), .second, .unset, .unset, .val (.long (p3 &&& (2147483647 : Int64))), .second, .val (.long (p1 &&& (2147483647 : Int64))), .second, .val (.long (p2 &&& (2147483647 : Int64))), .second]) rfl k) ?_
    refine own_st (B := (s₁.setTop (mkF m 50 #[.val (.long p1), .second, .val (.long p2), .second, .val (.long p3), .second, .val (.int p4), .val (.int (1 : Int32)), .val (.long ((p3 &&& (2147483647 : Int64)) * (p1 &&& (2147483647 : Int64)))), .second, .unset, .unset, .val (.long (p3 &&& (2147483647 : Int64))), .second, .val (.long (p1 &&& (2147483647 : Int64))), .second, .val (.long (p2 &&& (2147483647 : Int64))), .second] [(.long (p3 &&& (2147483647 : Int64)))]))) (fun _ k => XS.lload X0.here hx rfl (hb hby at_48) rfl k) ?_
    refine own_st (B := (s₁.setTop (mkF m 52 #[.val (.long p1), .second, .val (.long p2), .second, .val (.long p3), .second, .val (.int p4), .val (.int (1 : Int32)), .val (.long ((p3 &&& (2147483647 : Int64)) * (p1 &&& (2147483647 : Int64)))), .second, .unset, .unset, .val (.long (p3 &&& (2147483647 : Int64))), .second, .val (.long (p1 &&& (2147483647 : Int64))), .second, .val (.long (p2 &&& (2147483647 : Int64))), .second] [(.long (p2 &&& (2147483647 : Int64))), (.long (p3 &&& (2147483647 : Int64)))]))) (fun _ k => XS.lload X0.here hx rfl (hb hby at_50) rfl k) ?_
    refine own_st (B := (s₁.setTop (mkF m 53 #[.val (.long p1), .second, .val (.long p2), .second, .val (.long p3), .second, .val (.int p4), .val (.int (1 : Int32)), .val (.long ((p3 &&& (2147483647 : Int64)) * (p1 &&& (2147483647 : Int64)))), .second, .unset, .unset, .val (.long (p3 &&& (2147483647 : Int64))), .second, .val (.long (p1 &&& (2147483647 : Int64))), .second, .val (.long (p2 &&& (2147483647 : Int64))), .second] [(.long ((p3 &&& (2147483647 : Int64)) * (p2 &&& (2147483647 : Int64))))]))) (fun _ k => XS.lmul X0.here hx rfl (hb hby at_52) rfl k) ?_
    refine own_st (B := (s₁.setTop (mkF m 55 #[.val (.long p1), .second, .val (.long p2), .second, .val (.long p3), .second, .val (.int p4), .val (.int (1 : Int32)), .val (.long ((p3 &&& (2147483647 : Int64)) * (p1 &&& (2147483647 : Int64)))), .second, .val (.long ((p3 &&& (2147483647 : Int64)) * (p2 &&& (2147483647 : Int64)))), .second, .val (.long (p3 &&& (2147483647 : Int64))), .second, .val (.long (p1 &&& (2147483647 : Int64))), .second, .val (.long (p2 &&& (2147483647 : Int64))), .second] []))) (fun _ k => XS.lstore X0.here hx rfl (hb hby at_53) rfl (l' := #[.val (.long p1), .second, .val (.long p2), .second, .val (.long p3), .second, .val (.int p4), .val (.int (1 : Int32)), .val (.long ((p3 &&& (2147483647 : Int64)) * (p1 &&& (2147483647 : Int64)))), .second, .val (.long ((p3 &&& (2147483647 : Int64)) * (p2 &&& (2147483647 : Int64)))), .second, .val (.long (p3 &&& (2147483647 : Int64))), .second, .val (.long (p1 &&& (2147483647 : Int64))), .second, .val (.long (p2 &&& (2147483647 : Int64))), .second]) rfl k) ?_
    refine own_st (B := (s₁.setTop (mkF m 80 #[.val (.long p1), .second, .val (.long p2), .second, .val (.long p3), .second, .val (.int p4), .val (.int (1 : Int32)), .val (.long ((p3 &&& (2147483647 : Int64)) * (p1 &&& (2147483647 : Int64)))), .second, .val (.long ((p3 &&& (2147483647 : Int64)) * (p2 &&& (2147483647 : Int64)))), .second, .val (.long (p3 &&& (2147483647 : Int64))), .second, .val (.long (p1 &&& (2147483647 : Int64))), .second, .val (.long (p2 &&& (2147483647 : Int64))), .second] []))) (fun _ k => XS.goto X0.here hx rfl (pc0 := 55) (pc' := 80) rfl (hb hby at_55) (by decide) (by decide) k) ?_
    have pa := own_mul (own_m31 p3) (own_m31 p1)
    generalize ((p3 &&& (2147483647 : Int64)) * (p1 &&& (2147483647 : Int64))) = ua at *
    have pb := own_mul (own_m31 p3) (own_m31 p2)
    generalize ((p3 &&& (2147483647 : Int64)) * (p2 &&& (2147483647 : Int64))) = ub at *
    have pd := (own_m31 p3).1
    generalize (p3 &&& (2147483647 : Int64)) = ud at *
    refine own_st (B := (s₁.setTop (mkF m 82 #[.val (.long p1), .second, .val (.long p2), .second, .val (.long p3), .second, .val (.int p4), .val (.int (1 : Int32)), .val (.long ua), .second, .val (.long ub), .second, .val (.long ud), .second, .val (.long (p1 &&& (2147483647 : Int64))), .second, .val (.long (p2 &&& (2147483647 : Int64))), .second] [(.long ua)]))) (fun _ k => XS.lload X0.here hx rfl (hb hby at_80) rfl k) ?_
    refine own_st (B := (s₁.setTop (mkF m 84 #[.val (.long p1), .second, .val (.long p2), .second, .val (.long p3), .second, .val (.int p4), .val (.int (1 : Int32)), .val (.long ua), .second, .val (.long ub), .second, .val (.long ud), .second, .val (.long (p1 &&& (2147483647 : Int64))), .second, .val (.long (p2 &&& (2147483647 : Int64))), .second] [(.long ub), (.long ua)]))) (fun _ k => XS.lload X0.here hx rfl (hb hby at_82) rfl k) ?_
    obtain ⟨v1, T1, L1, X1, Q1, st1⟩ := own_callS (W := 0) X0 hx hZ (y := (⟨"com/example/ratable/ratable/Fraction", "gcd", "(JJ)J"⟩ : MethodName)) hown (hw _ (List.mem_of_getElem? (i := 1) rfl)) (hw _ (List.mem_of_getElem? (i := 2) rfl)) (hw _ (List.mem_of_getElem? (i := 3) rfl)) (hw _ (List.mem_of_getElem? (i := 4) rfl)) (by decide) e0 (rm_gcd l Z a0 hw [] ua ub h0 pa pb) (g := (mkF m 84 #[.val (.long p1), .second, .val (.long p2), .second, .val (.long p3), .second, .val (.int p4), .val (.int (1 : Int32)), .val (.long ua), .second, .val (.long ub), .second, .val (.long ud), .second, .val (.long (p1 &&& (2147483647 : Int64))), .second, .val (.long (p2 &&& (2147483647 : Int64))), .second] [(.long ub), (.long ua)])) rfl (by rw [hml]; rfl) (argsL := [(.long ua), (.long ub)]) (rest := []) (lenOf pd_0 rfl) rfl rfl (by show 2 * 0 + _ ≤ _; exact Nat.le_of_eq rfl) (hb hby at_84) (by decide) (by decide) (by decide) (by decide)
    obtain ⟨gg, rfl, gp, gG, rfl, q1⟩ := Q1
    refine own_st (B := (T1.setTop (mkF m 87 #[.val (.long p1), .second, .val (.long p2), .second, .val (.long p3), .second, .val (.int p4), .val (.int (1 : Int32)), .val (.long ua), .second, .val (.long ub), .second, .val (.long ud), .second, .val (.long (p1 &&& (2147483647 : Int64))), .second, .val (.long (p2 &&& (2147483647 : Int64))), .second] [(.long gg)]))) st1 ?_
    refine own_st (B := (T1.setTop (mkF m 89 #[.val (.long p1), .second, .val (.long p2), .second, .val (.long p3), .second, .val (.int p4), .val (.int (1 : Int32)), .val (.long ua), .second, .val (.long ub), .second, .val (.long ud), .second, .val (.long gg), .second, .val (.long (p2 &&& (2147483647 : Int64))), .second] []))) (fun _ k => XS.lstore X1.here hx rfl (hb hby at_87) rfl (l' := #[.val (.long p1), .second, .val (.long p2), .second, .val (.long p3), .second, .val (.int p4), .val (.int (1 : Int32)), .val (.long ua), .second, .val (.long ub), .second, .val (.long ud), .second, .val (.long gg), .second, .val (.long (p2 &&& (2147483647 : Int64))), .second]) rfl k) ?_
    refine own_st (B := (T1.setTop (mkF m 91 #[.val (.long p1), .second, .val (.long p2), .second, .val (.long p3), .second, .val (.int p4), .val (.int (1 : Int32)), .val (.long ua), .second, .val (.long ub), .second, .val (.long ud), .second, .val (.long gg), .second, .val (.long (p2 &&& (2147483647 : Int64))), .second] [(.long gg)]))) (fun _ k => XS.lload X1.here hx rfl (hb hby at_89) rfl k) ?_
    refine own_st (B := (T1.setTop (mkF m 92 #[.val (.long p1), .second, .val (.long p2), .second, .val (.long p3), .second, .val (.int p4), .val (.int (1 : Int32)), .val (.long ua), .second, .val (.long ub), .second, .val (.long ud), .second, .val (.long gg), .second, .val (.long (p2 &&& (2147483647 : Int64))), .second] [(.long (0 : Int64)), (.long gg)]))) (fun _ k => XS.lconst X1.here hx rfl (hb hby at_91) k) ?_
    refine own_st (B := (T1.setTop (mkF m 93 #[.val (.long p1), .second, .val (.long p2), .second, .val (.long p3), .second, .val (.int p4), .val (.int (1 : Int32)), .val (.long ua), .second, .val (.long ub), .second, .val (.long ud), .second, .val (.long gg), .second, .val (.long (p2 &&& (2147483647 : Int64))), .second] [(.int (lcmpW gg (0 : Int64)))]))) (fun _ k => XS.lcmp X1.here hx rfl (hb hby at_92) rfl k) ?_
    have gn : ¬ gg < 0 := fun q => by
      have q' := own_uL q
      have z : (0 : Int64).toInt = 0 := by decide
      rw [z] at q'
      omega
    refine own_st (B := (T1.setTop (mkF m 98 #[.val (.long p1), .second, .val (.long p2), .second, .val (.long p3), .second, .val (.int p4), .val (.int (1 : Int32)), .val (.long ua), .second, .val (.long ub), .second, .val (.long ud), .second, .val (.long gg), .second, .val (.long (p2 &&& (2147483647 : Int64))), .second] []))) (fun _ k => XS.ifYes X1.here hx rfl (pc0 := 93) (pc' := 98) rfl (hb hby at_93) rfl ((if0 _ _).trans (flt (mt (lw_lt gg (0 : Int64)).mp gn)).2.1) (by decide) (by decide) k) ?_
    refine own_st (B := (T1.setTop (mkF m 100 #[.val (.long p1), .second, .val (.long p2), .second, .val (.long p3), .second, .val (.int p4), .val (.int (1 : Int32)), .val (.long ua), .second, .val (.long ub), .second, .val (.long ud), .second, .val (.long gg), .second, .val (.long (p2 &&& (2147483647 : Int64))), .second] [(.long gg)]))) (fun _ k => XS.lload X1.here hx rfl (hb hby at_98) rfl k) ?_
    refine own_st (B := (T1.setTop (mkF m 102 #[.val (.long p1), .second, .val (.long p2), .second, .val (.long p3), .second, .val (.int p4), .val (.int (1 : Int32)), .val (.long ua), .second, .val (.long ub), .second, .val (.long ud), .second, .val (.long gg), .second, .val (.long (p2 &&& (2147483647 : Int64))), .second] [(.long ua), (.long gg)]))) (fun _ k => XS.lload X1.here hx rfl (hb hby at_100) rfl k) ?_
    obtain ⟨v2, T2, L2, X2, Q2, st2⟩ := own_callS (W := 0) X1 hx hZ (y := (⟨"com/example/ratable/ratable/FractionGcdPinLaw", "divides", "(JJ)Z"⟩ : MethodName)) hown (hw _ (List.mem_of_getElem? (i := 5) rfl)) (hw _ (List.mem_of_getElem? (i := 6) rfl)) (hw _ (List.mem_of_getElem? (i := 7) rfl)) (hw _ (List.mem_of_getElem? (i := 8) rfl)) (by decide) q1 (rm_div l Z a0 hw [] gg ua 1 h0 gp pa (Or.inl ⟨gG ▸ Nat.gcd_dvd_left _ _, rfl⟩)) (g := (mkF m 102 #[.val (.long p1), .second, .val (.long p2), .second, .val (.long p3), .second, .val (.int p4), .val (.int (1 : Int32)), .val (.long ua), .second, .val (.long ub), .second, .val (.long ud), .second, .val (.long gg), .second, .val (.long (p2 &&& (2147483647 : Int64))), .second] [(.long ua), (.long gg)])) rfl (by rw [hml]; rfl) (argsL := [(.long gg), (.long ua)]) (rest := []) (lenOf pd_1 rfl) rfl rfl (by show 2 * 0 + _ ≤ _; exact Nat.le_of_eq rfl) (hb hby at_102) (by decide) (by decide) (by decide) (by decide)
    obtain ⟨rfl, rfl, q2⟩ := Q2
    refine own_st (B := (T2.setTop (mkF m 105 #[.val (.long p1), .second, .val (.long p2), .second, .val (.long p3), .second, .val (.int p4), .val (.int (1 : Int32)), .val (.long ua), .second, .val (.long ub), .second, .val (.long ud), .second, .val (.long gg), .second, .val (.long (p2 &&& (2147483647 : Int64))), .second] [(.int (1 : Int32))]))) st2 ?_
    refine own_st (B := (T2.setTop (mkF m 108 #[.val (.long p1), .second, .val (.long p2), .second, .val (.long p3), .second, .val (.int p4), .val (.int (1 : Int32)), .val (.long ua), .second, .val (.long ub), .second, .val (.long ud), .second, .val (.long gg), .second, .val (.long (p2 &&& (2147483647 : Int64))), .second] []))) (fun _ k => XS.ifNo X2.here hx rfl (hb hby at_105) rfl ((if0 _ _).trans (feq (by decide)).1) k) ?_
    refine own_st (B := (T2.setTop (mkF m 110 #[.val (.long p1), .second, .val (.long p2), .second, .val (.long p3), .second, .val (.int p4), .val (.int (1 : Int32)), .val (.long ua), .second, .val (.long ub), .second, .val (.long ud), .second, .val (.long gg), .second, .val (.long (p2 &&& (2147483647 : Int64))), .second] [(.long gg)]))) (fun _ k => XS.lload X2.here hx rfl (hb hby at_108) rfl k) ?_
    refine own_st (B := (T2.setTop (mkF m 112 #[.val (.long p1), .second, .val (.long p2), .second, .val (.long p3), .second, .val (.int p4), .val (.int (1 : Int32)), .val (.long ua), .second, .val (.long ub), .second, .val (.long ud), .second, .val (.long gg), .second, .val (.long (p2 &&& (2147483647 : Int64))), .second] [(.long ub), (.long gg)]))) (fun _ k => XS.lload X2.here hx rfl (hb hby at_110) rfl k) ?_
    obtain ⟨v3, T3, L3, X3, Q3, st3⟩ := own_callS (W := 0) X2 hx hZ (y := (⟨"com/example/ratable/ratable/FractionGcdPinLaw", "divides", "(JJ)Z"⟩ : MethodName)) hown (hw _ (List.mem_of_getElem? (i := 5) rfl)) (hw _ (List.mem_of_getElem? (i := 6) rfl)) (hw _ (List.mem_of_getElem? (i := 7) rfl)) (hw _ (List.mem_of_getElem? (i := 8) rfl)) (by decide) q2 (rm_div l Z a0 hw [] gg ub 1 h0 gp pb (Or.inl ⟨gG ▸ Nat.gcd_dvd_right _ _, rfl⟩)) (g := (mkF m 112 #[.val (.long p1), .second, .val (.long p2), .second, .val (.long p3), .second, .val (.int p4), .val (.int (1 : Int32)), .val (.long ua), .second, .val (.long ub), .second, .val (.long ud), .second, .val (.long gg), .second, .val (.long (p2 &&& (2147483647 : Int64))), .second] [(.long ub), (.long gg)])) rfl (by rw [hml]; rfl) (argsL := [(.long gg), (.long ub)]) (rest := []) (lenOf pd_1 rfl) rfl rfl (by show 2 * 0 + _ ≤ _; exact Nat.le_of_eq rfl) (hb hby at_112) (by decide) (by decide) (by decide) (by decide)
    obtain ⟨rfl, rfl, q3⟩ := Q3
    refine own_st (B := (T3.setTop (mkF m 115 #[.val (.long p1), .second, .val (.long p2), .second, .val (.long p3), .second, .val (.int p4), .val (.int (1 : Int32)), .val (.long ua), .second, .val (.long ub), .second, .val (.long ud), .second, .val (.long gg), .second, .val (.long (p2 &&& (2147483647 : Int64))), .second] [(.int (1 : Int32))]))) st3 ?_
    refine own_st (B := (T3.setTop (mkF m 120 #[.val (.long p1), .second, .val (.long p2), .second, .val (.long p3), .second, .val (.int p4), .val (.int (1 : Int32)), .val (.long ua), .second, .val (.long ub), .second, .val (.long ud), .second, .val (.long gg), .second, .val (.long (p2 &&& (2147483647 : Int64))), .second] []))) (fun _ k => XS.ifYes X3.here hx rfl (pc0 := 115) (pc' := 120) rfl (hb hby at_115) rfl ((if0 _ _).trans (feq (by decide)).2) (by decide) (by decide) k) ?_
    refine own_st (B := (T3.setTop (mkF m 122 #[.val (.long p1), .second, .val (.long p2), .second, .val (.long p3), .second, .val (.int p4), .val (.int (1 : Int32)), .val (.long ua), .second, .val (.long ub), .second, .val (.long ud), .second, .val (.long gg), .second, .val (.long (p2 &&& (2147483647 : Int64))), .second] [(.long ud)]))) (fun _ k => XS.lload X3.here hx rfl (hb hby at_120) rfl k) ?_
    refine own_st (B := (T3.setTop (mkF m 124 #[.val (.long p1), .second, .val (.long p2), .second, .val (.long p3), .second, .val (.int p4), .val (.int (1 : Int32)), .val (.long ua), .second, .val (.long ub), .second, .val (.long ud), .second, .val (.long gg), .second, .val (.long (p2 &&& (2147483647 : Int64))), .second] [(.long ua), (.long ud)]))) (fun _ k => XS.lload X3.here hx rfl (hb hby at_122) rfl k) ?_
    by_cases da : own_N ud ∣ own_N ua
    · obtain ⟨v4, T4, L4, X4, Q4, st4⟩ := own_callS (W := 0) X3 hx hZ (y := (⟨"com/example/ratable/ratable/FractionGcdPinLaw", "divides", "(JJ)Z"⟩ : MethodName)) hown (hw _ (List.mem_of_getElem? (i := 5) rfl)) (hw _ (List.mem_of_getElem? (i := 6) rfl)) (hw _ (List.mem_of_getElem? (i := 7) rfl)) (hw _ (List.mem_of_getElem? (i := 8) rfl)) (by decide) q3 (rm_div l Z a0 hw [] ud ua 1 h0 pd pa (Or.inl ⟨da, rfl⟩)) (g := (mkF m 124 #[.val (.long p1), .second, .val (.long p2), .second, .val (.long p3), .second, .val (.int p4), .val (.int (1 : Int32)), .val (.long ua), .second, .val (.long ub), .second, .val (.long ud), .second, .val (.long gg), .second, .val (.long (p2 &&& (2147483647 : Int64))), .second] [(.long ua), (.long ud)])) rfl (by rw [hml]; rfl) (argsL := [(.long ud), (.long ua)]) (rest := []) (lenOf pd_1 rfl) rfl rfl (by show 2 * 0 + _ ≤ _; exact Nat.le_of_eq rfl) (hb hby at_124) (by decide) (by decide) (by decide) (by decide)
      obtain ⟨rfl, rfl, q4⟩ := Q4
      refine own_st (B := (T4.setTop (mkF m 127 #[.val (.long p1), .second, .val (.long p2), .second, .val (.long p3), .second, .val (.int p4), .val (.int (1 : Int32)), .val (.long ua), .second, .val (.long ub), .second, .val (.long ud), .second, .val (.long gg), .second, .val (.long (p2 &&& (2147483647 : Int64))), .second] [(.int (1 : Int32))]))) st4 ?_
      refine own_st (B := (T4.setTop (mkF m 130 #[.val (.long p1), .second, .val (.long p2), .second, .val (.long p3), .second, .val (.int p4), .val (.int (1 : Int32)), .val (.long ua), .second, .val (.long ub), .second, .val (.long ud), .second, .val (.long gg), .second, .val (.long (p2 &&& (2147483647 : Int64))), .second] []))) (fun _ k => XS.ifNo X4.here hx rfl (hb hby at_127) rfl ((if0 _ _).trans (feq (by decide)).1) k) ?_
      refine own_st (B := (T4.setTop (mkF m 132 #[.val (.long p1), .second, .val (.long p2), .second, .val (.long p3), .second, .val (.int p4), .val (.int (1 : Int32)), .val (.long ua), .second, .val (.long ub), .second, .val (.long ud), .second, .val (.long gg), .second, .val (.long (p2 &&& (2147483647 : Int64))), .second] [(.long ud)]))) (fun _ k => XS.lload X4.here hx rfl (hb hby at_130) rfl k) ?_
      refine own_st (B := (T4.setTop (mkF m 134 #[.val (.long p1), .second, .val (.long p2), .second, .val (.long p3), .second, .val (.int p4), .val (.int (1 : Int32)), .val (.long ua), .second, .val (.long ub), .second, .val (.long ud), .second, .val (.long gg), .second, .val (.long (p2 &&& (2147483647 : Int64))), .second] [(.long ub), (.long ud)]))) (fun _ k => XS.lload X4.here hx rfl (hb hby at_132) rfl k) ?_
      by_cases db : own_N ud ∣ own_N ub
      · obtain ⟨v5, T5, L5, X5, Q5, st5⟩ := own_callS (W := 0) X4 hx hZ (y := (⟨"com/example/ratable/ratable/FractionGcdPinLaw", "divides", "(JJ)Z"⟩ : MethodName)) hown (hw _ (List.mem_of_getElem? (i := 5) rfl)) (hw _ (List.mem_of_getElem? (i := 6) rfl)) (hw _ (List.mem_of_getElem? (i := 7) rfl)) (hw _ (List.mem_of_getElem? (i := 8) rfl)) (by decide) q4 (rm_div l Z a0 hw [] ud ub 1 h0 pd pb (Or.inl ⟨db, rfl⟩)) (g := (mkF m 134 #[.val (.long p1), .second, .val (.long p2), .second, .val (.long p3), .second, .val (.int p4), .val (.int (1 : Int32)), .val (.long ua), .second, .val (.long ub), .second, .val (.long ud), .second, .val (.long gg), .second, .val (.long (p2 &&& (2147483647 : Int64))), .second] [(.long ub), (.long ud)])) rfl (by rw [hml]; rfl) (argsL := [(.long ud), (.long ub)]) (rest := []) (lenOf pd_1 rfl) rfl rfl (by show 2 * 0 + _ ≤ _; exact Nat.le_of_eq rfl) (hb hby at_134) (by decide) (by decide) (by decide) (by decide)
        obtain ⟨rfl, rfl, q5⟩ := Q5
        refine own_st (B := (T5.setTop (mkF m 137 #[.val (.long p1), .second, .val (.long p2), .second, .val (.long p3), .second, .val (.int p4), .val (.int (1 : Int32)), .val (.long ua), .second, .val (.long ub), .second, .val (.long ud), .second, .val (.long gg), .second, .val (.long (p2 &&& (2147483647 : Int64))), .second] [(.int (1 : Int32))]))) st5 ?_
        refine own_st (B := (T5.setTop (mkF m 140 #[.val (.long p1), .second, .val (.long p2), .second, .val (.long p3), .second, .val (.int p4), .val (.int (1 : Int32)), .val (.long ua), .second, .val (.long ub), .second, .val (.long ud), .second, .val (.long gg), .second, .val (.long (p2 &&& (2147483647 : Int64))), .second] []))) (fun _ k => XS.ifNo X5.here hx rfl (hb hby at_137) rfl ((if0 _ _).trans (feq (by decide)).1) k) ?_
        refine own_st (B := (T5.setTop (mkF m 142 #[.val (.long p1), .second, .val (.long p2), .second, .val (.long p3), .second, .val (.int p4), .val (.int (1 : Int32)), .val (.long ua), .second, .val (.long ub), .second, .val (.long ud), .second, .val (.long gg), .second, .val (.long (p2 &&& (2147483647 : Int64))), .second] [(.long ud)]))) (fun _ k => XS.lload X5.here hx rfl (hb hby at_140) rfl k) ?_
        refine own_st (B := (T5.setTop (mkF m 144 #[.val (.long p1), .second, .val (.long p2), .second, .val (.long p3), .second, .val (.int p4), .val (.int (1 : Int32)), .val (.long ua), .second, .val (.long ub), .second, .val (.long ud), .second, .val (.long gg), .second, .val (.long (p2 &&& (2147483647 : Int64))), .second] [(.long gg), (.long ud)]))) (fun _ k => XS.lload X5.here hx rfl (hb hby at_142) rfl k) ?_
        obtain ⟨v6, T6, L6, X6, Q6, st6⟩ := own_callS (W := 0) X5 hx hZ (y := (⟨"com/example/ratable/ratable/FractionGcdPinLaw", "divides", "(JJ)Z"⟩ : MethodName)) hown (hw _ (List.mem_of_getElem? (i := 5) rfl)) (hw _ (List.mem_of_getElem? (i := 6) rfl)) (hw _ (List.mem_of_getElem? (i := 7) rfl)) (hw _ (List.mem_of_getElem? (i := 8) rfl)) (by decide) q5 (rm_div l Z a0 hw [] ud gg 1 h0 pd gp (Or.inl ⟨gG ▸ Nat.dvd_gcd da db, rfl⟩)) (g := (mkF m 144 #[.val (.long p1), .second, .val (.long p2), .second, .val (.long p3), .second, .val (.int p4), .val (.int (1 : Int32)), .val (.long ua), .second, .val (.long ub), .second, .val (.long ud), .second, .val (.long gg), .second, .val (.long (p2 &&& (2147483647 : Int64))), .second] [(.long gg), (.long ud)])) rfl (by rw [hml]; rfl) (argsL := [(.long ud), (.long gg)]) (rest := []) (lenOf pd_1 rfl) rfl rfl (by show 2 * 0 + _ ≤ _; exact Nat.le_of_eq rfl) (hb hby at_144) (by decide) (by decide) (by decide) (by decide)
        obtain ⟨rfl, rfl, q6⟩ := Q6
        refine own_st (B := (T6.setTop (mkF m 147 #[.val (.long p1), .second, .val (.long p2), .second, .val (.long p3), .second, .val (.int p4), .val (.int (1 : Int32)), .val (.long ua), .second, .val (.long ub), .second, .val (.long ud), .second, .val (.long gg), .second, .val (.long (p2 &&& (2147483647 : Int64))), .second] [(.int (1 : Int32))]))) st6 ?_
        exact own_retN X6 hx hlk (t := .boolean) hret (by simp) (hb hby at_147) (by show own_Q0 n0 _ T6.heap _; rw [q6]; exact ⟨rfl, by simpa using N0⟩) (by decide) (by decide)
      · obtain ⟨v7, T7, L7, X7, Q7, st7⟩ := own_callS (W := 0) X4 hx hZ (y := (⟨"com/example/ratable/ratable/FractionGcdPinLaw", "divides", "(JJ)Z"⟩ : MethodName)) hown (hw _ (List.mem_of_getElem? (i := 5) rfl)) (hw _ (List.mem_of_getElem? (i := 6) rfl)) (hw _ (List.mem_of_getElem? (i := 7) rfl)) (hw _ (List.mem_of_getElem? (i := 8) rfl)) (by decide) q4 (rm_div l Z a0 hw [] ud ub 0 h0 pd pb (Or.inr ⟨db, rfl⟩)) (g := (mkF m 134 #[.val (.long p1), .second, .val (.long p2), .second, .val (.long p3), .second, .val (.int p4), .val (.int (1 : Int32)), .val (.long ua), .second, .val (.long ub), .second, .val (.long ud), .second, .val (.long gg), .second, .val (.long (p2 &&& (2147483647 : Int64))), .second] [(.long ub), (.long ud)])) rfl (by rw [hml]; rfl) (argsL := [(.long ud), (.long ub)]) (rest := []) (lenOf pd_1 rfl) rfl rfl (by show 2 * 0 + _ ≤ _; exact Nat.le_of_eq rfl) (hb hby at_134) (by decide) (by decide) (by decide) (by decide)
        obtain ⟨rfl, rfl, q7⟩ := Q7
        refine own_st (B := (T7.setTop (mkF m 137 #[.val (.long p1), .second, .val (.long p2), .second, .val (.long p3), .second, .val (.int p4), .val (.int (1 : Int32)), .val (.long ua), .second, .val (.long ub), .second, .val (.long ud), .second, .val (.long gg), .second, .val (.long (p2 &&& (2147483647 : Int64))), .second] [(.int (0 : Int32))]))) st7 ?_
        refine own_st (B := (T7.setTop (mkF m 148 #[.val (.long p1), .second, .val (.long p2), .second, .val (.long p3), .second, .val (.int p4), .val (.int (1 : Int32)), .val (.long ua), .second, .val (.long ub), .second, .val (.long ud), .second, .val (.long gg), .second, .val (.long (p2 &&& (2147483647 : Int64))), .second] []))) (fun _ k => XS.ifYes X7.here hx rfl (pc0 := 137) (pc' := 148) rfl (hb hby at_137) rfl ((if0 _ _).trans (teq (by decide)).1) (by decide) (by decide) k) ?_
        refine own_st (B := (T7.setTop (mkF m 149 #[.val (.long p1), .second, .val (.long p2), .second, .val (.long p3), .second, .val (.int p4), .val (.int (1 : Int32)), .val (.long ua), .second, .val (.long ub), .second, .val (.long ud), .second, .val (.long gg), .second, .val (.long (p2 &&& (2147483647 : Int64))), .second] [(.int (1 : Int32))]))) (fun _ k => XS.iconst X7.here hx rfl (hb hby at_148) k) ?_
        exact own_retN X7 hx hlk (t := .boolean) hret (by simp) (hb hby at_149) (by show own_Q0 n0 _ T7.heap _; rw [q7]; exact ⟨rfl, by simpa using N0⟩) (by decide) (by decide)
    · obtain ⟨v8, T8, L8, X8, Q8, st8⟩ := own_callS (W := 0) X3 hx hZ (y := (⟨"com/example/ratable/ratable/FractionGcdPinLaw", "divides", "(JJ)Z"⟩ : MethodName)) hown (hw _ (List.mem_of_getElem? (i := 5) rfl)) (hw _ (List.mem_of_getElem? (i := 6) rfl)) (hw _ (List.mem_of_getElem? (i := 7) rfl)) (hw _ (List.mem_of_getElem? (i := 8) rfl)) (by decide) q3 (rm_div l Z a0 hw [] ud ua 0 h0 pd pa (Or.inr ⟨da, rfl⟩)) (g := (mkF m 124 #[.val (.long p1), .second, .val (.long p2), .second, .val (.long p3), .second, .val (.int p4), .val (.int (1 : Int32)), .val (.long ua), .second, .val (.long ub), .second, .val (.long ud), .second, .val (.long gg), .second, .val (.long (p2 &&& (2147483647 : Int64))), .second] [(.long ua), (.long ud)])) rfl (by rw [hml]; rfl) (argsL := [(.long ud), (.long ua)]) (rest := []) (lenOf pd_1 rfl) rfl rfl (by show 2 * 0 + _ ≤ _; exact Nat.le_of_eq rfl) (hb hby at_124) (by decide) (by decide) (by decide) (by decide)
      obtain ⟨rfl, rfl, q8⟩ := Q8
      refine own_st (B := (T8.setTop (mkF m 127 #[.val (.long p1), .second, .val (.long p2), .second, .val (.long p3), .second, .val (.int p4), .val (.int (1 : Int32)), .val (.long ua), .second, .val (.long ub), .second, .val (.long ud), .second, .val (.long gg), .second, .val (.long (p2 &&& (2147483647 : Int64))), .second] [(.int (0 : Int32))]))) st8 ?_
      refine own_st (B := (T8.setTop (mkF m 148 #[.val (.long p1), .second, .val (.long p2), .second, .val (.long p3), .second, .val (.int p4), .val (.int (1 : Int32)), .val (.long ua), .second, .val (.long ub), .second, .val (.long ud), .second, .val (.long gg), .second, .val (.long (p2 &&& (2147483647 : Int64))), .second] []))) (fun _ k => XS.ifYes X8.here hx rfl (pc0 := 127) (pc' := 148) rfl (hb hby at_127) rfl ((if0 _ _).trans (teq (by decide)).1) (by decide) (by decide) k) ?_
      refine own_st (B := (T8.setTop (mkF m 149 #[.val (.long p1), .second, .val (.long p2), .second, .val (.long p3), .second, .val (.int p4), .val (.int (1 : Int32)), .val (.long ua), .second, .val (.long ub), .second, .val (.long ud), .second, .val (.long gg), .second, .val (.long (p2 &&& (2147483647 : Int64))), .second] [(.int (1 : Int32))]))) (fun _ k => XS.iconst X8.here hx rfl (hb hby at_148) k) ?_
      exact own_retN X8 hx hlk (t := .boolean) hret (by simp) (hb hby at_149) (by show own_Q0 n0 _ T8.heap _; rw [q8]; exact ⟨rfl, by simpa using N0⟩) (by decide) (by decide)
  · refine own_st (B := (s₁.setTop (mkF m 11 #[.val (.long p1), .second, .val (.long p2), .second, .val (.long p3), .second, .val (.int p4), .unset, .unset, .unset, .unset, .unset, .unset, .unset, .unset, .unset, .unset, .unset] []))) (fun _ k => XS.ifYes X0.here hx rfl (pc0 := 4) (pc' := 11) rfl (hb hby at_4) rfl ((if0 _ _).trans (feq c4).2) (by decide) (by decide) k) ?_
    refine own_st (B := (s₁.setTop (mkF m 12 #[.val (.long p1), .second, .val (.long p2), .second, .val (.long p3), .second, .val (.int p4), .unset, .unset, .unset, .unset, .unset, .unset, .unset, .unset, .unset, .unset, .unset] [(.int (0 : Int32))]))) (fun _ k => XS.iconst X0.here hx rfl (hb hby at_11) k) ?_
    refine own_st (B := (s₁.setTop (mkF m 14 #[.val (.long p1), .second, .val (.long p2), .second, .val (.long p3), .second, .val (.int p4), .val (.int (0 : Int32)), .unset, .unset, .unset, .unset, .unset, .unset, .unset, .unset, .unset, .unset] []))) (fun _ k => XS.istore X0.here hx rfl (hb hby at_12) rfl (l' := #[.val (.long p1), .second, .val (.long p2), .second, .val (.long p3), .second, .val (.int p4), .val (.int (0 : Int32)), .unset, .unset, .unset, .unset, .unset, .unset, .unset, .unset, .unset, .unset]) rfl k) ?_
    refine own_st (B := (s₁.setTop (mkF m 16 #[.val (.long p1), .second, .val (.long p2), .second, .val (.long p3), .second, .val (.int p4), .val (.int (0 : Int32)), .unset, .unset, .unset, .unset, .unset, .unset, .unset, .unset, .unset, .unset] [(.int (0 : Int32))]))) (fun _ k => XS.iload X0.here hx rfl (hb hby at_14) rfl k) ?_
    refine own_st (B := (s₁.setTop (mkF m 58 #[.val (.long p1), .second, .val (.long p2), .second, .val (.long p3), .second, .val (.int p4), .val (.int (0 : Int32)), .unset, .unset, .unset, .unset, .unset, .unset, .unset, .unset, .unset, .unset] []))) (fun _ k => XS.ifYes X0.here hx rfl (pc0 := 16) (pc' := 58) rfl (hb hby at_16) rfl ((if0 _ _).trans (teq (by decide)).1) (by decide) (by decide) k) ?_
    refine own_st (B := (s₁.setTop (mkF m 59 #[.val (.long p1), .second, .val (.long p2), .second, .val (.long p3), .second, .val (.int p4), .val (.int (0 : Int32)), .unset, .unset, .unset, .unset, .unset, .unset, .unset, .unset, .unset, .unset] [(.long p1)]))) (fun _ k => XS.lloadN X0.here hx rfl (hb hby at_58) rfl k) ?_
    refine own_st (B := (s₁.setTop (mkF m 62 #[.val (.long p1), .second, .val (.long p2), .second, .val (.long p3), .second, .val (.int p4), .val (.int (0 : Int32)), .unset, .unset, .unset, .unset, .unset, .unset, .unset, .unset, .unset, .unset] [(.long (9223372036854775807 : Int64)), (.long p1)]))) (fun _ k => X0.ldc2Long hx hown (mvT hZ (hw _ (List.mem_of_getElem? (i := 9) rfl))) (g := (mkF m 59 #[.val (.long p1), .second, .val (.long p2), .second, .val (.long p3), .second, .val (.int p4), .val (.int (0 : Int32)), .unset, .unset, .unset, .unset, .unset, .unset, .unset, .unset, .unset, .unset] [(.long p1)])) rfl (hb hby at_59) _ k) ?_
    refine own_st (B := (s₁.setTop (mkF m 63 #[.val (.long p1), .second, .val (.long p2), .second, .val (.long p3), .second, .val (.int p4), .val (.int (0 : Int32)), .unset, .unset, .unset, .unset, .unset, .unset, .unset, .unset, .unset, .unset] [(.long (p1 &&& (9223372036854775807 : Int64)))]))) (fun _ k => XS.land X0.here hx rfl (hb hby at_62) rfl k) ?_
    refine own_st (B := (s₁.setTop (mkF m 65 #[.val (.long p1), .second, .val (.long p2), .second, .val (.long p3), .second, .val (.int p4), .val (.int (0 : Int32)), .val (.long (p1 &&& (9223372036854775807 : Int64))), .second, .unset, .unset, .unset, .unset, .unset, .unset, .unset, .unset] []))) (fun _ k => XS.lstore X0.here hx rfl (hb hby at_63) rfl (l' := #[.val (.long p1), .second, .val (.long p2), .second, .val (.long p3), .second, .val (.int p4), .val (.int (0 : Int32)), .val (.long (p1 &&& (9223372036854775807 : Int64))), .second, .unset, .unset, .unset, .unset, .unset, .unset, .unset, .unset]) rfl k) ?_
    refine own_st (B := (s₁.setTop (mkF m 66 #[.val (.long p1), .second, .val (.long p2), .second, .val (.long p3), .second, .val (.int p4), .val (.int (0 : Int32)), .val (.long (p1 &&& (9223372036854775807 : Int64))), .second, .unset, .unset, .unset, .unset, .unset, .unset, .unset, .unset] [(.long p2)]))) (fun _ k => XS.lloadN X0.here hx rfl (hb hby at_65) rfl k) ?_
    refine own_st (B := (s₁.setTop (mkF m 69 #[.val (.long p1), .second, .val (.long p2), .second, .val (.long p3), .second, .val (.int p4), .val (.int (0 : Int32)), .val (.long (p1 &&& (9223372036854775807 : Int64))), .second, .unset, .unset, .unset, .unset, .unset, .unset, .unset, .unset] [(.long (9223372036854775807 : Int64)), (.long p2)]))) (fun _ k => X0.ldc2Long hx hown (mvT hZ (hw _ (List.mem_of_getElem? (i := 9) rfl))) (g := (mkF m 66 #[.val (.long p1), .second, .val (.long p2), .second, .val (.long p3), .second, .val (.int p4), .val (.int (0 : Int32)), .val (.long (p1 &&& (9223372036854775807 : Int64))), .second, .unset, .unset, .unset, .unset, .unset, .unset, .unset, .unset] [(.long p2)])) rfl (hb hby at_66) _ k) ?_
    refine own_st (B := (s₁.setTop (mkF m 70 #[.val (.long p1), .second, .val (.long p2), .second, .val (.long p3), .second, .val (.int p4), .val (.int (0 : Int32)), .val (.long (p1 &&& (9223372036854775807 : Int64))), .second, .unset, .unset, .unset, .unset, .unset, .unset, .unset, .unset] [(.long (p2 &&& (9223372036854775807 : Int64)))]))) (fun _ k => XS.land X0.here hx rfl (hb hby at_69) rfl k) ?_
    refine own_st (B := (s₁.setTop (mkF m 72 #[.val (.long p1), .second, .val (.long p2), .second, .val (.long p3), .second, .val (.int p4), .val (.int (0 : Int32)), .val (.long (p1 &&& (9223372036854775807 : Int64))), .second, .val (.long (p2 &&& (9223372036854775807 : Int64))), .second, .unset, .unset, .unset, .unset, .unset, .unset] []))) (fun _ k => XS.lstore X0.here hx rfl (hb hby at_70) rfl (l' := #[.val (.long p1), .second, .val (.long p2), .second, .val (.long p3), .second, .val (.int p4), .val (.int (0 : Int32)), .val (.long (p1 &&& (9223372036854775807 : Int64))), .second, .val (.long (p2 &&& (9223372036854775807 : Int64))), .second, .unset, .unset, .unset, .unset, .unset, .unset]) rfl k) ?_
    refine own_st (B := (s₁.setTop (mkF m 74 #[.val (.long p1), .second, .val (.long p2), .second, .val (.long p3), .second, .val (.int p4), .val (.int (0 : Int32)), .val (.long (p1 &&& (9223372036854775807 : Int64))), .second, .val (.long (p2 &&& (9223372036854775807 : Int64))), .second, .unset, .unset, .unset, .unset, .unset, .unset] [(.long p3)]))) (fun _ k => XS.lload X0.here hx rfl (hb hby at_72) rfl k) ?_
    refine own_st (B := (s₁.setTop (mkF m 77 #[.val (.long p1), .second, .val (.long p2), .second, .val (.long p3), .second, .val (.int p4), .val (.int (0 : Int32)), .val (.long (p1 &&& (9223372036854775807 : Int64))), .second, .val (.long (p2 &&& (9223372036854775807 : Int64))), .second, .unset, .unset, .unset, .unset, .unset, .unset] [(.long (9223372036854775807 : Int64)), (.long p3)]))) (fun _ k => X0.ldc2Long hx hown (mvT hZ (hw _ (List.mem_of_getElem? (i := 9) rfl))) (g := (mkF m 74 #[.val (.long p1), .second, .val (.long p2), .second, .val (.long p3), .second, .val (.int p4), .val (.int (0 : Int32)), .val (.long (p1 &&& (9223372036854775807 : Int64))), .second, .val (.long (p2 &&& (9223372036854775807 : Int64))), .second, .unset, .unset, .unset, .unset, .unset, .unset] [(.long p3)])) rfl (hb hby at_74) _ k) ?_
    refine own_st (B := (s₁.setTop (mkF m 78 #[.val (.long p1), .second, .val (.long p2), .second, .val (.long p3), .second, .val (.int p4), .val (.int (0 : Int32)), .val (.long (p1 &&& (9223372036854775807 : Int64))), .second, .val (.long (p2 &&& (9223372036854775807 : Int64))), .second, .unset, .unset, .unset, .unset, .unset, .unset] [(.long (p3 &&& (9223372036854775807 : Int64)))]))) (fun _ k => XS.land X0.here hx rfl (hb hby at_77) rfl k) ?_
    refine own_st (B := (s₁.setTop (mkF m 80 #[.val (.long p1), .second, .val (.long p2), .second, .val (.long p3), .second, .val (.int p4), .val (.int (0 : Int32)), .val (.long (p1 &&& (9223372036854775807 : Int64))), .second, .val (.long (p2 &&& (9223372036854775807 : Int64))), .second, .val (.long (p3 &&& (9223372036854775807 : Int64))), .second, .unset, .unset, .unset, .unset] []))) (fun _ k => XS.lstore X0.here hx rfl (hb hby at_78) rfl (l' := #[.val (.long p1), .second, .val (.long p2), .second, .val (.long p3), .second, .val (.int p4), .val (.int (0 : Int32)), .val (.long (p1 &&& (9223372036854775807 : Int64))), .second, .val (.long (p2 &&& (9223372036854775807 : Int64))), .second, .val (.long (p3 &&& (9223372036854775807 : Int64))), .second, .unset, .unset, .unset, .unset]) rfl k) ?_
    have pa := own_m63 p1
    generalize (p1 &&& (9223372036854775807 : Int64)) = ua at *
    have pb := own_m63 p2
    generalize (p2 &&& (9223372036854775807 : Int64)) = ub at *
    have pd := own_m63 p3
    generalize (p3 &&& (9223372036854775807 : Int64)) = ud at *
    refine own_st (B := (s₁.setTop (mkF m 82 #[.val (.long p1), .second, .val (.long p2), .second, .val (.long p3), .second, .val (.int p4), .val (.int (0 : Int32)), .val (.long ua), .second, .val (.long ub), .second, .val (.long ud), .second, .unset, .unset, .unset, .unset] [(.long ua)]))) (fun _ k => XS.lload X0.here hx rfl (hb hby at_80) rfl k) ?_
    refine own_st (B := (s₁.setTop (mkF m 84 #[.val (.long p1), .second, .val (.long p2), .second, .val (.long p3), .second, .val (.int p4), .val (.int (0 : Int32)), .val (.long ua), .second, .val (.long ub), .second, .val (.long ud), .second, .unset, .unset, .unset, .unset] [(.long ub), (.long ua)]))) (fun _ k => XS.lload X0.here hx rfl (hb hby at_82) rfl k) ?_
    obtain ⟨v9, T9, L9, X9, Q9, st9⟩ := own_callS (W := 0) X0 hx hZ (y := (⟨"com/example/ratable/ratable/Fraction", "gcd", "(JJ)J"⟩ : MethodName)) hown (hw _ (List.mem_of_getElem? (i := 1) rfl)) (hw _ (List.mem_of_getElem? (i := 2) rfl)) (hw _ (List.mem_of_getElem? (i := 3) rfl)) (hw _ (List.mem_of_getElem? (i := 4) rfl)) (by decide) e0 (rm_gcd l Z a0 hw [] ua ub h0 pa pb) (g := (mkF m 84 #[.val (.long p1), .second, .val (.long p2), .second, .val (.long p3), .second, .val (.int p4), .val (.int (0 : Int32)), .val (.long ua), .second, .val (.long ub), .second, .val (.long ud), .second, .unset, .unset, .unset, .unset] [(.long ub), (.long ua)])) rfl (by rw [hml]; rfl) (argsL := [(.long ua), (.long ub)]) (rest := []) (lenOf pd_0 rfl) rfl rfl (by show 2 * 0 + _ ≤ _; exact Nat.le_of_eq rfl) (hb hby at_84) (by decide) (by decide) (by decide) (by decide)
    obtain ⟨gg, rfl, gp, gG, rfl, q9⟩ := Q9
    refine own_st (B := (T9.setTop (mkF m 87 #[.val (.long p1), .second, .val (.long p2), .second, .val (.long p3), .second, .val (.int p4), .val (.int (0 : Int32)), .val (.long ua), .second, .val (.long ub), .second, .val (.long ud), .second, .unset, .unset, .unset, .unset] [(.long gg)]))) st9 ?_
    refine own_st (B := (T9.setTop (mkF m 89 #[.val (.long p1), .second, .val (.long p2), .second, .val (.long p3), .second, .val (.int p4), .val (.int (0 : Int32)), .val (.long ua), .second, .val (.long ub), .second, .val (.long ud), .second, .val (.long gg), .second, .unset, .unset] []))) (fun _ k => XS.lstore X9.here hx rfl (hb hby at_87) rfl (l' := #[.val (.long p1), .second, .val (.long p2), .second, .val (.long p3), .second, .val (.int p4), .val (.int (0 : Int32)), .val (.long ua), .second, .val (.long ub), .second, .val (.long ud), .second, .val (.long gg), .second, .unset, .unset]) rfl k) ?_
    refine own_st (B := (T9.setTop (mkF m 91 #[.val (.long p1), .second, .val (.long p2), .second, .val (.long p3), .second, .val (.int p4), .val (.int (0 : Int32)), .val (.long ua), .second, .val (.long ub), .second, .val (.long ud), .second, .val (.long gg), .second, .unset, .unset] [(.long gg)]))) (fun _ k => XS.lload X9.here hx rfl (hb hby at_89) rfl k) ?_
    refine own_st (B := (T9.setTop (mkF m 92 #[.val (.long p1), .second, .val (.long p2), .second, .val (.long p3), .second, .val (.int p4), .val (.int (0 : Int32)), .val (.long ua), .second, .val (.long ub), .second, .val (.long ud), .second, .val (.long gg), .second, .unset, .unset] [(.long (0 : Int64)), (.long gg)]))) (fun _ k => XS.lconst X9.here hx rfl (hb hby at_91) k) ?_
    refine own_st (B := (T9.setTop (mkF m 93 #[.val (.long p1), .second, .val (.long p2), .second, .val (.long p3), .second, .val (.int p4), .val (.int (0 : Int32)), .val (.long ua), .second, .val (.long ub), .second, .val (.long ud), .second, .val (.long gg), .second, .unset, .unset] [(.int (lcmpW gg (0 : Int64)))]))) (fun _ k => XS.lcmp X9.here hx rfl (hb hby at_92) rfl k) ?_
    have gn : ¬ gg < 0 := fun q => by
      have q' := own_uL q
      have z : (0 : Int64).toInt = 0 := by decide
      rw [z] at q'
      omega
    refine own_st (B := (T9.setTop (mkF m 98 #[.val (.long p1), .second, .val (.long p2), .second, .val (.long p3), .second, .val (.int p4), .val (.int (0 : Int32)), .val (.long ua), .second, .val (.long ub), .second, .val (.long ud), .second, .val (.long gg), .second, .unset, .unset] []))) (fun _ k => XS.ifYes X9.here hx rfl (pc0 := 93) (pc' := 98) rfl (hb hby at_93) rfl ((if0 _ _).trans (flt (mt (lw_lt gg (0 : Int64)).mp gn)).2.1) (by decide) (by decide) k) ?_
    refine own_st (B := (T9.setTop (mkF m 100 #[.val (.long p1), .second, .val (.long p2), .second, .val (.long p3), .second, .val (.int p4), .val (.int (0 : Int32)), .val (.long ua), .second, .val (.long ub), .second, .val (.long ud), .second, .val (.long gg), .second, .unset, .unset] [(.long gg)]))) (fun _ k => XS.lload X9.here hx rfl (hb hby at_98) rfl k) ?_
    refine own_st (B := (T9.setTop (mkF m 102 #[.val (.long p1), .second, .val (.long p2), .second, .val (.long p3), .second, .val (.int p4), .val (.int (0 : Int32)), .val (.long ua), .second, .val (.long ub), .second, .val (.long ud), .second, .val (.long gg), .second, .unset, .unset] [(.long ua), (.long gg)]))) (fun _ k => XS.lload X9.here hx rfl (hb hby at_100) rfl k) ?_
    obtain ⟨v10, T10, L10, X10, Q10, st10⟩ := own_callS (W := 0) X9 hx hZ (y := (⟨"com/example/ratable/ratable/FractionGcdPinLaw", "divides", "(JJ)Z"⟩ : MethodName)) hown (hw _ (List.mem_of_getElem? (i := 5) rfl)) (hw _ (List.mem_of_getElem? (i := 6) rfl)) (hw _ (List.mem_of_getElem? (i := 7) rfl)) (hw _ (List.mem_of_getElem? (i := 8) rfl)) (by decide) q9 (rm_div l Z a0 hw [] gg ua 1 h0 gp pa (Or.inl ⟨gG ▸ Nat.gcd_dvd_left _ _, rfl⟩)) (g := (mkF m 102 #[.val (.long p1), .second, .val (.long p2), .second, .val (.long p3), .second, .val (.int p4), .val (.int (0 : Int32)), .val (.long ua), .second, .val (.long ub), .second, .val (.long ud), .second, .val (.long gg), .second, .unset, .unset] [(.long ua), (.long gg)])) rfl (by rw [hml]; rfl) (argsL := [(.long gg), (.long ua)]) (rest := []) (lenOf pd_1 rfl) rfl rfl (by show 2 * 0 + _ ≤ _; exact Nat.le_of_eq rfl) (hb hby at_102) (by decide) (by decide) (by decide) (by decide)
    obtain ⟨rfl, rfl, q10⟩ := Q10
    refine own_st (B := (T10.setTop (mkF m 105 #[.val (.long p1), .second, .val (.long p2), .second, .val (.long p3), .second, .val (.int p4), .val (.int (0 : Int32)), .val (.long ua), .second, .val (.long ub), .second, .val (.long ud), .second, .val (.long gg), .second, .unset, .unset] [(.int (1 : Int32))]))) st10 ?_
    refine own_st (B := (T10.setTop (mkF m 108 #[.val (.long p1), .second, .val (.long p2), .second, .val (.long p3), .second, .val (.int p4), .val (.int (0 : Int32)), .val (.long ua), .second, .val (.long ub), .second, .val (.long ud), .second, .val (.long gg), .second, .unset, .unset] []))) (fun _ k => XS.ifNo X10.here hx rfl (hb hby at_105) rfl ((if0 _ _).trans (feq (by decide)).1) k) ?_
    refine own_st (B := (T10.setTop (mkF m 110 #[.val (.long p1), .second, .val (.long p2), .second, .val (.long p3), .second, .val (.int p4), .val (.int (0 : Int32)), .val (.long ua), .second, .val (.long ub), .second, .val (.long ud), .second, .val (.long gg), .second, .unset, .unset] [(.long gg)]))) (fun _ k => XS.lload X10.here hx rfl (hb hby at_108) rfl k) ?_
    refine own_st (B := (T10.setTop (mkF m 112 #[.val (.long p1), .second, .val (.long p2), .second, .val (.long p3), .second, .val (.int p4), .val (.int (0 : Int32)), .val (.long ua), .second, .val (.long ub), .second, .val (.long ud), .second, .val (.long gg), .second, .unset, .unset] [(.long ub), (.long gg)]))) (fun _ k => XS.lload X10.here hx rfl (hb hby at_110) rfl k) ?_
    obtain ⟨v11, T11, L11, X11, Q11, st11⟩ := own_callS (W := 0) X10 hx hZ (y := (⟨"com/example/ratable/ratable/FractionGcdPinLaw", "divides", "(JJ)Z"⟩ : MethodName)) hown (hw _ (List.mem_of_getElem? (i := 5) rfl)) (hw _ (List.mem_of_getElem? (i := 6) rfl)) (hw _ (List.mem_of_getElem? (i := 7) rfl)) (hw _ (List.mem_of_getElem? (i := 8) rfl)) (by decide) q10 (rm_div l Z a0 hw [] gg ub 1 h0 gp pb (Or.inl ⟨gG ▸ Nat.gcd_dvd_right _ _, rfl⟩)) (g := (mkF m 112 #[.val (.long p1), .second, .val (.long p2), .second, .val (.long p3), .second, .val (.int p4), .val (.int (0 : Int32)), .val (.long ua), .second, .val (.long ub), .second, .val (.long ud), .second, .val (.long gg), .second, .unset, .unset] [(.long ub), (.long gg)])) rfl (by rw [hml]; rfl) (argsL := [(.long gg), (.long ub)]) (rest := []) (lenOf pd_1 rfl) rfl rfl (by show 2 * 0 + _ ≤ _; exact Nat.le_of_eq rfl) (hb hby at_112) (by decide) (by decide) (by decide) (by decide)
    obtain ⟨rfl, rfl, q11⟩ := Q11
    refine own_st (B := (T11.setTop (mkF m 115 #[.val (.long p1), .second, .val (.long p2), .second, .val (.long p3), .second, .val (.int p4), .val (.int (0 : Int32)), .val (.long ua), .second, .val (.long ub), .second, .val (.long ud), .second, .val (.long gg), .second, .unset, .unset] [(.int (1 : Int32))]))) st11 ?_
    refine own_st (B := (T11.setTop (mkF m 120 #[.val (.long p1), .second, .val (.long p2), .second, .val (.long p3), .second, .val (.int p4), .val (.int (0 : Int32)), .val (.long ua), .second, .val (.long ub), .second, .val (.long ud), .second, .val (.long gg), .second, .unset, .unset] []))) (fun _ k => XS.ifYes X11.here hx rfl (pc0 := 115) (pc' := 120) rfl (hb hby at_115) rfl ((if0 _ _).trans (feq (by decide)).2) (by decide) (by decide) k) ?_
    refine own_st (B := (T11.setTop (mkF m 122 #[.val (.long p1), .second, .val (.long p2), .second, .val (.long p3), .second, .val (.int p4), .val (.int (0 : Int32)), .val (.long ua), .second, .val (.long ub), .second, .val (.long ud), .second, .val (.long gg), .second, .unset, .unset] [(.long ud)]))) (fun _ k => XS.lload X11.here hx rfl (hb hby at_120) rfl k) ?_
    refine own_st (B := (T11.setTop (mkF m 124 #[.val (.long p1), .second, .val (.long p2), .second, .val (.long p3), .second, .val (.int p4), .val (.int (0 : Int32)), .val (.long ua), .second, .val (.long ub), .second, .val (.long ud), .second, .val (.long gg), .second, .unset, .unset] [(.long ua), (.long ud)]))) (fun _ k => XS.lload X11.here hx rfl (hb hby at_122) rfl k) ?_
    by_cases da : own_N ud ∣ own_N ua
    · obtain ⟨v12, T12, L12, X12, Q12, st12⟩ := own_callS (W := 0) X11 hx hZ (y := (⟨"com/example/ratable/ratable/FractionGcdPinLaw", "divides", "(JJ)Z"⟩ : MethodName)) hown (hw _ (List.mem_of_getElem? (i := 5) rfl)) (hw _ (List.mem_of_getElem? (i := 6) rfl)) (hw _ (List.mem_of_getElem? (i := 7) rfl)) (hw _ (List.mem_of_getElem? (i := 8) rfl)) (by decide) q11 (rm_div l Z a0 hw [] ud ua 1 h0 pd pa (Or.inl ⟨da, rfl⟩)) (g := (mkF m 124 #[.val (.long p1), .second, .val (.long p2), .second, .val (.long p3), .second, .val (.int p4), .val (.int (0 : Int32)), .val (.long ua), .second, .val (.long ub), .second, .val (.long ud), .second, .val (.long gg), .second, .unset, .unset] [(.long ua), (.long ud)])) rfl (by rw [hml]; rfl) (argsL := [(.long ud), (.long ua)]) (rest := []) (lenOf pd_1 rfl) rfl rfl (by show 2 * 0 + _ ≤ _; exact Nat.le_of_eq rfl) (hb hby at_124) (by decide) (by decide) (by decide) (by decide)
      obtain ⟨rfl, rfl, q12⟩ := Q12
      refine own_st (B := (T12.setTop (mkF m 127 #[.val (.long p1), .second, .val (.long p2), .second, .val (.long p3), .second, .val (.int p4), .val (.int (0 : Int32)), .val (.long ua), .second, .val (.long ub), .second, .val (.long ud), .second, .val (.long gg), .second, .unset, .unset] [(.int (1 : Int32))]))) st12 ?_
      refine own_st (B := (T12.setTop (mkF m 130 #[.val (.long p1), .second, .val (.long p2), .second, .val (.long p3), .second, .val (.int p4), .val (.int (0 : Int32)), .val (.long ua), .second, .val (.long ub), .second, .val (.long ud), .second, .val (.long gg), .second, .unset, .unset] []))) (fun _ k => XS.ifNo X12.here hx rfl (hb hby at_127) rfl ((if0 _ _).trans (feq (by decide)).1) k) ?_
      refine own_st (B := (T12.setTop (mkF m 132 #[.val (.long p1), .second, .val (.long p2), .second, .val (.long p3), .second, .val (.int p4), .val (.int (0 : Int32)), .val (.long ua), .second, .val (.long ub), .second, .val (.long ud), .second, .val (.long gg), .second, .unset, .unset] [(.long ud)]))) (fun _ k => XS.lload X12.here hx rfl (hb hby at_130) rfl k) ?_
      refine own_st (B := (T12.setTop (mkF m 134 #[.val (.long p1), .second, .val (.long p2), .second, .val (.long p3), .second, .val (.int p4), .val (.int (0 : Int32)), .val (.long ua), .second, .val (.long ub), .second, .val (.long ud), .second, .val (.long gg), .second, .unset, .unset] [(.long ub), (.long ud)]))) (fun _ k => XS.lload X12.here hx rfl (hb hby at_132) rfl k) ?_
      by_cases db : own_N ud ∣ own_N ub
      · obtain ⟨v13, T13, L13, X13, Q13, st13⟩ := own_callS (W := 0) X12 hx hZ (y := (⟨"com/example/ratable/ratable/FractionGcdPinLaw", "divides", "(JJ)Z"⟩ : MethodName)) hown (hw _ (List.mem_of_getElem? (i := 5) rfl)) (hw _ (List.mem_of_getElem? (i := 6) rfl)) (hw _ (List.mem_of_getElem? (i := 7) rfl)) (hw _ (List.mem_of_getElem? (i := 8) rfl)) (by decide) q12 (rm_div l Z a0 hw [] ud ub 1 h0 pd pb (Or.inl ⟨db, rfl⟩)) (g := (mkF m 134 #[.val (.long p1), .second, .val (.long p2), .second, .val (.long p3), .second, .val (.int p4), .val (.int (0 : Int32)), .val (.long ua), .second, .val (.long ub), .second, .val (.long ud), .second, .val (.long gg), .second, .unset, .unset] [(.long ub), (.long ud)])) rfl (by rw [hml]; rfl) (argsL := [(.long ud), (.long ub)]) (rest := []) (lenOf pd_1 rfl) rfl rfl (by show 2 * 0 + _ ≤ _; exact Nat.le_of_eq rfl) (hb hby at_134) (by decide) (by decide) (by decide) (by decide)
        obtain ⟨rfl, rfl, q13⟩ := Q13
        refine own_st (B := (T13.setTop (mkF m 137 #[.val (.long p1), .second, .val (.long p2), .second, .val (.long p3), .second, .val (.int p4), .val (.int (0 : Int32)), .val (.long ua), .second, .val (.long ub), .second, .val (.long ud), .second, .val (.long gg), .second, .unset, .unset] [(.int (1 : Int32))]))) st13 ?_
        refine own_st (B := (T13.setTop (mkF m 140 #[.val (.long p1), .second, .val (.long p2), .second, .val (.long p3), .second, .val (.int p4), .val (.int (0 : Int32)), .val (.long ua), .second, .val (.long ub), .second, .val (.long ud), .second, .val (.long gg), .second, .unset, .unset] []))) (fun _ k => XS.ifNo X13.here hx rfl (hb hby at_137) rfl ((if0 _ _).trans (feq (by decide)).1) k) ?_
        refine own_st (B := (T13.setTop (mkF m 142 #[.val (.long p1), .second, .val (.long p2), .second, .val (.long p3), .second, .val (.int p4), .val (.int (0 : Int32)), .val (.long ua), .second, .val (.long ub), .second, .val (.long ud), .second, .val (.long gg), .second, .unset, .unset] [(.long ud)]))) (fun _ k => XS.lload X13.here hx rfl (hb hby at_140) rfl k) ?_
        refine own_st (B := (T13.setTop (mkF m 144 #[.val (.long p1), .second, .val (.long p2), .second, .val (.long p3), .second, .val (.int p4), .val (.int (0 : Int32)), .val (.long ua), .second, .val (.long ub), .second, .val (.long ud), .second, .val (.long gg), .second, .unset, .unset] [(.long gg), (.long ud)]))) (fun _ k => XS.lload X13.here hx rfl (hb hby at_142) rfl k) ?_
        obtain ⟨v14, T14, L14, X14, Q14, st14⟩ := own_callS (W := 0) X13 hx hZ (y := (⟨"com/example/ratable/ratable/FractionGcdPinLaw", "divides", "(JJ)Z"⟩ : MethodName)) hown (hw _ (List.mem_of_getElem? (i := 5) rfl)) (hw _ (List.mem_of_getElem? (i := 6) rfl)) (hw _ (List.mem_of_getElem? (i := 7) rfl)) (hw _ (List.mem_of_getElem? (i := 8) rfl)) (by decide) q13 (rm_div l Z a0 hw [] ud gg 1 h0 pd gp (Or.inl ⟨gG ▸ Nat.dvd_gcd da db, rfl⟩)) (g := (mkF m 144 #[.val (.long p1), .second, .val (.long p2), .second, .val (.long p3), .second, .val (.int p4), .val (.int (0 : Int32)), .val (.long ua), .second, .val (.long ub), .second, .val (.long ud), .second, .val (.long gg), .second, .unset, .unset] [(.long gg), (.long ud)])) rfl (by rw [hml]; rfl) (argsL := [(.long ud), (.long gg)]) (rest := []) (lenOf pd_1 rfl) rfl rfl (by show 2 * 0 + _ ≤ _; exact Nat.le_of_eq rfl) (hb hby at_144) (by decide) (by decide) (by decide) (by decide)
        obtain ⟨rfl, rfl, q14⟩ := Q14
        refine own_st (B := (T14.setTop (mkF m 147 #[.val (.long p1), .second, .val (.long p2), .second, .val (.long p3), .second, .val (.int p4), .val (.int (0 : Int32)), .val (.long ua), .second, .val (.long ub), .second, .val (.long ud), .second, .val (.long gg), .second, .unset, .unset] [(.int (1 : Int32))]))) st14 ?_
        exact own_retN X14 hx hlk (t := .boolean) hret (by simp) (hb hby at_147) (by show own_Q0 n0 _ T14.heap _; rw [q14]; exact ⟨rfl, by simpa using N0⟩) (by decide) (by decide)
      · obtain ⟨v15, T15, L15, X15, Q15, st15⟩ := own_callS (W := 0) X12 hx hZ (y := (⟨"com/example/ratable/ratable/FractionGcdPinLaw", "divides", "(JJ)Z"⟩ : MethodName)) hown (hw _ (List.mem_of_getElem? (i := 5) rfl)) (hw _ (List.mem_of_getElem? (i := 6) rfl)) (hw _ (List.mem_of_getElem? (i := 7) rfl)) (hw _ (List.mem_of_getElem? (i := 8) rfl)) (by decide) q12 (rm_div l Z a0 hw [] ud ub 0 h0 pd pb (Or.inr ⟨db, rfl⟩)) (g := (mkF m 134 #[.val (.long p1), .second, .val (.long p2), .second, .val (.long p3), .second, .val (.int p4), .val (.int (0 : Int32)), .val (.long ua), .second, .val (.long ub), .second, .val (.long ud), .second, .val (.long gg), .second, .unset, .unset] [(.long ub), (.long ud)])) rfl (by rw [hml]; rfl) (argsL := [(.long ud), (.long ub)]) (rest := []) (lenOf pd_1 rfl) rfl rfl (by show 2 * 0 + _ ≤ _; exact Nat.le_of_eq rfl) (hb hby at_134) (by decide) (by decide) (by decide) (by decide)
        obtain ⟨rfl, rfl, q15⟩ := Q15
        refine own_st (B := (T15.setTop (mkF m 137 #[.val (.long p1), .second, .val (.long p2), .second, .val (.long p3), .second, .val (.int p4), .val (.int (0 : Int32)), .val (.long ua), .second, .val (.long ub), .second, .val (.long ud), .second, .val (.long gg), .second, .unset, .unset] [(.int (0 : Int32))]))) st15 ?_
        refine own_st (B := (T15.setTop (mkF m 148 #[.val (.long p1), .second, .val (.long p2), .second, .val (.long p3), .second, .val (.int p4), .val (.int (0 : Int32)), .val (.long ua), .second, .val (.long ub), .second, .val (.long ud), .second, .val (.long gg), .second, .unset, .unset] []))) (fun _ k => XS.ifYes X15.here hx rfl (pc0 := 137) (pc' := 148) rfl (hb hby at_137) rfl ((if0 _ _).trans (teq (by decide)).1) (by decide) (by decide) k) ?_
        refine own_st (B := (T15.setTop (mkF m 149 #[.val (.long p1), .second, .val (.long p2), .second, .val (.long p3), .second, .val (.int p4), .val (.int (0 : Int32)), .val (.long ua), .second, .val (.long ub), .second, .val (.long ud), .second, .val (.long gg), .second, .unset, .unset] [(.int (1 : Int32))]))) (fun _ k => XS.iconst X15.here hx rfl (hb hby at_148) k) ?_
        exact own_retN X15 hx hlk (t := .boolean) hret (by simp) (hb hby at_149) (by show own_Q0 n0 _ T15.heap _; rw [q15]; exact ⟨rfl, by simpa using N0⟩) (by decide) (by decide)
    · obtain ⟨v16, T16, L16, X16, Q16, st16⟩ := own_callS (W := 0) X11 hx hZ (y := (⟨"com/example/ratable/ratable/FractionGcdPinLaw", "divides", "(JJ)Z"⟩ : MethodName)) hown (hw _ (List.mem_of_getElem? (i := 5) rfl)) (hw _ (List.mem_of_getElem? (i := 6) rfl)) (hw _ (List.mem_of_getElem? (i := 7) rfl)) (hw _ (List.mem_of_getElem? (i := 8) rfl)) (by decide) q11 (rm_div l Z a0 hw [] ud ua 0 h0 pd pa (Or.inr ⟨da, rfl⟩)) (g := (mkF m 124 #[.val (.long p1), .second, .val (.long p2), .second, .val (.long p3), .second, .val (.int p4), .val (.int (0 : Int32)), .val (.long ua), .second, .val (.long ub), .second, .val (.long ud), .second, .val (.long gg), .second, .unset, .unset] [(.long ua), (.long ud)])) rfl (by rw [hml]; rfl) (argsL := [(.long ud), (.long ua)]) (rest := []) (lenOf pd_1 rfl) rfl rfl (by show 2 * 0 + _ ≤ _; exact Nat.le_of_eq rfl) (hb hby at_124) (by decide) (by decide) (by decide) (by decide)
      obtain ⟨rfl, rfl, q16⟩ := Q16
      refine own_st (B := (T16.setTop (mkF m 127 #[.val (.long p1), .second, .val (.long p2), .second, .val (.long p3), .second, .val (.int p4), .val (.int (0 : Int32)), .val (.long ua), .second, .val (.long ub), .second, .val (.long ud), .second, .val (.long gg), .second, .unset, .unset] [(.int (0 : Int32))]))) st16 ?_
      refine own_st (B := (T16.setTop (mkF m 148 #[.val (.long p1), .second, .val (.long p2), .second, .val (.long p3), .second, .val (.int p4), .val (.int (0 : Int32)), .val (.long ua), .second, .val (.long ub), .second, .val (.long ud), .second, .val (.long gg), .second, .unset, .unset] []))) (fun _ k => XS.ifYes X16.here hx rfl (pc0 := 127) (pc' := 148) rfl (hb hby at_127) rfl ((if0 _ _).trans (teq (by decide)).1) (by decide) (by decide) k) ?_
      refine own_st (B := (T16.setTop (mkF m 149 #[.val (.long p1), .second, .val (.long p2), .second, .val (.long p3), .second, .val (.int p4), .val (.int (0 : Int32)), .val (.long ua), .second, .val (.long ub), .second, .val (.long ud), .second, .val (.long gg), .second, .unset, .unset] [(.int (1 : Int32))]))) (fun _ k => XS.iconst X16.here hx rfl (hb hby at_148) k) ?_
      exact own_retN X16 hx hlk (t := .boolean) hret (by simp) (hb hby at_149) (by show own_Q0 n0 _ T16.heap _; rw [q16]; exact ⟨rfl, by simpa using N0⟩) (by decide) (by decide)
set_option maxRecDepth 65536 in
set_option maxHeartbeats 40000000 in
theorem comes_1 {Post : Tables → Env → Array Value → State → Outcome → State → Prop} (hpost : ∀ tb e args s v u, (limb_1_1.after args s (.returned v) u = true ∧ limb_1_2.after args s (.returned v) u = true ∧ True) → FrameEnd s (.returned v) u (Jvm.fieldLocs frame_1_writes args s ++ Jvm.arrayLocs frame_1_arrays args s ++ Jvm.staticLocs frame_1_statics s) 0 0 → Post tb e args s (.returned v) u) :
    ArmFor flags0 classFile x code maxLocals ret World_1 tables_1 room_1 Calls_1 rest_1 Pre_1 Post := by
  intro l hfl _ _ p e ha hc hk s m args below hf hA hF happ hP
  obtain ⟨hcalls, hrest, hpre⟩ := hP
  obtain ⟨-, -, -, hnamed, -, -, -, hat⟩ := (Spec.applies_iff hf).mp happ
  obtain ⟨hg, hn⟩ := and_e (Cond.before_iff.mp (show (Jvm.Cond.and given_1 narrow_1).before args s = true from hpre))
  obtain ⟨g1, g2⟩ := and_e hg
  obtain ⟨g3, g4⟩ := and_e g2
  obtain ⟨g5, g6⟩ := and_e g4
  obtain ⟨g7, g8⟩ := and_e g6
  obtain ⟨w0, w1, w2, w3, rfl⟩ : ∃ w0 w1 w2 w3 : Value, args = #[w0, w1, w2, w3] := by
    have hs : args.size = 4 := by simpa [Cond.value, given_1] using g1
    obtain ⟨L⟩ := args
    match L, hs with
    | [w0, w1, w2, w3], _ => exact ⟨w0, w1, w2, w3, rfl⟩
  have hw := fun d (hd : d ∈ tables_1) => atoms_spec (ws := Jvm.Cond.code x code maxLocals ret :: tables_1) hat d (List.mem_cons_of_mem _ hd)
  have hfit : Fit s := fun {y c} hc i hi => by
    obtain ⟨ha, rfl⟩ := Array.getElem?_eq_some_iff.mp hc
    have q := List.all_eq_true.mp ((Array.all_eq_true_iff_forall_mem.mp hF) _ (Array.getElem_mem ha)) i (List.mem_range.mpr hi)
    simpa [Array.getElem?_eq_getElem hi] using q
  obtain ⟨i0, ei0⟩ := isL_v g3
  obtain rfl : w0 = (.long i0) := Option.some.inj ei0
  obtain ⟨i1, ei1⟩ := isL_v g5
  obtain rfl : w1 = (.long i1) := Option.some.inj ei1
  obtain ⟨i2, ei2⟩ := isL_v g7
  obtain rfl : w2 = (.long i2) := Option.some.inj ei2
  obtain ⟨i3, ei3⟩ := is_v g8
  obtain rfl : w3 = (.int i3) := Option.some.inj ei3
  obtain ⟨n, o, h1, h2, h3, _, L, rfl, ⟨rfl, N⟩, hq⟩ := rm_law l s _ hw tables_1 i0 i1 i2 i3 s.heap s.heap.size (Nat.le_refl _) p e ha hc hk s m _ below hf ((Spec.applies_iff_loose hf).mp happ).1 ⟨rfl, State.Warmed39.refl s, rfl⟩ trivial
  refine ⟨n, _, h1, h2, h3, hpost _ _ _ _ _ _ ⟨Cond.after_iff.mpr rfl, Cond.after_iff.mpr (eq_i res_at (Term.int_eval (1)) rfl), trivial⟩ ⟨hq.1, hq.2.1, (hq.2.2.sift fun y hy => Or.inr (N y hy)).mono (by decide) (by decide)⟩⟩
theorem main_1_1 : Claimed_1_1 := comes_1 fun _ _ _ _ _ _ h hF => ⟨h.1, hF⟩
theorem main_1_2 : Claimed_1_2 := comes_1 fun _ _ _ _ _ _ h hF => ⟨h.2.1, hF⟩
end Jvm.Pilot.@@N@@
namespace Jvm.Pilot.@@N@@
open Jvm Jvm.ClassFile Sem Op Lib Jvm.Free Jvm.Stand Jvm.Pilot.@@N@@.Jvm.D
/-! MADE BY PROGRAM (witnessworld.py) out of the Statement's table words and the real class files: 11 classes; the members and pool entries that the words name. The judged class is class 1, her method 2. -/
namespace start1
open Jvm.ClassFile
def u (s : String) : CpInfo := .utf8 (stringToUtf16 s)
/-- a pool by its gaps: so many unusable entries, then the entry; so many at the end -/
def gap : Nat → List CpInfo → List CpInfo
  | 0, r => r
  | n + 1, r => .unusable :: gap n r
def poolList (es : List (Nat × CpInfo)) (last : Nat) : List CpInfo := es.foldr (fun e r => gap e.1 (e.2 :: r)) (gap last [])
def pool (es : List (Nat × CpInfo)) (last : Nat) : Array CpInfo := ⟨poolList es last⟩
def fileOf (pool : Array CpInfo) (this : Nat) (attrs : Array Attribute := #[]) (ms : Array MethodInfo := #[]) (fl : Nat := 33) (sup : Nat := 0) (ifs : Array Nat := #[]) (fds : Array FieldInfo := #[]) : ClassFile where
  minorVersion := 0
  majorVersion := 65
  constantPool := pool
  accessFlags := fl
  thisClass := this
  superClass := sup
  interfaces := ifs
  fields := fds
  methods := ms
  attributes := attrs
def plain (name : String) (sup : Option ClassId) : Class where
  name := name
  kind := .ordinary
  loader := none
  accessFlags := 33
  super := sup
  interfaces := #[]
  cf := none
  fields := #[]
  methods := #[]
  instanceTypes := #[]
  staticTypes := #[]
  resolved := #[]
  callSites := []
  init := .initialized
  statics := none
  mirror := none

def pool0 : Array CpInfo := pool [(5, u "<init>"), (0, u "()V"), (1, .class_ 10), (1, u "java/lang/Object")] 113

def k0m0 : Method := { name := "<init>", desc := "()V", sig := { parameters := [], returnType := none }, accessFlags := 1, code := none }
/-- java/lang/Object -/
def k0 : Class := { plain "java/lang/Object" none with
  accessFlags := 33
  interfaces := #[]
  cf := some (fileOf pool0 8 #[] #[{ accessFlags := 1, nameIndex := 5, descriptorIndex := 6, attributes := #[] }] 33 0 #[] #[])
  fields := #[]
  methods := #[k0m0]
  instanceTypes := #[]
  staticTypes := #[]
  resolved := Array.replicate 124 none
  statics := none }

def pool1 : Array CpInfo := pool [(2, .class_ 4), (1, u "java/lang/Object"), (0, u "<init>"), (0, u "()V"), (0, .long 2147483647), (3, .long 9223372036854775807), (1, .methodref 14 15), (0, .class_ 16), (0, .nameAndType 17 18), (0, u "com/example/ratable/ratable/Fraction"), (0, u "gcd"), (0, u "(JJ)J"), (0, .methodref 20 21), (0, .class_ 22), (0, .nameAndType 23 24), (0, u "com/example/ratable/ratable/FractionGcdPinLaw"), (0, u "divides"), (0, u "(JJ)Z"), (3, u "law"), (0, u "(JJJI)Z")] 2

def k1m0 : Method := { name := "<init>", desc := "()V", sig := { parameters := [], returnType := none }, accessFlags := 2, code := none }
def k1c1 : Code := { maxStack := 4, maxLocals := 4, code := method_2_code, exceptionTable := #[], attributes := #[] }
def k1m1 : Method := { name := "divides", desc := "(JJ)Z", sig := { parameters := [.long, .long], returnType := some .boolean }, accessFlags := 10, code := some k1c1 }
def k1c2 : Code := { maxStack := 4, maxLocals := 18, code := code, exceptionTable := #[], attributes := #[] }
def k1m2 : Method := { name := "law", desc := "(JJJI)Z", sig := { parameters := [.long, .long, .long, .int], returnType := some .boolean }, accessFlags := 9, code := some k1c2 }
/-- com/example/ratable/ratable/FractionGcdPinLaw -/
def k1 : Class := { plain "com/example/ratable/ratable/FractionGcdPinLaw" (some 0) with
  accessFlags := 49
  interfaces := #[]
  cf := some (fileOf pool1 20 #[] #[{ accessFlags := 2, nameIndex := 5, descriptorIndex := 6, attributes := #[] }, { accessFlags := 10, nameIndex := 23, descriptorIndex := 24, attributes := #[] }, { accessFlags := 9, nameIndex := 28, descriptorIndex := 29, attributes := #[] }] 49 2 #[] #[])
  fields := #[]
  methods := #[k1m0, k1m1, k1m2]
  instanceTypes := #[]
  staticTypes := #[]
  resolved := Array.replicate 32 none
  statics := none }

def pool2 : Array CpInfo := pool [(2, .class_ 4), (1, u "java/lang/Object"), (0, u "<init>"), (0, u "()V"), (0, .class_ 8), (0, u "java/lang/Record")] 13

def k2m0 : Method := { name := "<init>", desc := "()V", sig := { parameters := [], returnType := none }, accessFlags := 4, code := none }
/-- java/lang/Record -/
def k2 : Class := { plain "java/lang/Record" (some 0) with
  accessFlags := 1057
  interfaces := #[]
  cf := some (fileOf pool2 7 #[] #[{ accessFlags := 4, nameIndex := 5, descriptorIndex := 6, attributes := #[] }] 1057 2 #[] #[])
  fields := #[]
  methods := #[k2m0]
  instanceTypes := #[]
  staticTypes := #[]
  resolved := Array.replicate 22 none
  statics := none }

def pool3 : Array CpInfo := pool [(1, .class_ 2), (0, u "java/lang/Comparable"), (0, .class_ 4), (0, u "java/lang/Object")] 7

/-- java/lang/Comparable -/
def k3 : Class := { plain "java/lang/Comparable" (some 0) with
  accessFlags := 1537
  interfaces := #[]
  cf := some (fileOf pool3 1 #[] #[] 1537 3 #[] #[])
  fields := #[]
  methods := #[]
  instanceTypes := #[]
  staticTypes := #[]
  resolved := Array.replicate 12 none
  statics := none }

def pool4 : Array CpInfo := pool [(2, .class_ 4), (1, u "java/lang/Record"), (3, u "numerator"), (7, u "denominator"), (22, .class_ 41), (1, u "com/example/ratable/ratable/Fraction"), (0, u "Ljava/math/BigDecimal;"), (4, u "TEXT"), (0, u "Ljava/util/regex/Pattern;"), (58, .class_ 108), (0, u "java/lang/Comparable"), (4, u "gcd"), (0, u "(JJ)J")] 43

def k4c0 : Code := { maxStack := 4, maxLocals := 10, code := prog_10_method_2_code, exceptionTable := #[], attributes := #[] }
def k4m0 : Method := { name := "gcd", desc := "(JJ)J", sig := { parameters := [.long, .long], returnType := some .long }, accessFlags := 8, code := some k4c0 }
/-- com/example/ratable/ratable/Fraction -/
def k4 : Class := { plain "com/example/ratable/ratable/Fraction" (some 2) with
  accessFlags := 49
  interfaces := #[3]
  cf := some (fileOf pool4 39 #[] #[{ accessFlags := 8, nameIndex := 113, descriptorIndex := 114, attributes := #[] }] 49 2 #[107] #[{ accessFlags := 18, nameIndex := 8, descriptorIndex := 42, attributes := #[] }, { accessFlags := 18, nameIndex := 16, descriptorIndex := 42, attributes := #[] }, { accessFlags := 26, nameIndex := 47, descriptorIndex := 48, attributes := #[] }])
  fields := #[{ name := "numerator", type := (.object "java/math/BigDecimal"), accessFlags := 18, slot := 0, constantValue := 0 }, { name := "denominator", type := (.object "java/math/BigDecimal"), accessFlags := 18, slot := 1, constantValue := 0 }, { name := "TEXT", type := (.object "java/util/regex/Pattern"), accessFlags := 26, slot := 0, constantValue := 0 }]
  methods := #[k4m0]
  instanceTypes := #[(.object "java/math/BigDecimal"), (.object "java/math/BigDecimal")]
  staticTypes := #[(.object "java/util/regex/Pattern")]
  resolved := Array.replicate 158 none
  statics := none }

def pool5 : Array CpInfo := pool [(1, u "java/lang/Cloneable"), (0, .class_ 1), (0, u "java/lang/Object"), (0, .class_ 3)] 3

/-- java/lang/Cloneable -/
def k5 : Class := { plain "java/lang/Cloneable" (some 0) with
  accessFlags := 1537
  interfaces := #[]
  cf := some (fileOf pool5 2 #[] #[] 1537 4 #[] #[])
  fields := #[]
  methods := #[]
  instanceTypes := #[]
  staticTypes := #[]
  resolved := Array.replicate 8 none
  statics := none }

def pool6 : Array CpInfo := pool [(1, u "java/io/Serializable"), (0, .class_ 1), (0, u "java/lang/Object"), (0, .class_ 3)] 3

/-- java/io/Serializable -/
def k6 : Class := { plain "java/io/Serializable" (some 0) with
  accessFlags := 1537
  interfaces := #[]
  cf := some (fileOf pool6 2 #[] #[] 1537 4 #[] #[])
  fields := #[]
  methods := #[]
  instanceTypes := #[]
  staticTypes := #[]
  resolved := Array.replicate 8 none
  statics := none }

/-- the primitive byte -/
def k7 : Class := { plain "byte" none with kind := .primitive 'B', accessFlags := 0x411 }
/-- [B -/
def k8 : Class := { plain "[B" (some 0) with kind := .array 7 .byte, interfaces := #[5, 6], accessFlags := 1041 }

/-- the primitive int -/
def k9 : Class := { plain "int" none with kind := .primitive 'I', accessFlags := 0x411 }
/-- [I -/
def k10 : Class := { plain "[I" (some 0) with kind := .array 9 .int, interfaces := #[5, 6], accessFlags := 1041 }

def heap : Heap := #[]
def classes : Array Class := #[k0, k1, k2, k3, k4, k5, k6, k7, k8, k9, k10]
def interned : List (Array UInt16 × Addr) := []
def slotsUsed : Nat := 0
def theMethod : MethodId := ⟨1, 2⟩
def args0 : Array Value := #[.long 12, .long 18, .long 3, .int 0]
def aboutOver (below : List Frame) : State where
  vm := { classes := classes, interned := interned.toArray }
  heap := heap
  slotsUsed := slotsUsed
  threads := #[{ frames := .invoking theMethod args0 :: below }]
def below0 : List Frame := [.native { method := ⟨0, 0⟩, args := #[] }]
def about1 : State := aboutOver below0
def p0 : Program := .bare "" "" ""
def e0 : Env := launch0.env 0 0 0
theorem w_frames : about1.frames = Frame.invoking theMethod args0 :: below0 := rfl
set_option maxRecDepth 65536 in
theorem w_args : argsFit about1.vm theMethod args0 = true := by decide +kernel
set_option maxRecDepth 65536 in
theorem w_heap : heapFits about1 = true := by decide +kernel
set_option maxRecDepth 65536 in
theorem w_runnable : about1.curStatus? = some .runnable := by decide +kernel
set_option maxRecDepth 65536 in
theorem w_alone : about1.alone = true := by decide +kernel
set_option maxRecDepth 65536 in
theorem w_named : about1.methodNamed? x = some theMethod := by decide +kernel
set_option maxRecDepth 65536 in
theorem w_hears : about1.hears theMethod below0 = true := by decide +kernel
set_option maxRecDepth 65536 in
theorem w_ripe : about1.ripe theMethod args0 below0 = true := by decide +kernel
theorem w_running : about1.status = .running := rfl
set_option maxRecDepth 65536 in
theorem w_room : about1.hasRoom e0.platform room_1 = true :=
  launch0.hasRoom_least _ room_1 (by decide +kernel) (by decide +kernel) (by decide +kernel) (by decide +kernel) (by decide +kernel) (by decide +kernel)
theorem allAtoms_all (ts : List Jvm.Cond) (a : Array Jvm.Value) (st : Jvm.State) : (allAtoms ts).before a st = ts.all (fun c => c.before a st) := by
  induction ts with
  | nil => rfl
  | cons c t ih =>
    show (Jvm.Cond.and c (allAtoms t)).before a st = _
    rw [Jvm.Cond.before_and, ih, List.all_cons]
def words1 : List Jvm.Cond := Jvm.Cond.code x code maxLocals ret :: tables_1
/-- a 'code' word, met by the world's own term for the bytes: nothing is compared byte by byte -/
theorem code_word {y : MethodName} {bytes : ByteArray} {mx : Nat} {rt : Option FieldType} {a : Array Value} {s : State} {m : MethodId} {meth : Method} {c : Code} (h1 : s.methodNamed? y = some m) (h2 : s.vm.method? m = some meth) (h3 : meth.code = some c) (h4 : c.code = bytes)
    (h5 : (c.maxLocals == mx && c.exceptionTable.isEmpty && decide (c.maxStack ≤ mostOperands) && decide (meth.sig.returnType = rt) && !meth.locks && decide (parseMethodDescriptor y.desc = some meth.sig)) = true) : (Jvm.Cond.code y bytes mx rt).before a s = true := by
  simp only [Bool.and_eq_true, beq_iff_eq, Bool.not_eq_true', decide_eq_true_eq] at h5
  obtain ⟨⟨⟨⟨⟨g1, g2⟩, g3⟩, g4⟩, g5⟩, g6⟩ := h5
  simp [Cond.before, Cond.holds, Cond.value, h1, h2, h3, h4, g1, g2, g3, g4, g5, g6]
def isCode : Jvm.Cond → Bool
  | .code _ _ _ _ => true
  | _ => false
theorem all_split {L : List Jvm.Cond} {P : Jvm.Cond → Bool} (h1 : L.all (fun c => isCode c || P c) = true) (h2 : ∀ c ∈ L.filter isCode, P c = true) : L.all P = true := by
  refine List.all_eq_true.mpr fun c hc => ?_
  have h := List.all_eq_true.mp h1 c hc
  rcases Bool.eq_false_or_eq_true (isCode c) with hi | hi
  · exact h2 c (List.mem_filter.mpr ⟨hc, hi⟩)
  · simpa [hi] using h
set_option maxRecDepth 65536 in
theorem w_c0 : (Jvm.Cond.code x code maxLocals ret).before args0 about1 = true := code_word (m := ⟨1, 2⟩) (meth := k1m2) (c := k1c2) (by decide +kernel) rfl rfl rfl (by decide +kernel)
set_option maxRecDepth 65536 in
theorem w_c1 : (Jvm.Cond.code ({ cls := "com/example/ratable/ratable/Fraction", name := "gcd", desc := "(JJ)J" } : Jvm.MethodName) prog_10_method_2_code (10 : Nat) (Option.some Jvm.ClassFile.FieldType.long)).before args0 about1 = true := code_word (m := ⟨4, 0⟩) (meth := k4m0) (c := k4c0) (by decide +kernel) rfl rfl rfl (by decide +kernel)
set_option maxRecDepth 65536 in
theorem w_c2 : (Jvm.Cond.code ({ cls := "com/example/ratable/ratable/FractionGcdPinLaw", name := "divides", desc := "(JJ)Z" } : Jvm.MethodName) method_2_code (4 : Nat) (Option.some Jvm.ClassFile.FieldType.boolean)).before args0 about1 = true := code_word (m := ⟨1, 1⟩) (meth := k1m1) (c := k1c1) (by decide +kernel) rfl rfl rfl (by decide +kernel)
def codes1 : List Jvm.Cond := [Jvm.Cond.code x code maxLocals ret, Jvm.Cond.code ({ cls := "com/example/ratable/ratable/Fraction", name := "gcd", desc := "(JJ)J" } : Jvm.MethodName) prog_10_method_2_code (10 : Nat) (Option.some Jvm.ClassFile.FieldType.long), Jvm.Cond.code ({ cls := "com/example/ratable/ratable/FractionGcdPinLaw", name := "divides", desc := "(JJ)Z" } : Jvm.MethodName) method_2_code (4 : Nat) (Option.some Jvm.ClassFile.FieldType.boolean)]
set_option maxRecDepth 65536 in
theorem codes_eq : words1.filter isCode = codes1 := rfl
theorem w_codes : ∀ c ∈ words1.filter isCode, c.before args0 about1 = true := by
  rw [codes_eq]
  intro c hc
  simp only [codes1, List.mem_cons, List.not_mem_nil, or_false] at hc
  rcases hc with rfl | rfl | rfl
  · exact w_c0
  · exact w_c1
  · exact w_c2
set_option maxRecDepth 65536 in
theorem w_t1 : words1.all (fun c => isCode c || c.before args0 about1) = true := by decide +kernel
theorem w_tables : (allAtoms (Jvm.Cond.code x code maxLocals ret :: tables_1)).before args0 about1 = true := by
  rw [allAtoms_all]
  show words1.all (fun c => c.before args0 about1) = true
  refine all_split ?_ w_codes
  rw [w_t1]
set_option maxRecDepth 65536 in
theorem w_case : (Jvm.Cond.and given_1 narrow_1).before args0 about1 = true := by decide +kernel
theorem w_applies : (headSpec (Jvm.Cond.code x code maxLocals ret :: tables_1) room_1).applies x e0.platform about1 = true :=
  (Spec.applies_iff w_frames).mpr ⟨w_running, w_runnable, w_alone, w_named, w_hears, w_ripe, w_room, w_tables⟩
theorem atStart : AtStart classFile x code maxLocals ret World_1 tables_1 room_1 Calls_1 rest_1 Pre_1 launch0 p0 e0 about1 theMethod args0 below0 :=
  ⟨lists_1, trivial, launch0.admits_env _ _ _, launch0.least_env, fairChoices_fair.cas, fairChoices_fair.clock, w_frames, w_args, w_heap, w_applies, trivial, trivial, w_case⟩
end start1
theorem witness_1 : WitnessClaimed_1 := ⟨start1.p0, start1.e0, start1.about1, start1.theMethod, start1.args0, start1.below0, start1.atStart⟩
end Jvm.Pilot.@@N@@
