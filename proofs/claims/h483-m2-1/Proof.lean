import JvmDerived
import JvmDerived.Pilot.@@N@@Statement
import JvmDerived.Pilot.@@N@@Code
set_option linter.unusedVariables false
set_option linter.unusedSimpArgs false
namespace Jvm.Pilot.@@N@@
open Jvm Jvm.ClassFile Sem Op Lib Jvm.Free Jvm.Stand Jvm.LawKit Jvm.RoadKit Bundle Jvm.Pilot.@@N@@.Jvm.D
/-! what is left of a run (own_Dn) and the steps towards it: a walk goes FORWARD, goal by goal, and may fork anywhere -/
section Own
variable {p : Program} {l : Launch} {e : Env} {R : Room} {s : State} {m : MethodId} {args : Array Value} {below : List Frame} {meth : Method} {c : Code} {T : State} {locs : List Loc} {cells slots : Nat} {Z : State} {a0 : Array Value} {h : Heap}
def own_Dn (p : Program) (e : Env) (below : List Frame) (G : State → Outcome → Prop) (A : State) : Prop :=
  ∃ s₂ o, Steps p.tables e below A s₂ ∧ s₂.status = .running ∧ Ended s₂ below o ∧ G s₂ o
abbrev own_Ret (s : State) (Q : Option Value → Heap → List Loc → Prop) (k n : Nat) : State → Outcome → Prop :=
  fun s₂ o => ∃ v L, o = .returned v ∧ Q v s₂.heap L ∧ FrameEnd s o s₂ L k n
theorem own_st {G : State → Outcome → Prop} {A B : State} (k : ∀ t, Steps p.tables e below B t → Steps p.tables e below A t) (d : own_Dn p e below G B) : own_Dn p e below G A := by
  obtain ⟨n, o, h1, h2⟩ := d
  exact ⟨n, o, k n h1, h2⟩
theorem own_to {G : State → Outcome → Prop} {A B : State} (k : Steps p.tables e below A B) (d : own_Dn p e below G B) : own_Dn p e below G A := by
  obtain ⟨n, o, h1, h2⟩ := d
  exact ⟨n, o, k.trans h1, h2⟩
theorem own_ret {Q : Option Value → Heap → List Loc → Prop} {v : Option Value} {k n : Nat} {g : JFrame} (X : Stand p l e R s m args below meth c T locs cells slots) (hlk : meth.locks = false) (hv : meth.sig.returnType = none → v = none)
    (hstep : ∀ fs, (∀ (f : JFrame) (acts : List Action), f.method = m → f.locked = none → f.entered = [] → (doReturn e (T.setTop f) acts v).1 = T.setFrames fs) → Steps p.tables e below (T.setTop g) (T.setFrames fs))
    (hQ : Q v T.heap locs) (hk : cells ≤ k) (hn : slots ≤ n) : own_Dn p e below (own_Ret s Q k n) (T.setTop g) := by
  obtain ⟨fs, hr, hrun, hended, hW, hsame⟩ := X.leave (v := v) hv hlk
  exact ⟨_, _, hstep fs hr, hrun, hended, v, locs, rfl, hQ, ⟨_, rfl⟩, hW, hsame.mono hk hn⟩
/-- a return of nothing -/
theorem own_retV {Q : Option Value → Heap → List Loc → Prop} {k n pc : Nat} {Ls : Array Slot} (X : Stand p l e R s m args below meth c T locs cells slots) (hx : p.tables.exec = Jvm.exec) (hlk : meth.locks = false) (hret : meth.sig.returnType = none)
    (hd : decode c.code pc = .ok (.return_, 1)) (hQ : Q none T.heap locs) (hk : cells ≤ k) (hn : slots ≤ n) : own_Dn p e below (own_Ret s Q k n) (T.setTop (mkF m pc Ls [])) :=
  own_ret X hlk (fun _ => rfl) (fun _ hr => X.returnOut hx hret hd hr) hQ hk hn
/-- a return of a value of the return type's kind -/
theorem own_retW {Q : Option Value → Heap → List Loc → Prop} {k n pc : Nat} {Ls : Array Slot} {w : Value} {t : FieldType} {i : Instr} {rest : List Value} (X : Stand p l e R s m args below meth c T locs cells slots) (hx : p.tables.exec = Jvm.exec) (hlk : meth.locks = false)
    (hret : meth.sig.returnType = some t) (hnr : narrow t w = w)
    (hi : (i = .ireturn ∧ (t = .int ∨ t = .boolean ∨ t = .byte ∨ t = .char ∨ t = .short) ∧ ∃ z, w = .int z) ∨ (i = .lreturn ∧ t = .long ∧ ∃ z, w = .long z) ∨ (i = .dreturn ∧ t = .double ∧ ∃ z, w = .double z) ∨ (i = .freturn ∧ t = .float ∧ ∃ z, w = .float z) ∨ (i = .areturn ∧ t.isReference = true ∧ w.isRef = true))
    (hd : decode c.code pc = .ok (i, 1)) (hQ : Q (some w) T.heap locs) (hk : cells ≤ k) (hn : slots ≤ n) : own_Dn p e below (own_Ret s Q k n) (T.setTop (mkF m pc Ls (w :: rest))) :=
  own_ret X hlk (fun h => by rw [hret] at h; cases h) (fun _ hr => retOut X hx hret hnr hi hd hr) hQ hk hn
theorem own_retI {Q : Option Value → Heap → List Loc → Prop} {k n pc : Nat} {Ls : Array Slot} {z : Int32} {rest : List Value} (X : Stand p l e R s m args below meth c T locs cells slots) (hx : p.tables.exec = Jvm.exec) (hlk : meth.locks = false)
    (hret : meth.sig.returnType = some .int) (hd : decode c.code pc = .ok (.ireturn, 1)) (hQ : Q (some (.int z)) T.heap locs) (hk : cells ≤ k) (hn : slots ≤ n) : own_Dn p e below (own_Ret s Q k n) (T.setTop (mkF m pc Ls (.int z :: rest))) :=
  own_retW X hx hlk hret rfl (Or.inl ⟨rfl, Or.inl rfl, z, rfl⟩) hd hQ hk hn
theorem own_retJ {Q : Option Value → Heap → List Loc → Prop} {k n pc : Nat} {Ls : Array Slot} {z : Int64} {rest : List Value} (X : Stand p l e R s m args below meth c T locs cells slots) (hx : p.tables.exec = Jvm.exec) (hlk : meth.locks = false)
    (hret : meth.sig.returnType = some .long) (hd : decode c.code pc = .ok (.lreturn, 1)) (hQ : Q (some (.long z)) T.heap locs) (hk : cells ≤ k) (hn : slots ≤ n) : own_Dn p e below (own_Ret s Q k n) (T.setTop (mkF m pc Ls (.long z :: rest))) :=
  own_retW X hx hlk hret rfl (Or.inr (Or.inl ⟨rfl, rfl, z, rfl⟩)) hd hQ hk hn
theorem own_retA {Q : Option Value → Heap → List Loc → Prop} {k n pc : Nat} {Ls : Array Slot} {a : Addr} {t : FieldType} {rest : List Value} (X : Stand p l e R s m args below meth c T locs cells slots) (hx : p.tables.exec = Jvm.exec) (hlk : meth.locks = false)
    (hret : meth.sig.returnType = some t) (ht : t.isReference = true) (hd : decode c.code pc = .ok (.areturn, 1)) (hQ : Q (some (.ref a)) T.heap locs) (hk : cells ≤ k) (hn : slots ≤ n) : own_Dn p e below (own_Ret s Q k n) (T.setTop (mkF m pc Ls (.ref a :: rest))) :=
  own_retW X hx hlk hret (by cases t <;> first | rfl | (simp [FieldType.isReference] at ht)) (Or.inr (Or.inr (Or.inr (Or.inr ⟨rfl, ht, rfl⟩)))) hd hQ hk hn
/-- a boolean, byte, char or short -/
theorem own_retN {Q : Option Value → Heap → List Loc → Prop} {k n pc : Nat} {Ls : Array Slot} {z : Int32} {t : FieldType} {rest : List Value} (X : Stand p l e R s m args below meth c T locs cells slots) (hx : p.tables.exec = Jvm.exec) (hlk : meth.locks = false)
    (hret : meth.sig.returnType = some t) (ht : t = .boolean ∨ t = .byte ∨ t = .char ∨ t = .short) (hd : decode c.code pc = .ok (.ireturn, 1)) (hQ : Q (some (.int (nar t z))) T.heap locs) (hk : cells ≤ k) (hn : slots ≤ n) : own_Dn p e below (own_Ret s Q k n) (T.setTop (mkF m pc Ls (.int z :: rest))) :=
  own_ret X hlk (fun h => by rw [hret] at h; cases h) (fun _ hr => retN X hx hret ht hd hr) hQ hk hn
/-- a static call by the callee's contract -/
theorem own_callS {rm : Room} {W : Nat} {as' : Array Value} {Q : Option Value → Heap → List Loc → Prop} {own : String} {index : Nat} {y : MethodName} {bytes : ByteArray} {maxL : Nat} {ret : Option FieldType} (X : Stand p l e R s m args below meth c T locs cells slots) (hx : p.tables.exec = Jvm.exec) (hZ : Z.Warmed39 s.vm)
    (hown : s.vm.findClass own = some m.cls) (w1 : (Cond.methodLink own index y).before a0 Z = true) (w2 : (Cond.static y).before a0 Z = true) (w3 : (Cond.initialized y.cls).before a0 Z = true) (w4 : (Cond.code y bytes maxL ret).before a0 Z = true) (hy : y.cls ≠ "java/lang/invoke/MethodHandle" ∧ y.cls ≠ "java/lang/invoke/VarHandle")
    (eT : T.heap = h) (hM : MetFree l y (head1 [Cond.code y bytes maxL ret] rm) (fun a U => a = as' ∧ Z.Warmed39 U.vm ∧ U.heap = h) (fun _ _ _ _ _ => True) (fun _ U o U' => ∃ v L, o = .returned v ∧ Q v U'.heap L ∧ FrameEnd U o U' L rm.cells rm.slots))
    {g : JFrame} (hg : g.method = m) (hsize : g.locals.size = c.maxLocals) {argsL rest : List Value} (hlen : ∀ sig, parseMethodDescriptor y.desc = some sig → argsL.length = sig.parameters.length) (hstack : g.stack = argsL.reverse ++ rest) (has : argsL.toArray = as') (hW : 2 * g.monitorRoom + (rest.map fun v => v.category).sum ≤ W)
    (hdg : decode c.code g.pc = .ok (.invokestatic index, 3)) (hf : rm.frames + 1 ≤ R.frames) (hl : W + (maxL + 11) + rm.locals ≤ R.locals) (hc : cells + rm.cells ≤ R.cells) (hsl : slots + rm.slots ≤ R.slots) :
    ∃ v T' L, Stand p l e R s m args below meth c T' (locs ++ L) (cells + rm.cells) (slots + rm.slots) ∧ Q v T'.heap L ∧
      ∀ t, Steps p.tables e below (T'.setTop { g with pc := g.pc + 3, stack := v.toList ++ rest }) t → Steps p.tables e below (T.setTop g) t := by
  obtain ⟨v, _, ⟨T', L, k', n'⟩, -, X', ⟨Lc, hQ, l1, l2, l3⟩, st⟩ := Jvm.LawKit.callS X hx hown (mvT hZ w1) (mvT hZ w2) (mvT hZ w3) (mvT hZ w4) hy (backOf (W := W) hM hZ w4 w3 hf hl) hg hsize hlen hstack hW hdg (fun _ _ => ⟨has, eT, hc, hsl⟩)
  dsimp only [Pt.U, Pt.locs, Pt.cells, Pt.slots] at X' l1 l2 l3 st hQ
  subst l1 l2 l3
  exact ⟨v, T', Lc, X', hQ, st⟩
/-- a constructor by its contract -/
theorem own_callN {rm : Room} {W : Nat} {as' : Array Value} {Q : Option Value → Heap → List Loc → Prop} {own : String} {index : Nat} {y : MethodName} {bytes : ByteArray} {maxL : Nat} (X : Stand p l e R s m args below meth c T locs cells slots) (hx : p.tables.exec = Jvm.exec) (hZ : Z.Warmed39 s.vm) (hy1 : y.name = "<init>")
    (hown : s.vm.findClass own = some m.cls) (w1 : (Cond.methodLink own index y).before a0 Z = true) (w2 : (Cond.instanceMethod y).before a0 Z = true) (w3 : (Cond.initialized y.cls).before a0 Z = true) (w4 : (Cond.code y bytes maxL none).before a0 Z = true) (hy : y.cls ≠ "java/lang/invoke/MethodHandle" ∧ y.cls ≠ "java/lang/invoke/VarHandle")
    (eT : T.heap = h) (hM : MetFree l y (head1 [Cond.code y bytes maxL none] rm) (fun a U => a = as' ∧ Z.Warmed39 U.vm ∧ U.heap = h) (fun _ _ _ _ _ => True) (fun _ U o U' => ∃ v L, o = .returned v ∧ Q v U'.heap L ∧ FrameEnd U o U' L rm.cells rm.slots))
    {g : JFrame} (hg : g.method = m) (hsize : g.locals.size = c.maxLocals) {a : Addr} {argsL rest : List Value} (hlen : ∀ sig, parseMethodDescriptor y.desc = some sig → argsL.length = sig.parameters.length) (hstack : g.stack = argsL.reverse ++ .ref a :: rest) (has : (.ref a :: argsL).toArray = as') (hW : 2 * g.monitorRoom + (rest.map fun v => v.category).sum ≤ W)
    (hdg : decode c.code g.pc = .ok (.invokespecial index, 3)) (hf : rm.frames + 1 ≤ R.frames) (hl : W + (maxL + 11) + rm.locals ≤ R.locals) (hc : cells + rm.cells ≤ R.cells) (hsl : slots + rm.slots ≤ R.slots) :
    ∃ v T' L, Stand p l e R s m args below meth c T' (locs ++ L) (cells + rm.cells) (slots + rm.slots) ∧ Q v T'.heap L ∧
      ∀ t, Steps p.tables e below (T'.setTop { g with pc := g.pc + 3, stack := v.toList ++ rest }) t → Steps p.tables e below (T.setTop g) t := by
  obtain ⟨v, _, ⟨T', L, k', n'⟩, -, X', ⟨Lc, hQ, l1, l2, l3⟩, st⟩ := X.specialBack hx hy1 hown (mvT hZ w1) (mvT hZ w2) (mvT hZ w4) hy (backOf (W := W) hM hZ w4 w3 hf hl) hg hsize (Steps.refl _) hlen hstack hW hdg (fun _ _ => ⟨has, eT, hc, hsl⟩)
  dsimp only [Pt.U, Pt.locs, Pt.cells, Pt.slots] at X' l1 l2 l3 st hQ
  subst l1 l2 l3
  exact ⟨v, T', Lc, X', hQ, fun t k => st.trans k⟩
/-- a constructor by a payer that is at hand -/
theorem own_callNK {mc ms W : Nat} {as' : Array Value} {Q : Option Value → Heap → List Loc → Prop} {own : String} {index : Nat} {y : MethodName} {bytes : ByteArray} {maxL : Nat} (X : Stand p l e R s m args below meth c T locs cells slots) (hx : p.tables.exec = Jvm.exec) (hZ : Z.Warmed39 s.vm) (hy1 : y.name = "<init>")
    (hown : s.vm.findClass own = some m.cls) (w1 : (Cond.methodLink own index y).before a0 Z = true) (w2 : (Cond.instanceMethod y).before a0 Z = true) (w4 : (Cond.code y bytes maxL none).before a0 Z = true) (hy : y.cls ≠ "java/lang/invoke/MethodHandle" ∧ y.cls ≠ "java/lang/invoke/VarHandle")
    (eT : T.heap = h) (hK : Back l R p e below s args y 3 W (fun A a => a = as' ∧ A.U.heap = h ∧ A.cells + mc ≤ R.cells ∧ A.slots + ms ≤ R.slots) (fun A _ v B => ∃ L, Q v B.U.heap L ∧ B.locs = A.locs ++ L ∧ B.cells = A.cells + mc ∧ B.slots = A.slots + ms))
    {g : JFrame} (hg : g.method = m) (hsize : g.locals.size = c.maxLocals) {a : Addr} {argsL rest : List Value} (hlen : ∀ sig, parseMethodDescriptor y.desc = some sig → argsL.length = sig.parameters.length) (hstack : g.stack = argsL.reverse ++ .ref a :: rest) (has : (.ref a :: argsL).toArray = as') (hW : 2 * g.monitorRoom + (rest.map fun v => v.category).sum ≤ W)
    (hdg : decode c.code g.pc = .ok (.invokespecial index, 3)) (hc : cells + mc ≤ R.cells) (hsl : slots + ms ≤ R.slots) :
    ∃ v T' L, Stand p l e R s m args below meth c T' (locs ++ L) (cells + mc) (slots + ms) ∧ Q v T'.heap L ∧
      ∀ t, Steps p.tables e below (T'.setTop { g with pc := g.pc + 3, stack := v.toList ++ rest }) t → Steps p.tables e below (T.setTop g) t := by
  obtain ⟨v, _, ⟨T', L, k', n'⟩, -, X', ⟨Lc, hQ, l1, l2, l3⟩, st⟩ := X.specialBack hx hy1 hown (mvT hZ w1) (mvT hZ w2) (mvT hZ w4) hy hK hg hsize (Steps.refl _) hlen hstack hW hdg (fun _ _ => ⟨has, eT, hc, hsl⟩)
  dsimp only [Pt.U, Pt.locs, Pt.cells, Pt.slots] at X' l1 l2 l3 st hQ
  subst l1 l2 l3
  exact ⟨v, T', Lc, X', hQ, fun t k => st.trans k⟩
/-- a virtual call by the contract of the method that is selected (declared by a class, the receiver exactly of the class C) -/
theorem own_callV {rm : Room} {W : Nat} {as' : Array Value} {Q : Option Value → Heap → List Loc → Prop} {own C : String} {index : Nat} {y z : MethodName} {bytes : ByteArray} {maxL : Nat} {ret : Option FieldType} (X : Stand p l e R s m args below meth c T locs cells slots) (hx : p.tables.exec = Jvm.exec) (hZ : Z.Warmed39 s.vm)
    (hown : s.vm.findClass own = some m.cls) (w1 : (Cond.methodLink own index y).before a0 Z = true) (w2 : (Cond.declares y).before a0 Z = true) (hnf : NotFace s y) (w5 : (Cond.selects C y z).before a0 Z = true) (w6 : (Cond.instanceMethod z).before a0 Z = true) (w3 : (Cond.initialized z.cls).before a0 Z = true) (w4 : (Cond.code z bytes maxL ret).before a0 Z = true) (hy : y.cls ≠ "java/lang/invoke/MethodHandle" ∧ y.cls ≠ "java/lang/invoke/VarHandle")
    (eT : T.heap = h) (hM : MetFree l z (head1 [Cond.code z bytes maxL ret] rm) (fun a U => a = as' ∧ Z.Warmed39 U.vm ∧ U.heap = h) (fun _ _ _ _ _ => True) (fun _ U o U' => ∃ v L, o = .returned v ∧ Q v U'.heap L ∧ FrameEnd U o U' L rm.cells rm.slots))
    {a : Addr} (E : Exa Z h a C) {g : JFrame} (hg : g.method = m) (hsize : g.locals.size = c.maxLocals) {argsL rest : List Value} (hlen : ∀ sig, parseMethodDescriptor y.desc = some sig → argsL.length = sig.parameters.length) (hstack : g.stack = argsL.reverse ++ .ref a :: rest) (has : (.ref a :: argsL).toArray = as') (hW : 2 * g.monitorRoom + (rest.map fun v => v.category).sum ≤ W)
    (hdg : decode c.code g.pc = .ok (.invokevirtual index, 3)) (hf : rm.frames + 1 ≤ R.frames) (hl : W + (maxL + 11) + rm.locals ≤ R.locals) (hc : cells + rm.cells ≤ R.cells) (hsl : slots + rm.slots ≤ R.slots) :
    ∃ v T' L, Stand p l e R s m args below meth c T' (locs ++ L) (cells + rm.cells) (slots + rm.slots) ∧ Q v T'.heap L ∧
      ∀ t, Steps p.tables e below (T'.setTop { g with pc := g.pc + 3, stack := v.toList ++ rest }) t → Steps p.tables e below (T.setTop g) t := by
  obtain ⟨cq, kq, qa, qb, qc⟩ := isOf hZ eT E
  obtain ⟨v, _, ⟨T', L, k', n'⟩, -, X', ⟨Lc, hQ, l1, l2, l3⟩, st⟩ := X.virtualBack hx hown (mvT hZ w1) (mvT hZ w2) hnf (mvT hZ w5) (mvT hZ w6) hy (backOf (W := W) hM hZ w4 w3 hf hl) qa qc hg hsize (Steps.refl _) hlen hstack hW hdg (fun _ _ => ⟨has, eT, hc, hsl⟩)
  dsimp only [Pt.U, Pt.locs, Pt.cells, Pt.slots] at X' l1 l2 l3 st hQ
  subst l1 l2 l3
  exact ⟨v, T', Lc, X', hQ, fun t k => st.trans k⟩
/-- a virtual call of a method that the named class inherits from 'owner' -/
theorem own_callU {rm : Room} {W : Nat} {as' : Array Value} {Q : Option Value → Heap → List Loc → Prop} {own C owner : String} {index : Nat} {y z : MethodName} {bytes : ByteArray} {maxL : Nat} {ret : Option FieldType} (X : Stand p l e R s m args below meth c T locs cells slots) (hx : p.tables.exec = Jvm.exec) (hZ : Z.Warmed39 s.vm)
    (hown : s.vm.findClass own = some m.cls) (w1 : (Cond.methodLink own index y).before a0 Z = true) (w2 : (Cond.sameMethod y.cls owner y.name y.desc).before a0 Z = true) (w7 : (Cond.declares ⟨owner, y.name, y.desc⟩).before a0 Z = true) (ho : owner ≠ "java/lang/invoke/MethodHandle" ∧ owner ≠ "java/lang/invoke/VarHandle") (w5 : (Cond.selects C y z).before a0 Z = true) (w6 : (Cond.instanceMethod z).before a0 Z = true) (w3 : (Cond.initialized z.cls).before a0 Z = true) (w4 : (Cond.code z bytes maxL ret).before a0 Z = true)
    (eT : T.heap = h) (hM : MetFree l z (head1 [Cond.code z bytes maxL ret] rm) (fun a U => a = as' ∧ Z.Warmed39 U.vm ∧ U.heap = h) (fun _ _ _ _ _ => True) (fun _ U o U' => ∃ v L, o = .returned v ∧ Q v U'.heap L ∧ FrameEnd U o U' L rm.cells rm.slots))
    {a : Addr} (E : Exa Z h a C) {g : JFrame} (hg : g.method = m) (hsize : g.locals.size = c.maxLocals) {argsL rest : List Value} (hlen : ∀ sig, parseMethodDescriptor y.desc = some sig → argsL.length = sig.parameters.length) (hstack : g.stack = argsL.reverse ++ .ref a :: rest) (has : (.ref a :: argsL).toArray = as') (hW : 2 * g.monitorRoom + (rest.map fun v => v.category).sum ≤ W)
    (hdg : decode c.code g.pc = .ok (.invokevirtual index, 3)) (hf : rm.frames + 1 ≤ R.frames) (hl : W + (maxL + 11) + rm.locals ≤ R.locals) (hc : cells + rm.cells ≤ R.cells) (hsl : slots + rm.slots ≤ R.slots) :
    ∃ v T' L, Stand p l e R s m args below meth c T' (locs ++ L) (cells + rm.cells) (slots + rm.slots) ∧ Q v T'.heap L ∧
      ∀ t, Steps p.tables e below (T'.setTop { g with pc := g.pc + 3, stack := v.toList ++ rest }) t → Steps p.tables e below (T.setTop g) t := by
  obtain ⟨cq, kq, qa, qb, qc⟩ := isOf hZ eT E
  obtain ⟨v, _, ⟨T', L, k', n'⟩, -, X', ⟨Lc, hQ, l1, l2, l3⟩, st⟩ := X.virtualBackUp hx hown (mvT hZ w1) (mvT hZ w2) (mvT hZ w7) ho (mvT hZ w5) (mvT hZ w6) (backOf (W := W) hM hZ w4 w3 hf hl) qa qc hg hsize (Steps.refl _) hlen hstack hW hdg (fun _ _ => ⟨has, eT, hc, hsl⟩)
  dsimp only [Pt.U, Pt.locs, Pt.cells, Pt.slots] at X' l1 l2 l3 st hQ
  subst l1 l2 l3
  exact ⟨v, T', Lc, X', hQ, fun t k => st.trans k⟩
theorem own_lrem {g : JFrame} {target : State} (X : Stand p l e R s m args below meth c T locs cells slots) (hx : p.tables.exec = Jvm.exec) (hg : g.method = m) {x y : Int64} {rest : List Value} (hd : decode c.code g.pc = .ok (.lrem, 1)) (hs : g.stack = .long y :: .long x :: rest) (hy : y ≠ 0)
    (hr : Steps p.tables e below (T.setTop { g with pc := g.pc + 1, stack := .long (x % y) :: rest }) target) : Steps p.tables e below (T.setTop g) target :=
  XS.lrem X.here hx hg hd hs hy (by rw [lrem_mod]; exact hr)
end Own
/-! ints as integers -/
theorem own_tL {x y : Int32} (h : x < y) : x.toInt < y.toInt := Int32.lt_iff_toInt_lt.mp h
theorem own_tLn {x y : Int32} (h : ¬ x < y) : ¬ x.toInt < y.toInt := fun q => h (Int32.lt_iff_toInt_lt.mpr q)
theorem own_tE {x y : Int32} (h : x = y) : x.toInt = y.toInt := congrArg _ h
theorem own_tEn {x y : Int32} (h : ¬ x = y) : ¬ x.toInt = y.toInt := fun q => h (Int32.toInt_inj.mp q)
theorem own_uL {x y : Int64} (h : x < y) : x.toInt < y.toInt := Int64.lt_iff_toInt_lt.mp h
theorem own_uLn {x y : Int64} (h : ¬ x < y) : ¬ x.toInt < y.toInt := fun q => h (Int64.lt_iff_toInt_lt.mpr q)
theorem own_uE {x y : Int64} (h : x = y) : x.toInt = y.toInt := congrArg _ h
theorem own_uEn {x y : Int64} (h : ¬ x = y) : ¬ x.toInt = y.toInt := fun q => h (Int64.toInt_inj.mp q)
/-! an array by its values: n places, place i holds f i -/
section OwnArr
variable {p : Program} {l : Launch} {e : Env} {R : Room} {s : State} {m : MethodId} {args : Array Value} {below : List Frame} {meth : Method} {c : Code} {T : State} {locs : List Loc} {cells slots : Nat} {Z : State} {a0 : Array Value} {h h' : Heap} {a b : Addr} {ty : FieldType} {n sl : Nat} {f : Nat → Value} {v : Value} {ws : List Addr}
def own_AV (Z : State) (h : Heap) (a : Addr) (ty : FieldType) (n : Nat) (f : Nat → Value) : Prop := ∃ cl : Cell, Arr Z h a cl ty ∧ cl.slots.size = n ∧ ∀ i, i < n → cl.slots[i]? = some (f i)
theorem own_AV.new {k : ClassId} {z : Int32} (A : Arr Z h a (newA k ty z) ty) (hn : z.toNatClampNeg = n) : own_AV Z h a ty n (fun _ => defaultValue ty) := by
  subst hn
  exact ⟨_, A, sz_new _ _ _, fun i hi => by simp [newA, hi]⟩
theorem own_AV.ext (F : own_AV Z h a ty n f) (E : Ext h h') : own_AV Z h' a ty n f := by
  obtain ⟨cl, A, r⟩ := F
  exact ⟨cl, A.ext E, r⟩
theorem own_AV.other (F : own_AV Z h b ty n f) (W : Wr h h' a sl v) (q : b ≠ a) : own_AV Z h' b ty n f := by
  obtain ⟨cl, A, r⟩ := F
  exact ⟨cl, A.other W q, r⟩
theorem own_AV.lt (F : own_AV Z h a ty n f) : a < h.size := by
  obtain ⟨cl, A, r⟩ := F
  exact A.lt
theorem own_AV.same {i : Nat} (F : own_AV Z h a ty n f) (W : Wr h h' a i v) (hi : i < n) : own_AV Z h' a ty n (fun k => if k = i then v else f k) := by
  obtain ⟨cl, A, S, H⟩ := F
  refine ⟨_, A.same W, (sz_set _ _ _).trans S, fun k hk => ?_⟩
  by_cases q : k = i
  · subst q
    simp [Cell.setSlot, S, hk]
  · simp only [Cell.setSlot, if_neg q]
    rw [Array.getElem?_setIfInBounds_ne (Ne.symm q)]
    exact H k hk
theorem own_AV.congr {f' : Nat → Value} (F : own_AV Z h a ty n f) (q : ∀ i, i < n → f i = f' i) : own_AV Z h a ty n f' := by
  obtain ⟨cl, A, S, H⟩ := F
  exact ⟨cl, A, S, fun i hi => (H i hi).trans (congrArg some (q i hi))⟩
theorem own_AV.keep (F : own_AV Z h a ty n f) (K : Keep h h' ws) (q : a ∉ ws) : own_AV Z h' a ty n f := by
  obtain ⟨cl, A, r⟩ := F
  exact ⟨cl, ⟨K.2.1 _ _ A.1 q, A.2⟩, r⟩
theorem own_AV.arv {z : Int32} {vs : List Value} {d : Value} (F : own_AV Z h a ty n f) (hz : z.toNatClampNeg = n) (h0 : ¬ z < 0) (hv : ∀ i, i < n → vs.getD i d = f i) (hf : ∀ i, i < n → fits ty (f i) = true) : ∃ k, Arv Z h a k ty z vs d := by
  obtain ⟨cl, A, S, H⟩ := F
  refine ⟨cl.cls, cl, A, rfl, S.trans hz.symm, h0, fun i hi => ?_, fun i hi => ?_⟩
  · rw [hv i (S ▸ hi)]
    exact H i (S ▸ hi)
  · rw [hv i (S ▸ hi)]
    exact hf i (S ▸ hi)
theorem own_AV.of_arv {k : ClassId} {z : Int32} {vs : List Value} {d : Value} (F : Arv Z h a k ty z vs d) (hz : z.toNatClampNeg = n) : own_AV Z h a ty n (fun i => vs.getD i d) := by
  obtain ⟨cl, A, -, S, -, H, -⟩ := F
  exact ⟨cl, A, S.trans hz, fun i hi => H i (by rw [S, hz]; exact hi)⟩
theorem own_inb {cl : Cell} {j : Int32} {i : Nat} (S : cl.slots.size = n) (hj : j.toNatClampNeg = i) (h0 : ¬ j < 0) (hi : i < n) : ¬ (j < 0 ∨ cl.slots.size ≤ j.toNatClampNeg) := by
  rintro (q | q)
  · exact h0 q
  · rw [S, hj] at q
    omega
theorem own_caload (X : Stand p l e R s m args below meth c T locs cells slots) (hx : p.tables.exec = Jvm.exec) (hZ : Z.Warmed39 s.vm) (eT : T.heap = h) (F : own_AV Z h a .char n f) {j : Int32} {i : Nat} (hj : j.toNatClampNeg = i) (h0 : ¬ j < 0) (hi : i < n) {g : JFrame} (hg : g.method = m) {rest : List Value} (hs : g.stack = .int j :: .ref a :: rest) (hd : decode c.code g.pc = .ok (.caload, 1)) :
    ∀ t, Steps p.tables e below (T.setTop { g with pc := g.pc + 1, stack := f i :: rest }) t → Steps p.tables e below (T.setTop g) t := by
  obtain ⟨cl, A, S, H⟩ := F
  exact fun t k => X.caload hx (by rw [eT]; exact A.1) (State.isArrayOf_alike hZ.alike A.2.1) A.2.2 (own_inb S hj h0 hi) (by rw [hj]; exact H i hi) hg hs hd t k
theorem own_iaload (X : Stand p l e R s m args below meth c T locs cells slots) (hx : p.tables.exec = Jvm.exec) (hZ : Z.Warmed39 s.vm) (eT : T.heap = h) (F : own_AV Z h a .int n f) {j : Int32} {i : Nat} (hj : j.toNatClampNeg = i) (h0 : ¬ j < 0) (hi : i < n) {g : JFrame} (hg : g.method = m) {rest : List Value} (hs : g.stack = .int j :: .ref a :: rest) (hd : decode c.code g.pc = .ok (.iaload, 1)) :
    ∀ t, Steps p.tables e below (T.setTop { g with pc := g.pc + 1, stack := f i :: rest }) t → Steps p.tables e below (T.setTop g) t := by
  obtain ⟨cl, A, S, H⟩ := F
  exact fun t k => X.iaload hx (by rw [eT]; exact A.1) (State.isArrayOf_alike hZ.alike A.2.1) A.2.2 (own_inb S hj h0 hi) (by rw [hj]; exact H i hi) hg hs hd t k
theorem own_laload (X : Stand p l e R s m args below meth c T locs cells slots) (hx : p.tables.exec = Jvm.exec) (hZ : Z.Warmed39 s.vm) (eT : T.heap = h) (F : own_AV Z h a .long n f) {j : Int32} {i : Nat} (hj : j.toNatClampNeg = i) (h0 : ¬ j < 0) (hi : i < n) {g : JFrame} (hg : g.method = m) {rest : List Value} (hs : g.stack = .int j :: .ref a :: rest) (hd : decode c.code g.pc = .ok (.laload, 1)) :
    ∀ t, Steps p.tables e below (T.setTop { g with pc := g.pc + 1, stack := f i :: rest }) t → Steps p.tables e below (T.setTop g) t := by
  obtain ⟨cl, A, S, H⟩ := F
  exact fun t k => X.laload hx (by rw [eT]; exact A.1) (State.isArrayOf_alike hZ.alike A.2.1) A.2.2 (own_inb S hj h0 hi) (by rw [hj]; exact H i hi) hg hs hd t k
theorem own_baload (X : Stand p l e R s m args below meth c T locs cells slots) (hx : p.tables.exec = Jvm.exec) (hZ : Z.Warmed39 s.vm) (eT : T.heap = h) (F : own_AV Z h a .byte n f) {j : Int32} {i : Nat} (hj : j.toNatClampNeg = i) (h0 : ¬ j < 0) (hi : i < n) {g : JFrame} (hg : g.method = m) {rest : List Value} (hs : g.stack = .int j :: .ref a :: rest) (hd : decode c.code g.pc = .ok (.baload, 1)) :
    ∀ t, Steps p.tables e below (T.setTop { g with pc := g.pc + 1, stack := f i :: rest }) t → Steps p.tables e below (T.setTop g) t := by
  obtain ⟨cl, A, S, H⟩ := F
  exact fun t k => X.baloadBytes hx (by rw [eT]; exact A.1) (State.isArrayOf_alike hZ.alike A.2.1) A.2.2 (own_inb S hj h0 hi) (by rw [hj]; exact H i hi) hg hs hd t k
theorem own_alen (X : Stand p l e R s m args below meth c T locs cells slots) (hx : p.tables.exec = Jvm.exec) (hZ : Z.Warmed39 s.vm) (eT : T.heap = h) (F : own_AV Z h a ty n f) {z : Int32} (hz : n.toInt32 = z) {g : JFrame} (hg : g.method = m) {rest : List Value} (hs : g.stack = .ref a :: rest) (hd : decode c.code g.pc = .ok (.arraylength, 1)) :
    ∀ t, Steps p.tables e below (T.setTop { g with pc := g.pc + 1, stack := .int z :: rest }) t → Steps p.tables e below (T.setTop g) t := by
  obtain ⟨cl, A, S, H⟩ := F
  refine fun t k => X.arraylength hx (by rw [eT]; exact A.1) (State.isArrayOf_alike hZ.alike A.2.1) hg hs hd t ?_
  rw [S, hz]
  exact k
theorem own_stI (X : Stand p l e R s m args below meth c T locs cells slots) (hx : p.tables.exec = Jvm.exec) (hZ : Z.Warmed39 s.vm) (eT : T.heap = h) (F : own_AV Z h a .int n f) {j x : Int32} {i : Nat} (hj : j.toNatClampNeg = i) (h0 : ¬ j < 0) (hi : i < n) {g : JFrame} (hg : g.method = m) {rest : List Value} (hs : g.stack = .int x :: .int j :: .ref a :: rest) (hd : decode c.code g.pc = .ok (.iastore, 1)) :
    ∃ T' h', Stand p l e R s m args below meth c T' (locs ++ [⟨a, i⟩]) cells slots ∧ T'.heap = h' ∧ Wr h h' a i (.int x) ∧ own_AV Z h' a .int n (fun k => if k = i then .int x else f k) ∧ ∀ target, Steps p.tables e below (T'.setTop { g with pc := g.pc + 1, stack := rest }) target → Steps p.tables e below (T.setTop g) target := by
  obtain ⟨cl, A, S, H⟩ := F
  subst hj
  obtain ⟨T', h', X', e', W, st⟩ := stI X hx hZ eT A (own_inb S rfl h0 hi) hg hs hd
  exact ⟨T', h', X', e', W, own_AV.same ⟨cl, A, S, H⟩ W hi, st⟩
theorem own_stJ (X : Stand p l e R s m args below meth c T locs cells slots) (hx : p.tables.exec = Jvm.exec) (hZ : Z.Warmed39 s.vm) (eT : T.heap = h) (F : own_AV Z h a .long n f) {j : Int32} {x : Int64} {i : Nat} (hj : j.toNatClampNeg = i) (h0 : ¬ j < 0) (hi : i < n) {g : JFrame} (hg : g.method = m) {rest : List Value} (hs : g.stack = .long x :: .int j :: .ref a :: rest) (hd : decode c.code g.pc = .ok (.lastore, 1)) :
    ∃ T' h', Stand p l e R s m args below meth c T' (locs ++ [⟨a, i⟩]) cells slots ∧ T'.heap = h' ∧ Wr h h' a i (.long x) ∧ own_AV Z h' a .long n (fun k => if k = i then .long x else f k) ∧ ∀ target, Steps p.tables e below (T'.setTop { g with pc := g.pc + 1, stack := rest }) target → Steps p.tables e below (T.setTop g) target := by
  obtain ⟨cl, A, S, H⟩ := F
  subst hj
  obtain ⟨T', h', X', e', W, st⟩ := stJ X hx hZ eT A (own_inb S rfl h0 hi) hg hs hd
  exact ⟨T', h', X', e', W, own_AV.same ⟨cl, A, S, H⟩ W hi, st⟩
theorem own_stC (X : Stand p l e R s m args below meth c T locs cells slots) (hx : p.tables.exec = Jvm.exec) (hZ : Z.Warmed39 s.vm) (eT : T.heap = h) (F : own_AV Z h a .char n f) {j x : Int32} {i : Nat} (hj : j.toNatClampNeg = i) (h0 : ¬ j < 0) (hi : i < n) {g : JFrame} (hg : g.method = m) {rest : List Value} (hs : g.stack = .int x :: .int j :: .ref a :: rest) (hd : decode c.code g.pc = .ok (.castore, 1)) :
    ∃ T' h', Stand p l e R s m args below meth c T' (locs ++ [⟨a, i⟩]) cells slots ∧ T'.heap = h' ∧ Wr h h' a i (.int (nar .char x)) ∧ own_AV Z h' a .char n (fun k => if k = i then .int (nar .char x) else f k) ∧ ∀ target, Steps p.tables e below (T'.setTop { g with pc := g.pc + 1, stack := rest }) target → Steps p.tables e below (T.setTop g) target := by
  obtain ⟨cl, A, S, H⟩ := F
  subst hj
  obtain ⟨T', h', X', e', W, st⟩ := stC X hx hZ eT A (own_inb S rfl h0 hi) hg hs hd
  exact ⟨T', h', X', e', W, own_AV.same ⟨cl, A, S, H⟩ W hi, st⟩
theorem own_stB (X : Stand p l e R s m args below meth c T locs cells slots) (hx : p.tables.exec = Jvm.exec) (hZ : Z.Warmed39 s.vm) (eT : T.heap = h) (F : own_AV Z h a .byte n f) {j x : Int32} {i : Nat} (hj : j.toNatClampNeg = i) (h0 : ¬ j < 0) (hi : i < n) {g : JFrame} (hg : g.method = m) {rest : List Value} (hs : g.stack = .int x :: .int j :: .ref a :: rest) (hd : decode c.code g.pc = .ok (.bastore, 1)) :
    ∃ T' h', Stand p l e R s m args below meth c T' (locs ++ [⟨a, i⟩]) cells slots ∧ T'.heap = h' ∧ Wr h h' a i (.int (nar .byte x)) ∧ own_AV Z h' a .byte n (fun k => if k = i then .int (nar .byte x) else f k) ∧ ∀ target, Steps p.tables e below (T'.setTop { g with pc := g.pc + 1, stack := rest }) target → Steps p.tables e below (T.setTop g) target := by
  obtain ⟨cl, A, S, H⟩ := F
  subst hj
  obtain ⟨T', h', X', e', W, st⟩ := stB X hx hZ eT A (own_inb S rfl h0 hi) hg hs hd
  exact ⟨T', h', X', e', W, own_AV.same ⟨cl, A, S, H⟩ W hi, st⟩
end OwnArr
/-! doubles -/
section OwnDbl
variable {p : Program} {l : Launch} {e : Env} {R : Room} {s : State} {m : MethodId} {args : Array Value} {below : List Frame} {meth : Method} {c : Code} {T : State} {locs : List Loc} {cells slots : Nat} {Z : State} {a0 : Array Value} {h h' : Heap} {a b : Addr} {n sl : Nat} {f : Nat → Value} {v : Value}
theorem own_daload (X : Stand p l e R s m args below meth c T locs cells slots) (hx : p.tables.exec = Jvm.exec) (hZ : Z.Warmed39 s.vm) (eT : T.heap = h) (F : own_AV Z h a .double n f) {j : Int32} {i : Nat} (hj : j.toNatClampNeg = i) (h0 : ¬ j < 0) (hi : i < n) {g : JFrame} (hg : g.method = m) {rest : List Value} (hs : g.stack = .int j :: .ref a :: rest) (hd : decode c.code g.pc = .ok (.daload, 1)) :
    ∀ t, Steps p.tables e below (T.setTop { g with pc := g.pc + 1, stack := f i :: rest }) t → Steps p.tables e below (T.setTop g) t := by
  obtain ⟨cl, A, S, H⟩ := F
  exact fun t k => X.daload hx (by rw [eT]; exact A.1) (State.isArrayOf_alike hZ.alike A.2.1) A.2.2 (own_inb S hj h0 hi) (by rw [hj]; exact H i hi) hg hs hd t k
theorem own_stD (X : Stand p l e R s m args below meth c T locs cells slots) (hx : p.tables.exec = Jvm.exec) (hZ : Z.Warmed39 s.vm) (eT : T.heap = h) (F : own_AV Z h a .double n f) {j : Int32} {x : UInt64} {i : Nat} (hj : j.toNatClampNeg = i) (h0 : ¬ j < 0) (hi : i < n) {g : JFrame} (hg : g.method = m) {rest : List Value} (hs : g.stack = .double x :: .int j :: .ref a :: rest) (hd : decode c.code g.pc = .ok (.dastore, 1)) :
    ∃ T' h', Stand p l e R s m args below meth c T' (locs ++ [⟨a, i⟩]) cells slots ∧ T'.heap = h' ∧ Wr h h' a i (.double x) ∧ own_AV Z h' a .double n (fun k => if k = i then .double x else f k) ∧ ∀ target, Steps p.tables e below (T'.setTop { g with pc := g.pc + 1, stack := rest }) target → Steps p.tables e below (T.setTop g) target := by
  obtain ⟨cl, A, S, H⟩ := F
  subst hj
  obtain ⟨T', h', X', e', W, st⟩ := stD X hx hZ eT A (own_inb S rfl h0 hi) hg hs hd
  exact ⟨T', h', X', e', W, own_AV.same ⟨cl, A, S, H⟩ W hi, st⟩
theorem own_retD {Q : Option Value → Heap → List Loc → Prop} {k n pc : Nat} {Ls : Array Slot} {z : UInt64} {rest : List Value} (X : Stand p l e R s m args below meth c T locs cells slots) (hx : p.tables.exec = Jvm.exec) (hlk : meth.locks = false)
    (hret : meth.sig.returnType = some .double) (hd : decode c.code pc = .ok (.dreturn, 1)) (hQ : Q (some (.double z)) T.heap locs) (hk : cells ≤ k) (hn : slots ≤ n) : own_Dn p e below (own_Ret s Q k n) (T.setTop (mkF m pc Ls (.double z :: rest))) :=
  own_retW X hx hlk hret rfl (Or.inr (Or.inr (Or.inl ⟨rfl, rfl, z, rfl⟩))) hd hQ hk hn
end OwnDbl
theorem own_n32 {z : Int32} {n : Nat} (h : z.toInt = n) : n.toInt32 = z := by
  have q : ¬ z < 0 := fun q => by
    have q' := own_tL q
    have z0 : (0 : Int32).toInt = 0 := by decide
    rw [z0] at q'
    omega
  have b := (back32 q).1
  have e : z.toNatClampNeg = n := by
    show z.toInt.toNat = n
    omega
  rw [e] at b
  exact b
theorem own_fl1 {A : Prop} {r : Int32} (h : (r = 1 ∧ A) ∨ (r = 0 ∧ ¬ A)) (q : A) : r = 1 := by
  rcases h with h | h
  · exact h.1
  · exact absurd q h.2
theorem own_fl0 {A : Prop} {r : Int32} (h : (r = 1 ∧ A) ∨ (r = 0 ∧ ¬ A)) (q : ¬ A) : r = 0 := by
  rcases h with h | h
  · exact absurd h.2 q
  · exact h.1
theorem own_inc {i : Int32} {j n : Nat} (h : i.toInt = j) (hj : j < n) (hn : n < 2147483647) : (i + 1).toInt = (j + 1 : Nat) := by
  have a := c_iadd i 1
  have b := rng32 (i + 1)
  have z : (1 : Int32).toInt = 1 := by decide
  rw [z] at a
  omega
theorem own_i0 {i : Int32} {j : Nat} (h : i.toInt = j) : i.toNatClampNeg = j ∧ ¬ i < 0 := by
  constructor
  · show i.toInt.toNat = j
    omega
  · intro q
    have q' := own_tL q
    have z0 : (0 : Int32).toInt = 0 := by decide
    rw [z0] at q'
    omega
def own_S (W : Nat → Int64) (f : Nat → Int32) (lo : Nat) : Nat → Int
  | 0 => 0
  | k + 1 => own_S W f lo k + (W (f (lo + k)).toInt.toNat).toInt
theorem own_S_congr {W : Nat → Int64} {f g : Nat → Int32} {lo : Nat} : ∀ k, (∀ i, lo ≤ i → i < lo + k → f i = g i) → own_S W f lo k = own_S W g lo k
  | 0, _ => rfl
  | k + 1, h => by
    simp only [own_S]
    rw [own_S_congr k (fun i h1 h2 => h i h1 (by omega)), h (lo + k) (by omega) (by omega)]
theorem own_S_front (W : Nat → Int64) (f : Nat → Int32) (lo : Nat) : ∀ k, own_S W f lo (k + 1) = (W (f lo).toInt.toNat).toInt + own_S W f (lo + 1) k
  | 0 => by simp [own_S]
  | k + 1 => by
    rw [own_S, own_S_front W f lo k, own_S, show lo + 1 + k = lo + (k + 1) by omega]
    omega
abbrev own_W (w0 w1 w2 w3 : Int32) (i : Nat) : Int64 := if i = 3 then w3.toInt64 else if i = 2 then w2.toInt64 else if i = 1 then w1.toInt64 else w0.toInt64
theorem own_Wb (w0 w1 w2 w3 : Int32) (i : Nat) : -2147483648 ≤ (own_W w0 w1 w2 w3 i).toInt ∧ (own_W w0 w1 w2 w3 i).toInt < 2147483648 := by
  unfold own_W
  (repeat' split) <;> (rw [c_i2l]; exact rng32 _)
theorem own_Sb {W : Nat → Int64} {f : Nat → Int32} {lo : Nat} (hW : ∀ i, -2147483648 ≤ (W i).toInt ∧ (W i).toInt < 2147483648) : ∀ k, -2147483648 * k ≤ own_S W f lo k ∧ own_S W f lo k ≤ 2147483648 * k
  | 0 => by simp [own_S]
  | k + 1 => by
    have h := own_Sb (f := f) (lo := lo) hW k
    have g := hW (f (lo + k)).toInt.toNat
    simp only [own_S]
    omega
theorem own_bit (m : Int32) (k : Nat) (hk : k ≤ 3) (q b : Int32) (hq : q.toBitVec.toNat % 32 = k) (hb : b.toBitVec.toNat = 2 ^ k) (h1 : 0 ≤ m.toInt) (h2 : m.toInt < 16) :
    (((m >>> (q &&& 31)) &&& 1).toInt = 0 ∨ ((m >>> (q &&& 31)) &&& 1).toInt = 1) := by
  have h := c_mask (m >>> (q &&& 31)) 1 1 (by decide) (by decide)
  omega
def own_QD (z : Int64) (h0 : Heap) (v : Option Value) (h : Heap) (L : List Loc) : Prop := v = some (.double (FP.l2d z)) ∧ L = [] ∧ h = h0
def own_Q0 (n0 : Nat) (v : Option Value) (h : Heap) (L : List Loc) : Prop := v = some (.int 1) ∧ Fr n0 L
theorem own_s7 {s7 : Slot} {z0 z1 z2 z4 z5 z6 : Value} {v : Int32} (h : One s7) : storeLocals #[.val z0, .val z1, .val z2, .second, .val z4, .val z5, .val z6, s7] 7 (.int v) = some #[.val z0, .val z1, .val z2, .second, .val z4, .val z5, .val z6, .val (.int v)] := by
  rcases h with rfl | ⟨w, rfl, hw⟩
  · rfl
  · cases w <;> first | rfl | (simp [Value.category] at hw)
theorem d1_0 : decode prog_15_method_6_code 0 = .ok (.dconst 0, 1) := by decide +kernel
theorem d1_1 : decode prog_15_method_6_code 1 = .ok (.dstore_n 2, 1) := by decide +kernel
theorem d1_2 : decode prog_15_method_6_code 2 = .ok (.aload_n 0, 1) := by decide +kernel
theorem d1_3 : decode prog_15_method_6_code 3 = .ok (.astore 4, 2) := by decide +kernel
theorem d1_5 : decode prog_15_method_6_code 5 = .ok (.aload 4, 2) := by decide +kernel
theorem d1_7 : decode prog_15_method_6_code 7 = .ok (.arraylength, 1) := by decide +kernel
theorem d1_8 : decode prog_15_method_6_code 8 = .ok (.istore 5, 2) := by decide +kernel
theorem d1_10 : decode prog_15_method_6_code 10 = .ok (.iconst 0, 1) := by decide +kernel
theorem d1_11 : decode prog_15_method_6_code 11 = .ok (.istore 6, 2) := by decide +kernel
theorem d1_13 : decode prog_15_method_6_code 13 = .ok (.iload 6, 2) := by decide +kernel
theorem d1_15 : decode prog_15_method_6_code 15 = .ok (.iload 5, 2) := by decide +kernel
theorem d1_17 : decode prog_15_method_6_code 17 = .ok (.if_icmp .ge 23, 3) := by decide +kernel
theorem d1_40 : decode prog_15_method_6_code 40 = .ok (.dload_n 2, 1) := by decide +kernel
theorem d1_41 : decode prog_15_method_6_code 41 = .ok (.dreturn, 1) := by decide +kernel
theorem d1_20 : decode prog_15_method_6_code 20 = .ok (.aload 4, 2) := by decide +kernel
theorem d1_22 : decode prog_15_method_6_code 22 = .ok (.iload 6, 2) := by decide +kernel
theorem d1_24 : decode prog_15_method_6_code 24 = .ok (.iaload, 1) := by decide +kernel
theorem d1_25 : decode prog_15_method_6_code 25 = .ok (.istore 7, 2) := by decide +kernel
theorem d1_27 : decode prog_15_method_6_code 27 = .ok (.dload_n 2, 1) := by decide +kernel
theorem d1_28 : decode prog_15_method_6_code 28 = .ok (.aload_n 1, 1) := by decide +kernel
theorem d1_29 : decode prog_15_method_6_code 29 = .ok (.iload 7, 2) := by decide +kernel
theorem d1_31 : decode prog_15_method_6_code 31 = .ok (.daload, 1) := by decide +kernel
theorem d1_32 : decode prog_15_method_6_code 32 = .ok (.dadd, 1) := by decide +kernel
theorem d1_33 : decode prog_15_method_6_code 33 = .ok (.dstore_n 2, 1) := by decide +kernel
theorem d1_34 : decode prog_15_method_6_code 34 = .ok (.iinc 6 1, 3) := by decide +kernel
theorem d1_37 : decode prog_15_method_6_code 37 = .ok (.goto (-24), 3) := by decide +kernel
theorem ef_rm_wo (m : MethodId) (x0 : Addr) (x1 : Addr) : entryFrame m #[(.ref x0), (.ref x1)] 8 = mkF m 0 #[.val (.ref x0), .val (.ref x1), .unset, .unset, .unset, .unset, .unset, .unset] [] := by first | (simp [entryFrame, mkF, argsToLocals, Value.category]; done) | rfl
theorem pn_0 : plainName "com/example/parley/parley/ConflictGraph" = true := by first | (simp [plainName, overriddenIn]; done) | decide +kernel
set_option maxRecDepth 65536 in
set_option maxHeartbeats 40000000 in
theorem rm_wo (l : Launch) (Z : State) (a0 : Array Value) (hw : ∀ d ∈ tables_1, d.before a0 Z = true) (ws : List Jvm.Cond) (a1 a2 : Addr) (z : Int32) (n : Nat) (f : Nat → Int32) (W : Nat → Int64) (y : Int64) (h0 : Heap) (VF : own_AV Z h0 a1 .int n (fun i => .int (f i))) (VG : own_AV Z h0 a2 .double 4 (fun i => .double (FP.l2d (W i)))) (hz : z.toInt = n) (hn : n ≤ 4) (hf : ∀ i, i < n → 0 ≤ (f i).toInt ∧ (f i).toInt < 4) (hW : ∀ i, -2147483648 ≤ (W i).toInt ∧ (W i).toInt < 2147483648) (hy : y.toInt = own_S W f 0 n) :
    MetFree l (⟨"com/example/parley/parley/ConflictGraph", "weightOf", "([I[D)D"⟩ : MethodName) (head1 (Jvm.Cond.code (⟨"com/example/parley/parley/ConflictGraph", "weightOf", "([I[D)D"⟩ : MethodName) prog_15_method_6_code 8 (some .double) :: ws) ({ frames := 0, cells := 0, slots := 0, locals := 0 } : Room)) (fun a U => a = #[(.ref a1), (.ref a2)] ∧ Z.Warmed39 U.vm ∧ U.heap = h0) (fun _ _ _ _ _ => True) (fun _ U o U' => ∃ v L, o = .returned v ∧ own_QD y h0 v U'.heap L ∧ FrameEnd U o U' L ({ frames := 0, cells := 0, slots := 0, locals := 0 } : Room).cells ({ frames := 0, cells := 0, slots := 0, locals := 0 } : Room).slots) := by
  refine MetFree.of_bodySF (plainFor_of_name pn_0) hisR ?_
  intro p e s m args below meth c s₁ Bd hml0 hP hK
  obtain ⟨rfl, hZ, hh⟩ := hP
  have hx := Bd.exec
  have hby := Bd.bytes
  have hlk := Bd.notSynchronized
  have hret := Bd.returns
  have hml : c.maxLocals = 8 := hml0
  have hown : s.vm.findClass "com/example/parley/parley/ConflictGraph" = some m.cls := findClass_of_methodNamed Bd.named
  have hnm := (name_of_methodNamed Bd.named Bd.method).1
  have X0 : Stand p l e ({ frames := 0, cells := 0, slots := 0, locals := 0 } : Room) s m #[(.ref a1), (.ref a2)] below meth c s₁ [] 0 0 := Stand.of_body Bd
  have e0 : s₁.heap = h0 := by rw [← hh, Bd.state]; rfl
  show own_Dn p e below (own_Ret s (own_QD y h0) ({ frames := 0, cells := 0, slots := 0, locals := 0 } : Room).cells ({ frames := 0, cells := 0, slots := 0, locals := 0 } : Room).slots) (s₁.setTop (entryFrame m #[(.ref a1), (.ref a2)] 8))
  rw [ef_rm_wo]
  refine own_st (B := (s₁.setTop (mkF m 1 #[.val (.ref a1), .val (.ref a2), .unset, .unset, .unset, .unset, .unset, .unset] [(.double (FP.l2d 0))]))) (fun _ zk => XS.dconst0 X0.here hx rfl (hb hby d1_0) (by decide +kernel) zk) ?_
  refine own_st (B := (s₁.setTop (mkF m 2 #[.val (.ref a1), .val (.ref a2), .val (.double (FP.l2d 0)), .second, .unset, .unset, .unset, .unset] []))) (fun _ zk => XS.dstoreN X0.here hx rfl (hb hby d1_1) rfl (l' := #[.val (.ref a1), .val (.ref a2), .val (.double (FP.l2d 0)), .second, .unset, .unset, .unset, .unset]) rfl zk) ?_
  refine own_st (B := (s₁.setTop (mkF m 3 #[.val (.ref a1), .val (.ref a2), .val (.double (FP.l2d 0)), .second, .unset, .unset, .unset, .unset] [(.ref a1)]))) (fun _ zk => XS.aloadN X0.here hx rfl (hb hby d1_2) rfl rfl zk) ?_
  refine own_st (B := (s₁.setTop (mkF m 5 #[.val (.ref a1), .val (.ref a2), .val (.double (FP.l2d 0)), .second, .val (.ref a1), .unset, .unset, .unset] []))) (fun _ zk => XS.astore X0.here hx rfl (hb hby d1_3) rfl rfl (l' := #[.val (.ref a1), .val (.ref a2), .val (.double (FP.l2d 0)), .second, .val (.ref a1), .unset, .unset, .unset]) rfl zk) ?_
  refine own_st (B := (s₁.setTop (mkF m 7 #[.val (.ref a1), .val (.ref a2), .val (.double (FP.l2d 0)), .second, .val (.ref a1), .unset, .unset, .unset] [(.ref a1)]))) (fun _ zk => XS.aload X0.here hx rfl (hb hby d1_5) rfl rfl zk) ?_
  refine own_st (B := (s₁.setTop (mkF m 8 #[.val (.ref a1), .val (.ref a2), .val (.double (FP.l2d 0)), .second, .val (.ref a1), .unset, .unset, .unset] [(.int z)]))) (fun _ zk => own_alen X0 hx hZ e0 VF (z := z) (own_n32 hz) (g := (mkF m 7 #[.val (.ref a1), .val (.ref a2), .val (.double (FP.l2d 0)), .second, .val (.ref a1), .unset, .unset, .unset] [(.ref a1)])) rfl rfl (hb hby d1_7) _ zk) ?_
  refine own_st (B := (s₁.setTop (mkF m 10 #[.val (.ref a1), .val (.ref a2), .val (.double (FP.l2d 0)), .second, .val (.ref a1), .val (.int z), .unset, .unset] []))) (fun _ zk => XS.istore X0.here hx rfl (hb hby d1_8) rfl (l' := #[.val (.ref a1), .val (.ref a2), .val (.double (FP.l2d 0)), .second, .val (.ref a1), .val (.int z), .unset, .unset]) rfl zk) ?_
  refine own_st (B := (s₁.setTop (mkF m 11 #[.val (.ref a1), .val (.ref a2), .val (.double (FP.l2d 0)), .second, .val (.ref a1), .val (.int z), .unset, .unset] [(.int (0 : Int32))]))) (fun _ zk => XS.iconst X0.here hx rfl (hb hby d1_10) zk) ?_
  refine own_st (B := (s₁.setTop (mkF m 13 #[.val (.ref a1), .val (.ref a2), .val (.double (FP.l2d 0)), .second, .val (.ref a1), .val (.int z), .val (.int (0 : Int32)), .unset] []))) (fun _ zk => XS.istore X0.here hx rfl (hb hby d1_11) rfl (l' := #[.val (.ref a1), .val (.ref a2), .val (.double (FP.l2d 0)), .second, .val (.ref a1), .val (.int z), .val (.int (0 : Int32)), .unset]) rfl zk) ?_
  have loop : ∀ (k : Nat) (i : Int32) (j : Nat) (x : Int64) (s7 : Slot), i.toInt = j → j + k = n → x.toInt = own_S W f 0 j → One s7 → own_Dn p e below (own_Ret s (own_QD y h0) ({ frames := 0, cells := 0, slots := 0, locals := 0 } : Room).cells ({ frames := 0, cells := 0, slots := 0, locals := 0 } : Room).slots) (s₁.setTop (mkF m 13 #[.val (.ref a1), .val (.ref a2), .val (.double (FP.l2d x)), .second, .val (.ref a1), .val (.int z), .val (.int i), s7] [])) := by
    intro k
    induction k with
    | zero =>
      intro i j x s7 hi hjk hs hsl
      refine own_st (B := (s₁.setTop (mkF m 15 #[.val (.ref a1), .val (.ref a2), .val (.double (FP.l2d x)), .second, .val (.ref a1), .val (.int z), .val (.int i), s7] [(.int i)]))) (fun _ zk => XS.iload X0.here hx rfl (hb hby d1_13) rfl zk) ?_
      refine own_st (B := (s₁.setTop (mkF m 17 #[.val (.ref a1), .val (.ref a2), .val (.double (FP.l2d x)), .second, .val (.ref a1), .val (.int z), .val (.int i), s7] [(.int z), (.int i)]))) (fun _ zk => XS.iload X0.here hx rfl (hb hby d1_15) rfl zk) ?_
      have c17 : ¬ i < z := fun q => by
        have q' := own_tL q
        omega
      refine own_st (B := (s₁.setTop (mkF m 40 #[.val (.ref a1), .val (.ref a2), .val (.double (FP.l2d x)), .second, .val (.ref a1), .val (.int z), .val (.int i), s7] []))) (fun _ zk => XS.icmpYes X0.here hx rfl (pc0 := 17) (pc' := 40) rfl (hb hby d1_17) rfl (flt c17).2.1 (by decide) (by decide) zk) ?_
      refine own_st (B := (s₁.setTop (mkF m 41 #[.val (.ref a1), .val (.ref a2), .val (.double (FP.l2d x)), .second, .val (.ref a1), .val (.int z), .val (.int i), s7] [(.double (FP.l2d x))]))) (fun _ zk => XS.dloadN X0.here hx rfl (hb hby d1_40) rfl zk) ?_
      obtain rfl : j = n := by omega
      obtain rfl : x = y := Int64.toInt_inj.mp (hs.trans hy.symm)
      exact own_retD X0 hx hlk hret (hb hby d1_41) (by show own_QD x h0 _ s₁.heap _; rw [e0]; exact ⟨rfl, rfl, rfl⟩) (by decide) (by decide)
    | succ k ih =>
      intro i j x s7 hi hjk hs hsl
      refine own_st (B := (s₁.setTop (mkF m 15 #[.val (.ref a1), .val (.ref a2), .val (.double (FP.l2d x)), .second, .val (.ref a1), .val (.int z), .val (.int i), s7] [(.int i)]))) (fun _ zk => XS.iload X0.here hx rfl (hb hby d1_13) rfl zk) ?_
      refine own_st (B := (s₁.setTop (mkF m 17 #[.val (.ref a1), .val (.ref a2), .val (.double (FP.l2d x)), .second, .val (.ref a1), .val (.int z), .val (.int i), s7] [(.int z), (.int i)]))) (fun _ zk => XS.iload X0.here hx rfl (hb hby d1_15) rfl zk) ?_
      have c17 : i < z := Int32.lt_iff_toInt_lt.mpr (by omega)
      refine own_st (B := (s₁.setTop (mkF m 20 #[.val (.ref a1), .val (.ref a2), .val (.double (FP.l2d x)), .second, .val (.ref a1), .val (.int z), .val (.int i), s7] []))) (fun _ zk => XS.icmpNo X0.here hx rfl (hb hby d1_17) rfl (tlt c17).2.1 zk) ?_
      refine own_st (B := (s₁.setTop (mkF m 22 #[.val (.ref a1), .val (.ref a2), .val (.double (FP.l2d x)), .second, .val (.ref a1), .val (.int z), .val (.int i), s7] [(.ref a1)]))) (fun _ zk => XS.aload X0.here hx rfl (hb hby d1_20) rfl rfl zk) ?_
      refine own_st (B := (s₁.setTop (mkF m 24 #[.val (.ref a1), .val (.ref a2), .val (.double (FP.l2d x)), .second, .val (.ref a1), .val (.int z), .val (.int i), s7] [(.int i), (.ref a1)]))) (fun _ zk => XS.iload X0.here hx rfl (hb hby d1_22) rfl zk) ?_
      refine own_st (B := (s₁.setTop (mkF m 25 #[.val (.ref a1), .val (.ref a2), .val (.double (FP.l2d x)), .second, .val (.ref a1), .val (.int z), .val (.int i), s7] [(.int (f j))]))) (fun _ zk => own_iaload X0 hx hZ e0 VF (i := j) (own_i0 hi).1 (own_i0 hi).2 (by omega) (g := (mkF m 24 #[.val (.ref a1), .val (.ref a2), .val (.double (FP.l2d x)), .second, .val (.ref a1), .val (.int z), .val (.int i), s7] [(.int i), (.ref a1)])) rfl rfl (hb hby d1_24) _ zk) ?_
      refine own_st (B := (s₁.setTop (mkF m 27 #[.val (.ref a1), .val (.ref a2), .val (.double (FP.l2d x)), .second, .val (.ref a1), .val (.int z), .val (.int i), .val (.int (f j))] []))) (fun _ zk => XS.istore X0.here hx rfl (hb hby d1_25) rfl (l' := #[.val (.ref a1), .val (.ref a2), .val (.double (FP.l2d x)), .second, .val (.ref a1), .val (.int z), .val (.int i), .val (.int (f j))]) (own_s7 hsl) zk) ?_
      refine own_st (B := (s₁.setTop (mkF m 28 #[.val (.ref a1), .val (.ref a2), .val (.double (FP.l2d x)), .second, .val (.ref a1), .val (.int z), .val (.int i), .val (.int (f j))] [(.double (FP.l2d x))]))) (fun _ zk => XS.dloadN X0.here hx rfl (hb hby d1_27) rfl zk) ?_
      refine own_st (B := (s₁.setTop (mkF m 29 #[.val (.ref a1), .val (.ref a2), .val (.double (FP.l2d x)), .second, .val (.ref a1), .val (.int z), .val (.int i), .val (.int (f j))] [(.ref a2), (.double (FP.l2d x))]))) (fun _ zk => XS.aloadN X0.here hx rfl (hb hby d1_28) rfl rfl zk) ?_
      refine own_st (B := (s₁.setTop (mkF m 31 #[.val (.ref a1), .val (.ref a2), .val (.double (FP.l2d x)), .second, .val (.ref a1), .val (.int z), .val (.int i), .val (.int (f j))] [(.int (f j)), (.ref a2), (.double (FP.l2d x))]))) (fun _ zk => XS.iload X0.here hx rfl (hb hby d1_29) rfl zk) ?_
      have hfj := hf j (by omega)
      refine own_st (B := (s₁.setTop (mkF m 32 #[.val (.ref a1), .val (.ref a2), .val (.double (FP.l2d x)), .second, .val (.ref a1), .val (.int z), .val (.int i), .val (.int (f j))] [(.double (FP.l2d (W (f j).toInt.toNat))), (.double (FP.l2d x))]))) (fun _ zk => own_daload X0 hx hZ e0 VG (i := (f j).toInt.toNat) rfl (own_i0 (j := (f j).toInt.toNat) (by omega)).2 (by omega) (g := (mkF m 31 #[.val (.ref a1), .val (.ref a2), .val (.double (FP.l2d x)), .second, .val (.ref a1), .val (.int z), .val (.int i), .val (.int (f j))] [(.int (f j)), (.ref a2), (.double (FP.l2d x))])) rfl rfl (hb hby d1_31) _ zk) ?_
      have hSb := own_Sb (f := f) (lo := 0) hW j
      have hWj := hW (f j).toInt.toNat
      have bx : B53 x := by
        unfold B53
        omega
      have bw : B53 (W (f j).toInt.toNat) := by
        unfold B53
        omega
      refine own_st (B := (s₁.setTop (mkF m 33 #[.val (.ref a1), .val (.ref a2), .val (.double (FP.l2d x)), .second, .val (.ref a1), .val (.int z), .val (.int i), .val (.int (f j))] [(.double (FP.l2d (x + W (f j).toInt.toNat)))]))) (fun _ zk => XS.daddS X0.here hx rfl (hb hby d1_32) rfl (nn_w (dadd_w bx bw)) (dadd_w bx bw) zk) ?_
      refine own_st (B := (s₁.setTop (mkF m 34 #[.val (.ref a1), .val (.ref a2), .val (.double (FP.l2d (x + W (f j).toInt.toNat))), .second, .val (.ref a1), .val (.int z), .val (.int i), .val (.int (f j))] []))) (fun _ zk => XS.dstoreN X0.here hx rfl (hb hby d1_33) rfl (l' := #[.val (.ref a1), .val (.ref a2), .val (.double (FP.l2d (x + W (f j).toInt.toNat))), .second, .val (.ref a1), .val (.int z), .val (.int i), .val (.int (f j))]) rfl zk) ?_
      refine own_st (B := (s₁.setTop (mkF m 37 #[.val (.ref a1), .val (.ref a2), .val (.double (FP.l2d (x + W (f j).toInt.toNat))), .second, .val (.ref a1), .val (.int z), .val (.int (i + (1 : Int32))), .val (.int (f j))] []))) (fun _ zk => XS.iinc X0.here hx rfl (hb hby d1_34) rfl (l' := #[.val (.ref a1), .val (.ref a2), .val (.double (FP.l2d (x + W (f j).toInt.toNat))), .second, .val (.ref a1), .val (.int z), .val (.int (i + (1 : Int32))), .val (.int (f j))]) rfl zk) ?_
      refine own_st (B := (s₁.setTop (mkF m 13 #[.val (.ref a1), .val (.ref a2), .val (.double (FP.l2d (x + W (f j).toInt.toNat))), .second, .val (.ref a1), .val (.int z), .val (.int (i + (1 : Int32))), .val (.int (f j))] []))) (fun _ zk => XS.goto X0.here hx rfl (pc0 := 37) (pc' := 13) rfl (hb hby d1_37) (by decide) (by decide) zk) ?_
      refine ih (i + 1) (j + 1) (x + W (f j).toInt.toNat) _ (own_inc hi (n := n) (by omega) (by omega)) (by omega) ?_ (One.val rfl)
      rw [Jvm.RoadKit.add64 bx bw, own_S, hs, Nat.zero_add]
  exact loop n 0 0 0 .unset (by decide) (by omega) rfl One.u
theorem own_and15 (x : Int32) : 0 ≤ (x &&& 15).toInt ∧ (x &&& 15).toInt < 16 := by
  have h := c_mask x 15 4 (by decide) (by decide)
  omega
theorem own_b0 (m : Int32) : (m &&& 1).toInt = m.toInt % 2 := c_mask m 1 1 (by decide) (by decide)
theorem own_bs (m q : Int32) (k : Nat) (hq : q.toBitVec.toNat % 32 = k) : ((m >>> (q &&& 31)) &&& 1).toInt = (m.toInt / (2 ^ k : Nat)) % 2 := by
  rw [own_b0, c_ishr m q k hq]
theorem own_pow (x : Int32) (h1 : 0 ≤ x.toInt) (h2 : x.toInt < 16) : ((x &&& 2 = 0) ↔ (x.toInt / 2) % 2 = 0) ∧ ((x &&& 4 = 0) ↔ (x.toInt / 4) % 2 = 0) ∧ ((x &&& 8 = 0) ↔ (x.toInt / 8) % 2 = 0) ∧ ((x &&& 1 = 0) ↔ x.toInt % 2 = 0) := by
  have h : x = 0 ∨ x = 1 ∨ x = 2 ∨ x = 3 ∨ x = 4 ∨ x = 5 ∨ x = 6 ∨ x = 7 ∨ x = 8 ∨ x = 9 ∨ x = 10 ∨ x = 11 ∨ x = 12 ∨ x = 13 ∨ x = 14 ∨ x = 15 := by
    have h' : x.toInt = 0 ∨ x.toInt = 1 ∨ x.toInt = 2 ∨ x.toInt = 3 ∨ x.toInt = 4 ∨ x.toInt = 5 ∨ x.toInt = 6 ∨ x.toInt = 7 ∨ x.toInt = 8 ∨ x.toInt = 9 ∨ x.toInt = 10 ∨ x.toInt = 11 ∨ x.toInt = 12 ∨ x.toInt = 13 ∨ x.toInt = 14 ∨ x.toInt = 15 := by omega
    rcases h' with q | q | q | q | q | q | q | q | q | q | q | q | q | q | q | q
    · exact (Or.inl (Int32.toInt_inj.mp q))
    · exact (Or.inr (Or.inl (Int32.toInt_inj.mp q)))
    · exact (Or.inr (Or.inr (Or.inl (Int32.toInt_inj.mp q))))
    · exact (Or.inr (Or.inr (Or.inr (Or.inl (Int32.toInt_inj.mp q)))))
    · exact (Or.inr (Or.inr (Or.inr (Or.inr (Or.inl (Int32.toInt_inj.mp q))))))
    · exact (Or.inr (Or.inr (Or.inr (Or.inr (Or.inr (Or.inl (Int32.toInt_inj.mp q)))))))
    · exact (Or.inr (Or.inr (Or.inr (Or.inr (Or.inr (Or.inr (Or.inl (Int32.toInt_inj.mp q))))))))
    · exact (Or.inr (Or.inr (Or.inr (Or.inr (Or.inr (Or.inr (Or.inr (Or.inl (Int32.toInt_inj.mp q)))))))))
    · exact (Or.inr (Or.inr (Or.inr (Or.inr (Or.inr (Or.inr (Or.inr (Or.inr (Or.inl (Int32.toInt_inj.mp q))))))))))
    · exact (Or.inr (Or.inr (Or.inr (Or.inr (Or.inr (Or.inr (Or.inr (Or.inr (Or.inr (Or.inl (Int32.toInt_inj.mp q)))))))))))
    · exact (Or.inr (Or.inr (Or.inr (Or.inr (Or.inr (Or.inr (Or.inr (Or.inr (Or.inr (Or.inr (Or.inl (Int32.toInt_inj.mp q))))))))))))
    · exact (Or.inr (Or.inr (Or.inr (Or.inr (Or.inr (Or.inr (Or.inr (Or.inr (Or.inr (Or.inr (Or.inr (Or.inl (Int32.toInt_inj.mp q)))))))))))))
    · exact (Or.inr (Or.inr (Or.inr (Or.inr (Or.inr (Or.inr (Or.inr (Or.inr (Or.inr (Or.inr (Or.inr (Or.inr (Or.inl (Int32.toInt_inj.mp q))))))))))))))
    · exact (Or.inr (Or.inr (Or.inr (Or.inr (Or.inr (Or.inr (Or.inr (Or.inr (Or.inr (Or.inr (Or.inr (Or.inr (Or.inr (Or.inl (Int32.toInt_inj.mp q)))))))))))))))
    · exact (Or.inr (Or.inr (Or.inr (Or.inr (Or.inr (Or.inr (Or.inr (Or.inr (Or.inr (Or.inr (Or.inr (Or.inr (Or.inr (Or.inr (Or.inl (Int32.toInt_inj.mp q))))))))))))))))
    · exact (Or.inr (Or.inr (Or.inr (Or.inr (Or.inr (Or.inr (Or.inr (Or.inr (Or.inr (Or.inr (Or.inr (Or.inr (Or.inr (Or.inr (Or.inr (Int32.toInt_inj.mp q))))))))))))))))
  rcases h with rfl | rfl | rfl | rfl | rfl | rfl | rfl | rfl | rfl | rfl | rfl | rfl | rfl | rfl | rfl | rfl <;> decide
/-- what stands between two blocks: k places are filled, from lo on; what they name sums up to sm -/
def own_inv (W : Nat → Int64) (lo k : Nat) (sm : Int) (f : Nat → Int32) : Prop :=
  (∀ i, lo ≤ i → i < lo + k → 0 ≤ (f i).toInt ∧ (f i).toInt < 4) ∧ own_S W f lo k = sm
theorem own_inv_back {W : Nat → Int64} {lo k : Nat} {sm : Int} {f : Nat → Int32} (h : own_inv W lo k sm f) (x : Int32) (hx : 0 ≤ x.toInt ∧ x.toInt < 4) (i : Nat) (hi : i = lo + k) :
    own_inv W lo (k + 1) (sm + (W x.toInt.toNat).toInt) (fun q => if q = i then x else f q) := by
  obtain ⟨h2, h3⟩ := h
  subst hi
  refine ⟨fun q q1 q2 => ?_, ?_⟩
  · show 0 ≤ (if q = lo + k then x else f q).toInt ∧ (if q = lo + k then x else f q).toInt < 4
    by_cases e : q = lo + k
    · rw [if_pos e]
      exact hx
    · rw [if_neg e]
      exact h2 q q1 (by omega)
  · show own_S W (fun q => if q = lo + k then x else f q) lo k + (W (if lo + k = lo + k then x else f (lo + k)).toInt.toNat).toInt = _
    rw [if_pos rfl, own_S_congr (g := f) k (fun q q1 q2 => if_neg (by omega)), h3]
theorem own_inv_front {W : Nat → Int64} {lo k : Nat} {sm : Int} {f : Nat → Int32} (h : own_inv W (lo + 1) k sm f) (x : Int32) (hx : 0 ≤ x.toInt ∧ x.toInt < 4) :
    own_inv W lo (k + 1) (sm + (W x.toInt.toNat).toInt) (fun q => if q = lo then x else f q) := by
  obtain ⟨h2, h3⟩ := h
  refine ⟨fun q q1 q2 => ?_, ?_⟩
  · show 0 ≤ (if q = lo then x else f q).toInt ∧ (if q = lo then x else f q).toInt < 4
    by_cases e : q = lo
    · rw [if_pos e]
      exact hx
    · rw [if_neg e]
      exact h2 q (by omega) (by omega)
  · rw [own_S_front]
    show (W (if lo = lo then x else f lo).toInt.toNat).toInt + own_S W (fun q => if q = lo then x else f q) (lo + 1) k = _
    rw [if_pos rfl, own_S_congr (g := f) k (fun q q1 q2 => if_neg (by omega)), h3]
    omega
theorem own_cnt (x : Int32) (h1 : 0 ≤ x.toInt) (h2 : x.toInt < 16) : ((((x &&& 1) + ((x >>> ((1 : Int32) &&& 31)) &&& 1)) + ((x >>> ((2 : Int32) &&& 31)) &&& 1)) + ((x >>> ((3 : Int32) &&& 31)) &&& 1)).toInt = x.toInt % 2 + (x.toInt / 2) % 2 + (x.toInt / 4) % 2 + (x.toInt / 8) % 2 := by
  have a0 := own_b0 x
  have a1 : ((x >>> ((1 : Int32) &&& 31)) &&& 1).toInt = (x.toInt / 2) % 2 := own_bs x 1 1 (by decide)
  have a2 : ((x >>> ((2 : Int32) &&& 31)) &&& 1).toInt = (x.toInt / 4) % 2 := own_bs x 2 2 (by decide)
  have a3 : ((x >>> ((3 : Int32) &&& 31)) &&& 1).toInt = (x.toInt / 8) % 2 := own_bs x 3 3 (by decide)
  have c1 := c_iadd (x &&& 1) ((x >>> ((1 : Int32) &&& 31)) &&& 1)
  have c2 := c_iadd ((x &&& 1) + ((x >>> ((1 : Int32) &&& 31)) &&& 1)) ((x >>> ((2 : Int32) &&& 31)) &&& 1)
  have c3 := c_iadd (((x &&& 1) + ((x >>> ((1 : Int32) &&& 31)) &&& 1)) + ((x >>> ((2 : Int32) &&& 31)) &&& 1)) ((x >>> ((3 : Int32) &&& 31)) &&& 1)
  have d1 := rng32 ((x &&& 1) + ((x >>> ((1 : Int32) &&& 31)) &&& 1))
  have d2 := rng32 (((x &&& 1) + ((x >>> ((1 : Int32) &&& 31)) &&& 1)) + ((x >>> ((2 : Int32) &&& 31)) &&& 1))
  have d3 := rng32 ((((x &&& 1) + ((x >>> ((1 : Int32) &&& 31)) &&& 1)) + ((x >>> ((2 : Int32) &&& 31)) &&& 1)) + ((x >>> ((3 : Int32) &&& 31)) &&& 1))
  generalize (x >>> ((1 : Int32) &&& 31)) &&& 1 = y1 at *
  generalize (x >>> ((2 : Int32) &&& 31)) &&& 1 = y2 at *
  generalize (x >>> ((3 : Int32) &&& 31)) &&& 1 = y3 at *
  omega
theorem own_add1 (k : Int32) (h : 0 ≤ k.toInt ∧ k.toInt < 4) : (k + 1).toInt = k.toInt + 1 := by
  have a := c_iadd k 1
  have b := rng32 (k + 1)
  have z : (1 : Int32).toInt = 1 := by decide
  rw [z] at a
  omega
theorem own_ix (u k : Int32) (h : 0 ≤ k.toInt) (h1 : k.toInt < u.toInt) (h2 : u.toInt ≤ 4) : ((u - 1) - k).toInt = u.toInt - 1 - k.toInt := by
  have a := c_isub u 1
  have b := rng32 (u - 1)
  have a' := c_isub (u - 1) k
  have b' := rng32 ((u - 1) - k)
  have z : (1 : Int32).toInt = 1 := by decide
  rw [z] at a
  omega
theorem own_adds (x : Int64) (w : Int32) (h : -10000000000 ≤ x.toInt ∧ x.toInt ≤ 10000000000) : (x + w.toInt64).toInt = x.toInt + w.toInt := by
  have a := c_ladd x w.toInt64
  have b := rng64 (x + w.toInt64)
  have c := rng32 w
  rw [c_i2l] at a
  omega
theorem own_castinv {W : Nat → Int64} {lo lo' k k' : Nat} {sm sm' : Int} {f : Nat → Int32} (h : own_inv W lo k sm f) (e0 : lo = lo') (e : k = k') (e' : sm' = sm) : own_inv W lo' k' sm' f := by
  subst e0 e e'
  exact h
theorem pd_0 : parseMethodDescriptor "([I[D)D" = some ⟨[(.array .int), (.array .double)], some .double⟩ := by decide +kernel
theorem ef_rm_law (m : MethodId) (x0 : Int32) (x1 : Int32) (x2 : Int32) (x3 : Int32) (x4 : Int32) : entryFrame m #[(.int x0), (.int x1), (.int x2), (.int x3), (.int x4)] maxLocals = mkF m 0 #[.val (.int x0), .val (.int x1), .val (.int x2), .val (.int x3), .val (.int x4), .unset, .unset, .unset, .unset, .unset, .unset, .unset, .unset, .unset, .unset] [] := by first | (simp [entryFrame, mkF, argsToLocals, Value.category, maxLocals]; done) | rfl
theorem pn_1 : plainName "com/example/parley/parley/ConflictGraphWeightOfPinLaw" = true := by first | (simp [plainName, overriddenIn]; done) | decide +kernel
set_option maxRecDepth 65536 in
set_option maxHeartbeats 40000000 in
theorem rm_law (l : Launch) (Z : State) (a0 : Array Value) (hw : ∀ d ∈ tables_1, d.before a0 Z = true) (ws : List Jvm.Cond) (p1 p2 p3 p4 p5 : Int32) (h0 : Heap) (n0 : Nat) (Z0 : n0 ≤ h0.size)  :
    MetFree l x (head1 (Jvm.Cond.code x code maxLocals ret :: ws) room_1) (fun a U => a = #[(.int p1), (.int p2), (.int p3), (.int p4), (.int p5)] ∧ Z.Warmed39 U.vm ∧ U.heap = h0) (fun _ _ _ _ _ => True) (fun _ U o U' => ∃ v L, o = .returned v ∧ own_Q0 n0 v U'.heap L ∧ FrameEnd U o U' L 16 128) := by
  refine MetFree.of_bodySF (plainFor_of_name pn_1) hisR ?_
  intro p e s m args below meth c s₁ Bd hml0 hP hK
  obtain ⟨rfl, hZ, hh⟩ := hP
  have hx := Bd.exec
  have hby := Bd.bytes
  have hlk := Bd.notSynchronized
  have hret := Bd.returns
  have hml : c.maxLocals = 15 := hml0
  have hown : s.vm.findClass "com/example/parley/parley/ConflictGraphWeightOfPinLaw" = some m.cls := findClass_of_methodNamed Bd.named
  have hnm := (name_of_methodNamed Bd.named Bd.method).1
  have X0 : Stand p l e room_1 s m #[(.int p1), (.int p2), (.int p3), (.int p4), (.int p5)] below meth c s₁ [] 0 0 := Stand.of_body Bd
  have e0 : s₁.heap = h0 := by rw [← hh, Bd.state]; rfl
  have N0 := Fr.nil n0
  show own_Dn p e below (own_Ret s (own_Q0 n0) 16 128) (s₁.setTop (entryFrame m #[(.int p1), (.int p2), (.int p3), (.int p4), (.int p5)] maxLocals))
  rw [ef_rm_law]
  refine own_st (B := (s₁.setTop (mkF m 1 #[.val (.int p1), .val (.int p2), .val (.int p3), .val (.int p4), .val (.int p5), .unset, .unset, .unset, .unset, .unset, .unset, .unset, .unset, .unset, .unset] [(.int p1)]))) (fun _ zk => XS.iloadN X0.here hx rfl (hb hby at_0) rfl zk) ?_
  refine own_st (B := (s₁.setTop (mkF m 3 #[.val (.int p1), .val (.int p2), .val (.int p3), .val (.int p4), .val (.int p5), .unset, .unset, .unset, .unset, .unset, .unset, .unset, .unset, .unset, .unset] [(.int (15 : Int32)), (.int p1)]))) (fun _ zk => XS.bipush X0.here hx rfl (hb hby at_1) zk) ?_
  refine own_st (B := (s₁.setTop (mkF m 4 #[.val (.int p1), .val (.int p2), .val (.int p3), .val (.int p4), .val (.int p5), .unset, .unset, .unset, .unset, .unset, .unset, .unset, .unset, .unset, .unset] [(.int (p1 &&& (15 : Int32)))]))) (fun _ zk => XS.iand X0.here hx rfl (hb hby at_3) rfl zk) ?_
  refine own_st (B := (s₁.setTop (mkF m 6 #[.val (.int p1), .val (.int p2), .val (.int p3), .val (.int p4), .val (.int p5), .val (.int (p1 &&& (15 : Int32))), .unset, .unset, .unset, .unset, .unset, .unset, .unset, .unset, .unset] []))) (fun _ zk => XS.istore X0.here hx rfl (hb hby at_4) rfl (l' := #[.val (.int p1), .val (.int p2), .val (.int p3), .val (.int p4), .val (.int p5), .val (.int (p1 &&& (15 : Int32))), .unset, .unset, .unset, .unset, .unset, .unset, .unset, .unset, .unset]) rfl zk) ?_
  have hm := own_and15 p1
  generalize (p1 &&& (15 : Int32)) = um at *
  refine own_st (B := (s₁.setTop (mkF m 7 #[.val (.int p1), .val (.int p2), .val (.int p3), .val (.int p4), .val (.int p5), .val (.int um), .unset, .unset, .unset, .unset, .unset, .unset, .unset, .unset, .unset] [(.int p1)]))) (fun _ zk => XS.iloadN X0.here hx rfl (hb hby at_6) rfl zk) ?_
  refine own_st (B := (s₁.setTop (mkF m 8 #[.val (.int p1), .val (.int p2), .val (.int p3), .val (.int p4), .val (.int p5), .val (.int um), .unset, .unset, .unset, .unset, .unset, .unset, .unset, .unset, .unset] [(.int (4 : Int32)), (.int p1)]))) (fun _ zk => XS.iconst X0.here hx rfl (hb hby at_7) zk) ?_
  refine own_st (B := (s₁.setTop (mkF m 9 #[.val (.int p1), .val (.int p2), .val (.int p3), .val (.int p4), .val (.int p5), .val (.int um), .unset, .unset, .unset, .unset, .unset, .unset, .unset, .unset, .unset] [(.int (p1 >>> ((4 : Int32) &&& 31)))]))) (fun _ zk => XS.ishr X0.here hx rfl (hb hby at_8) rfl zk) ?_
  refine own_st (B := (s₁.setTop (mkF m 10 #[.val (.int p1), .val (.int p2), .val (.int p3), .val (.int p4), .val (.int p5), .val (.int um), .unset, .unset, .unset, .unset, .unset, .unset, .unset, .unset, .unset] [(.int (1 : Int32)), (.int (p1 >>> ((4 : Int32) &&& 31)))]))) (fun _ zk => XS.iconst X0.here hx rfl (hb hby at_9) zk) ?_
  refine own_st (B := (s₁.setTop (mkF m 11 #[.val (.int p1), .val (.int p2), .val (.int p3), .val (.int p4), .val (.int p5), .val (.int um), .unset, .unset, .unset, .unset, .unset, .unset, .unset, .unset, .unset] [(.int ((p1 >>> ((4 : Int32) &&& 31)) &&& (1 : Int32)))]))) (fun _ zk => XS.iand X0.here hx rfl (hb hby at_10) rfl zk) ?_
  by_cases cR : ((p1 >>> ((4 : Int32) &&& 31)) &&& (1 : Int32)) = (0 : Int32)
  · refine own_st (B := (s₁.setTop (mkF m 18 #[.val (.int p1), .val (.int p2), .val (.int p3), .val (.int p4), .val (.int p5), .val (.int um), .unset, .unset, .unset, .unset, .unset, .unset, .unset, .unset, .unset] []))) (fun _ zk => XS.ifYes X0.here hx rfl (pc0 := 11) (pc' := 18) rfl (hb hby at_11) rfl ((if0 _ _).trans (teq cR).1) (by decide) (by decide) zk) ?_
    refine own_st (B := (s₁.setTop (mkF m 19 #[.val (.int p1), .val (.int p2), .val (.int p3), .val (.int p4), .val (.int p5), .val (.int um), .unset, .unset, .unset, .unset, .unset, .unset, .unset, .unset, .unset] [(.int (0 : Int32))]))) (fun _ zk => XS.iconst X0.here hx rfl (hb hby at_18) zk) ?_
    refine own_st (B := (s₁.setTop (mkF m 21 #[.val (.int p1), .val (.int p2), .val (.int p3), .val (.int p4), .val (.int p5), .val (.int um), .val (.int (0 : Int32)), .unset, .unset, .unset, .unset, .unset, .unset, .unset, .unset] []))) (fun _ zk => XS.istore X0.here hx rfl (hb hby at_19) rfl (l' := #[.val (.int p1), .val (.int p2), .val (.int p3), .val (.int p4), .val (.int p5), .val (.int um), .val (.int (0 : Int32)), .unset, .unset, .unset, .unset, .unset, .unset, .unset, .unset]) rfl zk) ?_
    refine own_st (B := (s₁.setTop (mkF m 23 #[.val (.int p1), .val (.int p2), .val (.int p3), .val (.int p4), .val (.int p5), .val (.int um), .val (.int (0 : Int32)), .unset, .unset, .unset, .unset, .unset, .unset, .unset, .unset] [(.int um)]))) (fun _ zk => XS.iload X0.here hx rfl (hb hby at_21) rfl zk) ?_
    refine own_st (B := (s₁.setTop (mkF m 24 #[.val (.int p1), .val (.int p2), .val (.int p3), .val (.int p4), .val (.int p5), .val (.int um), .val (.int (0 : Int32)), .unset, .unset, .unset, .unset, .unset, .unset, .unset, .unset] [(.int (1 : Int32)), (.int um)]))) (fun _ zk => XS.iconst X0.here hx rfl (hb hby at_23) zk) ?_
    refine own_st (B := (s₁.setTop (mkF m 25 #[.val (.int p1), .val (.int p2), .val (.int p3), .val (.int p4), .val (.int p5), .val (.int um), .val (.int (0 : Int32)), .unset, .unset, .unset, .unset, .unset, .unset, .unset, .unset] [(.int (um &&& (1 : Int32)))]))) (fun _ zk => XS.iand X0.here hx rfl (hb hby at_24) rfl zk) ?_
    refine own_st (B := (s₁.setTop (mkF m 27 #[.val (.int p1), .val (.int p2), .val (.int p3), .val (.int p4), .val (.int p5), .val (.int um), .val (.int (0 : Int32)), .unset, .unset, .unset, .unset, .unset, .unset, .unset, .unset] [(.int um), (.int (um &&& (1 : Int32)))]))) (fun _ zk => XS.iload X0.here hx rfl (hb hby at_25) rfl zk) ?_
    refine own_st (B := (s₁.setTop (mkF m 28 #[.val (.int p1), .val (.int p2), .val (.int p3), .val (.int p4), .val (.int p5), .val (.int um), .val (.int (0 : Int32)), .unset, .unset, .unset, .unset, .unset, .unset, .unset, .unset] [(.int (1 : Int32)), (.int um), (.int (um &&& (1 : Int32)))]))) (fun _ zk => XS.iconst X0.here hx rfl (hb hby at_27) zk) ?_
    refine own_st (B := (s₁.setTop (mkF m 29 #[.val (.int p1), .val (.int p2), .val (.int p3), .val (.int p4), .val (.int p5), .val (.int um), .val (.int (0 : Int32)), .unset, .unset, .unset, .unset, .unset, .unset, .unset, .unset] [(.int (um >>> ((1 : Int32) &&& 31))), (.int (um &&& (1 : Int32)))]))) (fun _ zk => XS.ishr X0.here hx rfl (hb hby at_28) rfl zk) ?_
    refine own_st (B := (s₁.setTop (mkF m 30 #[.val (.int p1), .val (.int p2), .val (.int p3), .val (.int p4), .val (.int p5), .val (.int um), .val (.int (0 : Int32)), .unset, .unset, .unset, .unset, .unset, .unset, .unset, .unset] [(.int (1 : Int32)), (.int (um >>> ((1 : Int32) &&& 31))), (.int (um &&& (1 : Int32)))]))) (fun _ zk => XS.iconst X0.here hx rfl (hb hby at_29) zk) ?_
    refine own_st (B := (s₁.setTop (mkF m 31 #[.val (.int p1), .val (.int p2), .val (.int p3), .val (.int p4), .val (.int p5), .val (.int um), .val (.int (0 : Int32)), .unset, .unset, .unset, .unset, .unset, .unset, .unset, .unset] [(.int ((um >>> ((1 : Int32) &&& 31)) &&& (1 : Int32))), (.int (um &&& (1 : Int32)))]))) (fun _ zk => XS.iand X0.here hx rfl (hb hby at_30) rfl zk) ?_
    refine own_st (B := (s₁.setTop (mkF m 32 #[.val (.int p1), .val (.int p2), .val (.int p3), .val (.int p4), .val (.int p5), .val (.int um), .val (.int (0 : Int32)), .unset, .unset, .unset, .unset, .unset, .unset, .unset, .unset] [(.int ((um &&& (1 : Int32)) + ((um >>> ((1 : Int32) &&& 31)) &&& (1 : Int32))))]))) (fun _ zk => XS.iadd X0.here hx rfl (hb hby at_31) rfl zk) ?_
    refine own_st (B := (s₁.setTop (mkF m 34 #[.val (.int p1), .val (.int p2), .val (.int p3), .val (.int p4), .val (.int p5), .val (.int um), .val (.int (0 : Int32)), .unset, .unset, .unset, .unset, .unset, .unset, .unset, .unset] [(.int um), (.int ((um &&& (1 : Int32)) + ((um >>> ((1 : Int32) &&& 31)) &&& (1 : Int32))))]))) (fun _ zk => XS.iload X0.here hx rfl (hb hby at_32) rfl zk) ?_
    refine own_st (B := (s₁.setTop (mkF m 35 #[.val (.int p1), .val (.int p2), .val (.int p3), .val (.int p4), .val (.int p5), .val (.int um), .val (.int (0 : Int32)), .unset, .unset, .unset, .unset, .unset, .unset, .unset, .unset] [(.int (2 : Int32)), (.int um), (.int ((um &&& (1 : Int32)) + ((um >>> ((1 : Int32) &&& 31)) &&& (1 : Int32))))]))) (fun _ zk => XS.iconst X0.here hx rfl (hb hby at_34) zk) ?_
    refine own_st (B := (s₁.setTop (mkF m 36 #[.val (.int p1), .val (.int p2), .val (.int p3), .val (.int p4), .val (.int p5), .val (.int um), .val (.int (0 : Int32)), .unset, .unset, .unset, .unset, .unset, .unset, .unset, .unset] [(.int (um >>> ((2 : Int32) &&& 31))), (.int ((um &&& (1 : Int32)) + ((um >>> ((1 : Int32) &&& 31)) &&& (1 : Int32))))]))) (fun _ zk => XS.ishr X0.here hx rfl (hb hby at_35) rfl zk) ?_
    refine own_st (B := (s₁.setTop (mkF m 37 #[.val (.int p1), .val (.int p2), .val (.int p3), .val (.int p4), .val (.int p5), .val (.int um), .val (.int (0 : Int32)), .unset, .unset, .unset, .unset, .unset, .unset, .unset, .unset] [(.int (1 : Int32)), (.int (um >>> ((2 : Int32) &&& 31))), (.int ((um &&& (1 : Int32)) + ((um >>> ((1 : Int32) &&& 31)) &&& (1 : Int32))))]))) (fun _ zk => XS.iconst X0.here hx rfl (hb hby at_36) zk) ?_
    refine own_st (B := (s₁.setTop (mkF m 38 #[.val (.int p1), .val (.int p2), .val (.int p3), .val (.int p4), .val (.int p5), .val (.int um), .val (.int (0 : Int32)), .unset, .unset, .unset, .unset, .unset, .unset, .unset, .unset] [(.int ((um >>> ((2 : Int32) &&& 31)) &&& (1 : Int32))), (.int ((um &&& (1 : Int32)) + ((um >>> ((1 : Int32) &&& 31)) &&& (1 : Int32))))]))) (fun _ zk => XS.iand X0.here hx rfl (hb hby at_37) rfl zk) ?_
    refine own_st (B := (s₁.setTop (mkF m 39 #[.val (.int p1), .val (.int p2), .val (.int p3), .val (.int p4), .val (.int p5), .val (.int um), .val (.int (0 : Int32)), .unset, .unset, .unset, .unset, .unset, .unset, .unset, .unset] [(.int (((um &&& (1 : Int32)) + ((um >>> ((1 : Int32) &&& 31)) &&& (1 : Int32))) + ((um >>> ((2 : Int32) &&& 31)) &&& (1 : Int32))))]))) (fun _ zk => XS.iadd X0.here hx rfl (hb hby at_38) rfl zk) ?_
    refine own_st (B := (s₁.setTop (mkF m 41 #[.val (.int p1), .val (.int p2), .val (.int p3), .val (.int p4), .val (.int p5), .val (.int um), .val (.int (0 : Int32)), .unset, .unset, .unset, .unset, .unset, .unset, .unset, .unset] [(.int um), (.int (((um &&& (1 : Int32)) + ((um >>> ((1 : Int32) &&& 31)) &&& (1 : Int32))) + ((um >>> ((2 : Int32) &&& 31)) &&& (1 : Int32))))]))) (fun _ zk => XS.iload X0.here hx rfl (hb hby at_39) rfl zk) ?_
    refine own_st (B := (s₁.setTop (mkF m 42 #[.val (.int p1), .val (.int p2), .val (.int p3), .val (.int p4), .val (.int p5), .val (.int um), .val (.int (0 : Int32)), .unset, .unset, .unset, .unset, .unset, .unset, .unset, .unset] [(.int (3 : Int32)), (.int um), (.int (((um &&& (1 : Int32)) + ((um >>> ((1 : Int32) &&& 31)) &&& (1 : Int32))) + ((um >>> ((2 : Int32) &&& 31)) &&& (1 : Int32))))]))) (fun _ zk => XS.iconst X0.here hx rfl (hb hby at_41) zk) ?_
    refine own_st (B := (s₁.setTop (mkF m 43 #[.val (.int p1), .val (.int p2), .val (.int p3), .val (.int p4), .val (.int p5), .val (.int um), .val (.int (0 : Int32)), .unset, .unset, .unset, .unset, .unset, .unset, .unset, .unset] [(.int (um >>> ((3 : Int32) &&& 31))), (.int (((um &&& (1 : Int32)) + ((um >>> ((1 : Int32) &&& 31)) &&& (1 : Int32))) + ((um >>> ((2 : Int32) &&& 31)) &&& (1 : Int32))))]))) (fun _ zk => XS.ishr X0.here hx rfl (hb hby at_42) rfl zk) ?_
    refine own_st (B := (s₁.setTop (mkF m 44 #[.val (.int p1), .val (.int p2), .val (.int p3), .val (.int p4), .val (.int p5), .val (.int um), .val (.int (0 : Int32)), .unset, .unset, .unset, .unset, .unset, .unset, .unset, .unset] [(.int (1 : Int32)), (.int (um >>> ((3 : Int32) &&& 31))), (.int (((um &&& (1 : Int32)) + ((um >>> ((1 : Int32) &&& 31)) &&& (1 : Int32))) + ((um >>> ((2 : Int32) &&& 31)) &&& (1 : Int32))))]))) (fun _ zk => XS.iconst X0.here hx rfl (hb hby at_43) zk) ?_
    refine own_st (B := (s₁.setTop (mkF m 45 #[.val (.int p1), .val (.int p2), .val (.int p3), .val (.int p4), .val (.int p5), .val (.int um), .val (.int (0 : Int32)), .unset, .unset, .unset, .unset, .unset, .unset, .unset, .unset] [(.int ((um >>> ((3 : Int32) &&& 31)) &&& (1 : Int32))), (.int (((um &&& (1 : Int32)) + ((um >>> ((1 : Int32) &&& 31)) &&& (1 : Int32))) + ((um >>> ((2 : Int32) &&& 31)) &&& (1 : Int32))))]))) (fun _ zk => XS.iand X0.here hx rfl (hb hby at_44) rfl zk) ?_
    refine own_st (B := (s₁.setTop (mkF m 46 #[.val (.int p1), .val (.int p2), .val (.int p3), .val (.int p4), .val (.int p5), .val (.int um), .val (.int (0 : Int32)), .unset, .unset, .unset, .unset, .unset, .unset, .unset, .unset] [(.int ((((um &&& (1 : Int32)) + ((um >>> ((1 : Int32) &&& 31)) &&& (1 : Int32))) + ((um >>> ((2 : Int32) &&& 31)) &&& (1 : Int32))) + ((um >>> ((3 : Int32) &&& 31)) &&& (1 : Int32))))]))) (fun _ zk => XS.iadd X0.here hx rfl (hb hby at_45) rfl zk) ?_
    refine own_st (B := (s₁.setTop (mkF m 48 #[.val (.int p1), .val (.int p2), .val (.int p3), .val (.int p4), .val (.int p5), .val (.int um), .val (.int (0 : Int32)), .val (.int ((((um &&& (1 : Int32)) + ((um >>> ((1 : Int32) &&& 31)) &&& (1 : Int32))) + ((um >>> ((2 : Int32) &&& 31)) &&& (1 : Int32))) + ((um >>> ((3 : Int32) &&& 31)) &&& (1 : Int32)))), .unset, .unset, .unset, .unset, .unset, .unset, .unset] []))) (fun _ zk => XS.istore X0.here hx rfl (hb hby at_46) rfl (l' := #[.val (.int p1), .val (.int p2), .val (.int p3), .val (.int p4), .val (.int p5), .val (.int um), .val (.int (0 : Int32)), .val (.int ((((um &&& (1 : Int32)) + ((um >>> ((1 : Int32) &&& 31)) &&& (1 : Int32))) + ((um >>> ((2 : Int32) &&& 31)) &&& (1 : Int32))) + ((um >>> ((3 : Int32) &&& 31)) &&& (1 : Int32)))), .unset, .unset, .unset, .unset, .unset, .unset, .unset]) rfl zk) ?_
    have hu := own_cnt um hm.1 hm.2
    have hpw := own_pow um hm.1 hm.2
    generalize ((((um &&& (1 : Int32)) + ((um >>> ((1 : Int32) &&& 31)) &&& (1 : Int32))) + ((um >>> ((2 : Int32) &&& 31)) &&& (1 : Int32))) + ((um >>> ((3 : Int32) &&& 31)) &&& (1 : Int32))) = un at *
    obtain ⟨ub, hub⟩ : ∃ ub, um.toInt = ub := ⟨_, rfl⟩
    rw [hub] at hm hu hpw
    obtain ⟨nn, hnn⟩ : ∃ nn : Nat, un.toInt = nn := ⟨un.toInt.toNat, by omega⟩
    refine own_st (B := (s₁.setTop (mkF m 50 #[.val (.int p1), .val (.int p2), .val (.int p3), .val (.int p4), .val (.int p5), .val (.int um), .val (.int (0 : Int32)), .val (.int un), .unset, .unset, .unset, .unset, .unset, .unset, .unset] [(.int un)]))) (fun _ zk => XS.iload X0.here hx rfl (hb hby at_48) rfl zk) ?_
    obtain ⟨T1, h1, k1, X1, e1, E1, A1, st1⟩ := newP X0 hx hZ (hw _ (List.mem_of_getElem? (i := 0) rfl)) e0 (g := (mkF m 50 #[.val (.int p1), .val (.int p2), .val (.int p3), .val (.int p4), .val (.int p5), .val (.int um), .val (.int (0 : Int32)), .val (.int un), .unset, .unset, .unset, .unset, .unset, .unset, .unset] [(.int un)])) rfl (hb hby at_50) rfl (own_i0 hnn).2 (cap := 4) (by rw [(own_i0 hnn).1]; omega) (by decide) (by decide) (by decide)
    obtain ⟨b1, g1⟩ : ∃ z, z = h0.size := ⟨_, rfl⟩
    rw [← g1] at A1 st1
    have g_b1 : n0 ≤ b1 := Nat.le_trans Z0 (Nat.le_of_eq g1.symm)
    have Z1 : n0 ≤ h1.size := Nat.le_trans Z0 E1.1
    refine own_st (B := (T1.setTop (mkF m 52 #[.val (.int p1), .val (.int p2), .val (.int p3), .val (.int p4), .val (.int p5), .val (.int um), .val (.int (0 : Int32)), .val (.int un), .unset, .unset, .unset, .unset, .unset, .unset, .unset] [(.ref b1)]))) st1 ?_
    have V0 : own_AV Z h1 b1 .int nn (fun i => .int ((fun _ => (0 : Int32)) i)) := own_AV.new A1 (own_i0 hnn).1
    refine own_st (B := (T1.setTop (mkF m 54 #[.val (.int p1), .val (.int p2), .val (.int p3), .val (.int p4), .val (.int p5), .val (.int um), .val (.int (0 : Int32)), .val (.int un), .val (.ref b1), .unset, .unset, .unset, .unset, .unset, .unset] []))) (fun _ zk => XS.astore X1.here hx rfl (hb hby at_52) rfl rfl (l' := #[.val (.int p1), .val (.int p2), .val (.int p3), .val (.int p4), .val (.int p5), .val (.int um), .val (.int (0 : Int32)), .val (.int un), .val (.ref b1), .unset, .unset, .unset, .unset, .unset, .unset]) rfl zk) ?_
    refine own_st (B := (T1.setTop (mkF m 55 #[.val (.int p1), .val (.int p2), .val (.int p3), .val (.int p4), .val (.int p5), .val (.int um), .val (.int (0 : Int32)), .val (.int un), .val (.ref b1), .unset, .unset, .unset, .unset, .unset, .unset] [(.int (0 : Int32))]))) (fun _ zk => XS.iconst X1.here hx rfl (hb hby at_54) zk) ?_
    refine own_st (B := (T1.setTop (mkF m 57 #[.val (.int p1), .val (.int p2), .val (.int p3), .val (.int p4), .val (.int p5), .val (.int um), .val (.int (0 : Int32)), .val (.int un), .val (.ref b1), .val (.int (0 : Int32)), .unset, .unset, .unset, .unset, .unset] []))) (fun _ zk => XS.istore X1.here hx rfl (hb hby at_55) rfl (l' := #[.val (.int p1), .val (.int p2), .val (.int p3), .val (.int p4), .val (.int p5), .val (.int um), .val (.int (0 : Int32)), .val (.int un), .val (.ref b1), .val (.int (0 : Int32)), .unset, .unset, .unset, .unset, .unset]) rfl zk) ?_
    refine own_st (B := (T1.setTop (mkF m 58 #[.val (.int p1), .val (.int p2), .val (.int p3), .val (.int p4), .val (.int p5), .val (.int um), .val (.int (0 : Int32)), .val (.int un), .val (.ref b1), .val (.int (0 : Int32)), .unset, .unset, .unset, .unset, .unset] [(.long (0 : Int64))]))) (fun _ zk => XS.lconst X1.here hx rfl (hb hby at_57) zk) ?_
    refine own_st (B := (T1.setTop (mkF m 60 #[.val (.int p1), .val (.int p2), .val (.int p3), .val (.int p4), .val (.int p5), .val (.int um), .val (.int (0 : Int32)), .val (.int un), .val (.ref b1), .val (.int (0 : Int32)), .val (.long (0 : Int64)), .second, .unset, .unset, .unset] []))) (fun _ zk => XS.lstore X1.here hx rfl (hb hby at_58) rfl (l' := #[.val (.int p1), .val (.int p2), .val (.int p3), .val (.int p4), .val (.int p5), .val (.int um), .val (.int (0 : Int32)), .val (.int un), .val (.ref b1), .val (.int (0 : Int32)), .val (.long (0 : Int64)), .second, .unset, .unset, .unset]) rfl zk) ?_
    have inv0 : own_inv (own_W p2 p3 p4 p5) 0 (0 : Int32).toInt.toNat (0 : Int64).toInt (fun _ => (0 : Int32)) := ⟨fun i q1 q2 => absurd q2 (by show ¬ i < _ + 0; omega), rfl⟩
    have hz64 : (0 : Int64).toInt = 0 := by decide
    have kz0 : (0 : Int32).toInt = 0 := by decide
    suffices KB0 : ∀ (T2 : State) (h2 : Heap) (lc2 : List Loc), Stand p l e room_1 s m #[(.int p1), (.int p2), (.int p3), (.int p4), (.int p5)] below meth c T2 lc2 1 4 → T2.heap = h2 → Fr n0 lc2 → ∀ (k1 : Int32) (m1 : Int64) (f1 : Nat → Int32), own_AV Z h2 b1 .int nn (fun i => .int (f1 i)) → k1.toInt = ub % 2 → own_inv (own_W p2 p3 p4 p5) 0 k1.toInt.toNat m1.toInt f1 → own_Dn p e below (own_Ret s (own_Q0 n0) 16 128) (T2.setTop (mkF m 98 #[.val (.int p1), .val (.int p2), .val (.int p3), .val (.int p4), .val (.int p5), .val (.int um), .val (.int (0 : Int32)), .val (.int un), .val (.ref b1), .val (.int k1), .val (.long m1), .second, .unset, .unset, .unset] [])) by
      refine own_st (B := (T1.setTop (mkF m 62 #[.val (.int p1), .val (.int p2), .val (.int p3), .val (.int p4), .val (.int p5), .val (.int um), .val (.int (0 : Int32)), .val (.int un), .val (.ref b1), .val (.int (0 : Int32)), .val (.long (0 : Int64)), .second, .unset, .unset, .unset] [(.int um)]))) (fun _ zk => XS.iload X1.here hx rfl (hb hby at_60) rfl zk) ?_
      refine own_st (B := (T1.setTop (mkF m 63 #[.val (.int p1), .val (.int p2), .val (.int p3), .val (.int p4), .val (.int p5), .val (.int um), .val (.int (0 : Int32)), .val (.int un), .val (.ref b1), .val (.int (0 : Int32)), .val (.long (0 : Int64)), .second, .unset, .unset, .unset] [(.int (1 : Int32)), (.int um)]))) (fun _ zk => XS.iconst X1.here hx rfl (hb hby at_62) zk) ?_
      refine own_st (B := (T1.setTop (mkF m 64 #[.val (.int p1), .val (.int p2), .val (.int p3), .val (.int p4), .val (.int p5), .val (.int um), .val (.int (0 : Int32)), .val (.int un), .val (.ref b1), .val (.int (0 : Int32)), .val (.long (0 : Int64)), .second, .unset, .unset, .unset] [(.int (um &&& (1 : Int32)))]))) (fun _ zk => XS.iand X1.here hx rfl (hb hby at_63) rfl zk) ?_
      by_cases cB0 : (um &&& (1 : Int32)) = (0 : Int32)
      · refine own_st (B := (T1.setTop (mkF m 98 #[.val (.int p1), .val (.int p2), .val (.int p3), .val (.int p4), .val (.int p5), .val (.int um), .val (.int (0 : Int32)), .val (.int un), .val (.ref b1), .val (.int (0 : Int32)), .val (.long (0 : Int64)), .second, .unset, .unset, .unset] []))) (fun _ zk => XS.ifYes X1.here hx rfl (pc0 := 64) (pc' := 98) rfl (hb hby at_64) rfl ((if0 _ _).trans (teq cB0).1) (by decide) (by decide) zk) ?_
        have z0 := hpw.2.2.2.mp cB0
        exact KB0 _ _ _ X1 e1 N0 (0 : Int32) (0 : Int64) (fun _ => (0 : Int32)) V0 (by omega) inv0
      · refine own_st (B := (T1.setTop (mkF m 67 #[.val (.int p1), .val (.int p2), .val (.int p3), .val (.int p4), .val (.int p5), .val (.int um), .val (.int (0 : Int32)), .val (.int un), .val (.ref b1), .val (.int (0 : Int32)), .val (.long (0 : Int64)), .second, .unset, .unset, .unset] []))) (fun _ zk => XS.ifNo X1.here hx rfl (hb hby at_64) rfl ((if0 _ _).trans (feq cB0).1) zk) ?_
        refine own_st (B := (T1.setTop (mkF m 69 #[.val (.int p1), .val (.int p2), .val (.int p3), .val (.int p4), .val (.int p5), .val (.int um), .val (.int (0 : Int32)), .val (.int un), .val (.ref b1), .val (.int (0 : Int32)), .val (.long (0 : Int64)), .second, .unset, .unset, .unset] [(.ref b1)]))) (fun _ zk => XS.aload X1.here hx rfl (hb hby at_67) rfl rfl zk) ?_
        refine own_st (B := (T1.setTop (mkF m 71 #[.val (.int p1), .val (.int p2), .val (.int p3), .val (.int p4), .val (.int p5), .val (.int um), .val (.int (0 : Int32)), .val (.int un), .val (.ref b1), .val (.int (0 : Int32)), .val (.long (0 : Int64)), .second, .unset, .unset, .unset] [(.int (0 : Int32)), (.ref b1)]))) (fun _ zk => XS.iload X1.here hx rfl (hb hby at_69) rfl zk) ?_
        refine own_st (B := (T1.setTop (mkF m 84 #[.val (.int p1), .val (.int p2), .val (.int p3), .val (.int p4), .val (.int p5), .val (.int um), .val (.int (0 : Int32)), .val (.int un), .val (.ref b1), .val (.int (0 : Int32)), .val (.long (0 : Int64)), .second, .unset, .unset, .unset] [(.ref b1)]))) (fun _ zk => XS.ifYes X1.here hx rfl (pc0 := 71) (pc' := 84) rfl (hb hby at_71) rfl ((if0 _ _).trans (teq (by decide)).1) (by decide) (by decide) zk) ?_
        refine own_st (B := (T1.setTop (mkF m 86 #[.val (.int p1), .val (.int p2), .val (.int p3), .val (.int p4), .val (.int p5), .val (.int um), .val (.int (0 : Int32)), .val (.int un), .val (.ref b1), .val (.int (0 : Int32)), .val (.long (0 : Int64)), .second, .unset, .unset, .unset] [(.int (0 : Int32)), (.ref b1)]))) (fun _ zk => XS.iload X1.here hx rfl (hb hby at_84) rfl zk) ?_
        refine own_st (B := (T1.setTop (mkF m 87 #[.val (.int p1), .val (.int p2), .val (.int p3), .val (.int p4), .val (.int p5), .val (.int um), .val (.int (0 : Int32)), .val (.int un), .val (.ref b1), .val (.int (0 : Int32)), .val (.long (0 : Int64)), .second, .unset, .unset, .unset] [(.int (0 : Int32)), (.int (0 : Int32)), (.ref b1)]))) (fun _ zk => XS.iconst X1.here hx rfl (hb hby at_86) zk) ?_
        have z0 : ub % 2 = 1 := by
          have q : ¬ (ub % 2 = 0) := fun q => cB0 (hpw.2.2.2.mpr q)
          omega
        have hkn : (0 : Int32).toInt.toNat < nn := by omega
        obtain ⟨T3, h3, X3, e3, W3, V3, st3⟩ := own_stI X1 hx hZ e1 V0 (i := (0 : Int32).toInt.toNat) (by show ((0 : Int32)).toInt.toNat = _; omega) (own_i0 (j := (0 : Int32).toInt.toNat) (by omega)).2 (by omega) (g := (mkF m 87 #[.val (.int p1), .val (.int p2), .val (.int p3), .val (.int p4), .val (.int p5), .val (.int um), .val (.int (0 : Int32)), .val (.int un), .val (.ref b1), .val (.int (0 : Int32)), .val (.long (0 : Int64)), .second, .unset, .unset, .unset] [(.int (0 : Int32)), (.int (0 : Int32)), (.ref b1)])) rfl rfl (hb hby at_87)
        refine own_st (B := (T3.setTop (mkF m 88 #[.val (.int p1), .val (.int p2), .val (.int p3), .val (.int p4), .val (.int p5), .val (.int um), .val (.int (0 : Int32)), .val (.int un), .val (.ref b1), .val (.int (0 : Int32)), .val (.long (0 : Int64)), .second, .unset, .unset, .unset] []))) st3 ?_
        have N3 := Fr.snoc X3 N0 g_b1
        refine own_st (B := (T3.setTop (mkF m 91 #[.val (.int p1), .val (.int p2), .val (.int p3), .val (.int p4), .val (.int p5), .val (.int um), .val (.int (0 : Int32)), .val (.int un), .val (.ref b1), .val (.int ((0 : Int32) + (1 : Int32))), .val (.long (0 : Int64)), .second, .unset, .unset, .unset] []))) (fun _ zk => XS.iinc X3.here hx rfl (hb hby at_88) rfl (l' := #[.val (.int p1), .val (.int p2), .val (.int p3), .val (.int p4), .val (.int p5), .val (.int um), .val (.int (0 : Int32)), .val (.int un), .val (.ref b1), .val (.int ((0 : Int32) + (1 : Int32))), .val (.long (0 : Int64)), .second, .unset, .unset, .unset]) rfl zk) ?_
        refine own_st (B := (T3.setTop (mkF m 93 #[.val (.int p1), .val (.int p2), .val (.int p3), .val (.int p4), .val (.int p5), .val (.int um), .val (.int (0 : Int32)), .val (.int un), .val (.ref b1), .val (.int ((0 : Int32) + (1 : Int32))), .val (.long (0 : Int64)), .second, .unset, .unset, .unset] [(.long (0 : Int64))]))) (fun _ zk => XS.lload X3.here hx rfl (hb hby at_91) rfl zk) ?_
        refine own_st (B := (T3.setTop (mkF m 94 #[.val (.int p1), .val (.int p2), .val (.int p3), .val (.int p4), .val (.int p5), .val (.int um), .val (.int (0 : Int32)), .val (.int un), .val (.ref b1), .val (.int ((0 : Int32) + (1 : Int32))), .val (.long (0 : Int64)), .second, .unset, .unset, .unset] [(.int p2), (.long (0 : Int64))]))) (fun _ zk => XS.iloadN X3.here hx rfl (hb hby at_93) rfl zk) ?_
        refine own_st (B := (T3.setTop (mkF m 95 #[.val (.int p1), .val (.int p2), .val (.int p3), .val (.int p4), .val (.int p5), .val (.int um), .val (.int (0 : Int32)), .val (.int un), .val (.ref b1), .val (.int ((0 : Int32) + (1 : Int32))), .val (.long (0 : Int64)), .second, .unset, .unset, .unset] [(.long (p2.toInt64)), (.long (0 : Int64))]))) (fun _ zk => XS.i2l X3.here hx rfl (hb hby at_94) rfl zk) ?_
        refine own_st (B := (T3.setTop (mkF m 96 #[.val (.int p1), .val (.int p2), .val (.int p3), .val (.int p4), .val (.int p5), .val (.int um), .val (.int (0 : Int32)), .val (.int un), .val (.ref b1), .val (.int ((0 : Int32) + (1 : Int32))), .val (.long (0 : Int64)), .second, .unset, .unset, .unset] [(.long ((0 : Int64) + (p2.toInt64)))]))) (fun _ zk => XS.ladd X3.here hx rfl (hb hby at_95) rfl zk) ?_
        refine own_st (B := (T3.setTop (mkF m 98 #[.val (.int p1), .val (.int p2), .val (.int p3), .val (.int p4), .val (.int p5), .val (.int um), .val (.int (0 : Int32)), .val (.int un), .val (.ref b1), .val (.int ((0 : Int32) + (1 : Int32))), .val (.long ((0 : Int64) + (p2.toInt64))), .second, .unset, .unset, .unset] []))) (fun _ zk => XS.lstore X3.here hx rfl (hb hby at_96) rfl (l' := #[.val (.int p1), .val (.int p2), .val (.int p3), .val (.int p4), .val (.int p5), .val (.int um), .val (.int (0 : Int32)), .val (.int un), .val (.ref b1), .val (.int ((0 : Int32) + (1 : Int32))), .val (.long ((0 : Int64) + (p2.toInt64))), .second, .unset, .unset, .unset]) rfl zk) ?_
        have hka := own_add1 (0 : Int32) (by omega)
        have hsb := own_Sb (W := (own_W p2 p3 p4 p5)) (f := (fun _ => (0 : Int32))) (lo := 0) (own_Wb p2 p3 p4 p5) (0 : Int32).toInt.toNat
        have hse := inv0.2
        have hsa := own_adds (0 : Int64) p2 (by omega)
        have inv' := own_inv_back inv0 (0 : Int32) (by decide) (0 : Int32).toInt.toNat (Nat.zero_add _).symm
        have VN : own_AV Z h3 b1 .int nn (fun i => .int ((fun q => if q = (0 : Int32).toInt.toNat then (0 : Int32) else (fun _ => (0 : Int32)) q) i)) := V3.congr fun i hi => by
          show (if i = (0 : Int32).toInt.toNat then Value.int (0 : Int32) else Value.int ((fun _ => (0 : Int32)) i)) = Value.int (if i = (0 : Int32).toInt.toNat then (0 : Int32) else (fun _ => (0 : Int32)) i)
          by_cases e' : i = (0 : Int32).toInt.toNat
          · rw [if_pos e', if_pos e']
          · rw [if_neg e', if_neg e']
        exact KB0 _ _ _ X3 e3 N3 _ _ _ VN (by omega) (own_castinv inv' (by omega) (by omega) (by rw [hsa, show (own_W p2 p3 p4 p5 (0 : Int32).toInt.toNat).toInt = p2.toInt from c_i2l p2]))
    intro T2 h2 lc2 X2 e2 N2 k1 m1 f1 VK1 hk1 inv1
    suffices KB1 : ∀ (T4 : State) (h4 : Heap) (lc4 : List Loc), Stand p l e room_1 s m #[(.int p1), (.int p2), (.int p3), (.int p4), (.int p5)] below meth c T4 lc4 1 4 → T4.heap = h4 → Fr n0 lc4 → ∀ (k2 : Int32) (m2 : Int64) (f2 : Nat → Int32), own_AV Z h4 b1 .int nn (fun i => .int (f2 i)) → k2.toInt = ub % 2 + (ub / 2) % 2 → own_inv (own_W p2 p3 p4 p5) 0 k2.toInt.toNat m2.toInt f2 → own_Dn p e below (own_Ret s (own_Q0 n0) 16 128) (T4.setTop (mkF m 136 #[.val (.int p1), .val (.int p2), .val (.int p3), .val (.int p4), .val (.int p5), .val (.int um), .val (.int (0 : Int32)), .val (.int un), .val (.ref b1), .val (.int k2), .val (.long m2), .second, .unset, .unset, .unset] [])) by
      refine own_st (B := (T2.setTop (mkF m 100 #[.val (.int p1), .val (.int p2), .val (.int p3), .val (.int p4), .val (.int p5), .val (.int um), .val (.int (0 : Int32)), .val (.int un), .val (.ref b1), .val (.int k1), .val (.long m1), .second, .unset, .unset, .unset] [(.int um)]))) (fun _ zk => XS.iload X2.here hx rfl (hb hby at_98) rfl zk) ?_
      refine own_st (B := (T2.setTop (mkF m 101 #[.val (.int p1), .val (.int p2), .val (.int p3), .val (.int p4), .val (.int p5), .val (.int um), .val (.int (0 : Int32)), .val (.int un), .val (.ref b1), .val (.int k1), .val (.long m1), .second, .unset, .unset, .unset] [(.int (2 : Int32)), (.int um)]))) (fun _ zk => XS.iconst X2.here hx rfl (hb hby at_100) zk) ?_
      refine own_st (B := (T2.setTop (mkF m 102 #[.val (.int p1), .val (.int p2), .val (.int p3), .val (.int p4), .val (.int p5), .val (.int um), .val (.int (0 : Int32)), .val (.int un), .val (.ref b1), .val (.int k1), .val (.long m1), .second, .unset, .unset, .unset] [(.int (um &&& (2 : Int32)))]))) (fun _ zk => XS.iand X2.here hx rfl (hb hby at_101) rfl zk) ?_
      by_cases cB1 : (um &&& (2 : Int32)) = (0 : Int32)
      · refine own_st (B := (T2.setTop (mkF m 136 #[.val (.int p1), .val (.int p2), .val (.int p3), .val (.int p4), .val (.int p5), .val (.int um), .val (.int (0 : Int32)), .val (.int un), .val (.ref b1), .val (.int k1), .val (.long m1), .second, .unset, .unset, .unset] []))) (fun _ zk => XS.ifYes X2.here hx rfl (pc0 := 102) (pc' := 136) rfl (hb hby at_102) rfl ((if0 _ _).trans (teq cB1).1) (by decide) (by decide) zk) ?_
        have z1 := hpw.1.mp cB1
        exact KB1 _ _ _ X2 e2 N2 k1 m1 f1 VK1 (by omega) inv1
      · refine own_st (B := (T2.setTop (mkF m 105 #[.val (.int p1), .val (.int p2), .val (.int p3), .val (.int p4), .val (.int p5), .val (.int um), .val (.int (0 : Int32)), .val (.int un), .val (.ref b1), .val (.int k1), .val (.long m1), .second, .unset, .unset, .unset] []))) (fun _ zk => XS.ifNo X2.here hx rfl (hb hby at_102) rfl ((if0 _ _).trans (feq cB1).1) zk) ?_
        refine own_st (B := (T2.setTop (mkF m 107 #[.val (.int p1), .val (.int p2), .val (.int p3), .val (.int p4), .val (.int p5), .val (.int um), .val (.int (0 : Int32)), .val (.int un), .val (.ref b1), .val (.int k1), .val (.long m1), .second, .unset, .unset, .unset] [(.ref b1)]))) (fun _ zk => XS.aload X2.here hx rfl (hb hby at_105) rfl rfl zk) ?_
        refine own_st (B := (T2.setTop (mkF m 109 #[.val (.int p1), .val (.int p2), .val (.int p3), .val (.int p4), .val (.int p5), .val (.int um), .val (.int (0 : Int32)), .val (.int un), .val (.ref b1), .val (.int k1), .val (.long m1), .second, .unset, .unset, .unset] [(.int (0 : Int32)), (.ref b1)]))) (fun _ zk => XS.iload X2.here hx rfl (hb hby at_107) rfl zk) ?_
        refine own_st (B := (T2.setTop (mkF m 122 #[.val (.int p1), .val (.int p2), .val (.int p3), .val (.int p4), .val (.int p5), .val (.int um), .val (.int (0 : Int32)), .val (.int un), .val (.ref b1), .val (.int k1), .val (.long m1), .second, .unset, .unset, .unset] [(.ref b1)]))) (fun _ zk => XS.ifYes X2.here hx rfl (pc0 := 109) (pc' := 122) rfl (hb hby at_109) rfl ((if0 _ _).trans (teq (by decide)).1) (by decide) (by decide) zk) ?_
        refine own_st (B := (T2.setTop (mkF m 124 #[.val (.int p1), .val (.int p2), .val (.int p3), .val (.int p4), .val (.int p5), .val (.int um), .val (.int (0 : Int32)), .val (.int un), .val (.ref b1), .val (.int k1), .val (.long m1), .second, .unset, .unset, .unset] [(.int k1), (.ref b1)]))) (fun _ zk => XS.iload X2.here hx rfl (hb hby at_122) rfl zk) ?_
        refine own_st (B := (T2.setTop (mkF m 125 #[.val (.int p1), .val (.int p2), .val (.int p3), .val (.int p4), .val (.int p5), .val (.int um), .val (.int (0 : Int32)), .val (.int un), .val (.ref b1), .val (.int k1), .val (.long m1), .second, .unset, .unset, .unset] [(.int (1 : Int32)), (.int k1), (.ref b1)]))) (fun _ zk => XS.iconst X2.here hx rfl (hb hby at_124) zk) ?_
        have z1 : (ub / 2) % 2 = 1 := by
          have q : ¬ ((ub / 2) % 2 = 0) := fun q => cB1 (hpw.1.mpr q)
          omega
        have hkn : k1.toInt.toNat < nn := by omega
        obtain ⟨T5, h5, X5, e5, W5, V5, st5⟩ := own_stI X2 hx hZ e2 VK1 (i := k1.toInt.toNat) (by show (k1).toInt.toNat = _; omega) (own_i0 (j := k1.toInt.toNat) (by omega)).2 (by omega) (g := (mkF m 125 #[.val (.int p1), .val (.int p2), .val (.int p3), .val (.int p4), .val (.int p5), .val (.int um), .val (.int (0 : Int32)), .val (.int un), .val (.ref b1), .val (.int k1), .val (.long m1), .second, .unset, .unset, .unset] [(.int (1 : Int32)), (.int k1), (.ref b1)])) rfl rfl (hb hby at_125)
        refine own_st (B := (T5.setTop (mkF m 126 #[.val (.int p1), .val (.int p2), .val (.int p3), .val (.int p4), .val (.int p5), .val (.int um), .val (.int (0 : Int32)), .val (.int un), .val (.ref b1), .val (.int k1), .val (.long m1), .second, .unset, .unset, .unset] []))) st5 ?_
        have N5 := Fr.snoc X5 N2 g_b1
        refine own_st (B := (T5.setTop (mkF m 129 #[.val (.int p1), .val (.int p2), .val (.int p3), .val (.int p4), .val (.int p5), .val (.int um), .val (.int (0 : Int32)), .val (.int un), .val (.ref b1), .val (.int (k1 + (1 : Int32))), .val (.long m1), .second, .unset, .unset, .unset] []))) (fun _ zk => XS.iinc X5.here hx rfl (hb hby at_126) rfl (l' := #[.val (.int p1), .val (.int p2), .val (.int p3), .val (.int p4), .val (.int p5), .val (.int um), .val (.int (0 : Int32)), .val (.int un), .val (.ref b1), .val (.int (k1 + (1 : Int32))), .val (.long m1), .second, .unset, .unset, .unset]) rfl zk) ?_
        refine own_st (B := (T5.setTop (mkF m 131 #[.val (.int p1), .val (.int p2), .val (.int p3), .val (.int p4), .val (.int p5), .val (.int um), .val (.int (0 : Int32)), .val (.int un), .val (.ref b1), .val (.int (k1 + (1 : Int32))), .val (.long m1), .second, .unset, .unset, .unset] [(.long m1)]))) (fun _ zk => XS.lload X5.here hx rfl (hb hby at_129) rfl zk) ?_
        refine own_st (B := (T5.setTop (mkF m 132 #[.val (.int p1), .val (.int p2), .val (.int p3), .val (.int p4), .val (.int p5), .val (.int um), .val (.int (0 : Int32)), .val (.int un), .val (.ref b1), .val (.int (k1 + (1 : Int32))), .val (.long m1), .second, .unset, .unset, .unset] [(.int p3), (.long m1)]))) (fun _ zk => XS.iloadN X5.here hx rfl (hb hby at_131) rfl zk) ?_
        refine own_st (B := (T5.setTop (mkF m 133 #[.val (.int p1), .val (.int p2), .val (.int p3), .val (.int p4), .val (.int p5), .val (.int um), .val (.int (0 : Int32)), .val (.int un), .val (.ref b1), .val (.int (k1 + (1 : Int32))), .val (.long m1), .second, .unset, .unset, .unset] [(.long (p3.toInt64)), (.long m1)]))) (fun _ zk => XS.i2l X5.here hx rfl (hb hby at_132) rfl zk) ?_
        refine own_st (B := (T5.setTop (mkF m 134 #[.val (.int p1), .val (.int p2), .val (.int p3), .val (.int p4), .val (.int p5), .val (.int um), .val (.int (0 : Int32)), .val (.int un), .val (.ref b1), .val (.int (k1 + (1 : Int32))), .val (.long m1), .second, .unset, .unset, .unset] [(.long (m1 + (p3.toInt64)))]))) (fun _ zk => XS.ladd X5.here hx rfl (hb hby at_133) rfl zk) ?_
        refine own_st (B := (T5.setTop (mkF m 136 #[.val (.int p1), .val (.int p2), .val (.int p3), .val (.int p4), .val (.int p5), .val (.int um), .val (.int (0 : Int32)), .val (.int un), .val (.ref b1), .val (.int (k1 + (1 : Int32))), .val (.long (m1 + (p3.toInt64))), .second, .unset, .unset, .unset] []))) (fun _ zk => XS.lstore X5.here hx rfl (hb hby at_134) rfl (l' := #[.val (.int p1), .val (.int p2), .val (.int p3), .val (.int p4), .val (.int p5), .val (.int um), .val (.int (0 : Int32)), .val (.int un), .val (.ref b1), .val (.int (k1 + (1 : Int32))), .val (.long (m1 + (p3.toInt64))), .second, .unset, .unset, .unset]) rfl zk) ?_
        have hka := own_add1 k1 (by omega)
        have hsb := own_Sb (W := (own_W p2 p3 p4 p5)) (f := f1) (lo := 0) (own_Wb p2 p3 p4 p5) k1.toInt.toNat
        have hse := inv1.2
        have hsa := own_adds m1 p3 (by omega)
        have inv' := own_inv_back inv1 (1 : Int32) (by decide) k1.toInt.toNat (Nat.zero_add _).symm
        have VN : own_AV Z h5 b1 .int nn (fun i => .int ((fun q => if q = k1.toInt.toNat then (1 : Int32) else f1 q) i)) := V5.congr fun i hi => by
          show (if i = k1.toInt.toNat then Value.int (1 : Int32) else Value.int (f1 i)) = Value.int (if i = k1.toInt.toNat then (1 : Int32) else f1 i)
          by_cases e' : i = k1.toInt.toNat
          · rw [if_pos e', if_pos e']
          · rw [if_neg e', if_neg e']
        exact KB1 _ _ _ X5 e5 N5 _ _ _ VN (by omega) (own_castinv inv' (by omega) (by omega) (by rw [hsa, show (own_W p2 p3 p4 p5 (1 : Int32).toInt.toNat).toInt = p3.toInt from c_i2l p3]))
    intro T4 h4 lc4 X4 e4 N4 k2 m2 f2 VK2 hk2 inv2
    suffices KB2 : ∀ (T6 : State) (h6 : Heap) (lc6 : List Loc), Stand p l e room_1 s m #[(.int p1), (.int p2), (.int p3), (.int p4), (.int p5)] below meth c T6 lc6 1 4 → T6.heap = h6 → Fr n0 lc6 → ∀ (k3 : Int32) (m3 : Int64) (f3 : Nat → Int32), own_AV Z h6 b1 .int nn (fun i => .int (f3 i)) → k3.toInt = ub % 2 + (ub / 2) % 2 + (ub / 4) % 2 → own_inv (own_W p2 p3 p4 p5) 0 k3.toInt.toNat m3.toInt f3 → own_Dn p e below (own_Ret s (own_Q0 n0) 16 128) (T6.setTop (mkF m 174 #[.val (.int p1), .val (.int p2), .val (.int p3), .val (.int p4), .val (.int p5), .val (.int um), .val (.int (0 : Int32)), .val (.int un), .val (.ref b1), .val (.int k3), .val (.long m3), .second, .unset, .unset, .unset] [])) by
      refine own_st (B := (T4.setTop (mkF m 138 #[.val (.int p1), .val (.int p2), .val (.int p3), .val (.int p4), .val (.int p5), .val (.int um), .val (.int (0 : Int32)), .val (.int un), .val (.ref b1), .val (.int k2), .val (.long m2), .second, .unset, .unset, .unset] [(.int um)]))) (fun _ zk => XS.iload X4.here hx rfl (hb hby at_136) rfl zk) ?_
      refine own_st (B := (T4.setTop (mkF m 139 #[.val (.int p1), .val (.int p2), .val (.int p3), .val (.int p4), .val (.int p5), .val (.int um), .val (.int (0 : Int32)), .val (.int un), .val (.ref b1), .val (.int k2), .val (.long m2), .second, .unset, .unset, .unset] [(.int (4 : Int32)), (.int um)]))) (fun _ zk => XS.iconst X4.here hx rfl (hb hby at_138) zk) ?_
      refine own_st (B := (T4.setTop (mkF m 140 #[.val (.int p1), .val (.int p2), .val (.int p3), .val (.int p4), .val (.int p5), .val (.int um), .val (.int (0 : Int32)), .val (.int un), .val (.ref b1), .val (.int k2), .val (.long m2), .second, .unset, .unset, .unset] [(.int (um &&& (4 : Int32)))]))) (fun _ zk => XS.iand X4.here hx rfl (hb hby at_139) rfl zk) ?_
      by_cases cB2 : (um &&& (4 : Int32)) = (0 : Int32)
      · refine own_st (B := (T4.setTop (mkF m 174 #[.val (.int p1), .val (.int p2), .val (.int p3), .val (.int p4), .val (.int p5), .val (.int um), .val (.int (0 : Int32)), .val (.int un), .val (.ref b1), .val (.int k2), .val (.long m2), .second, .unset, .unset, .unset] []))) (fun _ zk => XS.ifYes X4.here hx rfl (pc0 := 140) (pc' := 174) rfl (hb hby at_140) rfl ((if0 _ _).trans (teq cB2).1) (by decide) (by decide) zk) ?_
        have z2 := hpw.2.1.mp cB2
        exact KB2 _ _ _ X4 e4 N4 k2 m2 f2 VK2 (by omega) inv2
      · refine own_st (B := (T4.setTop (mkF m 143 #[.val (.int p1), .val (.int p2), .val (.int p3), .val (.int p4), .val (.int p5), .val (.int um), .val (.int (0 : Int32)), .val (.int un), .val (.ref b1), .val (.int k2), .val (.long m2), .second, .unset, .unset, .unset] []))) (fun _ zk => XS.ifNo X4.here hx rfl (hb hby at_140) rfl ((if0 _ _).trans (feq cB2).1) zk) ?_
        refine own_st (B := (T4.setTop (mkF m 145 #[.val (.int p1), .val (.int p2), .val (.int p3), .val (.int p4), .val (.int p5), .val (.int um), .val (.int (0 : Int32)), .val (.int un), .val (.ref b1), .val (.int k2), .val (.long m2), .second, .unset, .unset, .unset] [(.ref b1)]))) (fun _ zk => XS.aload X4.here hx rfl (hb hby at_143) rfl rfl zk) ?_
        refine own_st (B := (T4.setTop (mkF m 147 #[.val (.int p1), .val (.int p2), .val (.int p3), .val (.int p4), .val (.int p5), .val (.int um), .val (.int (0 : Int32)), .val (.int un), .val (.ref b1), .val (.int k2), .val (.long m2), .second, .unset, .unset, .unset] [(.int (0 : Int32)), (.ref b1)]))) (fun _ zk => XS.iload X4.here hx rfl (hb hby at_145) rfl zk) ?_
        refine own_st (B := (T4.setTop (mkF m 160 #[.val (.int p1), .val (.int p2), .val (.int p3), .val (.int p4), .val (.int p5), .val (.int um), .val (.int (0 : Int32)), .val (.int un), .val (.ref b1), .val (.int k2), .val (.long m2), .second, .unset, .unset, .unset] [(.ref b1)]))) (fun _ zk => XS.ifYes X4.here hx rfl (pc0 := 147) (pc' := 160) rfl (hb hby at_147) rfl ((if0 _ _).trans (teq (by decide)).1) (by decide) (by decide) zk) ?_
        refine own_st (B := (T4.setTop (mkF m 162 #[.val (.int p1), .val (.int p2), .val (.int p3), .val (.int p4), .val (.int p5), .val (.int um), .val (.int (0 : Int32)), .val (.int un), .val (.ref b1), .val (.int k2), .val (.long m2), .second, .unset, .unset, .unset] [(.int k2), (.ref b1)]))) (fun _ zk => XS.iload X4.here hx rfl (hb hby at_160) rfl zk) ?_
        refine own_st (B := (T4.setTop (mkF m 163 #[.val (.int p1), .val (.int p2), .val (.int p3), .val (.int p4), .val (.int p5), .val (.int um), .val (.int (0 : Int32)), .val (.int un), .val (.ref b1), .val (.int k2), .val (.long m2), .second, .unset, .unset, .unset] [(.int (2 : Int32)), (.int k2), (.ref b1)]))) (fun _ zk => XS.iconst X4.here hx rfl (hb hby at_162) zk) ?_
        have z2 : (ub / 4) % 2 = 1 := by
          have q : ¬ ((ub / 4) % 2 = 0) := fun q => cB2 (hpw.2.1.mpr q)
          omega
        have hkn : k2.toInt.toNat < nn := by omega
        obtain ⟨T7, h7, X7, e7, W7, V7, st7⟩ := own_stI X4 hx hZ e4 VK2 (i := k2.toInt.toNat) (by show (k2).toInt.toNat = _; omega) (own_i0 (j := k2.toInt.toNat) (by omega)).2 (by omega) (g := (mkF m 163 #[.val (.int p1), .val (.int p2), .val (.int p3), .val (.int p4), .val (.int p5), .val (.int um), .val (.int (0 : Int32)), .val (.int un), .val (.ref b1), .val (.int k2), .val (.long m2), .second, .unset, .unset, .unset] [(.int (2 : Int32)), (.int k2), (.ref b1)])) rfl rfl (hb hby at_163)
        refine own_st (B := (T7.setTop (mkF m 164 #[.val (.int p1), .val (.int p2), .val (.int p3), .val (.int p4), .val (.int p5), .val (.int um), .val (.int (0 : Int32)), .val (.int un), .val (.ref b1), .val (.int k2), .val (.long m2), .second, .unset, .unset, .unset] []))) st7 ?_
        have N7 := Fr.snoc X7 N4 g_b1
        refine own_st (B := (T7.setTop (mkF m 167 #[.val (.int p1), .val (.int p2), .val (.int p3), .val (.int p4), .val (.int p5), .val (.int um), .val (.int (0 : Int32)), .val (.int un), .val (.ref b1), .val (.int (k2 + (1 : Int32))), .val (.long m2), .second, .unset, .unset, .unset] []))) (fun _ zk => XS.iinc X7.here hx rfl (hb hby at_164) rfl (l' := #[.val (.int p1), .val (.int p2), .val (.int p3), .val (.int p4), .val (.int p5), .val (.int um), .val (.int (0 : Int32)), .val (.int un), .val (.ref b1), .val (.int (k2 + (1 : Int32))), .val (.long m2), .second, .unset, .unset, .unset]) rfl zk) ?_
        refine own_st (B := (T7.setTop (mkF m 169 #[.val (.int p1), .val (.int p2), .val (.int p3), .val (.int p4), .val (.int p5), .val (.int um), .val (.int (0 : Int32)), .val (.int un), .val (.ref b1), .val (.int (k2 + (1 : Int32))), .val (.long m2), .second, .unset, .unset, .unset] [(.long m2)]))) (fun _ zk => XS.lload X7.here hx rfl (hb hby at_167) rfl zk) ?_
        refine own_st (B := (T7.setTop (mkF m 170 #[.val (.int p1), .val (.int p2), .val (.int p3), .val (.int p4), .val (.int p5), .val (.int um), .val (.int (0 : Int32)), .val (.int un), .val (.ref b1), .val (.int (k2 + (1 : Int32))), .val (.long m2), .second, .unset, .unset, .unset] [(.int p4), (.long m2)]))) (fun _ zk => XS.iloadN X7.here hx rfl (hb hby at_169) rfl zk) ?_
        refine own_st (B := (T7.setTop (mkF m 171 #[.val (.int p1), .val (.int p2), .val (.int p3), .val (.int p4), .val (.int p5), .val (.int um), .val (.int (0 : Int32)), .val (.int un), .val (.ref b1), .val (.int (k2 + (1 : Int32))), .val (.long m2), .second, .unset, .unset, .unset] [(.long (p4.toInt64)), (.long m2)]))) (fun _ zk => XS.i2l X7.here hx rfl (hb hby at_170) rfl zk) ?_
        refine own_st (B := (T7.setTop (mkF m 172 #[.val (.int p1), .val (.int p2), .val (.int p3), .val (.int p4), .val (.int p5), .val (.int um), .val (.int (0 : Int32)), .val (.int un), .val (.ref b1), .val (.int (k2 + (1 : Int32))), .val (.long m2), .second, .unset, .unset, .unset] [(.long (m2 + (p4.toInt64)))]))) (fun _ zk => XS.ladd X7.here hx rfl (hb hby at_171) rfl zk) ?_
        refine own_st (B := (T7.setTop (mkF m 174 #[.val (.int p1), .val (.int p2), .val (.int p3), .val (.int p4), .val (.int p5), .val (.int um), .val (.int (0 : Int32)), .val (.int un), .val (.ref b1), .val (.int (k2 + (1 : Int32))), .val (.long (m2 + (p4.toInt64))), .second, .unset, .unset, .unset] []))) (fun _ zk => XS.lstore X7.here hx rfl (hb hby at_172) rfl (l' := #[.val (.int p1), .val (.int p2), .val (.int p3), .val (.int p4), .val (.int p5), .val (.int um), .val (.int (0 : Int32)), .val (.int un), .val (.ref b1), .val (.int (k2 + (1 : Int32))), .val (.long (m2 + (p4.toInt64))), .second, .unset, .unset, .unset]) rfl zk) ?_
        have hka := own_add1 k2 (by omega)
        have hsb := own_Sb (W := (own_W p2 p3 p4 p5)) (f := f2) (lo := 0) (own_Wb p2 p3 p4 p5) k2.toInt.toNat
        have hse := inv2.2
        have hsa := own_adds m2 p4 (by omega)
        have inv' := own_inv_back inv2 (2 : Int32) (by decide) k2.toInt.toNat (Nat.zero_add _).symm
        have VN : own_AV Z h7 b1 .int nn (fun i => .int ((fun q => if q = k2.toInt.toNat then (2 : Int32) else f2 q) i)) := V7.congr fun i hi => by
          show (if i = k2.toInt.toNat then Value.int (2 : Int32) else Value.int (f2 i)) = Value.int (if i = k2.toInt.toNat then (2 : Int32) else f2 i)
          by_cases e' : i = k2.toInt.toNat
          · rw [if_pos e', if_pos e']
          · rw [if_neg e', if_neg e']
        exact KB2 _ _ _ X7 e7 N7 _ _ _ VN (by omega) (own_castinv inv' (by omega) (by omega) (by rw [hsa, show (own_W p2 p3 p4 p5 (2 : Int32).toInt.toNat).toInt = p4.toInt from c_i2l p4]))
    intro T6 h6 lc6 X6 e6 N6 k3 m3 f3 VK3 hk3 inv3
    suffices KB3 : ∀ (T8 : State) (h8 : Heap) (lc8 : List Loc), Stand p l e room_1 s m #[(.int p1), (.int p2), (.int p3), (.int p4), (.int p5)] below meth c T8 lc8 1 4 → T8.heap = h8 → Fr n0 lc8 → ∀ (k4 : Int32) (m4 : Int64) (f4 : Nat → Int32), own_AV Z h8 b1 .int nn (fun i => .int (f4 i)) → k4.toInt = ub % 2 + (ub / 2) % 2 + (ub / 4) % 2 + (ub / 8) % 2 → own_inv (own_W p2 p3 p4 p5) 0 k4.toInt.toNat m4.toInt f4 → own_Dn p e below (own_Ret s (own_Q0 n0) 16 128) (T8.setTop (mkF m 214 #[.val (.int p1), .val (.int p2), .val (.int p3), .val (.int p4), .val (.int p5), .val (.int um), .val (.int (0 : Int32)), .val (.int un), .val (.ref b1), .val (.int k4), .val (.long m4), .second, .unset, .unset, .unset] [])) by
      refine own_st (B := (T6.setTop (mkF m 176 #[.val (.int p1), .val (.int p2), .val (.int p3), .val (.int p4), .val (.int p5), .val (.int um), .val (.int (0 : Int32)), .val (.int un), .val (.ref b1), .val (.int k3), .val (.long m3), .second, .unset, .unset, .unset] [(.int um)]))) (fun _ zk => XS.iload X6.here hx rfl (hb hby at_174) rfl zk) ?_
      refine own_st (B := (T6.setTop (mkF m 178 #[.val (.int p1), .val (.int p2), .val (.int p3), .val (.int p4), .val (.int p5), .val (.int um), .val (.int (0 : Int32)), .val (.int un), .val (.ref b1), .val (.int k3), .val (.long m3), .second, .unset, .unset, .unset] [(.int (8 : Int32)), (.int um)]))) (fun _ zk => XS.bipush X6.here hx rfl (hb hby at_176) zk) ?_
      refine own_st (B := (T6.setTop (mkF m 179 #[.val (.int p1), .val (.int p2), .val (.int p3), .val (.int p4), .val (.int p5), .val (.int um), .val (.int (0 : Int32)), .val (.int un), .val (.ref b1), .val (.int k3), .val (.long m3), .second, .unset, .unset, .unset] [(.int (um &&& (8 : Int32)))]))) (fun _ zk => XS.iand X6.here hx rfl (hb hby at_178) rfl zk) ?_
      by_cases cB3 : (um &&& (8 : Int32)) = (0 : Int32)
      · refine own_st (B := (T6.setTop (mkF m 214 #[.val (.int p1), .val (.int p2), .val (.int p3), .val (.int p4), .val (.int p5), .val (.int um), .val (.int (0 : Int32)), .val (.int un), .val (.ref b1), .val (.int k3), .val (.long m3), .second, .unset, .unset, .unset] []))) (fun _ zk => XS.ifYes X6.here hx rfl (pc0 := 179) (pc' := 214) rfl (hb hby at_179) rfl ((if0 _ _).trans (teq cB3).1) (by decide) (by decide) zk) ?_
        have z3 := hpw.2.2.1.mp cB3
        exact KB3 _ _ _ X6 e6 N6 k3 m3 f3 VK3 (by omega) inv3
      · refine own_st (B := (T6.setTop (mkF m 182 #[.val (.int p1), .val (.int p2), .val (.int p3), .val (.int p4), .val (.int p5), .val (.int um), .val (.int (0 : Int32)), .val (.int un), .val (.ref b1), .val (.int k3), .val (.long m3), .second, .unset, .unset, .unset] []))) (fun _ zk => XS.ifNo X6.here hx rfl (hb hby at_179) rfl ((if0 _ _).trans (feq cB3).1) zk) ?_
        refine own_st (B := (T6.setTop (mkF m 184 #[.val (.int p1), .val (.int p2), .val (.int p3), .val (.int p4), .val (.int p5), .val (.int um), .val (.int (0 : Int32)), .val (.int un), .val (.ref b1), .val (.int k3), .val (.long m3), .second, .unset, .unset, .unset] [(.ref b1)]))) (fun _ zk => XS.aload X6.here hx rfl (hb hby at_182) rfl rfl zk) ?_
        refine own_st (B := (T6.setTop (mkF m 186 #[.val (.int p1), .val (.int p2), .val (.int p3), .val (.int p4), .val (.int p5), .val (.int um), .val (.int (0 : Int32)), .val (.int un), .val (.ref b1), .val (.int k3), .val (.long m3), .second, .unset, .unset, .unset] [(.int (0 : Int32)), (.ref b1)]))) (fun _ zk => XS.iload X6.here hx rfl (hb hby at_184) rfl zk) ?_
        refine own_st (B := (T6.setTop (mkF m 199 #[.val (.int p1), .val (.int p2), .val (.int p3), .val (.int p4), .val (.int p5), .val (.int um), .val (.int (0 : Int32)), .val (.int un), .val (.ref b1), .val (.int k3), .val (.long m3), .second, .unset, .unset, .unset] [(.ref b1)]))) (fun _ zk => XS.ifYes X6.here hx rfl (pc0 := 186) (pc' := 199) rfl (hb hby at_186) rfl ((if0 _ _).trans (teq (by decide)).1) (by decide) (by decide) zk) ?_
        refine own_st (B := (T6.setTop (mkF m 201 #[.val (.int p1), .val (.int p2), .val (.int p3), .val (.int p4), .val (.int p5), .val (.int um), .val (.int (0 : Int32)), .val (.int un), .val (.ref b1), .val (.int k3), .val (.long m3), .second, .unset, .unset, .unset] [(.int k3), (.ref b1)]))) (fun _ zk => XS.iload X6.here hx rfl (hb hby at_199) rfl zk) ?_
        refine own_st (B := (T6.setTop (mkF m 202 #[.val (.int p1), .val (.int p2), .val (.int p3), .val (.int p4), .val (.int p5), .val (.int um), .val (.int (0 : Int32)), .val (.int un), .val (.ref b1), .val (.int k3), .val (.long m3), .second, .unset, .unset, .unset] [(.int (3 : Int32)), (.int k3), (.ref b1)]))) (fun _ zk => XS.iconst X6.here hx rfl (hb hby at_201) zk) ?_
        have z3 : (ub / 8) % 2 = 1 := by
          have q : ¬ ((ub / 8) % 2 = 0) := fun q => cB3 (hpw.2.2.1.mpr q)
          omega
        have hkn : k3.toInt.toNat < nn := by omega
        obtain ⟨T9, h9, X9, e9, W9, V9, st9⟩ := own_stI X6 hx hZ e6 VK3 (i := k3.toInt.toNat) (by show (k3).toInt.toNat = _; omega) (own_i0 (j := k3.toInt.toNat) (by omega)).2 (by omega) (g := (mkF m 202 #[.val (.int p1), .val (.int p2), .val (.int p3), .val (.int p4), .val (.int p5), .val (.int um), .val (.int (0 : Int32)), .val (.int un), .val (.ref b1), .val (.int k3), .val (.long m3), .second, .unset, .unset, .unset] [(.int (3 : Int32)), (.int k3), (.ref b1)])) rfl rfl (hb hby at_202)
        refine own_st (B := (T9.setTop (mkF m 203 #[.val (.int p1), .val (.int p2), .val (.int p3), .val (.int p4), .val (.int p5), .val (.int um), .val (.int (0 : Int32)), .val (.int un), .val (.ref b1), .val (.int k3), .val (.long m3), .second, .unset, .unset, .unset] []))) st9 ?_
        have N9 := Fr.snoc X9 N6 g_b1
        refine own_st (B := (T9.setTop (mkF m 206 #[.val (.int p1), .val (.int p2), .val (.int p3), .val (.int p4), .val (.int p5), .val (.int um), .val (.int (0 : Int32)), .val (.int un), .val (.ref b1), .val (.int (k3 + (1 : Int32))), .val (.long m3), .second, .unset, .unset, .unset] []))) (fun _ zk => XS.iinc X9.here hx rfl (hb hby at_203) rfl (l' := #[.val (.int p1), .val (.int p2), .val (.int p3), .val (.int p4), .val (.int p5), .val (.int um), .val (.int (0 : Int32)), .val (.int un), .val (.ref b1), .val (.int (k3 + (1 : Int32))), .val (.long m3), .second, .unset, .unset, .unset]) rfl zk) ?_
        refine own_st (B := (T9.setTop (mkF m 208 #[.val (.int p1), .val (.int p2), .val (.int p3), .val (.int p4), .val (.int p5), .val (.int um), .val (.int (0 : Int32)), .val (.int un), .val (.ref b1), .val (.int (k3 + (1 : Int32))), .val (.long m3), .second, .unset, .unset, .unset] [(.long m3)]))) (fun _ zk => XS.lload X9.here hx rfl (hb hby at_206) rfl zk) ?_
        refine own_st (B := (T9.setTop (mkF m 210 #[.val (.int p1), .val (.int p2), .val (.int p3), .val (.int p4), .val (.int p5), .val (.int um), .val (.int (0 : Int32)), .val (.int un), .val (.ref b1), .val (.int (k3 + (1 : Int32))), .val (.long m3), .second, .unset, .unset, .unset] [(.int p5), (.long m3)]))) (fun _ zk => XS.iload X9.here hx rfl (hb hby at_208) rfl zk) ?_
        refine own_st (B := (T9.setTop (mkF m 211 #[.val (.int p1), .val (.int p2), .val (.int p3), .val (.int p4), .val (.int p5), .val (.int um), .val (.int (0 : Int32)), .val (.int un), .val (.ref b1), .val (.int (k3 + (1 : Int32))), .val (.long m3), .second, .unset, .unset, .unset] [(.long (p5.toInt64)), (.long m3)]))) (fun _ zk => XS.i2l X9.here hx rfl (hb hby at_210) rfl zk) ?_
        refine own_st (B := (T9.setTop (mkF m 212 #[.val (.int p1), .val (.int p2), .val (.int p3), .val (.int p4), .val (.int p5), .val (.int um), .val (.int (0 : Int32)), .val (.int un), .val (.ref b1), .val (.int (k3 + (1 : Int32))), .val (.long m3), .second, .unset, .unset, .unset] [(.long (m3 + (p5.toInt64)))]))) (fun _ zk => XS.ladd X9.here hx rfl (hb hby at_211) rfl zk) ?_
        refine own_st (B := (T9.setTop (mkF m 214 #[.val (.int p1), .val (.int p2), .val (.int p3), .val (.int p4), .val (.int p5), .val (.int um), .val (.int (0 : Int32)), .val (.int un), .val (.ref b1), .val (.int (k3 + (1 : Int32))), .val (.long (m3 + (p5.toInt64))), .second, .unset, .unset, .unset] []))) (fun _ zk => XS.lstore X9.here hx rfl (hb hby at_212) rfl (l' := #[.val (.int p1), .val (.int p2), .val (.int p3), .val (.int p4), .val (.int p5), .val (.int um), .val (.int (0 : Int32)), .val (.int un), .val (.ref b1), .val (.int (k3 + (1 : Int32))), .val (.long (m3 + (p5.toInt64))), .second, .unset, .unset, .unset]) rfl zk) ?_
        have hka := own_add1 k3 (by omega)
        have hsb := own_Sb (W := (own_W p2 p3 p4 p5)) (f := f3) (lo := 0) (own_Wb p2 p3 p4 p5) k3.toInt.toNat
        have hse := inv3.2
        have hsa := own_adds m3 p5 (by omega)
        have inv' := own_inv_back inv3 (3 : Int32) (by decide) k3.toInt.toNat (Nat.zero_add _).symm
        have VN : own_AV Z h9 b1 .int nn (fun i => .int ((fun q => if q = k3.toInt.toNat then (3 : Int32) else f3 q) i)) := V9.congr fun i hi => by
          show (if i = k3.toInt.toNat then Value.int (3 : Int32) else Value.int (f3 i)) = Value.int (if i = k3.toInt.toNat then (3 : Int32) else f3 i)
          by_cases e' : i = k3.toInt.toNat
          · rw [if_pos e', if_pos e']
          · rw [if_neg e', if_neg e']
        exact KB3 _ _ _ X9 e9 N9 _ _ _ VN (by omega) (own_castinv inv' (by omega) (by omega) (by rw [hsa, show (own_W p2 p3 p4 p5 (3 : Int32).toInt.toNat).toInt = p5.toInt from c_i2l p5]))
    intro T8 h8 lc8 X8 e8 N8 k4 m4 f4 VK4 hk4 inv4
    have ZK : n0 ≤ h8.size := Nat.le_of_lt (Nat.lt_of_le_of_lt g_b1 VK4.lt)
    refine own_st (B := (T8.setTop (mkF m 215 #[.val (.int p1), .val (.int p2), .val (.int p3), .val (.int p4), .val (.int p5), .val (.int um), .val (.int (0 : Int32)), .val (.int un), .val (.ref b1), .val (.int k4), .val (.long m4), .second, .unset, .unset, .unset] [(.int (4 : Int32))]))) (fun _ zk => XS.iconst X8.here hx rfl (hb hby at_214) zk) ?_
    obtain ⟨T10, h10, k10, X10, e10, E10, A10, st10⟩ := newP X8 hx hZ (hw _ (List.mem_of_getElem? (i := 1) rfl)) e8 (g := (mkF m 215 #[.val (.int p1), .val (.int p2), .val (.int p3), .val (.int p4), .val (.int p5), .val (.int um), .val (.int (0 : Int32)), .val (.int un), .val (.ref b1), .val (.int k4), .val (.long m4), .second, .unset, .unset, .unset] [(.int (4 : Int32))])) rfl (hb hby at_215) rfl (by decide) (cap := 4) (by decide) (by decide) (by decide) (by decide)
    obtain ⟨b10, g10⟩ : ∃ z, z = h8.size := ⟨_, rfl⟩
    rw [← g10] at A10 st10
    have g_b10 : n0 ≤ b10 := Nat.le_trans ZK (Nat.le_of_eq g10.symm)
    have Z10 : n0 ≤ h10.size := Nat.le_trans ZK E10.1
    refine own_st (B := (T10.setTop (mkF m 217 #[.val (.int p1), .val (.int p2), .val (.int p3), .val (.int p4), .val (.int p5), .val (.int um), .val (.int (0 : Int32)), .val (.int un), .val (.ref b1), .val (.int k4), .val (.long m4), .second, .unset, .unset, .unset] [(.ref b10)]))) st10 ?_
    have D0 : own_AV Z h10 b10 .double 4 (fun _ => defaultValue .double) := own_AV.new A10 (by decide)
    have nxy : b1 ≠ b10 := Nat.ne_of_lt (Nat.lt_of_lt_of_le VK4.lt (Nat.le_of_eq g10.symm))
    refine own_st (B := (T10.setTop (mkF m 219 #[.val (.int p1), .val (.int p2), .val (.int p3), .val (.int p4), .val (.int p5), .val (.int um), .val (.int (0 : Int32)), .val (.int un), .val (.ref b1), .val (.int k4), .val (.long m4), .second, .val (.ref b10), .unset, .unset] []))) (fun _ zk => XS.astore X10.here hx rfl (hb hby at_217) rfl rfl (l' := #[.val (.int p1), .val (.int p2), .val (.int p3), .val (.int p4), .val (.int p5), .val (.int um), .val (.int (0 : Int32)), .val (.int un), .val (.ref b1), .val (.int k4), .val (.long m4), .second, .val (.ref b10), .unset, .unset]) rfl zk) ?_
    refine own_st (B := (T10.setTop (mkF m 221 #[.val (.int p1), .val (.int p2), .val (.int p3), .val (.int p4), .val (.int p5), .val (.int um), .val (.int (0 : Int32)), .val (.int un), .val (.ref b1), .val (.int k4), .val (.long m4), .second, .val (.ref b10), .unset, .unset] [(.ref b10)]))) (fun _ zk => XS.aload X10.here hx rfl (hb hby at_219) rfl rfl zk) ?_
    refine own_st (B := (T10.setTop (mkF m 222 #[.val (.int p1), .val (.int p2), .val (.int p3), .val (.int p4), .val (.int p5), .val (.int um), .val (.int (0 : Int32)), .val (.int un), .val (.ref b1), .val (.int k4), .val (.long m4), .second, .val (.ref b10), .unset, .unset] [(.int (0 : Int32)), (.ref b10)]))) (fun _ zk => XS.iconst X10.here hx rfl (hb hby at_221) zk) ?_
    refine own_st (B := (T10.setTop (mkF m 223 #[.val (.int p1), .val (.int p2), .val (.int p3), .val (.int p4), .val (.int p5), .val (.int um), .val (.int (0 : Int32)), .val (.int un), .val (.ref b1), .val (.int k4), .val (.long m4), .second, .val (.ref b10), .unset, .unset] [(.int p2), (.int (0 : Int32)), (.ref b10)]))) (fun _ zk => XS.iloadN X10.here hx rfl (hb hby at_222) rfl zk) ?_
    refine own_st (B := (T10.setTop (mkF m 224 #[.val (.int p1), .val (.int p2), .val (.int p3), .val (.int p4), .val (.int p5), .val (.int um), .val (.int (0 : Int32)), .val (.int un), .val (.ref b1), .val (.int k4), .val (.long m4), .second, .val (.ref b10), .unset, .unset] [(.double (FP.l2d p2.toInt64)), (.int (0 : Int32)), (.ref b10)]))) (fun _ zk => XS.i2dS X10.here hx rfl (hb hby at_223) rfl (i2d_w _) zk) ?_
    obtain ⟨T11, h11, X11, e11, W11, V11, st11⟩ := own_stD X10 hx hZ e10 D0 (i := 0) (by decide) (by decide) (by decide) (g := (mkF m 224 #[.val (.int p1), .val (.int p2), .val (.int p3), .val (.int p4), .val (.int p5), .val (.int um), .val (.int (0 : Int32)), .val (.int un), .val (.ref b1), .val (.int k4), .val (.long m4), .second, .val (.ref b10), .unset, .unset] [(.double (FP.l2d p2.toInt64)), (.int (0 : Int32)), (.ref b10)])) rfl rfl (hb hby at_224)
    refine own_st (B := (T11.setTop (mkF m 225 #[.val (.int p1), .val (.int p2), .val (.int p3), .val (.int p4), .val (.int p5), .val (.int um), .val (.int (0 : Int32)), .val (.int un), .val (.ref b1), .val (.int k4), .val (.long m4), .second, .val (.ref b10), .unset, .unset] []))) st11 ?_
    have N11 := Fr.snoc X11 N8 g_b10
    refine own_st (B := (T11.setTop (mkF m 227 #[.val (.int p1), .val (.int p2), .val (.int p3), .val (.int p4), .val (.int p5), .val (.int um), .val (.int (0 : Int32)), .val (.int un), .val (.ref b1), .val (.int k4), .val (.long m4), .second, .val (.ref b10), .unset, .unset] [(.ref b10)]))) (fun _ zk => XS.aload X11.here hx rfl (hb hby at_225) rfl rfl zk) ?_
    refine own_st (B := (T11.setTop (mkF m 228 #[.val (.int p1), .val (.int p2), .val (.int p3), .val (.int p4), .val (.int p5), .val (.int um), .val (.int (0 : Int32)), .val (.int un), .val (.ref b1), .val (.int k4), .val (.long m4), .second, .val (.ref b10), .unset, .unset] [(.int (1 : Int32)), (.ref b10)]))) (fun _ zk => XS.iconst X11.here hx rfl (hb hby at_227) zk) ?_
    refine own_st (B := (T11.setTop (mkF m 229 #[.val (.int p1), .val (.int p2), .val (.int p3), .val (.int p4), .val (.int p5), .val (.int um), .val (.int (0 : Int32)), .val (.int un), .val (.ref b1), .val (.int k4), .val (.long m4), .second, .val (.ref b10), .unset, .unset] [(.int p3), (.int (1 : Int32)), (.ref b10)]))) (fun _ zk => XS.iloadN X11.here hx rfl (hb hby at_228) rfl zk) ?_
    refine own_st (B := (T11.setTop (mkF m 230 #[.val (.int p1), .val (.int p2), .val (.int p3), .val (.int p4), .val (.int p5), .val (.int um), .val (.int (0 : Int32)), .val (.int un), .val (.ref b1), .val (.int k4), .val (.long m4), .second, .val (.ref b10), .unset, .unset] [(.double (FP.l2d p3.toInt64)), (.int (1 : Int32)), (.ref b10)]))) (fun _ zk => XS.i2dS X11.here hx rfl (hb hby at_229) rfl (i2d_w _) zk) ?_
    obtain ⟨T12, h12, X12, e12, W12, V12, st12⟩ := own_stD X11 hx hZ e11 V11 (i := 1) (by decide) (by decide) (by decide) (g := (mkF m 230 #[.val (.int p1), .val (.int p2), .val (.int p3), .val (.int p4), .val (.int p5), .val (.int um), .val (.int (0 : Int32)), .val (.int un), .val (.ref b1), .val (.int k4), .val (.long m4), .second, .val (.ref b10), .unset, .unset] [(.double (FP.l2d p3.toInt64)), (.int (1 : Int32)), (.ref b10)])) rfl rfl (hb hby at_230)
    refine own_st (B := (T12.setTop (mkF m 231 #[.val (.int p1), .val (.int p2), .val (.int p3), .val (.int p4), .val (.int p5), .val (.int um), .val (.int (0 : Int32)), .val (.int un), .val (.ref b1), .val (.int k4), .val (.long m4), .second, .val (.ref b10), .unset, .unset] []))) st12 ?_
    have N12 := Fr.snoc X12 N11 g_b10
    refine own_st (B := (T12.setTop (mkF m 233 #[.val (.int p1), .val (.int p2), .val (.int p3), .val (.int p4), .val (.int p5), .val (.int um), .val (.int (0 : Int32)), .val (.int un), .val (.ref b1), .val (.int k4), .val (.long m4), .second, .val (.ref b10), .unset, .unset] [(.ref b10)]))) (fun _ zk => XS.aload X12.here hx rfl (hb hby at_231) rfl rfl zk) ?_
    refine own_st (B := (T12.setTop (mkF m 234 #[.val (.int p1), .val (.int p2), .val (.int p3), .val (.int p4), .val (.int p5), .val (.int um), .val (.int (0 : Int32)), .val (.int un), .val (.ref b1), .val (.int k4), .val (.long m4), .second, .val (.ref b10), .unset, .unset] [(.int (2 : Int32)), (.ref b10)]))) (fun _ zk => XS.iconst X12.here hx rfl (hb hby at_233) zk) ?_
    refine own_st (B := (T12.setTop (mkF m 235 #[.val (.int p1), .val (.int p2), .val (.int p3), .val (.int p4), .val (.int p5), .val (.int um), .val (.int (0 : Int32)), .val (.int un), .val (.ref b1), .val (.int k4), .val (.long m4), .second, .val (.ref b10), .unset, .unset] [(.int p4), (.int (2 : Int32)), (.ref b10)]))) (fun _ zk => XS.iloadN X12.here hx rfl (hb hby at_234) rfl zk) ?_
    refine own_st (B := (T12.setTop (mkF m 236 #[.val (.int p1), .val (.int p2), .val (.int p3), .val (.int p4), .val (.int p5), .val (.int um), .val (.int (0 : Int32)), .val (.int un), .val (.ref b1), .val (.int k4), .val (.long m4), .second, .val (.ref b10), .unset, .unset] [(.double (FP.l2d p4.toInt64)), (.int (2 : Int32)), (.ref b10)]))) (fun _ zk => XS.i2dS X12.here hx rfl (hb hby at_235) rfl (i2d_w _) zk) ?_
    obtain ⟨T13, h13, X13, e13, W13, V13, st13⟩ := own_stD X12 hx hZ e12 V12 (i := 2) (by decide) (by decide) (by decide) (g := (mkF m 236 #[.val (.int p1), .val (.int p2), .val (.int p3), .val (.int p4), .val (.int p5), .val (.int um), .val (.int (0 : Int32)), .val (.int un), .val (.ref b1), .val (.int k4), .val (.long m4), .second, .val (.ref b10), .unset, .unset] [(.double (FP.l2d p4.toInt64)), (.int (2 : Int32)), (.ref b10)])) rfl rfl (hb hby at_236)
    refine own_st (B := (T13.setTop (mkF m 237 #[.val (.int p1), .val (.int p2), .val (.int p3), .val (.int p4), .val (.int p5), .val (.int um), .val (.int (0 : Int32)), .val (.int un), .val (.ref b1), .val (.int k4), .val (.long m4), .second, .val (.ref b10), .unset, .unset] []))) st13 ?_
    have N13 := Fr.snoc X13 N12 g_b10
    refine own_st (B := (T13.setTop (mkF m 239 #[.val (.int p1), .val (.int p2), .val (.int p3), .val (.int p4), .val (.int p5), .val (.int um), .val (.int (0 : Int32)), .val (.int un), .val (.ref b1), .val (.int k4), .val (.long m4), .second, .val (.ref b10), .unset, .unset] [(.ref b10)]))) (fun _ zk => XS.aload X13.here hx rfl (hb hby at_237) rfl rfl zk) ?_
    refine own_st (B := (T13.setTop (mkF m 240 #[.val (.int p1), .val (.int p2), .val (.int p3), .val (.int p4), .val (.int p5), .val (.int um), .val (.int (0 : Int32)), .val (.int un), .val (.ref b1), .val (.int k4), .val (.long m4), .second, .val (.ref b10), .unset, .unset] [(.int (3 : Int32)), (.ref b10)]))) (fun _ zk => XS.iconst X13.here hx rfl (hb hby at_239) zk) ?_
    refine own_st (B := (T13.setTop (mkF m 242 #[.val (.int p1), .val (.int p2), .val (.int p3), .val (.int p4), .val (.int p5), .val (.int um), .val (.int (0 : Int32)), .val (.int un), .val (.ref b1), .val (.int k4), .val (.long m4), .second, .val (.ref b10), .unset, .unset] [(.int p5), (.int (3 : Int32)), (.ref b10)]))) (fun _ zk => XS.iload X13.here hx rfl (hb hby at_240) rfl zk) ?_
    refine own_st (B := (T13.setTop (mkF m 243 #[.val (.int p1), .val (.int p2), .val (.int p3), .val (.int p4), .val (.int p5), .val (.int um), .val (.int (0 : Int32)), .val (.int un), .val (.ref b1), .val (.int k4), .val (.long m4), .second, .val (.ref b10), .unset, .unset] [(.double (FP.l2d p5.toInt64)), (.int (3 : Int32)), (.ref b10)]))) (fun _ zk => XS.i2dS X13.here hx rfl (hb hby at_242) rfl (i2d_w _) zk) ?_
    obtain ⟨T14, h14, X14, e14, W14, V14, st14⟩ := own_stD X13 hx hZ e13 V13 (i := 3) (by decide) (by decide) (by decide) (g := (mkF m 243 #[.val (.int p1), .val (.int p2), .val (.int p3), .val (.int p4), .val (.int p5), .val (.int um), .val (.int (0 : Int32)), .val (.int un), .val (.ref b1), .val (.int k4), .val (.long m4), .second, .val (.ref b10), .unset, .unset] [(.double (FP.l2d p5.toInt64)), (.int (3 : Int32)), (.ref b10)])) rfl rfl (hb hby at_243)
    refine own_st (B := (T14.setTop (mkF m 244 #[.val (.int p1), .val (.int p2), .val (.int p3), .val (.int p4), .val (.int p5), .val (.int um), .val (.int (0 : Int32)), .val (.int un), .val (.ref b1), .val (.int k4), .val (.long m4), .second, .val (.ref b10), .unset, .unset] []))) st14 ?_
    have N14 := Fr.snoc X14 N13 g_b10
    have VF := (((((VK4.ext E10).other W11 nxy).other W12 nxy).other W13 nxy).other W14 nxy)
    have VG : own_AV Z h14 b10 .double 4 (fun i => .double (FP.l2d ((own_W p2 p3 p4 p5) i))) := V14.congr fun i hi => by
      have hi' : i = 0 ∨ i = 1 ∨ i = 2 ∨ i = 3 := by omega
      rcases hi' with rfl | rfl | rfl | rfl <;> rfl
    have hkn : k4.toInt.toNat = nn := by omega
    rw [hkn] at inv4
    obtain ⟨hf4, hs4⟩ := inv4
    simp only [Nat.sub_self, Nat.zero_add] at hf4 hs4
    refine own_st (B := (T14.setTop (mkF m 246 #[.val (.int p1), .val (.int p2), .val (.int p3), .val (.int p4), .val (.int p5), .val (.int um), .val (.int (0 : Int32)), .val (.int un), .val (.ref b1), .val (.int k4), .val (.long m4), .second, .val (.ref b10), .unset, .unset] [(.ref b1)]))) (fun _ zk => XS.aload X14.here hx rfl (hb hby at_244) rfl rfl zk) ?_
    refine own_st (B := (T14.setTop (mkF m 248 #[.val (.int p1), .val (.int p2), .val (.int p3), .val (.int p4), .val (.int p5), .val (.int um), .val (.int (0 : Int32)), .val (.int un), .val (.ref b1), .val (.int k4), .val (.long m4), .second, .val (.ref b10), .unset, .unset] [(.ref b10), (.ref b1)]))) (fun _ zk => XS.aload X14.here hx rfl (hb hby at_246) rfl rfl zk) ?_
    obtain ⟨v15, T15, L15, X15, Q15, st15⟩ := own_callS (W := 0) X14 hx hZ (y := (⟨"com/example/parley/parley/ConflictGraph", "weightOf", "([I[D)D"⟩ : MethodName)) hown (hw _ (List.mem_of_getElem? (i := 2) rfl)) (hw _ (List.mem_of_getElem? (i := 3) rfl)) (hw _ (List.mem_of_getElem? (i := 4) rfl)) (hw _ (List.mem_of_getElem? (i := 5) rfl)) (by decide) e14 (rm_wo l Z a0 hw [] b1 b10 un nn f4 (own_W p2 p3 p4 p5) m4 h14 VF VG hnn (by omega) (fun i hi => hf4 i (Nat.zero_le _) hi) (own_Wb p2 p3 p4 p5) hs4.symm) (g := (mkF m 248 #[.val (.int p1), .val (.int p2), .val (.int p3), .val (.int p4), .val (.int p5), .val (.int um), .val (.int (0 : Int32)), .val (.int un), .val (.ref b1), .val (.int k4), .val (.long m4), .second, .val (.ref b10), .unset, .unset] [(.ref b10), (.ref b1)])) rfl (by rw [hml]; rfl) (argsL := [(.ref b1), (.ref b10)]) (rest := []) (lenOf pd_0 rfl) rfl rfl (by show 2 * 0 + _ ≤ _; exact Nat.le_of_eq rfl) (hb hby at_248) (by decide) (by decide) (by decide) (by decide)
    obtain ⟨rfl, rfl, q15⟩ := Q15
    refine own_st (B := (T15.setTop (mkF m 251 #[.val (.int p1), .val (.int p2), .val (.int p3), .val (.int p4), .val (.int p5), .val (.int um), .val (.int (0 : Int32)), .val (.int un), .val (.ref b1), .val (.int k4), .val (.long m4), .second, .val (.ref b10), .unset, .unset] [(.double (FP.l2d m4))]))) st15 ?_
    refine own_st (B := (T15.setTop (mkF m 253 #[.val (.int p1), .val (.int p2), .val (.int p3), .val (.int p4), .val (.int p5), .val (.int um), .val (.int (0 : Int32)), .val (.int un), .val (.ref b1), .val (.int k4), .val (.long m4), .second, .val (.ref b10), .val (.double (FP.l2d m4)), .second] []))) (fun _ zk => XS.dstore X15.here hx rfl (hb hby at_251) rfl (l' := #[.val (.int p1), .val (.int p2), .val (.int p3), .val (.int p4), .val (.int p5), .val (.int um), .val (.int (0 : Int32)), .val (.int un), .val (.ref b1), .val (.int k4), .val (.long m4), .second, .val (.ref b10), .val (.double (FP.l2d m4)), .second]) rfl zk) ?_
    refine own_st (B := (T15.setTop (mkF m 255 #[.val (.int p1), .val (.int p2), .val (.int p3), .val (.int p4), .val (.int p5), .val (.int um), .val (.int (0 : Int32)), .val (.int un), .val (.ref b1), .val (.int k4), .val (.long m4), .second, .val (.ref b10), .val (.double (FP.l2d m4)), .second] [(.double (FP.l2d m4))]))) (fun _ zk => XS.dload X15.here hx rfl (hb hby at_253) rfl zk) ?_
    refine own_st (B := (T15.setTop (mkF m 257 #[.val (.int p1), .val (.int p2), .val (.int p3), .val (.int p4), .val (.int p5), .val (.int um), .val (.int (0 : Int32)), .val (.int un), .val (.ref b1), .val (.int k4), .val (.long m4), .second, .val (.ref b10), .val (.double (FP.l2d m4)), .second] [(.long m4), (.double (FP.l2d m4))]))) (fun _ zk => XS.lload X15.here hx rfl (hb hby at_255) rfl zk) ?_
    refine own_st (B := (T15.setTop (mkF m 258 #[.val (.int p1), .val (.int p2), .val (.int p3), .val (.int p4), .val (.int p5), .val (.int um), .val (.int (0 : Int32)), .val (.int un), .val (.ref b1), .val (.int k4), .val (.long m4), .second, .val (.ref b10), .val (.double (FP.l2d m4)), .second] [(.double (FP.l2d m4)), (.double (FP.l2d m4))]))) (fun _ zk => XS.l2dS X15.here hx rfl (hb hby at_257) rfl rfl zk) ?_
    refine own_st (B := (T15.setTop (mkF m 259 #[.val (.int p1), .val (.int p2), .val (.int p3), .val (.int p4), .val (.int p5), .val (.int um), .val (.int (0 : Int32)), .val (.int un), .val (.ref b1), .val (.int k4), .val (.long m4), .second, .val (.ref b10), .val (.double (FP.l2d m4)), .second] [(.int (0 : Int32))]))) (fun _ zk => XS.dcmpS X15.here hx rfl (hb hby at_258) rfl (dcmpV_self (nn_w rfl) _) zk) ?_
    refine own_st (B := (T15.setTop (mkF m 262 #[.val (.int p1), .val (.int p2), .val (.int p3), .val (.int p4), .val (.int p5), .val (.int um), .val (.int (0 : Int32)), .val (.int un), .val (.ref b1), .val (.int k4), .val (.long m4), .second, .val (.ref b10), .val (.double (FP.l2d m4)), .second] []))) (fun _ zk => XS.ifNo X15.here hx rfl (hb hby at_259) rfl ((if0 _ _).trans (teq (by decide)).2) zk) ?_
    refine own_st (B := (T15.setTop (mkF m 263 #[.val (.int p1), .val (.int p2), .val (.int p3), .val (.int p4), .val (.int p5), .val (.int um), .val (.int (0 : Int32)), .val (.int un), .val (.ref b1), .val (.int k4), .val (.long m4), .second, .val (.ref b10), .val (.double (FP.l2d m4)), .second] [(.int (1 : Int32))]))) (fun _ zk => XS.iconst X15.here hx rfl (hb hby at_262) zk) ?_
    refine own_st (B := (T15.setTop (mkF m 267 #[.val (.int p1), .val (.int p2), .val (.int p3), .val (.int p4), .val (.int p5), .val (.int um), .val (.int (0 : Int32)), .val (.int un), .val (.ref b1), .val (.int k4), .val (.long m4), .second, .val (.ref b10), .val (.double (FP.l2d m4)), .second] [(.int (1 : Int32))]))) (fun _ zk => XS.goto X15.here hx rfl (pc0 := 263) (pc' := 267) rfl (hb hby at_263) (by decide) (by decide) zk) ?_
    exact own_retN X15 hx hlk (t := .boolean) hret (by simp) (hb hby at_267) (by show own_Q0 n0 _ T15.heap _; rw [q15]; exact ⟨rfl, by simpa using N14⟩) (by decide) (by decide)
  · refine own_st (B := (s₁.setTop (mkF m 14 #[.val (.int p1), .val (.int p2), .val (.int p3), .val (.int p4), .val (.int p5), .val (.int um), .unset, .unset, .unset, .unset, .unset, .unset, .unset, .unset, .unset] []))) (fun _ zk => XS.ifNo X0.here hx rfl (hb hby at_11) rfl ((if0 _ _).trans (feq cR).1) zk) ?_
    refine own_st (B := (s₁.setTop (mkF m 15 #[.val (.int p1), .val (.int p2), .val (.int p3), .val (.int p4), .val (.int p5), .val (.int um), .unset, .unset, .unset, .unset, .unset, .unset, .unset, .unset, .unset] [(.int (1 : Int32))]))) (fun _ zk => XS.iconst X0.here hx rfl (hb hby at_14) zk) ?_
    refine own_st (B := (s₁.setTop (mkF m 19 #[.val (.int p1), .val (.int p2), .val (.int p3), .val (.int p4), .val (.int p5), .val (.int um), .unset, .unset, .unset, .unset, .unset, .unset, .unset, .unset, .unset] [(.int (1 : Int32))]))) (fun _ zk => XS.goto X0.here hx rfl (pc0 := 15) (pc' := 19) rfl (hb hby at_15) (by decide) (by decide) zk) ?_
    refine own_st (B := (s₁.setTop (mkF m 21 #[.val (.int p1), .val (.int p2), .val (.int p3), .val (.int p4), .val (.int p5), .val (.int um), .val (.int (1 : Int32)), .unset, .unset, .unset, .unset, .unset, .unset, .unset, .unset] []))) (fun _ zk => XS.istore X0.here hx rfl (hb hby at_19) rfl (l' := #[.val (.int p1), .val (.int p2), .val (.int p3), .val (.int p4), .val (.int p5), .val (.int um), .val (.int (1 : Int32)), .unset, .unset, .unset, .unset, .unset, .unset, .unset, .unset]) rfl zk) ?_
    refine own_st (B := (s₁.setTop (mkF m 23 #[.val (.int p1), .val (.int p2), .val (.int p3), .val (.int p4), .val (.int p5), .val (.int um), .val (.int (1 : Int32)), .unset, .unset, .unset, .unset, .unset, .unset, .unset, .unset] [(.int um)]))) (fun _ zk => XS.iload X0.here hx rfl (hb hby at_21) rfl zk) ?_
    refine own_st (B := (s₁.setTop (mkF m 24 #[.val (.int p1), .val (.int p2), .val (.int p3), .val (.int p4), .val (.int p5), .val (.int um), .val (.int (1 : Int32)), .unset, .unset, .unset, .unset, .unset, .unset, .unset, .unset] [(.int (1 : Int32)), (.int um)]))) (fun _ zk => XS.iconst X0.here hx rfl (hb hby at_23) zk) ?_
    refine own_st (B := (s₁.setTop (mkF m 25 #[.val (.int p1), .val (.int p2), .val (.int p3), .val (.int p4), .val (.int p5), .val (.int um), .val (.int (1 : Int32)), .unset, .unset, .unset, .unset, .unset, .unset, .unset, .unset] [(.int (um &&& (1 : Int32)))]))) (fun _ zk => XS.iand X0.here hx rfl (hb hby at_24) rfl zk) ?_
    refine own_st (B := (s₁.setTop (mkF m 27 #[.val (.int p1), .val (.int p2), .val (.int p3), .val (.int p4), .val (.int p5), .val (.int um), .val (.int (1 : Int32)), .unset, .unset, .unset, .unset, .unset, .unset, .unset, .unset] [(.int um), (.int (um &&& (1 : Int32)))]))) (fun _ zk => XS.iload X0.here hx rfl (hb hby at_25) rfl zk) ?_
    refine own_st (B := (s₁.setTop (mkF m 28 #[.val (.int p1), .val (.int p2), .val (.int p3), .val (.int p4), .val (.int p5), .val (.int um), .val (.int (1 : Int32)), .unset, .unset, .unset, .unset, .unset, .unset, .unset, .unset] [(.int (1 : Int32)), (.int um), (.int (um &&& (1 : Int32)))]))) (fun _ zk => XS.iconst X0.here hx rfl (hb hby at_27) zk) ?_
    refine own_st (B := (s₁.setTop (mkF m 29 #[.val (.int p1), .val (.int p2), .val (.int p3), .val (.int p4), .val (.int p5), .val (.int um), .val (.int (1 : Int32)), .unset, .unset, .unset, .unset, .unset, .unset, .unset, .unset] [(.int (um >>> ((1 : Int32) &&& 31))), (.int (um &&& (1 : Int32)))]))) (fun _ zk => XS.ishr X0.here hx rfl (hb hby at_28) rfl zk) ?_
    refine own_st (B := (s₁.setTop (mkF m 30 #[.val (.int p1), .val (.int p2), .val (.int p3), .val (.int p4), .val (.int p5), .val (.int um), .val (.int (1 : Int32)), .unset, .unset, .unset, .unset, .unset, .unset, .unset, .unset] [(.int (1 : Int32)), (.int (um >>> ((1 : Int32) &&& 31))), (.int (um &&& (1 : Int32)))]))) (fun _ zk => XS.iconst X0.here hx rfl (hb hby at_29) zk) ?_
    refine own_st (B := (s₁.setTop (mkF m 31 #[.val (.int p1), .val (.int p2), .val (.int p3), .val (.int p4), .val (.int p5), .val (.int um), .val (.int (1 : Int32)), .unset, .unset, .unset, .unset, .unset, .unset, .unset, .unset] [(.int ((um >>> ((1 : Int32) &&& 31)) &&& (1 : Int32))), (.int (um &&& (1 : Int32)))]))) (fun _ zk => XS.iand X0.here hx rfl (hb hby at_30) rfl zk) ?_
    refine own_st (B := (s₁.setTop (mkF m 32 #[.val (.int p1), .val (.int p2), .val (.int p3), .val (.int p4), .val (.int p5), .val (.int um), .val (.int (1 : Int32)), .unset, .unset, .unset, .unset, .unset, .unset, .unset, .unset] [(.int ((um &&& (1 : Int32)) + ((um >>> ((1 : Int32) &&& 31)) &&& (1 : Int32))))]))) (fun _ zk => XS.iadd X0.here hx rfl (hb hby at_31) rfl zk) ?_
    refine own_st (B := (s₁.setTop (mkF m 34 #[.val (.int p1), .val (.int p2), .val (.int p3), .val (.int p4), .val (.int p5), .val (.int um), .val (.int (1 : Int32)), .unset, .unset, .unset, .unset, .unset, .unset, .unset, .unset] [(.int um), (.int ((um &&& (1 : Int32)) + ((um >>> ((1 : Int32) &&& 31)) &&& (1 : Int32))))]))) (fun _ zk => XS.iload X0.here hx rfl (hb hby at_32) rfl zk) ?_
    refine own_st (B := (s₁.setTop (mkF m 35 #[.val (.int p1), .val (.int p2), .val (.int p3), .val (.int p4), .val (.int p5), .val (.int um), .val (.int (1 : Int32)), .unset, .unset, .unset, .unset, .unset, .unset, .unset, .unset] [(.int (2 : Int32)), (.int um), (.int ((um &&& (1 : Int32)) + ((um >>> ((1 : Int32) &&& 31)) &&& (1 : Int32))))]))) (fun _ zk => XS.iconst X0.here hx rfl (hb hby at_34) zk) ?_
    refine own_st (B := (s₁.setTop (mkF m 36 #[.val (.int p1), .val (.int p2), .val (.int p3), .val (.int p4), .val (.int p5), .val (.int um), .val (.int (1 : Int32)), .unset, .unset, .unset, .unset, .unset, .unset, .unset, .unset] [(.int (um >>> ((2 : Int32) &&& 31))), (.int ((um &&& (1 : Int32)) + ((um >>> ((1 : Int32) &&& 31)) &&& (1 : Int32))))]))) (fun _ zk => XS.ishr X0.here hx rfl (hb hby at_35) rfl zk) ?_
    refine own_st (B := (s₁.setTop (mkF m 37 #[.val (.int p1), .val (.int p2), .val (.int p3), .val (.int p4), .val (.int p5), .val (.int um), .val (.int (1 : Int32)), .unset, .unset, .unset, .unset, .unset, .unset, .unset, .unset] [(.int (1 : Int32)), (.int (um >>> ((2 : Int32) &&& 31))), (.int ((um &&& (1 : Int32)) + ((um >>> ((1 : Int32) &&& 31)) &&& (1 : Int32))))]))) (fun _ zk => XS.iconst X0.here hx rfl (hb hby at_36) zk) ?_
    refine own_st (B := (s₁.setTop (mkF m 38 #[.val (.int p1), .val (.int p2), .val (.int p3), .val (.int p4), .val (.int p5), .val (.int um), .val (.int (1 : Int32)), .unset, .unset, .unset, .unset, .unset, .unset, .unset, .unset] [(.int ((um >>> ((2 : Int32) &&& 31)) &&& (1 : Int32))), (.int ((um &&& (1 : Int32)) + ((um >>> ((1 : Int32) &&& 31)) &&& (1 : Int32))))]))) (fun _ zk => XS.iand X0.here hx rfl (hb hby at_37) rfl zk) ?_
    refine own_st (B := (s₁.setTop (mkF m 39 #[.val (.int p1), .val (.int p2), .val (.int p3), .val (.int p4), .val (.int p5), .val (.int um), .val (.int (1 : Int32)), .unset, .unset, .unset, .unset, .unset, .unset, .unset, .unset] [(.int (((um &&& (1 : Int32)) + ((um >>> ((1 : Int32) &&& 31)) &&& (1 : Int32))) + ((um >>> ((2 : Int32) &&& 31)) &&& (1 : Int32))))]))) (fun _ zk => XS.iadd X0.here hx rfl (hb hby at_38) rfl zk) ?_
    refine own_st (B := (s₁.setTop (mkF m 41 #[.val (.int p1), .val (.int p2), .val (.int p3), .val (.int p4), .val (.int p5), .val (.int um), .val (.int (1 : Int32)), .unset, .unset, .unset, .unset, .unset, .unset, .unset, .unset] [(.int um), (.int (((um &&& (1 : Int32)) + ((um >>> ((1 : Int32) &&& 31)) &&& (1 : Int32))) + ((um >>> ((2 : Int32) &&& 31)) &&& (1 : Int32))))]))) (fun _ zk => XS.iload X0.here hx rfl (hb hby at_39) rfl zk) ?_
    refine own_st (B := (s₁.setTop (mkF m 42 #[.val (.int p1), .val (.int p2), .val (.int p3), .val (.int p4), .val (.int p5), .val (.int um), .val (.int (1 : Int32)), .unset, .unset, .unset, .unset, .unset, .unset, .unset, .unset] [(.int (3 : Int32)), (.int um), (.int (((um &&& (1 : Int32)) + ((um >>> ((1 : Int32) &&& 31)) &&& (1 : Int32))) + ((um >>> ((2 : Int32) &&& 31)) &&& (1 : Int32))))]))) (fun _ zk => XS.iconst X0.here hx rfl (hb hby at_41) zk) ?_
    refine own_st (B := (s₁.setTop (mkF m 43 #[.val (.int p1), .val (.int p2), .val (.int p3), .val (.int p4), .val (.int p5), .val (.int um), .val (.int (1 : Int32)), .unset, .unset, .unset, .unset, .unset, .unset, .unset, .unset] [(.int (um >>> ((3 : Int32) &&& 31))), (.int (((um &&& (1 : Int32)) + ((um >>> ((1 : Int32) &&& 31)) &&& (1 : Int32))) + ((um >>> ((2 : Int32) &&& 31)) &&& (1 : Int32))))]))) (fun _ zk => XS.ishr X0.here hx rfl (hb hby at_42) rfl zk) ?_
    refine own_st (B := (s₁.setTop (mkF m 44 #[.val (.int p1), .val (.int p2), .val (.int p3), .val (.int p4), .val (.int p5), .val (.int um), .val (.int (1 : Int32)), .unset, .unset, .unset, .unset, .unset, .unset, .unset, .unset] [(.int (1 : Int32)), (.int (um >>> ((3 : Int32) &&& 31))), (.int (((um &&& (1 : Int32)) + ((um >>> ((1 : Int32) &&& 31)) &&& (1 : Int32))) + ((um >>> ((2 : Int32) &&& 31)) &&& (1 : Int32))))]))) (fun _ zk => XS.iconst X0.here hx rfl (hb hby at_43) zk) ?_
    refine own_st (B := (s₁.setTop (mkF m 45 #[.val (.int p1), .val (.int p2), .val (.int p3), .val (.int p4), .val (.int p5), .val (.int um), .val (.int (1 : Int32)), .unset, .unset, .unset, .unset, .unset, .unset, .unset, .unset] [(.int ((um >>> ((3 : Int32) &&& 31)) &&& (1 : Int32))), (.int (((um &&& (1 : Int32)) + ((um >>> ((1 : Int32) &&& 31)) &&& (1 : Int32))) + ((um >>> ((2 : Int32) &&& 31)) &&& (1 : Int32))))]))) (fun _ zk => XS.iand X0.here hx rfl (hb hby at_44) rfl zk) ?_
    refine own_st (B := (s₁.setTop (mkF m 46 #[.val (.int p1), .val (.int p2), .val (.int p3), .val (.int p4), .val (.int p5), .val (.int um), .val (.int (1 : Int32)), .unset, .unset, .unset, .unset, .unset, .unset, .unset, .unset] [(.int ((((um &&& (1 : Int32)) + ((um >>> ((1 : Int32) &&& 31)) &&& (1 : Int32))) + ((um >>> ((2 : Int32) &&& 31)) &&& (1 : Int32))) + ((um >>> ((3 : Int32) &&& 31)) &&& (1 : Int32))))]))) (fun _ zk => XS.iadd X0.here hx rfl (hb hby at_45) rfl zk) ?_
    refine own_st (B := (s₁.setTop (mkF m 48 #[.val (.int p1), .val (.int p2), .val (.int p3), .val (.int p4), .val (.int p5), .val (.int um), .val (.int (1 : Int32)), .val (.int ((((um &&& (1 : Int32)) + ((um >>> ((1 : Int32) &&& 31)) &&& (1 : Int32))) + ((um >>> ((2 : Int32) &&& 31)) &&& (1 : Int32))) + ((um >>> ((3 : Int32) &&& 31)) &&& (1 : Int32)))), .unset, .unset, .unset, .unset, .unset, .unset, .unset] []))) (fun _ zk => XS.istore X0.here hx rfl (hb hby at_46) rfl (l' := #[.val (.int p1), .val (.int p2), .val (.int p3), .val (.int p4), .val (.int p5), .val (.int um), .val (.int (1 : Int32)), .val (.int ((((um &&& (1 : Int32)) + ((um >>> ((1 : Int32) &&& 31)) &&& (1 : Int32))) + ((um >>> ((2 : Int32) &&& 31)) &&& (1 : Int32))) + ((um >>> ((3 : Int32) &&& 31)) &&& (1 : Int32)))), .unset, .unset, .unset, .unset, .unset, .unset, .unset]) rfl zk) ?_
    have hu := own_cnt um hm.1 hm.2
    have hpw := own_pow um hm.1 hm.2
    generalize ((((um &&& (1 : Int32)) + ((um >>> ((1 : Int32) &&& 31)) &&& (1 : Int32))) + ((um >>> ((2 : Int32) &&& 31)) &&& (1 : Int32))) + ((um >>> ((3 : Int32) &&& 31)) &&& (1 : Int32))) = un at *
    obtain ⟨ub, hub⟩ : ∃ ub, um.toInt = ub := ⟨_, rfl⟩
    rw [hub] at hm hu hpw
    obtain ⟨nn, hnn⟩ : ∃ nn : Nat, un.toInt = nn := ⟨un.toInt.toNat, by omega⟩
    refine own_st (B := (s₁.setTop (mkF m 50 #[.val (.int p1), .val (.int p2), .val (.int p3), .val (.int p4), .val (.int p5), .val (.int um), .val (.int (1 : Int32)), .val (.int un), .unset, .unset, .unset, .unset, .unset, .unset, .unset] [(.int un)]))) (fun _ zk => XS.iload X0.here hx rfl (hb hby at_48) rfl zk) ?_
    obtain ⟨T16, h16, k16, X16, e16, E16, A16, st16⟩ := newP X0 hx hZ (hw _ (List.mem_of_getElem? (i := 0) rfl)) e0 (g := (mkF m 50 #[.val (.int p1), .val (.int p2), .val (.int p3), .val (.int p4), .val (.int p5), .val (.int um), .val (.int (1 : Int32)), .val (.int un), .unset, .unset, .unset, .unset, .unset, .unset, .unset] [(.int un)])) rfl (hb hby at_50) rfl (own_i0 hnn).2 (cap := 4) (by rw [(own_i0 hnn).1]; omega) (by decide) (by decide) (by decide)
    obtain ⟨b16, g16⟩ : ∃ z, z = h0.size := ⟨_, rfl⟩
    rw [← g16] at A16 st16
    have g_b16 : n0 ≤ b16 := Nat.le_trans Z0 (Nat.le_of_eq g16.symm)
    have Z16 : n0 ≤ h16.size := Nat.le_trans Z0 E16.1
    refine own_st (B := (T16.setTop (mkF m 52 #[.val (.int p1), .val (.int p2), .val (.int p3), .val (.int p4), .val (.int p5), .val (.int um), .val (.int (1 : Int32)), .val (.int un), .unset, .unset, .unset, .unset, .unset, .unset, .unset] [(.ref b16)]))) st16 ?_
    have V0 : own_AV Z h16 b16 .int nn (fun i => .int ((fun _ => (0 : Int32)) i)) := own_AV.new A16 (own_i0 hnn).1
    refine own_st (B := (T16.setTop (mkF m 54 #[.val (.int p1), .val (.int p2), .val (.int p3), .val (.int p4), .val (.int p5), .val (.int um), .val (.int (1 : Int32)), .val (.int un), .val (.ref b16), .unset, .unset, .unset, .unset, .unset, .unset] []))) (fun _ zk => XS.astore X16.here hx rfl (hb hby at_52) rfl rfl (l' := #[.val (.int p1), .val (.int p2), .val (.int p3), .val (.int p4), .val (.int p5), .val (.int um), .val (.int (1 : Int32)), .val (.int un), .val (.ref b16), .unset, .unset, .unset, .unset, .unset, .unset]) rfl zk) ?_
    refine own_st (B := (T16.setTop (mkF m 55 #[.val (.int p1), .val (.int p2), .val (.int p3), .val (.int p4), .val (.int p5), .val (.int um), .val (.int (1 : Int32)), .val (.int un), .val (.ref b16), .unset, .unset, .unset, .unset, .unset, .unset] [(.int (0 : Int32))]))) (fun _ zk => XS.iconst X16.here hx rfl (hb hby at_54) zk) ?_
    refine own_st (B := (T16.setTop (mkF m 57 #[.val (.int p1), .val (.int p2), .val (.int p3), .val (.int p4), .val (.int p5), .val (.int um), .val (.int (1 : Int32)), .val (.int un), .val (.ref b16), .val (.int (0 : Int32)), .unset, .unset, .unset, .unset, .unset] []))) (fun _ zk => XS.istore X16.here hx rfl (hb hby at_55) rfl (l' := #[.val (.int p1), .val (.int p2), .val (.int p3), .val (.int p4), .val (.int p5), .val (.int um), .val (.int (1 : Int32)), .val (.int un), .val (.ref b16), .val (.int (0 : Int32)), .unset, .unset, .unset, .unset, .unset]) rfl zk) ?_
    refine own_st (B := (T16.setTop (mkF m 58 #[.val (.int p1), .val (.int p2), .val (.int p3), .val (.int p4), .val (.int p5), .val (.int um), .val (.int (1 : Int32)), .val (.int un), .val (.ref b16), .val (.int (0 : Int32)), .unset, .unset, .unset, .unset, .unset] [(.long (0 : Int64))]))) (fun _ zk => XS.lconst X16.here hx rfl (hb hby at_57) zk) ?_
    refine own_st (B := (T16.setTop (mkF m 60 #[.val (.int p1), .val (.int p2), .val (.int p3), .val (.int p4), .val (.int p5), .val (.int um), .val (.int (1 : Int32)), .val (.int un), .val (.ref b16), .val (.int (0 : Int32)), .val (.long (0 : Int64)), .second, .unset, .unset, .unset] []))) (fun _ zk => XS.lstore X16.here hx rfl (hb hby at_58) rfl (l' := #[.val (.int p1), .val (.int p2), .val (.int p3), .val (.int p4), .val (.int p5), .val (.int um), .val (.int (1 : Int32)), .val (.int un), .val (.ref b16), .val (.int (0 : Int32)), .val (.long (0 : Int64)), .second, .unset, .unset, .unset]) rfl zk) ?_
    have inv0 : own_inv (own_W p2 p3 p4 p5) (nn - (0 : Int32).toInt.toNat) (0 : Int32).toInt.toNat (0 : Int64).toInt (fun _ => (0 : Int32)) := ⟨fun i q1 q2 => absurd q2 (by show ¬ i < _ + 0; omega), rfl⟩
    have hz64 : (0 : Int64).toInt = 0 := by decide
    have kz0 : (0 : Int32).toInt = 0 := by decide
    suffices KB0 : ∀ (T17 : State) (h17 : Heap) (lc17 : List Loc), Stand p l e room_1 s m #[(.int p1), (.int p2), (.int p3), (.int p4), (.int p5)] below meth c T17 lc17 1 4 → T17.heap = h17 → Fr n0 lc17 → ∀ (k1 : Int32) (m1 : Int64) (f1 : Nat → Int32), own_AV Z h17 b16 .int nn (fun i => .int (f1 i)) → k1.toInt = ub % 2 → own_inv (own_W p2 p3 p4 p5) (nn - k1.toInt.toNat) k1.toInt.toNat m1.toInt f1 → own_Dn p e below (own_Ret s (own_Q0 n0) 16 128) (T17.setTop (mkF m 98 #[.val (.int p1), .val (.int p2), .val (.int p3), .val (.int p4), .val (.int p5), .val (.int um), .val (.int (1 : Int32)), .val (.int un), .val (.ref b16), .val (.int k1), .val (.long m1), .second, .unset, .unset, .unset] [])) by
      refine own_st (B := (T16.setTop (mkF m 62 #[.val (.int p1), .val (.int p2), .val (.int p3), .val (.int p4), .val (.int p5), .val (.int um), .val (.int (1 : Int32)), .val (.int un), .val (.ref b16), .val (.int (0 : Int32)), .val (.long (0 : Int64)), .second, .unset, .unset, .unset] [(.int um)]))) (fun _ zk => XS.iload X16.here hx rfl (hb hby at_60) rfl zk) ?_
      refine own_st (B := (T16.setTop (mkF m 63 #[.val (.int p1), .val (.int p2), .val (.int p3), .val (.int p4), .val (.int p5), .val (.int um), .val (.int (1 : Int32)), .val (.int un), .val (.ref b16), .val (.int (0 : Int32)), .val (.long (0 : Int64)), .second, .unset, .unset, .unset] [(.int (1 : Int32)), (.int um)]))) (fun _ zk => XS.iconst X16.here hx rfl (hb hby at_62) zk) ?_
      refine own_st (B := (T16.setTop (mkF m 64 #[.val (.int p1), .val (.int p2), .val (.int p3), .val (.int p4), .val (.int p5), .val (.int um), .val (.int (1 : Int32)), .val (.int un), .val (.ref b16), .val (.int (0 : Int32)), .val (.long (0 : Int64)), .second, .unset, .unset, .unset] [(.int (um &&& (1 : Int32)))]))) (fun _ zk => XS.iand X16.here hx rfl (hb hby at_63) rfl zk) ?_
      by_cases cB0 : (um &&& (1 : Int32)) = (0 : Int32)
      · refine own_st (B := (T16.setTop (mkF m 98 #[.val (.int p1), .val (.int p2), .val (.int p3), .val (.int p4), .val (.int p5), .val (.int um), .val (.int (1 : Int32)), .val (.int un), .val (.ref b16), .val (.int (0 : Int32)), .val (.long (0 : Int64)), .second, .unset, .unset, .unset] []))) (fun _ zk => XS.ifYes X16.here hx rfl (pc0 := 64) (pc' := 98) rfl (hb hby at_64) rfl ((if0 _ _).trans (teq cB0).1) (by decide) (by decide) zk) ?_
        have z0 := hpw.2.2.2.mp cB0
        exact KB0 _ _ _ X16 e16 N0 (0 : Int32) (0 : Int64) (fun _ => (0 : Int32)) V0 (by omega) inv0
      · refine own_st (B := (T16.setTop (mkF m 67 #[.val (.int p1), .val (.int p2), .val (.int p3), .val (.int p4), .val (.int p5), .val (.int um), .val (.int (1 : Int32)), .val (.int un), .val (.ref b16), .val (.int (0 : Int32)), .val (.long (0 : Int64)), .second, .unset, .unset, .unset] []))) (fun _ zk => XS.ifNo X16.here hx rfl (hb hby at_64) rfl ((if0 _ _).trans (feq cB0).1) zk) ?_
        refine own_st (B := (T16.setTop (mkF m 69 #[.val (.int p1), .val (.int p2), .val (.int p3), .val (.int p4), .val (.int p5), .val (.int um), .val (.int (1 : Int32)), .val (.int un), .val (.ref b16), .val (.int (0 : Int32)), .val (.long (0 : Int64)), .second, .unset, .unset, .unset] [(.ref b16)]))) (fun _ zk => XS.aload X16.here hx rfl (hb hby at_67) rfl rfl zk) ?_
        refine own_st (B := (T16.setTop (mkF m 71 #[.val (.int p1), .val (.int p2), .val (.int p3), .val (.int p4), .val (.int p5), .val (.int um), .val (.int (1 : Int32)), .val (.int un), .val (.ref b16), .val (.int (0 : Int32)), .val (.long (0 : Int64)), .second, .unset, .unset, .unset] [(.int (1 : Int32)), (.ref b16)]))) (fun _ zk => XS.iload X16.here hx rfl (hb hby at_69) rfl zk) ?_
        refine own_st (B := (T16.setTop (mkF m 74 #[.val (.int p1), .val (.int p2), .val (.int p3), .val (.int p4), .val (.int p5), .val (.int um), .val (.int (1 : Int32)), .val (.int un), .val (.ref b16), .val (.int (0 : Int32)), .val (.long (0 : Int64)), .second, .unset, .unset, .unset] [(.ref b16)]))) (fun _ zk => XS.ifNo X16.here hx rfl (hb hby at_71) rfl ((if0 _ _).trans (feq (by decide)).1) zk) ?_
        refine own_st (B := (T16.setTop (mkF m 76 #[.val (.int p1), .val (.int p2), .val (.int p3), .val (.int p4), .val (.int p5), .val (.int um), .val (.int (1 : Int32)), .val (.int un), .val (.ref b16), .val (.int (0 : Int32)), .val (.long (0 : Int64)), .second, .unset, .unset, .unset] [(.int un), (.ref b16)]))) (fun _ zk => XS.iload X16.here hx rfl (hb hby at_74) rfl zk) ?_
        refine own_st (B := (T16.setTop (mkF m 77 #[.val (.int p1), .val (.int p2), .val (.int p3), .val (.int p4), .val (.int p5), .val (.int um), .val (.int (1 : Int32)), .val (.int un), .val (.ref b16), .val (.int (0 : Int32)), .val (.long (0 : Int64)), .second, .unset, .unset, .unset] [(.int (1 : Int32)), (.int un), (.ref b16)]))) (fun _ zk => XS.iconst X16.here hx rfl (hb hby at_76) zk) ?_
        refine own_st (B := (T16.setTop (mkF m 78 #[.val (.int p1), .val (.int p2), .val (.int p3), .val (.int p4), .val (.int p5), .val (.int um), .val (.int (1 : Int32)), .val (.int un), .val (.ref b16), .val (.int (0 : Int32)), .val (.long (0 : Int64)), .second, .unset, .unset, .unset] [(.int (un - (1 : Int32))), (.ref b16)]))) (fun _ zk => XS.isub X16.here hx rfl (hb hby at_77) rfl zk) ?_
        refine own_st (B := (T16.setTop (mkF m 80 #[.val (.int p1), .val (.int p2), .val (.int p3), .val (.int p4), .val (.int p5), .val (.int um), .val (.int (1 : Int32)), .val (.int un), .val (.ref b16), .val (.int (0 : Int32)), .val (.long (0 : Int64)), .second, .unset, .unset, .unset] [(.int (0 : Int32)), (.int (un - (1 : Int32))), (.ref b16)]))) (fun _ zk => XS.iload X16.here hx rfl (hb hby at_78) rfl zk) ?_
        refine own_st (B := (T16.setTop (mkF m 81 #[.val (.int p1), .val (.int p2), .val (.int p3), .val (.int p4), .val (.int p5), .val (.int um), .val (.int (1 : Int32)), .val (.int un), .val (.ref b16), .val (.int (0 : Int32)), .val (.long (0 : Int64)), .second, .unset, .unset, .unset] [(.int ((un - (1 : Int32)) - (0 : Int32))), (.ref b16)]))) (fun _ zk => XS.isub X16.here hx rfl (hb hby at_80) rfl zk) ?_
        refine own_st (B := (T16.setTop (mkF m 86 #[.val (.int p1), .val (.int p2), .val (.int p3), .val (.int p4), .val (.int p5), .val (.int um), .val (.int (1 : Int32)), .val (.int un), .val (.ref b16), .val (.int (0 : Int32)), .val (.long (0 : Int64)), .second, .unset, .unset, .unset] [(.int ((un - (1 : Int32)) - (0 : Int32))), (.ref b16)]))) (fun _ zk => XS.goto X16.here hx rfl (pc0 := 81) (pc' := 86) rfl (hb hby at_81) (by decide) (by decide) zk) ?_
        refine own_st (B := (T16.setTop (mkF m 87 #[.val (.int p1), .val (.int p2), .val (.int p3), .val (.int p4), .val (.int p5), .val (.int um), .val (.int (1 : Int32)), .val (.int un), .val (.ref b16), .val (.int (0 : Int32)), .val (.long (0 : Int64)), .second, .unset, .unset, .unset] [(.int (0 : Int32)), (.int ((un - (1 : Int32)) - (0 : Int32))), (.ref b16)]))) (fun _ zk => XS.iconst X16.here hx rfl (hb hby at_86) zk) ?_
        have z0 : ub % 2 = 1 := by
          have q : ¬ (ub % 2 = 0) := fun q => cB0 (hpw.2.2.2.mpr q)
          omega
        have hkn : (0 : Int32).toInt.toNat < nn := by omega
        have hix := own_ix un (0 : Int32) (by omega) (by omega) (by omega)
        obtain ⟨T18, h18, X18, e18, W18, V18, st18⟩ := own_stI X16 hx hZ e16 V0 (i := (nn - 1 - (0 : Int32).toInt.toNat)) (by show (((un - (1 : Int32)) - (0 : Int32))).toInt.toNat = _; omega) (own_i0 (j := (nn - 1 - (0 : Int32).toInt.toNat)) (by omega)).2 (by omega) (g := (mkF m 87 #[.val (.int p1), .val (.int p2), .val (.int p3), .val (.int p4), .val (.int p5), .val (.int um), .val (.int (1 : Int32)), .val (.int un), .val (.ref b16), .val (.int (0 : Int32)), .val (.long (0 : Int64)), .second, .unset, .unset, .unset] [(.int (0 : Int32)), (.int ((un - (1 : Int32)) - (0 : Int32))), (.ref b16)])) rfl rfl (hb hby at_87)
        refine own_st (B := (T18.setTop (mkF m 88 #[.val (.int p1), .val (.int p2), .val (.int p3), .val (.int p4), .val (.int p5), .val (.int um), .val (.int (1 : Int32)), .val (.int un), .val (.ref b16), .val (.int (0 : Int32)), .val (.long (0 : Int64)), .second, .unset, .unset, .unset] []))) st18 ?_
        have N18 := Fr.snoc X18 N0 g_b16
        refine own_st (B := (T18.setTop (mkF m 91 #[.val (.int p1), .val (.int p2), .val (.int p3), .val (.int p4), .val (.int p5), .val (.int um), .val (.int (1 : Int32)), .val (.int un), .val (.ref b16), .val (.int ((0 : Int32) + (1 : Int32))), .val (.long (0 : Int64)), .second, .unset, .unset, .unset] []))) (fun _ zk => XS.iinc X18.here hx rfl (hb hby at_88) rfl (l' := #[.val (.int p1), .val (.int p2), .val (.int p3), .val (.int p4), .val (.int p5), .val (.int um), .val (.int (1 : Int32)), .val (.int un), .val (.ref b16), .val (.int ((0 : Int32) + (1 : Int32))), .val (.long (0 : Int64)), .second, .unset, .unset, .unset]) rfl zk) ?_
        refine own_st (B := (T18.setTop (mkF m 93 #[.val (.int p1), .val (.int p2), .val (.int p3), .val (.int p4), .val (.int p5), .val (.int um), .val (.int (1 : Int32)), .val (.int un), .val (.ref b16), .val (.int ((0 : Int32) + (1 : Int32))), .val (.long (0 : Int64)), .second, .unset, .unset, .unset] [(.long (0 : Int64))]))) (fun _ zk => XS.lload X18.here hx rfl (hb hby at_91) rfl zk) ?_
        refine own_st (B := (T18.setTop (mkF m 94 #[.val (.int p1), .val (.int p2), .val (.int p3), .val (.int p4), .val (.int p5), .val (.int um), .val (.int (1 : Int32)), .val (.int un), .val (.ref b16), .val (.int ((0 : Int32) + (1 : Int32))), .val (.long (0 : Int64)), .second, .unset, .unset, .unset] [(.int p2), (.long (0 : Int64))]))) (fun _ zk => XS.iloadN X18.here hx rfl (hb hby at_93) rfl zk) ?_
        refine own_st (B := (T18.setTop (mkF m 95 #[.val (.int p1), .val (.int p2), .val (.int p3), .val (.int p4), .val (.int p5), .val (.int um), .val (.int (1 : Int32)), .val (.int un), .val (.ref b16), .val (.int ((0 : Int32) + (1 : Int32))), .val (.long (0 : Int64)), .second, .unset, .unset, .unset] [(.long (p2.toInt64)), (.long (0 : Int64))]))) (fun _ zk => XS.i2l X18.here hx rfl (hb hby at_94) rfl zk) ?_
        refine own_st (B := (T18.setTop (mkF m 96 #[.val (.int p1), .val (.int p2), .val (.int p3), .val (.int p4), .val (.int p5), .val (.int um), .val (.int (1 : Int32)), .val (.int un), .val (.ref b16), .val (.int ((0 : Int32) + (1 : Int32))), .val (.long (0 : Int64)), .second, .unset, .unset, .unset] [(.long ((0 : Int64) + (p2.toInt64)))]))) (fun _ zk => XS.ladd X18.here hx rfl (hb hby at_95) rfl zk) ?_
        refine own_st (B := (T18.setTop (mkF m 98 #[.val (.int p1), .val (.int p2), .val (.int p3), .val (.int p4), .val (.int p5), .val (.int um), .val (.int (1 : Int32)), .val (.int un), .val (.ref b16), .val (.int ((0 : Int32) + (1 : Int32))), .val (.long ((0 : Int64) + (p2.toInt64))), .second, .unset, .unset, .unset] []))) (fun _ zk => XS.lstore X18.here hx rfl (hb hby at_96) rfl (l' := #[.val (.int p1), .val (.int p2), .val (.int p3), .val (.int p4), .val (.int p5), .val (.int um), .val (.int (1 : Int32)), .val (.int un), .val (.ref b16), .val (.int ((0 : Int32) + (1 : Int32))), .val (.long ((0 : Int64) + (p2.toInt64))), .second, .unset, .unset, .unset]) rfl zk) ?_
        have hka := own_add1 (0 : Int32) (by omega)
        have hsb := own_Sb (W := (own_W p2 p3 p4 p5)) (f := (fun _ => (0 : Int32))) (lo := (nn - (0 : Int32).toInt.toNat)) (own_Wb p2 p3 p4 p5) (0 : Int32).toInt.toNat
        have hse := inv0.2
        have hsa := own_adds (0 : Int64) p2 (by omega)
        have hlo : nn - (0 : Int32).toInt.toNat = (nn - 1 - (0 : Int32).toInt.toNat) + 1 := by omega
        have inv' := own_inv_front (hlo ▸ inv0) (0 : Int32) (by decide)
        have VN : own_AV Z h18 b16 .int nn (fun i => .int ((fun q => if q = (nn - 1 - (0 : Int32).toInt.toNat) then (0 : Int32) else (fun _ => (0 : Int32)) q) i)) := V18.congr fun i hi => by
          show (if i = (nn - 1 - (0 : Int32).toInt.toNat) then Value.int (0 : Int32) else Value.int ((fun _ => (0 : Int32)) i)) = Value.int (if i = (nn - 1 - (0 : Int32).toInt.toNat) then (0 : Int32) else (fun _ => (0 : Int32)) i)
          by_cases e' : i = (nn - 1 - (0 : Int32).toInt.toNat)
          · rw [if_pos e', if_pos e']
          · rw [if_neg e', if_neg e']
        exact KB0 _ _ _ X18 e18 N18 _ _ _ VN (by omega) (own_castinv inv' (by omega) (by omega) (by rw [hsa, show (own_W p2 p3 p4 p5 (0 : Int32).toInt.toNat).toInt = p2.toInt from c_i2l p2]))
    intro T17 h17 lc17 X17 e17 N17 k1 m1 f1 VK1 hk1 inv1
    suffices KB1 : ∀ (T19 : State) (h19 : Heap) (lc19 : List Loc), Stand p l e room_1 s m #[(.int p1), (.int p2), (.int p3), (.int p4), (.int p5)] below meth c T19 lc19 1 4 → T19.heap = h19 → Fr n0 lc19 → ∀ (k2 : Int32) (m2 : Int64) (f2 : Nat → Int32), own_AV Z h19 b16 .int nn (fun i => .int (f2 i)) → k2.toInt = ub % 2 + (ub / 2) % 2 → own_inv (own_W p2 p3 p4 p5) (nn - k2.toInt.toNat) k2.toInt.toNat m2.toInt f2 → own_Dn p e below (own_Ret s (own_Q0 n0) 16 128) (T19.setTop (mkF m 136 #[.val (.int p1), .val (.int p2), .val (.int p3), .val (.int p4), .val (.int p5), .val (.int um), .val (.int (1 : Int32)), .val (.int un), .val (.ref b16), .val (.int k2), .val (.long m2), .second, .unset, .unset, .unset] [])) by
      refine own_st (B := (T17.setTop (mkF m 100 #[.val (.int p1), .val (.int p2), .val (.int p3), .val (.int p4), .val (.int p5), .val (.int um), .val (.int (1 : Int32)), .val (.int un), .val (.ref b16), .val (.int k1), .val (.long m1), .second, .unset, .unset, .unset] [(.int um)]))) (fun _ zk => XS.iload X17.here hx rfl (hb hby at_98) rfl zk) ?_
      refine own_st (B := (T17.setTop (mkF m 101 #[.val (.int p1), .val (.int p2), .val (.int p3), .val (.int p4), .val (.int p5), .val (.int um), .val (.int (1 : Int32)), .val (.int un), .val (.ref b16), .val (.int k1), .val (.long m1), .second, .unset, .unset, .unset] [(.int (2 : Int32)), (.int um)]))) (fun _ zk => XS.iconst X17.here hx rfl (hb hby at_100) zk) ?_
      refine own_st (B := (T17.setTop (mkF m 102 #[.val (.int p1), .val (.int p2), .val (.int p3), .val (.int p4), .val (.int p5), .val (.int um), .val (.int (1 : Int32)), .val (.int un), .val (.ref b16), .val (.int k1), .val (.long m1), .second, .unset, .unset, .unset] [(.int (um &&& (2 : Int32)))]))) (fun _ zk => XS.iand X17.here hx rfl (hb hby at_101) rfl zk) ?_
      by_cases cB1 : (um &&& (2 : Int32)) = (0 : Int32)
      · refine own_st (B := (T17.setTop (mkF m 136 #[.val (.int p1), .val (.int p2), .val (.int p3), .val (.int p4), .val (.int p5), .val (.int um), .val (.int (1 : Int32)), .val (.int un), .val (.ref b16), .val (.int k1), .val (.long m1), .second, .unset, .unset, .unset] []))) (fun _ zk => XS.ifYes X17.here hx rfl (pc0 := 102) (pc' := 136) rfl (hb hby at_102) rfl ((if0 _ _).trans (teq cB1).1) (by decide) (by decide) zk) ?_
        have z1 := hpw.1.mp cB1
        exact KB1 _ _ _ X17 e17 N17 k1 m1 f1 VK1 (by omega) inv1
      · refine own_st (B := (T17.setTop (mkF m 105 #[.val (.int p1), .val (.int p2), .val (.int p3), .val (.int p4), .val (.int p5), .val (.int um), .val (.int (1 : Int32)), .val (.int un), .val (.ref b16), .val (.int k1), .val (.long m1), .second, .unset, .unset, .unset] []))) (fun _ zk => XS.ifNo X17.here hx rfl (hb hby at_102) rfl ((if0 _ _).trans (feq cB1).1) zk) ?_
        refine own_st (B := (T17.setTop (mkF m 107 #[.val (.int p1), .val (.int p2), .val (.int p3), .val (.int p4), .val (.int p5), .val (.int um), .val (.int (1 : Int32)), .val (.int un), .val (.ref b16), .val (.int k1), .val (.long m1), .second, .unset, .unset, .unset] [(.ref b16)]))) (fun _ zk => XS.aload X17.here hx rfl (hb hby at_105) rfl rfl zk) ?_
        refine own_st (B := (T17.setTop (mkF m 109 #[.val (.int p1), .val (.int p2), .val (.int p3), .val (.int p4), .val (.int p5), .val (.int um), .val (.int (1 : Int32)), .val (.int un), .val (.ref b16), .val (.int k1), .val (.long m1), .second, .unset, .unset, .unset] [(.int (1 : Int32)), (.ref b16)]))) (fun _ zk => XS.iload X17.here hx rfl (hb hby at_107) rfl zk) ?_
        refine own_st (B := (T17.setTop (mkF m 112 #[.val (.int p1), .val (.int p2), .val (.int p3), .val (.int p4), .val (.int p5), .val (.int um), .val (.int (1 : Int32)), .val (.int un), .val (.ref b16), .val (.int k1), .val (.long m1), .second, .unset, .unset, .unset] [(.ref b16)]))) (fun _ zk => XS.ifNo X17.here hx rfl (hb hby at_109) rfl ((if0 _ _).trans (feq (by decide)).1) zk) ?_
        refine own_st (B := (T17.setTop (mkF m 114 #[.val (.int p1), .val (.int p2), .val (.int p3), .val (.int p4), .val (.int p5), .val (.int um), .val (.int (1 : Int32)), .val (.int un), .val (.ref b16), .val (.int k1), .val (.long m1), .second, .unset, .unset, .unset] [(.int un), (.ref b16)]))) (fun _ zk => XS.iload X17.here hx rfl (hb hby at_112) rfl zk) ?_
        refine own_st (B := (T17.setTop (mkF m 115 #[.val (.int p1), .val (.int p2), .val (.int p3), .val (.int p4), .val (.int p5), .val (.int um), .val (.int (1 : Int32)), .val (.int un), .val (.ref b16), .val (.int k1), .val (.long m1), .second, .unset, .unset, .unset] [(.int (1 : Int32)), (.int un), (.ref b16)]))) (fun _ zk => XS.iconst X17.here hx rfl (hb hby at_114) zk) ?_
        refine own_st (B := (T17.setTop (mkF m 116 #[.val (.int p1), .val (.int p2), .val (.int p3), .val (.int p4), .val (.int p5), .val (.int um), .val (.int (1 : Int32)), .val (.int un), .val (.ref b16), .val (.int k1), .val (.long m1), .second, .unset, .unset, .unset] [(.int (un - (1 : Int32))), (.ref b16)]))) (fun _ zk => XS.isub X17.here hx rfl (hb hby at_115) rfl zk) ?_
        refine own_st (B := (T17.setTop (mkF m 118 #[.val (.int p1), .val (.int p2), .val (.int p3), .val (.int p4), .val (.int p5), .val (.int um), .val (.int (1 : Int32)), .val (.int un), .val (.ref b16), .val (.int k1), .val (.long m1), .second, .unset, .unset, .unset] [(.int k1), (.int (un - (1 : Int32))), (.ref b16)]))) (fun _ zk => XS.iload X17.here hx rfl (hb hby at_116) rfl zk) ?_
        refine own_st (B := (T17.setTop (mkF m 119 #[.val (.int p1), .val (.int p2), .val (.int p3), .val (.int p4), .val (.int p5), .val (.int um), .val (.int (1 : Int32)), .val (.int un), .val (.ref b16), .val (.int k1), .val (.long m1), .second, .unset, .unset, .unset] [(.int ((un - (1 : Int32)) - k1)), (.ref b16)]))) (fun _ zk => XS.isub X17.here hx rfl (hb hby at_118) rfl zk) ?_
        refine own_st (B := (T17.setTop (mkF m 124 #[.val (.int p1), .val (.int p2), .val (.int p3), .val (.int p4), .val (.int p5), .val (.int um), .val (.int (1 : Int32)), .val (.int un), .val (.ref b16), .val (.int k1), .val (.long m1), .second, .unset, .unset, .unset] [(.int ((un - (1 : Int32)) - k1)), (.ref b16)]))) (fun _ zk => XS.goto X17.here hx rfl (pc0 := 119) (pc' := 124) rfl (hb hby at_119) (by decide) (by decide) zk) ?_
        refine own_st (B := (T17.setTop (mkF m 125 #[.val (.int p1), .val (.int p2), .val (.int p3), .val (.int p4), .val (.int p5), .val (.int um), .val (.int (1 : Int32)), .val (.int un), .val (.ref b16), .val (.int k1), .val (.long m1), .second, .unset, .unset, .unset] [(.int (1 : Int32)), (.int ((un - (1 : Int32)) - k1)), (.ref b16)]))) (fun _ zk => XS.iconst X17.here hx rfl (hb hby at_124) zk) ?_
        have z1 : (ub / 2) % 2 = 1 := by
          have q : ¬ ((ub / 2) % 2 = 0) := fun q => cB1 (hpw.1.mpr q)
          omega
        have hkn : k1.toInt.toNat < nn := by omega
        have hix := own_ix un k1 (by omega) (by omega) (by omega)
        obtain ⟨T20, h20, X20, e20, W20, V20, st20⟩ := own_stI X17 hx hZ e17 VK1 (i := (nn - 1 - k1.toInt.toNat)) (by show (((un - (1 : Int32)) - k1)).toInt.toNat = _; omega) (own_i0 (j := (nn - 1 - k1.toInt.toNat)) (by omega)).2 (by omega) (g := (mkF m 125 #[.val (.int p1), .val (.int p2), .val (.int p3), .val (.int p4), .val (.int p5), .val (.int um), .val (.int (1 : Int32)), .val (.int un), .val (.ref b16), .val (.int k1), .val (.long m1), .second, .unset, .unset, .unset] [(.int (1 : Int32)), (.int ((un - (1 : Int32)) - k1)), (.ref b16)])) rfl rfl (hb hby at_125)
        refine own_st (B := (T20.setTop (mkF m 126 #[.val (.int p1), .val (.int p2), .val (.int p3), .val (.int p4), .val (.int p5), .val (.int um), .val (.int (1 : Int32)), .val (.int un), .val (.ref b16), .val (.int k1), .val (.long m1), .second, .unset, .unset, .unset] []))) st20 ?_
        have N20 := Fr.snoc X20 N17 g_b16
        refine own_st (B := (T20.setTop (mkF m 129 #[.val (.int p1), .val (.int p2), .val (.int p3), .val (.int p4), .val (.int p5), .val (.int um), .val (.int (1 : Int32)), .val (.int un), .val (.ref b16), .val (.int (k1 + (1 : Int32))), .val (.long m1), .second, .unset, .unset, .unset] []))) (fun _ zk => XS.iinc X20.here hx rfl (hb hby at_126) rfl (l' := #[.val (.int p1), .val (.int p2), .val (.int p3), .val (.int p4), .val (.int p5), .val (.int um), .val (.int (1 : Int32)), .val (.int un), .val (.ref b16), .val (.int (k1 + (1 : Int32))), .val (.long m1), .second, .unset, .unset, .unset]) rfl zk) ?_
        refine own_st (B := (T20.setTop (mkF m 131 #[.val (.int p1), .val (.int p2), .val (.int p3), .val (.int p4), .val (.int p5), .val (.int um), .val (.int (1 : Int32)), .val (.int un), .val (.ref b16), .val (.int (k1 + (1 : Int32))), .val (.long m1), .second, .unset, .unset, .unset] [(.long m1)]))) (fun _ zk => XS.lload X20.here hx rfl (hb hby at_129) rfl zk) ?_
        refine own_st (B := (T20.setTop (mkF m 132 #[.val (.int p1), .val (.int p2), .val (.int p3), .val (.int p4), .val (.int p5), .val (.int um), .val (.int (1 : Int32)), .val (.int un), .val (.ref b16), .val (.int (k1 + (1 : Int32))), .val (.long m1), .second, .unset, .unset, .unset] [(.int p3), (.long m1)]))) (fun _ zk => XS.iloadN X20.here hx rfl (hb hby at_131) rfl zk) ?_
        refine own_st (B := (T20.setTop (mkF m 133 #[.val (.int p1), .val (.int p2), .val (.int p3), .val (.int p4), .val (.int p5), .val (.int um), .val (.int (1 : Int32)), .val (.int un), .val (.ref b16), .val (.int (k1 + (1 : Int32))), .val (.long m1), .second, .unset, .unset, .unset] [(.long (p3.toInt64)), (.long m1)]))) (fun _ zk => XS.i2l X20.here hx rfl (hb hby at_132) rfl zk) ?_
        refine own_st (B := (T20.setTop (mkF m 134 #[.val (.int p1), .val (.int p2), .val (.int p3), .val (.int p4), .val (.int p5), .val (.int um), .val (.int (1 : Int32)), .val (.int un), .val (.ref b16), .val (.int (k1 + (1 : Int32))), .val (.long m1), .second, .unset, .unset, .unset] [(.long (m1 + (p3.toInt64)))]))) (fun _ zk => XS.ladd X20.here hx rfl (hb hby at_133) rfl zk) ?_
        refine own_st (B := (T20.setTop (mkF m 136 #[.val (.int p1), .val (.int p2), .val (.int p3), .val (.int p4), .val (.int p5), .val (.int um), .val (.int (1 : Int32)), .val (.int un), .val (.ref b16), .val (.int (k1 + (1 : Int32))), .val (.long (m1 + (p3.toInt64))), .second, .unset, .unset, .unset] []))) (fun _ zk => XS.lstore X20.here hx rfl (hb hby at_134) rfl (l' := #[.val (.int p1), .val (.int p2), .val (.int p3), .val (.int p4), .val (.int p5), .val (.int um), .val (.int (1 : Int32)), .val (.int un), .val (.ref b16), .val (.int (k1 + (1 : Int32))), .val (.long (m1 + (p3.toInt64))), .second, .unset, .unset, .unset]) rfl zk) ?_
        have hka := own_add1 k1 (by omega)
        have hsb := own_Sb (W := (own_W p2 p3 p4 p5)) (f := f1) (lo := (nn - k1.toInt.toNat)) (own_Wb p2 p3 p4 p5) k1.toInt.toNat
        have hse := inv1.2
        have hsa := own_adds m1 p3 (by omega)
        have hlo : nn - k1.toInt.toNat = (nn - 1 - k1.toInt.toNat) + 1 := by omega
        have inv' := own_inv_front (hlo ▸ inv1) (1 : Int32) (by decide)
        have VN : own_AV Z h20 b16 .int nn (fun i => .int ((fun q => if q = (nn - 1 - k1.toInt.toNat) then (1 : Int32) else f1 q) i)) := V20.congr fun i hi => by
          show (if i = (nn - 1 - k1.toInt.toNat) then Value.int (1 : Int32) else Value.int (f1 i)) = Value.int (if i = (nn - 1 - k1.toInt.toNat) then (1 : Int32) else f1 i)
          by_cases e' : i = (nn - 1 - k1.toInt.toNat)
          · rw [if_pos e', if_pos e']
          · rw [if_neg e', if_neg e']
        exact KB1 _ _ _ X20 e20 N20 _ _ _ VN (by omega) (own_castinv inv' (by omega) (by omega) (by rw [hsa, show (own_W p2 p3 p4 p5 (1 : Int32).toInt.toNat).toInt = p3.toInt from c_i2l p3]))
    intro T19 h19 lc19 X19 e19 N19 k2 m2 f2 VK2 hk2 inv2
    suffices KB2 : ∀ (T21 : State) (h21 : Heap) (lc21 : List Loc), Stand p l e room_1 s m #[(.int p1), (.int p2), (.int p3), (.int p4), (.int p5)] below meth c T21 lc21 1 4 → T21.heap = h21 → Fr n0 lc21 → ∀ (k3 : Int32) (m3 : Int64) (f3 : Nat → Int32), own_AV Z h21 b16 .int nn (fun i => .int (f3 i)) → k3.toInt = ub % 2 + (ub / 2) % 2 + (ub / 4) % 2 → own_inv (own_W p2 p3 p4 p5) (nn - k3.toInt.toNat) k3.toInt.toNat m3.toInt f3 → own_Dn p e below (own_Ret s (own_Q0 n0) 16 128) (T21.setTop (mkF m 174 #[.val (.int p1), .val (.int p2), .val (.int p3), .val (.int p4), .val (.int p5), .val (.int um), .val (.int (1 : Int32)), .val (.int un), .val (.ref b16), .val (.int k3), .val (.long m3), .second, .unset, .unset, .unset] [])) by
      refine own_st (B := (T19.setTop (mkF m 138 #[.val (.int p1), .val (.int p2), .val (.int p3), .val (.int p4), .val (.int p5), .val (.int um), .val (.int (1 : Int32)), .val (.int un), .val (.ref b16), .val (.int k2), .val (.long m2), .second, .unset, .unset, .unset] [(.int um)]))) (fun _ zk => XS.iload X19.here hx rfl (hb hby at_136) rfl zk) ?_
      refine own_st (B := (T19.setTop (mkF m 139 #[.val (.int p1), .val (.int p2), .val (.int p3), .val (.int p4), .val (.int p5), .val (.int um), .val (.int (1 : Int32)), .val (.int un), .val (.ref b16), .val (.int k2), .val (.long m2), .second, .unset, .unset, .unset] [(.int (4 : Int32)), (.int um)]))) (fun _ zk => XS.iconst X19.here hx rfl (hb hby at_138) zk) ?_
      refine own_st (B := (T19.setTop (mkF m 140 #[.val (.int p1), .val (.int p2), .val (.int p3), .val (.int p4), .val (.int p5), .val (.int um), .val (.int (1 : Int32)), .val (.int un), .val (.ref b16), .val (.int k2), .val (.long m2), .second, .unset, .unset, .unset] [(.int (um &&& (4 : Int32)))]))) (fun _ zk => XS.iand X19.here hx rfl (hb hby at_139) rfl zk) ?_
      by_cases cB2 : (um &&& (4 : Int32)) = (0 : Int32)
      · refine own_st (B := (T19.setTop (mkF m 174 #[.val (.int p1), .val (.int p2), .val (.int p3), .val (.int p4), .val (.int p5), .val (.int um), .val (.int (1 : Int32)), .val (.int un), .val (.ref b16), .val (.int k2), .val (.long m2), .second, .unset, .unset, .unset] []))) (fun _ zk => XS.ifYes X19.here hx rfl (pc0 := 140) (pc' := 174) rfl (hb hby at_140) rfl ((if0 _ _).trans (teq cB2).1) (by decide) (by decide) zk) ?_
        have z2 := hpw.2.1.mp cB2
        exact KB2 _ _ _ X19 e19 N19 k2 m2 f2 VK2 (by omega) inv2
      · refine own_st (B := (T19.setTop (mkF m 143 #[.val (.int p1), .val (.int p2), .val (.int p3), .val (.int p4), .val (.int p5), .val (.int um), .val (.int (1 : Int32)), .val (.int un), .val (.ref b16), .val (.int k2), .val (.long m2), .second, .unset, .unset, .unset] []))) (fun _ zk => XS.ifNo X19.here hx rfl (hb hby at_140) rfl ((if0 _ _).trans (feq cB2).1) zk) ?_
        refine own_st (B := (T19.setTop (mkF m 145 #[.val (.int p1), .val (.int p2), .val (.int p3), .val (.int p4), .val (.int p5), .val (.int um), .val (.int (1 : Int32)), .val (.int un), .val (.ref b16), .val (.int k2), .val (.long m2), .second, .unset, .unset, .unset] [(.ref b16)]))) (fun _ zk => XS.aload X19.here hx rfl (hb hby at_143) rfl rfl zk) ?_
        refine own_st (B := (T19.setTop (mkF m 147 #[.val (.int p1), .val (.int p2), .val (.int p3), .val (.int p4), .val (.int p5), .val (.int um), .val (.int (1 : Int32)), .val (.int un), .val (.ref b16), .val (.int k2), .val (.long m2), .second, .unset, .unset, .unset] [(.int (1 : Int32)), (.ref b16)]))) (fun _ zk => XS.iload X19.here hx rfl (hb hby at_145) rfl zk) ?_
        refine own_st (B := (T19.setTop (mkF m 150 #[.val (.int p1), .val (.int p2), .val (.int p3), .val (.int p4), .val (.int p5), .val (.int um), .val (.int (1 : Int32)), .val (.int un), .val (.ref b16), .val (.int k2), .val (.long m2), .second, .unset, .unset, .unset] [(.ref b16)]))) (fun _ zk => XS.ifNo X19.here hx rfl (hb hby at_147) rfl ((if0 _ _).trans (feq (by decide)).1) zk) ?_
        refine own_st (B := (T19.setTop (mkF m 152 #[.val (.int p1), .val (.int p2), .val (.int p3), .val (.int p4), .val (.int p5), .val (.int um), .val (.int (1 : Int32)), .val (.int un), .val (.ref b16), .val (.int k2), .val (.long m2), .second, .unset, .unset, .unset] [(.int un), (.ref b16)]))) (fun _ zk => XS.iload X19.here hx rfl (hb hby at_150) rfl zk) ?_
        refine own_st (B := (T19.setTop (mkF m 153 #[.val (.int p1), .val (.int p2), .val (.int p3), .val (.int p4), .val (.int p5), .val (.int um), .val (.int (1 : Int32)), .val (.int un), .val (.ref b16), .val (.int k2), .val (.long m2), .second, .unset, .unset, .unset] [(.int (1 : Int32)), (.int un), (.ref b16)]))) (fun _ zk => XS.iconst X19.here hx rfl (hb hby at_152) zk) ?_
        refine own_st (B := (T19.setTop (mkF m 154 #[.val (.int p1), .val (.int p2), .val (.int p3), .val (.int p4), .val (.int p5), .val (.int um), .val (.int (1 : Int32)), .val (.int un), .val (.ref b16), .val (.int k2), .val (.long m2), .second, .unset, .unset, .unset] [(.int (un - (1 : Int32))), (.ref b16)]))) (fun _ zk => XS.isub X19.here hx rfl (hb hby at_153) rfl zk) ?_
        refine own_st (B := (T19.setTop (mkF m 156 #[.val (.int p1), .val (.int p2), .val (.int p3), .val (.int p4), .val (.int p5), .val (.int um), .val (.int (1 : Int32)), .val (.int un), .val (.ref b16), .val (.int k2), .val (.long m2), .second, .unset, .unset, .unset] [(.int k2), (.int (un - (1 : Int32))), (.ref b16)]))) (fun _ zk => XS.iload X19.here hx rfl (hb hby at_154) rfl zk) ?_
        refine own_st (B := (T19.setTop (mkF m 157 #[.val (.int p1), .val (.int p2), .val (.int p3), .val (.int p4), .val (.int p5), .val (.int um), .val (.int (1 : Int32)), .val (.int un), .val (.ref b16), .val (.int k2), .val (.long m2), .second, .unset, .unset, .unset] [(.int ((un - (1 : Int32)) - k2)), (.ref b16)]))) (fun _ zk => XS.isub X19.here hx rfl (hb hby at_156) rfl zk) ?_
        refine own_st (B := (T19.setTop (mkF m 162 #[.val (.int p1), .val (.int p2), .val (.int p3), .val (.int p4), .val (.int p5), .val (.int um), .val (.int (1 : Int32)), .val (.int un), .val (.ref b16), .val (.int k2), .val (.long m2), .second, .unset, .unset, .unset] [(.int ((un - (1 : Int32)) - k2)), (.ref b16)]))) (fun _ zk => XS.goto X19.here hx rfl (pc0 := 157) (pc' := 162) rfl (hb hby at_157) (by decide) (by decide) zk) ?_
        refine own_st (B := (T19.setTop (mkF m 163 #[.val (.int p1), .val (.int p2), .val (.int p3), .val (.int p4), .val (.int p5), .val (.int um), .val (.int (1 : Int32)), .val (.int un), .val (.ref b16), .val (.int k2), .val (.long m2), .second, .unset, .unset, .unset] [(.int (2 : Int32)), (.int ((un - (1 : Int32)) - k2)), (.ref b16)]))) (fun _ zk => XS.iconst X19.here hx rfl (hb hby at_162) zk) ?_
        have z2 : (ub / 4) % 2 = 1 := by
          have q : ¬ ((ub / 4) % 2 = 0) := fun q => cB2 (hpw.2.1.mpr q)
          omega
        have hkn : k2.toInt.toNat < nn := by omega
        have hix := own_ix un k2 (by omega) (by omega) (by omega)
        obtain ⟨T22, h22, X22, e22, W22, V22, st22⟩ := own_stI X19 hx hZ e19 VK2 (i := (nn - 1 - k2.toInt.toNat)) (by show (((un - (1 : Int32)) - k2)).toInt.toNat = _; omega) (own_i0 (j := (nn - 1 - k2.toInt.toNat)) (by omega)).2 (by omega) (g := (mkF m 163 #[.val (.int p1), .val (.int p2), .val (.int p3), .val (.int p4), .val (.int p5), .val (.int um), .val (.int (1 : Int32)), .val (.int un), .val (.ref b16), .val (.int k2), .val (.long m2), .second, .unset, .unset, .unset] [(.int (2 : Int32)), (.int ((un - (1 : Int32)) - k2)), (.ref b16)])) rfl rfl (hb hby at_163)
        refine own_st (B := (T22.setTop (mkF m 164 #[.val (.int p1), .val (.int p2), .val (.int p3), .val (.int p4), .val (.int p5), .val (.int um), .val (.int (1 : Int32)), .val (.int un), .val (.ref b16), .val (.int k2), .val (.long m2), .second, .unset, .unset, .unset] []))) st22 ?_
        have N22 := Fr.snoc X22 N19 g_b16
        refine own_st (B := (T22.setTop (mkF m 167 #[.val (.int p1), .val (.int p2), .val (.int p3), .val (.int p4), .val (.int p5), .val (.int um), .val (.int (1 : Int32)), .val (.int un), .val (.ref b16), .val (.int (k2 + (1 : Int32))), .val (.long m2), .second, .unset, .unset, .unset] []))) (fun _ zk => XS.iinc X22.here hx rfl (hb hby at_164) rfl (l' := #[.val (.int p1), .val (.int p2), .val (.int p3), .val (.int p4), .val (.int p5), .val (.int um), .val (.int (1 : Int32)), .val (.int un), .val (.ref b16), .val (.int (k2 + (1 : Int32))), .val (.long m2), .second, .unset, .unset, .unset]) rfl zk) ?_
        refine own_st (B := (T22.setTop (mkF m 169 #[.val (.int p1), .val (.int p2), .val (.int p3), .val (.int p4), .val (.int p5), .val (.int um), .val (.int (1 : Int32)), .val (.int un), .val (.ref b16), .val (.int (k2 + (1 : Int32))), .val (.long m2), .second, .unset, .unset, .unset] [(.long m2)]))) (fun _ zk => XS.lload X22.here hx rfl (hb hby at_167) rfl zk) ?_
        refine own_st (B := (T22.setTop (mkF m 170 #[.val (.int p1), .val (.int p2), .val (.int p3), .val (.int p4), .val (.int p5), .val (.int um), .val (.int (1 : Int32)), .val (.int un), .val (.ref b16), .val (.int (k2 + (1 : Int32))), .val (.long m2), .second, .unset, .unset, .unset] [(.int p4), (.long m2)]))) (fun _ zk => XS.iloadN X22.here hx rfl (hb hby at_169) rfl zk) ?_
        refine own_st (B := (T22.setTop (mkF m 171 #[.val (.int p1), .val (.int p2), .val (.int p3), .val (.int p4), .val (.int p5), .val (.int um), .val (.int (1 : Int32)), .val (.int un), .val (.ref b16), .val (.int (k2 + (1 : Int32))), .val (.long m2), .second, .unset, .unset, .unset] [(.long (p4.toInt64)), (.long m2)]))) (fun _ zk => XS.i2l X22.here hx rfl (hb hby at_170) rfl zk) ?_
        refine own_st (B := (T22.setTop (mkF m 172 #[.val (.int p1), .val (.int p2), .val (.int p3), .val (.int p4), .val (.int p5), .val (.int um), .val (.int (1 : Int32)), .val (.int un), .val (.ref b16), .val (.int (k2 + (1 : Int32))), .val (.long m2), .second, .unset, .unset, .unset] [(.long (m2 + (p4.toInt64)))]))) (fun _ zk => XS.ladd X22.here hx rfl (hb hby at_171) rfl zk) ?_
        refine own_st (B := (T22.setTop (mkF m 174 #[.val (.int p1), .val (.int p2), .val (.int p3), .val (.int p4), .val (.int p5), .val (.int um), .val (.int (1 : Int32)), .val (.int un), .val (.ref b16), .val (.int (k2 + (1 : Int32))), .val (.long (m2 + (p4.toInt64))), .second, .unset, .unset, .unset] []))) (fun _ zk => XS.lstore X22.here hx rfl (hb hby at_172) rfl (l' := #[.val (.int p1), .val (.int p2), .val (.int p3), .val (.int p4), .val (.int p5), .val (.int um), .val (.int (1 : Int32)), .val (.int un), .val (.ref b16), .val (.int (k2 + (1 : Int32))), .val (.long (m2 + (p4.toInt64))), .second, .unset, .unset, .unset]) rfl zk) ?_
        have hka := own_add1 k2 (by omega)
        have hsb := own_Sb (W := (own_W p2 p3 p4 p5)) (f := f2) (lo := (nn - k2.toInt.toNat)) (own_Wb p2 p3 p4 p5) k2.toInt.toNat
        have hse := inv2.2
        have hsa := own_adds m2 p4 (by omega)
        have hlo : nn - k2.toInt.toNat = (nn - 1 - k2.toInt.toNat) + 1 := by omega
        have inv' := own_inv_front (hlo ▸ inv2) (2 : Int32) (by decide)
        have VN : own_AV Z h22 b16 .int nn (fun i => .int ((fun q => if q = (nn - 1 - k2.toInt.toNat) then (2 : Int32) else f2 q) i)) := V22.congr fun i hi => by
          show (if i = (nn - 1 - k2.toInt.toNat) then Value.int (2 : Int32) else Value.int (f2 i)) = Value.int (if i = (nn - 1 - k2.toInt.toNat) then (2 : Int32) else f2 i)
          by_cases e' : i = (nn - 1 - k2.toInt.toNat)
          · rw [if_pos e', if_pos e']
          · rw [if_neg e', if_neg e']
        exact KB2 _ _ _ X22 e22 N22 _ _ _ VN (by omega) (own_castinv inv' (by omega) (by omega) (by rw [hsa, show (own_W p2 p3 p4 p5 (2 : Int32).toInt.toNat).toInt = p4.toInt from c_i2l p4]))
    intro T21 h21 lc21 X21 e21 N21 k3 m3 f3 VK3 hk3 inv3
    suffices KB3 : ∀ (T23 : State) (h23 : Heap) (lc23 : List Loc), Stand p l e room_1 s m #[(.int p1), (.int p2), (.int p3), (.int p4), (.int p5)] below meth c T23 lc23 1 4 → T23.heap = h23 → Fr n0 lc23 → ∀ (k4 : Int32) (m4 : Int64) (f4 : Nat → Int32), own_AV Z h23 b16 .int nn (fun i => .int (f4 i)) → k4.toInt = ub % 2 + (ub / 2) % 2 + (ub / 4) % 2 + (ub / 8) % 2 → own_inv (own_W p2 p3 p4 p5) (nn - k4.toInt.toNat) k4.toInt.toNat m4.toInt f4 → own_Dn p e below (own_Ret s (own_Q0 n0) 16 128) (T23.setTop (mkF m 214 #[.val (.int p1), .val (.int p2), .val (.int p3), .val (.int p4), .val (.int p5), .val (.int um), .val (.int (1 : Int32)), .val (.int un), .val (.ref b16), .val (.int k4), .val (.long m4), .second, .unset, .unset, .unset] [])) by
      refine own_st (B := (T21.setTop (mkF m 176 #[.val (.int p1), .val (.int p2), .val (.int p3), .val (.int p4), .val (.int p5), .val (.int um), .val (.int (1 : Int32)), .val (.int un), .val (.ref b16), .val (.int k3), .val (.long m3), .second, .unset, .unset, .unset] [(.int um)]))) (fun _ zk => XS.iload X21.here hx rfl (hb hby at_174) rfl zk) ?_
      refine own_st (B := (T21.setTop (mkF m 178 #[.val (.int p1), .val (.int p2), .val (.int p3), .val (.int p4), .val (.int p5), .val (.int um), .val (.int (1 : Int32)), .val (.int un), .val (.ref b16), .val (.int k3), .val (.long m3), .second, .unset, .unset, .unset] [(.int (8 : Int32)), (.int um)]))) (fun _ zk => XS.bipush X21.here hx rfl (hb hby at_176) zk) ?_
      refine own_st (B := (T21.setTop (mkF m 179 #[.val (.int p1), .val (.int p2), .val (.int p3), .val (.int p4), .val (.int p5), .val (.int um), .val (.int (1 : Int32)), .val (.int un), .val (.ref b16), .val (.int k3), .val (.long m3), .second, .unset, .unset, .unset] [(.int (um &&& (8 : Int32)))]))) (fun _ zk => XS.iand X21.here hx rfl (hb hby at_178) rfl zk) ?_
      by_cases cB3 : (um &&& (8 : Int32)) = (0 : Int32)
      · refine own_st (B := (T21.setTop (mkF m 214 #[.val (.int p1), .val (.int p2), .val (.int p3), .val (.int p4), .val (.int p5), .val (.int um), .val (.int (1 : Int32)), .val (.int un), .val (.ref b16), .val (.int k3), .val (.long m3), .second, .unset, .unset, .unset] []))) (fun _ zk => XS.ifYes X21.here hx rfl (pc0 := 179) (pc' := 214) rfl (hb hby at_179) rfl ((if0 _ _).trans (teq cB3).1) (by decide) (by decide) zk) ?_
        have z3 := hpw.2.2.1.mp cB3
        exact KB3 _ _ _ X21 e21 N21 k3 m3 f3 VK3 (by omega) inv3
      · refine own_st (B := (T21.setTop (mkF m 182 #[.val (.int p1), .val (.int p2), .val (.int p3), .val (.int p4), .val (.int p5), .val (.int um), .val (.int (1 : Int32)), .val (.int un), .val (.ref b16), .val (.int k3), .val (.long m3), .second, .unset, .unset, .unset] []))) (fun _ zk => XS.ifNo X21.here hx rfl (hb hby at_179) rfl ((if0 _ _).trans (feq cB3).1) zk) ?_
        refine own_st (B := (T21.setTop (mkF m 184 #[.val (.int p1), .val (.int p2), .val (.int p3), .val (.int p4), .val (.int p5), .val (.int um), .val (.int (1 : Int32)), .val (.int un), .val (.ref b16), .val (.int k3), .val (.long m3), .second, .unset, .unset, .unset] [(.ref b16)]))) (fun _ zk => XS.aload X21.here hx rfl (hb hby at_182) rfl rfl zk) ?_
        refine own_st (B := (T21.setTop (mkF m 186 #[.val (.int p1), .val (.int p2), .val (.int p3), .val (.int p4), .val (.int p5), .val (.int um), .val (.int (1 : Int32)), .val (.int un), .val (.ref b16), .val (.int k3), .val (.long m3), .second, .unset, .unset, .unset] [(.int (1 : Int32)), (.ref b16)]))) (fun _ zk => XS.iload X21.here hx rfl (hb hby at_184) rfl zk) ?_
        refine own_st (B := (T21.setTop (mkF m 189 #[.val (.int p1), .val (.int p2), .val (.int p3), .val (.int p4), .val (.int p5), .val (.int um), .val (.int (1 : Int32)), .val (.int un), .val (.ref b16), .val (.int k3), .val (.long m3), .second, .unset, .unset, .unset] [(.ref b16)]))) (fun _ zk => XS.ifNo X21.here hx rfl (hb hby at_186) rfl ((if0 _ _).trans (feq (by decide)).1) zk) ?_
        refine own_st (B := (T21.setTop (mkF m 191 #[.val (.int p1), .val (.int p2), .val (.int p3), .val (.int p4), .val (.int p5), .val (.int um), .val (.int (1 : Int32)), .val (.int un), .val (.ref b16), .val (.int k3), .val (.long m3), .second, .unset, .unset, .unset] [(.int un), (.ref b16)]))) (fun _ zk => XS.iload X21.here hx rfl (hb hby at_189) rfl zk) ?_
        refine own_st (B := (T21.setTop (mkF m 192 #[.val (.int p1), .val (.int p2), .val (.int p3), .val (.int p4), .val (.int p5), .val (.int um), .val (.int (1 : Int32)), .val (.int un), .val (.ref b16), .val (.int k3), .val (.long m3), .second, .unset, .unset, .unset] [(.int (1 : Int32)), (.int un), (.ref b16)]))) (fun _ zk => XS.iconst X21.here hx rfl (hb hby at_191) zk) ?_
        refine own_st (B := (T21.setTop (mkF m 193 #[.val (.int p1), .val (.int p2), .val (.int p3), .val (.int p4), .val (.int p5), .val (.int um), .val (.int (1 : Int32)), .val (.int un), .val (.ref b16), .val (.int k3), .val (.long m3), .second, .unset, .unset, .unset] [(.int (un - (1 : Int32))), (.ref b16)]))) (fun _ zk => XS.isub X21.here hx rfl (hb hby at_192) rfl zk) ?_
        refine own_st (B := (T21.setTop (mkF m 195 #[.val (.int p1), .val (.int p2), .val (.int p3), .val (.int p4), .val (.int p5), .val (.int um), .val (.int (1 : Int32)), .val (.int un), .val (.ref b16), .val (.int k3), .val (.long m3), .second, .unset, .unset, .unset] [(.int k3), (.int (un - (1 : Int32))), (.ref b16)]))) (fun _ zk => XS.iload X21.here hx rfl (hb hby at_193) rfl zk) ?_
        refine own_st (B := (T21.setTop (mkF m 196 #[.val (.int p1), .val (.int p2), .val (.int p3), .val (.int p4), .val (.int p5), .val (.int um), .val (.int (1 : Int32)), .val (.int un), .val (.ref b16), .val (.int k3), .val (.long m3), .second, .unset, .unset, .unset] [(.int ((un - (1 : Int32)) - k3)), (.ref b16)]))) (fun _ zk => XS.isub X21.here hx rfl (hb hby at_195) rfl zk) ?_
        refine own_st (B := (T21.setTop (mkF m 201 #[.val (.int p1), .val (.int p2), .val (.int p3), .val (.int p4), .val (.int p5), .val (.int um), .val (.int (1 : Int32)), .val (.int un), .val (.ref b16), .val (.int k3), .val (.long m3), .second, .unset, .unset, .unset] [(.int ((un - (1 : Int32)) - k3)), (.ref b16)]))) (fun _ zk => XS.goto X21.here hx rfl (pc0 := 196) (pc' := 201) rfl (hb hby at_196) (by decide) (by decide) zk) ?_
        refine own_st (B := (T21.setTop (mkF m 202 #[.val (.int p1), .val (.int p2), .val (.int p3), .val (.int p4), .val (.int p5), .val (.int um), .val (.int (1 : Int32)), .val (.int un), .val (.ref b16), .val (.int k3), .val (.long m3), .second, .unset, .unset, .unset] [(.int (3 : Int32)), (.int ((un - (1 : Int32)) - k3)), (.ref b16)]))) (fun _ zk => XS.iconst X21.here hx rfl (hb hby at_201) zk) ?_
        have z3 : (ub / 8) % 2 = 1 := by
          have q : ¬ ((ub / 8) % 2 = 0) := fun q => cB3 (hpw.2.2.1.mpr q)
          omega
        have hkn : k3.toInt.toNat < nn := by omega
        have hix := own_ix un k3 (by omega) (by omega) (by omega)
        obtain ⟨T24, h24, X24, e24, W24, V24, st24⟩ := own_stI X21 hx hZ e21 VK3 (i := (nn - 1 - k3.toInt.toNat)) (by show (((un - (1 : Int32)) - k3)).toInt.toNat = _; omega) (own_i0 (j := (nn - 1 - k3.toInt.toNat)) (by omega)).2 (by omega) (g := (mkF m 202 #[.val (.int p1), .val (.int p2), .val (.int p3), .val (.int p4), .val (.int p5), .val (.int um), .val (.int (1 : Int32)), .val (.int un), .val (.ref b16), .val (.int k3), .val (.long m3), .second, .unset, .unset, .unset] [(.int (3 : Int32)), (.int ((un - (1 : Int32)) - k3)), (.ref b16)])) rfl rfl (hb hby at_202)
        refine own_st (B := (T24.setTop (mkF m 203 #[.val (.int p1), .val (.int p2), .val (.int p3), .val (.int p4), .val (.int p5), .val (.int um), .val (.int (1 : Int32)), .val (.int un), .val (.ref b16), .val (.int k3), .val (.long m3), .second, .unset, .unset, .unset] []))) st24 ?_
        have N24 := Fr.snoc X24 N21 g_b16
        refine own_st (B := (T24.setTop (mkF m 206 #[.val (.int p1), .val (.int p2), .val (.int p3), .val (.int p4), .val (.int p5), .val (.int um), .val (.int (1 : Int32)), .val (.int un), .val (.ref b16), .val (.int (k3 + (1 : Int32))), .val (.long m3), .second, .unset, .unset, .unset] []))) (fun _ zk => XS.iinc X24.here hx rfl (hb hby at_203) rfl (l' := #[.val (.int p1), .val (.int p2), .val (.int p3), .val (.int p4), .val (.int p5), .val (.int um), .val (.int (1 : Int32)), .val (.int un), .val (.ref b16), .val (.int (k3 + (1 : Int32))), .val (.long m3), .second, .unset, .unset, .unset]) rfl zk) ?_
        refine own_st (B := (T24.setTop (mkF m 208 #[.val (.int p1), .val (.int p2), .val (.int p3), .val (.int p4), .val (.int p5), .val (.int um), .val (.int (1 : Int32)), .val (.int un), .val (.ref b16), .val (.int (k3 + (1 : Int32))), .val (.long m3), .second, .unset, .unset, .unset] [(.long m3)]))) (fun _ zk => XS.lload X24.here hx rfl (hb hby at_206) rfl zk) ?_
        refine own_st (B := (T24.setTop (mkF m 210 #[.val (.int p1), .val (.int p2), .val (.int p3), .val (.int p4), .val (.int p5), .val (.int um), .val (.int (1 : Int32)), .val (.int un), .val (.ref b16), .val (.int (k3 + (1 : Int32))), .val (.long m3), .second, .unset, .unset, .unset] [(.int p5), (.long m3)]))) (fun _ zk => XS.iload X24.here hx rfl (hb hby at_208) rfl zk) ?_
        refine own_st (B := (T24.setTop (mkF m 211 #[.val (.int p1), .val (.int p2), .val (.int p3), .val (.int p4), .val (.int p5), .val (.int um), .val (.int (1 : Int32)), .val (.int un), .val (.ref b16), .val (.int (k3 + (1 : Int32))), .val (.long m3), .second, .unset, .unset, .unset] [(.long (p5.toInt64)), (.long m3)]))) (fun _ zk => XS.i2l X24.here hx rfl (hb hby at_210) rfl zk) ?_
        refine own_st (B := (T24.setTop (mkF m 212 #[.val (.int p1), .val (.int p2), .val (.int p3), .val (.int p4), .val (.int p5), .val (.int um), .val (.int (1 : Int32)), .val (.int un), .val (.ref b16), .val (.int (k3 + (1 : Int32))), .val (.long m3), .second, .unset, .unset, .unset] [(.long (m3 + (p5.toInt64)))]))) (fun _ zk => XS.ladd X24.here hx rfl (hb hby at_211) rfl zk) ?_
        refine own_st (B := (T24.setTop (mkF m 214 #[.val (.int p1), .val (.int p2), .val (.int p3), .val (.int p4), .val (.int p5), .val (.int um), .val (.int (1 : Int32)), .val (.int un), .val (.ref b16), .val (.int (k3 + (1 : Int32))), .val (.long (m3 + (p5.toInt64))), .second, .unset, .unset, .unset] []))) (fun _ zk => XS.lstore X24.here hx rfl (hb hby at_212) rfl (l' := #[.val (.int p1), .val (.int p2), .val (.int p3), .val (.int p4), .val (.int p5), .val (.int um), .val (.int (1 : Int32)), .val (.int un), .val (.ref b16), .val (.int (k3 + (1 : Int32))), .val (.long (m3 + (p5.toInt64))), .second, .unset, .unset, .unset]) rfl zk) ?_
        have hka := own_add1 k3 (by omega)
        have hsb := own_Sb (W := (own_W p2 p3 p4 p5)) (f := f3) (lo := (nn - k3.toInt.toNat)) (own_Wb p2 p3 p4 p5) k3.toInt.toNat
        have hse := inv3.2
        have hsa := own_adds m3 p5 (by omega)
        have hlo : nn - k3.toInt.toNat = (nn - 1 - k3.toInt.toNat) + 1 := by omega
        have inv' := own_inv_front (hlo ▸ inv3) (3 : Int32) (by decide)
        have VN : own_AV Z h24 b16 .int nn (fun i => .int ((fun q => if q = (nn - 1 - k3.toInt.toNat) then (3 : Int32) else f3 q) i)) := V24.congr fun i hi => by
          show (if i = (nn - 1 - k3.toInt.toNat) then Value.int (3 : Int32) else Value.int (f3 i)) = Value.int (if i = (nn - 1 - k3.toInt.toNat) then (3 : Int32) else f3 i)
          by_cases e' : i = (nn - 1 - k3.toInt.toNat)
          · rw [if_pos e', if_pos e']
          · rw [if_neg e', if_neg e']
        exact KB3 _ _ _ X24 e24 N24 _ _ _ VN (by omega) (own_castinv inv' (by omega) (by omega) (by rw [hsa, show (own_W p2 p3 p4 p5 (3 : Int32).toInt.toNat).toInt = p5.toInt from c_i2l p5]))
    intro T23 h23 lc23 X23 e23 N23 k4 m4 f4 VK4 hk4 inv4
    have ZK : n0 ≤ h23.size := Nat.le_of_lt (Nat.lt_of_le_of_lt g_b16 VK4.lt)
    refine own_st (B := (T23.setTop (mkF m 215 #[.val (.int p1), .val (.int p2), .val (.int p3), .val (.int p4), .val (.int p5), .val (.int um), .val (.int (1 : Int32)), .val (.int un), .val (.ref b16), .val (.int k4), .val (.long m4), .second, .unset, .unset, .unset] [(.int (4 : Int32))]))) (fun _ zk => XS.iconst X23.here hx rfl (hb hby at_214) zk) ?_
    obtain ⟨T25, h25, k25, X25, e25, E25, A25, st25⟩ := newP X23 hx hZ (hw _ (List.mem_of_getElem? (i := 1) rfl)) e23 (g := (mkF m 215 #[.val (.int p1), .val (.int p2), .val (.int p3), .val (.int p4), .val (.int p5), .val (.int um), .val (.int (1 : Int32)), .val (.int un), .val (.ref b16), .val (.int k4), .val (.long m4), .second, .unset, .unset, .unset] [(.int (4 : Int32))])) rfl (hb hby at_215) rfl (by decide) (cap := 4) (by decide) (by decide) (by decide) (by decide)
    obtain ⟨b25, g25⟩ : ∃ z, z = h23.size := ⟨_, rfl⟩
    rw [← g25] at A25 st25
    have g_b25 : n0 ≤ b25 := Nat.le_trans ZK (Nat.le_of_eq g25.symm)
    have Z25 : n0 ≤ h25.size := Nat.le_trans ZK E25.1
    refine own_st (B := (T25.setTop (mkF m 217 #[.val (.int p1), .val (.int p2), .val (.int p3), .val (.int p4), .val (.int p5), .val (.int um), .val (.int (1 : Int32)), .val (.int un), .val (.ref b16), .val (.int k4), .val (.long m4), .second, .unset, .unset, .unset] [(.ref b25)]))) st25 ?_
    have D0 : own_AV Z h25 b25 .double 4 (fun _ => defaultValue .double) := own_AV.new A25 (by decide)
    have nxy : b16 ≠ b25 := Nat.ne_of_lt (Nat.lt_of_lt_of_le VK4.lt (Nat.le_of_eq g25.symm))
    refine own_st (B := (T25.setTop (mkF m 219 #[.val (.int p1), .val (.int p2), .val (.int p3), .val (.int p4), .val (.int p5), .val (.int um), .val (.int (1 : Int32)), .val (.int un), .val (.ref b16), .val (.int k4), .val (.long m4), .second, .val (.ref b25), .unset, .unset] []))) (fun _ zk => XS.astore X25.here hx rfl (hb hby at_217) rfl rfl (l' := #[.val (.int p1), .val (.int p2), .val (.int p3), .val (.int p4), .val (.int p5), .val (.int um), .val (.int (1 : Int32)), .val (.int un), .val (.ref b16), .val (.int k4), .val (.long m4), .second, .val (.ref b25), .unset, .unset]) rfl zk) ?_
    refine own_st (B := (T25.setTop (mkF m 221 #[.val (.int p1), .val (.int p2), .val (.int p3), .val (.int p4), .val (.int p5), .val (.int um), .val (.int (1 : Int32)), .val (.int un), .val (.ref b16), .val (.int k4), .val (.long m4), .second, .val (.ref b25), .unset, .unset] [(.ref b25)]))) (fun _ zk => XS.aload X25.here hx rfl (hb hby at_219) rfl rfl zk) ?_
    refine own_st (B := (T25.setTop (mkF m 222 #[.val (.int p1), .val (.int p2), .val (.int p3), .val (.int p4), .val (.int p5), .val (.int um), .val (.int (1 : Int32)), .val (.int un), .val (.ref b16), .val (.int k4), .val (.long m4), .second, .val (.ref b25), .unset, .unset] [(.int (0 : Int32)), (.ref b25)]))) (fun _ zk => XS.iconst X25.here hx rfl (hb hby at_221) zk) ?_
    refine own_st (B := (T25.setTop (mkF m 223 #[.val (.int p1), .val (.int p2), .val (.int p3), .val (.int p4), .val (.int p5), .val (.int um), .val (.int (1 : Int32)), .val (.int un), .val (.ref b16), .val (.int k4), .val (.long m4), .second, .val (.ref b25), .unset, .unset] [(.int p2), (.int (0 : Int32)), (.ref b25)]))) (fun _ zk => XS.iloadN X25.here hx rfl (hb hby at_222) rfl zk) ?_
    refine own_st (B := (T25.setTop (mkF m 224 #[.val (.int p1), .val (.int p2), .val (.int p3), .val (.int p4), .val (.int p5), .val (.int um), .val (.int (1 : Int32)), .val (.int un), .val (.ref b16), .val (.int k4), .val (.long m4), .second, .val (.ref b25), .unset, .unset] [(.double (FP.l2d p2.toInt64)), (.int (0 : Int32)), (.ref b25)]))) (fun _ zk => XS.i2dS X25.here hx rfl (hb hby at_223) rfl (i2d_w _) zk) ?_
    obtain ⟨T26, h26, X26, e26, W26, V26, st26⟩ := own_stD X25 hx hZ e25 D0 (i := 0) (by decide) (by decide) (by decide) (g := (mkF m 224 #[.val (.int p1), .val (.int p2), .val (.int p3), .val (.int p4), .val (.int p5), .val (.int um), .val (.int (1 : Int32)), .val (.int un), .val (.ref b16), .val (.int k4), .val (.long m4), .second, .val (.ref b25), .unset, .unset] [(.double (FP.l2d p2.toInt64)), (.int (0 : Int32)), (.ref b25)])) rfl rfl (hb hby at_224)
    refine own_st (B := (T26.setTop (mkF m 225 #[.val (.int p1), .val (.int p2), .val (.int p3), .val (.int p4), .val (.int p5), .val (.int um), .val (.int (1 : Int32)), .val (.int un), .val (.ref b16), .val (.int k4), .val (.long m4), .second, .val (.ref b25), .unset, .unset] []))) st26 ?_
    have N26 := Fr.snoc X26 N23 g_b25
    refine own_st (B := (T26.setTop (mkF m 227 #[.val (.int p1), .val (.int p2), .val (.int p3), .val (.int p4), .val (.int p5), .val (.int um), .val (.int (1 : Int32)), .val (.int un), .val (.ref b16), .val (.int k4), .val (.long m4), .second, .val (.ref b25), .unset, .unset] [(.ref b25)]))) (fun _ zk => XS.aload X26.here hx rfl (hb hby at_225) rfl rfl zk) ?_
    refine own_st (B := (T26.setTop (mkF m 228 #[.val (.int p1), .val (.int p2), .val (.int p3), .val (.int p4), .val (.int p5), .val (.int um), .val (.int (1 : Int32)), .val (.int un), .val (.ref b16), .val (.int k4), .val (.long m4), .second, .val (.ref b25), .unset, .unset] [(.int (1 : Int32)), (.ref b25)]))) (fun _ zk => XS.iconst X26.here hx rfl (hb hby at_227) zk) ?_
    refine own_st (B := (T26.setTop (mkF m 229 #[.val (.int p1), .val (.int p2), .val (.int p3), .val (.int p4), .val (.int p5), .val (.int um), .val (.int (1 : Int32)), .val (.int un), .val (.ref b16), .val (.int k4), .val (.long m4), .second, .val (.ref b25), .unset, .unset] [(.int p3), (.int (1 : Int32)), (.ref b25)]))) (fun _ zk => XS.iloadN X26.here hx rfl (hb hby at_228) rfl zk) ?_
    refine own_st (B := (T26.setTop (mkF m 230 #[.val (.int p1), .val (.int p2), .val (.int p3), .val (.int p4), .val (.int p5), .val (.int um), .val (.int (1 : Int32)), .val (.int un), .val (.ref b16), .val (.int k4), .val (.long m4), .second, .val (.ref b25), .unset, .unset] [(.double (FP.l2d p3.toInt64)), (.int (1 : Int32)), (.ref b25)]))) (fun _ zk => XS.i2dS X26.here hx rfl (hb hby at_229) rfl (i2d_w _) zk) ?_
    obtain ⟨T27, h27, X27, e27, W27, V27, st27⟩ := own_stD X26 hx hZ e26 V26 (i := 1) (by decide) (by decide) (by decide) (g := (mkF m 230 #[.val (.int p1), .val (.int p2), .val (.int p3), .val (.int p4), .val (.int p5), .val (.int um), .val (.int (1 : Int32)), .val (.int un), .val (.ref b16), .val (.int k4), .val (.long m4), .second, .val (.ref b25), .unset, .unset] [(.double (FP.l2d p3.toInt64)), (.int (1 : Int32)), (.ref b25)])) rfl rfl (hb hby at_230)
    refine own_st (B := (T27.setTop (mkF m 231 #[.val (.int p1), .val (.int p2), .val (.int p3), .val (.int p4), .val (.int p5), .val (.int um), .val (.int (1 : Int32)), .val (.int un), .val (.ref b16), .val (.int k4), .val (.long m4), .second, .val (.ref b25), .unset, .unset] []))) st27 ?_
    have N27 := Fr.snoc X27 N26 g_b25
    refine own_st (B := (T27.setTop (mkF m 233 #[.val (.int p1), .val (.int p2), .val (.int p3), .val (.int p4), .val (.int p5), .val (.int um), .val (.int (1 : Int32)), .val (.int un), .val (.ref b16), .val (.int k4), .val (.long m4), .second, .val (.ref b25), .unset, .unset] [(.ref b25)]))) (fun _ zk => XS.aload X27.here hx rfl (hb hby at_231) rfl rfl zk) ?_
    refine own_st (B := (T27.setTop (mkF m 234 #[.val (.int p1), .val (.int p2), .val (.int p3), .val (.int p4), .val (.int p5), .val (.int um), .val (.int (1 : Int32)), .val (.int un), .val (.ref b16), .val (.int k4), .val (.long m4), .second, .val (.ref b25), .unset, .unset] [(.int (2 : Int32)), (.ref b25)]))) (fun _ zk => XS.iconst X27.here hx rfl (hb hby at_233) zk) ?_
    refine own_st (B := (T27.setTop (mkF m 235 #[.val (.int p1), .val (.int p2), .val (.int p3), .val (.int p4), .val (.int p5), .val (.int um), .val (.int (1 : Int32)), .val (.int un), .val (.ref b16), .val (.int k4), .val (.long m4), .second, .val (.ref b25), .unset, .unset] [(.int p4), (.int (2 : Int32)), (.ref b25)]))) (fun _ zk => XS.iloadN X27.here hx rfl (hb hby at_234) rfl zk) ?_
    refine own_st (B := (T27.setTop (mkF m 236 #[.val (.int p1), .val (.int p2), .val (.int p3), .val (.int p4), .val (.int p5), .val (.int um), .val (.int (1 : Int32)), .val (.int un), .val (.ref b16), .val (.int k4), .val (.long m4), .second, .val (.ref b25), .unset, .unset] [(.double (FP.l2d p4.toInt64)), (.int (2 : Int32)), (.ref b25)]))) (fun _ zk => XS.i2dS X27.here hx rfl (hb hby at_235) rfl (i2d_w _) zk) ?_
    obtain ⟨T28, h28, X28, e28, W28, V28, st28⟩ := own_stD X27 hx hZ e27 V27 (i := 2) (by decide) (by decide) (by decide) (g := (mkF m 236 #[.val (.int p1), .val (.int p2), .val (.int p3), .val (.int p4), .val (.int p5), .val (.int um), .val (.int (1 : Int32)), .val (.int un), .val (.ref b16), .val (.int k4), .val (.long m4), .second, .val (.ref b25), .unset, .unset] [(.double (FP.l2d p4.toInt64)), (.int (2 : Int32)), (.ref b25)])) rfl rfl (hb hby at_236)
    refine own_st (B := (T28.setTop (mkF m 237 #[.val (.int p1), .val (.int p2), .val (.int p3), .val (.int p4), .val (.int p5), .val (.int um), .val (.int (1 : Int32)), .val (.int un), .val (.ref b16), .val (.int k4), .val (.long m4), .second, .val (.ref b25), .unset, .unset] []))) st28 ?_
    have N28 := Fr.snoc X28 N27 g_b25
    refine own_st (B := (T28.setTop (mkF m 239 #[.val (.int p1), .val (.int p2), .val (.int p3), .val (.int p4), .val (.int p5), .val (.int um), .val (.int (1 : Int32)), .val (.int un), .val (.ref b16), .val (.int k4), .val (.long m4), .second, .val (.ref b25), .unset, .unset] [(.ref b25)]))) (fun _ zk => XS.aload X28.here hx rfl (hb hby at_237) rfl rfl zk) ?_
    refine own_st (B := (T28.setTop (mkF m 240 #[.val (.int p1), .val (.int p2), .val (.int p3), .val (.int p4), .val (.int p5), .val (.int um), .val (.int (1 : Int32)), .val (.int un), .val (.ref b16), .val (.int k4), .val (.long m4), .second, .val (.ref b25), .unset, .unset] [(.int (3 : Int32)), (.ref b25)]))) (fun _ zk => XS.iconst X28.here hx rfl (hb hby at_239) zk) ?_
    refine own_st (B := (T28.setTop (mkF m 242 #[.val (.int p1), .val (.int p2), .val (.int p3), .val (.int p4), .val (.int p5), .val (.int um), .val (.int (1 : Int32)), .val (.int un), .val (.ref b16), .val (.int k4), .val (.long m4), .second, .val (.ref b25), .unset, .unset] [(.int p5), (.int (3 : Int32)), (.ref b25)]))) (fun _ zk => XS.iload X28.here hx rfl (hb hby at_240) rfl zk) ?_
    refine own_st (B := (T28.setTop (mkF m 243 #[.val (.int p1), .val (.int p2), .val (.int p3), .val (.int p4), .val (.int p5), .val (.int um), .val (.int (1 : Int32)), .val (.int un), .val (.ref b16), .val (.int k4), .val (.long m4), .second, .val (.ref b25), .unset, .unset] [(.double (FP.l2d p5.toInt64)), (.int (3 : Int32)), (.ref b25)]))) (fun _ zk => XS.i2dS X28.here hx rfl (hb hby at_242) rfl (i2d_w _) zk) ?_
    obtain ⟨T29, h29, X29, e29, W29, V29, st29⟩ := own_stD X28 hx hZ e28 V28 (i := 3) (by decide) (by decide) (by decide) (g := (mkF m 243 #[.val (.int p1), .val (.int p2), .val (.int p3), .val (.int p4), .val (.int p5), .val (.int um), .val (.int (1 : Int32)), .val (.int un), .val (.ref b16), .val (.int k4), .val (.long m4), .second, .val (.ref b25), .unset, .unset] [(.double (FP.l2d p5.toInt64)), (.int (3 : Int32)), (.ref b25)])) rfl rfl (hb hby at_243)
    refine own_st (B := (T29.setTop (mkF m 244 #[.val (.int p1), .val (.int p2), .val (.int p3), .val (.int p4), .val (.int p5), .val (.int um), .val (.int (1 : Int32)), .val (.int un), .val (.ref b16), .val (.int k4), .val (.long m4), .second, .val (.ref b25), .unset, .unset] []))) st29 ?_
    have N29 := Fr.snoc X29 N28 g_b25
    have VF := (((((VK4.ext E25).other W26 nxy).other W27 nxy).other W28 nxy).other W29 nxy)
    have VG : own_AV Z h29 b25 .double 4 (fun i => .double (FP.l2d ((own_W p2 p3 p4 p5) i))) := V29.congr fun i hi => by
      have hi' : i = 0 ∨ i = 1 ∨ i = 2 ∨ i = 3 := by omega
      rcases hi' with rfl | rfl | rfl | rfl <;> rfl
    have hkn : k4.toInt.toNat = nn := by omega
    rw [hkn] at inv4
    obtain ⟨hf4, hs4⟩ := inv4
    simp only [Nat.sub_self, Nat.zero_add] at hf4 hs4
    refine own_st (B := (T29.setTop (mkF m 246 #[.val (.int p1), .val (.int p2), .val (.int p3), .val (.int p4), .val (.int p5), .val (.int um), .val (.int (1 : Int32)), .val (.int un), .val (.ref b16), .val (.int k4), .val (.long m4), .second, .val (.ref b25), .unset, .unset] [(.ref b16)]))) (fun _ zk => XS.aload X29.here hx rfl (hb hby at_244) rfl rfl zk) ?_
    refine own_st (B := (T29.setTop (mkF m 248 #[.val (.int p1), .val (.int p2), .val (.int p3), .val (.int p4), .val (.int p5), .val (.int um), .val (.int (1 : Int32)), .val (.int un), .val (.ref b16), .val (.int k4), .val (.long m4), .second, .val (.ref b25), .unset, .unset] [(.ref b25), (.ref b16)]))) (fun _ zk => XS.aload X29.here hx rfl (hb hby at_246) rfl rfl zk) ?_
    obtain ⟨v30, T30, L30, X30, Q30, st30⟩ := own_callS (W := 0) X29 hx hZ (y := (⟨"com/example/parley/parley/ConflictGraph", "weightOf", "([I[D)D"⟩ : MethodName)) hown (hw _ (List.mem_of_getElem? (i := 2) rfl)) (hw _ (List.mem_of_getElem? (i := 3) rfl)) (hw _ (List.mem_of_getElem? (i := 4) rfl)) (hw _ (List.mem_of_getElem? (i := 5) rfl)) (by decide) e29 (rm_wo l Z a0 hw [] b16 b25 un nn f4 (own_W p2 p3 p4 p5) m4 h29 VF VG hnn (by omega) (fun i hi => hf4 i (Nat.zero_le _) hi) (own_Wb p2 p3 p4 p5) hs4.symm) (g := (mkF m 248 #[.val (.int p1), .val (.int p2), .val (.int p3), .val (.int p4), .val (.int p5), .val (.int um), .val (.int (1 : Int32)), .val (.int un), .val (.ref b16), .val (.int k4), .val (.long m4), .second, .val (.ref b25), .unset, .unset] [(.ref b25), (.ref b16)])) rfl (by rw [hml]; rfl) (argsL := [(.ref b16), (.ref b25)]) (rest := []) (lenOf pd_0 rfl) rfl rfl (by show 2 * 0 + _ ≤ _; exact Nat.le_of_eq rfl) (hb hby at_248) (by decide) (by decide) (by decide) (by decide)
    obtain ⟨rfl, rfl, q30⟩ := Q30
    refine own_st (B := (T30.setTop (mkF m 251 #[.val (.int p1), .val (.int p2), .val (.int p3), .val (.int p4), .val (.int p5), .val (.int um), .val (.int (1 : Int32)), .val (.int un), .val (.ref b16), .val (.int k4), .val (.long m4), .second, .val (.ref b25), .unset, .unset] [(.double (FP.l2d m4))]))) st30 ?_
    refine own_st (B := (T30.setTop (mkF m 253 #[.val (.int p1), .val (.int p2), .val (.int p3), .val (.int p4), .val (.int p5), .val (.int um), .val (.int (1 : Int32)), .val (.int un), .val (.ref b16), .val (.int k4), .val (.long m4), .second, .val (.ref b25), .val (.double (FP.l2d m4)), .second] []))) (fun _ zk => XS.dstore X30.here hx rfl (hb hby at_251) rfl (l' := #[.val (.int p1), .val (.int p2), .val (.int p3), .val (.int p4), .val (.int p5), .val (.int um), .val (.int (1 : Int32)), .val (.int un), .val (.ref b16), .val (.int k4), .val (.long m4), .second, .val (.ref b25), .val (.double (FP.l2d m4)), .second]) rfl zk) ?_
    refine own_st (B := (T30.setTop (mkF m 255 #[.val (.int p1), .val (.int p2), .val (.int p3), .val (.int p4), .val (.int p5), .val (.int um), .val (.int (1 : Int32)), .val (.int un), .val (.ref b16), .val (.int k4), .val (.long m4), .second, .val (.ref b25), .val (.double (FP.l2d m4)), .second] [(.double (FP.l2d m4))]))) (fun _ zk => XS.dload X30.here hx rfl (hb hby at_253) rfl zk) ?_
    refine own_st (B := (T30.setTop (mkF m 257 #[.val (.int p1), .val (.int p2), .val (.int p3), .val (.int p4), .val (.int p5), .val (.int um), .val (.int (1 : Int32)), .val (.int un), .val (.ref b16), .val (.int k4), .val (.long m4), .second, .val (.ref b25), .val (.double (FP.l2d m4)), .second] [(.long m4), (.double (FP.l2d m4))]))) (fun _ zk => XS.lload X30.here hx rfl (hb hby at_255) rfl zk) ?_
    refine own_st (B := (T30.setTop (mkF m 258 #[.val (.int p1), .val (.int p2), .val (.int p3), .val (.int p4), .val (.int p5), .val (.int um), .val (.int (1 : Int32)), .val (.int un), .val (.ref b16), .val (.int k4), .val (.long m4), .second, .val (.ref b25), .val (.double (FP.l2d m4)), .second] [(.double (FP.l2d m4)), (.double (FP.l2d m4))]))) (fun _ zk => XS.l2dS X30.here hx rfl (hb hby at_257) rfl rfl zk) ?_
    refine own_st (B := (T30.setTop (mkF m 259 #[.val (.int p1), .val (.int p2), .val (.int p3), .val (.int p4), .val (.int p5), .val (.int um), .val (.int (1 : Int32)), .val (.int un), .val (.ref b16), .val (.int k4), .val (.long m4), .second, .val (.ref b25), .val (.double (FP.l2d m4)), .second] [(.int (0 : Int32))]))) (fun _ zk => XS.dcmpS X30.here hx rfl (hb hby at_258) rfl (dcmpV_self (nn_w rfl) _) zk) ?_
    refine own_st (B := (T30.setTop (mkF m 262 #[.val (.int p1), .val (.int p2), .val (.int p3), .val (.int p4), .val (.int p5), .val (.int um), .val (.int (1 : Int32)), .val (.int un), .val (.ref b16), .val (.int k4), .val (.long m4), .second, .val (.ref b25), .val (.double (FP.l2d m4)), .second] []))) (fun _ zk => XS.ifNo X30.here hx rfl (hb hby at_259) rfl ((if0 _ _).trans (teq (by decide)).2) zk) ?_
    refine own_st (B := (T30.setTop (mkF m 263 #[.val (.int p1), .val (.int p2), .val (.int p3), .val (.int p4), .val (.int p5), .val (.int um), .val (.int (1 : Int32)), .val (.int un), .val (.ref b16), .val (.int k4), .val (.long m4), .second, .val (.ref b25), .val (.double (FP.l2d m4)), .second] [(.int (1 : Int32))]))) (fun _ zk => XS.iconst X30.here hx rfl (hb hby at_262) zk) ?_
    refine own_st (B := (T30.setTop (mkF m 267 #[.val (.int p1), .val (.int p2), .val (.int p3), .val (.int p4), .val (.int p5), .val (.int um), .val (.int (1 : Int32)), .val (.int un), .val (.ref b16), .val (.int k4), .val (.long m4), .second, .val (.ref b25), .val (.double (FP.l2d m4)), .second] [(.int (1 : Int32))]))) (fun _ zk => XS.goto X30.here hx rfl (pc0 := 263) (pc' := 267) rfl (hb hby at_263) (by decide) (by decide) zk) ?_
    exact own_retN X30 hx hlk (t := .boolean) hret (by simp) (hb hby at_267) (by show own_Q0 n0 _ T30.heap _; rw [q30]; exact ⟨rfl, by simpa using N29⟩) (by decide) (by decide)
set_option maxRecDepth 65536 in
set_option maxHeartbeats 40000000 in
theorem comes_1 {Post : Tables → Env → Array Value → State → Outcome → State → Prop} (hpost : ∀ tb e args s v u, (limb_1_1.after args s (.returned v) u = true ∧ limb_1_2.after args s (.returned v) u = true ∧ True) → FrameEnd s (.returned v) u (Jvm.fieldLocs frame_1_writes args s ++ Jvm.arrayLocs frame_1_arrays args s ++ Jvm.staticLocs frame_1_statics s) 16 128 → Post tb e args s (.returned v) u) :
    ArmFor flags0 classFile x code maxLocals ret World_1 tables_1 room_1 Calls_1 rest_1 Pre_1 Post := by
  intro l hfl _ _ p e ha hc hk s m args below hf hA hF happ hP
  obtain ⟨hcalls, hrest, hpre⟩ := hP
  obtain ⟨-, -, -, hnamed, -, -, -, hat⟩ := (Spec.applies_iff hf).mp happ
  obtain ⟨hg, hn⟩ := and_e (Cond.before_iff.mp (show (Jvm.Cond.and given_1 narrow_1).before args s = true from hpre))
  obtain ⟨g1, g2⟩ := and_e hg
  obtain ⟨g3, g4⟩ := and_e g2
  obtain ⟨g5, g6⟩ := and_e g4
  obtain ⟨g7, g8⟩ := and_e g6
  obtain ⟨g9, g10⟩ := and_e g8
  obtain ⟨w0, w1, w2, w3, w4, rfl⟩ : ∃ w0 w1 w2 w3 w4 : Value, args = #[w0, w1, w2, w3, w4] := by
    have hs : args.size = 5 := by simpa [Cond.value, given_1] using g1
    obtain ⟨L⟩ := args
    match L, hs with
    | [w0, w1, w2, w3, w4], _ => exact ⟨w0, w1, w2, w3, w4, rfl⟩
  have hw := fun d (hd : d ∈ tables_1) => atoms_spec (ws := Jvm.Cond.code x code maxLocals ret :: tables_1) hat d (List.mem_cons_of_mem _ hd)
  have hfit : Fit s := fun {y c} hc i hi => by
    obtain ⟨ha, rfl⟩ := Array.getElem?_eq_some_iff.mp hc
    have q := List.all_eq_true.mp ((Array.all_eq_true_iff_forall_mem.mp hF) _ (Array.getElem_mem ha)) i (List.mem_range.mpr hi)
    simpa [Array.getElem?_eq_getElem hi] using q
  obtain ⟨i0, ei0⟩ := is_v g3
  obtain rfl : w0 = (.int i0) := Option.some.inj ei0
  obtain ⟨i1, ei1⟩ := is_v g5
  obtain rfl : w1 = (.int i1) := Option.some.inj ei1
  obtain ⟨i2, ei2⟩ := is_v g7
  obtain rfl : w2 = (.int i2) := Option.some.inj ei2
  obtain ⟨i3, ei3⟩ := is_v g9
  obtain rfl : w3 = (.int i3) := Option.some.inj ei3
  obtain ⟨i4, ei4⟩ := is_v g10
  obtain rfl : w4 = (.int i4) := Option.some.inj ei4
  obtain ⟨n, o, h1, h2, h3, _, L, rfl, ⟨rfl, N⟩, hq⟩ := rm_law l s _ hw tables_1 i0 i1 i2 i3 i4 s.heap s.heap.size (Nat.le_refl _) p e ha hc hk s m _ below hf ((Spec.applies_iff_loose hf).mp happ).1 ⟨rfl, State.Warmed39.refl s, rfl⟩ trivial
  refine ⟨n, _, h1, h2, h3, hpost _ _ _ _ _ _ ⟨Cond.after_iff.mpr rfl, Cond.after_iff.mpr (eq_i res_at (Term.int_eval (1)) rfl), trivial⟩ ⟨hq.1, hq.2.1, (hq.2.2.sift fun y hy => Or.inr (N y hy)).mono (by decide) (by decide)⟩⟩
theorem main_1_1 : Claimed_1_1 := comes_1 fun _ _ _ _ _ _ h hF => ⟨h.1, hF⟩
theorem main_1_2 : Claimed_1_2 := comes_1 fun _ _ _ _ _ _ h hF => ⟨h.2.1, hF⟩
end Jvm.Pilot.@@N@@
namespace Jvm.Pilot.@@N@@
open Jvm Jvm.ClassFile Sem Op Lib Jvm.Free Jvm.Stand Jvm.Pilot.@@N@@.Jvm.D
/-! MADE BY PROGRAM (witnessworld.py) out of the Statement's table words and the real class files: 9 classes; the members and pool entries that the words name. The judged class is class 1, her method 1. -/
namespace start1
open Jvm.ClassFile
def u (s : String) : CpInfo := .utf8 (stringToUtf16 s)
/-- a pool by its gaps: so many unusable entries, then the entry; so many at the end -/
def gap : Nat → List CpInfo → List CpInfo
  | 0, r => r
  | n + 1, r => .unusable :: gap n r
def poolList (es : List (Nat × CpInfo)) (last : Nat) : List CpInfo := es.foldr (fun e r => gap e.1 (e.2 :: r)) (gap last [])
def pool (es : List (Nat × CpInfo)) (last : Nat) : Array CpInfo := ⟨poolList es last⟩
def fileOf (pool : Array CpInfo) (this : Nat) (attrs : Array Attribute := #[]) (ms : Array MethodInfo := #[]) (fl : Nat := 33) (sup : Nat := 0) (ifs : Array Nat := #[]) (fds : Array FieldInfo := #[]) : ClassFile where
  minorVersion := 0
  majorVersion := 65
  constantPool := pool
  accessFlags := fl
  thisClass := this
  superClass := sup
  interfaces := ifs
  fields := fds
  methods := ms
  attributes := attrs
def plain (name : String) (sup : Option ClassId) : Class where
  name := name
  kind := .ordinary
  loader := none
  accessFlags := 33
  super := sup
  interfaces := #[]
  cf := none
  fields := #[]
  methods := #[]
  instanceTypes := #[]
  staticTypes := #[]
  resolved := #[]
  callSites := []
  init := .initialized
  statics := none
  mirror := none

def pool0 : Array CpInfo := pool [(5, u "<init>"), (0, u "()V"), (1, .class_ 10), (1, u "java/lang/Object")] 113

def k0m0 : Method := { name := "<init>", desc := "()V", sig := { parameters := [], returnType := none }, accessFlags := 1, code := none }
/-- java/lang/Object -/
def k0 : Class := { plain "java/lang/Object" none with
  accessFlags := 33
  interfaces := #[]
  cf := some (fileOf pool0 8 #[] #[{ accessFlags := 1, nameIndex := 5, descriptorIndex := 6, attributes := #[] }] 33 0 #[] #[])
  fields := #[]
  methods := #[k0m0]
  instanceTypes := #[]
  staticTypes := #[]
  resolved := Array.replicate 124 none
  statics := none }

def pool1 : Array CpInfo := pool [(2, .class_ 4), (1, u "java/lang/Object"), (0, u "<init>"), (0, u "()V"), (0, .methodref 8 9), (0, .class_ 10), (0, .nameAndType 11 12), (0, u "com/example/parley/parley/ConflictGraph"), (0, u "weightOf"), (0, u "([I[D)D"), (0, .class_ 14), (0, u "com/example/parley/parley/ConflictGraphWeightOfPinLaw"), (2, u "law"), (0, u "(IIIII)Z")] 7

def k1m0 : Method := { name := "<init>", desc := "()V", sig := { parameters := [], returnType := none }, accessFlags := 2, code := none }
def k1c1 : Code := { maxStack := 4, maxLocals := 15, code := code, exceptionTable := #[], attributes := #[] }
def k1m1 : Method := { name := "law", desc := "(IIIII)Z", sig := { parameters := [.int, .int, .int, .int, .int], returnType := some .boolean }, accessFlags := 9, code := some k1c1 }
/-- com/example/parley/parley/ConflictGraphWeightOfPinLaw -/
def k1 : Class := { plain "com/example/parley/parley/ConflictGraphWeightOfPinLaw" (some 0) with
  accessFlags := 49
  interfaces := #[]
  cf := some (fileOf pool1 13 #[] #[{ accessFlags := 2, nameIndex := 5, descriptorIndex := 6, attributes := #[] }, { accessFlags := 9, nameIndex := 17, descriptorIndex := 18, attributes := #[] }] 49 2 #[] #[])
  fields := #[]
  methods := #[k1m0, k1m1]
  instanceTypes := #[]
  staticTypes := #[]
  resolved := Array.replicate 26 none
  statics := none }

def pool2 : Array CpInfo := pool [(5, u "words"), (2, u "[[J"), (1, .class_ 12), (1, u "com/example/parley/parley/ConflictGraph"), (3, .class_ 18), (1, u "java/lang/Object"), (16, u "size"), (0, u "I"), (5, u "[D"), (4, u "weights"), (2, u "conflicts"), (72, u "weightOf"), (0, u "([I[D)D")] 35

def k2c0 : Code := { maxStack := 4, maxLocals := 8, code := prog_15_method_6_code, exceptionTable := #[], attributes := #[] }
def k2m0 : Method := { name := "weightOf", desc := "([I[D)D", sig := { parameters := [(.array .int), (.array .double)], returnType := some .double }, accessFlags := 8, code := some k2c0 }
/-- com/example/parley/parley/ConflictGraph -/
def k2 : Class := { plain "com/example/parley/parley/ConflictGraph" (some 0) with
  accessFlags := 48
  interfaces := #[]
  cf := some (fileOf pool2 10 #[] #[{ accessFlags := 8, nameIndex := 123, descriptorIndex := 124, attributes := #[] }] 48 16 #[] #[{ accessFlags := 18, nameIndex := 35, descriptorIndex := 36, attributes := #[] }, { accessFlags := 18, nameIndex := 5, descriptorIndex := 36, attributes := #[] }, { accessFlags := 18, nameIndex := 47, descriptorIndex := 42, attributes := #[] }, { accessFlags := 18, nameIndex := 50, descriptorIndex := 8, attributes := #[] }])
  fields := #[{ name := "size", type := .int, accessFlags := 18, slot := 0, constantValue := 0 }, { name := "words", type := .int, accessFlags := 18, slot := 1, constantValue := 0 }, { name := "weights", type := (.array .double), accessFlags := 18, slot := 2, constantValue := 0 }, { name := "conflicts", type := (.array (.array .long)), accessFlags := 18, slot := 3, constantValue := 0 }]
  methods := #[k2m0]
  instanceTypes := #[.int, .int, (.array .double), (.array (.array .long))]
  staticTypes := #[]
  resolved := Array.replicate 160 none
  statics := none }

def pool3 : Array CpInfo := pool [(1, u "java/lang/Cloneable"), (0, .class_ 1), (0, u "java/lang/Object"), (0, .class_ 3)] 3

/-- java/lang/Cloneable -/
def k3 : Class := { plain "java/lang/Cloneable" (some 0) with
  accessFlags := 1537
  interfaces := #[]
  cf := some (fileOf pool3 2 #[] #[] 1537 4 #[] #[])
  fields := #[]
  methods := #[]
  instanceTypes := #[]
  staticTypes := #[]
  resolved := Array.replicate 8 none
  statics := none }

def pool4 : Array CpInfo := pool [(1, u "java/io/Serializable"), (0, .class_ 1), (0, u "java/lang/Object"), (0, .class_ 3)] 3

/-- java/io/Serializable -/
def k4 : Class := { plain "java/io/Serializable" (some 0) with
  accessFlags := 1537
  interfaces := #[]
  cf := some (fileOf pool4 2 #[] #[] 1537 4 #[] #[])
  fields := #[]
  methods := #[]
  instanceTypes := #[]
  staticTypes := #[]
  resolved := Array.replicate 8 none
  statics := none }

/-- the primitive byte -/
def k5 : Class := { plain "byte" none with kind := .primitive 'B', accessFlags := 0x411 }
/-- [B -/
def k6 : Class := { plain "[B" (some 0) with kind := .array 5 .byte, interfaces := #[3, 4], accessFlags := 1041 }

/-- the primitive int -/
def k7 : Class := { plain "int" none with kind := .primitive 'I', accessFlags := 0x411 }
/-- [I -/
def k8 : Class := { plain "[I" (some 0) with kind := .array 7 .int, interfaces := #[3, 4], accessFlags := 1041 }

/-- the primitive double -/
def k9 : Class := { plain "double" none with kind := .primitive 'D', accessFlags := 0x411 }
/-- [D -/
def k10 : Class := { plain "[D" (some 0) with kind := .array 9 .double, interfaces := #[3, 4], accessFlags := 1041 }

def heap : Heap := #[]
def classes : Array Class := #[k0, k1, k2, k3, k4, k5, k6, k7, k8, k9, k10]
def interned : List (Array UInt16 × Addr) := []
def slotsUsed : Nat := 0
def theMethod : MethodId := ⟨1, 1⟩
def args0 : Array Value := #[.int 5, .int 9, .int 4, .int 7, .int 8]
def aboutOver (below : List Frame) : State where
  vm := { classes := classes, interned := interned.toArray }
  heap := heap
  slotsUsed := slotsUsed
  threads := #[{ frames := .invoking theMethod args0 :: below }]
def below0 : List Frame := [.native { method := ⟨0, 0⟩, args := #[] }]
def about1 : State := aboutOver below0
def p0 : Program := .bare "" "" ""
def e0 : Env := launch0.env 0 0 0
theorem w_frames : about1.frames = Frame.invoking theMethod args0 :: below0 := rfl
set_option maxRecDepth 65536 in
theorem w_args : argsFit about1.vm theMethod args0 = true := by decide +kernel
set_option maxRecDepth 65536 in
theorem w_heap : heapFits about1 = true := by decide +kernel
set_option maxRecDepth 65536 in
theorem w_runnable : about1.curStatus? = some .runnable := by decide +kernel
set_option maxRecDepth 65536 in
theorem w_alone : about1.alone = true := by decide +kernel
set_option maxRecDepth 65536 in
theorem w_named : about1.methodNamed? x = some theMethod := by decide +kernel
set_option maxRecDepth 65536 in
theorem w_hears : about1.hears theMethod below0 = true := by decide +kernel
set_option maxRecDepth 65536 in
theorem w_ripe : about1.ripe theMethod args0 below0 = true := by decide +kernel
theorem w_running : about1.status = .running := rfl
set_option maxRecDepth 65536 in
theorem w_room : about1.hasRoom e0.platform room_1 = true :=
  launch0.hasRoom_least _ room_1 (by decide +kernel) (by decide +kernel) (by decide +kernel) (by decide +kernel) (by decide +kernel) (by decide +kernel)
theorem allAtoms_all (ts : List Jvm.Cond) (a : Array Jvm.Value) (st : Jvm.State) : (allAtoms ts).before a st = ts.all (fun c => c.before a st) := by
  induction ts with
  | nil => rfl
  | cons c t ih =>
    show (Jvm.Cond.and c (allAtoms t)).before a st = _
    rw [Jvm.Cond.before_and, ih, List.all_cons]
def words1 : List Jvm.Cond := Jvm.Cond.code x code maxLocals ret :: tables_1
/-- a 'code' word, met by the world's own term for the bytes: nothing is compared byte by byte -/
theorem code_word {y : MethodName} {bytes : ByteArray} {mx : Nat} {rt : Option FieldType} {a : Array Value} {s : State} {m : MethodId} {meth : Method} {c : Code} (h1 : s.methodNamed? y = some m) (h2 : s.vm.method? m = some meth) (h3 : meth.code = some c) (h4 : c.code = bytes)
    (h5 : (c.maxLocals == mx && c.exceptionTable.isEmpty && decide (c.maxStack ≤ mostOperands) && decide (meth.sig.returnType = rt) && !meth.locks && decide (parseMethodDescriptor y.desc = some meth.sig)) = true) : (Jvm.Cond.code y bytes mx rt).before a s = true := by
  simp only [Bool.and_eq_true, beq_iff_eq, Bool.not_eq_true', decide_eq_true_eq] at h5
  obtain ⟨⟨⟨⟨⟨g1, g2⟩, g3⟩, g4⟩, g5⟩, g6⟩ := h5
  simp [Cond.before, Cond.holds, Cond.value, h1, h2, h3, h4, g1, g2, g3, g4, g5, g6]
def isCode : Jvm.Cond → Bool
  | .code _ _ _ _ => true
  | _ => false
theorem all_split {L : List Jvm.Cond} {P : Jvm.Cond → Bool} (h1 : L.all (fun c => isCode c || P c) = true) (h2 : ∀ c ∈ L.filter isCode, P c = true) : L.all P = true := by
  refine List.all_eq_true.mpr fun c hc => ?_
  have h := List.all_eq_true.mp h1 c hc
  rcases Bool.eq_false_or_eq_true (isCode c) with hi | hi
  · exact h2 c (List.mem_filter.mpr ⟨hc, hi⟩)
  · simpa [hi] using h
set_option maxRecDepth 65536 in
theorem w_c0 : (Jvm.Cond.code x code maxLocals ret).before args0 about1 = true := code_word (m := ⟨1, 1⟩) (meth := k1m1) (c := k1c1) (by decide +kernel) rfl rfl rfl (by decide +kernel)
set_option maxRecDepth 65536 in
theorem w_c1 : (Jvm.Cond.code ({ cls := "com/example/parley/parley/ConflictGraph", name := "weightOf", desc := "([I[D)D" } : Jvm.MethodName) prog_15_method_6_code (8 : Nat) (Option.some Jvm.ClassFile.FieldType.double)).before args0 about1 = true := code_word (m := ⟨2, 0⟩) (meth := k2m0) (c := k2c0) (by decide +kernel) rfl rfl rfl (by decide +kernel)
def codes1 : List Jvm.Cond := [Jvm.Cond.code x code maxLocals ret, Jvm.Cond.code ({ cls := "com/example/parley/parley/ConflictGraph", name := "weightOf", desc := "([I[D)D" } : Jvm.MethodName) prog_15_method_6_code (8 : Nat) (Option.some Jvm.ClassFile.FieldType.double)]
set_option maxRecDepth 65536 in
theorem codes_eq : words1.filter isCode = codes1 := rfl
theorem w_codes : ∀ c ∈ words1.filter isCode, c.before args0 about1 = true := by
  rw [codes_eq]
  intro c hc
  simp only [codes1, List.mem_cons, List.not_mem_nil, or_false] at hc
  rcases hc with rfl | rfl
  · exact w_c0
  · exact w_c1
set_option maxRecDepth 65536 in
theorem w_t1 : words1.all (fun c => isCode c || c.before args0 about1) = true := by decide +kernel
theorem w_tables : (allAtoms (Jvm.Cond.code x code maxLocals ret :: tables_1)).before args0 about1 = true := by
  rw [allAtoms_all]
  show words1.all (fun c => c.before args0 about1) = true
  refine all_split ?_ w_codes
  rw [w_t1]
set_option maxRecDepth 65536 in
theorem w_case : (Jvm.Cond.and given_1 narrow_1).before args0 about1 = true := by decide +kernel
theorem w_applies : (headSpec (Jvm.Cond.code x code maxLocals ret :: tables_1) room_1).applies x e0.platform about1 = true :=
  (Spec.applies_iff w_frames).mpr ⟨w_running, w_runnable, w_alone, w_named, w_hears, w_ripe, w_room, w_tables⟩
theorem atStart : AtStart classFile x code maxLocals ret World_1 tables_1 room_1 Calls_1 rest_1 Pre_1 launch0 p0 e0 about1 theMethod args0 below0 :=
  ⟨lists_1, trivial, launch0.admits_env _ _ _, launch0.least_env, fairChoices_fair.cas, fairChoices_fair.clock, w_frames, w_args, w_heap, w_applies, trivial, trivial, w_case⟩
end start1
theorem witness_1 : WitnessClaimed_1 := ⟨start1.p0, start1.e0, start1.about1, start1.theMethod, start1.args0, start1.below0, start1.atStart⟩
end Jvm.Pilot.@@N@@
