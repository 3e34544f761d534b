import JvmDerived
import JvmDerived.Pilot.@@N@@Statement
import JvmDerived.Pilot.@@N@@Code
set_option linter.unusedVariables false
set_option linter.unusedSimpArgs false
namespace Jvm.Pilot.@@N@@
open Jvm Jvm.ClassFile Sem Op Lib Jvm.Free Jvm.Stand Jvm.LawKit Jvm.RoadKit Bundle Jvm.Pilot.@@N@@.Jvm.D
/-! what is left of a run (own_Dn) and the steps towards it: a walk goes FORWARD, goal by goal, and may fork anywhere -/
section Own
variable {p : Program} {l : Launch} {e : Env} {R : Room} {s : State} {m : MethodId} {args : Array Value} {below : List Frame} {meth : Method} {c : Code} {T : State} {locs : List Loc} {cells slots : Nat} {Z : State} {a0 : Array Value} {h : Heap}
def own_Dn (p : Program) (e : Env) (below : List Frame) (G : State → Outcome → Prop) (A : State) : Prop :=
  ∃ s₂ o, Steps p.tables e below A s₂ ∧ s₂.status = .running ∧ Ended s₂ below o ∧ G s₂ o
abbrev own_Ret (s : State) (Q : Option Value → Heap → List Loc → Prop) (k n : Nat) : State → Outcome → Prop :=
  fun s₂ o => ∃ v L, o = .returned v ∧ Q v s₂.heap L ∧ FrameEnd s o s₂ L k n
theorem own_st {G : State → Outcome → Prop} {A B : State} (k : ∀ t, Steps p.tables e below B t → Steps p.tables e below A t) (d : own_Dn p e below G B) : own_Dn p e below G A := by
  obtain ⟨n, o, h1, h2⟩ := d
  exact ⟨n, o, k n h1, h2⟩
theorem own_to {G : State → Outcome → Prop} {A B : State} (k : Steps p.tables e below A B) (d : own_Dn p e below G B) : own_Dn p e below G A := by
  obtain ⟨n, o, h1, h2⟩ := d
  exact ⟨n, o, k.trans h1, h2⟩
theorem own_ret {Q : Option Value → Heap → List Loc → Prop} {v : Option Value} {k n : Nat} {g : JFrame} (X : Stand p l e R s m args below meth c T locs cells slots) (hlk : meth.locks = false) (hv : meth.sig.returnType = none → v = none)
    (hstep : ∀ fs, (∀ (f : JFrame) (acts : List Action), f.method = m → f.locked = none → f.entered = [] → (doReturn e (T.setTop f) acts v).1 = T.setFrames fs) → Steps p.tables e below (T.setTop g) (T.setFrames fs))
    (hQ : Q v T.heap locs) (hk : cells ≤ k) (hn : slots ≤ n) : own_Dn p e below (own_Ret s Q k n) (T.setTop g) := by
  obtain ⟨fs, hr, hrun, hended, hW, hsame⟩ := X.leave (v := v) hv hlk
  exact ⟨_, _, hstep fs hr, hrun, hended, v, locs, rfl, hQ, ⟨_, rfl⟩, hW, hsame.mono hk hn⟩
/-- a return of nothing -/
theorem own_retV {Q : Option Value → Heap → List Loc → Prop} {k n pc : Nat} {Ls : Array Slot} (X : Stand p l e R s m args below meth c T locs cells slots) (hx : p.tables.exec = Jvm.exec) (hlk : meth.locks = false) (hret : meth.sig.returnType = none)
    (hd : decode c.code pc = .ok (.return_, 1)) (hQ : Q none T.heap locs) (hk : cells ≤ k) (hn : slots ≤ n) : own_Dn p e below (own_Ret s Q k n) (T.setTop (mkF m pc Ls [])) :=
  own_ret X hlk (fun _ => rfl) (fun _ hr => X.returnOut hx hret hd hr) hQ hk hn
/-- a return of a value of the return type's kind -/
theorem own_retW {Q : Option Value → Heap → List Loc → Prop} {k n pc : Nat} {Ls : Array Slot} {w : Value} {t : FieldType} {i : Instr} {rest : List Value} (X : Stand p l e R s m args below meth c T locs cells slots) (hx : p.tables.exec = Jvm.exec) (hlk : meth.locks = false)
    (hret : meth.sig.returnType = some t) (hnr : narrow t w = w)
    (hi : (i = .ireturn ∧ (t = .int ∨ t = .boolean ∨ t = .byte ∨ t = .char ∨ t = .short) ∧ ∃ z, w = .int z) ∨ (i = .lreturn ∧ t = .long ∧ ∃ z, w = .long z) ∨ (i = .dreturn ∧ t = .double ∧ ∃ z, w = .double z) ∨ (i = .freturn ∧ t = .float ∧ ∃ z, w = .float z) ∨ (i = .areturn ∧ t.isReference = true ∧ w.isRef = true))
    (hd : decode c.code pc = .ok (i, 1)) (hQ : Q (some w) T.heap locs) (hk : cells ≤ k) (hn : slots ≤ n) : own_Dn p e below (own_Ret s Q k n) (T.setTop (mkF m pc Ls (w :: rest))) :=
  own_ret X hlk (fun h => by rw [hret] at h; cases h) (fun _ hr => retOut X hx hret hnr hi hd hr) hQ hk hn
theorem own_retI {Q : Option Value → Heap → List Loc → Prop} {k n pc : Nat} {Ls : Array Slot} {z : Int32} {rest : List Value} (X : Stand p l e R s m args below meth c T locs cells slots) (hx : p.tables.exec = Jvm.exec) (hlk : meth.locks = false)
    (hret : meth.sig.returnType = some .int) (hd : decode c.code pc = .ok (.ireturn, 1)) (hQ : Q (some (.int z)) T.heap locs) (hk : cells ≤ k) (hn : slots ≤ n) : own_Dn p e below (own_Ret s Q k n) (T.setTop (mkF m pc Ls (.int z :: rest))) :=
  own_retW X hx hlk hret rfl (Or.inl ⟨rfl, Or.inl rfl, z, rfl⟩) hd hQ hk hn
theorem own_retJ {Q : Option Value → Heap → List Loc → Prop} {k n pc : Nat} {Ls : Array Slot} {z : Int64} {rest : List Value} (X : Stand p l e R s m args below meth c T locs cells slots) (hx : p.tables.exec = Jvm.exec) (hlk : meth.locks = false)
    (hret : meth.sig.returnType = some .long) (hd : decode c.code pc = .ok (.lreturn, 1)) (hQ : Q (some (.long z)) T.heap locs) (hk : cells ≤ k) (hn : slots ≤ n) : own_Dn p e below (own_Ret s Q k n) (T.setTop (mkF m pc Ls (.long z :: rest))) :=
  own_retW X hx hlk hret rfl (Or.inr (Or.inl ⟨rfl, rfl, z, rfl⟩)) hd hQ hk hn
theorem own_retA {Q : Option Value → Heap → List Loc → Prop} {k n pc : Nat} {Ls : Array Slot} {a : Addr} {t : FieldType} {rest : List Value} (X : Stand p l e R s m args below meth c T locs cells slots) (hx : p.tables.exec = Jvm.exec) (hlk : meth.locks = false)
    (hret : meth.sig.returnType = some t) (ht : t.isReference = true) (hd : decode c.code pc = .ok (.areturn, 1)) (hQ : Q (some (.ref a)) T.heap locs) (hk : cells ≤ k) (hn : slots ≤ n) : own_Dn p e below (own_Ret s Q k n) (T.setTop (mkF m pc Ls (.ref a :: rest))) :=
  own_retW X hx hlk hret (by cases t <;> first | rfl | (simp [FieldType.isReference] at ht)) (Or.inr (Or.inr (Or.inr (Or.inr ⟨rfl, ht, rfl⟩)))) hd hQ hk hn
/-- a boolean, byte, char or short -/
theorem own_retN {Q : Option Value → Heap → List Loc → Prop} {k n pc : Nat} {Ls : Array Slot} {z : Int32} {t : FieldType} {rest : List Value} (X : Stand p l e R s m args below meth c T locs cells slots) (hx : p.tables.exec = Jvm.exec) (hlk : meth.locks = false)
    (hret : meth.sig.returnType = some t) (ht : t = .boolean ∨ t = .byte ∨ t = .char ∨ t = .short) (hd : decode c.code pc = .ok (.ireturn, 1)) (hQ : Q (some (.int (nar t z))) T.heap locs) (hk : cells ≤ k) (hn : slots ≤ n) : own_Dn p e below (own_Ret s Q k n) (T.setTop (mkF m pc Ls (.int z :: rest))) :=
  own_ret X hlk (fun h => by rw [hret] at h; cases h) (fun _ hr => retN X hx hret ht hd hr) hQ hk hn
/-- a static call by the callee's contract -/
theorem own_callS {rm : Room} {W : Nat} {as' : Array Value} {Q : Option Value → Heap → List Loc → Prop} {own : String} {index : Nat} {y : MethodName} {bytes : ByteArray} {maxL : Nat} {ret : Option FieldType} (X : Stand p l e R s m args below meth c T locs cells slots) (hx : p.tables.exec = Jvm.exec) (hZ : Z.Warmed39 s.vm)
    (hown : s.vm.findClass own = some m.cls) (w1 : (Cond.methodLink own index y).before a0 Z = true) (w2 : (Cond.static y).before a0 Z = true) (w3 : (Cond.initialized y.cls).before a0 Z = true) (w4 : (Cond.code y bytes maxL ret).before a0 Z = true) (hy : y.cls ≠ "java/lang/invoke/MethodHandle" ∧ y.cls ≠ "java/lang/invoke/VarHandle")
    (eT : T.heap = h) (hM : MetFree l y (head1 [Cond.code y bytes maxL ret] rm) (fun a U => a = as' ∧ Z.Warmed39 U.vm ∧ U.heap = h) (fun _ _ _ _ _ => True) (fun _ U o U' => ∃ v L, o = .returned v ∧ Q v U'.heap L ∧ FrameEnd U o U' L rm.cells rm.slots))
    {g : JFrame} (hg : g.method = m) (hsize : g.locals.size = c.maxLocals) {argsL rest : List Value} (hlen : ∀ sig, parseMethodDescriptor y.desc = some sig → argsL.length = sig.parameters.length) (hstack : g.stack = argsL.reverse ++ rest) (has : argsL.toArray = as') (hW : 2 * g.monitorRoom + (rest.map fun v => v.category).sum ≤ W)
    (hdg : decode c.code g.pc = .ok (.invokestatic index, 3)) (hf : rm.frames + 1 ≤ R.frames) (hl : W + (maxL + 11) + rm.locals ≤ R.locals) (hc : cells + rm.cells ≤ R.cells) (hsl : slots + rm.slots ≤ R.slots) :
    ∃ v T' L, Stand p l e R s m args below meth c T' (locs ++ L) (cells + rm.cells) (slots + rm.slots) ∧ Q v T'.heap L ∧
      ∀ t, Steps p.tables e below (T'.setTop { g with pc := g.pc + 3, stack := v.toList ++ rest }) t → Steps p.tables e below (T.setTop g) t := by
  obtain ⟨v, _, ⟨T', L, k', n'⟩, -, X', ⟨Lc, hQ, l1, l2, l3⟩, st⟩ := Jvm.LawKit.callS X hx hown (mvT hZ w1) (mvT hZ w2) (mvT hZ w3) (mvT hZ w4) hy (backOf (W := W) hM hZ w4 w3 hf hl) hg hsize hlen hstack hW hdg (fun _ _ => ⟨has, eT, hc, hsl⟩)
  dsimp only [Pt.U, Pt.locs, Pt.cells, Pt.slots] at X' l1 l2 l3 st hQ
  subst l1 l2 l3
  exact ⟨v, T', Lc, X', hQ, st⟩
/-- a constructor by its contract -/
theorem own_callN {rm : Room} {W : Nat} {as' : Array Value} {Q : Option Value → Heap → List Loc → Prop} {own : String} {index : Nat} {y : MethodName} {bytes : ByteArray} {maxL : Nat} (X : Stand p l e R s m args below meth c T locs cells slots) (hx : p.tables.exec = Jvm.exec) (hZ : Z.Warmed39 s.vm) (hy1 : y.name = "<init>")
    (hown : s.vm.findClass own = some m.cls) (w1 : (Cond.methodLink own index y).before a0 Z = true) (w2 : (Cond.instanceMethod y).before a0 Z = true) (w3 : (Cond.initialized y.cls).before a0 Z = true) (w4 : (Cond.code y bytes maxL none).before a0 Z = true) (hy : y.cls ≠ "java/lang/invoke/MethodHandle" ∧ y.cls ≠ "java/lang/invoke/VarHandle")
    (eT : T.heap = h) (hM : MetFree l y (head1 [Cond.code y bytes maxL none] rm) (fun a U => a = as' ∧ Z.Warmed39 U.vm ∧ U.heap = h) (fun _ _ _ _ _ => True) (fun _ U o U' => ∃ v L, o = .returned v ∧ Q v U'.heap L ∧ FrameEnd U o U' L rm.cells rm.slots))
    {g : JFrame} (hg : g.method = m) (hsize : g.locals.size = c.maxLocals) {a : Addr} {argsL rest : List Value} (hlen : ∀ sig, parseMethodDescriptor y.desc = some sig → argsL.length = sig.parameters.length) (hstack : g.stack = argsL.reverse ++ .ref a :: rest) (has : (.ref a :: argsL).toArray = as') (hW : 2 * g.monitorRoom + (rest.map fun v => v.category).sum ≤ W)
    (hdg : decode c.code g.pc = .ok (.invokespecial index, 3)) (hf : rm.frames + 1 ≤ R.frames) (hl : W + (maxL + 11) + rm.locals ≤ R.locals) (hc : cells + rm.cells ≤ R.cells) (hsl : slots + rm.slots ≤ R.slots) :
    ∃ v T' L, Stand p l e R s m args below meth c T' (locs ++ L) (cells + rm.cells) (slots + rm.slots) ∧ Q v T'.heap L ∧
      ∀ t, Steps p.tables e below (T'.setTop { g with pc := g.pc + 3, stack := v.toList ++ rest }) t → Steps p.tables e below (T.setTop g) t := by
  obtain ⟨v, _, ⟨T', L, k', n'⟩, -, X', ⟨Lc, hQ, l1, l2, l3⟩, st⟩ := X.specialBack hx hy1 hown (mvT hZ w1) (mvT hZ w2) (mvT hZ w4) hy (backOf (W := W) hM hZ w4 w3 hf hl) hg hsize (Steps.refl _) hlen hstack hW hdg (fun _ _ => ⟨has, eT, hc, hsl⟩)
  dsimp only [Pt.U, Pt.locs, Pt.cells, Pt.slots] at X' l1 l2 l3 st hQ
  subst l1 l2 l3
  exact ⟨v, T', Lc, X', hQ, fun t k => st.trans k⟩
/-- a constructor by a payer that is at hand -/
theorem own_callNK {mc ms W : Nat} {as' : Array Value} {Q : Option Value → Heap → List Loc → Prop} {own : String} {index : Nat} {y : MethodName} {bytes : ByteArray} {maxL : Nat} (X : Stand p l e R s m args below meth c T locs cells slots) (hx : p.tables.exec = Jvm.exec) (hZ : Z.Warmed39 s.vm) (hy1 : y.name = "<init>")
    (hown : s.vm.findClass own = some m.cls) (w1 : (Cond.methodLink own index y).before a0 Z = true) (w2 : (Cond.instanceMethod y).before a0 Z = true) (w4 : (Cond.code y bytes maxL none).before a0 Z = true) (hy : y.cls ≠ "java/lang/invoke/MethodHandle" ∧ y.cls ≠ "java/lang/invoke/VarHandle")
    (eT : T.heap = h) (hK : Back l R p e below s args y 3 W (fun A a => a = as' ∧ A.U.heap = h ∧ A.cells + mc ≤ R.cells ∧ A.slots + ms ≤ R.slots) (fun A _ v B => ∃ L, Q v B.U.heap L ∧ B.locs = A.locs ++ L ∧ B.cells = A.cells + mc ∧ B.slots = A.slots + ms))
    {g : JFrame} (hg : g.method = m) (hsize : g.locals.size = c.maxLocals) {a : Addr} {argsL rest : List Value} (hlen : ∀ sig, parseMethodDescriptor y.desc = some sig → argsL.length = sig.parameters.length) (hstack : g.stack = argsL.reverse ++ .ref a :: rest) (has : (.ref a :: argsL).toArray = as') (hW : 2 * g.monitorRoom + (rest.map fun v => v.category).sum ≤ W)
    (hdg : decode c.code g.pc = .ok (.invokespecial index, 3)) (hc : cells + mc ≤ R.cells) (hsl : slots + ms ≤ R.slots) :
    ∃ v T' L, Stand p l e R s m args below meth c T' (locs ++ L) (cells + mc) (slots + ms) ∧ Q v T'.heap L ∧
      ∀ t, Steps p.tables e below (T'.setTop { g with pc := g.pc + 3, stack := v.toList ++ rest }) t → Steps p.tables e below (T.setTop g) t := by
  obtain ⟨v, _, ⟨T', L, k', n'⟩, -, X', ⟨Lc, hQ, l1, l2, l3⟩, st⟩ := X.specialBack hx hy1 hown (mvT hZ w1) (mvT hZ w2) (mvT hZ w4) hy hK hg hsize (Steps.refl _) hlen hstack hW hdg (fun _ _ => ⟨has, eT, hc, hsl⟩)
  dsimp only [Pt.U, Pt.locs, Pt.cells, Pt.slots] at X' l1 l2 l3 st hQ
  subst l1 l2 l3
  exact ⟨v, T', Lc, X', hQ, fun t k => st.trans k⟩
/-- a virtual call by the contract of the method that is selected (declared by a class, the receiver exactly of the class C) -/
theorem own_callV {rm : Room} {W : Nat} {as' : Array Value} {Q : Option Value → Heap → List Loc → Prop} {own C : String} {index : Nat} {y z : MethodName} {bytes : ByteArray} {maxL : Nat} {ret : Option FieldType} (X : Stand p l e R s m args below meth c T locs cells slots) (hx : p.tables.exec = Jvm.exec) (hZ : Z.Warmed39 s.vm)
    (hown : s.vm.findClass own = some m.cls) (w1 : (Cond.methodLink own index y).before a0 Z = true) (w2 : (Cond.declares y).before a0 Z = true) (hnf : NotFace s y) (w5 : (Cond.selects C y z).before a0 Z = true) (w6 : (Cond.instanceMethod z).before a0 Z = true) (w3 : (Cond.initialized z.cls).before a0 Z = true) (w4 : (Cond.code z bytes maxL ret).before a0 Z = true) (hy : y.cls ≠ "java/lang/invoke/MethodHandle" ∧ y.cls ≠ "java/lang/invoke/VarHandle")
    (eT : T.heap = h) (hM : MetFree l z (head1 [Cond.code z bytes maxL ret] rm) (fun a U => a = as' ∧ Z.Warmed39 U.vm ∧ U.heap = h) (fun _ _ _ _ _ => True) (fun _ U o U' => ∃ v L, o = .returned v ∧ Q v U'.heap L ∧ FrameEnd U o U' L rm.cells rm.slots))
    {a : Addr} (E : Exa Z h a C) {g : JFrame} (hg : g.method = m) (hsize : g.locals.size = c.maxLocals) {argsL rest : List Value} (hlen : ∀ sig, parseMethodDescriptor y.desc = some sig → argsL.length = sig.parameters.length) (hstack : g.stack = argsL.reverse ++ .ref a :: rest) (has : (.ref a :: argsL).toArray = as') (hW : 2 * g.monitorRoom + (rest.map fun v => v.category).sum ≤ W)
    (hdg : decode c.code g.pc = .ok (.invokevirtual index, 3)) (hf : rm.frames + 1 ≤ R.frames) (hl : W + (maxL + 11) + rm.locals ≤ R.locals) (hc : cells + rm.cells ≤ R.cells) (hsl : slots + rm.slots ≤ R.slots) :
    ∃ v T' L, Stand p l e R s m args below meth c T' (locs ++ L) (cells + rm.cells) (slots + rm.slots) ∧ Q v T'.heap L ∧
      ∀ t, Steps p.tables e below (T'.setTop { g with pc := g.pc + 3, stack := v.toList ++ rest }) t → Steps p.tables e below (T.setTop g) t := by
  obtain ⟨cq, kq, qa, qb, qc⟩ := isOf hZ eT E
  obtain ⟨v, _, ⟨T', L, k', n'⟩, -, X', ⟨Lc, hQ, l1, l2, l3⟩, st⟩ := X.virtualBack hx hown (mvT hZ w1) (mvT hZ w2) hnf (mvT hZ w5) (mvT hZ w6) hy (backOf (W := W) hM hZ w4 w3 hf hl) qa qc hg hsize (Steps.refl _) hlen hstack hW hdg (fun _ _ => ⟨has, eT, hc, hsl⟩)
  dsimp only [Pt.U, Pt.locs, Pt.cells, Pt.slots] at X' l1 l2 l3 st hQ
  subst l1 l2 l3
  exact ⟨v, T', Lc, X', hQ, fun t k => st.trans k⟩
/-- a virtual call of a method that the named class inherits from 'owner' -/
theorem own_callU {rm : Room} {W : Nat} {as' : Array Value} {Q : Option Value → Heap → List Loc → Prop} {own C owner : String} {index : Nat} {y z : MethodName} {bytes : ByteArray} {maxL : Nat} {ret : Option FieldType} (X : Stand p l e R s m args below meth c T locs cells slots) (hx : p.tables.exec = Jvm.exec) (hZ : Z.Warmed39 s.vm)
    (hown : s.vm.findClass own = some m.cls) (w1 : (Cond.methodLink own index y).before a0 Z = true) (w2 : (Cond.sameMethod y.cls owner y.name y.desc).before a0 Z = true) (w7 : (Cond.declares ⟨owner, y.name, y.desc⟩).before a0 Z = true) (ho : owner ≠ "java/lang/invoke/MethodHandle" ∧ owner ≠ "java/lang/invoke/VarHandle") (w5 : (Cond.selects C y z).before a0 Z = true) (w6 : (Cond.instanceMethod z).before a0 Z = true) (w3 : (Cond.initialized z.cls).before a0 Z = true) (w4 : (Cond.code z bytes maxL ret).before a0 Z = true)
    (eT : T.heap = h) (hM : MetFree l z (head1 [Cond.code z bytes maxL ret] rm) (fun a U => a = as' ∧ Z.Warmed39 U.vm ∧ U.heap = h) (fun _ _ _ _ _ => True) (fun _ U o U' => ∃ v L, o = .returned v ∧ Q v U'.heap L ∧ FrameEnd U o U' L rm.cells rm.slots))
    {a : Addr} (E : Exa Z h a C) {g : JFrame} (hg : g.method = m) (hsize : g.locals.size = c.maxLocals) {argsL rest : List Value} (hlen : ∀ sig, parseMethodDescriptor y.desc = some sig → argsL.length = sig.parameters.length) (hstack : g.stack = argsL.reverse ++ .ref a :: rest) (has : (.ref a :: argsL).toArray = as') (hW : 2 * g.monitorRoom + (rest.map fun v => v.category).sum ≤ W)
    (hdg : decode c.code g.pc = .ok (.invokevirtual index, 3)) (hf : rm.frames + 1 ≤ R.frames) (hl : W + (maxL + 11) + rm.locals ≤ R.locals) (hc : cells + rm.cells ≤ R.cells) (hsl : slots + rm.slots ≤ R.slots) :
    ∃ v T' L, Stand p l e R s m args below meth c T' (locs ++ L) (cells + rm.cells) (slots + rm.slots) ∧ Q v T'.heap L ∧
      ∀ t, Steps p.tables e below (T'.setTop { g with pc := g.pc + 3, stack := v.toList ++ rest }) t → Steps p.tables e below (T.setTop g) t := by
  obtain ⟨cq, kq, qa, qb, qc⟩ := isOf hZ eT E
  obtain ⟨v, _, ⟨T', L, k', n'⟩, -, X', ⟨Lc, hQ, l1, l2, l3⟩, st⟩ := X.virtualBackUp hx hown (mvT hZ w1) (mvT hZ w2) (mvT hZ w7) ho (mvT hZ w5) (mvT hZ w6) (backOf (W := W) hM hZ w4 w3 hf hl) qa qc hg hsize (Steps.refl _) hlen hstack hW hdg (fun _ _ => ⟨has, eT, hc, hsl⟩)
  dsimp only [Pt.U, Pt.locs, Pt.cells, Pt.slots] at X' l1 l2 l3 st hQ
  subst l1 l2 l3
  exact ⟨v, T', Lc, X', hQ, fun t k => st.trans k⟩
theorem own_lrem {g : JFrame} {target : State} (X : Stand p l e R s m args below meth c T locs cells slots) (hx : p.tables.exec = Jvm.exec) (hg : g.method = m) {x y : Int64} {rest : List Value} (hd : decode c.code g.pc = .ok (.lrem, 1)) (hs : g.stack = .long y :: .long x :: rest) (hy : y ≠ 0)
    (hr : Steps p.tables e below (T.setTop { g with pc := g.pc + 1, stack := .long (x % y) :: rest }) target) : Steps p.tables e below (T.setTop g) target :=
  XS.lrem X.here hx hg hd hs hy (by rw [lrem_mod]; exact hr)
end Own
/-! ints as integers -/
theorem own_tL {x y : Int32} (h : x < y) : x.toInt < y.toInt := Int32.lt_iff_toInt_lt.mp h
theorem own_tLn {x y : Int32} (h : ¬ x < y) : ¬ x.toInt < y.toInt := fun q => h (Int32.lt_iff_toInt_lt.mpr q)
theorem own_tE {x y : Int32} (h : x = y) : x.toInt = y.toInt := congrArg _ h
theorem own_tEn {x y : Int32} (h : ¬ x = y) : ¬ x.toInt = y.toInt := fun q => h (Int32.toInt_inj.mp q)
theorem own_uL {x y : Int64} (h : x < y) : x.toInt < y.toInt := Int64.lt_iff_toInt_lt.mp h
theorem own_uLn {x y : Int64} (h : ¬ x < y) : ¬ x.toInt < y.toInt := fun q => h (Int64.lt_iff_toInt_lt.mpr q)
theorem own_uE {x y : Int64} (h : x = y) : x.toInt = y.toInt := congrArg _ h
theorem own_uEn {x y : Int64} (h : ¬ x = y) : ¬ x.toInt = y.toInt := fun q => h (Int64.toInt_inj.mp q)
/-! an array by its values: n places, place i holds f i -/
section OwnArr
variable {p : Program} {l : Launch} {e : Env} {R : Room} {s : State} {m : MethodId} {args : Array Value} {below : List Frame} {meth : Method} {c : Code} {T : State} {locs : List Loc} {cells slots : Nat} {Z : State} {a0 : Array Value} {h h' : Heap} {a b : Addr} {ty : FieldType} {n sl : Nat} {f : Nat → Value} {v : Value} {ws : List Addr}
def own_AV (Z : State) (h : Heap) (a : Addr) (ty : FieldType) (n : Nat) (f : Nat → Value) : Prop := ∃ cl : Cell, Arr Z h a cl ty ∧ cl.slots.size = n ∧ ∀ i, i < n → cl.slots[i]? = some (f i)
theorem own_AV.new {k : ClassId} {z : Int32} (A : Arr Z h a (newA k ty z) ty) (hn : z.toNatClampNeg = n) : own_AV Z h a ty n (fun _ => defaultValue ty) := by
  subst hn
  exact ⟨_, A, sz_new _ _ _, fun i hi => by simp [newA, hi]⟩
theorem own_AV.ext (F : own_AV Z h a ty n f) (E : Ext h h') : own_AV Z h' a ty n f := by
  obtain ⟨cl, A, r⟩ := F
  exact ⟨cl, A.ext E, r⟩
theorem own_AV.other (F : own_AV Z h b ty n f) (W : Wr h h' a sl v) (q : b ≠ a) : own_AV Z h' b ty n f := by
  obtain ⟨cl, A, r⟩ := F
  exact ⟨cl, A.other W q, r⟩
theorem own_AV.lt (F : own_AV Z h a ty n f) : a < h.size := by
  obtain ⟨cl, A, r⟩ := F
  exact A.lt
theorem own_AV.same {i : Nat} (F : own_AV Z h a ty n f) (W : Wr h h' a i v) (hi : i < n) : own_AV Z h' a ty n (fun k => if k = i then v else f k) := by
  obtain ⟨cl, A, S, H⟩ := F
  refine ⟨_, A.same W, (sz_set _ _ _).trans S, fun k hk => ?_⟩
  by_cases q : k = i
  · subst q
    simp [Cell.setSlot, S, hk]
  · simp only [Cell.setSlot, if_neg q]
    rw [Array.getElem?_setIfInBounds_ne (Ne.symm q)]
    exact H k hk
theorem own_AV.congr {f' : Nat → Value} (F : own_AV Z h a ty n f) (q : ∀ i, i < n → f i = f' i) : own_AV Z h a ty n f' := by
  obtain ⟨cl, A, S, H⟩ := F
  exact ⟨cl, A, S, fun i hi => (H i hi).trans (congrArg some (q i hi))⟩
theorem own_AV.keep (F : own_AV Z h a ty n f) (K : Keep h h' ws) (q : a ∉ ws) : own_AV Z h' a ty n f := by
  obtain ⟨cl, A, r⟩ := F
  exact ⟨cl, ⟨K.2.1 _ _ A.1 q, A.2⟩, r⟩
theorem own_AV.arv {z : Int32} {vs : List Value} {d : Value} (F : own_AV Z h a ty n f) (hz : z.toNatClampNeg = n) (h0 : ¬ z < 0) (hv : ∀ i, i < n → vs.getD i d = f i) (hf : ∀ i, i < n → fits ty (f i) = true) : ∃ k, Arv Z h a k ty z vs d := by
  obtain ⟨cl, A, S, H⟩ := F
  refine ⟨cl.cls, cl, A, rfl, S.trans hz.symm, h0, fun i hi => ?_, fun i hi => ?_⟩
  · rw [hv i (S ▸ hi)]
    exact H i (S ▸ hi)
  · rw [hv i (S ▸ hi)]
    exact hf i (S ▸ hi)
theorem own_AV.of_arv {k : ClassId} {z : Int32} {vs : List Value} {d : Value} (F : Arv Z h a k ty z vs d) (hz : z.toNatClampNeg = n) : own_AV Z h a ty n (fun i => vs.getD i d) := by
  obtain ⟨cl, A, -, S, -, H, -⟩ := F
  exact ⟨cl, A, S.trans hz, fun i hi => H i (by rw [S, hz]; exact hi)⟩
theorem own_inb {cl : Cell} {j : Int32} {i : Nat} (S : cl.slots.size = n) (hj : j.toNatClampNeg = i) (h0 : ¬ j < 0) (hi : i < n) : ¬ (j < 0 ∨ cl.slots.size ≤ j.toNatClampNeg) := by
  rintro (q | q)
  · exact h0 q
  · rw [S, hj] at q
    omega
theorem own_caload (X : Stand p l e R s m args below meth c T locs cells slots) (hx : p.tables.exec = Jvm.exec) (hZ : Z.Warmed39 s.vm) (eT : T.heap = h) (F : own_AV Z h a .char n f) {j : Int32} {i : Nat} (hj : j.toNatClampNeg = i) (h0 : ¬ j < 0) (hi : i < n) {g : JFrame} (hg : g.method = m) {rest : List Value} (hs : g.stack = .int j :: .ref a :: rest) (hd : decode c.code g.pc = .ok (.caload, 1)) :
    ∀ t, Steps p.tables e below (T.setTop { g with pc := g.pc + 1, stack := f i :: rest }) t → Steps p.tables e below (T.setTop g) t := by
  obtain ⟨cl, A, S, H⟩ := F
  exact fun t k => X.caload hx (by rw [eT]; exact A.1) (State.isArrayOf_alike hZ.alike A.2.1) A.2.2 (own_inb S hj h0 hi) (by rw [hj]; exact H i hi) hg hs hd t k
theorem own_iaload (X : Stand p l e R s m args below meth c T locs cells slots) (hx : p.tables.exec = Jvm.exec) (hZ : Z.Warmed39 s.vm) (eT : T.heap = h) (F : own_AV Z h a .int n f) {j : Int32} {i : Nat} (hj : j.toNatClampNeg = i) (h0 : ¬ j < 0) (hi : i < n) {g : JFrame} (hg : g.method = m) {rest : List Value} (hs : g.stack = .int j :: .ref a :: rest) (hd : decode c.code g.pc = .ok (.iaload, 1)) :
    ∀ t, Steps p.tables e below (T.setTop { g with pc := g.pc + 1, stack := f i :: rest }) t → Steps p.tables e below (T.setTop g) t := by
  obtain ⟨cl, A, S, H⟩ := F
  exact fun t k => X.iaload hx (by rw [eT]; exact A.1) (State.isArrayOf_alike hZ.alike A.2.1) A.2.2 (own_inb S hj h0 hi) (by rw [hj]; exact H i hi) hg hs hd t k
theorem own_laload (X : Stand p l e R s m args below meth c T locs cells slots) (hx : p.tables.exec = Jvm.exec) (hZ : Z.Warmed39 s.vm) (eT : T.heap = h) (F : own_AV Z h a .long n f) {j : Int32} {i : Nat} (hj : j.toNatClampNeg = i) (h0 : ¬ j < 0) (hi : i < n) {g : JFrame} (hg : g.method = m) {rest : List Value} (hs : g.stack = .int j :: .ref a :: rest) (hd : decode c.code g.pc = .ok (.laload, 1)) :
    ∀ t, Steps p.tables e below (T.setTop { g with pc := g.pc + 1, stack := f i :: rest }) t → Steps p.tables e below (T.setTop g) t := by
  obtain ⟨cl, A, S, H⟩ := F
  exact fun t k => X.laload hx (by rw [eT]; exact A.1) (State.isArrayOf_alike hZ.alike A.2.1) A.2.2 (own_inb S hj h0 hi) (by rw [hj]; exact H i hi) hg hs hd t k
theorem own_baload (X : Stand p l e R s m args below meth c T locs cells slots) (hx : p.tables.exec = Jvm.exec) (hZ : Z.Warmed39 s.vm) (eT : T.heap = h) (F : own_AV Z h a .byte n f) {j : Int32} {i : Nat} (hj : j.toNatClampNeg = i) (h0 : ¬ j < 0) (hi : i < n) {g : JFrame} (hg : g.method = m) {rest : List Value} (hs : g.stack = .int j :: .ref a :: rest) (hd : decode c.code g.pc = .ok (.baload, 1)) :
    ∀ t, Steps p.tables e below (T.setTop { g with pc := g.pc + 1, stack := f i :: rest }) t → Steps p.tables e below (T.setTop g) t := by
  obtain ⟨cl, A, S, H⟩ := F
  exact fun t k => X.baloadBytes hx (by rw [eT]; exact A.1) (State.isArrayOf_alike hZ.alike A.2.1) A.2.2 (own_inb S hj h0 hi) (by rw [hj]; exact H i hi) hg hs hd t k
theorem own_alen (X : Stand p l e R s m args below meth c T locs cells slots) (hx : p.tables.exec = Jvm.exec) (hZ : Z.Warmed39 s.vm) (eT : T.heap = h) (F : own_AV Z h a ty n f) {z : Int32} (hz : n.toInt32 = z) {g : JFrame} (hg : g.method = m) {rest : List Value} (hs : g.stack = .ref a :: rest) (hd : decode c.code g.pc = .ok (.arraylength, 1)) :
    ∀ t, Steps p.tables e below (T.setTop { g with pc := g.pc + 1, stack := .int z :: rest }) t → Steps p.tables e below (T.setTop g) t := by
  obtain ⟨cl, A, S, H⟩ := F
  refine fun t k => X.arraylength hx (by rw [eT]; exact A.1) (State.isArrayOf_alike hZ.alike A.2.1) hg hs hd t ?_
  rw [S, hz]
  exact k
theorem own_stI (X : Stand p l e R s m args below meth c T locs cells slots) (hx : p.tables.exec = Jvm.exec) (hZ : Z.Warmed39 s.vm) (eT : T.heap = h) (F : own_AV Z h a .int n f) {j x : Int32} {i : Nat} (hj : j.toNatClampNeg = i) (h0 : ¬ j < 0) (hi : i < n) {g : JFrame} (hg : g.method = m) {rest : List Value} (hs : g.stack = .int x :: .int j :: .ref a :: rest) (hd : decode c.code g.pc = .ok (.iastore, 1)) :
    ∃ T' h', Stand p l e R s m args below meth c T' (locs ++ [⟨a, i⟩]) cells slots ∧ T'.heap = h' ∧ Wr h h' a i (.int x) ∧ own_AV Z h' a .int n (fun k => if k = i then .int x else f k) ∧ ∀ target, Steps p.tables e below (T'.setTop { g with pc := g.pc + 1, stack := rest }) target → Steps p.tables e below (T.setTop g) target := by
  obtain ⟨cl, A, S, H⟩ := F
  subst hj
  obtain ⟨T', h', X', e', W, st⟩ := stI X hx hZ eT A (own_inb S rfl h0 hi) hg hs hd
  exact ⟨T', h', X', e', W, own_AV.same ⟨cl, A, S, H⟩ W hi, st⟩
theorem own_stJ (X : Stand p l e R s m args below meth c T locs cells slots) (hx : p.tables.exec = Jvm.exec) (hZ : Z.Warmed39 s.vm) (eT : T.heap = h) (F : own_AV Z h a .long n f) {j : Int32} {x : Int64} {i : Nat} (hj : j.toNatClampNeg = i) (h0 : ¬ j < 0) (hi : i < n) {g : JFrame} (hg : g.method = m) {rest : List Value} (hs : g.stack = .long x :: .int j :: .ref a :: rest) (hd : decode c.code g.pc = .ok (.lastore, 1)) :
    ∃ T' h', Stand p l e R s m args below meth c T' (locs ++ [⟨a, i⟩]) cells slots ∧ T'.heap = h' ∧ Wr h h' a i (.long x) ∧ own_AV Z h' a .long n (fun k => if k = i then .long x else f k) ∧ ∀ target, Steps p.tables e below (T'.setTop { g with pc := g.pc + 1, stack := rest }) target → Steps p.tables e below (T.setTop g) target := by
  obtain ⟨cl, A, S, H⟩ := F
  subst hj
  obtain ⟨T', h', X', e', W, st⟩ := stJ X hx hZ eT A (own_inb S rfl h0 hi) hg hs hd
  exact ⟨T', h', X', e', W, own_AV.same ⟨cl, A, S, H⟩ W hi, st⟩
theorem own_stC (X : Stand p l e R s m args below meth c T locs cells slots) (hx : p.tables.exec = Jvm.exec) (hZ : Z.Warmed39 s.vm) (eT : T.heap = h) (F : own_AV Z h a .char n f) {j x : Int32} {i : Nat} (hj : j.toNatClampNeg = i) (h0 : ¬ j < 0) (hi : i < n) {g : JFrame} (hg : g.method = m) {rest : List Value} (hs : g.stack = .int x :: .int j :: .ref a :: rest) (hd : decode c.code g.pc = .ok (.castore, 1)) :
    ∃ T' h', Stand p l e R s m args below meth c T' (locs ++ [⟨a, i⟩]) cells slots ∧ T'.heap = h' ∧ Wr h h' a i (.int (nar .char x)) ∧ own_AV Z h' a .char n (fun k => if k = i then .int (nar .char x) else f k) ∧ ∀ target, Steps p.tables e below (T'.setTop { g with pc := g.pc + 1, stack := rest }) target → Steps p.tables e below (T.setTop g) target := by
  obtain ⟨cl, A, S, H⟩ := F
  subst hj
  obtain ⟨T', h', X', e', W, st⟩ := stC X hx hZ eT A (own_inb S rfl h0 hi) hg hs hd
  exact ⟨T', h', X', e', W, own_AV.same ⟨cl, A, S, H⟩ W hi, st⟩
theorem own_stB (X : Stand p l e R s m args below meth c T locs cells slots) (hx : p.tables.exec = Jvm.exec) (hZ : Z.Warmed39 s.vm) (eT : T.heap = h) (F : own_AV Z h a .byte n f) {j x : Int32} {i : Nat} (hj : j.toNatClampNeg = i) (h0 : ¬ j < 0) (hi : i < n) {g : JFrame} (hg : g.method = m) {rest : List Value} (hs : g.stack = .int x :: .int j :: .ref a :: rest) (hd : decode c.code g.pc = .ok (.bastore, 1)) :
    ∃ T' h', Stand p l e R s m args below meth c T' (locs ++ [⟨a, i⟩]) cells slots ∧ T'.heap = h' ∧ Wr h h' a i (.int (nar .byte x)) ∧ own_AV Z h' a .byte n (fun k => if k = i then .int (nar .byte x) else f k) ∧ ∀ target, Steps p.tables e below (T'.setTop { g with pc := g.pc + 1, stack := rest }) target → Steps p.tables e below (T.setTop g) target := by
  obtain ⟨cl, A, S, H⟩ := F
  subst hj
  obtain ⟨T', h', X', e', W, st⟩ := stB X hx hZ eT A (own_inb S rfl h0 hi) hg hs hd
  exact ⟨T', h', X', e', W, own_AV.same ⟨cl, A, S, H⟩ W hi, st⟩
end OwnArr
theorem own_n32 {z : Int32} {n : Nat} (h : z.toInt = n) : n.toInt32 = z := by
  have q : ¬ z < 0 := fun q => by
    have q' := own_tL q
    have z0 : (0 : Int32).toInt = 0 := by decide
    rw [z0] at q'
    omega
  have b := (back32 q).1
  have e : z.toNatClampNeg = n := by
    show z.toInt.toNat = n
    omega
  rw [e] at b
  exact b
theorem own_fl1 {A : Prop} {r : Int32} (h : (r = 1 ∧ A) ∨ (r = 0 ∧ ¬ A)) (q : A) : r = 1 := by
  rcases h with h | h
  · exact h.1
  · exact absurd q h.2
theorem own_fl0 {A : Prop} {r : Int32} (h : (r = 1 ∧ A) ∨ (r = 0 ∧ ¬ A)) (q : ¬ A) : r = 0 := by
  rcases h with h | h
  · exact absurd h.2 q
  · exact h.1
theorem own_inc {i : Int32} {j n : Nat} (h : i.toInt = j) (hj : j < n) (hn : n < 2147483647) : (i + 1).toInt = (j + 1 : Nat) := by
  have a := c_iadd i 1
  have b := rng32 (i + 1)
  have z : (1 : Int32).toInt = 1 := by decide
  rw [z] at a
  omega
theorem own_i0 {i : Int32} {j : Nat} (h : i.toInt = j) : i.toNatClampNeg = j ∧ ¬ i < 0 := by
  constructor
  · show i.toInt.toNat = j
    omega
  · intro q
    have q' := own_tL q
    have z0 : (0 : Int32).toInt = 0 := by decide
    rw [z0] at q'
    omega
def own_ok (x : Int32) : Prop := ¬ x = 32 ∧ ¬ x = 9 ∧ ¬ x = 13 ∧ ¬ x = 10 ∧ ¬ x = 0
def own_blank (x : Int32) : Prop := x = 32 ∨ x = 9
theorem own_nar2 (x : Int32) : nar .byte (nar .byte x) = nar .byte x := by
  show x.toInt8.toInt32.toInt8.toInt32 = x.toInt8.toInt32
  simp
def own_QB (h0 : Heap) (v : Option Value) (h : Heap) (L : List Loc) : Prop := ∃ y : Int32, v = some (.int y) ∧ nar .byte y = y ∧ L = [] ∧ h = h0
def own_QP (x : Int32) (h0 : Heap) (v : Option Value) (h : Heap) (L : List Loc) : Prop := v = some (.int x) ∧ L = [] ∧ h = h0
def own_Q0 (n0 : Nat) (v : Option Value) (h : Heap) (L : List Loc) : Prop := v = some (.int 1) ∧ Fr n0 L
theorem own_mod5 (x : Int32) : (x &&& 2147483647) % 5 = 0 ∨ (x &&& 2147483647) % 5 = 1 ∨ (x &&& 2147483647) % 5 = 2 ∨ (x &&& 2147483647) % 5 = 3 ∨ (x &&& 2147483647) % 5 = 4 := by
  have h := c_mask x 2147483647 31 (by decide) (by decide)
  have z : (5 : Int32).toInt = 5 := by decide
  have r := (c_irem (x &&& 2147483647) 5 5 z).1 (by omega)
  generalize (x &&& 2147483647) % 5 = y at *
  have h' : y.toInt = 0 ∨ y.toInt = 1 ∨ y.toInt = 2 ∨ y.toInt = 3 ∨ y.toInt = 4 := by omega
  rcases h' with q | q | q | q | q
  · exact Or.inl (Int32.toInt_inj.mp q)
  · exact Or.inr (Or.inl (Int32.toInt_inj.mp q))
  · exact Or.inr (Or.inr (Or.inl (Int32.toInt_inj.mp q)))
  · exact Or.inr (Or.inr (Or.inr (Or.inl (Int32.toInt_inj.mp q))))
  · exact Or.inr (Or.inr (Or.inr (Or.inr (Int32.toInt_inj.mp q))))
theorem d1_0 : decode method_2_code 0 = .ok (.iload_n 0, 1) := by decide +kernel
theorem d1_1 : decode method_2_code 1 = .ok (.bipush 8, 2) := by decide +kernel
theorem d1_3 : decode method_2_code 3 = .ok (.iushr, 1) := by decide +kernel
theorem d1_4 : decode method_2_code 4 = .ok (.bipush 7, 2) := by decide +kernel
theorem d1_6 : decode method_2_code 6 = .ok (.iand, 1) := by decide +kernel
theorem d1_7 : decode method_2_code 7 = .ok (.istore_n 1, 1) := by decide +kernel
theorem d1_8 : decode method_2_code 8 = .ok (.iload_n 1, 1) := by decide +kernel
theorem d1_9 : decode method_2_code 9 = .ok (.ifCond .ne 6, 3) := by decide +kernel
theorem d1_12 : decode method_2_code 12 = .ok (.bipush 32, 2) := by decide +kernel
theorem d1_14 : decode method_2_code 14 = .ok (.ireturn, 1) := by decide +kernel
theorem d1_15 : decode method_2_code 15 = .ok (.iload_n 1, 1) := by decide +kernel
theorem d1_16 : decode method_2_code 16 = .ok (.iconst 1, 1) := by decide +kernel
theorem d1_17 : decode method_2_code 17 = .ok (.if_icmp .ne 6, 3) := by decide +kernel
theorem d1_20 : decode method_2_code 20 = .ok (.bipush 9, 2) := by decide +kernel
theorem d1_22 : decode method_2_code 22 = .ok (.ireturn, 1) := by decide +kernel
theorem d1_23 : decode method_2_code 23 = .ok (.iload_n 1, 1) := by decide +kernel
theorem d1_24 : decode method_2_code 24 = .ok (.iconst 2, 1) := by decide +kernel
theorem d1_25 : decode method_2_code 25 = .ok (.if_icmp .ne 6, 3) := by decide +kernel
theorem d1_28 : decode method_2_code 28 = .ok (.bipush 13, 2) := by decide +kernel
theorem d1_30 : decode method_2_code 30 = .ok (.ireturn, 1) := by decide +kernel
theorem d1_31 : decode method_2_code 31 = .ok (.iload_n 1, 1) := by decide +kernel
theorem d1_32 : decode method_2_code 32 = .ok (.iconst 3, 1) := by decide +kernel
theorem d1_33 : decode method_2_code 33 = .ok (.if_icmp .ne 6, 3) := by decide +kernel
theorem d1_36 : decode method_2_code 36 = .ok (.bipush 10, 2) := by decide +kernel
theorem d1_38 : decode method_2_code 38 = .ok (.ireturn, 1) := by decide +kernel
theorem d1_39 : decode method_2_code 39 = .ok (.iload_n 1, 1) := by decide +kernel
theorem d1_40 : decode method_2_code 40 = .ok (.iconst 4, 1) := by decide +kernel
theorem d1_41 : decode method_2_code 41 = .ok (.if_icmp .ne 5, 3) := by decide +kernel
theorem d1_44 : decode method_2_code 44 = .ok (.iconst 0, 1) := by decide +kernel
theorem d1_45 : decode method_2_code 45 = .ok (.ireturn, 1) := by decide +kernel
theorem d1_46 : decode method_2_code 46 = .ok (.iload_n 0, 1) := by decide +kernel
theorem d1_47 : decode method_2_code 47 = .ok (.i2b, 1) := by decide +kernel
theorem d1_48 : decode method_2_code 48 = .ok (.ireturn, 1) := by decide +kernel
theorem ef_rm_pick (m : MethodId) (x0 : Int32) : entryFrame m #[(.int x0)] 2 = mkF m 0 #[.val (.int x0), .unset] [] := by first | (simp [entryFrame, mkF, argsToLocals, Value.category]; done) | rfl
theorem pn_0 : plainName "com/example/patient_surfer/patientsurfer/read/LinksReaderIsLabelPinLaw" = true := by first | (simp [plainName, overriddenIn]; done) | decide +kernel
set_option maxRecDepth 65536 in
set_option maxHeartbeats 40000000 in
theorem rm_pick (l : Launch) (Z : State) (a0 : Array Value) (hw : ∀ d ∈ tables_1, d.before a0 Z = true) (ws : List Jvm.Cond) (p1 : Int32) (h0 : Heap)  :
    MetFree l (⟨"com/example/patient_surfer/patientsurfer/read/LinksReaderIsLabelPinLaw", "pick", "(I)B"⟩ : MethodName) (head1 (Jvm.Cond.code (⟨"com/example/patient_surfer/patientsurfer/read/LinksReaderIsLabelPinLaw", "pick", "(I)B"⟩ : MethodName) method_2_code 2 (some .byte) :: ws) ({ frames := 0, cells := 0, slots := 0, locals := 0 } : Room)) (fun a U => a = #[(.int p1)] ∧ Z.Warmed39 U.vm ∧ U.heap = h0) (fun _ _ _ _ _ => True) (fun _ U o U' => ∃ v L, o = .returned v ∧ own_QB h0 v U'.heap L ∧ FrameEnd U o U' L ({ frames := 0, cells := 0, slots := 0, locals := 0 } : Room).cells ({ frames := 0, cells := 0, slots := 0, locals := 0 } : Room).slots) := by
  refine MetFree.of_bodySF (plainFor_of_name pn_0) hisR ?_
  intro p e s m args below meth c s₁ Bd hml0 hP hK
  obtain ⟨rfl, hZ, hh⟩ := hP
  have hx := Bd.exec
  have hby := Bd.bytes
  have hlk := Bd.notSynchronized
  have hret := Bd.returns
  have hml : c.maxLocals = 2 := hml0
  have hown : s.vm.findClass "com/example/patient_surfer/patientsurfer/read/LinksReaderIsLabelPinLaw" = some m.cls := findClass_of_methodNamed Bd.named
  have hnm := (name_of_methodNamed Bd.named Bd.method).1
  have X0 : Stand p l e ({ frames := 0, cells := 0, slots := 0, locals := 0 } : Room) s m #[(.int p1)] below meth c s₁ [] 0 0 := Stand.of_body Bd
  have e0 : s₁.heap = h0 := by rw [← hh, Bd.state]; rfl
  show own_Dn p e below (own_Ret s (own_QB h0) ({ frames := 0, cells := 0, slots := 0, locals := 0 } : Room).cells ({ frames := 0, cells := 0, slots := 0, locals := 0 } : Room).slots) (s₁.setTop (entryFrame m #[(.int p1)] 2))
  rw [ef_rm_pick]
  refine own_st (B := (s₁.setTop (mkF m 1 #[.val (.int p1), .unset] [(.int p1)]))) (fun _ k => XS.iloadN X0.here hx rfl (hb hby d1_0) rfl k) ?_
  refine own_st (B := (s₁.setTop (mkF m 3 #[.val (.int p1), .unset] [(.int (8 : Int32)), (.int p1)]))) (fun _ k => XS.bipush X0.here hx rfl (hb hby d1_1) k) ?_
  refine own_st (B := (s₁.setTop (mkF m 4 #[.val (.int p1), .unset] [(.int ((p1.toUInt32 >>> ((8 : Int32) &&& 31).toUInt32).toInt32))]))) (fun _ k => XS.iushr X0.here hx rfl (hb hby d1_3) rfl k) ?_
  refine own_st (B := (s₁.setTop (mkF m 6 #[.val (.int p1), .unset] [(.int (7 : Int32)), (.int ((p1.toUInt32 >>> ((8 : Int32) &&& 31).toUInt32).toInt32))]))) (fun _ k => XS.bipush X0.here hx rfl (hb hby d1_4) k) ?_
  refine own_st (B := (s₁.setTop (mkF m 7 #[.val (.int p1), .unset] [(.int (((p1.toUInt32 >>> ((8 : Int32) &&& 31).toUInt32).toInt32) &&& (7 : Int32)))]))) (fun _ k => XS.iand X0.here hx rfl (hb hby d1_6) rfl k) ?_
  refine own_st (B := (s₁.setTop (mkF m 8 #[.val (.int p1), .val (.int (((p1.toUInt32 >>> ((8 : Int32) &&& 31).toUInt32).toInt32) &&& (7 : Int32)))] []))) (fun _ k => XS.istoreN X0.here hx rfl (hb hby d1_7) rfl (l' := #[.val (.int p1), .val (.int (((p1.toUInt32 >>> ((8 : Int32) &&& 31).toUInt32).toInt32) &&& (7 : Int32)))]) rfl k) ?_
  refine own_st (B := (s₁.setTop (mkF m 9 #[.val (.int p1), .val (.int (((p1.toUInt32 >>> ((8 : Int32) &&& 31).toUInt32).toInt32) &&& (7 : Int32)))] [(.int (((p1.toUInt32 >>> ((8 : Int32) &&& 31).toUInt32).toInt32) &&& (7 : Int32)))]))) (fun _ k => XS.iloadN X0.here hx rfl (hb hby d1_8) rfl k) ?_
  by_cases c9_1 : (((p1.toUInt32 >>> ((8 : Int32) &&& 31).toUInt32).toInt32) &&& (7 : Int32)) = (0 : Int32)
  · refine own_st (B := (s₁.setTop (mkF m 12 #[.val (.int p1), .val (.int (((p1.toUInt32 >>> ((8 : Int32) &&& 31).toUInt32).toInt32) &&& (7 : Int32)))] []))) (fun _ k => XS.ifNo X0.here hx rfl (hb hby d1_9) rfl ((if0 _ _).trans (teq c9_1).2) k) ?_
    refine own_st (B := (s₁.setTop (mkF m 14 #[.val (.int p1), .val (.int (((p1.toUInt32 >>> ((8 : Int32) &&& 31).toUInt32).toInt32) &&& (7 : Int32)))] [(.int (32 : Int32))]))) (fun _ k => XS.bipush X0.here hx rfl (hb hby d1_12) k) ?_
    exact own_retN X0 hx hlk (t := .byte) hret (by simp) (hb hby d1_14) (by show own_QB h0 _ s₁.heap _; rw [e0]; exact ⟨_, rfl, own_nar2 _, rfl, rfl⟩) (by decide) (by decide)
  · refine own_st (B := (s₁.setTop (mkF m 15 #[.val (.int p1), .val (.int (((p1.toUInt32 >>> ((8 : Int32) &&& 31).toUInt32).toInt32) &&& (7 : Int32)))] []))) (fun _ k => XS.ifYes X0.here hx rfl (pc0 := 9) (pc' := 15) rfl (hb hby d1_9) rfl ((if0 _ _).trans (feq c9_1).2) (by decide) (by decide) k) ?_
    refine own_st (B := (s₁.setTop (mkF m 16 #[.val (.int p1), .val (.int (((p1.toUInt32 >>> ((8 : Int32) &&& 31).toUInt32).toInt32) &&& (7 : Int32)))] [(.int (((p1.toUInt32 >>> ((8 : Int32) &&& 31).toUInt32).toInt32) &&& (7 : Int32)))]))) (fun _ k => XS.iloadN X0.here hx rfl (hb hby d1_15) rfl k) ?_
    refine own_st (B := (s₁.setTop (mkF m 17 #[.val (.int p1), .val (.int (((p1.toUInt32 >>> ((8 : Int32) &&& 31).toUInt32).toInt32) &&& (7 : Int32)))] [(.int (1 : Int32)), (.int (((p1.toUInt32 >>> ((8 : Int32) &&& 31).toUInt32).toInt32) &&& (7 : Int32)))]))) (fun _ k => XS.iconst X0.here hx rfl (hb hby d1_16) k) ?_
    by_cases c17_2 : (((p1.toUInt32 >>> ((8 : Int32) &&& 31).toUInt32).toInt32) &&& (7 : Int32)) = (1 : Int32)
    · refine own_st (B := (s₁.setTop (mkF m 20 #[.val (.int p1), .val (.int (((p1.toUInt32 >>> ((8 : Int32) &&& 31).toUInt32).toInt32) &&& (7 : Int32)))] []))) (fun _ k => XS.icmpNo X0.here hx rfl (hb hby d1_17) rfl (teq c17_2).2 k) ?_
      refine own_st (B := (s₁.setTop (mkF m 22 #[.val (.int p1), .val (.int (((p1.toUInt32 >>> ((8 : Int32) &&& 31).toUInt32).toInt32) &&& (7 : Int32)))] [(.int (9 : Int32))]))) (fun _ k => XS.bipush X0.here hx rfl (hb hby d1_20) k) ?_
      exact own_retN X0 hx hlk (t := .byte) hret (by simp) (hb hby d1_22) (by show own_QB h0 _ s₁.heap _; rw [e0]; exact ⟨_, rfl, own_nar2 _, rfl, rfl⟩) (by decide) (by decide)
    · refine own_st (B := (s₁.setTop (mkF m 23 #[.val (.int p1), .val (.int (((p1.toUInt32 >>> ((8 : Int32) &&& 31).toUInt32).toInt32) &&& (7 : Int32)))] []))) (fun _ k => XS.icmpYes X0.here hx rfl (pc0 := 17) (pc' := 23) rfl (hb hby d1_17) rfl (feq c17_2).2 (by decide) (by decide) k) ?_
      refine own_st (B := (s₁.setTop (mkF m 24 #[.val (.int p1), .val (.int (((p1.toUInt32 >>> ((8 : Int32) &&& 31).toUInt32).toInt32) &&& (7 : Int32)))] [(.int (((p1.toUInt32 >>> ((8 : Int32) &&& 31).toUInt32).toInt32) &&& (7 : Int32)))]))) (fun _ k => XS.iloadN X0.here hx rfl (hb hby d1_23) rfl k) ?_
      refine own_st (B := (s₁.setTop (mkF m 25 #[.val (.int p1), .val (.int (((p1.toUInt32 >>> ((8 : Int32) &&& 31).toUInt32).toInt32) &&& (7 : Int32)))] [(.int (2 : Int32)), (.int (((p1.toUInt32 >>> ((8 : Int32) &&& 31).toUInt32).toInt32) &&& (7 : Int32)))]))) (fun _ k => XS.iconst X0.here hx rfl (hb hby d1_24) k) ?_
      by_cases c25_3 : (((p1.toUInt32 >>> ((8 : Int32) &&& 31).toUInt32).toInt32) &&& (7 : Int32)) = (2 : Int32)
      · refine own_st (B := (s₁.setTop (mkF m 28 #[.val (.int p1), .val (.int (((p1.toUInt32 >>> ((8 : Int32) &&& 31).toUInt32).toInt32) &&& (7 : Int32)))] []))) (fun _ k => XS.icmpNo X0.here hx rfl (hb hby d1_25) rfl (teq c25_3).2 k) ?_
        refine own_st (B := (s₁.setTop (mkF m 30 #[.val (.int p1), .val (.int (((p1.toUInt32 >>> ((8 : Int32) &&& 31).toUInt32).toInt32) &&& (7 : Int32)))] [(.int (13 : Int32))]))) (fun _ k => XS.bipush X0.here hx rfl (hb hby d1_28) k) ?_
        exact own_retN X0 hx hlk (t := .byte) hret (by simp) (hb hby d1_30) (by show own_QB h0 _ s₁.heap _; rw [e0]; exact ⟨_, rfl, own_nar2 _, rfl, rfl⟩) (by decide) (by decide)
      · refine own_st (B := (s₁.setTop (mkF m 31 #[.val (.int p1), .val (.int (((p1.toUInt32 >>> ((8 : Int32) &&& 31).toUInt32).toInt32) &&& (7 : Int32)))] []))) (fun _ k => XS.icmpYes X0.here hx rfl (pc0 := 25) (pc' := 31) rfl (hb hby d1_25) rfl (feq c25_3).2 (by decide) (by decide) k) ?_
        refine own_st (B := (s₁.setTop (mkF m 32 #[.val (.int p1), .val (.int (((p1.toUInt32 >>> ((8 : Int32) &&& 31).toUInt32).toInt32) &&& (7 : Int32)))] [(.int (((p1.toUInt32 >>> ((8 : Int32) &&& 31).toUInt32).toInt32) &&& (7 : Int32)))]))) (fun _ k => XS.iloadN X0.here hx rfl (hb hby d1_31) rfl k) ?_
        refine own_st (B := (s₁.setTop (mkF m 33 #[.val (.int p1), .val (.int (((p1.toUInt32 >>> ((8 : Int32) &&& 31).toUInt32).toInt32) &&& (7 : Int32)))] [(.int (3 : Int32)), (.int (((p1.toUInt32 >>> ((8 : Int32) &&& 31).toUInt32).toInt32) &&& (7 : Int32)))]))) (fun _ k => XS.iconst X0.here hx rfl (hb hby d1_32) k) ?_
        by_cases c33_4 : (((p1.toUInt32 >>> ((8 : Int32) &&& 31).toUInt32).toInt32) &&& (7 : Int32)) = (3 : Int32)
        · refine own_st (B := (s₁.setTop (mkF m 36 #[.val (.int p1), .val (.int (((p1.toUInt32 >>> ((8 : Int32) &&& 31).toUInt32).toInt32) &&& (7 : Int32)))] []))) (fun _ k => XS.icmpNo X0.here hx rfl (hb hby d1_33) rfl (teq c33_4).2 k) ?_
          refine own_st (B := (s₁.setTop (mkF m 38 #[.val (.int p1), .val (.int (((p1.toUInt32 >>> ((8 : Int32) &&& 31).toUInt32).toInt32) &&& (7 : Int32)))] [(.int (10 : Int32))]))) (fun _ k => XS.bipush X0.here hx rfl (hb hby d1_36) k) ?_
          exact own_retN X0 hx hlk (t := .byte) hret (by simp) (hb hby d1_38) (by show own_QB h0 _ s₁.heap _; rw [e0]; exact ⟨_, rfl, own_nar2 _, rfl, rfl⟩) (by decide) (by decide)
        · refine own_st (B := (s₁.setTop (mkF m 39 #[.val (.int p1), .val (.int (((p1.toUInt32 >>> ((8 : Int32) &&& 31).toUInt32).toInt32) &&& (7 : Int32)))] []))) (fun _ k => XS.icmpYes X0.here hx rfl (pc0 := 33) (pc' := 39) rfl (hb hby d1_33) rfl (feq c33_4).2 (by decide) (by decide) k) ?_
          refine own_st (B := (s₁.setTop (mkF m 40 #[.val (.int p1), .val (.int (((p1.toUInt32 >>> ((8 : Int32) &&& 31).toUInt32).toInt32) &&& (7 : Int32)))] [(.int (((p1.toUInt32 >>> ((8 : Int32) &&& 31).toUInt32).toInt32) &&& (7 : Int32)))]))) (fun _ k => XS.iloadN X0.here hx rfl (hb hby d1_39) rfl k) ?_
          refine own_st (B := (s₁.setTop (mkF m 41 #[.val (.int p1), .val (.int (((p1.toUInt32 >>> ((8 : Int32) &&& 31).toUInt32).toInt32) &&& (7 : Int32)))] [(.int (4 : Int32)), (.int (((p1.toUInt32 >>> ((8 : Int32) &&& 31).toUInt32).toInt32) &&& (7 : Int32)))]))) (fun _ k => XS.iconst X0.here hx rfl (hb hby d1_40) k) ?_
          by_cases c41_5 : (((p1.toUInt32 >>> ((8 : Int32) &&& 31).toUInt32).toInt32) &&& (7 : Int32)) = (4 : Int32)
          · refine own_st (B := (s₁.setTop (mkF m 44 #[.val (.int p1), .val (.int (((p1.toUInt32 >>> ((8 : Int32) &&& 31).toUInt32).toInt32) &&& (7 : Int32)))] []))) (fun _ k => XS.icmpNo X0.here hx rfl (hb hby d1_41) rfl (teq c41_5).2 k) ?_
            refine own_st (B := (s₁.setTop (mkF m 45 #[.val (.int p1), .val (.int (((p1.toUInt32 >>> ((8 : Int32) &&& 31).toUInt32).toInt32) &&& (7 : Int32)))] [(.int (0 : Int32))]))) (fun _ k => XS.iconst X0.here hx rfl (hb hby d1_44) k) ?_
            exact own_retN X0 hx hlk (t := .byte) hret (by simp) (hb hby d1_45) (by show own_QB h0 _ s₁.heap _; rw [e0]; exact ⟨_, rfl, own_nar2 _, rfl, rfl⟩) (by decide) (by decide)
          · refine own_st (B := (s₁.setTop (mkF m 46 #[.val (.int p1), .val (.int (((p1.toUInt32 >>> ((8 : Int32) &&& 31).toUInt32).toInt32) &&& (7 : Int32)))] []))) (fun _ k => XS.icmpYes X0.here hx rfl (pc0 := 41) (pc' := 46) rfl (hb hby d1_41) rfl (feq c41_5).2 (by decide) (by decide) k) ?_
            refine own_st (B := (s₁.setTop (mkF m 47 #[.val (.int p1), .val (.int (((p1.toUInt32 >>> ((8 : Int32) &&& 31).toUInt32).toInt32) &&& (7 : Int32)))] [(.int p1)]))) (fun _ k => XS.iloadN X0.here hx rfl (hb hby d1_46) rfl k) ?_
            refine own_st (B := (s₁.setTop (mkF m 48 #[.val (.int p1), .val (.int (((p1.toUInt32 >>> ((8 : Int32) &&& 31).toUInt32).toInt32) &&& (7 : Int32)))] [(.int (p1.toInt8.toInt32))]))) (fun _ k => XS.i2b X0.here hx rfl (hb hby d1_47) rfl k) ?_
            exact own_retN X0 hx hlk (t := .byte) hret (by simp) (hb hby d1_48) (by show own_QB h0 _ s₁.heap _; rw [e0]; exact ⟨_, rfl, own_nar2 _, rfl, rfl⟩) (by decide) (by decide)
theorem d2_0 : decode method_3_code 0 = .ok (.iload_n 0, 1) := by decide +kernel
theorem d2_1 : decode method_3_code 1 = .ok (.bipush 32, 2) := by decide +kernel
theorem d2_3 : decode method_3_code 3 = .ok (.if_icmp .eq 29, 3) := by decide +kernel
theorem d2_32 : decode method_3_code 32 = .ok (.iconst 0, 1) := by decide +kernel
theorem d2_33 : decode method_3_code 33 = .ok (.ireturn, 1) := by decide +kernel
theorem d2_6 : decode method_3_code 6 = .ok (.iload_n 0, 1) := by decide +kernel
theorem d2_7 : decode method_3_code 7 = .ok (.bipush 9, 2) := by decide +kernel
theorem d2_9 : decode method_3_code 9 = .ok (.if_icmp .eq 23, 3) := by decide +kernel
theorem d2_12 : decode method_3_code 12 = .ok (.iload_n 0, 1) := by decide +kernel
theorem d2_13 : decode method_3_code 13 = .ok (.bipush 13, 2) := by decide +kernel
theorem d2_15 : decode method_3_code 15 = .ok (.if_icmp .eq 17, 3) := by decide +kernel
theorem d2_18 : decode method_3_code 18 = .ok (.iload_n 0, 1) := by decide +kernel
theorem d2_19 : decode method_3_code 19 = .ok (.bipush 10, 2) := by decide +kernel
theorem d2_21 : decode method_3_code 21 = .ok (.if_icmp .eq 11, 3) := by decide +kernel
theorem d2_24 : decode method_3_code 24 = .ok (.iload_n 0, 1) := by decide +kernel
theorem d2_25 : decode method_3_code 25 = .ok (.ifCond .eq 7, 3) := by decide +kernel
theorem d2_28 : decode method_3_code 28 = .ok (.iconst 1, 1) := by decide +kernel
theorem d2_29 : decode method_3_code 29 = .ok (.goto 4, 3) := by decide +kernel
theorem ef_rm_ok (m : MethodId) (x0 : Int32) : entryFrame m #[(.int x0)] 1 = mkF m 0 #[.val (.int x0)] [] := by first | (simp [entryFrame, mkF, argsToLocals, Value.category]; done) | rfl
set_option maxRecDepth 65536 in
set_option maxHeartbeats 40000000 in
theorem rm_ok (l : Launch) (Z : State) (a0 : Array Value) (hw : ∀ d ∈ tables_1, d.before a0 Z = true) (ws : List Jvm.Cond) (p1 r : Int32) (h0 : Heap) (hr : (r = 1 ∧ own_ok p1) ∨ (r = 0 ∧ ¬ own_ok p1)) :
    MetFree l (⟨"com/example/patient_surfer/patientsurfer/read/LinksReaderIsLabelPinLaw", "ok", "(B)Z"⟩ : MethodName) (head1 (Jvm.Cond.code (⟨"com/example/patient_surfer/patientsurfer/read/LinksReaderIsLabelPinLaw", "ok", "(B)Z"⟩ : MethodName) method_3_code 1 (some .boolean) :: ws) ({ frames := 0, cells := 0, slots := 0, locals := 0 } : Room)) (fun a U => a = #[(.int p1)] ∧ Z.Warmed39 U.vm ∧ U.heap = h0) (fun _ _ _ _ _ => True) (fun _ U o U' => ∃ v L, o = .returned v ∧ own_QP r h0 v U'.heap L ∧ FrameEnd U o U' L ({ frames := 0, cells := 0, slots := 0, locals := 0 } : Room).cells ({ frames := 0, cells := 0, slots := 0, locals := 0 } : Room).slots) := by
  refine MetFree.of_bodySF (plainFor_of_name pn_0) hisR ?_
  intro p e s m args below meth c s₁ Bd hml0 hP hK
  obtain ⟨rfl, hZ, hh⟩ := hP
  have hx := Bd.exec
  have hby := Bd.bytes
  have hlk := Bd.notSynchronized
  have hret := Bd.returns
  have hml : c.maxLocals = 1 := hml0
  have hown : s.vm.findClass "com/example/patient_surfer/patientsurfer/read/LinksReaderIsLabelPinLaw" = some m.cls := findClass_of_methodNamed Bd.named
  have hnm := (name_of_methodNamed Bd.named Bd.method).1
  have X0 : Stand p l e ({ frames := 0, cells := 0, slots := 0, locals := 0 } : Room) s m #[(.int p1)] below meth c s₁ [] 0 0 := Stand.of_body Bd
  have e0 : s₁.heap = h0 := by rw [← hh, Bd.state]; rfl
  show own_Dn p e below (own_Ret s (own_QP r h0) ({ frames := 0, cells := 0, slots := 0, locals := 0 } : Room).cells ({ frames := 0, cells := 0, slots := 0, locals := 0 } : Room).slots) (s₁.setTop (entryFrame m #[(.int p1)] 1))
  rw [ef_rm_ok]
  refine own_st (B := (s₁.setTop (mkF m 1 #[.val (.int p1)] [(.int p1)]))) (fun _ k => XS.iloadN X0.here hx rfl (hb hby d2_0) rfl k) ?_
  refine own_st (B := (s₁.setTop (mkF m 3 #[.val (.int p1)] [(.int (32 : Int32)), (.int p1)]))) (fun _ k => XS.bipush X0.here hx rfl (hb hby d2_1) k) ?_
  by_cases c3_1 : p1 = (32 : Int32)
  · refine own_st (B := (s₁.setTop (mkF m 32 #[.val (.int p1)] []))) (fun _ k => XS.icmpYes X0.here hx rfl (pc0 := 3) (pc' := 32) rfl (hb hby d2_3) rfl (teq c3_1).1 (by decide) (by decide) k) ?_
    refine own_st (B := (s₁.setTop (mkF m 33 #[.val (.int p1)] [(.int (0 : Int32))]))) (fun _ k => XS.iconst X0.here hx rfl (hb hby d2_32) k) ?_
    obtain rfl := own_fl0 hr (fun q : own_ok p1 => q.1 c3_1)
    exact own_retN X0 hx hlk (t := .boolean) hret (by simp) (hb hby d2_33) (by show own_QP 0 h0 _ s₁.heap _; rw [e0]; exact ⟨rfl, rfl, rfl⟩) (by decide) (by decide)
  · refine own_st (B := (s₁.setTop (mkF m 6 #[.val (.int p1)] []))) (fun _ k => XS.icmpNo X0.here hx rfl (hb hby d2_3) rfl (feq c3_1).1 k) ?_
    refine own_st (B := (s₁.setTop (mkF m 7 #[.val (.int p1)] [(.int p1)]))) (fun _ k => XS.iloadN X0.here hx rfl (hb hby d2_6) rfl k) ?_
    refine own_st (B := (s₁.setTop (mkF m 9 #[.val (.int p1)] [(.int (9 : Int32)), (.int p1)]))) (fun _ k => XS.bipush X0.here hx rfl (hb hby d2_7) k) ?_
    by_cases c9_2 : p1 = (9 : Int32)
    · refine own_st (B := (s₁.setTop (mkF m 32 #[.val (.int p1)] []))) (fun _ k => XS.icmpYes X0.here hx rfl (pc0 := 9) (pc' := 32) rfl (hb hby d2_9) rfl (teq c9_2).1 (by decide) (by decide) k) ?_
      refine own_st (B := (s₁.setTop (mkF m 33 #[.val (.int p1)] [(.int (0 : Int32))]))) (fun _ k => XS.iconst X0.here hx rfl (hb hby d2_32) k) ?_
      obtain rfl := own_fl0 hr (fun q : own_ok p1 => q.2.1 c9_2)
      exact own_retN X0 hx hlk (t := .boolean) hret (by simp) (hb hby d2_33) (by show own_QP 0 h0 _ s₁.heap _; rw [e0]; exact ⟨rfl, rfl, rfl⟩) (by decide) (by decide)
    · refine own_st (B := (s₁.setTop (mkF m 12 #[.val (.int p1)] []))) (fun _ k => XS.icmpNo X0.here hx rfl (hb hby d2_9) rfl (feq c9_2).1 k) ?_
      refine own_st (B := (s₁.setTop (mkF m 13 #[.val (.int p1)] [(.int p1)]))) (fun _ k => XS.iloadN X0.here hx rfl (hb hby d2_12) rfl k) ?_
      refine own_st (B := (s₁.setTop (mkF m 15 #[.val (.int p1)] [(.int (13 : Int32)), (.int p1)]))) (fun _ k => XS.bipush X0.here hx rfl (hb hby d2_13) k) ?_
      by_cases c15_3 : p1 = (13 : Int32)
      · refine own_st (B := (s₁.setTop (mkF m 32 #[.val (.int p1)] []))) (fun _ k => XS.icmpYes X0.here hx rfl (pc0 := 15) (pc' := 32) rfl (hb hby d2_15) rfl (teq c15_3).1 (by decide) (by decide) k) ?_
        refine own_st (B := (s₁.setTop (mkF m 33 #[.val (.int p1)] [(.int (0 : Int32))]))) (fun _ k => XS.iconst X0.here hx rfl (hb hby d2_32) k) ?_
        obtain rfl := own_fl0 hr (fun q : own_ok p1 => q.2.2.1 c15_3)
        exact own_retN X0 hx hlk (t := .boolean) hret (by simp) (hb hby d2_33) (by show own_QP 0 h0 _ s₁.heap _; rw [e0]; exact ⟨rfl, rfl, rfl⟩) (by decide) (by decide)
      · refine own_st (B := (s₁.setTop (mkF m 18 #[.val (.int p1)] []))) (fun _ k => XS.icmpNo X0.here hx rfl (hb hby d2_15) rfl (feq c15_3).1 k) ?_
        refine own_st (B := (s₁.setTop (mkF m 19 #[.val (.int p1)] [(.int p1)]))) (fun _ k => XS.iloadN X0.here hx rfl (hb hby d2_18) rfl k) ?_
        refine own_st (B := (s₁.setTop (mkF m 21 #[.val (.int p1)] [(.int (10 : Int32)), (.int p1)]))) (fun _ k => XS.bipush X0.here hx rfl (hb hby d2_19) k) ?_
        by_cases c21_4 : p1 = (10 : Int32)
        · refine own_st (B := (s₁.setTop (mkF m 32 #[.val (.int p1)] []))) (fun _ k => XS.icmpYes X0.here hx rfl (pc0 := 21) (pc' := 32) rfl (hb hby d2_21) rfl (teq c21_4).1 (by decide) (by decide) k) ?_
          refine own_st (B := (s₁.setTop (mkF m 33 #[.val (.int p1)] [(.int (0 : Int32))]))) (fun _ k => XS.iconst X0.here hx rfl (hb hby d2_32) k) ?_
          obtain rfl := own_fl0 hr (fun q : own_ok p1 => q.2.2.2.1 c21_4)
          exact own_retN X0 hx hlk (t := .boolean) hret (by simp) (hb hby d2_33) (by show own_QP 0 h0 _ s₁.heap _; rw [e0]; exact ⟨rfl, rfl, rfl⟩) (by decide) (by decide)
        · refine own_st (B := (s₁.setTop (mkF m 24 #[.val (.int p1)] []))) (fun _ k => XS.icmpNo X0.here hx rfl (hb hby d2_21) rfl (feq c21_4).1 k) ?_
          refine own_st (B := (s₁.setTop (mkF m 25 #[.val (.int p1)] [(.int p1)]))) (fun _ k => XS.iloadN X0.here hx rfl (hb hby d2_24) rfl k) ?_
          by_cases c25_5 : p1 = (0 : Int32)
          · refine own_st (B := (s₁.setTop (mkF m 32 #[.val (.int p1)] []))) (fun _ k => XS.ifYes X0.here hx rfl (pc0 := 25) (pc' := 32) rfl (hb hby d2_25) rfl ((if0 _ _).trans (teq c25_5).1) (by decide) (by decide) k) ?_
            refine own_st (B := (s₁.setTop (mkF m 33 #[.val (.int p1)] [(.int (0 : Int32))]))) (fun _ k => XS.iconst X0.here hx rfl (hb hby d2_32) k) ?_
            obtain rfl := own_fl0 hr (fun q : own_ok p1 => q.2.2.2.2 c25_5)
            exact own_retN X0 hx hlk (t := .boolean) hret (by simp) (hb hby d2_33) (by show own_QP 0 h0 _ s₁.heap _; rw [e0]; exact ⟨rfl, rfl, rfl⟩) (by decide) (by decide)
          · refine own_st (B := (s₁.setTop (mkF m 28 #[.val (.int p1)] []))) (fun _ k => XS.ifNo X0.here hx rfl (hb hby d2_25) rfl ((if0 _ _).trans (feq c25_5).1) k) ?_
            refine own_st (B := (s₁.setTop (mkF m 29 #[.val (.int p1)] [(.int (1 : Int32))]))) (fun _ k => XS.iconst X0.here hx rfl (hb hby d2_28) k) ?_
            refine own_st (B := (s₁.setTop (mkF m 33 #[.val (.int p1)] [(.int (1 : Int32))]))) (fun _ k => XS.goto X0.here hx rfl (pc0 := 29) (pc' := 33) rfl (hb hby d2_29) (by decide) (by decide) k) ?_
            obtain rfl := own_fl1 hr (⟨c3_1, c9_2, c15_3, c21_4, c25_5⟩ : own_ok p1)
            exact own_retN X0 hx hlk (t := .boolean) hret (by simp) (hb hby d2_33) (by show own_QP 1 h0 _ s₁.heap _; rw [e0]; exact ⟨rfl, rfl, rfl⟩) (by decide) (by decide)
theorem d3_0 : decode prog_14_method_11_code 0 = .ok (.iload_n 0, 1) := by decide +kernel
theorem d3_1 : decode prog_14_method_11_code 1 = .ok (.bipush 32, 2) := by decide +kernel
theorem d3_3 : decode prog_14_method_11_code 3 = .ok (.if_icmp .eq 9, 3) := by decide +kernel
theorem d3_12 : decode prog_14_method_11_code 12 = .ok (.iconst 1, 1) := by decide +kernel
theorem d3_13 : decode prog_14_method_11_code 13 = .ok (.goto 4, 3) := by decide +kernel
theorem d3_17 : decode prog_14_method_11_code 17 = .ok (.ireturn, 1) := by decide +kernel
theorem d3_6 : decode prog_14_method_11_code 6 = .ok (.iload_n 0, 1) := by decide +kernel
theorem d3_7 : decode prog_14_method_11_code 7 = .ok (.bipush 9, 2) := by decide +kernel
theorem d3_9 : decode prog_14_method_11_code 9 = .ok (.if_icmp .ne 7, 3) := by decide +kernel
theorem d3_16 : decode prog_14_method_11_code 16 = .ok (.iconst 0, 1) := by decide +kernel
theorem ef_rm_bl (m : MethodId) (x0 : Int32) : entryFrame m #[(.int x0)] 1 = mkF m 0 #[.val (.int x0)] [] := by first | (simp [entryFrame, mkF, argsToLocals, Value.category]; done) | rfl
theorem pn_1 : plainName "com/example/patient_surfer/patientsurfer/read/LinksLine" = true := by first | (simp [plainName, overriddenIn]; done) | decide +kernel
set_option maxRecDepth 65536 in
set_option maxHeartbeats 40000000 in
theorem rm_bl (l : Launch) (Z : State) (a0 : Array Value) (hw : ∀ d ∈ tables_1, d.before a0 Z = true) (ws : List Jvm.Cond) (p1 r : Int32) (h0 : Heap) (hr : (r = 1 ∧ own_blank p1) ∨ (r = 0 ∧ ¬ own_blank p1)) :
    MetFree l (⟨"com/example/patient_surfer/patientsurfer/read/LinksLine", "isBlank", "(B)Z"⟩ : MethodName) (head1 (Jvm.Cond.code (⟨"com/example/patient_surfer/patientsurfer/read/LinksLine", "isBlank", "(B)Z"⟩ : MethodName) prog_14_method_11_code 1 (some .boolean) :: ws) ({ frames := 0, cells := 0, slots := 0, locals := 0 } : Room)) (fun a U => a = #[(.int p1)] ∧ Z.Warmed39 U.vm ∧ U.heap = h0) (fun _ _ _ _ _ => True) (fun _ U o U' => ∃ v L, o = .returned v ∧ own_QP r h0 v U'.heap L ∧ FrameEnd U o U' L ({ frames := 0, cells := 0, slots := 0, locals := 0 } : Room).cells ({ frames := 0, cells := 0, slots := 0, locals := 0 } : Room).slots) := by
  refine MetFree.of_bodySF (plainFor_of_name pn_1) hisR ?_
  intro p e s m args below meth c s₁ Bd hml0 hP hK
  obtain ⟨rfl, hZ, hh⟩ := hP
  have hx := Bd.exec
  have hby := Bd.bytes
  have hlk := Bd.notSynchronized
  have hret := Bd.returns
  have hml : c.maxLocals = 1 := hml0
  have hown : s.vm.findClass "com/example/patient_surfer/patientsurfer/read/LinksLine" = some m.cls := findClass_of_methodNamed Bd.named
  have hnm := (name_of_methodNamed Bd.named Bd.method).1
  have X0 : Stand p l e ({ frames := 0, cells := 0, slots := 0, locals := 0 } : Room) s m #[(.int p1)] below meth c s₁ [] 0 0 := Stand.of_body Bd
  have e0 : s₁.heap = h0 := by rw [← hh, Bd.state]; rfl
  show own_Dn p e below (own_Ret s (own_QP r h0) ({ frames := 0, cells := 0, slots := 0, locals := 0 } : Room).cells ({ frames := 0, cells := 0, slots := 0, locals := 0 } : Room).slots) (s₁.setTop (entryFrame m #[(.int p1)] 1))
  rw [ef_rm_bl]
  refine own_st (B := (s₁.setTop (mkF m 1 #[.val (.int p1)] [(.int p1)]))) (fun _ k => XS.iloadN X0.here hx rfl (hb hby d3_0) rfl k) ?_
  refine own_st (B := (s₁.setTop (mkF m 3 #[.val (.int p1)] [(.int (32 : Int32)), (.int p1)]))) (fun _ k => XS.bipush X0.here hx rfl (hb hby d3_1) k) ?_
  by_cases c3_1 : p1 = (32 : Int32)
  · refine own_st (B := (s₁.setTop (mkF m 12 #[.val (.int p1)] []))) (fun _ k => XS.icmpYes X0.here hx rfl (pc0 := 3) (pc' := 12) rfl (hb hby d3_3) rfl (teq c3_1).1 (by decide) (by decide) k) ?_
    refine own_st (B := (s₁.setTop (mkF m 13 #[.val (.int p1)] [(.int (1 : Int32))]))) (fun _ k => XS.iconst X0.here hx rfl (hb hby d3_12) k) ?_
    refine own_st (B := (s₁.setTop (mkF m 17 #[.val (.int p1)] [(.int (1 : Int32))]))) (fun _ k => XS.goto X0.here hx rfl (pc0 := 13) (pc' := 17) rfl (hb hby d3_13) (by decide) (by decide) k) ?_
    obtain rfl := own_fl1 hr (Or.inl c3_1 : own_blank p1)
    exact own_retN X0 hx hlk (t := .boolean) hret (by simp) (hb hby d3_17) (by show own_QP 1 h0 _ s₁.heap _; rw [e0]; exact ⟨rfl, rfl, rfl⟩) (by decide) (by decide)
  · refine own_st (B := (s₁.setTop (mkF m 6 #[.val (.int p1)] []))) (fun _ k => XS.icmpNo X0.here hx rfl (hb hby d3_3) rfl (feq c3_1).1 k) ?_
    refine own_st (B := (s₁.setTop (mkF m 7 #[.val (.int p1)] [(.int p1)]))) (fun _ k => XS.iloadN X0.here hx rfl (hb hby d3_6) rfl k) ?_
    refine own_st (B := (s₁.setTop (mkF m 9 #[.val (.int p1)] [(.int (9 : Int32)), (.int p1)]))) (fun _ k => XS.bipush X0.here hx rfl (hb hby d3_7) k) ?_
    by_cases c9_2 : p1 = (9 : Int32)
    · refine own_st (B := (s₁.setTop (mkF m 12 #[.val (.int p1)] []))) (fun _ k => XS.icmpNo X0.here hx rfl (hb hby d3_9) rfl (teq c9_2).2 k) ?_
      refine own_st (B := (s₁.setTop (mkF m 13 #[.val (.int p1)] [(.int (1 : Int32))]))) (fun _ k => XS.iconst X0.here hx rfl (hb hby d3_12) k) ?_
      refine own_st (B := (s₁.setTop (mkF m 17 #[.val (.int p1)] [(.int (1 : Int32))]))) (fun _ k => XS.goto X0.here hx rfl (pc0 := 13) (pc' := 17) rfl (hb hby d3_13) (by decide) (by decide) k) ?_
      obtain rfl := own_fl1 hr (Or.inr c9_2 : own_blank p1)
      exact own_retN X0 hx hlk (t := .boolean) hret (by simp) (hb hby d3_17) (by show own_QP 1 h0 _ s₁.heap _; rw [e0]; exact ⟨rfl, rfl, rfl⟩) (by decide) (by decide)
    · refine own_st (B := (s₁.setTop (mkF m 16 #[.val (.int p1)] []))) (fun _ k => XS.icmpYes X0.here hx rfl (pc0 := 9) (pc' := 16) rfl (hb hby d3_9) rfl (feq c9_2).2 (by decide) (by decide) k) ?_
      refine own_st (B := (s₁.setTop (mkF m 17 #[.val (.int p1)] [(.int (0 : Int32))]))) (fun _ k => XS.iconst X0.here hx rfl (hb hby d3_16) k) ?_
      obtain rfl := own_fl0 hr (fun q : own_blank p1 => q.elim c3_1 c9_2)
      exact own_retN X0 hx hlk (t := .boolean) hret (by simp) (hb hby d3_17) (by show own_QP 0 h0 _ s₁.heap _; rw [e0]; exact ⟨rfl, rfl, rfl⟩) (by decide) (by decide)
theorem d4_13 : decode prog_15_method_4_code 13 = .ok (.iload_n 2, 1) := by decide +kernel
theorem d4_14 : decode prog_15_method_4_code 14 = .ok (.aload_n 0, 1) := by decide +kernel
theorem d4_15 : decode prog_15_method_4_code 15 = .ok (.arraylength, 1) := by decide +kernel
theorem d4_16 : decode prog_15_method_4_code 16 = .ok (.if_icmp .ge 50, 3) := by decide +kernel
theorem d4_66 : decode prog_15_method_4_code 66 = .ok (.iload_n 1, 1) := by decide +kernel
theorem d4_67 : decode prog_15_method_4_code 67 = .ok (.ireturn, 1) := by decide +kernel
theorem d4_19 : decode prog_15_method_4_code 19 = .ok (.iload_n 1, 1) := by decide +kernel
theorem d4_20 : decode prog_15_method_4_code 20 = .ok (.ifCond .eq 46, 3) := by decide +kernel
theorem d4_23 : decode prog_15_method_4_code 23 = .ok (.aload_n 0, 1) := by decide +kernel
theorem d4_24 : decode prog_15_method_4_code 24 = .ok (.iload_n 2, 1) := by decide +kernel
theorem d4_25 : decode prog_15_method_4_code 25 = .ok (.baload, 1) := by decide +kernel
theorem pd_0 : parseMethodDescriptor "(B)Z" = some ⟨[.byte], some .boolean⟩ := by decide +kernel
theorem d4_26 : decode prog_15_method_4_code 26 = .ok (.invokestatic 20, 3) := by decide +kernel
theorem d4_29 : decode prog_15_method_4_code 29 = .ok (.ifCond .ne 29, 3) := by decide +kernel
theorem d4_58 : decode prog_15_method_4_code 58 = .ok (.iconst 0, 1) := by decide +kernel
theorem d4_59 : decode prog_15_method_4_code 59 = .ok (.istore_n 1, 1) := by decide +kernel
theorem d4_60 : decode prog_15_method_4_code 60 = .ok (.iinc 2 1, 3) := by decide +kernel
theorem d4_63 : decode prog_15_method_4_code 63 = .ok (.goto (-50), 3) := by decide +kernel
theorem d4_32 : decode prog_15_method_4_code 32 = .ok (.aload_n 0, 1) := by decide +kernel
theorem d4_33 : decode prog_15_method_4_code 33 = .ok (.iload_n 2, 1) := by decide +kernel
theorem d4_34 : decode prog_15_method_4_code 34 = .ok (.baload, 1) := by decide +kernel
theorem d4_35 : decode prog_15_method_4_code 35 = .ok (.bipush 13, 2) := by decide +kernel
theorem d4_37 : decode prog_15_method_4_code 37 = .ok (.if_icmp .eq 21, 3) := by decide +kernel
theorem d4_40 : decode prog_15_method_4_code 40 = .ok (.aload_n 0, 1) := by decide +kernel
theorem d4_41 : decode prog_15_method_4_code 41 = .ok (.iload_n 2, 1) := by decide +kernel
theorem d4_42 : decode prog_15_method_4_code 42 = .ok (.baload, 1) := by decide +kernel
theorem d4_43 : decode prog_15_method_4_code 43 = .ok (.bipush 10, 2) := by decide +kernel
theorem d4_45 : decode prog_15_method_4_code 45 = .ok (.if_icmp .eq 13, 3) := by decide +kernel
theorem d4_48 : decode prog_15_method_4_code 48 = .ok (.aload_n 0, 1) := by decide +kernel
theorem d4_49 : decode prog_15_method_4_code 49 = .ok (.iload_n 2, 1) := by decide +kernel
theorem d4_50 : decode prog_15_method_4_code 50 = .ok (.baload, 1) := by decide +kernel
theorem d4_51 : decode prog_15_method_4_code 51 = .ok (.ifCond .eq 7, 3) := by decide +kernel
theorem d4_54 : decode prog_15_method_4_code 54 = .ok (.iconst 1, 1) := by decide +kernel
theorem d4_55 : decode prog_15_method_4_code 55 = .ok (.goto 4, 3) := by decide +kernel
theorem d4_0 : decode prog_15_method_4_code 0 = .ok (.aload_n 0, 1) := by decide +kernel
theorem d4_1 : decode prog_15_method_4_code 1 = .ok (.arraylength, 1) := by decide +kernel
theorem d4_2 : decode prog_15_method_4_code 2 = .ok (.ifCond .le 7, 3) := by decide +kernel
theorem d4_5 : decode prog_15_method_4_code 5 = .ok (.iconst 1, 1) := by decide +kernel
theorem d4_6 : decode prog_15_method_4_code 6 = .ok (.goto 4, 3) := by decide +kernel
theorem d4_10 : decode prog_15_method_4_code 10 = .ok (.istore_n 1, 1) := by decide +kernel
theorem d4_11 : decode prog_15_method_4_code 11 = .ok (.iconst 0, 1) := by decide +kernel
theorem d4_12 : decode prog_15_method_4_code 12 = .ok (.istore_n 2, 1) := by decide +kernel
theorem d4_9 : decode prog_15_method_4_code 9 = .ok (.iconst 0, 1) := by decide +kernel
theorem ef_rm_isl (m : MethodId) (x0 : Addr) : entryFrame m #[(.ref x0)] 3 = mkF m 0 #[.val (.ref x0), .unset, .unset] [] := by first | (simp [entryFrame, mkF, argsToLocals, Value.category]; done) | rfl
theorem pn_2 : plainName "com/example/patient_surfer/patientsurfer/read/LinksReader" = true := by first | (simp [plainName, overriddenIn]; done) | decide +kernel
set_option maxRecDepth 65536 in
set_option maxHeartbeats 40000000 in
theorem rm_isl (l : Launch) (Z : State) (a0 : Array Value) (hw : ∀ d ∈ tables_1, d.before a0 Z = true) (ws : List Jvm.Cond) (a1 : Addr) (z : Int32) (n : Nat) (g : Nat → Int32) (r : Int32) (h0 : Heap) (VF : own_AV Z h0 a1 .byte n (fun i => .int (g i))) (hz : z.toInt = n) (hn : n < 2147483647) (hr : (r = 1 ∧ (0 < n ∧ ∀ q, q < n → own_ok (g q))) ∨ (r = 0 ∧ ¬ (0 < n ∧ ∀ q, q < n → own_ok (g q)))) :
    MetFree l (⟨"com/example/patient_surfer/patientsurfer/read/LinksReader", "isLabel", "([B)Z"⟩ : MethodName) (head1 (Jvm.Cond.code (⟨"com/example/patient_surfer/patientsurfer/read/LinksReader", "isLabel", "([B)Z"⟩ : MethodName) prog_15_method_4_code 3 (some .boolean) :: ws) ({ frames := 1, cells := 0, slots := 0, locals := 12 } : Room)) (fun a U => a = #[(.ref a1)] ∧ Z.Warmed39 U.vm ∧ U.heap = h0) (fun _ _ _ _ _ => True) (fun _ U o U' => ∃ v L, o = .returned v ∧ own_QP r h0 v U'.heap L ∧ FrameEnd U o U' L ({ frames := 1, cells := 0, slots := 0, locals := 12 } : Room).cells ({ frames := 1, cells := 0, slots := 0, locals := 12 } : Room).slots) := by
  refine MetFree.of_bodySF (plainFor_of_name pn_2) hisR ?_
  intro p e s m args below meth c s₁ Bd hml0 hP hK
  obtain ⟨rfl, hZ, hh⟩ := hP
  have hx := Bd.exec
  have hby := Bd.bytes
  have hlk := Bd.notSynchronized
  have hret := Bd.returns
  have hml : c.maxLocals = 3 := hml0
  have hown : s.vm.findClass "com/example/patient_surfer/patientsurfer/read/LinksReader" = some m.cls := findClass_of_methodNamed Bd.named
  have hnm := (name_of_methodNamed Bd.named Bd.method).1
  have X0 : Stand p l e ({ frames := 1, cells := 0, slots := 0, locals := 12 } : Room) s m #[(.ref a1)] below meth c s₁ [] 0 0 := Stand.of_body Bd
  have e0 : s₁.heap = h0 := by rw [← hh, Bd.state]; rfl
  show own_Dn p e below (own_Ret s (own_QP r h0) ({ frames := 1, cells := 0, slots := 0, locals := 12 } : Room).cells ({ frames := 1, cells := 0, slots := 0, locals := 12 } : Room).slots) (s₁.setTop (entryFrame m #[(.ref a1)] 3))
  rw [ef_rm_isl]
  have loop : ∀ (k : Nat) (T : State) (XT : Stand p l e ({ frames := 1, cells := 0, slots := 0, locals := 12 } : Room) s m #[(.ref a1)] below meth c T [] 0 0) (eT : T.heap = h0) (i : Int32) (j : Nat) (o : Int32), i.toInt = j → j + k = n → ((o = 1 ∧ 0 < n ∧ ∀ q, q < j → own_ok (g q)) ∨ (o = 0 ∧ ¬ (0 < n ∧ ∀ q, q < n → own_ok (g q)))) → own_Dn p e below (own_Ret s (own_QP r h0) ({ frames := 1, cells := 0, slots := 0, locals := 12 } : Room).cells ({ frames := 1, cells := 0, slots := 0, locals := 12 } : Room).slots) (T.setTop (mkF m 13 #[.val (.ref a1), .val (.int o), .val (.int i)] [])) := by
    intro k
    induction k with
    | zero =>
      intro T XT eT i j o hi hjk ho
      refine own_st (B := (T.setTop (mkF m 14 #[.val (.ref a1), .val (.int o), .val (.int i)] [(.int i)]))) (fun _ k => XS.iloadN XT.here hx rfl (hb hby d4_13) rfl k) ?_
      refine own_st (B := (T.setTop (mkF m 15 #[.val (.ref a1), .val (.int o), .val (.int i)] [(.ref a1), (.int i)]))) (fun _ k => XS.aloadN XT.here hx rfl (hb hby d4_14) rfl rfl k) ?_
      refine own_st (B := (T.setTop (mkF m 16 #[.val (.ref a1), .val (.int o), .val (.int i)] [(.int z), (.int i)]))) (fun _ k => own_alen XT hx hZ eT VF (z := z) (own_n32 hz) (g := (mkF m 15 #[.val (.ref a1), .val (.int o), .val (.int i)] [(.ref a1), (.int i)])) rfl rfl (hb hby d4_15) _ k) ?_
      have c16 : ¬ i < z := fun q => by
        have q' := own_tL q
        omega
      refine own_st (B := (T.setTop (mkF m 66 #[.val (.ref a1), .val (.int o), .val (.int i)] []))) (fun _ k => XS.icmpYes XT.here hx rfl (pc0 := 16) (pc' := 66) rfl (hb hby d4_16) rfl (flt c16).2.1 (by decide) (by decide) k) ?_
      refine own_st (B := (T.setTop (mkF m 67 #[.val (.ref a1), .val (.int o), .val (.int i)] [(.int o)]))) (fun _ k => XS.iloadN XT.here hx rfl (hb hby d4_66) rfl k) ?_
      obtain rfl : j = n := by omega
      have hro : nar .boolean o = r := by
        rcases ho with ⟨rfl, h1, h2⟩ | ⟨rfl, h1⟩
        · obtain rfl := own_fl1 hr ⟨h1, h2⟩
          rfl
        · obtain rfl := own_fl0 hr h1
          rfl
      exact own_retN XT hx hlk (t := .boolean) hret (by simp) (hb hby d4_67) (by show own_QP r h0 _ T.heap _; rw [eT]; exact ⟨congrArg (fun z => some (Value.int z)) hro, rfl, rfl⟩) (by decide) (by decide)
    | succ k ih =>
      intro T XT eT i j o hi hjk ho
      refine own_st (B := (T.setTop (mkF m 14 #[.val (.ref a1), .val (.int o), .val (.int i)] [(.int i)]))) (fun _ k => XS.iloadN XT.here hx rfl (hb hby d4_13) rfl k) ?_
      refine own_st (B := (T.setTop (mkF m 15 #[.val (.ref a1), .val (.int o), .val (.int i)] [(.ref a1), (.int i)]))) (fun _ k => XS.aloadN XT.here hx rfl (hb hby d4_14) rfl rfl k) ?_
      refine own_st (B := (T.setTop (mkF m 16 #[.val (.ref a1), .val (.int o), .val (.int i)] [(.int z), (.int i)]))) (fun _ k => own_alen XT hx hZ eT VF (z := z) (own_n32 hz) (g := (mkF m 15 #[.val (.ref a1), .val (.int o), .val (.int i)] [(.ref a1), (.int i)])) rfl rfl (hb hby d4_15) _ k) ?_
      have c16 : i < z := Int32.lt_iff_toInt_lt.mpr (by omega)
      refine own_st (B := (T.setTop (mkF m 19 #[.val (.ref a1), .val (.int o), .val (.int i)] []))) (fun _ k => XS.icmpNo XT.here hx rfl (hb hby d4_16) rfl (tlt c16).2.1 k) ?_
      refine own_st (B := (T.setTop (mkF m 20 #[.val (.ref a1), .val (.int o), .val (.int i)] [(.int o)]))) (fun _ k => XS.iloadN XT.here hx rfl (hb hby d4_19) rfl k) ?_
      by_cases c20 : o = (0 : Int32)
      · refine own_st (B := (T.setTop (mkF m 66 #[.val (.ref a1), .val (.int o), .val (.int i)] []))) (fun _ k => XS.ifYes XT.here hx rfl (pc0 := 20) (pc' := 66) rfl (hb hby d4_20) rfl ((if0 _ _).trans (teq c20).1) (by decide) (by decide) k) ?_
        refine own_st (B := (T.setTop (mkF m 67 #[.val (.ref a1), .val (.int o), .val (.int i)] [(.int o)]))) (fun _ k => XS.iloadN XT.here hx rfl (hb hby d4_66) rfl k) ?_
        obtain rfl := own_fl0 hr ((ho.resolve_left (fun q => by rw [q.1] at c20; exact absurd c20 (by decide))).2)
        subst c20
        exact own_retN XT hx hlk (t := .boolean) hret (by simp) (hb hby d4_67) (by show own_QP 0 h0 _ T.heap _; rw [eT]; exact ⟨rfl, rfl, rfl⟩) (by decide) (by decide)
      · refine own_st (B := (T.setTop (mkF m 23 #[.val (.ref a1), .val (.int o), .val (.int i)] []))) (fun _ k => XS.ifNo XT.here hx rfl (hb hby d4_20) rfl ((if0 _ _).trans (feq c20).1) k) ?_
        obtain ⟨h1, h2⟩ := (ho.resolve_right (fun q => c20 q.1)).2
        refine own_st (B := (T.setTop (mkF m 24 #[.val (.ref a1), .val (.int o), .val (.int i)] [(.ref a1)]))) (fun _ k => XS.aloadN XT.here hx rfl (hb hby d4_23) rfl rfl k) ?_
        refine own_st (B := (T.setTop (mkF m 25 #[.val (.ref a1), .val (.int o), .val (.int i)] [(.int i), (.ref a1)]))) (fun _ k => XS.iloadN XT.here hx rfl (hb hby d4_24) rfl k) ?_
        refine own_st (B := (T.setTop (mkF m 26 #[.val (.ref a1), .val (.int o), .val (.int i)] [(.int (g j))]))) (fun _ k => own_baload XT hx hZ eT VF (i := j) (own_i0 hi).1 (own_i0 hi).2 (by omega) (g := (mkF m 25 #[.val (.ref a1), .val (.int o), .val (.int i)] [(.int i), (.ref a1)])) rfl rfl (hb hby d4_25) _ k) ?_
        by_cases hbl : own_blank (g j)
        · obtain ⟨v1, T1, L1, X1, Q1, st1⟩ := own_callS (W := 0) XT hx hZ (y := (⟨"com/example/patient_surfer/patientsurfer/read/LinksLine", "isBlank", "(B)Z"⟩ : MethodName)) hown (hw _ (List.mem_of_getElem? (i := 13) rfl)) (hw _ (List.mem_of_getElem? (i := 14) rfl)) (hw _ (List.mem_of_getElem? (i := 15) rfl)) (hw _ (List.mem_of_getElem? (i := 16) rfl)) (by decide) eT (rm_bl l Z a0 hw [] (g j) 1 h0 (Or.inl ⟨rfl, hbl⟩)) (g := (mkF m 26 #[.val (.ref a1), .val (.int o), .val (.int i)] [(.int (g j))])) rfl (by rw [hml]; rfl) (argsL := [(.int (g j))]) (rest := []) (lenOf pd_0 rfl) rfl rfl (by show 2 * 0 + _ ≤ _; exact Nat.le_of_eq rfl) (hb hby d4_26) (by decide) (by decide) (by decide) (by decide)
          obtain ⟨rfl, rfl, q1⟩ := Q1
          refine own_st (B := (T1.setTop (mkF m 29 #[.val (.ref a1), .val (.int o), .val (.int i)] [(.int (1 : Int32))]))) st1 ?_
          have X1' : Stand p l e ({ frames := 1, cells := 0, slots := 0, locals := 12 } : Room) s m #[(.ref a1)] below meth c T1 [] 0 0 := X1
          refine own_st (B := (T1.setTop (mkF m 58 #[.val (.ref a1), .val (.int o), .val (.int i)] []))) (fun _ k => XS.ifYes X1'.here hx rfl (pc0 := 29) (pc' := 58) rfl (hb hby d4_29) rfl ((if0 _ _).trans (feq (by decide)).2) (by decide) (by decide) k) ?_
          refine own_st (B := (T1.setTop (mkF m 59 #[.val (.ref a1), .val (.int o), .val (.int i)] [(.int (0 : Int32))]))) (fun _ k => XS.iconst X1'.here hx rfl (hb hby d4_58) k) ?_
          refine own_st (B := (T1.setTop (mkF m 60 #[.val (.ref a1), .val (.int (0 : Int32)), .val (.int i)] []))) (fun _ k => XS.istoreN X1'.here hx rfl (hb hby d4_59) rfl (l' := #[.val (.ref a1), .val (.int (0 : Int32)), .val (.int i)]) rfl k) ?_
          refine own_st (B := (T1.setTop (mkF m 63 #[.val (.ref a1), .val (.int (0 : Int32)), .val (.int (i + (1 : Int32)))] []))) (fun _ k => XS.iinc X1'.here hx rfl (hb hby d4_60) rfl (l' := #[.val (.ref a1), .val (.int (0 : Int32)), .val (.int (i + (1 : Int32)))]) rfl k) ?_
          refine own_st (B := (T1.setTop (mkF m 13 #[.val (.ref a1), .val (.int (0 : Int32)), .val (.int (i + (1 : Int32)))] []))) (fun _ k => XS.goto X1'.here hx rfl (pc0 := 63) (pc' := 13) rfl (hb hby d4_63) (by decide) (by decide) k) ?_
          exact ih T1 X1' q1 (i + 1) (j + 1) _ (own_inc hi (by omega) hn) (by omega) (Or.inr ⟨rfl, fun q => hbl.elim (q.2 j (by omega)).1 (q.2 j (by omega)).2.1⟩)
        · obtain ⟨v2, T2, L2, X2, Q2, st2⟩ := own_callS (W := 0) XT hx hZ (y := (⟨"com/example/patient_surfer/patientsurfer/read/LinksLine", "isBlank", "(B)Z"⟩ : MethodName)) hown (hw _ (List.mem_of_getElem? (i := 13) rfl)) (hw _ (List.mem_of_getElem? (i := 14) rfl)) (hw _ (List.mem_of_getElem? (i := 15) rfl)) (hw _ (List.mem_of_getElem? (i := 16) rfl)) (by decide) eT (rm_bl l Z a0 hw [] (g j) 0 h0 (Or.inr ⟨rfl, hbl⟩)) (g := (mkF m 26 #[.val (.ref a1), .val (.int o), .val (.int i)] [(.int (g j))])) rfl (by rw [hml]; rfl) (argsL := [(.int (g j))]) (rest := []) (lenOf pd_0 rfl) rfl rfl (by show 2 * 0 + _ ≤ _; exact Nat.le_of_eq rfl) (hb hby d4_26) (by decide) (by decide) (by decide) (by decide)
          obtain ⟨rfl, rfl, q2⟩ := Q2
          refine own_st (B := (T2.setTop (mkF m 29 #[.val (.ref a1), .val (.int o), .val (.int i)] [(.int (0 : Int32))]))) st2 ?_
          have X2' : Stand p l e ({ frames := 1, cells := 0, slots := 0, locals := 12 } : Room) s m #[(.ref a1)] below meth c T2 [] 0 0 := X2
          refine own_st (B := (T2.setTop (mkF m 32 #[.val (.ref a1), .val (.int o), .val (.int i)] []))) (fun _ k => XS.ifNo X2'.here hx rfl (hb hby d4_29) rfl ((if0 _ _).trans (teq (by decide)).2) k) ?_
          refine own_st (B := (T2.setTop (mkF m 33 #[.val (.ref a1), .val (.int o), .val (.int i)] [(.ref a1)]))) (fun _ k => XS.aloadN X2'.here hx rfl (hb hby d4_32) rfl rfl k) ?_
          refine own_st (B := (T2.setTop (mkF m 34 #[.val (.ref a1), .val (.int o), .val (.int i)] [(.int i), (.ref a1)]))) (fun _ k => XS.iloadN X2'.here hx rfl (hb hby d4_33) rfl k) ?_
          refine own_st (B := (T2.setTop (mkF m 35 #[.val (.ref a1), .val (.int o), .val (.int i)] [(.int (g j))]))) (fun _ k => own_baload X2' hx hZ q2 VF (i := j) (own_i0 hi).1 (own_i0 hi).2 (by omega) (g := (mkF m 34 #[.val (.ref a1), .val (.int o), .val (.int i)] [(.int i), (.ref a1)])) rfl rfl (hb hby d4_34) _ k) ?_
          refine own_st (B := (T2.setTop (mkF m 37 #[.val (.ref a1), .val (.int o), .val (.int i)] [(.int (13 : Int32)), (.int (g j))]))) (fun _ k => XS.bipush X2'.here hx rfl (hb hby d4_35) k) ?_
          by_cases c37_3 : (g j) = (13 : Int32)
          · refine own_st (B := (T2.setTop (mkF m 58 #[.val (.ref a1), .val (.int o), .val (.int i)] []))) (fun _ k => XS.icmpYes X2'.here hx rfl (pc0 := 37) (pc' := 58) rfl (hb hby d4_37) rfl (teq c37_3).1 (by decide) (by decide) k) ?_
            refine own_st (B := (T2.setTop (mkF m 59 #[.val (.ref a1), .val (.int o), .val (.int i)] [(.int (0 : Int32))]))) (fun _ k => XS.iconst X2'.here hx rfl (hb hby d4_58) k) ?_
            refine own_st (B := (T2.setTop (mkF m 60 #[.val (.ref a1), .val (.int (0 : Int32)), .val (.int i)] []))) (fun _ k => XS.istoreN X2'.here hx rfl (hb hby d4_59) rfl (l' := #[.val (.ref a1), .val (.int (0 : Int32)), .val (.int i)]) rfl k) ?_
            refine own_st (B := (T2.setTop (mkF m 63 #[.val (.ref a1), .val (.int (0 : Int32)), .val (.int (i + (1 : Int32)))] []))) (fun _ k => XS.iinc X2'.here hx rfl (hb hby d4_60) rfl (l' := #[.val (.ref a1), .val (.int (0 : Int32)), .val (.int (i + (1 : Int32)))]) rfl k) ?_
            refine own_st (B := (T2.setTop (mkF m 13 #[.val (.ref a1), .val (.int (0 : Int32)), .val (.int (i + (1 : Int32)))] []))) (fun _ k => XS.goto X2'.here hx rfl (pc0 := 63) (pc' := 13) rfl (hb hby d4_63) (by decide) (by decide) k) ?_
            exact ih T2 X2' q2 (i + 1) (j + 1) _ (own_inc hi (by omega) hn) (by omega) (Or.inr ⟨rfl, fun q => (q.2 j (by omega)).2.2.1 c37_3⟩)
          · refine own_st (B := (T2.setTop (mkF m 40 #[.val (.ref a1), .val (.int o), .val (.int i)] []))) (fun _ k => XS.icmpNo X2'.here hx rfl (hb hby d4_37) rfl (feq c37_3).1 k) ?_
            refine own_st (B := (T2.setTop (mkF m 41 #[.val (.ref a1), .val (.int o), .val (.int i)] [(.ref a1)]))) (fun _ k => XS.aloadN X2'.here hx rfl (hb hby d4_40) rfl rfl k) ?_
            refine own_st (B := (T2.setTop (mkF m 42 #[.val (.ref a1), .val (.int o), .val (.int i)] [(.int i), (.ref a1)]))) (fun _ k => XS.iloadN X2'.here hx rfl (hb hby d4_41) rfl k) ?_
            refine own_st (B := (T2.setTop (mkF m 43 #[.val (.ref a1), .val (.int o), .val (.int i)] [(.int (g j))]))) (fun _ k => own_baload X2' hx hZ q2 VF (i := j) (own_i0 hi).1 (own_i0 hi).2 (by omega) (g := (mkF m 42 #[.val (.ref a1), .val (.int o), .val (.int i)] [(.int i), (.ref a1)])) rfl rfl (hb hby d4_42) _ k) ?_
            refine own_st (B := (T2.setTop (mkF m 45 #[.val (.ref a1), .val (.int o), .val (.int i)] [(.int (10 : Int32)), (.int (g j))]))) (fun _ k => XS.bipush X2'.here hx rfl (hb hby d4_43) k) ?_
            by_cases c45_4 : (g j) = (10 : Int32)
            · refine own_st (B := (T2.setTop (mkF m 58 #[.val (.ref a1), .val (.int o), .val (.int i)] []))) (fun _ k => XS.icmpYes X2'.here hx rfl (pc0 := 45) (pc' := 58) rfl (hb hby d4_45) rfl (teq c45_4).1 (by decide) (by decide) k) ?_
              refine own_st (B := (T2.setTop (mkF m 59 #[.val (.ref a1), .val (.int o), .val (.int i)] [(.int (0 : Int32))]))) (fun _ k => XS.iconst X2'.here hx rfl (hb hby d4_58) k) ?_
              refine own_st (B := (T2.setTop (mkF m 60 #[.val (.ref a1), .val (.int (0 : Int32)), .val (.int i)] []))) (fun _ k => XS.istoreN X2'.here hx rfl (hb hby d4_59) rfl (l' := #[.val (.ref a1), .val (.int (0 : Int32)), .val (.int i)]) rfl k) ?_
              refine own_st (B := (T2.setTop (mkF m 63 #[.val (.ref a1), .val (.int (0 : Int32)), .val (.int (i + (1 : Int32)))] []))) (fun _ k => XS.iinc X2'.here hx rfl (hb hby d4_60) rfl (l' := #[.val (.ref a1), .val (.int (0 : Int32)), .val (.int (i + (1 : Int32)))]) rfl k) ?_
              refine own_st (B := (T2.setTop (mkF m 13 #[.val (.ref a1), .val (.int (0 : Int32)), .val (.int (i + (1 : Int32)))] []))) (fun _ k => XS.goto X2'.here hx rfl (pc0 := 63) (pc' := 13) rfl (hb hby d4_63) (by decide) (by decide) k) ?_
              exact ih T2 X2' q2 (i + 1) (j + 1) _ (own_inc hi (by omega) hn) (by omega) (Or.inr ⟨rfl, fun q => (q.2 j (by omega)).2.2.2.1 c45_4⟩)
            · refine own_st (B := (T2.setTop (mkF m 48 #[.val (.ref a1), .val (.int o), .val (.int i)] []))) (fun _ k => XS.icmpNo X2'.here hx rfl (hb hby d4_45) rfl (feq c45_4).1 k) ?_
              refine own_st (B := (T2.setTop (mkF m 49 #[.val (.ref a1), .val (.int o), .val (.int i)] [(.ref a1)]))) (fun _ k => XS.aloadN X2'.here hx rfl (hb hby d4_48) rfl rfl k) ?_
              refine own_st (B := (T2.setTop (mkF m 50 #[.val (.ref a1), .val (.int o), .val (.int i)] [(.int i), (.ref a1)]))) (fun _ k => XS.iloadN X2'.here hx rfl (hb hby d4_49) rfl k) ?_
              refine own_st (B := (T2.setTop (mkF m 51 #[.val (.ref a1), .val (.int o), .val (.int i)] [(.int (g j))]))) (fun _ k => own_baload X2' hx hZ q2 VF (i := j) (own_i0 hi).1 (own_i0 hi).2 (by omega) (g := (mkF m 50 #[.val (.ref a1), .val (.int o), .val (.int i)] [(.int i), (.ref a1)])) rfl rfl (hb hby d4_50) _ k) ?_
              by_cases c51_5 : (g j) = (0 : Int32)
              · refine own_st (B := (T2.setTop (mkF m 58 #[.val (.ref a1), .val (.int o), .val (.int i)] []))) (fun _ k => XS.ifYes X2'.here hx rfl (pc0 := 51) (pc' := 58) rfl (hb hby d4_51) rfl ((if0 _ _).trans (teq c51_5).1) (by decide) (by decide) k) ?_
                refine own_st (B := (T2.setTop (mkF m 59 #[.val (.ref a1), .val (.int o), .val (.int i)] [(.int (0 : Int32))]))) (fun _ k => XS.iconst X2'.here hx rfl (hb hby d4_58) k) ?_
                refine own_st (B := (T2.setTop (mkF m 60 #[.val (.ref a1), .val (.int (0 : Int32)), .val (.int i)] []))) (fun _ k => XS.istoreN X2'.here hx rfl (hb hby d4_59) rfl (l' := #[.val (.ref a1), .val (.int (0 : Int32)), .val (.int i)]) rfl k) ?_
                refine own_st (B := (T2.setTop (mkF m 63 #[.val (.ref a1), .val (.int (0 : Int32)), .val (.int (i + (1 : Int32)))] []))) (fun _ k => XS.iinc X2'.here hx rfl (hb hby d4_60) rfl (l' := #[.val (.ref a1), .val (.int (0 : Int32)), .val (.int (i + (1 : Int32)))]) rfl k) ?_
                refine own_st (B := (T2.setTop (mkF m 13 #[.val (.ref a1), .val (.int (0 : Int32)), .val (.int (i + (1 : Int32)))] []))) (fun _ k => XS.goto X2'.here hx rfl (pc0 := 63) (pc' := 13) rfl (hb hby d4_63) (by decide) (by decide) k) ?_
                exact ih T2 X2' q2 (i + 1) (j + 1) _ (own_inc hi (by omega) hn) (by omega) (Or.inr ⟨rfl, fun q => (q.2 j (by omega)).2.2.2.2 c51_5⟩)
              · refine own_st (B := (T2.setTop (mkF m 54 #[.val (.ref a1), .val (.int o), .val (.int i)] []))) (fun _ k => XS.ifNo X2'.here hx rfl (hb hby d4_51) rfl ((if0 _ _).trans (feq c51_5).1) k) ?_
                refine own_st (B := (T2.setTop (mkF m 55 #[.val (.ref a1), .val (.int o), .val (.int i)] [(.int (1 : Int32))]))) (fun _ k => XS.iconst X2'.here hx rfl (hb hby d4_54) k) ?_
                refine own_st (B := (T2.setTop (mkF m 59 #[.val (.ref a1), .val (.int o), .val (.int i)] [(.int (1 : Int32))]))) (fun _ k => XS.goto X2'.here hx rfl (pc0 := 55) (pc' := 59) rfl (hb hby d4_55) (by decide) (by decide) k) ?_
                refine own_st (B := (T2.setTop (mkF m 60 #[.val (.ref a1), .val (.int (1 : Int32)), .val (.int i)] []))) (fun _ k => XS.istoreN X2'.here hx rfl (hb hby d4_59) rfl (l' := #[.val (.ref a1), .val (.int (1 : Int32)), .val (.int i)]) rfl k) ?_
                refine own_st (B := (T2.setTop (mkF m 63 #[.val (.ref a1), .val (.int (1 : Int32)), .val (.int (i + (1 : Int32)))] []))) (fun _ k => XS.iinc X2'.here hx rfl (hb hby d4_60) rfl (l' := #[.val (.ref a1), .val (.int (1 : Int32)), .val (.int (i + (1 : Int32)))]) rfl k) ?_
                refine own_st (B := (T2.setTop (mkF m 13 #[.val (.ref a1), .val (.int (1 : Int32)), .val (.int (i + (1 : Int32)))] []))) (fun _ k => XS.goto X2'.here hx rfl (pc0 := 63) (pc' := 13) rfl (hb hby d4_63) (by decide) (by decide) k) ?_
                have hok : own_ok (g j) := ⟨fun q => hbl (Or.inl q), fun q => hbl (Or.inr q), c37_3, c45_4, c51_5⟩
                have h2' : ∀ q, q < j + 1 → own_ok (g q) := fun q hq => by
                  by_cases e : q = j
                  · rw [e]
                    exact hok
                  · exact h2 q (by omega)
                exact ih T2 X2' q2 (i + 1) (j + 1) _ (own_inc hi (by omega) hn) (by omega) (Or.inl ⟨rfl, h1, h2'⟩)
  refine own_st (B := (s₁.setTop (mkF m 1 #[.val (.ref a1), .unset, .unset] [(.ref a1)]))) (fun _ k => XS.aloadN X0.here hx rfl (hb hby d4_0) rfl rfl k) ?_
  refine own_st (B := (s₁.setTop (mkF m 2 #[.val (.ref a1), .unset, .unset] [(.int z)]))) (fun _ k => own_alen X0 hx hZ e0 VF (z := z) (own_n32 hz) (g := (mkF m 1 #[.val (.ref a1), .unset, .unset] [(.ref a1)])) rfl rfl (hb hby d4_1) _ k) ?_
  by_cases c2 : (0 : Int32) < z
  · refine own_st (B := (s₁.setTop (mkF m 5 #[.val (.ref a1), .unset, .unset] []))) (fun _ k => XS.ifNo X0.here hx rfl (hb hby d4_2) rfl ((if0 _ _).trans (tlt c2).2.2.2) k) ?_
    refine own_st (B := (s₁.setTop (mkF m 6 #[.val (.ref a1), .unset, .unset] [(.int (1 : Int32))]))) (fun _ k => XS.iconst X0.here hx rfl (hb hby d4_5) k) ?_
    refine own_st (B := (s₁.setTop (mkF m 10 #[.val (.ref a1), .unset, .unset] [(.int (1 : Int32))]))) (fun _ k => XS.goto X0.here hx rfl (pc0 := 6) (pc' := 10) rfl (hb hby d4_6) (by decide) (by decide) k) ?_
    refine own_st (B := (s₁.setTop (mkF m 11 #[.val (.ref a1), .val (.int (1 : Int32)), .unset] []))) (fun _ k => XS.istoreN X0.here hx rfl (hb hby d4_10) rfl (l' := #[.val (.ref a1), .val (.int (1 : Int32)), .unset]) rfl k) ?_
    refine own_st (B := (s₁.setTop (mkF m 12 #[.val (.ref a1), .val (.int (1 : Int32)), .unset] [(.int (0 : Int32))]))) (fun _ k => XS.iconst X0.here hx rfl (hb hby d4_11) k) ?_
    refine own_st (B := (s₁.setTop (mkF m 13 #[.val (.ref a1), .val (.int (1 : Int32)), .val (.int (0 : Int32))] []))) (fun _ k => XS.istoreN X0.here hx rfl (hb hby d4_12) rfl (l' := #[.val (.ref a1), .val (.int (1 : Int32)), .val (.int (0 : Int32))]) rfl k) ?_
    have i_c2 : 0 < z.toInt := own_tL c2
    exact loop n s₁ X0 e0 0 0 _ (by decide) (by omega) (Or.inl ⟨rfl, by omega, fun q hq => absurd hq (by omega)⟩)
  · refine own_st (B := (s₁.setTop (mkF m 9 #[.val (.ref a1), .unset, .unset] []))) (fun _ k => XS.ifYes X0.here hx rfl (pc0 := 2) (pc' := 9) rfl (hb hby d4_2) rfl ((if0 _ _).trans (flt c2).2.2.2) (by decide) (by decide) k) ?_
    refine own_st (B := (s₁.setTop (mkF m 10 #[.val (.ref a1), .unset, .unset] [(.int (0 : Int32))]))) (fun _ k => XS.iconst X0.here hx rfl (hb hby d4_9) k) ?_
    refine own_st (B := (s₁.setTop (mkF m 11 #[.val (.ref a1), .val (.int (0 : Int32)), .unset] []))) (fun _ k => XS.istoreN X0.here hx rfl (hb hby d4_10) rfl (l' := #[.val (.ref a1), .val (.int (0 : Int32)), .unset]) rfl k) ?_
    refine own_st (B := (s₁.setTop (mkF m 12 #[.val (.ref a1), .val (.int (0 : Int32)), .unset] [(.int (0 : Int32))]))) (fun _ k => XS.iconst X0.here hx rfl (hb hby d4_11) k) ?_
    refine own_st (B := (s₁.setTop (mkF m 13 #[.val (.ref a1), .val (.int (0 : Int32)), .val (.int (0 : Int32))] []))) (fun _ k => XS.istoreN X0.here hx rfl (hb hby d4_12) rfl (l' := #[.val (.ref a1), .val (.int (0 : Int32)), .val (.int (0 : Int32))]) rfl k) ?_
    have i_c2 : ¬ 0 < z.toInt := own_tLn c2
    exact loop n s₁ X0 e0 0 0 _ (by decide) (by omega) (Or.inr ⟨rfl, fun q => absurd q.1 (by omega)⟩)
theorem pd_1 : parseMethodDescriptor "(I)B" = some ⟨[.int], some .byte⟩ := by decide +kernel
theorem pd_2 : parseMethodDescriptor "([B)Z" = some ⟨[(.array .byte)], some .boolean⟩ := by decide +kernel
theorem ef_rm_law (m : MethodId) (x0 : Int32) (x1 : Int32) (x2 : Int32) (x3 : Int32) (x4 : Int32) : entryFrame m #[(.int x0), (.int x1), (.int x2), (.int x3), (.int x4)] maxLocals = mkF m 0 #[.val (.int x0), .val (.int x1), .val (.int x2), .val (.int x3), .val (.int x4), .unset, .unset, .unset, .unset, .unset, .unset, .unset, .unset] [] := by first | (simp [entryFrame, mkF, argsToLocals, Value.category, maxLocals]; done) | rfl
set_option maxRecDepth 65536 in
set_option maxHeartbeats 40000000 in
theorem rm_law (l : Launch) (Z : State) (a0 : Array Value) (hw : ∀ d ∈ tables_1, d.before a0 Z = true) (ws : List Jvm.Cond) (p0 p1 p2 p3 p4 : Int32) (h0 : Heap) (n0 : Nat) (Z0 : n0 ≤ h0.size)  :
    MetFree l x (head1 (Jvm.Cond.code x code maxLocals ret :: ws) room_1) (fun a U => a = #[(.int p0), (.int p1), (.int p2), (.int p3), (.int p4)] ∧ Z.Warmed39 U.vm ∧ U.heap = h0) (fun _ _ _ _ _ => True) (fun _ U o U' => ∃ v L, o = .returned v ∧ own_Q0 n0 v U'.heap L ∧ FrameEnd U o U' L 16 128) := by
  refine MetFree.of_bodySF (plainFor_of_name pn_0) hisR ?_
  intro p e s m args below meth c s₁ Bd hml0 hP hK
  obtain ⟨rfl, hZ, hh⟩ := hP
  have hx := Bd.exec
  have hby := Bd.bytes
  have hlk := Bd.notSynchronized
  have hret := Bd.returns
  have hml : c.maxLocals = 13 := hml0
  have hown : s.vm.findClass "com/example/patient_surfer/patientsurfer/read/LinksReaderIsLabelPinLaw" = some m.cls := findClass_of_methodNamed Bd.named
  have hnm := (name_of_methodNamed Bd.named Bd.method).1
  have X0 : Stand p l e room_1 s m #[(.int p0), (.int p1), (.int p2), (.int p3), (.int p4)] below meth c s₁ [] 0 0 := Stand.of_body Bd
  have e0 : s₁.heap = h0 := by rw [← hh, Bd.state]; rfl
  have N0 := Fr.nil n0
  show own_Dn p e below (own_Ret s (own_Q0 n0) 16 128) (s₁.setTop (entryFrame m #[(.int p0), (.int p1), (.int p2), (.int p3), (.int p4)] maxLocals))
  rw [ef_rm_law]
  refine own_st (B := (s₁.setTop (mkF m 1 #[.val (.int p0), .val (.int p1), .val (.int p2), .val (.int p3), .val (.int p4), .unset, .unset, .unset, .unset, .unset, .unset, .unset, .unset] [(.int p0)]))) (fun _ k => XS.iloadN X0.here hx rfl (hb hby at_0) rfl k) ?_
  refine own_st (B := (s₁.setTop (mkF m 3 #[.val (.int p0), .val (.int p1), .val (.int p2), .val (.int p3), .val (.int p4), .unset, .unset, .unset, .unset, .unset, .unset, .unset, .unset] [(.int (2147483647 : Int32)), (.int p0)]))) (fun _ k => X0.ldcInt hx hown (mvT hZ (hw _ (List.mem_of_getElem? (i := 0) rfl))) (g := (mkF m 1 #[.val (.int p0), .val (.int p1), .val (.int p2), .val (.int p3), .val (.int p4), .unset, .unset, .unset, .unset, .unset, .unset, .unset, .unset] [(.int p0)])) rfl (hb hby at_1) _ k) ?_
  refine own_st (B := (s₁.setTop (mkF m 4 #[.val (.int p0), .val (.int p1), .val (.int p2), .val (.int p3), .val (.int p4), .unset, .unset, .unset, .unset, .unset, .unset, .unset, .unset] [(.int (p0 &&& (2147483647 : Int32)))]))) (fun _ k => XS.iand X0.here hx rfl (hb hby at_3) rfl k) ?_
  refine own_st (B := (s₁.setTop (mkF m 5 #[.val (.int p0), .val (.int p1), .val (.int p2), .val (.int p3), .val (.int p4), .unset, .unset, .unset, .unset, .unset, .unset, .unset, .unset] [(.int (5 : Int32)), (.int (p0 &&& (2147483647 : Int32)))]))) (fun _ k => XS.iconst X0.here hx rfl (hb hby at_4) k) ?_
  refine own_st (B := (s₁.setTop (mkF m 6 #[.val (.int p0), .val (.int p1), .val (.int p2), .val (.int p3), .val (.int p4), .unset, .unset, .unset, .unset, .unset, .unset, .unset, .unset] [(.int ((p0 &&& (2147483647 : Int32)) % (5 : Int32)))]))) (fun _ k => iremM X0 hx rfl (hb hby at_5) rfl (by decide) k) ?_
  refine own_st (B := (s₁.setTop (mkF m 8 #[.val (.int p0), .val (.int p1), .val (.int p2), .val (.int p3), .val (.int p4), .val (.int ((p0 &&& (2147483647 : Int32)) % (5 : Int32))), .unset, .unset, .unset, .unset, .unset, .unset, .unset] []))) (fun _ k => XS.istore X0.here hx rfl (hb hby at_6) rfl (l' := #[.val (.int p0), .val (.int p1), .val (.int p2), .val (.int p3), .val (.int p4), .val (.int ((p0 &&& (2147483647 : Int32)) % (5 : Int32))), .unset, .unset, .unset, .unset, .unset, .unset, .unset]) rfl k) ?_
  have h5 := own_mod5 p0
  generalize ((p0 &&& (2147483647 : Int32)) % (5 : Int32)) = ul at *
  refine own_st (B := (s₁.setTop (mkF m 9 #[.val (.int p0), .val (.int p1), .val (.int p2), .val (.int p3), .val (.int p4), .val (.int ul), .unset, .unset, .unset, .unset, .unset, .unset, .unset] [(.int p1)]))) (fun _ k => XS.iloadN X0.here hx rfl (hb hby at_8) rfl k) ?_
  obtain ⟨v1, T1, L1, X1, Q1, st1⟩ := own_callS (W := 0) X0 hx hZ (y := (⟨"com/example/patient_surfer/patientsurfer/read/LinksReaderIsLabelPinLaw", "pick", "(I)B"⟩ : MethodName)) hown (hw _ (List.mem_of_getElem? (i := 1) rfl)) (hw _ (List.mem_of_getElem? (i := 2) rfl)) (hw _ (List.mem_of_getElem? (i := 3) rfl)) (hw _ (List.mem_of_getElem? (i := 4) rfl)) (by decide) e0 (rm_pick l Z a0 hw [] p1 h0) (g := (mkF m 9 #[.val (.int p0), .val (.int p1), .val (.int p2), .val (.int p3), .val (.int p4), .val (.int ul), .unset, .unset, .unset, .unset, .unset, .unset, .unset] [(.int p1)])) rfl (by rw [hml]; rfl) (argsL := [(.int p1)]) (rest := []) (lenOf pd_1 rfl) rfl rfl (by show 2 * 0 + _ ≤ _; exact Nat.le_of_eq rfl) (hb hby at_9) (by decide) (by decide) (by decide) (by decide)
  obtain ⟨x0, rfl, nx0, rfl, q1⟩ := Q1
  refine own_st (B := (T1.setTop (mkF m 12 #[.val (.int p0), .val (.int p1), .val (.int p2), .val (.int p3), .val (.int p4), .val (.int ul), .unset, .unset, .unset, .unset, .unset, .unset, .unset] [(.int x0)]))) st1 ?_
  refine own_st (B := (T1.setTop (mkF m 14 #[.val (.int p0), .val (.int p1), .val (.int p2), .val (.int p3), .val (.int p4), .val (.int ul), .val (.int x0), .unset, .unset, .unset, .unset, .unset, .unset] []))) (fun _ k => XS.istore X1.here hx rfl (hb hby at_12) rfl (l' := #[.val (.int p0), .val (.int p1), .val (.int p2), .val (.int p3), .val (.int p4), .val (.int ul), .val (.int x0), .unset, .unset, .unset, .unset, .unset, .unset]) rfl k) ?_
  refine own_st (B := (T1.setTop (mkF m 15 #[.val (.int p0), .val (.int p1), .val (.int p2), .val (.int p3), .val (.int p4), .val (.int ul), .val (.int x0), .unset, .unset, .unset, .unset, .unset, .unset] [(.int p2)]))) (fun _ k => XS.iloadN X1.here hx rfl (hb hby at_14) rfl k) ?_
  obtain ⟨v2, T2, L2, X2, Q2, st2⟩ := own_callS (W := 0) X1 hx hZ (y := (⟨"com/example/patient_surfer/patientsurfer/read/LinksReaderIsLabelPinLaw", "pick", "(I)B"⟩ : MethodName)) hown (hw _ (List.mem_of_getElem? (i := 1) rfl)) (hw _ (List.mem_of_getElem? (i := 2) rfl)) (hw _ (List.mem_of_getElem? (i := 3) rfl)) (hw _ (List.mem_of_getElem? (i := 4) rfl)) (by decide) q1 (rm_pick l Z a0 hw [] p2 h0) (g := (mkF m 15 #[.val (.int p0), .val (.int p1), .val (.int p2), .val (.int p3), .val (.int p4), .val (.int ul), .val (.int x0), .unset, .unset, .unset, .unset, .unset, .unset] [(.int p2)])) rfl (by rw [hml]; rfl) (argsL := [(.int p2)]) (rest := []) (lenOf pd_1 rfl) rfl rfl (by show 2 * 0 + _ ≤ _; exact Nat.le_of_eq rfl) (hb hby at_15) (by decide) (by decide) (by decide) (by decide)
  obtain ⟨x1, rfl, nx1, rfl, q2⟩ := Q2
  refine own_st (B := (T2.setTop (mkF m 18 #[.val (.int p0), .val (.int p1), .val (.int p2), .val (.int p3), .val (.int p4), .val (.int ul), .val (.int x0), .unset, .unset, .unset, .unset, .unset, .unset] [(.int x1)]))) st2 ?_
  refine own_st (B := (T2.setTop (mkF m 20 #[.val (.int p0), .val (.int p1), .val (.int p2), .val (.int p3), .val (.int p4), .val (.int ul), .val (.int x0), .val (.int x1), .unset, .unset, .unset, .unset, .unset] []))) (fun _ k => XS.istore X2.here hx rfl (hb hby at_18) rfl (l' := #[.val (.int p0), .val (.int p1), .val (.int p2), .val (.int p3), .val (.int p4), .val (.int ul), .val (.int x0), .val (.int x1), .unset, .unset, .unset, .unset, .unset]) rfl k) ?_
  refine own_st (B := (T2.setTop (mkF m 21 #[.val (.int p0), .val (.int p1), .val (.int p2), .val (.int p3), .val (.int p4), .val (.int ul), .val (.int x0), .val (.int x1), .unset, .unset, .unset, .unset, .unset] [(.int p3)]))) (fun _ k => XS.iloadN X2.here hx rfl (hb hby at_20) rfl k) ?_
  obtain ⟨v3, T3, L3, X3, Q3, st3⟩ := own_callS (W := 0) X2 hx hZ (y := (⟨"com/example/patient_surfer/patientsurfer/read/LinksReaderIsLabelPinLaw", "pick", "(I)B"⟩ : MethodName)) hown (hw _ (List.mem_of_getElem? (i := 1) rfl)) (hw _ (List.mem_of_getElem? (i := 2) rfl)) (hw _ (List.mem_of_getElem? (i := 3) rfl)) (hw _ (List.mem_of_getElem? (i := 4) rfl)) (by decide) q2 (rm_pick l Z a0 hw [] p3 h0) (g := (mkF m 21 #[.val (.int p0), .val (.int p1), .val (.int p2), .val (.int p3), .val (.int p4), .val (.int ul), .val (.int x0), .val (.int x1), .unset, .unset, .unset, .unset, .unset] [(.int p3)])) rfl (by rw [hml]; rfl) (argsL := [(.int p3)]) (rest := []) (lenOf pd_1 rfl) rfl rfl (by show 2 * 0 + _ ≤ _; exact Nat.le_of_eq rfl) (hb hby at_21) (by decide) (by decide) (by decide) (by decide)
  obtain ⟨x2, rfl, nx2, rfl, q3⟩ := Q3
  refine own_st (B := (T3.setTop (mkF m 24 #[.val (.int p0), .val (.int p1), .val (.int p2), .val (.int p3), .val (.int p4), .val (.int ul), .val (.int x0), .val (.int x1), .unset, .unset, .unset, .unset, .unset] [(.int x2)]))) st3 ?_
  refine own_st (B := (T3.setTop (mkF m 26 #[.val (.int p0), .val (.int p1), .val (.int p2), .val (.int p3), .val (.int p4), .val (.int ul), .val (.int x0), .val (.int x1), .val (.int x2), .unset, .unset, .unset, .unset] []))) (fun _ k => XS.istore X3.here hx rfl (hb hby at_24) rfl (l' := #[.val (.int p0), .val (.int p1), .val (.int p2), .val (.int p3), .val (.int p4), .val (.int ul), .val (.int x0), .val (.int x1), .val (.int x2), .unset, .unset, .unset, .unset]) rfl k) ?_
  refine own_st (B := (T3.setTop (mkF m 28 #[.val (.int p0), .val (.int p1), .val (.int p2), .val (.int p3), .val (.int p4), .val (.int ul), .val (.int x0), .val (.int x1), .val (.int x2), .unset, .unset, .unset, .unset] [(.int p4)]))) (fun _ k => XS.iload X3.here hx rfl (hb hby at_26) rfl k) ?_
  obtain ⟨v4, T4, L4, X4, Q4, st4⟩ := own_callS (W := 0) X3 hx hZ (y := (⟨"com/example/patient_surfer/patientsurfer/read/LinksReaderIsLabelPinLaw", "pick", "(I)B"⟩ : MethodName)) hown (hw _ (List.mem_of_getElem? (i := 1) rfl)) (hw _ (List.mem_of_getElem? (i := 2) rfl)) (hw _ (List.mem_of_getElem? (i := 3) rfl)) (hw _ (List.mem_of_getElem? (i := 4) rfl)) (by decide) q3 (rm_pick l Z a0 hw [] p4 h0) (g := (mkF m 28 #[.val (.int p0), .val (.int p1), .val (.int p2), .val (.int p3), .val (.int p4), .val (.int ul), .val (.int x0), .val (.int x1), .val (.int x2), .unset, .unset, .unset, .unset] [(.int p4)])) rfl (by rw [hml]; rfl) (argsL := [(.int p4)]) (rest := []) (lenOf pd_1 rfl) rfl rfl (by show 2 * 0 + _ ≤ _; exact Nat.le_of_eq rfl) (hb hby at_28) (by decide) (by decide) (by decide) (by decide)
  obtain ⟨x3, rfl, nx3, rfl, q4⟩ := Q4
  refine own_st (B := (T4.setTop (mkF m 31 #[.val (.int p0), .val (.int p1), .val (.int p2), .val (.int p3), .val (.int p4), .val (.int ul), .val (.int x0), .val (.int x1), .val (.int x2), .unset, .unset, .unset, .unset] [(.int x3)]))) st4 ?_
  refine own_st (B := (T4.setTop (mkF m 33 #[.val (.int p0), .val (.int p1), .val (.int p2), .val (.int p3), .val (.int p4), .val (.int ul), .val (.int x0), .val (.int x1), .val (.int x2), .val (.int x3), .unset, .unset, .unset] []))) (fun _ k => XS.istore X4.here hx rfl (hb hby at_31) rfl (l' := #[.val (.int p0), .val (.int p1), .val (.int p2), .val (.int p3), .val (.int p4), .val (.int ul), .val (.int x0), .val (.int x1), .val (.int x2), .val (.int x3), .unset, .unset, .unset]) rfl k) ?_
  rcases h5 with rfl | rfl | rfl | rfl | rfl
  · refine own_st (B := (T4.setTop (mkF m 35 #[.val (.int p0), .val (.int p1), .val (.int p2), .val (.int p3), .val (.int p4), .val (.int (0 : Int32)), .val (.int x0), .val (.int x1), .val (.int x2), .val (.int x3), .unset, .unset, .unset] [(.int (0 : Int32))]))) (fun _ k => XS.iload X4.here hx rfl (hb hby at_33) rfl k) ?_
    obtain ⟨T5, h5, k5, X5, e5, E5, A5, st5⟩ := newP X4 hx hZ (hw _ (List.mem_of_getElem? (i := 5) rfl)) q4 (g := (mkF m 35 #[.val (.int p0), .val (.int p1), .val (.int p2), .val (.int p3), .val (.int p4), .val (.int (0 : Int32)), .val (.int x0), .val (.int x1), .val (.int x2), .val (.int x3), .unset, .unset, .unset] [(.int (0 : Int32))])) rfl (hb hby at_35) rfl (by decide) (cap := 0) (by decide) (by decide) (by decide) (by decide)
    obtain ⟨b5, g5⟩ : ∃ z, z = h0.size := ⟨_, rfl⟩
    rw [← g5] at A5 st5
    have g_b5 : n0 ≤ b5 := Nat.le_trans Z0 (Nat.le_of_eq g5.symm)
    have Z5 : n0 ≤ h5.size := Nat.le_trans Z0 E5.1
    refine own_st (B := (T5.setTop (mkF m 37 #[.val (.int p0), .val (.int p1), .val (.int p2), .val (.int p3), .val (.int p4), .val (.int (0 : Int32)), .val (.int x0), .val (.int x1), .val (.int x2), .val (.int x3), .unset, .unset, .unset] [(.ref b5)]))) st5 ?_
    have V0 : own_AV Z h5 b5 .byte 0 (fun _ => defaultValue .byte) := own_AV.new A5 (by decide)
    have N0' := Fr.nil n0
    have VF : own_AV Z h5 b5 .byte 0 (fun i => .int ((fun _ => (0 : Int32)) i)) := V0.congr fun i hi => by
      exact absurd hi (by omega)
    refine own_st (B := (T5.setTop (mkF m 39 #[.val (.int p0), .val (.int p1), .val (.int p2), .val (.int p3), .val (.int p4), .val (.int (0 : Int32)), .val (.int x0), .val (.int x1), .val (.int x2), .val (.int x3), .val (.ref b5), .unset, .unset] []))) (fun _ k => XS.astore X5.here hx rfl (hb hby at_37) rfl rfl (l' := #[.val (.int p0), .val (.int p1), .val (.int p2), .val (.int p3), .val (.int p4), .val (.int (0 : Int32)), .val (.int x0), .val (.int x1), .val (.int x2), .val (.int x3), .val (.ref b5), .unset, .unset]) rfl k) ?_
    refine own_st (B := (T5.setTop (mkF m 41 #[.val (.int p0), .val (.int p1), .val (.int p2), .val (.int p3), .val (.int p4), .val (.int (0 : Int32)), .val (.int x0), .val (.int x1), .val (.int x2), .val (.int x3), .val (.ref b5), .unset, .unset] [(.int (0 : Int32))]))) (fun _ k => XS.iload X5.here hx rfl (hb hby at_39) rfl k) ?_
    refine own_st (B := (T5.setTop (mkF m 50 #[.val (.int p0), .val (.int p1), .val (.int p2), .val (.int p3), .val (.int p4), .val (.int (0 : Int32)), .val (.int x0), .val (.int x1), .val (.int x2), .val (.int x3), .val (.ref b5), .unset, .unset] []))) (fun _ k => XS.ifYes X5.here hx rfl (pc0 := 41) (pc' := 50) rfl (hb hby at_41) rfl ((if0 _ _).trans (flt (by decide)).2.2.2) (by decide) (by decide) k) ?_
    refine own_st (B := (T5.setTop (mkF m 52 #[.val (.int p0), .val (.int p1), .val (.int p2), .val (.int p3), .val (.int p4), .val (.int (0 : Int32)), .val (.int x0), .val (.int x1), .val (.int x2), .val (.int x3), .val (.ref b5), .unset, .unset] [(.int (0 : Int32))]))) (fun _ k => XS.iload X5.here hx rfl (hb hby at_50) rfl k) ?_
    refine own_st (B := (T5.setTop (mkF m 53 #[.val (.int p0), .val (.int p1), .val (.int p2), .val (.int p3), .val (.int p4), .val (.int (0 : Int32)), .val (.int x0), .val (.int x1), .val (.int x2), .val (.int x3), .val (.ref b5), .unset, .unset] [(.int (1 : Int32)), (.int (0 : Int32))]))) (fun _ k => XS.iconst X5.here hx rfl (hb hby at_52) k) ?_
    refine own_st (B := (T5.setTop (mkF m 62 #[.val (.int p0), .val (.int p1), .val (.int p2), .val (.int p3), .val (.int p4), .val (.int (0 : Int32)), .val (.int x0), .val (.int x1), .val (.int x2), .val (.int x3), .val (.ref b5), .unset, .unset] []))) (fun _ k => XS.icmpYes X5.here hx rfl (pc0 := 53) (pc' := 62) rfl (hb hby at_53) rfl (flt (by decide)).2.2.2 (by decide) (by decide) k) ?_
    refine own_st (B := (T5.setTop (mkF m 64 #[.val (.int p0), .val (.int p1), .val (.int p2), .val (.int p3), .val (.int p4), .val (.int (0 : Int32)), .val (.int x0), .val (.int x1), .val (.int x2), .val (.int x3), .val (.ref b5), .unset, .unset] [(.int (0 : Int32))]))) (fun _ k => XS.iload X5.here hx rfl (hb hby at_62) rfl k) ?_
    refine own_st (B := (T5.setTop (mkF m 65 #[.val (.int p0), .val (.int p1), .val (.int p2), .val (.int p3), .val (.int p4), .val (.int (0 : Int32)), .val (.int x0), .val (.int x1), .val (.int x2), .val (.int x3), .val (.ref b5), .unset, .unset] [(.int (2 : Int32)), (.int (0 : Int32))]))) (fun _ k => XS.iconst X5.here hx rfl (hb hby at_64) k) ?_
    refine own_st (B := (T5.setTop (mkF m 74 #[.val (.int p0), .val (.int p1), .val (.int p2), .val (.int p3), .val (.int p4), .val (.int (0 : Int32)), .val (.int x0), .val (.int x1), .val (.int x2), .val (.int x3), .val (.ref b5), .unset, .unset] []))) (fun _ k => XS.icmpYes X5.here hx rfl (pc0 := 65) (pc' := 74) rfl (hb hby at_65) rfl (flt (by decide)).2.2.2 (by decide) (by decide) k) ?_
    refine own_st (B := (T5.setTop (mkF m 76 #[.val (.int p0), .val (.int p1), .val (.int p2), .val (.int p3), .val (.int p4), .val (.int (0 : Int32)), .val (.int x0), .val (.int x1), .val (.int x2), .val (.int x3), .val (.ref b5), .unset, .unset] [(.int (0 : Int32))]))) (fun _ k => XS.iload X5.here hx rfl (hb hby at_74) rfl k) ?_
    refine own_st (B := (T5.setTop (mkF m 77 #[.val (.int p0), .val (.int p1), .val (.int p2), .val (.int p3), .val (.int p4), .val (.int (0 : Int32)), .val (.int x0), .val (.int x1), .val (.int x2), .val (.int x3), .val (.ref b5), .unset, .unset] [(.int (3 : Int32)), (.int (0 : Int32))]))) (fun _ k => XS.iconst X5.here hx rfl (hb hby at_76) k) ?_
    refine own_st (B := (T5.setTop (mkF m 86 #[.val (.int p0), .val (.int p1), .val (.int p2), .val (.int p3), .val (.int p4), .val (.int (0 : Int32)), .val (.int x0), .val (.int x1), .val (.int x2), .val (.int x3), .val (.ref b5), .unset, .unset] []))) (fun _ k => XS.icmpYes X5.here hx rfl (pc0 := 77) (pc' := 86) rfl (hb hby at_77) rfl (flt (by decide)).2.2.2 (by decide) (by decide) k) ?_
    refine own_st (B := (T5.setTop (mkF m 88 #[.val (.int p0), .val (.int p1), .val (.int p2), .val (.int p3), .val (.int p4), .val (.int (0 : Int32)), .val (.int x0), .val (.int x1), .val (.int x2), .val (.int x3), .val (.ref b5), .unset, .unset] [(.int (0 : Int32))]))) (fun _ k => XS.iload X5.here hx rfl (hb hby at_86) rfl k) ?_
    refine own_st (B := (T5.setTop (mkF m 151 #[.val (.int p0), .val (.int p1), .val (.int p2), .val (.int p3), .val (.int p4), .val (.int (0 : Int32)), .val (.int x0), .val (.int x1), .val (.int x2), .val (.int x3), .val (.ref b5), .unset, .unset] []))) (fun _ k => XS.ifYes X5.here hx rfl (pc0 := 88) (pc' := 151) rfl (hb hby at_88) rfl ((if0 _ _).trans (flt (by decide)).2.2.2) (by decide) (by decide) k) ?_
    refine own_st (B := (T5.setTop (mkF m 152 #[.val (.int p0), .val (.int p1), .val (.int p2), .val (.int p3), .val (.int p4), .val (.int (0 : Int32)), .val (.int x0), .val (.int x1), .val (.int x2), .val (.int x3), .val (.ref b5), .unset, .unset] [(.int (0 : Int32))]))) (fun _ k => XS.iconst X5.here hx rfl (hb hby at_151) k) ?_
    refine own_st (B := (T5.setTop (mkF m 154 #[.val (.int p0), .val (.int p1), .val (.int p2), .val (.int p3), .val (.int p4), .val (.int (0 : Int32)), .val (.int x0), .val (.int x1), .val (.int x2), .val (.int x3), .val (.ref b5), .val (.int (0 : Int32)), .unset] []))) (fun _ k => XS.istore X5.here hx rfl (hb hby at_152) rfl (l' := #[.val (.int p0), .val (.int p1), .val (.int p2), .val (.int p3), .val (.int p4), .val (.int (0 : Int32)), .val (.int x0), .val (.int x1), .val (.int x2), .val (.int x3), .val (.ref b5), .val (.int (0 : Int32)), .unset]) rfl k) ?_
    refine own_st (B := (T5.setTop (mkF m 156 #[.val (.int p0), .val (.int p1), .val (.int p2), .val (.int p3), .val (.int p4), .val (.int (0 : Int32)), .val (.int x0), .val (.int x1), .val (.int x2), .val (.int x3), .val (.ref b5), .val (.int (0 : Int32)), .unset] [(.ref b5)]))) (fun _ k => XS.aload X5.here hx rfl (hb hby at_154) rfl rfl k) ?_
    obtain ⟨v6, T6, L6, X6, Q6, st6⟩ := own_callS (W := 0) X5 hx hZ (y := (⟨"com/example/patient_surfer/patientsurfer/read/LinksReader", "isLabel", "([B)Z"⟩ : MethodName)) hown (hw _ (List.mem_of_getElem? (i := 6) rfl)) (hw _ (List.mem_of_getElem? (i := 7) rfl)) (hw _ (List.mem_of_getElem? (i := 8) rfl)) (hw _ (List.mem_of_getElem? (i := 9) rfl)) (by decide) e5 (rm_isl l Z a0 hw [] b5 0 0 (fun _ => (0 : Int32)) 0 h5 VF (by decide) (by decide) (Or.inr ⟨rfl, fun q => absurd q.1 (by decide)⟩)) (g := (mkF m 156 #[.val (.int p0), .val (.int p1), .val (.int p2), .val (.int p3), .val (.int p4), .val (.int (0 : Int32)), .val (.int x0), .val (.int x1), .val (.int x2), .val (.int x3), .val (.ref b5), .val (.int (0 : Int32)), .unset] [(.ref b5)])) rfl (by rw [hml]; rfl) (argsL := [(.ref b5)]) (rest := []) (lenOf pd_2 rfl) rfl rfl (by show 2 * 0 + _ ≤ _; exact Nat.le_of_eq rfl) (hb hby at_156) (by decide) (by decide) (by decide) (by decide)
    obtain ⟨rfl, rfl, q6⟩ := Q6
    refine own_st (B := (T6.setTop (mkF m 159 #[.val (.int p0), .val (.int p1), .val (.int p2), .val (.int p3), .val (.int p4), .val (.int (0 : Int32)), .val (.int x0), .val (.int x1), .val (.int x2), .val (.int x3), .val (.ref b5), .val (.int (0 : Int32)), .unset] [(.int (0 : Int32))]))) st6 ?_
    refine own_st (B := (T6.setTop (mkF m 161 #[.val (.int p0), .val (.int p1), .val (.int p2), .val (.int p3), .val (.int p4), .val (.int (0 : Int32)), .val (.int x0), .val (.int x1), .val (.int x2), .val (.int x3), .val (.ref b5), .val (.int (0 : Int32)), .val (.int (0 : Int32))] []))) (fun _ k => XS.istore X6.here hx rfl (hb hby at_159) rfl (l' := #[.val (.int p0), .val (.int p1), .val (.int p2), .val (.int p3), .val (.int p4), .val (.int (0 : Int32)), .val (.int x0), .val (.int x1), .val (.int x2), .val (.int x3), .val (.ref b5), .val (.int (0 : Int32)), .val (.int (0 : Int32))]) rfl k) ?_
    refine own_st (B := (T6.setTop (mkF m 163 #[.val (.int p0), .val (.int p1), .val (.int p2), .val (.int p3), .val (.int p4), .val (.int (0 : Int32)), .val (.int x0), .val (.int x1), .val (.int x2), .val (.int x3), .val (.ref b5), .val (.int (0 : Int32)), .val (.int (0 : Int32))] [(.int (0 : Int32))]))) (fun _ k => XS.iload X6.here hx rfl (hb hby at_161) rfl k) ?_
    refine own_st (B := (T6.setTop (mkF m 165 #[.val (.int p0), .val (.int p1), .val (.int p2), .val (.int p3), .val (.int p4), .val (.int (0 : Int32)), .val (.int x0), .val (.int x1), .val (.int x2), .val (.int x3), .val (.ref b5), .val (.int (0 : Int32)), .val (.int (0 : Int32))] [(.int (0 : Int32)), (.int (0 : Int32))]))) (fun _ k => XS.iload X6.here hx rfl (hb hby at_163) rfl k) ?_
    refine own_st (B := (T6.setTop (mkF m 168 #[.val (.int p0), .val (.int p1), .val (.int p2), .val (.int p3), .val (.int p4), .val (.int (0 : Int32)), .val (.int x0), .val (.int x1), .val (.int x2), .val (.int x3), .val (.ref b5), .val (.int (0 : Int32)), .val (.int (0 : Int32))] []))) (fun _ k => XS.icmpNo X6.here hx rfl (hb hby at_165) rfl (teq (by decide)).2 k) ?_
    refine own_st (B := (T6.setTop (mkF m 169 #[.val (.int p0), .val (.int p1), .val (.int p2), .val (.int p3), .val (.int p4), .val (.int (0 : Int32)), .val (.int x0), .val (.int x1), .val (.int x2), .val (.int x3), .val (.ref b5), .val (.int (0 : Int32)), .val (.int (0 : Int32))] [(.int (1 : Int32))]))) (fun _ k => XS.iconst X6.here hx rfl (hb hby at_168) k) ?_
    refine own_st (B := (T6.setTop (mkF m 173 #[.val (.int p0), .val (.int p1), .val (.int p2), .val (.int p3), .val (.int p4), .val (.int (0 : Int32)), .val (.int x0), .val (.int x1), .val (.int x2), .val (.int x3), .val (.ref b5), .val (.int (0 : Int32)), .val (.int (0 : Int32))] [(.int (1 : Int32))]))) (fun _ k => XS.goto X6.here hx rfl (pc0 := 169) (pc' := 173) rfl (hb hby at_169) (by decide) (by decide) k) ?_
    have NZ : Fr n0 [] := by
      intro y hy
      cases hy
    exact own_retN X6 hx hlk (t := .boolean) hret (by simp) (hb hby at_173) (by show own_Q0 n0 _ T6.heap _; rw [q6]; exact ⟨rfl, by simpa using NZ⟩) (by decide) (by decide)
  · refine own_st (B := (T4.setTop (mkF m 35 #[.val (.int p0), .val (.int p1), .val (.int p2), .val (.int p3), .val (.int p4), .val (.int (1 : Int32)), .val (.int x0), .val (.int x1), .val (.int x2), .val (.int x3), .unset, .unset, .unset] [(.int (1 : Int32))]))) (fun _ k => XS.iload X4.here hx rfl (hb hby at_33) rfl k) ?_
    obtain ⟨T7, h7, k7, X7, e7, E7, A7, st7⟩ := newP X4 hx hZ (hw _ (List.mem_of_getElem? (i := 5) rfl)) q4 (g := (mkF m 35 #[.val (.int p0), .val (.int p1), .val (.int p2), .val (.int p3), .val (.int p4), .val (.int (1 : Int32)), .val (.int x0), .val (.int x1), .val (.int x2), .val (.int x3), .unset, .unset, .unset] [(.int (1 : Int32))])) rfl (hb hby at_35) rfl (by decide) (cap := 1) (by decide) (by decide) (by decide) (by decide)
    obtain ⟨b7, g7⟩ : ∃ z, z = h0.size := ⟨_, rfl⟩
    rw [← g7] at A7 st7
    have g_b7 : n0 ≤ b7 := Nat.le_trans Z0 (Nat.le_of_eq g7.symm)
    have Z7 : n0 ≤ h7.size := Nat.le_trans Z0 E7.1
    refine own_st (B := (T7.setTop (mkF m 37 #[.val (.int p0), .val (.int p1), .val (.int p2), .val (.int p3), .val (.int p4), .val (.int (1 : Int32)), .val (.int x0), .val (.int x1), .val (.int x2), .val (.int x3), .unset, .unset, .unset] [(.ref b7)]))) st7 ?_
    have V0 : own_AV Z h7 b7 .byte 1 (fun _ => defaultValue .byte) := own_AV.new A7 (by decide)
    have N0' := Fr.nil n0
    refine own_st (B := (T7.setTop (mkF m 39 #[.val (.int p0), .val (.int p1), .val (.int p2), .val (.int p3), .val (.int p4), .val (.int (1 : Int32)), .val (.int x0), .val (.int x1), .val (.int x2), .val (.int x3), .val (.ref b7), .unset, .unset] []))) (fun _ k => XS.astore X7.here hx rfl (hb hby at_37) rfl rfl (l' := #[.val (.int p0), .val (.int p1), .val (.int p2), .val (.int p3), .val (.int p4), .val (.int (1 : Int32)), .val (.int x0), .val (.int x1), .val (.int x2), .val (.int x3), .val (.ref b7), .unset, .unset]) rfl k) ?_
    refine own_st (B := (T7.setTop (mkF m 41 #[.val (.int p0), .val (.int p1), .val (.int p2), .val (.int p3), .val (.int p4), .val (.int (1 : Int32)), .val (.int x0), .val (.int x1), .val (.int x2), .val (.int x3), .val (.ref b7), .unset, .unset] [(.int (1 : Int32))]))) (fun _ k => XS.iload X7.here hx rfl (hb hby at_39) rfl k) ?_
    refine own_st (B := (T7.setTop (mkF m 44 #[.val (.int p0), .val (.int p1), .val (.int p2), .val (.int p3), .val (.int p4), .val (.int (1 : Int32)), .val (.int x0), .val (.int x1), .val (.int x2), .val (.int x3), .val (.ref b7), .unset, .unset] []))) (fun _ k => XS.ifNo X7.here hx rfl (hb hby at_41) rfl ((if0 _ _).trans (tlt (by decide)).2.2.2) k) ?_
    refine own_st (B := (T7.setTop (mkF m 46 #[.val (.int p0), .val (.int p1), .val (.int p2), .val (.int p3), .val (.int p4), .val (.int (1 : Int32)), .val (.int x0), .val (.int x1), .val (.int x2), .val (.int x3), .val (.ref b7), .unset, .unset] [(.ref b7)]))) (fun _ k => XS.aload X7.here hx rfl (hb hby at_44) rfl rfl k) ?_
    refine own_st (B := (T7.setTop (mkF m 47 #[.val (.int p0), .val (.int p1), .val (.int p2), .val (.int p3), .val (.int p4), .val (.int (1 : Int32)), .val (.int x0), .val (.int x1), .val (.int x2), .val (.int x3), .val (.ref b7), .unset, .unset] [(.int (0 : Int32)), (.ref b7)]))) (fun _ k => XS.iconst X7.here hx rfl (hb hby at_46) k) ?_
    refine own_st (B := (T7.setTop (mkF m 49 #[.val (.int p0), .val (.int p1), .val (.int p2), .val (.int p3), .val (.int p4), .val (.int (1 : Int32)), .val (.int x0), .val (.int x1), .val (.int x2), .val (.int x3), .val (.ref b7), .unset, .unset] [(.int x0), (.int (0 : Int32)), (.ref b7)]))) (fun _ k => XS.iload X7.here hx rfl (hb hby at_47) rfl k) ?_
    obtain ⟨T8, h8, X8, e8, W8, V8, st8⟩ := own_stB X7 hx hZ e7 V0 (i := 0) (by decide) (by decide) (by decide) (g := (mkF m 49 #[.val (.int p0), .val (.int p1), .val (.int p2), .val (.int p3), .val (.int p4), .val (.int (1 : Int32)), .val (.int x0), .val (.int x1), .val (.int x2), .val (.int x3), .val (.ref b7), .unset, .unset] [(.int x0), (.int (0 : Int32)), (.ref b7)])) rfl rfl (hb hby at_49)
    refine own_st (B := (T8.setTop (mkF m 50 #[.val (.int p0), .val (.int p1), .val (.int p2), .val (.int p3), .val (.int p4), .val (.int (1 : Int32)), .val (.int x0), .val (.int x1), .val (.int x2), .val (.int x3), .val (.ref b7), .unset, .unset] []))) st8 ?_
    have VF : own_AV Z h8 b7 .byte 1 (fun i => .int ((fun _ => x0) i)) := V8.congr fun i hi => by
      have hi' : i = 0 := by omega
      rcases hi' with rfl
      · exact congrArg Value.int nx0
    refine own_st (B := (T8.setTop (mkF m 52 #[.val (.int p0), .val (.int p1), .val (.int p2), .val (.int p3), .val (.int p4), .val (.int (1 : Int32)), .val (.int x0), .val (.int x1), .val (.int x2), .val (.int x3), .val (.ref b7), .unset, .unset] [(.int (1 : Int32))]))) (fun _ k => XS.iload X8.here hx rfl (hb hby at_50) rfl k) ?_
    refine own_st (B := (T8.setTop (mkF m 53 #[.val (.int p0), .val (.int p1), .val (.int p2), .val (.int p3), .val (.int p4), .val (.int (1 : Int32)), .val (.int x0), .val (.int x1), .val (.int x2), .val (.int x3), .val (.ref b7), .unset, .unset] [(.int (1 : Int32)), (.int (1 : Int32))]))) (fun _ k => XS.iconst X8.here hx rfl (hb hby at_52) k) ?_
    refine own_st (B := (T8.setTop (mkF m 62 #[.val (.int p0), .val (.int p1), .val (.int p2), .val (.int p3), .val (.int p4), .val (.int (1 : Int32)), .val (.int x0), .val (.int x1), .val (.int x2), .val (.int x3), .val (.ref b7), .unset, .unset] []))) (fun _ k => XS.icmpYes X8.here hx rfl (pc0 := 53) (pc' := 62) rfl (hb hby at_53) rfl (flt (by decide)).2.2.2 (by decide) (by decide) k) ?_
    refine own_st (B := (T8.setTop (mkF m 64 #[.val (.int p0), .val (.int p1), .val (.int p2), .val (.int p3), .val (.int p4), .val (.int (1 : Int32)), .val (.int x0), .val (.int x1), .val (.int x2), .val (.int x3), .val (.ref b7), .unset, .unset] [(.int (1 : Int32))]))) (fun _ k => XS.iload X8.here hx rfl (hb hby at_62) rfl k) ?_
    refine own_st (B := (T8.setTop (mkF m 65 #[.val (.int p0), .val (.int p1), .val (.int p2), .val (.int p3), .val (.int p4), .val (.int (1 : Int32)), .val (.int x0), .val (.int x1), .val (.int x2), .val (.int x3), .val (.ref b7), .unset, .unset] [(.int (2 : Int32)), (.int (1 : Int32))]))) (fun _ k => XS.iconst X8.here hx rfl (hb hby at_64) k) ?_
    refine own_st (B := (T8.setTop (mkF m 74 #[.val (.int p0), .val (.int p1), .val (.int p2), .val (.int p3), .val (.int p4), .val (.int (1 : Int32)), .val (.int x0), .val (.int x1), .val (.int x2), .val (.int x3), .val (.ref b7), .unset, .unset] []))) (fun _ k => XS.icmpYes X8.here hx rfl (pc0 := 65) (pc' := 74) rfl (hb hby at_65) rfl (flt (by decide)).2.2.2 (by decide) (by decide) k) ?_
    refine own_st (B := (T8.setTop (mkF m 76 #[.val (.int p0), .val (.int p1), .val (.int p2), .val (.int p3), .val (.int p4), .val (.int (1 : Int32)), .val (.int x0), .val (.int x1), .val (.int x2), .val (.int x3), .val (.ref b7), .unset, .unset] [(.int (1 : Int32))]))) (fun _ k => XS.iload X8.here hx rfl (hb hby at_74) rfl k) ?_
    refine own_st (B := (T8.setTop (mkF m 77 #[.val (.int p0), .val (.int p1), .val (.int p2), .val (.int p3), .val (.int p4), .val (.int (1 : Int32)), .val (.int x0), .val (.int x1), .val (.int x2), .val (.int x3), .val (.ref b7), .unset, .unset] [(.int (3 : Int32)), (.int (1 : Int32))]))) (fun _ k => XS.iconst X8.here hx rfl (hb hby at_76) k) ?_
    refine own_st (B := (T8.setTop (mkF m 86 #[.val (.int p0), .val (.int p1), .val (.int p2), .val (.int p3), .val (.int p4), .val (.int (1 : Int32)), .val (.int x0), .val (.int x1), .val (.int x2), .val (.int x3), .val (.ref b7), .unset, .unset] []))) (fun _ k => XS.icmpYes X8.here hx rfl (pc0 := 77) (pc' := 86) rfl (hb hby at_77) rfl (flt (by decide)).2.2.2 (by decide) (by decide) k) ?_
    refine own_st (B := (T8.setTop (mkF m 88 #[.val (.int p0), .val (.int p1), .val (.int p2), .val (.int p3), .val (.int p4), .val (.int (1 : Int32)), .val (.int x0), .val (.int x1), .val (.int x2), .val (.int x3), .val (.ref b7), .unset, .unset] [(.int (1 : Int32))]))) (fun _ k => XS.iload X8.here hx rfl (hb hby at_86) rfl k) ?_
    refine own_st (B := (T8.setTop (mkF m 91 #[.val (.int p0), .val (.int p1), .val (.int p2), .val (.int p3), .val (.int p4), .val (.int (1 : Int32)), .val (.int x0), .val (.int x1), .val (.int x2), .val (.int x3), .val (.ref b7), .unset, .unset] []))) (fun _ k => XS.ifNo X8.here hx rfl (hb hby at_88) rfl ((if0 _ _).trans (tlt (by decide)).2.2.2) k) ?_
    refine own_st (B := (T8.setTop (mkF m 93 #[.val (.int p0), .val (.int p1), .val (.int p2), .val (.int p3), .val (.int p4), .val (.int (1 : Int32)), .val (.int x0), .val (.int x1), .val (.int x2), .val (.int x3), .val (.ref b7), .unset, .unset] [(.int (1 : Int32))]))) (fun _ k => XS.iload X8.here hx rfl (hb hby at_91) rfl k) ?_
    refine own_st (B := (T8.setTop (mkF m 94 #[.val (.int p0), .val (.int p1), .val (.int p2), .val (.int p3), .val (.int p4), .val (.int (1 : Int32)), .val (.int x0), .val (.int x1), .val (.int x2), .val (.int x3), .val (.ref b7), .unset, .unset] [(.int (1 : Int32)), (.int (1 : Int32))]))) (fun _ k => XS.iconst X8.here hx rfl (hb hby at_93) k) ?_
    refine own_st (B := (T8.setTop (mkF m 97 #[.val (.int p0), .val (.int p1), .val (.int p2), .val (.int p3), .val (.int p4), .val (.int (1 : Int32)), .val (.int x0), .val (.int x1), .val (.int x2), .val (.int x3), .val (.ref b7), .unset, .unset] []))) (fun _ k => XS.icmpNo X8.here hx rfl (hb hby at_94) rfl (flt (by decide)).1 k) ?_
    refine own_st (B := (T8.setTop (mkF m 99 #[.val (.int p0), .val (.int p1), .val (.int p2), .val (.int p3), .val (.int p4), .val (.int (1 : Int32)), .val (.int x0), .val (.int x1), .val (.int x2), .val (.int x3), .val (.ref b7), .unset, .unset] [(.int x0)]))) (fun _ k => XS.iload X8.here hx rfl (hb hby at_97) rfl k) ?_
    by_cases ok0 : own_ok x0
    · obtain ⟨v9, T9, L9, X9, Q9, st9⟩ := own_callS (W := 0) X8 hx hZ (y := (⟨"com/example/patient_surfer/patientsurfer/read/LinksReaderIsLabelPinLaw", "ok", "(B)Z"⟩ : MethodName)) hown (hw _ (List.mem_of_getElem? (i := 10) rfl)) (hw _ (List.mem_of_getElem? (i := 11) rfl)) (hw _ (List.mem_of_getElem? (i := 3) rfl)) (hw _ (List.mem_of_getElem? (i := 12) rfl)) (by decide) e8 (rm_ok l Z a0 hw [] x0 1 h8 (Or.inl ⟨rfl, ok0⟩)) (g := (mkF m 99 #[.val (.int p0), .val (.int p1), .val (.int p2), .val (.int p3), .val (.int p4), .val (.int (1 : Int32)), .val (.int x0), .val (.int x1), .val (.int x2), .val (.int x3), .val (.ref b7), .unset, .unset] [(.int x0)])) rfl (by rw [hml]; rfl) (argsL := [(.int x0)]) (rest := []) (lenOf pd_0 rfl) rfl rfl (by show 2 * 0 + _ ≤ _; exact Nat.le_of_eq rfl) (hb hby at_99) (by decide) (by decide) (by decide) (by decide)
      obtain ⟨rfl, rfl, q9⟩ := Q9
      refine own_st (B := (T9.setTop (mkF m 102 #[.val (.int p0), .val (.int p1), .val (.int p2), .val (.int p3), .val (.int p4), .val (.int (1 : Int32)), .val (.int x0), .val (.int x1), .val (.int x2), .val (.int x3), .val (.ref b7), .unset, .unset] [(.int (1 : Int32))]))) st9 ?_
      have hall : 0 < 1 ∧ ∀ q, q < 1 → own_ok ((fun _ => x0) q) := ⟨by decide, fun q hq => by
        have hq' : q = 0 := by omega
        rcases hq' with rfl
        · exact ok0⟩
      refine own_st (B := (T9.setTop (mkF m 105 #[.val (.int p0), .val (.int p1), .val (.int p2), .val (.int p3), .val (.int p4), .val (.int (1 : Int32)), .val (.int x0), .val (.int x1), .val (.int x2), .val (.int x3), .val (.ref b7), .unset, .unset] []))) (fun _ k => XS.ifNo X9.here hx rfl (hb hby at_102) rfl ((if0 _ _).trans (feq (by decide)).1) k) ?_
      refine own_st (B := (T9.setTop (mkF m 107 #[.val (.int p0), .val (.int p1), .val (.int p2), .val (.int p3), .val (.int p4), .val (.int (1 : Int32)), .val (.int x0), .val (.int x1), .val (.int x2), .val (.int x3), .val (.ref b7), .unset, .unset] [(.int (1 : Int32))]))) (fun _ k => XS.iload X9.here hx rfl (hb hby at_105) rfl k) ?_
      refine own_st (B := (T9.setTop (mkF m 108 #[.val (.int p0), .val (.int p1), .val (.int p2), .val (.int p3), .val (.int p4), .val (.int (1 : Int32)), .val (.int x0), .val (.int x1), .val (.int x2), .val (.int x3), .val (.ref b7), .unset, .unset] [(.int (2 : Int32)), (.int (1 : Int32))]))) (fun _ k => XS.iconst X9.here hx rfl (hb hby at_107) k) ?_
      refine own_st (B := (T9.setTop (mkF m 119 #[.val (.int p0), .val (.int p1), .val (.int p2), .val (.int p3), .val (.int p4), .val (.int (1 : Int32)), .val (.int x0), .val (.int x1), .val (.int x2), .val (.int x3), .val (.ref b7), .unset, .unset] []))) (fun _ k => XS.icmpYes X9.here hx rfl (pc0 := 108) (pc' := 119) rfl (hb hby at_108) rfl (tlt (by decide)).1 (by decide) (by decide) k) ?_
      refine own_st (B := (T9.setTop (mkF m 121 #[.val (.int p0), .val (.int p1), .val (.int p2), .val (.int p3), .val (.int p4), .val (.int (1 : Int32)), .val (.int x0), .val (.int x1), .val (.int x2), .val (.int x3), .val (.ref b7), .unset, .unset] [(.int (1 : Int32))]))) (fun _ k => XS.iload X9.here hx rfl (hb hby at_119) rfl k) ?_
      refine own_st (B := (T9.setTop (mkF m 122 #[.val (.int p0), .val (.int p1), .val (.int p2), .val (.int p3), .val (.int p4), .val (.int (1 : Int32)), .val (.int x0), .val (.int x1), .val (.int x2), .val (.int x3), .val (.ref b7), .unset, .unset] [(.int (3 : Int32)), (.int (1 : Int32))]))) (fun _ k => XS.iconst X9.here hx rfl (hb hby at_121) k) ?_
      refine own_st (B := (T9.setTop (mkF m 133 #[.val (.int p0), .val (.int p1), .val (.int p2), .val (.int p3), .val (.int p4), .val (.int (1 : Int32)), .val (.int x0), .val (.int x1), .val (.int x2), .val (.int x3), .val (.ref b7), .unset, .unset] []))) (fun _ k => XS.icmpYes X9.here hx rfl (pc0 := 122) (pc' := 133) rfl (hb hby at_122) rfl (tlt (by decide)).1 (by decide) (by decide) k) ?_
      refine own_st (B := (T9.setTop (mkF m 135 #[.val (.int p0), .val (.int p1), .val (.int p2), .val (.int p3), .val (.int p4), .val (.int (1 : Int32)), .val (.int x0), .val (.int x1), .val (.int x2), .val (.int x3), .val (.ref b7), .unset, .unset] [(.int (1 : Int32))]))) (fun _ k => XS.iload X9.here hx rfl (hb hby at_133) rfl k) ?_
      refine own_st (B := (T9.setTop (mkF m 136 #[.val (.int p0), .val (.int p1), .val (.int p2), .val (.int p3), .val (.int p4), .val (.int (1 : Int32)), .val (.int x0), .val (.int x1), .val (.int x2), .val (.int x3), .val (.ref b7), .unset, .unset] [(.int (4 : Int32)), (.int (1 : Int32))]))) (fun _ k => XS.iconst X9.here hx rfl (hb hby at_135) k) ?_
      refine own_st (B := (T9.setTop (mkF m 147 #[.val (.int p0), .val (.int p1), .val (.int p2), .val (.int p3), .val (.int p4), .val (.int (1 : Int32)), .val (.int x0), .val (.int x1), .val (.int x2), .val (.int x3), .val (.ref b7), .unset, .unset] []))) (fun _ k => XS.icmpYes X9.here hx rfl (pc0 := 136) (pc' := 147) rfl (hb hby at_136) rfl (tlt (by decide)).1 (by decide) (by decide) k) ?_
      refine own_st (B := (T9.setTop (mkF m 148 #[.val (.int p0), .val (.int p1), .val (.int p2), .val (.int p3), .val (.int p4), .val (.int (1 : Int32)), .val (.int x0), .val (.int x1), .val (.int x2), .val (.int x3), .val (.ref b7), .unset, .unset] [(.int (1 : Int32))]))) (fun _ k => XS.iconst X9.here hx rfl (hb hby at_147) k) ?_
      refine own_st (B := (T9.setTop (mkF m 152 #[.val (.int p0), .val (.int p1), .val (.int p2), .val (.int p3), .val (.int p4), .val (.int (1 : Int32)), .val (.int x0), .val (.int x1), .val (.int x2), .val (.int x3), .val (.ref b7), .unset, .unset] [(.int (1 : Int32))]))) (fun _ k => XS.goto X9.here hx rfl (pc0 := 148) (pc' := 152) rfl (hb hby at_148) (by decide) (by decide) k) ?_
      refine own_st (B := (T9.setTop (mkF m 154 #[.val (.int p0), .val (.int p1), .val (.int p2), .val (.int p3), .val (.int p4), .val (.int (1 : Int32)), .val (.int x0), .val (.int x1), .val (.int x2), .val (.int x3), .val (.ref b7), .val (.int (1 : Int32)), .unset] []))) (fun _ k => XS.istore X9.here hx rfl (hb hby at_152) rfl (l' := #[.val (.int p0), .val (.int p1), .val (.int p2), .val (.int p3), .val (.int p4), .val (.int (1 : Int32)), .val (.int x0), .val (.int x1), .val (.int x2), .val (.int x3), .val (.ref b7), .val (.int (1 : Int32)), .unset]) rfl k) ?_
      refine own_st (B := (T9.setTop (mkF m 156 #[.val (.int p0), .val (.int p1), .val (.int p2), .val (.int p3), .val (.int p4), .val (.int (1 : Int32)), .val (.int x0), .val (.int x1), .val (.int x2), .val (.int x3), .val (.ref b7), .val (.int (1 : Int32)), .unset] [(.ref b7)]))) (fun _ k => XS.aload X9.here hx rfl (hb hby at_154) rfl rfl k) ?_
      obtain ⟨v10, T10, L10, X10, Q10, st10⟩ := own_callS (W := 0) X9 hx hZ (y := (⟨"com/example/patient_surfer/patientsurfer/read/LinksReader", "isLabel", "([B)Z"⟩ : MethodName)) hown (hw _ (List.mem_of_getElem? (i := 6) rfl)) (hw _ (List.mem_of_getElem? (i := 7) rfl)) (hw _ (List.mem_of_getElem? (i := 8) rfl)) (hw _ (List.mem_of_getElem? (i := 9) rfl)) (by decide) q9 (rm_isl l Z a0 hw [] b7 1 1 (fun _ => x0) 1 h8 VF (by decide) (by decide) (Or.inl ⟨rfl, hall⟩)) (g := (mkF m 156 #[.val (.int p0), .val (.int p1), .val (.int p2), .val (.int p3), .val (.int p4), .val (.int (1 : Int32)), .val (.int x0), .val (.int x1), .val (.int x2), .val (.int x3), .val (.ref b7), .val (.int (1 : Int32)), .unset] [(.ref b7)])) rfl (by rw [hml]; rfl) (argsL := [(.ref b7)]) (rest := []) (lenOf pd_2 rfl) rfl rfl (by show 2 * 0 + _ ≤ _; exact Nat.le_of_eq rfl) (hb hby at_156) (by decide) (by decide) (by decide) (by decide)
      obtain ⟨rfl, rfl, q10⟩ := Q10
      refine own_st (B := (T10.setTop (mkF m 159 #[.val (.int p0), .val (.int p1), .val (.int p2), .val (.int p3), .val (.int p4), .val (.int (1 : Int32)), .val (.int x0), .val (.int x1), .val (.int x2), .val (.int x3), .val (.ref b7), .val (.int (1 : Int32)), .unset] [(.int (1 : Int32))]))) st10 ?_
      refine own_st (B := (T10.setTop (mkF m 161 #[.val (.int p0), .val (.int p1), .val (.int p2), .val (.int p3), .val (.int p4), .val (.int (1 : Int32)), .val (.int x0), .val (.int x1), .val (.int x2), .val (.int x3), .val (.ref b7), .val (.int (1 : Int32)), .val (.int (1 : Int32))] []))) (fun _ k => XS.istore X10.here hx rfl (hb hby at_159) rfl (l' := #[.val (.int p0), .val (.int p1), .val (.int p2), .val (.int p3), .val (.int p4), .val (.int (1 : Int32)), .val (.int x0), .val (.int x1), .val (.int x2), .val (.int x3), .val (.ref b7), .val (.int (1 : Int32)), .val (.int (1 : Int32))]) rfl k) ?_
      refine own_st (B := (T10.setTop (mkF m 163 #[.val (.int p0), .val (.int p1), .val (.int p2), .val (.int p3), .val (.int p4), .val (.int (1 : Int32)), .val (.int x0), .val (.int x1), .val (.int x2), .val (.int x3), .val (.ref b7), .val (.int (1 : Int32)), .val (.int (1 : Int32))] [(.int (1 : Int32))]))) (fun _ k => XS.iload X10.here hx rfl (hb hby at_161) rfl k) ?_
      refine own_st (B := (T10.setTop (mkF m 165 #[.val (.int p0), .val (.int p1), .val (.int p2), .val (.int p3), .val (.int p4), .val (.int (1 : Int32)), .val (.int x0), .val (.int x1), .val (.int x2), .val (.int x3), .val (.ref b7), .val (.int (1 : Int32)), .val (.int (1 : Int32))] [(.int (1 : Int32)), (.int (1 : Int32))]))) (fun _ k => XS.iload X10.here hx rfl (hb hby at_163) rfl k) ?_
      refine own_st (B := (T10.setTop (mkF m 168 #[.val (.int p0), .val (.int p1), .val (.int p2), .val (.int p3), .val (.int p4), .val (.int (1 : Int32)), .val (.int x0), .val (.int x1), .val (.int x2), .val (.int x3), .val (.ref b7), .val (.int (1 : Int32)), .val (.int (1 : Int32))] []))) (fun _ k => XS.icmpNo X10.here hx rfl (hb hby at_165) rfl (teq (by decide)).2 k) ?_
      refine own_st (B := (T10.setTop (mkF m 169 #[.val (.int p0), .val (.int p1), .val (.int p2), .val (.int p3), .val (.int p4), .val (.int (1 : Int32)), .val (.int x0), .val (.int x1), .val (.int x2), .val (.int x3), .val (.ref b7), .val (.int (1 : Int32)), .val (.int (1 : Int32))] [(.int (1 : Int32))]))) (fun _ k => XS.iconst X10.here hx rfl (hb hby at_168) k) ?_
      refine own_st (B := (T10.setTop (mkF m 173 #[.val (.int p0), .val (.int p1), .val (.int p2), .val (.int p3), .val (.int p4), .val (.int (1 : Int32)), .val (.int x0), .val (.int x1), .val (.int x2), .val (.int x3), .val (.ref b7), .val (.int (1 : Int32)), .val (.int (1 : Int32))] [(.int (1 : Int32))]))) (fun _ k => XS.goto X10.here hx rfl (pc0 := 169) (pc' := 173) rfl (hb hby at_169) (by decide) (by decide) k) ?_
      have NZ : Fr n0 [(⟨b7, 0⟩ : Loc)] := by
        intro y hy
        simp only [List.mem_cons, List.not_mem_nil, or_false] at hy
        rcases hy with rfl <;> exact g_b7
      exact own_retN X10 hx hlk (t := .boolean) hret (by simp) (hb hby at_173) (by show own_Q0 n0 _ T10.heap _; rw [q10]; exact ⟨rfl, by simpa using NZ⟩) (by decide) (by decide)
    · obtain ⟨v11, T11, L11, X11, Q11, st11⟩ := own_callS (W := 0) X8 hx hZ (y := (⟨"com/example/patient_surfer/patientsurfer/read/LinksReaderIsLabelPinLaw", "ok", "(B)Z"⟩ : MethodName)) hown (hw _ (List.mem_of_getElem? (i := 10) rfl)) (hw _ (List.mem_of_getElem? (i := 11) rfl)) (hw _ (List.mem_of_getElem? (i := 3) rfl)) (hw _ (List.mem_of_getElem? (i := 12) rfl)) (by decide) e8 (rm_ok l Z a0 hw [] x0 0 h8 (Or.inr ⟨rfl, ok0⟩)) (g := (mkF m 99 #[.val (.int p0), .val (.int p1), .val (.int p2), .val (.int p3), .val (.int p4), .val (.int (1 : Int32)), .val (.int x0), .val (.int x1), .val (.int x2), .val (.int x3), .val (.ref b7), .unset, .unset] [(.int x0)])) rfl (by rw [hml]; rfl) (argsL := [(.int x0)]) (rest := []) (lenOf pd_0 rfl) rfl rfl (by show 2 * 0 + _ ≤ _; exact Nat.le_of_eq rfl) (hb hby at_99) (by decide) (by decide) (by decide) (by decide)
      obtain ⟨rfl, rfl, q11⟩ := Q11
      refine own_st (B := (T11.setTop (mkF m 102 #[.val (.int p0), .val (.int p1), .val (.int p2), .val (.int p3), .val (.int p4), .val (.int (1 : Int32)), .val (.int x0), .val (.int x1), .val (.int x2), .val (.int x3), .val (.ref b7), .unset, .unset] [(.int (0 : Int32))]))) st11 ?_
      refine own_st (B := (T11.setTop (mkF m 151 #[.val (.int p0), .val (.int p1), .val (.int p2), .val (.int p3), .val (.int p4), .val (.int (1 : Int32)), .val (.int x0), .val (.int x1), .val (.int x2), .val (.int x3), .val (.ref b7), .unset, .unset] []))) (fun _ k => XS.ifYes X11.here hx rfl (pc0 := 102) (pc' := 151) rfl (hb hby at_102) rfl ((if0 _ _).trans (teq (by decide)).1) (by decide) (by decide) k) ?_
      refine own_st (B := (T11.setTop (mkF m 152 #[.val (.int p0), .val (.int p1), .val (.int p2), .val (.int p3), .val (.int p4), .val (.int (1 : Int32)), .val (.int x0), .val (.int x1), .val (.int x2), .val (.int x3), .val (.ref b7), .unset, .unset] [(.int (0 : Int32))]))) (fun _ k => XS.iconst X11.here hx rfl (hb hby at_151) k) ?_
      refine own_st (B := (T11.setTop (mkF m 154 #[.val (.int p0), .val (.int p1), .val (.int p2), .val (.int p3), .val (.int p4), .val (.int (1 : Int32)), .val (.int x0), .val (.int x1), .val (.int x2), .val (.int x3), .val (.ref b7), .val (.int (0 : Int32)), .unset] []))) (fun _ k => XS.istore X11.here hx rfl (hb hby at_152) rfl (l' := #[.val (.int p0), .val (.int p1), .val (.int p2), .val (.int p3), .val (.int p4), .val (.int (1 : Int32)), .val (.int x0), .val (.int x1), .val (.int x2), .val (.int x3), .val (.ref b7), .val (.int (0 : Int32)), .unset]) rfl k) ?_
      refine own_st (B := (T11.setTop (mkF m 156 #[.val (.int p0), .val (.int p1), .val (.int p2), .val (.int p3), .val (.int p4), .val (.int (1 : Int32)), .val (.int x0), .val (.int x1), .val (.int x2), .val (.int x3), .val (.ref b7), .val (.int (0 : Int32)), .unset] [(.ref b7)]))) (fun _ k => XS.aload X11.here hx rfl (hb hby at_154) rfl rfl k) ?_
      obtain ⟨v12, T12, L12, X12, Q12, st12⟩ := own_callS (W := 0) X11 hx hZ (y := (⟨"com/example/patient_surfer/patientsurfer/read/LinksReader", "isLabel", "([B)Z"⟩ : MethodName)) hown (hw _ (List.mem_of_getElem? (i := 6) rfl)) (hw _ (List.mem_of_getElem? (i := 7) rfl)) (hw _ (List.mem_of_getElem? (i := 8) rfl)) (hw _ (List.mem_of_getElem? (i := 9) rfl)) (by decide) q11 (rm_isl l Z a0 hw [] b7 1 1 (fun _ => x0) 0 h8 VF (by decide) (by decide) (Or.inr ⟨rfl, fun q => ok0 (q.2 0 (by decide))⟩)) (g := (mkF m 156 #[.val (.int p0), .val (.int p1), .val (.int p2), .val (.int p3), .val (.int p4), .val (.int (1 : Int32)), .val (.int x0), .val (.int x1), .val (.int x2), .val (.int x3), .val (.ref b7), .val (.int (0 : Int32)), .unset] [(.ref b7)])) rfl (by rw [hml]; rfl) (argsL := [(.ref b7)]) (rest := []) (lenOf pd_2 rfl) rfl rfl (by show 2 * 0 + _ ≤ _; exact Nat.le_of_eq rfl) (hb hby at_156) (by decide) (by decide) (by decide) (by decide)
      obtain ⟨rfl, rfl, q12⟩ := Q12
      refine own_st (B := (T12.setTop (mkF m 159 #[.val (.int p0), .val (.int p1), .val (.int p2), .val (.int p3), .val (.int p4), .val (.int (1 : Int32)), .val (.int x0), .val (.int x1), .val (.int x2), .val (.int x3), .val (.ref b7), .val (.int (0 : Int32)), .unset] [(.int (0 : Int32))]))) st12 ?_
      refine own_st (B := (T12.setTop (mkF m 161 #[.val (.int p0), .val (.int p1), .val (.int p2), .val (.int p3), .val (.int p4), .val (.int (1 : Int32)), .val (.int x0), .val (.int x1), .val (.int x2), .val (.int x3), .val (.ref b7), .val (.int (0 : Int32)), .val (.int (0 : Int32))] []))) (fun _ k => XS.istore X12.here hx rfl (hb hby at_159) rfl (l' := #[.val (.int p0), .val (.int p1), .val (.int p2), .val (.int p3), .val (.int p4), .val (.int (1 : Int32)), .val (.int x0), .val (.int x1), .val (.int x2), .val (.int x3), .val (.ref b7), .val (.int (0 : Int32)), .val (.int (0 : Int32))]) rfl k) ?_
      refine own_st (B := (T12.setTop (mkF m 163 #[.val (.int p0), .val (.int p1), .val (.int p2), .val (.int p3), .val (.int p4), .val (.int (1 : Int32)), .val (.int x0), .val (.int x1), .val (.int x2), .val (.int x3), .val (.ref b7), .val (.int (0 : Int32)), .val (.int (0 : Int32))] [(.int (0 : Int32))]))) (fun _ k => XS.iload X12.here hx rfl (hb hby at_161) rfl k) ?_
      refine own_st (B := (T12.setTop (mkF m 165 #[.val (.int p0), .val (.int p1), .val (.int p2), .val (.int p3), .val (.int p4), .val (.int (1 : Int32)), .val (.int x0), .val (.int x1), .val (.int x2), .val (.int x3), .val (.ref b7), .val (.int (0 : Int32)), .val (.int (0 : Int32))] [(.int (0 : Int32)), (.int (0 : Int32))]))) (fun _ k => XS.iload X12.here hx rfl (hb hby at_163) rfl k) ?_
      refine own_st (B := (T12.setTop (mkF m 168 #[.val (.int p0), .val (.int p1), .val (.int p2), .val (.int p3), .val (.int p4), .val (.int (1 : Int32)), .val (.int x0), .val (.int x1), .val (.int x2), .val (.int x3), .val (.ref b7), .val (.int (0 : Int32)), .val (.int (0 : Int32))] []))) (fun _ k => XS.icmpNo X12.here hx rfl (hb hby at_165) rfl (teq (by decide)).2 k) ?_
      refine own_st (B := (T12.setTop (mkF m 169 #[.val (.int p0), .val (.int p1), .val (.int p2), .val (.int p3), .val (.int p4), .val (.int (1 : Int32)), .val (.int x0), .val (.int x1), .val (.int x2), .val (.int x3), .val (.ref b7), .val (.int (0 : Int32)), .val (.int (0 : Int32))] [(.int (1 : Int32))]))) (fun _ k => XS.iconst X12.here hx rfl (hb hby at_168) k) ?_
      refine own_st (B := (T12.setTop (mkF m 173 #[.val (.int p0), .val (.int p1), .val (.int p2), .val (.int p3), .val (.int p4), .val (.int (1 : Int32)), .val (.int x0), .val (.int x1), .val (.int x2), .val (.int x3), .val (.ref b7), .val (.int (0 : Int32)), .val (.int (0 : Int32))] [(.int (1 : Int32))]))) (fun _ k => XS.goto X12.here hx rfl (pc0 := 169) (pc' := 173) rfl (hb hby at_169) (by decide) (by decide) k) ?_
      have NZ : Fr n0 [(⟨b7, 0⟩ : Loc)] := by
        intro y hy
        simp only [List.mem_cons, List.not_mem_nil, or_false] at hy
        rcases hy with rfl <;> exact g_b7
      exact own_retN X12 hx hlk (t := .boolean) hret (by simp) (hb hby at_173) (by show own_Q0 n0 _ T12.heap _; rw [q12]; exact ⟨rfl, by simpa using NZ⟩) (by decide) (by decide)
  · refine own_st (B := (T4.setTop (mkF m 35 #[.val (.int p0), .val (.int p1), .val (.int p2), .val (.int p3), .val (.int p4), .val (.int (2 : Int32)), .val (.int x0), .val (.int x1), .val (.int x2), .val (.int x3), .unset, .unset, .unset] [(.int (2 : Int32))]))) (fun _ k => XS.iload X4.here hx rfl (hb hby at_33) rfl k) ?_
    obtain ⟨T13, h13, k13, X13, e13, E13, A13, st13⟩ := newP X4 hx hZ (hw _ (List.mem_of_getElem? (i := 5) rfl)) q4 (g := (mkF m 35 #[.val (.int p0), .val (.int p1), .val (.int p2), .val (.int p3), .val (.int p4), .val (.int (2 : Int32)), .val (.int x0), .val (.int x1), .val (.int x2), .val (.int x3), .unset, .unset, .unset] [(.int (2 : Int32))])) rfl (hb hby at_35) rfl (by decide) (cap := 2) (by decide) (by decide) (by decide) (by decide)
    obtain ⟨b13, g13⟩ : ∃ z, z = h0.size := ⟨_, rfl⟩
    rw [← g13] at A13 st13
    have g_b13 : n0 ≤ b13 := Nat.le_trans Z0 (Nat.le_of_eq g13.symm)
    have Z13 : n0 ≤ h13.size := Nat.le_trans Z0 E13.1
    refine own_st (B := (T13.setTop (mkF m 37 #[.val (.int p0), .val (.int p1), .val (.int p2), .val (.int p3), .val (.int p4), .val (.int (2 : Int32)), .val (.int x0), .val (.int x1), .val (.int x2), .val (.int x3), .unset, .unset, .unset] [(.ref b13)]))) st13 ?_
    have V0 : own_AV Z h13 b13 .byte 2 (fun _ => defaultValue .byte) := own_AV.new A13 (by decide)
    have N0' := Fr.nil n0
    refine own_st (B := (T13.setTop (mkF m 39 #[.val (.int p0), .val (.int p1), .val (.int p2), .val (.int p3), .val (.int p4), .val (.int (2 : Int32)), .val (.int x0), .val (.int x1), .val (.int x2), .val (.int x3), .val (.ref b13), .unset, .unset] []))) (fun _ k => XS.astore X13.here hx rfl (hb hby at_37) rfl rfl (l' := #[.val (.int p0), .val (.int p1), .val (.int p2), .val (.int p3), .val (.int p4), .val (.int (2 : Int32)), .val (.int x0), .val (.int x1), .val (.int x2), .val (.int x3), .val (.ref b13), .unset, .unset]) rfl k) ?_
    refine own_st (B := (T13.setTop (mkF m 41 #[.val (.int p0), .val (.int p1), .val (.int p2), .val (.int p3), .val (.int p4), .val (.int (2 : Int32)), .val (.int x0), .val (.int x1), .val (.int x2), .val (.int x3), .val (.ref b13), .unset, .unset] [(.int (2 : Int32))]))) (fun _ k => XS.iload X13.here hx rfl (hb hby at_39) rfl k) ?_
    refine own_st (B := (T13.setTop (mkF m 44 #[.val (.int p0), .val (.int p1), .val (.int p2), .val (.int p3), .val (.int p4), .val (.int (2 : Int32)), .val (.int x0), .val (.int x1), .val (.int x2), .val (.int x3), .val (.ref b13), .unset, .unset] []))) (fun _ k => XS.ifNo X13.here hx rfl (hb hby at_41) rfl ((if0 _ _).trans (tlt (by decide)).2.2.2) k) ?_
    refine own_st (B := (T13.setTop (mkF m 46 #[.val (.int p0), .val (.int p1), .val (.int p2), .val (.int p3), .val (.int p4), .val (.int (2 : Int32)), .val (.int x0), .val (.int x1), .val (.int x2), .val (.int x3), .val (.ref b13), .unset, .unset] [(.ref b13)]))) (fun _ k => XS.aload X13.here hx rfl (hb hby at_44) rfl rfl k) ?_
    refine own_st (B := (T13.setTop (mkF m 47 #[.val (.int p0), .val (.int p1), .val (.int p2), .val (.int p3), .val (.int p4), .val (.int (2 : Int32)), .val (.int x0), .val (.int x1), .val (.int x2), .val (.int x3), .val (.ref b13), .unset, .unset] [(.int (0 : Int32)), (.ref b13)]))) (fun _ k => XS.iconst X13.here hx rfl (hb hby at_46) k) ?_
    refine own_st (B := (T13.setTop (mkF m 49 #[.val (.int p0), .val (.int p1), .val (.int p2), .val (.int p3), .val (.int p4), .val (.int (2 : Int32)), .val (.int x0), .val (.int x1), .val (.int x2), .val (.int x3), .val (.ref b13), .unset, .unset] [(.int x0), (.int (0 : Int32)), (.ref b13)]))) (fun _ k => XS.iload X13.here hx rfl (hb hby at_47) rfl k) ?_
    obtain ⟨T14, h14, X14, e14, W14, V14, st14⟩ := own_stB X13 hx hZ e13 V0 (i := 0) (by decide) (by decide) (by decide) (g := (mkF m 49 #[.val (.int p0), .val (.int p1), .val (.int p2), .val (.int p3), .val (.int p4), .val (.int (2 : Int32)), .val (.int x0), .val (.int x1), .val (.int x2), .val (.int x3), .val (.ref b13), .unset, .unset] [(.int x0), (.int (0 : Int32)), (.ref b13)])) rfl rfl (hb hby at_49)
    refine own_st (B := (T14.setTop (mkF m 50 #[.val (.int p0), .val (.int p1), .val (.int p2), .val (.int p3), .val (.int p4), .val (.int (2 : Int32)), .val (.int x0), .val (.int x1), .val (.int x2), .val (.int x3), .val (.ref b13), .unset, .unset] []))) st14 ?_
    refine own_st (B := (T14.setTop (mkF m 52 #[.val (.int p0), .val (.int p1), .val (.int p2), .val (.int p3), .val (.int p4), .val (.int (2 : Int32)), .val (.int x0), .val (.int x1), .val (.int x2), .val (.int x3), .val (.ref b13), .unset, .unset] [(.int (2 : Int32))]))) (fun _ k => XS.iload X14.here hx rfl (hb hby at_50) rfl k) ?_
    refine own_st (B := (T14.setTop (mkF m 53 #[.val (.int p0), .val (.int p1), .val (.int p2), .val (.int p3), .val (.int p4), .val (.int (2 : Int32)), .val (.int x0), .val (.int x1), .val (.int x2), .val (.int x3), .val (.ref b13), .unset, .unset] [(.int (1 : Int32)), (.int (2 : Int32))]))) (fun _ k => XS.iconst X14.here hx rfl (hb hby at_52) k) ?_
    refine own_st (B := (T14.setTop (mkF m 56 #[.val (.int p0), .val (.int p1), .val (.int p2), .val (.int p3), .val (.int p4), .val (.int (2 : Int32)), .val (.int x0), .val (.int x1), .val (.int x2), .val (.int x3), .val (.ref b13), .unset, .unset] []))) (fun _ k => XS.icmpNo X14.here hx rfl (hb hby at_53) rfl (tlt (by decide)).2.2.2 k) ?_
    refine own_st (B := (T14.setTop (mkF m 58 #[.val (.int p0), .val (.int p1), .val (.int p2), .val (.int p3), .val (.int p4), .val (.int (2 : Int32)), .val (.int x0), .val (.int x1), .val (.int x2), .val (.int x3), .val (.ref b13), .unset, .unset] [(.ref b13)]))) (fun _ k => XS.aload X14.here hx rfl (hb hby at_56) rfl rfl k) ?_
    refine own_st (B := (T14.setTop (mkF m 59 #[.val (.int p0), .val (.int p1), .val (.int p2), .val (.int p3), .val (.int p4), .val (.int (2 : Int32)), .val (.int x0), .val (.int x1), .val (.int x2), .val (.int x3), .val (.ref b13), .unset, .unset] [(.int (1 : Int32)), (.ref b13)]))) (fun _ k => XS.iconst X14.here hx rfl (hb hby at_58) k) ?_
    refine own_st (B := (T14.setTop (mkF m 61 #[.val (.int p0), .val (.int p1), .val (.int p2), .val (.int p3), .val (.int p4), .val (.int (2 : Int32)), .val (.int x0), .val (.int x1), .val (.int x2), .val (.int x3), .val (.ref b13), .unset, .unset] [(.int x1), (.int (1 : Int32)), (.ref b13)]))) (fun _ k => XS.iload X14.here hx rfl (hb hby at_59) rfl k) ?_
    obtain ⟨T15, h15, X15, e15, W15, V15, st15⟩ := own_stB X14 hx hZ e14 V14 (i := 1) (by decide) (by decide) (by decide) (g := (mkF m 61 #[.val (.int p0), .val (.int p1), .val (.int p2), .val (.int p3), .val (.int p4), .val (.int (2 : Int32)), .val (.int x0), .val (.int x1), .val (.int x2), .val (.int x3), .val (.ref b13), .unset, .unset] [(.int x1), (.int (1 : Int32)), (.ref b13)])) rfl rfl (hb hby at_61)
    refine own_st (B := (T15.setTop (mkF m 62 #[.val (.int p0), .val (.int p1), .val (.int p2), .val (.int p3), .val (.int p4), .val (.int (2 : Int32)), .val (.int x0), .val (.int x1), .val (.int x2), .val (.int x3), .val (.ref b13), .unset, .unset] []))) st15 ?_
    have VF : own_AV Z h15 b13 .byte 2 (fun i => .int ((fun i => if i = 1 then x1 else x0) i)) := V15.congr fun i hi => by
      have hi' : i = 0 ∨ i = 1 := by omega
      rcases hi' with rfl | rfl
      · exact congrArg Value.int nx0
      · exact congrArg Value.int nx1
    refine own_st (B := (T15.setTop (mkF m 64 #[.val (.int p0), .val (.int p1), .val (.int p2), .val (.int p3), .val (.int p4), .val (.int (2 : Int32)), .val (.int x0), .val (.int x1), .val (.int x2), .val (.int x3), .val (.ref b13), .unset, .unset] [(.int (2 : Int32))]))) (fun _ k => XS.iload X15.here hx rfl (hb hby at_62) rfl k) ?_
    refine own_st (B := (T15.setTop (mkF m 65 #[.val (.int p0), .val (.int p1), .val (.int p2), .val (.int p3), .val (.int p4), .val (.int (2 : Int32)), .val (.int x0), .val (.int x1), .val (.int x2), .val (.int x3), .val (.ref b13), .unset, .unset] [(.int (2 : Int32)), (.int (2 : Int32))]))) (fun _ k => XS.iconst X15.here hx rfl (hb hby at_64) k) ?_
    refine own_st (B := (T15.setTop (mkF m 74 #[.val (.int p0), .val (.int p1), .val (.int p2), .val (.int p3), .val (.int p4), .val (.int (2 : Int32)), .val (.int x0), .val (.int x1), .val (.int x2), .val (.int x3), .val (.ref b13), .unset, .unset] []))) (fun _ k => XS.icmpYes X15.here hx rfl (pc0 := 65) (pc' := 74) rfl (hb hby at_65) rfl (flt (by decide)).2.2.2 (by decide) (by decide) k) ?_
    refine own_st (B := (T15.setTop (mkF m 76 #[.val (.int p0), .val (.int p1), .val (.int p2), .val (.int p3), .val (.int p4), .val (.int (2 : Int32)), .val (.int x0), .val (.int x1), .val (.int x2), .val (.int x3), .val (.ref b13), .unset, .unset] [(.int (2 : Int32))]))) (fun _ k => XS.iload X15.here hx rfl (hb hby at_74) rfl k) ?_
    refine own_st (B := (T15.setTop (mkF m 77 #[.val (.int p0), .val (.int p1), .val (.int p2), .val (.int p3), .val (.int p4), .val (.int (2 : Int32)), .val (.int x0), .val (.int x1), .val (.int x2), .val (.int x3), .val (.ref b13), .unset, .unset] [(.int (3 : Int32)), (.int (2 : Int32))]))) (fun _ k => XS.iconst X15.here hx rfl (hb hby at_76) k) ?_
    refine own_st (B := (T15.setTop (mkF m 86 #[.val (.int p0), .val (.int p1), .val (.int p2), .val (.int p3), .val (.int p4), .val (.int (2 : Int32)), .val (.int x0), .val (.int x1), .val (.int x2), .val (.int x3), .val (.ref b13), .unset, .unset] []))) (fun _ k => XS.icmpYes X15.here hx rfl (pc0 := 77) (pc' := 86) rfl (hb hby at_77) rfl (flt (by decide)).2.2.2 (by decide) (by decide) k) ?_
    refine own_st (B := (T15.setTop (mkF m 88 #[.val (.int p0), .val (.int p1), .val (.int p2), .val (.int p3), .val (.int p4), .val (.int (2 : Int32)), .val (.int x0), .val (.int x1), .val (.int x2), .val (.int x3), .val (.ref b13), .unset, .unset] [(.int (2 : Int32))]))) (fun _ k => XS.iload X15.here hx rfl (hb hby at_86) rfl k) ?_
    refine own_st (B := (T15.setTop (mkF m 91 #[.val (.int p0), .val (.int p1), .val (.int p2), .val (.int p3), .val (.int p4), .val (.int (2 : Int32)), .val (.int x0), .val (.int x1), .val (.int x2), .val (.int x3), .val (.ref b13), .unset, .unset] []))) (fun _ k => XS.ifNo X15.here hx rfl (hb hby at_88) rfl ((if0 _ _).trans (tlt (by decide)).2.2.2) k) ?_
    refine own_st (B := (T15.setTop (mkF m 93 #[.val (.int p0), .val (.int p1), .val (.int p2), .val (.int p3), .val (.int p4), .val (.int (2 : Int32)), .val (.int x0), .val (.int x1), .val (.int x2), .val (.int x3), .val (.ref b13), .unset, .unset] [(.int (2 : Int32))]))) (fun _ k => XS.iload X15.here hx rfl (hb hby at_91) rfl k) ?_
    refine own_st (B := (T15.setTop (mkF m 94 #[.val (.int p0), .val (.int p1), .val (.int p2), .val (.int p3), .val (.int p4), .val (.int (2 : Int32)), .val (.int x0), .val (.int x1), .val (.int x2), .val (.int x3), .val (.ref b13), .unset, .unset] [(.int (1 : Int32)), (.int (2 : Int32))]))) (fun _ k => XS.iconst X15.here hx rfl (hb hby at_93) k) ?_
    refine own_st (B := (T15.setTop (mkF m 97 #[.val (.int p0), .val (.int p1), .val (.int p2), .val (.int p3), .val (.int p4), .val (.int (2 : Int32)), .val (.int x0), .val (.int x1), .val (.int x2), .val (.int x3), .val (.ref b13), .unset, .unset] []))) (fun _ k => XS.icmpNo X15.here hx rfl (hb hby at_94) rfl (flt (by decide)).1 k) ?_
    refine own_st (B := (T15.setTop (mkF m 99 #[.val (.int p0), .val (.int p1), .val (.int p2), .val (.int p3), .val (.int p4), .val (.int (2 : Int32)), .val (.int x0), .val (.int x1), .val (.int x2), .val (.int x3), .val (.ref b13), .unset, .unset] [(.int x0)]))) (fun _ k => XS.iload X15.here hx rfl (hb hby at_97) rfl k) ?_
    by_cases ok0 : own_ok x0
    · obtain ⟨v16, T16, L16, X16, Q16, st16⟩ := own_callS (W := 0) X15 hx hZ (y := (⟨"com/example/patient_surfer/patientsurfer/read/LinksReaderIsLabelPinLaw", "ok", "(B)Z"⟩ : MethodName)) hown (hw _ (List.mem_of_getElem? (i := 10) rfl)) (hw _ (List.mem_of_getElem? (i := 11) rfl)) (hw _ (List.mem_of_getElem? (i := 3) rfl)) (hw _ (List.mem_of_getElem? (i := 12) rfl)) (by decide) e15 (rm_ok l Z a0 hw [] x0 1 h15 (Or.inl ⟨rfl, ok0⟩)) (g := (mkF m 99 #[.val (.int p0), .val (.int p1), .val (.int p2), .val (.int p3), .val (.int p4), .val (.int (2 : Int32)), .val (.int x0), .val (.int x1), .val (.int x2), .val (.int x3), .val (.ref b13), .unset, .unset] [(.int x0)])) rfl (by rw [hml]; rfl) (argsL := [(.int x0)]) (rest := []) (lenOf pd_0 rfl) rfl rfl (by show 2 * 0 + _ ≤ _; exact Nat.le_of_eq rfl) (hb hby at_99) (by decide) (by decide) (by decide) (by decide)
      obtain ⟨rfl, rfl, q16⟩ := Q16
      refine own_st (B := (T16.setTop (mkF m 102 #[.val (.int p0), .val (.int p1), .val (.int p2), .val (.int p3), .val (.int p4), .val (.int (2 : Int32)), .val (.int x0), .val (.int x1), .val (.int x2), .val (.int x3), .val (.ref b13), .unset, .unset] [(.int (1 : Int32))]))) st16 ?_
      refine own_st (B := (T16.setTop (mkF m 105 #[.val (.int p0), .val (.int p1), .val (.int p2), .val (.int p3), .val (.int p4), .val (.int (2 : Int32)), .val (.int x0), .val (.int x1), .val (.int x2), .val (.int x3), .val (.ref b13), .unset, .unset] []))) (fun _ k => XS.ifNo X16.here hx rfl (hb hby at_102) rfl ((if0 _ _).trans (feq (by decide)).1) k) ?_
      refine own_st (B := (T16.setTop (mkF m 107 #[.val (.int p0), .val (.int p1), .val (.int p2), .val (.int p3), .val (.int p4), .val (.int (2 : Int32)), .val (.int x0), .val (.int x1), .val (.int x2), .val (.int x3), .val (.ref b13), .unset, .unset] [(.int (2 : Int32))]))) (fun _ k => XS.iload X16.here hx rfl (hb hby at_105) rfl k) ?_
      refine own_st (B := (T16.setTop (mkF m 108 #[.val (.int p0), .val (.int p1), .val (.int p2), .val (.int p3), .val (.int p4), .val (.int (2 : Int32)), .val (.int x0), .val (.int x1), .val (.int x2), .val (.int x3), .val (.ref b13), .unset, .unset] [(.int (2 : Int32)), (.int (2 : Int32))]))) (fun _ k => XS.iconst X16.here hx rfl (hb hby at_107) k) ?_
      refine own_st (B := (T16.setTop (mkF m 111 #[.val (.int p0), .val (.int p1), .val (.int p2), .val (.int p3), .val (.int p4), .val (.int (2 : Int32)), .val (.int x0), .val (.int x1), .val (.int x2), .val (.int x3), .val (.ref b13), .unset, .unset] []))) (fun _ k => XS.icmpNo X16.here hx rfl (hb hby at_108) rfl (flt (by decide)).1 k) ?_
      refine own_st (B := (T16.setTop (mkF m 113 #[.val (.int p0), .val (.int p1), .val (.int p2), .val (.int p3), .val (.int p4), .val (.int (2 : Int32)), .val (.int x0), .val (.int x1), .val (.int x2), .val (.int x3), .val (.ref b13), .unset, .unset] [(.int x1)]))) (fun _ k => XS.iload X16.here hx rfl (hb hby at_111) rfl k) ?_
      by_cases ok1 : own_ok x1
      · obtain ⟨v17, T17, L17, X17, Q17, st17⟩ := own_callS (W := 0) X16 hx hZ (y := (⟨"com/example/patient_surfer/patientsurfer/read/LinksReaderIsLabelPinLaw", "ok", "(B)Z"⟩ : MethodName)) hown (hw _ (List.mem_of_getElem? (i := 10) rfl)) (hw _ (List.mem_of_getElem? (i := 11) rfl)) (hw _ (List.mem_of_getElem? (i := 3) rfl)) (hw _ (List.mem_of_getElem? (i := 12) rfl)) (by decide) q16 (rm_ok l Z a0 hw [] x1 1 h15 (Or.inl ⟨rfl, ok1⟩)) (g := (mkF m 113 #[.val (.int p0), .val (.int p1), .val (.int p2), .val (.int p3), .val (.int p4), .val (.int (2 : Int32)), .val (.int x0), .val (.int x1), .val (.int x2), .val (.int x3), .val (.ref b13), .unset, .unset] [(.int x1)])) rfl (by rw [hml]; rfl) (argsL := [(.int x1)]) (rest := []) (lenOf pd_0 rfl) rfl rfl (by show 2 * 0 + _ ≤ _; exact Nat.le_of_eq rfl) (hb hby at_113) (by decide) (by decide) (by decide) (by decide)
        obtain ⟨rfl, rfl, q17⟩ := Q17
        refine own_st (B := (T17.setTop (mkF m 116 #[.val (.int p0), .val (.int p1), .val (.int p2), .val (.int p3), .val (.int p4), .val (.int (2 : Int32)), .val (.int x0), .val (.int x1), .val (.int x2), .val (.int x3), .val (.ref b13), .unset, .unset] [(.int (1 : Int32))]))) st17 ?_
        have hall : 0 < 2 ∧ ∀ q, q < 2 → own_ok ((fun i => if i = 1 then x1 else x0) q) := ⟨by decide, fun q hq => by
          have hq' : q = 0 ∨ q = 1 := by omega
          rcases hq' with rfl | rfl
          · exact ok0
          · exact ok1⟩
        refine own_st (B := (T17.setTop (mkF m 119 #[.val (.int p0), .val (.int p1), .val (.int p2), .val (.int p3), .val (.int p4), .val (.int (2 : Int32)), .val (.int x0), .val (.int x1), .val (.int x2), .val (.int x3), .val (.ref b13), .unset, .unset] []))) (fun _ k => XS.ifNo X17.here hx rfl (hb hby at_116) rfl ((if0 _ _).trans (feq (by decide)).1) k) ?_
        refine own_st (B := (T17.setTop (mkF m 121 #[.val (.int p0), .val (.int p1), .val (.int p2), .val (.int p3), .val (.int p4), .val (.int (2 : Int32)), .val (.int x0), .val (.int x1), .val (.int x2), .val (.int x3), .val (.ref b13), .unset, .unset] [(.int (2 : Int32))]))) (fun _ k => XS.iload X17.here hx rfl (hb hby at_119) rfl k) ?_
        refine own_st (B := (T17.setTop (mkF m 122 #[.val (.int p0), .val (.int p1), .val (.int p2), .val (.int p3), .val (.int p4), .val (.int (2 : Int32)), .val (.int x0), .val (.int x1), .val (.int x2), .val (.int x3), .val (.ref b13), .unset, .unset] [(.int (3 : Int32)), (.int (2 : Int32))]))) (fun _ k => XS.iconst X17.here hx rfl (hb hby at_121) k) ?_
        refine own_st (B := (T17.setTop (mkF m 133 #[.val (.int p0), .val (.int p1), .val (.int p2), .val (.int p3), .val (.int p4), .val (.int (2 : Int32)), .val (.int x0), .val (.int x1), .val (.int x2), .val (.int x3), .val (.ref b13), .unset, .unset] []))) (fun _ k => XS.icmpYes X17.here hx rfl (pc0 := 122) (pc' := 133) rfl (hb hby at_122) rfl (tlt (by decide)).1 (by decide) (by decide) k) ?_
        refine own_st (B := (T17.setTop (mkF m 135 #[.val (.int p0), .val (.int p1), .val (.int p2), .val (.int p3), .val (.int p4), .val (.int (2 : Int32)), .val (.int x0), .val (.int x1), .val (.int x2), .val (.int x3), .val (.ref b13), .unset, .unset] [(.int (2 : Int32))]))) (fun _ k => XS.iload X17.here hx rfl (hb hby at_133) rfl k) ?_
        refine own_st (B := (T17.setTop (mkF m 136 #[.val (.int p0), .val (.int p1), .val (.int p2), .val (.int p3), .val (.int p4), .val (.int (2 : Int32)), .val (.int x0), .val (.int x1), .val (.int x2), .val (.int x3), .val (.ref b13), .unset, .unset] [(.int (4 : Int32)), (.int (2 : Int32))]))) (fun _ k => XS.iconst X17.here hx rfl (hb hby at_135) k) ?_
        refine own_st (B := (T17.setTop (mkF m 147 #[.val (.int p0), .val (.int p1), .val (.int p2), .val (.int p3), .val (.int p4), .val (.int (2 : Int32)), .val (.int x0), .val (.int x1), .val (.int x2), .val (.int x3), .val (.ref b13), .unset, .unset] []))) (fun _ k => XS.icmpYes X17.here hx rfl (pc0 := 136) (pc' := 147) rfl (hb hby at_136) rfl (tlt (by decide)).1 (by decide) (by decide) k) ?_
        refine own_st (B := (T17.setTop (mkF m 148 #[.val (.int p0), .val (.int p1), .val (.int p2), .val (.int p3), .val (.int p4), .val (.int (2 : Int32)), .val (.int x0), .val (.int x1), .val (.int x2), .val (.int x3), .val (.ref b13), .unset, .unset] [(.int (1 : Int32))]))) (fun _ k => XS.iconst X17.here hx rfl (hb hby at_147) k) ?_
        refine own_st (B := (T17.setTop (mkF m 152 #[.val (.int p0), .val (.int p1), .val (.int p2), .val (.int p3), .val (.int p4), .val (.int (2 : Int32)), .val (.int x0), .val (.int x1), .val (.int x2), .val (.int x3), .val (.ref b13), .unset, .unset] [(.int (1 : Int32))]))) (fun _ k => XS.goto X17.here hx rfl (pc0 := 148) (pc' := 152) rfl (hb hby at_148) (by decide) (by decide) k) ?_
        refine own_st (B := (T17.setTop (mkF m 154 #[.val (.int p0), .val (.int p1), .val (.int p2), .val (.int p3), .val (.int p4), .val (.int (2 : Int32)), .val (.int x0), .val (.int x1), .val (.int x2), .val (.int x3), .val (.ref b13), .val (.int (1 : Int32)), .unset] []))) (fun _ k => XS.istore X17.here hx rfl (hb hby at_152) rfl (l' := #[.val (.int p0), .val (.int p1), .val (.int p2), .val (.int p3), .val (.int p4), .val (.int (2 : Int32)), .val (.int x0), .val (.int x1), .val (.int x2), .val (.int x3), .val (.ref b13), .val (.int (1 : Int32)), .unset]) rfl k) ?_
        refine own_st (B := (T17.setTop (mkF m 156 #[.val (.int p0), .val (.int p1), .val (.int p2), .val (.int p3), .val (.int p4), .val (.int (2 : Int32)), .val (.int x0), .val (.int x1), .val (.int x2), .val (.int x3), .val (.ref b13), .val (.int (1 : Int32)), .unset] [(.ref b13)]))) (fun _ k => XS.aload X17.here hx rfl (hb hby at_154) rfl rfl k) ?_
        obtain ⟨v18, T18, L18, X18, Q18, st18⟩ := own_callS (W := 0) X17 hx hZ (y := (⟨"com/example/patient_surfer/patientsurfer/read/LinksReader", "isLabel", "([B)Z"⟩ : MethodName)) hown (hw _ (List.mem_of_getElem? (i := 6) rfl)) (hw _ (List.mem_of_getElem? (i := 7) rfl)) (hw _ (List.mem_of_getElem? (i := 8) rfl)) (hw _ (List.mem_of_getElem? (i := 9) rfl)) (by decide) q17 (rm_isl l Z a0 hw [] b13 2 2 (fun i => if i = 1 then x1 else x0) 1 h15 VF (by decide) (by decide) (Or.inl ⟨rfl, hall⟩)) (g := (mkF m 156 #[.val (.int p0), .val (.int p1), .val (.int p2), .val (.int p3), .val (.int p4), .val (.int (2 : Int32)), .val (.int x0), .val (.int x1), .val (.int x2), .val (.int x3), .val (.ref b13), .val (.int (1 : Int32)), .unset] [(.ref b13)])) rfl (by rw [hml]; rfl) (argsL := [(.ref b13)]) (rest := []) (lenOf pd_2 rfl) rfl rfl (by show 2 * 0 + _ ≤ _; exact Nat.le_of_eq rfl) (hb hby at_156) (by decide) (by decide) (by decide) (by decide)
        obtain ⟨rfl, rfl, q18⟩ := Q18
        refine own_st (B := (T18.setTop (mkF m 159 #[.val (.int p0), .val (.int p1), .val (.int p2), .val (.int p3), .val (.int p4), .val (.int (2 : Int32)), .val (.int x0), .val (.int x1), .val (.int x2), .val (.int x3), .val (.ref b13), .val (.int (1 : Int32)), .unset] [(.int (1 : Int32))]))) st18 ?_
        refine own_st (B := (T18.setTop (mkF m 161 #[.val (.int p0), .val (.int p1), .val (.int p2), .val (.int p3), .val (.int p4), .val (.int (2 : Int32)), .val (.int x0), .val (.int x1), .val (.int x2), .val (.int x3), .val (.ref b13), .val (.int (1 : Int32)), .val (.int (1 : Int32))] []))) (fun _ k => XS.istore X18.here hx rfl (hb hby at_159) rfl (l' := #[.val (.int p0), .val (.int p1), .val (.int p2), .val (.int p3), .val (.int p4), .val (.int (2 : Int32)), .val (.int x0), .val (.int x1), .val (.int x2), .val (.int x3), .val (.ref b13), .val (.int (1 : Int32)), .val (.int (1 : Int32))]) rfl k) ?_
        refine own_st (B := (T18.setTop (mkF m 163 #[.val (.int p0), .val (.int p1), .val (.int p2), .val (.int p3), .val (.int p4), .val (.int (2 : Int32)), .val (.int x0), .val (.int x1), .val (.int x2), .val (.int x3), .val (.ref b13), .val (.int (1 : Int32)), .val (.int (1 : Int32))] [(.int (1 : Int32))]))) (fun _ k => XS.iload X18.here hx rfl (hb hby at_161) rfl k) ?_
        refine own_st (B := (T18.setTop (mkF m 165 #[.val (.int p0), .val (.int p1), .val (.int p2), .val (.int p3), .val (.int p4), .val (.int (2 : Int32)), .val (.int x0), .val (.int x1), .val (.int x2), .val (.int x3), .val (.ref b13), .val (.int (1 : Int32)), .val (.int (1 : Int32))] [(.int (1 : Int32)), (.int (1 : Int32))]))) (fun _ k => XS.iload X18.here hx rfl (hb hby at_163) rfl k) ?_
        refine own_st (B := (T18.setTop (mkF m 168 #[.val (.int p0), .val (.int p1), .val (.int p2), .val (.int p3), .val (.int p4), .val (.int (2 : Int32)), .val (.int x0), .val (.int x1), .val (.int x2), .val (.int x3), .val (.ref b13), .val (.int (1 : Int32)), .val (.int (1 : Int32))] []))) (fun _ k => XS.icmpNo X18.here hx rfl (hb hby at_165) rfl (teq (by decide)).2 k) ?_
        refine own_st (B := (T18.setTop (mkF m 169 #[.val (.int p0), .val (.int p1), .val (.int p2), .val (.int p3), .val (.int p4), .val (.int (2 : Int32)), .val (.int x0), .val (.int x1), .val (.int x2), .val (.int x3), .val (.ref b13), .val (.int (1 : Int32)), .val (.int (1 : Int32))] [(.int (1 : Int32))]))) (fun _ k => XS.iconst X18.here hx rfl (hb hby at_168) k) ?_
        refine own_st (B := (T18.setTop (mkF m 173 #[.val (.int p0), .val (.int p1), .val (.int p2), .val (.int p3), .val (.int p4), .val (.int (2 : Int32)), .val (.int x0), .val (.int x1), .val (.int x2), .val (.int x3), .val (.ref b13), .val (.int (1 : Int32)), .val (.int (1 : Int32))] [(.int (1 : Int32))]))) (fun _ k => XS.goto X18.here hx rfl (pc0 := 169) (pc' := 173) rfl (hb hby at_169) (by decide) (by decide) k) ?_
        have NZ : Fr n0 [(⟨b13, 0⟩ : Loc), (⟨b13, 1⟩ : Loc)] := by
          intro y hy
          simp only [List.mem_cons, List.not_mem_nil, or_false] at hy
          rcases hy with rfl | rfl <;> exact g_b13
        exact own_retN X18 hx hlk (t := .boolean) hret (by simp) (hb hby at_173) (by show own_Q0 n0 _ T18.heap _; rw [q18]; exact ⟨rfl, by simpa using NZ⟩) (by decide) (by decide)
      · obtain ⟨v19, T19, L19, X19, Q19, st19⟩ := own_callS (W := 0) X16 hx hZ (y := (⟨"com/example/patient_surfer/patientsurfer/read/LinksReaderIsLabelPinLaw", "ok", "(B)Z"⟩ : MethodName)) hown (hw _ (List.mem_of_getElem? (i := 10) rfl)) (hw _ (List.mem_of_getElem? (i := 11) rfl)) (hw _ (List.mem_of_getElem? (i := 3) rfl)) (hw _ (List.mem_of_getElem? (i := 12) rfl)) (by decide) q16 (rm_ok l Z a0 hw [] x1 0 h15 (Or.inr ⟨rfl, ok1⟩)) (g := (mkF m 113 #[.val (.int p0), .val (.int p1), .val (.int p2), .val (.int p3), .val (.int p4), .val (.int (2 : Int32)), .val (.int x0), .val (.int x1), .val (.int x2), .val (.int x3), .val (.ref b13), .unset, .unset] [(.int x1)])) rfl (by rw [hml]; rfl) (argsL := [(.int x1)]) (rest := []) (lenOf pd_0 rfl) rfl rfl (by show 2 * 0 + _ ≤ _; exact Nat.le_of_eq rfl) (hb hby at_113) (by decide) (by decide) (by decide) (by decide)
        obtain ⟨rfl, rfl, q19⟩ := Q19
        refine own_st (B := (T19.setTop (mkF m 116 #[.val (.int p0), .val (.int p1), .val (.int p2), .val (.int p3), .val (.int p4), .val (.int (2 : Int32)), .val (.int x0), .val (.int x1), .val (.int x2), .val (.int x3), .val (.ref b13), .unset, .unset] [(.int (0 : Int32))]))) st19 ?_
        refine own_st (B := (T19.setTop (mkF m 151 #[.val (.int p0), .val (.int p1), .val (.int p2), .val (.int p3), .val (.int p4), .val (.int (2 : Int32)), .val (.int x0), .val (.int x1), .val (.int x2), .val (.int x3), .val (.ref b13), .unset, .unset] []))) (fun _ k => XS.ifYes X19.here hx rfl (pc0 := 116) (pc' := 151) rfl (hb hby at_116) rfl ((if0 _ _).trans (teq (by decide)).1) (by decide) (by decide) k) ?_
        refine own_st (B := (T19.setTop (mkF m 152 #[.val (.int p0), .val (.int p1), .val (.int p2), .val (.int p3), .val (.int p4), .val (.int (2 : Int32)), .val (.int x0), .val (.int x1), .val (.int x2), .val (.int x3), .val (.ref b13), .unset, .unset] [(.int (0 : Int32))]))) (fun _ k => XS.iconst X19.here hx rfl (hb hby at_151) k) ?_
        refine own_st (B := (T19.setTop (mkF m 154 #[.val (.int p0), .val (.int p1), .val (.int p2), .val (.int p3), .val (.int p4), .val (.int (2 : Int32)), .val (.int x0), .val (.int x1), .val (.int x2), .val (.int x3), .val (.ref b13), .val (.int (0 : Int32)), .unset] []))) (fun _ k => XS.istore X19.here hx rfl (hb hby at_152) rfl (l' := #[.val (.int p0), .val (.int p1), .val (.int p2), .val (.int p3), .val (.int p4), .val (.int (2 : Int32)), .val (.int x0), .val (.int x1), .val (.int x2), .val (.int x3), .val (.ref b13), .val (.int (0 : Int32)), .unset]) rfl k) ?_
        refine own_st (B := (T19.setTop (mkF m 156 #[.val (.int p0), .val (.int p1), .val (.int p2), .val (.int p3), .val (.int p4), .val (.int (2 : Int32)), .val (.int x0), .val (.int x1), .val (.int x2), .val (.int x3), .val (.ref b13), .val (.int (0 : Int32)), .unset] [(.ref b13)]))) (fun _ k => XS.aload X19.here hx rfl (hb hby at_154) rfl rfl k) ?_
        obtain ⟨v20, T20, L20, X20, Q20, st20⟩ := own_callS (W := 0) X19 hx hZ (y := (⟨"com/example/patient_surfer/patientsurfer/read/LinksReader", "isLabel", "([B)Z"⟩ : MethodName)) hown (hw _ (List.mem_of_getElem? (i := 6) rfl)) (hw _ (List.mem_of_getElem? (i := 7) rfl)) (hw _ (List.mem_of_getElem? (i := 8) rfl)) (hw _ (List.mem_of_getElem? (i := 9) rfl)) (by decide) q19 (rm_isl l Z a0 hw [] b13 2 2 (fun i => if i = 1 then x1 else x0) 0 h15 VF (by decide) (by decide) (Or.inr ⟨rfl, fun q => ok1 (q.2 1 (by decide))⟩)) (g := (mkF m 156 #[.val (.int p0), .val (.int p1), .val (.int p2), .val (.int p3), .val (.int p4), .val (.int (2 : Int32)), .val (.int x0), .val (.int x1), .val (.int x2), .val (.int x3), .val (.ref b13), .val (.int (0 : Int32)), .unset] [(.ref b13)])) rfl (by rw [hml]; rfl) (argsL := [(.ref b13)]) (rest := []) (lenOf pd_2 rfl) rfl rfl (by show 2 * 0 + _ ≤ _; exact Nat.le_of_eq rfl) (hb hby at_156) (by decide) (by decide) (by decide) (by decide)
        obtain ⟨rfl, rfl, q20⟩ := Q20
        refine own_st (B := (T20.setTop (mkF m 159 #[.val (.int p0), .val (.int p1), .val (.int p2), .val (.int p3), .val (.int p4), .val (.int (2 : Int32)), .val (.int x0), .val (.int x1), .val (.int x2), .val (.int x3), .val (.ref b13), .val (.int (0 : Int32)), .unset] [(.int (0 : Int32))]))) st20 ?_
        refine own_st (B := (T20.setTop (mkF m 161 #[.val (.int p0), .val (.int p1), .val (.int p2), .val (.int p3), .val (.int p4), .val (.int (2 : Int32)), .val (.int x0), .val (.int x1), .val (.int x2), .val (.int x3), .val (.ref b13), .val (.int (0 : Int32)), .val (.int (0 : Int32))] []))) (fun _ k => XS.istore X20.here hx rfl (hb hby at_159) rfl (l' := #[.val (.int p0), .val (.int p1), .val (.int p2), .val (.int p3), .val (.int p4), .val (.int (2 : Int32)), .val (.int x0), .val (.int x1), .val (.int x2), .val (.int x3), .val (.ref b13), .val (.int (0 : Int32)), .val (.int (0 : Int32))]) rfl k) ?_
        refine own_st (B := (T20.setTop (mkF m 163 #[.val (.int p0), .val (.int p1), .val (.int p2), .val (.int p3), .val (.int p4), .val (.int (2 : Int32)), .val (.int x0), .val (.int x1), .val (.int x2), .val (.int x3), .val (.ref b13), .val (.int (0 : Int32)), .val (.int (0 : Int32))] [(.int (0 : Int32))]))) (fun _ k => XS.iload X20.here hx rfl (hb hby at_161) rfl k) ?_
        refine own_st (B := (T20.setTop (mkF m 165 #[.val (.int p0), .val (.int p1), .val (.int p2), .val (.int p3), .val (.int p4), .val (.int (2 : Int32)), .val (.int x0), .val (.int x1), .val (.int x2), .val (.int x3), .val (.ref b13), .val (.int (0 : Int32)), .val (.int (0 : Int32))] [(.int (0 : Int32)), (.int (0 : Int32))]))) (fun _ k => XS.iload X20.here hx rfl (hb hby at_163) rfl k) ?_
        refine own_st (B := (T20.setTop (mkF m 168 #[.val (.int p0), .val (.int p1), .val (.int p2), .val (.int p3), .val (.int p4), .val (.int (2 : Int32)), .val (.int x0), .val (.int x1), .val (.int x2), .val (.int x3), .val (.ref b13), .val (.int (0 : Int32)), .val (.int (0 : Int32))] []))) (fun _ k => XS.icmpNo X20.here hx rfl (hb hby at_165) rfl (teq (by decide)).2 k) ?_
        refine own_st (B := (T20.setTop (mkF m 169 #[.val (.int p0), .val (.int p1), .val (.int p2), .val (.int p3), .val (.int p4), .val (.int (2 : Int32)), .val (.int x0), .val (.int x1), .val (.int x2), .val (.int x3), .val (.ref b13), .val (.int (0 : Int32)), .val (.int (0 : Int32))] [(.int (1 : Int32))]))) (fun _ k => XS.iconst X20.here hx rfl (hb hby at_168) k) ?_
        refine own_st (B := (T20.setTop (mkF m 173 #[.val (.int p0), .val (.int p1), .val (.int p2), .val (.int p3), .val (.int p4), .val (.int (2 : Int32)), .val (.int x0), .val (.int x1), .val (.int x2), .val (.int x3), .val (.ref b13), .val (.int (0 : Int32)), .val (.int (0 : Int32))] [(.int (1 : Int32))]))) (fun _ k => XS.goto X20.here hx rfl (pc0 := 169) (pc' := 173) rfl (hb hby at_169) (by decide) (by decide) k) ?_
        have NZ : Fr n0 [(⟨b13, 0⟩ : Loc), (⟨b13, 1⟩ : Loc)] := by
          intro y hy
          simp only [List.mem_cons, List.not_mem_nil, or_false] at hy
          rcases hy with rfl | rfl <;> exact g_b13
        exact own_retN X20 hx hlk (t := .boolean) hret (by simp) (hb hby at_173) (by show own_Q0 n0 _ T20.heap _; rw [q20]; exact ⟨rfl, by simpa using NZ⟩) (by decide) (by decide)
    · obtain ⟨v21, T21, L21, X21, Q21, st21⟩ := own_callS (W := 0) X15 hx hZ (y := (⟨"com/example/patient_surfer/patientsurfer/read/LinksReaderIsLabelPinLaw", "ok", "(B)Z"⟩ : MethodName)) hown (hw _ (List.mem_of_getElem? (i := 10) rfl)) (hw _ (List.mem_of_getElem? (i := 11) rfl)) (hw _ (List.mem_of_getElem? (i := 3) rfl)) (hw _ (List.mem_of_getElem? (i := 12) rfl)) (by decide) e15 (rm_ok l Z a0 hw [] x0 0 h15 (Or.inr ⟨rfl, ok0⟩)) (g := (mkF m 99 #[.val (.int p0), .val (.int p1), .val (.int p2), .val (.int p3), .val (.int p4), .val (.int (2 : Int32)), .val (.int x0), .val (.int x1), .val (.int x2), .val (.int x3), .val (.ref b13), .unset, .unset] [(.int x0)])) rfl (by rw [hml]; rfl) (argsL := [(.int x0)]) (rest := []) (lenOf pd_0 rfl) rfl rfl (by show 2 * 0 + _ ≤ _; exact Nat.le_of_eq rfl) (hb hby at_99) (by decide) (by decide) (by decide) (by decide)
      obtain ⟨rfl, rfl, q21⟩ := Q21
      refine own_st (B := (T21.setTop (mkF m 102 #[.val (.int p0), .val (.int p1), .val (.int p2), .val (.int p3), .val (.int p4), .val (.int (2 : Int32)), .val (.int x0), .val (.int x1), .val (.int x2), .val (.int x3), .val (.ref b13), .unset, .unset] [(.int (0 : Int32))]))) st21 ?_
      refine own_st (B := (T21.setTop (mkF m 151 #[.val (.int p0), .val (.int p1), .val (.int p2), .val (.int p3), .val (.int p4), .val (.int (2 : Int32)), .val (.int x0), .val (.int x1), .val (.int x2), .val (.int x3), .val (.ref b13), .unset, .unset] []))) (fun _ k => XS.ifYes X21.here hx rfl (pc0 := 102) (pc' := 151) rfl (hb hby at_102) rfl ((if0 _ _).trans (teq (by decide)).1) (by decide) (by decide) k) ?_
      refine own_st (B := (T21.setTop (mkF m 152 #[.val (.int p0), .val (.int p1), .val (.int p2), .val (.int p3), .val (.int p4), .val (.int (2 : Int32)), .val (.int x0), .val (.int x1), .val (.int x2), .val (.int x3), .val (.ref b13), .unset, .unset] [(.int (0 : Int32))]))) (fun _ k => XS.iconst X21.here hx rfl (hb hby at_151) k) ?_
      refine own_st (B := (T21.setTop (mkF m 154 #[.val (.int p0), .val (.int p1), .val (.int p2), .val (.int p3), .val (.int p4), .val (.int (2 : Int32)), .val (.int x0), .val (.int x1), .val (.int x2), .val (.int x3), .val (.ref b13), .val (.int (0 : Int32)), .unset] []))) (fun _ k => XS.istore X21.here hx rfl (hb hby at_152) rfl (l' := #[.val (.int p0), .val (.int p1), .val (.int p2), .val (.int p3), .val (.int p4), .val (.int (2 : Int32)), .val (.int x0), .val (.int x1), .val (.int x2), .val (.int x3), .val (.ref b13), .val (.int (0 : Int32)), .unset]) rfl k) ?_
      refine own_st (B := (T21.setTop (mkF m 156 #[.val (.int p0), .val (.int p1), .val (.int p2), .val (.int p3), .val (.int p4), .val (.int (2 : Int32)), .val (.int x0), .val (.int x1), .val (.int x2), .val (.int x3), .val (.ref b13), .val (.int (0 : Int32)), .unset] [(.ref b13)]))) (fun _ k => XS.aload X21.here hx rfl (hb hby at_154) rfl rfl k) ?_
      obtain ⟨v22, T22, L22, X22, Q22, st22⟩ := own_callS (W := 0) X21 hx hZ (y := (⟨"com/example/patient_surfer/patientsurfer/read/LinksReader", "isLabel", "([B)Z"⟩ : MethodName)) hown (hw _ (List.mem_of_getElem? (i := 6) rfl)) (hw _ (List.mem_of_getElem? (i := 7) rfl)) (hw _ (List.mem_of_getElem? (i := 8) rfl)) (hw _ (List.mem_of_getElem? (i := 9) rfl)) (by decide) q21 (rm_isl l Z a0 hw [] b13 2 2 (fun i => if i = 1 then x1 else x0) 0 h15 VF (by decide) (by decide) (Or.inr ⟨rfl, fun q => ok0 (q.2 0 (by decide))⟩)) (g := (mkF m 156 #[.val (.int p0), .val (.int p1), .val (.int p2), .val (.int p3), .val (.int p4), .val (.int (2 : Int32)), .val (.int x0), .val (.int x1), .val (.int x2), .val (.int x3), .val (.ref b13), .val (.int (0 : Int32)), .unset] [(.ref b13)])) rfl (by rw [hml]; rfl) (argsL := [(.ref b13)]) (rest := []) (lenOf pd_2 rfl) rfl rfl (by show 2 * 0 + _ ≤ _; exact Nat.le_of_eq rfl) (hb hby at_156) (by decide) (by decide) (by decide) (by decide)
      obtain ⟨rfl, rfl, q22⟩ := Q22
      refine own_st (B := (T22.setTop (mkF m 159 #[.val (.int p0), .val (.int p1), .val (.int p2), .val (.int p3), .val (.int p4), .val (.int (2 : Int32)), .val (.int x0), .val (.int x1), .val (.int x2), .val (.int x3), .val (.ref b13), .val (.int (0 : Int32)), .unset] [(.int (0 : Int32))]))) st22 ?_
      refine own_st (B := (T22.setTop (mkF m 161 #[.val (.int p0), .val (.int p1), .val (.int p2), .val (.int p3), .val (.int p4), .val (.int (2 : Int32)), .val (.int x0), .val (.int x1), .val (.int x2), .val (.int x3), .val (.ref b13), .val (.int (0 : Int32)), .val (.int (0 : Int32))] []))) (fun _ k => XS.istore X22.here hx rfl (hb hby at_159) rfl (l' := #[.val (.int p0), .val (.int p1), .val (.int p2), .val (.int p3), .val (.int p4), .val (.int (2 : Int32)), .val (.int x0), .val (.int x1), .val (.int x2), .val (.int x3), .val (.ref b13), .val (.int (0 : Int32)), .val (.int (0 : Int32))]) rfl k) ?_
      refine own_st (B := (T22.setTop (mkF m 163 #[.val (.int p0), .val (.int p1), .val (.int p2), .val (.int p3), .val (.int p4), .val (.int (2 : Int32)), .val (.int x0), .val (.int x1), .val (.int x2), .val (.int x3), .val (.ref b13), .val (.int (0 : Int32)), .val (.int (0 : Int32))] [(.int (0 : Int32))]))) (fun _ k => XS.iload X22.here hx rfl (hb hby at_161) rfl k) ?_
      refine own_st (B := (T22.setTop (mkF m 165 #[.val (.int p0), .val (.int p1), .val (.int p2), .val (.int p3), .val (.int p4), .val (.int (2 : Int32)), .val (.int x0), .val (.int x1), .val (.int x2), .val (.int x3), .val (.ref b13), .val (.int (0 : Int32)), .val (.int (0 : Int32))] [(.int (0 : Int32)), (.int (0 : Int32))]))) (fun _ k => XS.iload X22.here hx rfl (hb hby at_163) rfl k) ?_
      refine own_st (B := (T22.setTop (mkF m 168 #[.val (.int p0), .val (.int p1), .val (.int p2), .val (.int p3), .val (.int p4), .val (.int (2 : Int32)), .val (.int x0), .val (.int x1), .val (.int x2), .val (.int x3), .val (.ref b13), .val (.int (0 : Int32)), .val (.int (0 : Int32))] []))) (fun _ k => XS.icmpNo X22.here hx rfl (hb hby at_165) rfl (teq (by decide)).2 k) ?_
      refine own_st (B := (T22.setTop (mkF m 169 #[.val (.int p0), .val (.int p1), .val (.int p2), .val (.int p3), .val (.int p4), .val (.int (2 : Int32)), .val (.int x0), .val (.int x1), .val (.int x2), .val (.int x3), .val (.ref b13), .val (.int (0 : Int32)), .val (.int (0 : Int32))] [(.int (1 : Int32))]))) (fun _ k => XS.iconst X22.here hx rfl (hb hby at_168) k) ?_
      refine own_st (B := (T22.setTop (mkF m 173 #[.val (.int p0), .val (.int p1), .val (.int p2), .val (.int p3), .val (.int p4), .val (.int (2 : Int32)), .val (.int x0), .val (.int x1), .val (.int x2), .val (.int x3), .val (.ref b13), .val (.int (0 : Int32)), .val (.int (0 : Int32))] [(.int (1 : Int32))]))) (fun _ k => XS.goto X22.here hx rfl (pc0 := 169) (pc' := 173) rfl (hb hby at_169) (by decide) (by decide) k) ?_
      have NZ : Fr n0 [(⟨b13, 0⟩ : Loc), (⟨b13, 1⟩ : Loc)] := by
        intro y hy
        simp only [List.mem_cons, List.not_mem_nil, or_false] at hy
        rcases hy with rfl | rfl <;> exact g_b13
      exact own_retN X22 hx hlk (t := .boolean) hret (by simp) (hb hby at_173) (by show own_Q0 n0 _ T22.heap _; rw [q22]; exact ⟨rfl, by simpa using NZ⟩) (by decide) (by decide)
  · refine own_st (B := (T4.setTop (mkF m 35 #[.val (.int p0), .val (.int p1), .val (.int p2), .val (.int p3), .val (.int p4), .val (.int (3 : Int32)), .val (.int x0), .val (.int x1), .val (.int x2), .val (.int x3), .unset, .unset, .unset] [(.int (3 : Int32))]))) (fun _ k => XS.iload X4.here hx rfl (hb hby at_33) rfl k) ?_
    obtain ⟨T23, h23, k23, X23, e23, E23, A23, st23⟩ := newP X4 hx hZ (hw _ (List.mem_of_getElem? (i := 5) rfl)) q4 (g := (mkF m 35 #[.val (.int p0), .val (.int p1), .val (.int p2), .val (.int p3), .val (.int p4), .val (.int (3 : Int32)), .val (.int x0), .val (.int x1), .val (.int x2), .val (.int x3), .unset, .unset, .unset] [(.int (3 : Int32))])) rfl (hb hby at_35) rfl (by decide) (cap := 3) (by decide) (by decide) (by decide) (by decide)
    obtain ⟨b23, g23⟩ : ∃ z, z = h0.size := ⟨_, rfl⟩
    rw [← g23] at A23 st23
    have g_b23 : n0 ≤ b23 := Nat.le_trans Z0 (Nat.le_of_eq g23.symm)
    have Z23 : n0 ≤ h23.size := Nat.le_trans Z0 E23.1
    refine own_st (B := (T23.setTop (mkF m 37 #[.val (.int p0), .val (.int p1), .val (.int p2), .val (.int p3), .val (.int p4), .val (.int (3 : Int32)), .val (.int x0), .val (.int x1), .val (.int x2), .val (.int x3), .unset, .unset, .unset] [(.ref b23)]))) st23 ?_
    have V0 : own_AV Z h23 b23 .byte 3 (fun _ => defaultValue .byte) := own_AV.new A23 (by decide)
    have N0' := Fr.nil n0
    refine own_st (B := (T23.setTop (mkF m 39 #[.val (.int p0), .val (.int p1), .val (.int p2), .val (.int p3), .val (.int p4), .val (.int (3 : Int32)), .val (.int x0), .val (.int x1), .val (.int x2), .val (.int x3), .val (.ref b23), .unset, .unset] []))) (fun _ k => XS.astore X23.here hx rfl (hb hby at_37) rfl rfl (l' := #[.val (.int p0), .val (.int p1), .val (.int p2), .val (.int p3), .val (.int p4), .val (.int (3 : Int32)), .val (.int x0), .val (.int x1), .val (.int x2), .val (.int x3), .val (.ref b23), .unset, .unset]) rfl k) ?_
    refine own_st (B := (T23.setTop (mkF m 41 #[.val (.int p0), .val (.int p1), .val (.int p2), .val (.int p3), .val (.int p4), .val (.int (3 : Int32)), .val (.int x0), .val (.int x1), .val (.int x2), .val (.int x3), .val (.ref b23), .unset, .unset] [(.int (3 : Int32))]))) (fun _ k => XS.iload X23.here hx rfl (hb hby at_39) rfl k) ?_
    refine own_st (B := (T23.setTop (mkF m 44 #[.val (.int p0), .val (.int p1), .val (.int p2), .val (.int p3), .val (.int p4), .val (.int (3 : Int32)), .val (.int x0), .val (.int x1), .val (.int x2), .val (.int x3), .val (.ref b23), .unset, .unset] []))) (fun _ k => XS.ifNo X23.here hx rfl (hb hby at_41) rfl ((if0 _ _).trans (tlt (by decide)).2.2.2) k) ?_
    refine own_st (B := (T23.setTop (mkF m 46 #[.val (.int p0), .val (.int p1), .val (.int p2), .val (.int p3), .val (.int p4), .val (.int (3 : Int32)), .val (.int x0), .val (.int x1), .val (.int x2), .val (.int x3), .val (.ref b23), .unset, .unset] [(.ref b23)]))) (fun _ k => XS.aload X23.here hx rfl (hb hby at_44) rfl rfl k) ?_
    refine own_st (B := (T23.setTop (mkF m 47 #[.val (.int p0), .val (.int p1), .val (.int p2), .val (.int p3), .val (.int p4), .val (.int (3 : Int32)), .val (.int x0), .val (.int x1), .val (.int x2), .val (.int x3), .val (.ref b23), .unset, .unset] [(.int (0 : Int32)), (.ref b23)]))) (fun _ k => XS.iconst X23.here hx rfl (hb hby at_46) k) ?_
    refine own_st (B := (T23.setTop (mkF m 49 #[.val (.int p0), .val (.int p1), .val (.int p2), .val (.int p3), .val (.int p4), .val (.int (3 : Int32)), .val (.int x0), .val (.int x1), .val (.int x2), .val (.int x3), .val (.ref b23), .unset, .unset] [(.int x0), (.int (0 : Int32)), (.ref b23)]))) (fun _ k => XS.iload X23.here hx rfl (hb hby at_47) rfl k) ?_
    obtain ⟨T24, h24, X24, e24, W24, V24, st24⟩ := own_stB X23 hx hZ e23 V0 (i := 0) (by decide) (by decide) (by decide) (g := (mkF m 49 #[.val (.int p0), .val (.int p1), .val (.int p2), .val (.int p3), .val (.int p4), .val (.int (3 : Int32)), .val (.int x0), .val (.int x1), .val (.int x2), .val (.int x3), .val (.ref b23), .unset, .unset] [(.int x0), (.int (0 : Int32)), (.ref b23)])) rfl rfl (hb hby at_49)
    refine own_st (B := (T24.setTop (mkF m 50 #[.val (.int p0), .val (.int p1), .val (.int p2), .val (.int p3), .val (.int p4), .val (.int (3 : Int32)), .val (.int x0), .val (.int x1), .val (.int x2), .val (.int x3), .val (.ref b23), .unset, .unset] []))) st24 ?_
    refine own_st (B := (T24.setTop (mkF m 52 #[.val (.int p0), .val (.int p1), .val (.int p2), .val (.int p3), .val (.int p4), .val (.int (3 : Int32)), .val (.int x0), .val (.int x1), .val (.int x2), .val (.int x3), .val (.ref b23), .unset, .unset] [(.int (3 : Int32))]))) (fun _ k => XS.iload X24.here hx rfl (hb hby at_50) rfl k) ?_
    refine own_st (B := (T24.setTop (mkF m 53 #[.val (.int p0), .val (.int p1), .val (.int p2), .val (.int p3), .val (.int p4), .val (.int (3 : Int32)), .val (.int x0), .val (.int x1), .val (.int x2), .val (.int x3), .val (.ref b23), .unset, .unset] [(.int (1 : Int32)), (.int (3 : Int32))]))) (fun _ k => XS.iconst X24.here hx rfl (hb hby at_52) k) ?_
    refine own_st (B := (T24.setTop (mkF m 56 #[.val (.int p0), .val (.int p1), .val (.int p2), .val (.int p3), .val (.int p4), .val (.int (3 : Int32)), .val (.int x0), .val (.int x1), .val (.int x2), .val (.int x3), .val (.ref b23), .unset, .unset] []))) (fun _ k => XS.icmpNo X24.here hx rfl (hb hby at_53) rfl (tlt (by decide)).2.2.2 k) ?_
    refine own_st (B := (T24.setTop (mkF m 58 #[.val (.int p0), .val (.int p1), .val (.int p2), .val (.int p3), .val (.int p4), .val (.int (3 : Int32)), .val (.int x0), .val (.int x1), .val (.int x2), .val (.int x3), .val (.ref b23), .unset, .unset] [(.ref b23)]))) (fun _ k => XS.aload X24.here hx rfl (hb hby at_56) rfl rfl k) ?_
    refine own_st (B := (T24.setTop (mkF m 59 #[.val (.int p0), .val (.int p1), .val (.int p2), .val (.int p3), .val (.int p4), .val (.int (3 : Int32)), .val (.int x0), .val (.int x1), .val (.int x2), .val (.int x3), .val (.ref b23), .unset, .unset] [(.int (1 : Int32)), (.ref b23)]))) (fun _ k => XS.iconst X24.here hx rfl (hb hby at_58) k) ?_
    refine own_st (B := (T24.setTop (mkF m 61 #[.val (.int p0), .val (.int p1), .val (.int p2), .val (.int p3), .val (.int p4), .val (.int (3 : Int32)), .val (.int x0), .val (.int x1), .val (.int x2), .val (.int x3), .val (.ref b23), .unset, .unset] [(.int x1), (.int (1 : Int32)), (.ref b23)]))) (fun _ k => XS.iload X24.here hx rfl (hb hby at_59) rfl k) ?_
    obtain ⟨T25, h25, X25, e25, W25, V25, st25⟩ := own_stB X24 hx hZ e24 V24 (i := 1) (by decide) (by decide) (by decide) (g := (mkF m 61 #[.val (.int p0), .val (.int p1), .val (.int p2), .val (.int p3), .val (.int p4), .val (.int (3 : Int32)), .val (.int x0), .val (.int x1), .val (.int x2), .val (.int x3), .val (.ref b23), .unset, .unset] [(.int x1), (.int (1 : Int32)), (.ref b23)])) rfl rfl (hb hby at_61)
    refine own_st (B := (T25.setTop (mkF m 62 #[.val (.int p0), .val (.int p1), .val (.int p2), .val (.int p3), .val (.int p4), .val (.int (3 : Int32)), .val (.int x0), .val (.int x1), .val (.int x2), .val (.int x3), .val (.ref b23), .unset, .unset] []))) st25 ?_
    refine own_st (B := (T25.setTop (mkF m 64 #[.val (.int p0), .val (.int p1), .val (.int p2), .val (.int p3), .val (.int p4), .val (.int (3 : Int32)), .val (.int x0), .val (.int x1), .val (.int x2), .val (.int x3), .val (.ref b23), .unset, .unset] [(.int (3 : Int32))]))) (fun _ k => XS.iload X25.here hx rfl (hb hby at_62) rfl k) ?_
    refine own_st (B := (T25.setTop (mkF m 65 #[.val (.int p0), .val (.int p1), .val (.int p2), .val (.int p3), .val (.int p4), .val (.int (3 : Int32)), .val (.int x0), .val (.int x1), .val (.int x2), .val (.int x3), .val (.ref b23), .unset, .unset] [(.int (2 : Int32)), (.int (3 : Int32))]))) (fun _ k => XS.iconst X25.here hx rfl (hb hby at_64) k) ?_
    refine own_st (B := (T25.setTop (mkF m 68 #[.val (.int p0), .val (.int p1), .val (.int p2), .val (.int p3), .val (.int p4), .val (.int (3 : Int32)), .val (.int x0), .val (.int x1), .val (.int x2), .val (.int x3), .val (.ref b23), .unset, .unset] []))) (fun _ k => XS.icmpNo X25.here hx rfl (hb hby at_65) rfl (tlt (by decide)).2.2.2 k) ?_
    refine own_st (B := (T25.setTop (mkF m 70 #[.val (.int p0), .val (.int p1), .val (.int p2), .val (.int p3), .val (.int p4), .val (.int (3 : Int32)), .val (.int x0), .val (.int x1), .val (.int x2), .val (.int x3), .val (.ref b23), .unset, .unset] [(.ref b23)]))) (fun _ k => XS.aload X25.here hx rfl (hb hby at_68) rfl rfl k) ?_
    refine own_st (B := (T25.setTop (mkF m 71 #[.val (.int p0), .val (.int p1), .val (.int p2), .val (.int p3), .val (.int p4), .val (.int (3 : Int32)), .val (.int x0), .val (.int x1), .val (.int x2), .val (.int x3), .val (.ref b23), .unset, .unset] [(.int (2 : Int32)), (.ref b23)]))) (fun _ k => XS.iconst X25.here hx rfl (hb hby at_70) k) ?_
    refine own_st (B := (T25.setTop (mkF m 73 #[.val (.int p0), .val (.int p1), .val (.int p2), .val (.int p3), .val (.int p4), .val (.int (3 : Int32)), .val (.int x0), .val (.int x1), .val (.int x2), .val (.int x3), .val (.ref b23), .unset, .unset] [(.int x2), (.int (2 : Int32)), (.ref b23)]))) (fun _ k => XS.iload X25.here hx rfl (hb hby at_71) rfl k) ?_
    obtain ⟨T26, h26, X26, e26, W26, V26, st26⟩ := own_stB X25 hx hZ e25 V25 (i := 2) (by decide) (by decide) (by decide) (g := (mkF m 73 #[.val (.int p0), .val (.int p1), .val (.int p2), .val (.int p3), .val (.int p4), .val (.int (3 : Int32)), .val (.int x0), .val (.int x1), .val (.int x2), .val (.int x3), .val (.ref b23), .unset, .unset] [(.int x2), (.int (2 : Int32)), (.ref b23)])) rfl rfl (hb hby at_73)
    refine own_st (B := (T26.setTop (mkF m 74 #[.val (.int p0), .val (.int p1), .val (.int p2), .val (.int p3), .val (.int p4), .val (.int (3 : Int32)), .val (.int x0), .val (.int x1), .val (.int x2), .val (.int x3), .val (.ref b23), .unset, .unset] []))) st26 ?_
    have VF : own_AV Z h26 b23 .byte 3 (fun i => .int ((fun i => if i = 2 then x2 else if i = 1 then x1 else x0) i)) := V26.congr fun i hi => by
      have hi' : i = 0 ∨ i = 1 ∨ i = 2 := by omega
      rcases hi' with rfl | rfl | rfl
      · exact congrArg Value.int nx0
      · exact congrArg Value.int nx1
      · exact congrArg Value.int nx2
    refine own_st (B := (T26.setTop (mkF m 76 #[.val (.int p0), .val (.int p1), .val (.int p2), .val (.int p3), .val (.int p4), .val (.int (3 : Int32)), .val (.int x0), .val (.int x1), .val (.int x2), .val (.int x3), .val (.ref b23), .unset, .unset] [(.int (3 : Int32))]))) (fun _ k => XS.iload X26.here hx rfl (hb hby at_74) rfl k) ?_
    refine own_st (B := (T26.setTop (mkF m 77 #[.val (.int p0), .val (.int p1), .val (.int p2), .val (.int p3), .val (.int p4), .val (.int (3 : Int32)), .val (.int x0), .val (.int x1), .val (.int x2), .val (.int x3), .val (.ref b23), .unset, .unset] [(.int (3 : Int32)), (.int (3 : Int32))]))) (fun _ k => XS.iconst X26.here hx rfl (hb hby at_76) k) ?_
    refine own_st (B := (T26.setTop (mkF m 86 #[.val (.int p0), .val (.int p1), .val (.int p2), .val (.int p3), .val (.int p4), .val (.int (3 : Int32)), .val (.int x0), .val (.int x1), .val (.int x2), .val (.int x3), .val (.ref b23), .unset, .unset] []))) (fun _ k => XS.icmpYes X26.here hx rfl (pc0 := 77) (pc' := 86) rfl (hb hby at_77) rfl (flt (by decide)).2.2.2 (by decide) (by decide) k) ?_
    refine own_st (B := (T26.setTop (mkF m 88 #[.val (.int p0), .val (.int p1), .val (.int p2), .val (.int p3), .val (.int p4), .val (.int (3 : Int32)), .val (.int x0), .val (.int x1), .val (.int x2), .val (.int x3), .val (.ref b23), .unset, .unset] [(.int (3 : Int32))]))) (fun _ k => XS.iload X26.here hx rfl (hb hby at_86) rfl k) ?_
    refine own_st (B := (T26.setTop (mkF m 91 #[.val (.int p0), .val (.int p1), .val (.int p2), .val (.int p3), .val (.int p4), .val (.int (3 : Int32)), .val (.int x0), .val (.int x1), .val (.int x2), .val (.int x3), .val (.ref b23), .unset, .unset] []))) (fun _ k => XS.ifNo X26.here hx rfl (hb hby at_88) rfl ((if0 _ _).trans (tlt (by decide)).2.2.2) k) ?_
    refine own_st (B := (T26.setTop (mkF m 93 #[.val (.int p0), .val (.int p1), .val (.int p2), .val (.int p3), .val (.int p4), .val (.int (3 : Int32)), .val (.int x0), .val (.int x1), .val (.int x2), .val (.int x3), .val (.ref b23), .unset, .unset] [(.int (3 : Int32))]))) (fun _ k => XS.iload X26.here hx rfl (hb hby at_91) rfl k) ?_
    refine own_st (B := (T26.setTop (mkF m 94 #[.val (.int p0), .val (.int p1), .val (.int p2), .val (.int p3), .val (.int p4), .val (.int (3 : Int32)), .val (.int x0), .val (.int x1), .val (.int x2), .val (.int x3), .val (.ref b23), .unset, .unset] [(.int (1 : Int32)), (.int (3 : Int32))]))) (fun _ k => XS.iconst X26.here hx rfl (hb hby at_93) k) ?_
    refine own_st (B := (T26.setTop (mkF m 97 #[.val (.int p0), .val (.int p1), .val (.int p2), .val (.int p3), .val (.int p4), .val (.int (3 : Int32)), .val (.int x0), .val (.int x1), .val (.int x2), .val (.int x3), .val (.ref b23), .unset, .unset] []))) (fun _ k => XS.icmpNo X26.here hx rfl (hb hby at_94) rfl (flt (by decide)).1 k) ?_
    refine own_st (B := (T26.setTop (mkF m 99 #[.val (.int p0), .val (.int p1), .val (.int p2), .val (.int p3), .val (.int p4), .val (.int (3 : Int32)), .val (.int x0), .val (.int x1), .val (.int x2), .val (.int x3), .val (.ref b23), .unset, .unset] [(.int x0)]))) (fun _ k => XS.iload X26.here hx rfl (hb hby at_97) rfl k) ?_
    by_cases ok0 : own_ok x0
    · obtain ⟨v27, T27, L27, X27, Q27, st27⟩ := own_callS (W := 0) X26 hx hZ (y := (⟨"com/example/patient_surfer/patientsurfer/read/LinksReaderIsLabelPinLaw", "ok", "(B)Z"⟩ : MethodName)) hown (hw _ (List.mem_of_getElem? (i := 10) rfl)) (hw _ (List.mem_of_getElem? (i := 11) rfl)) (hw _ (List.mem_of_getElem? (i := 3) rfl)) (hw _ (List.mem_of_getElem? (i := 12) rfl)) (by decide) e26 (rm_ok l Z a0 hw [] x0 1 h26 (Or.inl ⟨rfl, ok0⟩)) (g := (mkF m 99 #[.val (.int p0), .val (.int p1), .val (.int p2), .val (.int p3), .val (.int p4), .val (.int (3 : Int32)), .val (.int x0), .val (.int x1), .val (.int x2), .val (.int x3), .val (.ref b23), .unset, .unset] [(.int x0)])) rfl (by rw [hml]; rfl) (argsL := [(.int x0)]) (rest := []) (lenOf pd_0 rfl) rfl rfl (by show 2 * 0 + _ ≤ _; exact Nat.le_of_eq rfl) (hb hby at_99) (by decide) (by decide) (by decide) (by decide)
      obtain ⟨rfl, rfl, q27⟩ := Q27
      refine own_st (B := (T27.setTop (mkF m 102 #[.val (.int p0), .val (.int p1), .val (.int p2), .val (.int p3), .val (.int p4), .val (.int (3 : Int32)), .val (.int x0), .val (.int x1), .val (.int x2), .val (.int x3), .val (.ref b23), .unset, .unset] [(.int (1 : Int32))]))) st27 ?_
      refine own_st (B := (T27.setTop (mkF m 105 #[.val (.int p0), .val (.int p1), .val (.int p2), .val (.int p3), .val (.int p4), .val (.int (3 : Int32)), .val (.int x0), .val (.int x1), .val (.int x2), .val (.int x3), .val (.ref b23), .unset, .unset] []))) (fun _ k => XS.ifNo X27.here hx rfl (hb hby at_102) rfl ((if0 _ _).trans (feq (by decide)).1) k) ?_
      refine own_st (B := (T27.setTop (mkF m 107 #[.val (.int p0), .val (.int p1), .val (.int p2), .val (.int p3), .val (.int p4), .val (.int (3 : Int32)), .val (.int x0), .val (.int x1), .val (.int x2), .val (.int x3), .val (.ref b23), .unset, .unset] [(.int (3 : Int32))]))) (fun _ k => XS.iload X27.here hx rfl (hb hby at_105) rfl k) ?_
      refine own_st (B := (T27.setTop (mkF m 108 #[.val (.int p0), .val (.int p1), .val (.int p2), .val (.int p3), .val (.int p4), .val (.int (3 : Int32)), .val (.int x0), .val (.int x1), .val (.int x2), .val (.int x3), .val (.ref b23), .unset, .unset] [(.int (2 : Int32)), (.int (3 : Int32))]))) (fun _ k => XS.iconst X27.here hx rfl (hb hby at_107) k) ?_
      refine own_st (B := (T27.setTop (mkF m 111 #[.val (.int p0), .val (.int p1), .val (.int p2), .val (.int p3), .val (.int p4), .val (.int (3 : Int32)), .val (.int x0), .val (.int x1), .val (.int x2), .val (.int x3), .val (.ref b23), .unset, .unset] []))) (fun _ k => XS.icmpNo X27.here hx rfl (hb hby at_108) rfl (flt (by decide)).1 k) ?_
      refine own_st (B := (T27.setTop (mkF m 113 #[.val (.int p0), .val (.int p1), .val (.int p2), .val (.int p3), .val (.int p4), .val (.int (3 : Int32)), .val (.int x0), .val (.int x1), .val (.int x2), .val (.int x3), .val (.ref b23), .unset, .unset] [(.int x1)]))) (fun _ k => XS.iload X27.here hx rfl (hb hby at_111) rfl k) ?_
      by_cases ok1 : own_ok x1
      · obtain ⟨v28, T28, L28, X28, Q28, st28⟩ := own_callS (W := 0) X27 hx hZ (y := (⟨"com/example/patient_surfer/patientsurfer/read/LinksReaderIsLabelPinLaw", "ok", "(B)Z"⟩ : MethodName)) hown (hw _ (List.mem_of_getElem? (i := 10) rfl)) (hw _ (List.mem_of_getElem? (i := 11) rfl)) (hw _ (List.mem_of_getElem? (i := 3) rfl)) (hw _ (List.mem_of_getElem? (i := 12) rfl)) (by decide) q27 (rm_ok l Z a0 hw [] x1 1 h26 (Or.inl ⟨rfl, ok1⟩)) (g := (mkF m 113 #[.val (.int p0), .val (.int p1), .val (.int p2), .val (.int p3), .val (.int p4), .val (.int (3 : Int32)), .val (.int x0), .val (.int x1), .val (.int x2), .val (.int x3), .val (.ref b23), .unset, .unset] [(.int x1)])) rfl (by rw [hml]; rfl) (argsL := [(.int x1)]) (rest := []) (lenOf pd_0 rfl) rfl rfl (by show 2 * 0 + _ ≤ _; exact Nat.le_of_eq rfl) (hb hby at_113) (by decide) (by decide) (by decide) (by decide)
        obtain ⟨rfl, rfl, q28⟩ := Q28
        refine own_st (B := (T28.setTop (mkF m 116 #[.val (.int p0), .val (.int p1), .val (.int p2), .val (.int p3), .val (.int p4), .val (.int (3 : Int32)), .val (.int x0), .val (.int x1), .val (.int x2), .val (.int x3), .val (.ref b23), .unset, .unset] [(.int (1 : Int32))]))) st28 ?_
        refine own_st (B := (T28.setTop (mkF m 119 #[.val (.int p0), .val (.int p1), .val (.int p2), .val (.int p3), .val (.int p4), .val (.int (3 : Int32)), .val (.int x0), .val (.int x1), .val (.int x2), .val (.int x3), .val (.ref b23), .unset, .unset] []))) (fun _ k => XS.ifNo X28.here hx rfl (hb hby at_116) rfl ((if0 _ _).trans (feq (by decide)).1) k) ?_
        refine own_st (B := (T28.setTop (mkF m 121 #[.val (.int p0), .val (.int p1), .val (.int p2), .val (.int p3), .val (.int p4), .val (.int (3 : Int32)), .val (.int x0), .val (.int x1), .val (.int x2), .val (.int x3), .val (.ref b23), .unset, .unset] [(.int (3 : Int32))]))) (fun _ k => XS.iload X28.here hx rfl (hb hby at_119) rfl k) ?_
        refine own_st (B := (T28.setTop (mkF m 122 #[.val (.int p0), .val (.int p1), .val (.int p2), .val (.int p3), .val (.int p4), .val (.int (3 : Int32)), .val (.int x0), .val (.int x1), .val (.int x2), .val (.int x3), .val (.ref b23), .unset, .unset] [(.int (3 : Int32)), (.int (3 : Int32))]))) (fun _ k => XS.iconst X28.here hx rfl (hb hby at_121) k) ?_
        refine own_st (B := (T28.setTop (mkF m 125 #[.val (.int p0), .val (.int p1), .val (.int p2), .val (.int p3), .val (.int p4), .val (.int (3 : Int32)), .val (.int x0), .val (.int x1), .val (.int x2), .val (.int x3), .val (.ref b23), .unset, .unset] []))) (fun _ k => XS.icmpNo X28.here hx rfl (hb hby at_122) rfl (flt (by decide)).1 k) ?_
        refine own_st (B := (T28.setTop (mkF m 127 #[.val (.int p0), .val (.int p1), .val (.int p2), .val (.int p3), .val (.int p4), .val (.int (3 : Int32)), .val (.int x0), .val (.int x1), .val (.int x2), .val (.int x3), .val (.ref b23), .unset, .unset] [(.int x2)]))) (fun _ k => XS.iload X28.here hx rfl (hb hby at_125) rfl k) ?_
        by_cases ok2 : own_ok x2
        · obtain ⟨v29, T29, L29, X29, Q29, st29⟩ := own_callS (W := 0) X28 hx hZ (y := (⟨"com/example/patient_surfer/patientsurfer/read/LinksReaderIsLabelPinLaw", "ok", "(B)Z"⟩ : MethodName)) hown (hw _ (List.mem_of_getElem? (i := 10) rfl)) (hw _ (List.mem_of_getElem? (i := 11) rfl)) (hw _ (List.mem_of_getElem? (i := 3) rfl)) (hw _ (List.mem_of_getElem? (i := 12) rfl)) (by decide) q28 (rm_ok l Z a0 hw [] x2 1 h26 (Or.inl ⟨rfl, ok2⟩)) (g := (mkF m 127 #[.val (.int p0), .val (.int p1), .val (.int p2), .val (.int p3), .val (.int p4), .val (.int (3 : Int32)), .val (.int x0), .val (.int x1), .val (.int x2), .val (.int x3), .val (.ref b23), .unset, .unset] [(.int x2)])) rfl (by rw [hml]; rfl) (argsL := [(.int x2)]) (rest := []) (lenOf pd_0 rfl) rfl rfl (by show 2 * 0 + _ ≤ _; exact Nat.le_of_eq rfl) (hb hby at_127) (by decide) (by decide) (by decide) (by decide)
          obtain ⟨rfl, rfl, q29⟩ := Q29
          refine own_st (B := (T29.setTop (mkF m 130 #[.val (.int p0), .val (.int p1), .val (.int p2), .val (.int p3), .val (.int p4), .val (.int (3 : Int32)), .val (.int x0), .val (.int x1), .val (.int x2), .val (.int x3), .val (.ref b23), .unset, .unset] [(.int (1 : Int32))]))) st29 ?_
          have hall : 0 < 3 ∧ ∀ q, q < 3 → own_ok ((fun i => if i = 2 then x2 else if i = 1 then x1 else x0) q) := ⟨by decide, fun q hq => by
            have hq' : q = 0 ∨ q = 1 ∨ q = 2 := by omega
            rcases hq' with rfl | rfl | rfl
            · exact ok0
            · exact ok1
            · exact ok2⟩
          refine own_st (B := (T29.setTop (mkF m 133 #[.val (.int p0), .val (.int p1), .val (.int p2), .val (.int p3), .val (.int p4), .val (.int (3 : Int32)), .val (.int x0), .val (.int x1), .val (.int x2), .val (.int x3), .val (.ref b23), .unset, .unset] []))) (fun _ k => XS.ifNo X29.here hx rfl (hb hby at_130) rfl ((if0 _ _).trans (feq (by decide)).1) k) ?_
          refine own_st (B := (T29.setTop (mkF m 135 #[.val (.int p0), .val (.int p1), .val (.int p2), .val (.int p3), .val (.int p4), .val (.int (3 : Int32)), .val (.int x0), .val (.int x1), .val (.int x2), .val (.int x3), .val (.ref b23), .unset, .unset] [(.int (3 : Int32))]))) (fun _ k => XS.iload X29.here hx rfl (hb hby at_133) rfl k) ?_
          refine own_st (B := (T29.setTop (mkF m 136 #[.val (.int p0), .val (.int p1), .val (.int p2), .val (.int p3), .val (.int p4), .val (.int (3 : Int32)), .val (.int x0), .val (.int x1), .val (.int x2), .val (.int x3), .val (.ref b23), .unset, .unset] [(.int (4 : Int32)), (.int (3 : Int32))]))) (fun _ k => XS.iconst X29.here hx rfl (hb hby at_135) k) ?_
          refine own_st (B := (T29.setTop (mkF m 147 #[.val (.int p0), .val (.int p1), .val (.int p2), .val (.int p3), .val (.int p4), .val (.int (3 : Int32)), .val (.int x0), .val (.int x1), .val (.int x2), .val (.int x3), .val (.ref b23), .unset, .unset] []))) (fun _ k => XS.icmpYes X29.here hx rfl (pc0 := 136) (pc' := 147) rfl (hb hby at_136) rfl (tlt (by decide)).1 (by decide) (by decide) k) ?_
          refine own_st (B := (T29.setTop (mkF m 148 #[.val (.int p0), .val (.int p1), .val (.int p2), .val (.int p3), .val (.int p4), .val (.int (3 : Int32)), .val (.int x0), .val (.int x1), .val (.int x2), .val (.int x3), .val (.ref b23), .unset, .unset] [(.int (1 : Int32))]))) (fun _ k => XS.iconst X29.here hx rfl (hb hby at_147) k) ?_
          refine own_st (B := (T29.setTop (mkF m 152 #[.val (.int p0), .val (.int p1), .val (.int p2), .val (.int p3), .val (.int p4), .val (.int (3 : Int32)), .val (.int x0), .val (.int x1), .val (.int x2), .val (.int x3), .val (.ref b23), .unset, .unset] [(.int (1 : Int32))]))) (fun _ k => XS.goto X29.here hx rfl (pc0 := 148) (pc' := 152) rfl (hb hby at_148) (by decide) (by decide) k) ?_
          refine own_st (B := (T29.setTop (mkF m 154 #[.val (.int p0), .val (.int p1), .val (.int p2), .val (.int p3), .val (.int p4), .val (.int (3 : Int32)), .val (.int x0), .val (.int x1), .val (.int x2), .val (.int x3), .val (.ref b23), .val (.int (1 : Int32)), .unset] []))) (fun _ k => XS.istore X29.here hx rfl (hb hby at_152) rfl (l' := #[.val (.int p0), .val (.int p1), .val (.int p2), .val (.int p3), .val (.int p4), .val (.int (3 : Int32)), .val (.int x0), .val (.int x1), .val (.int x2), .val (.int x3), .val (.ref b23), .val (.int (1 : Int32)), .unset]) rfl k) ?_
          refine own_st (B := (T29.setTop (mkF m 156 #[.val (.int p0), .val (.int p1), .val (.int p2), .val (.int p3), .val (.int p4), .val (.int (3 : Int32)), .val (.int x0), .val (.int x1), .val (.int x2), .val (.int x3), .val (.ref b23), .val (.int (1 : Int32)), .unset] [(.ref b23)]))) (fun _ k => XS.aload X29.here hx rfl (hb hby at_154) rfl rfl k) ?_
          obtain ⟨v30, T30, L30, X30, Q30, st30⟩ := own_callS (W := 0) X29 hx hZ (y := (⟨"com/example/patient_surfer/patientsurfer/read/LinksReader", "isLabel", "([B)Z"⟩ : MethodName)) hown (hw _ (List.mem_of_getElem? (i := 6) rfl)) (hw _ (List.mem_of_getElem? (i := 7) rfl)) (hw _ (List.mem_of_getElem? (i := 8) rfl)) (hw _ (List.mem_of_getElem? (i := 9) rfl)) (by decide) q29 (rm_isl l Z a0 hw [] b23 3 3 (fun i => if i = 2 then x2 else if i = 1 then x1 else x0) 1 h26 VF (by decide) (by decide) (Or.inl ⟨rfl, hall⟩)) (g := (mkF m 156 #[.val (.int p0), .val (.int p1), .val (.int p2), .val (.int p3), .val (.int p4), .val (.int (3 : Int32)), .val (.int x0), .val (.int x1), .val (.int x2), .val (.int x3), .val (.ref b23), .val (.int (1 : Int32)), .unset] [(.ref b23)])) rfl (by rw [hml]; rfl) (argsL := [(.ref b23)]) (rest := []) (lenOf pd_2 rfl) rfl rfl (by show 2 * 0 + _ ≤ _; exact Nat.le_of_eq rfl) (hb hby at_156) (by decide) (by decide) (by decide) (by decide)
          obtain ⟨rfl, rfl, q30⟩ := Q30
          refine own_st (B := (T30.setTop (mkF m 159 #[.val (.int p0), .val (.int p1), .val (.int p2), .val (.int p3), .val (.int p4), .val (.int (3 : Int32)), .val (.int x0), .val (.int x1), .val (.int x2), .val (.int x3), .val (.ref b23), .val (.int (1 : Int32)), .unset] [(.int (1 : Int32))]))) st30 ?_
          refine own_st (B := (T30.setTop (mkF m 161 #[.val (.int p0), .val (.int p1), .val (.int p2), .val (.int p3), .val (.int p4), .val (.int (3 : Int32)), .val (.int x0), .val (.int x1), .val (.int x2), .val (.int x3), .val (.ref b23), .val (.int (1 : Int32)), .val (.int (1 : Int32))] []))) (fun _ k => XS.istore X30.here hx rfl (hb hby at_159) rfl (l' := #[.val (.int p0), .val (.int p1), .val (.int p2), .val (.int p3), .val (.int p4), .val (.int (3 : Int32)), .val (.int x0), .val (.int x1), .val (.int x2), .val (.int x3), .val (.ref b23), .val (.int (1 : Int32)), .val (.int (1 : Int32))]) rfl k) ?_
          refine own_st (B := (T30.setTop (mkF m 163 #[.val (.int p0), .val (.int p1), .val (.int p2), .val (.int p3), .val (.int p4), .val (.int (3 : Int32)), .val (.int x0), .val (.int x1), .val (.int x2), .val (.int x3), .val (.ref b23), .val (.int (1 : Int32)), .val (.int (1 : Int32))] [(.int (1 : Int32))]))) (fun _ k => XS.iload X30.here hx rfl (hb hby at_161) rfl k) ?_
          refine own_st (B := (T30.setTop (mkF m 165 #[.val (.int p0), .val (.int p1), .val (.int p2), .val (.int p3), .val (.int p4), .val (.int (3 : Int32)), .val (.int x0), .val (.int x1), .val (.int x2), .val (.int x3), .val (.ref b23), .val (.int (1 : Int32)), .val (.int (1 : Int32))] [(.int (1 : Int32)), (.int (1 : Int32))]))) (fun _ k => XS.iload X30.here hx rfl (hb hby at_163) rfl k) ?_
          refine own_st (B := (T30.setTop (mkF m 168 #[.val (.int p0), .val (.int p1), .val (.int p2), .val (.int p3), .val (.int p4), .val (.int (3 : Int32)), .val (.int x0), .val (.int x1), .val (.int x2), .val (.int x3), .val (.ref b23), .val (.int (1 : Int32)), .val (.int (1 : Int32))] []))) (fun _ k => XS.icmpNo X30.here hx rfl (hb hby at_165) rfl (teq (by decide)).2 k) ?_
          refine own_st (B := (T30.setTop (mkF m 169 #[.val (.int p0), .val (.int p1), .val (.int p2), .val (.int p3), .val (.int p4), .val (.int (3 : Int32)), .val (.int x0), .val (.int x1), .val (.int x2), .val (.int x3), .val (.ref b23), .val (.int (1 : Int32)), .val (.int (1 : Int32))] [(.int (1 : Int32))]))) (fun _ k => XS.iconst X30.here hx rfl (hb hby at_168) k) ?_
          refine own_st (B := (T30.setTop (mkF m 173 #[.val (.int p0), .val (.int p1), .val (.int p2), .val (.int p3), .val (.int p4), .val (.int (3 : Int32)), .val (.int x0), .val (.int x1), .val (.int x2), .val (.int x3), .val (.ref b23), .val (.int (1 : Int32)), .val (.int (1 : Int32))] [(.int (1 : Int32))]))) (fun _ k => XS.goto X30.here hx rfl (pc0 := 169) (pc' := 173) rfl (hb hby at_169) (by decide) (by decide) k) ?_
          have NZ : Fr n0 [(⟨b23, 0⟩ : Loc), (⟨b23, 1⟩ : Loc), (⟨b23, 2⟩ : Loc)] := by
            intro y hy
            simp only [List.mem_cons, List.not_mem_nil, or_false] at hy
            rcases hy with rfl | rfl | rfl <;> exact g_b23
          exact own_retN X30 hx hlk (t := .boolean) hret (by simp) (hb hby at_173) (by show own_Q0 n0 _ T30.heap _; rw [q30]; exact ⟨rfl, by simpa using NZ⟩) (by decide) (by decide)
        · obtain ⟨v31, T31, L31, X31, Q31, st31⟩ := own_callS (W := 0) X28 hx hZ (y := (⟨"com/example/patient_surfer/patientsurfer/read/LinksReaderIsLabelPinLaw", "ok", "(B)Z"⟩ : MethodName)) hown (hw _ (List.mem_of_getElem? (i := 10) rfl)) (hw _ (List.mem_of_getElem? (i := 11) rfl)) (hw _ (List.mem_of_getElem? (i := 3) rfl)) (hw _ (List.mem_of_getElem? (i := 12) rfl)) (by decide) q28 (rm_ok l Z a0 hw [] x2 0 h26 (Or.inr ⟨rfl, ok2⟩)) (g := (mkF m 127 #[.val (.int p0), .val (.int p1), .val (.int p2), .val (.int p3), .val (.int p4), .val (.int (3 : Int32)), .val (.int x0), .val (.int x1), .val (.int x2), .val (.int x3), .val (.ref b23), .unset, .unset] [(.int x2)])) rfl (by rw [hml]; rfl) (argsL := [(.int x2)]) (rest := []) (lenOf pd_0 rfl) rfl rfl (by show 2 * 0 + _ ≤ _; exact Nat.le_of_eq rfl) (hb hby at_127) (by decide) (by decide) (by decide) (by decide)
          obtain ⟨rfl, rfl, q31⟩ := Q31
          refine own_st (B := (T31.setTop (mkF m 130 #[.val (.int p0), .val (.int p1), .val (.int p2), .val (.int p3), .val (.int p4), .val (.int (3 : Int32)), .val (.int x0), .val (.int x1), .val (.int x2), .val (.int x3), .val (.ref b23), .unset, .unset] [(.int (0 : Int32))]))) st31 ?_
          refine own_st (B := (T31.setTop (mkF m 151 #[.val (.int p0), .val (.int p1), .val (.int p2), .val (.int p3), .val (.int p4), .val (.int (3 : Int32)), .val (.int x0), .val (.int x1), .val (.int x2), .val (.int x3), .val (.ref b23), .unset, .unset] []))) (fun _ k => XS.ifYes X31.here hx rfl (pc0 := 130) (pc' := 151) rfl (hb hby at_130) rfl ((if0 _ _).trans (teq (by decide)).1) (by decide) (by decide) k) ?_
          refine own_st (B := (T31.setTop (mkF m 152 #[.val (.int p0), .val (.int p1), .val (.int p2), .val (.int p3), .val (.int p4), .val (.int (3 : Int32)), .val (.int x0), .val (.int x1), .val (.int x2), .val (.int x3), .val (.ref b23), .unset, .unset] [(.int (0 : Int32))]))) (fun _ k => XS.iconst X31.here hx rfl (hb hby at_151) k) ?_
          refine own_st (B := (T31.setTop (mkF m 154 #[.val (.int p0), .val (.int p1), .val (.int p2), .val (.int p3), .val (.int p4), .val (.int (3 : Int32)), .val (.int x0), .val (.int x1), .val (.int x2), .val (.int x3), .val (.ref b23), .val (.int (0 : Int32)), .unset] []))) (fun _ k => XS.istore X31.here hx rfl (hb hby at_152) rfl (l' := #[.val (.int p0), .val (.int p1), .val (.int p2), .val (.int p3), .val (.int p4), .val (.int (3 : Int32)), .val (.int x0), .val (.int x1), .val (.int x2), .val (.int x3), .val (.ref b23), .val (.int (0 : Int32)), .unset]) rfl k) ?_
          refine own_st (B := (T31.setTop (mkF m 156 #[.val (.int p0), .val (.int p1), .val (.int p2), .val (.int p3), .val (.int p4), .val (.int (3 : Int32)), .val (.int x0), .val (.int x1), .val (.int x2), .val (.int x3), .val (.ref b23), .val (.int (0 : Int32)), .unset] [(.ref b23)]))) (fun _ k => XS.aload X31.here hx rfl (hb hby at_154) rfl rfl k) ?_
          obtain ⟨v32, T32, L32, X32, Q32, st32⟩ := own_callS (W := 0) X31 hx hZ (y := (⟨"com/example/patient_surfer/patientsurfer/read/LinksReader", "isLabel", "([B)Z"⟩ : MethodName)) hown (hw _ (List.mem_of_getElem? (i := 6) rfl)) (hw _ (List.mem_of_getElem? (i := 7) rfl)) (hw _ (List.mem_of_getElem? (i := 8) rfl)) (hw _ (List.mem_of_getElem? (i := 9) rfl)) (by decide) q31 (rm_isl l Z a0 hw [] b23 3 3 (fun i => if i = 2 then x2 else if i = 1 then x1 else x0) 0 h26 VF (by decide) (by decide) (Or.inr ⟨rfl, fun q => ok2 (q.2 2 (by decide))⟩)) (g := (mkF m 156 #[.val (.int p0), .val (.int p1), .val (.int p2), .val (.int p3), .val (.int p4), .val (.int (3 : Int32)), .val (.int x0), .val (.int x1), .val (.int x2), .val (.int x3), .val (.ref b23), .val (.int (0 : Int32)), .unset] [(.ref b23)])) rfl (by rw [hml]; rfl) (argsL := [(.ref b23)]) (rest := []) (lenOf pd_2 rfl) rfl rfl (by show 2 * 0 + _ ≤ _; exact Nat.le_of_eq rfl) (hb hby at_156) (by decide) (by decide) (by decide) (by decide)
          obtain ⟨rfl, rfl, q32⟩ := Q32
          refine own_st (B := (T32.setTop (mkF m 159 #[.val (.int p0), .val (.int p1), .val (.int p2), .val (.int p3), .val (.int p4), .val (.int (3 : Int32)), .val (.int x0), .val (.int x1), .val (.int x2), .val (.int x3), .val (.ref b23), .val (.int (0 : Int32)), .unset] [(.int (0 : Int32))]))) st32 ?_
          refine own_st (B := (T32.setTop (mkF m 161 #[.val (.int p0), .val (.int p1), .val (.int p2), .val (.int p3), .val (.int p4), .val (.int (3 : Int32)), .val (.int x0), .val (.int x1), .val (.int x2), .val (.int x3), .val (.ref b23), .val (.int (0 : Int32)), .val (.int (0 : Int32))] []))) (fun _ k => XS.istore X32.here hx rfl (hb hby at_159) rfl (l' := #[.val (.int p0), .val (.int p1), .val (.int p2), .val (.int p3), .val (.int p4), .val (.int (3 : Int32)), .val (.int x0), .val (.int x1), .val (.int x2), .val (.int x3), .val (.ref b23), .val (.int (0 : Int32)), .val (.int (0 : Int32))]) rfl k) ?_
          refine own_st (B := (T32.setTop (mkF m 163 #[.val (.int p0), .val (.int p1), .val (.int p2), .val (.int p3), .val (.int p4), .val (.int (3 : Int32)), .val (.int x0), .val (.int x1), .val (.int x2), .val (.int x3), .val (.ref b23), .val (.int (0 : Int32)), .val (.int (0 : Int32))] [(.int (0 : Int32))]))) (fun _ k => XS.iload X32.here hx rfl (hb hby at_161) rfl k) ?_
          refine own_st (B := (T32.setTop (mkF m 165 #[.val (.int p0), .val (.int p1), .val (.int p2), .val (.int p3), .val (.int p4), .val (.int (3 : Int32)), .val (.int x0), .val (.int x1), .val (.int x2), .val (.int x3), .val (.ref b23), .val (.int (0 : Int32)), .val (.int (0 : Int32))] [(.int (0 : Int32)), (.int (0 : Int32))]))) (fun _ k => XS.iload X32.here hx rfl (hb hby at_163) rfl k) ?_
          refine own_st (B := (T32.setTop (mkF m 168 #[.val (.int p0), .val (.int p1), .val (.int p2), .val (.int p3), .val (.int p4), .val (.int (3 : Int32)), .val (.int x0), .val (.int x1), .val (.int x2), .val (.int x3), .val (.ref b23), .val (.int (0 : Int32)), .val (.int (0 : Int32))] []))) (fun _ k => XS.icmpNo X32.here hx rfl (hb hby at_165) rfl (teq (by decide)).2 k) ?_
          refine own_st (B := (T32.setTop (mkF m 169 #[.val (.int p0), .val (.int p1), .val (.int p2), .val (.int p3), .val (.int p4), .val (.int (3 : Int32)), .val (.int x0), .val (.int x1), .val (.int x2), .val (.int x3), .val (.ref b23), .val (.int (0 : Int32)), .val (.int (0 : Int32))] [(.int (1 : Int32))]))) (fun _ k => XS.iconst X32.here hx rfl (hb hby at_168) k) ?_
          refine own_st (B := (T32.setTop (mkF m 173 #[.val (.int p0), .val (.int p1), .val (.int p2), .val (.int p3), .val (.int p4), .val (.int (3 : Int32)), .val (.int x0), .val (.int x1), .val (.int x2), .val (.int x3), .val (.ref b23), .val (.int (0 : Int32)), .val (.int (0 : Int32))] [(.int (1 : Int32))]))) (fun _ k => XS.goto X32.here hx rfl (pc0 := 169) (pc' := 173) rfl (hb hby at_169) (by decide) (by decide) k) ?_
          have NZ : Fr n0 [(⟨b23, 0⟩ : Loc), (⟨b23, 1⟩ : Loc), (⟨b23, 2⟩ : Loc)] := by
            intro y hy
            simp only [List.mem_cons, List.not_mem_nil, or_false] at hy
            rcases hy with rfl | rfl | rfl <;> exact g_b23
          exact own_retN X32 hx hlk (t := .boolean) hret (by simp) (hb hby at_173) (by show own_Q0 n0 _ T32.heap _; rw [q32]; exact ⟨rfl, by simpa using NZ⟩) (by decide) (by decide)
      · obtain ⟨v33, T33, L33, X33, Q33, st33⟩ := own_callS (W := 0) X27 hx hZ (y := (⟨"com/example/patient_surfer/patientsurfer/read/LinksReaderIsLabelPinLaw", "ok", "(B)Z"⟩ : MethodName)) hown (hw _ (List.mem_of_getElem? (i := 10) rfl)) (hw _ (List.mem_of_getElem? (i := 11) rfl)) (hw _ (List.mem_of_getElem? (i := 3) rfl)) (hw _ (List.mem_of_getElem? (i := 12) rfl)) (by decide) q27 (rm_ok l Z a0 hw [] x1 0 h26 (Or.inr ⟨rfl, ok1⟩)) (g := (mkF m 113 #[.val (.int p0), .val (.int p1), .val (.int p2), .val (.int p3), .val (.int p4), .val (.int (3 : Int32)), .val (.int x0), .val (.int x1), .val (.int x2), .val (.int x3), .val (.ref b23), .unset, .unset] [(.int x1)])) rfl (by rw [hml]; rfl) (argsL := [(.int x1)]) (rest := []) (lenOf pd_0 rfl) rfl rfl (by show 2 * 0 + _ ≤ _; exact Nat.le_of_eq rfl) (hb hby at_113) (by decide) (by decide) (by decide) (by decide)
        obtain ⟨rfl, rfl, q33⟩ := Q33
        refine own_st (B := (T33.setTop (mkF m 116 #[.val (.int p0), .val (.int p1), .val (.int p2), .val (.int p3), .val (.int p4), .val (.int (3 : Int32)), .val (.int x0), .val (.int x1), .val (.int x2), .val (.int x3), .val (.ref b23), .unset, .unset] [(.int (0 : Int32))]))) st33 ?_
        refine own_st (B := (T33.setTop (mkF m 151 #[.val (.int p0), .val (.int p1), .val (.int p2), .val (.int p3), .val (.int p4), .val (.int (3 : Int32)), .val (.int x0), .val (.int x1), .val (.int x2), .val (.int x3), .val (.ref b23), .unset, .unset] []))) (fun _ k => XS.ifYes X33.here hx rfl (pc0 := 116) (pc' := 151) rfl (hb hby at_116) rfl ((if0 _ _).trans (teq (by decide)).1) (by decide) (by decide) k) ?_
        refine own_st (B := (T33.setTop (mkF m 152 #[.val (.int p0), .val (.int p1), .val (.int p2), .val (.int p3), .val (.int p4), .val (.int (3 : Int32)), .val (.int x0), .val (.int x1), .val (.int x2), .val (.int x3), .val (.ref b23), .unset, .unset] [(.int (0 : Int32))]))) (fun _ k => XS.iconst X33.here hx rfl (hb hby at_151) k) ?_
        refine own_st (B := (T33.setTop (mkF m 154 #[.val (.int p0), .val (.int p1), .val (.int p2), .val (.int p3), .val (.int p4), .val (.int (3 : Int32)), .val (.int x0), .val (.int x1), .val (.int x2), .val (.int x3), .val (.ref b23), .val (.int (0 : Int32)), .unset] []))) (fun _ k => XS.istore X33.here hx rfl (hb hby at_152) rfl (l' := #[.val (.int p0), .val (.int p1), .val (.int p2), .val (.int p3), .val (.int p4), .val (.int (3 : Int32)), .val (.int x0), .val (.int x1), .val (.int x2), .val (.int x3), .val (.ref b23), .val (.int (0 : Int32)), .unset]) rfl k) ?_
        refine own_st (B := (T33.setTop (mkF m 156 #[.val (.int p0), .val (.int p1), .val (.int p2), .val (.int p3), .val (.int p4), .val (.int (3 : Int32)), .val (.int x0), .val (.int x1), .val (.int x2), .val (.int x3), .val (.ref b23), .val (.int (0 : Int32)), .unset] [(.ref b23)]))) (fun _ k => XS.aload X33.here hx rfl (hb hby at_154) rfl rfl k) ?_
        obtain ⟨v34, T34, L34, X34, Q34, st34⟩ := own_callS (W := 0) X33 hx hZ (y := (⟨"com/example/patient_surfer/patientsurfer/read/LinksReader", "isLabel", "([B)Z"⟩ : MethodName)) hown (hw _ (List.mem_of_getElem? (i := 6) rfl)) (hw _ (List.mem_of_getElem? (i := 7) rfl)) (hw _ (List.mem_of_getElem? (i := 8) rfl)) (hw _ (List.mem_of_getElem? (i := 9) rfl)) (by decide) q33 (rm_isl l Z a0 hw [] b23 3 3 (fun i => if i = 2 then x2 else if i = 1 then x1 else x0) 0 h26 VF (by decide) (by decide) (Or.inr ⟨rfl, fun q => ok1 (q.2 1 (by decide))⟩)) (g := (mkF m 156 #[.val (.int p0), .val (.int p1), .val (.int p2), .val (.int p3), .val (.int p4), .val (.int (3 : Int32)), .val (.int x0), .val (.int x1), .val (.int x2), .val (.int x3), .val (.ref b23), .val (.int (0 : Int32)), .unset] [(.ref b23)])) rfl (by rw [hml]; rfl) (argsL := [(.ref b23)]) (rest := []) (lenOf pd_2 rfl) rfl rfl (by show 2 * 0 + _ ≤ _; exact Nat.le_of_eq rfl) (hb hby at_156) (by decide) (by decide) (by decide) (by decide)
        obtain ⟨rfl, rfl, q34⟩ := Q34
        refine own_st (B := (T34.setTop (mkF m 159 #[.val (.int p0), .val (.int p1), .val (.int p2), .val (.int p3), .val (.int p4), .val (.int (3 : Int32)), .val (.int x0), .val (.int x1), .val (.int x2), .val (.int x3), .val (.ref b23), .val (.int (0 : Int32)), .unset] [(.int (0 : Int32))]))) st34 ?_
        refine own_st (B := (T34.setTop (mkF m 161 #[.val (.int p0), .val (.int p1), .val (.int p2), .val (.int p3), .val (.int p4), .val (.int (3 : Int32)), .val (.int x0), .val (.int x1), .val (.int x2), .val (.int x3), .val (.ref b23), .val (.int (0 : Int32)), .val (.int (0 : Int32))] []))) (fun _ k => XS.istore X34.here hx rfl (hb hby at_159) rfl (l' := #[.val (.int p0), .val (.int p1), .val (.int p2), .val (.int p3), .val (.int p4), .val (.int (3 : Int32)), .val (.int x0), .val (.int x1), .val (.int x2), .val (.int x3), .val (.ref b23), .val (.int (0 : Int32)), .val (.int (0 : Int32))]) rfl k) ?_
        refine own_st (B := (T34.setTop (mkF m 163 #[.val (.int p0), .val (.int p1), .val (.int p2), .val (.int p3), .val (.int p4), .val (.int (3 : Int32)), .val (.int x0), .val (.int x1), .val (.int x2), .val (.int x3), .val (.ref b23), .val (.int (0 : Int32)), .val (.int (0 : Int32))] [(.int (0 : Int32))]))) (fun _ k => XS.iload X34.here hx rfl (hb hby at_161) rfl k) ?_
        refine own_st (B := (T34.setTop (mkF m 165 #[.val (.int p0), .val (.int p1), .val (.int p2), .val (.int p3), .val (.int p4), .val (.int (3 : Int32)), .val (.int x0), .val (.int x1), .val (.int x2), .val (.int x3), .val (.ref b23), .val (.int (0 : Int32)), .val (.int (0 : Int32))] [(.int (0 : Int32)), (.int (0 : Int32))]))) (fun _ k => XS.iload X34.here hx rfl (hb hby at_163) rfl k) ?_
        refine own_st (B := (T34.setTop (mkF m 168 #[.val (.int p0), .val (.int p1), .val (.int p2), .val (.int p3), .val (.int p4), .val (.int (3 : Int32)), .val (.int x0), .val (.int x1), .val (.int x2), .val (.int x3), .val (.ref b23), .val (.int (0 : Int32)), .val (.int (0 : Int32))] []))) (fun _ k => XS.icmpNo X34.here hx rfl (hb hby at_165) rfl (teq (by decide)).2 k) ?_
        refine own_st (B := (T34.setTop (mkF m 169 #[.val (.int p0), .val (.int p1), .val (.int p2), .val (.int p3), .val (.int p4), .val (.int (3 : Int32)), .val (.int x0), .val (.int x1), .val (.int x2), .val (.int x3), .val (.ref b23), .val (.int (0 : Int32)), .val (.int (0 : Int32))] [(.int (1 : Int32))]))) (fun _ k => XS.iconst X34.here hx rfl (hb hby at_168) k) ?_
        refine own_st (B := (T34.setTop (mkF m 173 #[.val (.int p0), .val (.int p1), .val (.int p2), .val (.int p3), .val (.int p4), .val (.int (3 : Int32)), .val (.int x0), .val (.int x1), .val (.int x2), .val (.int x3), .val (.ref b23), .val (.int (0 : Int32)), .val (.int (0 : Int32))] [(.int (1 : Int32))]))) (fun _ k => XS.goto X34.here hx rfl (pc0 := 169) (pc' := 173) rfl (hb hby at_169) (by decide) (by decide) k) ?_
        have NZ : Fr n0 [(⟨b23, 0⟩ : Loc), (⟨b23, 1⟩ : Loc), (⟨b23, 2⟩ : Loc)] := by
          intro y hy
          simp only [List.mem_cons, List.not_mem_nil, or_false] at hy
          rcases hy with rfl | rfl | rfl <;> exact g_b23
        exact own_retN X34 hx hlk (t := .boolean) hret (by simp) (hb hby at_173) (by show own_Q0 n0 _ T34.heap _; rw [q34]; exact ⟨rfl, by simpa using NZ⟩) (by decide) (by decide)
    · obtain ⟨v35, T35, L35, X35, Q35, st35⟩ := own_callS (W := 0) X26 hx hZ (y := (⟨"com/example/patient_surfer/patientsurfer/read/LinksReaderIsLabelPinLaw", "ok", "(B)Z"⟩ : MethodName)) hown (hw _ (List.mem_of_getElem? (i := 10) rfl)) (hw _ (List.mem_of_getElem? (i := 11) rfl)) (hw _ (List.mem_of_getElem? (i := 3) rfl)) (hw _ (List.mem_of_getElem? (i := 12) rfl)) (by decide) e26 (rm_ok l Z a0 hw [] x0 0 h26 (Or.inr ⟨rfl, ok0⟩)) (g := (mkF m 99 #[.val (.int p0), .val (.int p1), .val (.int p2), .val (.int p3), .val (.int p4), .val (.int (3 : Int32)), .val (.int x0), .val (.int x1), .val (.int x2), .val (.int x3), .val (.ref b23), .unset, .unset] [(.int x0)])) rfl (by rw [hml]; rfl) (argsL := [(.int x0)]) (rest := []) (lenOf pd_0 rfl) rfl rfl (by show 2 * 0 + _ ≤ _; exact Nat.le_of_eq rfl) (hb hby at_99) (by decide) (by decide) (by decide) (by decide)
      obtain ⟨rfl, rfl, q35⟩ := Q35
      refine own_st (B := (T35.setTop (mkF m 102 #[.val (.int p0), .val (.int p1), .val (.int p2), .val (.int p3), .val (.int p4), .val (.int (3 : Int32)), .val (.int x0), .val (.int x1), .val (.int x2), .val (.int x3), .val (.ref b23), .unset, .unset] [(.int (0 : Int32))]))) st35 ?_
      refine own_st (B := (T35.setTop (mkF m 151 #[.val (.int p0), .val (.int p1), .val (.int p2), .val (.int p3), .val (.int p4), .val (.int (3 : Int32)), .val (.int x0), .val (.int x1), .val (.int x2), .val (.int x3), .val (.ref b23), .unset, .unset] []))) (fun _ k => XS.ifYes X35.here hx rfl (pc0 := 102) (pc' := 151) rfl (hb hby at_102) rfl ((if0 _ _).trans (teq (by decide)).1) (by decide) (by decide) k) ?_
      refine own_st (B := (T35.setTop (mkF m 152 #[.val (.int p0), .val (.int p1), .val (.int p2), .val (.int p3), .val (.int p4), .val (.int (3 : Int32)), .val (.int x0), .val (.int x1), .val (.int x2), .val (.int x3), .val (.ref b23), .unset, .unset] [(.int (0 : Int32))]))) (fun _ k => XS.iconst X35.here hx rfl (hb hby at_151) k) ?_
      refine own_st (B := (T35.setTop (mkF m 154 #[.val (.int p0), .val (.int p1), .val (.int p2), .val (.int p3), .val (.int p4), .val (.int (3 : Int32)), .val (.int x0), .val (.int x1), .val (.int x2), .val (.int x3), .val (.ref b23), .val (.int (0 : Int32)), .unset] []))) (fun _ k => XS.istore X35.here hx rfl (hb hby at_152) rfl (l' := #[.val (.int p0), .val (.int p1), .val (.int p2), .val (.int p3), .val (.int p4), .val (.int (3 : Int32)), .val (.int x0), .val (.int x1), .val (.int x2), .val (.int x3), .val (.ref b23), .val (.int (0 : Int32)), .unset]) rfl k) ?_
      refine own_st (B := (T35.setTop (mkF m 156 #[.val (.int p0), .val (.int p1), .val (.int p2), .val (.int p3), .val (.int p4), .val (.int (3 : Int32)), .val (.int x0), .val (.int x1), .val (.int x2), .val (.int x3), .val (.ref b23), .val (.int (0 : Int32)), .unset] [(.ref b23)]))) (fun _ k => XS.aload X35.here hx rfl (hb hby at_154) rfl rfl k) ?_
      obtain ⟨v36, T36, L36, X36, Q36, st36⟩ := own_callS (W := 0) X35 hx hZ (y := (⟨"com/example/patient_surfer/patientsurfer/read/LinksReader", "isLabel", "([B)Z"⟩ : MethodName)) hown (hw _ (List.mem_of_getElem? (i := 6) rfl)) (hw _ (List.mem_of_getElem? (i := 7) rfl)) (hw _ (List.mem_of_getElem? (i := 8) rfl)) (hw _ (List.mem_of_getElem? (i := 9) rfl)) (by decide) q35 (rm_isl l Z a0 hw [] b23 3 3 (fun i => if i = 2 then x2 else if i = 1 then x1 else x0) 0 h26 VF (by decide) (by decide) (Or.inr ⟨rfl, fun q => ok0 (q.2 0 (by decide))⟩)) (g := (mkF m 156 #[.val (.int p0), .val (.int p1), .val (.int p2), .val (.int p3), .val (.int p4), .val (.int (3 : Int32)), .val (.int x0), .val (.int x1), .val (.int x2), .val (.int x3), .val (.ref b23), .val (.int (0 : Int32)), .unset] [(.ref b23)])) rfl (by rw [hml]; rfl) (argsL := [(.ref b23)]) (rest := []) (lenOf pd_2 rfl) rfl rfl (by show 2 * 0 + _ ≤ _; exact Nat.le_of_eq rfl) (hb hby at_156) (by decide) (by decide) (by decide) (by decide)
      obtain ⟨rfl, rfl, q36⟩ := Q36
      refine own_st (B := (T36.setTop (mkF m 159 #[.val (.int p0), .val (.int p1), .val (.int p2), .val (.int p3), .val (.int p4), .val (.int (3 : Int32)), .val (.int x0), .val (.int x1), .val (.int x2), .val (.int x3), .val (.ref b23), .val (.int (0 : Int32)), .unset] [(.int (0 : Int32))]))) st36 ?_
      refine own_st (B := (T36.setTop (mkF m 161 #[.val (.int p0), .val (.int p1), .val (.int p2), .val (.int p3), .val (.int p4), .val (.int (3 : Int32)), .val (.int x0), .val (.int x1), .val (.int x2), .val (.int x3), .val (.ref b23), .val (.int (0 : Int32)), .val (.int (0 : Int32))] []))) (fun _ k => XS.istore X36.here hx rfl (hb hby at_159) rfl (l' := #[.val (.int p0), .val (.int p1), .val (.int p2), .val (.int p3), .val (.int p4), .val (.int (3 : Int32)), .val (.int x0), .val (.int x1), .val (.int x2), .val (.int x3), .val (.ref b23), .val (.int (0 : Int32)), .val (.int (0 : Int32))]) rfl k) ?_
      refine own_st (B := (T36.setTop (mkF m 163 #[.val (.int p0), .val (.int p1), .val (.int p2), .val (.int p3), .val (.int p4), .val (.int (3 : Int32)), .val (.int x0), .val (.int x1), .val (.int x2), .val (.int x3), .val (.ref b23), .val (.int (0 : Int32)), .val (.int (0 : Int32))] [(.int (0 : Int32))]))) (fun _ k => XS.iload X36.here hx rfl (hb hby at_161) rfl k) ?_
      refine own_st (B := (T36.setTop (mkF m 165 #[.val (.int p0), .val (.int p1), .val (.int p2), .val (.int p3), .val (.int p4), .val (.int (3 : Int32)), .val (.int x0), .val (.int x1), .val (.int x2), .val (.int x3), .val (.ref b23), .val (.int (0 : Int32)), .val (.int (0 : Int32))] [(.int (0 : Int32)), (.int (0 : Int32))]))) (fun _ k => XS.iload X36.here hx rfl (hb hby at_163) rfl k) ?_
      refine own_st (B := (T36.setTop (mkF m 168 #[.val (.int p0), .val (.int p1), .val (.int p2), .val (.int p3), .val (.int p4), .val (.int (3 : Int32)), .val (.int x0), .val (.int x1), .val (.int x2), .val (.int x3), .val (.ref b23), .val (.int (0 : Int32)), .val (.int (0 : Int32))] []))) (fun _ k => XS.icmpNo X36.here hx rfl (hb hby at_165) rfl (teq (by decide)).2 k) ?_
      refine own_st (B := (T36.setTop (mkF m 169 #[.val (.int p0), .val (.int p1), .val (.int p2), .val (.int p3), .val (.int p4), .val (.int (3 : Int32)), .val (.int x0), .val (.int x1), .val (.int x2), .val (.int x3), .val (.ref b23), .val (.int (0 : Int32)), .val (.int (0 : Int32))] [(.int (1 : Int32))]))) (fun _ k => XS.iconst X36.here hx rfl (hb hby at_168) k) ?_
      refine own_st (B := (T36.setTop (mkF m 173 #[.val (.int p0), .val (.int p1), .val (.int p2), .val (.int p3), .val (.int p4), .val (.int (3 : Int32)), .val (.int x0), .val (.int x1), .val (.int x2), .val (.int x3), .val (.ref b23), .val (.int (0 : Int32)), .val (.int (0 : Int32))] [(.int (1 : Int32))]))) (fun _ k => XS.goto X36.here hx rfl (pc0 := 169) (pc' := 173) rfl (hb hby at_169) (by decide) (by decide) k) ?_
      have NZ : Fr n0 [(⟨b23, 0⟩ : Loc), (⟨b23, 1⟩ : Loc), (⟨b23, 2⟩ : Loc)] := by
        intro y hy
        simp only [List.mem_cons, List.not_mem_nil, or_false] at hy
        rcases hy with rfl | rfl | rfl <;> exact g_b23
      exact own_retN X36 hx hlk (t := .boolean) hret (by simp) (hb hby at_173) (by show own_Q0 n0 _ T36.heap _; rw [q36]; exact ⟨rfl, by simpa using NZ⟩) (by decide) (by decide)
  · refine own_st (B := (T4.setTop (mkF m 35 #[.val (.int p0), .val (.int p1), .val (.int p2), .val (.int p3), .val (.int p4), .val (.int (4 : Int32)), .val (.int x0), .val (.int x1), .val (.int x2), .val (.int x3), .unset, .unset, .unset] [(.int (4 : Int32))]))) (fun _ k => XS.iload X4.here hx rfl (hb hby at_33) rfl k) ?_
    obtain ⟨T37, h37, k37, X37, e37, E37, A37, st37⟩ := newP X4 hx hZ (hw _ (List.mem_of_getElem? (i := 5) rfl)) q4 (g := (mkF m 35 #[.val (.int p0), .val (.int p1), .val (.int p2), .val (.int p3), .val (.int p4), .val (.int (4 : Int32)), .val (.int x0), .val (.int x1), .val (.int x2), .val (.int x3), .unset, .unset, .unset] [(.int (4 : Int32))])) rfl (hb hby at_35) rfl (by decide) (cap := 4) (by decide) (by decide) (by decide) (by decide)
    obtain ⟨b37, g37⟩ : ∃ z, z = h0.size := ⟨_, rfl⟩
    rw [← g37] at A37 st37
    have g_b37 : n0 ≤ b37 := Nat.le_trans Z0 (Nat.le_of_eq g37.symm)
    have Z37 : n0 ≤ h37.size := Nat.le_trans Z0 E37.1
    refine own_st (B := (T37.setTop (mkF m 37 #[.val (.int p0), .val (.int p1), .val (.int p2), .val (.int p3), .val (.int p4), .val (.int (4 : Int32)), .val (.int x0), .val (.int x1), .val (.int x2), .val (.int x3), .unset, .unset, .unset] [(.ref b37)]))) st37 ?_
    have V0 : own_AV Z h37 b37 .byte 4 (fun _ => defaultValue .byte) := own_AV.new A37 (by decide)
    have N0' := Fr.nil n0
    refine own_st (B := (T37.setTop (mkF m 39 #[.val (.int p0), .val (.int p1), .val (.int p2), .val (.int p3), .val (.int p4), .val (.int (4 : Int32)), .val (.int x0), .val (.int x1), .val (.int x2), .val (.int x3), .val (.ref b37), .unset, .unset] []))) (fun _ k => XS.astore X37.here hx rfl (hb hby at_37) rfl rfl (l' := #[.val (.int p0), .val (.int p1), .val (.int p2), .val (.int p3), .val (.int p4), .val (.int (4 : Int32)), .val (.int x0), .val (.int x1), .val (.int x2), .val (.int x3), .val (.ref b37), .unset, .unset]) rfl k) ?_
    refine own_st (B := (T37.setTop (mkF m 41 #[.val (.int p0), .val (.int p1), .val (.int p2), .val (.int p3), .val (.int p4), .val (.int (4 : Int32)), .val (.int x0), .val (.int x1), .val (.int x2), .val (.int x3), .val (.ref b37), .unset, .unset] [(.int (4 : Int32))]))) (fun _ k => XS.iload X37.here hx rfl (hb hby at_39) rfl k) ?_
    refine own_st (B := (T37.setTop (mkF m 44 #[.val (.int p0), .val (.int p1), .val (.int p2), .val (.int p3), .val (.int p4), .val (.int (4 : Int32)), .val (.int x0), .val (.int x1), .val (.int x2), .val (.int x3), .val (.ref b37), .unset, .unset] []))) (fun _ k => XS.ifNo X37.here hx rfl (hb hby at_41) rfl ((if0 _ _).trans (tlt (by decide)).2.2.2) k) ?_
    refine own_st (B := (T37.setTop (mkF m 46 #[.val (.int p0), .val (.int p1), .val (.int p2), .val (.int p3), .val (.int p4), .val (.int (4 : Int32)), .val (.int x0), .val (.int x1), .val (.int x2), .val (.int x3), .val (.ref b37), .unset, .unset] [(.ref b37)]))) (fun _ k => XS.aload X37.here hx rfl (hb hby at_44) rfl rfl k) ?_
    refine own_st (B := (T37.setTop (mkF m 47 #[.val (.int p0), .val (.int p1), .val (.int p2), .val (.int p3), .val (.int p4), .val (.int (4 : Int32)), .val (.int x0), .val (.int x1), .val (.int x2), .val (.int x3), .val (.ref b37), .unset, .unset] [(.int (0 : Int32)), (.ref b37)]))) (fun _ k => XS.iconst X37.here hx rfl (hb hby at_46) k) ?_
    refine own_st (B := (T37.setTop (mkF m 49 #[.val (.int p0), .val (.int p1), .val (.int p2), .val (.int p3), .val (.int p4), .val (.int (4 : Int32)), .val (.int x0), .val (.int x1), .val (.int x2), .val (.int x3), .val (.ref b37), .unset, .unset] [(.int x0), (.int (0 : Int32)), (.ref b37)]))) (fun _ k => XS.iload X37.here hx rfl (hb hby at_47) rfl k) ?_
    obtain ⟨T38, h38, X38, e38, W38, V38, st38⟩ := own_stB X37 hx hZ e37 V0 (i := 0) (by decide) (by decide) (by decide) (g := (mkF m 49 #[.val (.int p0), .val (.int p1), .val (.int p2), .val (.int p3), .val (.int p4), .val (.int (4 : Int32)), .val (.int x0), .val (.int x1), .val (.int x2), .val (.int x3), .val (.ref b37), .unset, .unset] [(.int x0), (.int (0 : Int32)), (.ref b37)])) rfl rfl (hb hby at_49)
    refine own_st (B := (T38.setTop (mkF m 50 #[.val (.int p0), .val (.int p1), .val (.int p2), .val (.int p3), .val (.int p4), .val (.int (4 : Int32)), .val (.int x0), .val (.int x1), .val (.int x2), .val (.int x3), .val (.ref b37), .unset, .unset] []))) st38 ?_
    refine own_st (B := (T38.setTop (mkF m 52 #[.val (.int p0), .val (.int p1), .val (.int p2), .val (.int p3), .val (.int p4), .val (.int (4 : Int32)), .val (.int x0), .val (.int x1), .val (.int x2), .val (.int x3), .val (.ref b37), .unset, .unset] [(.int (4 : Int32))]))) (fun _ k => XS.iload X38.here hx rfl (hb hby at_50) rfl k) ?_
    refine own_st (B := (T38.setTop (mkF m 53 #[.val (.int p0), .val (.int p1), .val (.int p2), .val (.int p3), .val (.int p4), .val (.int (4 : Int32)), .val (.int x0), .val (.int x1), .val (.int x2), .val (.int x3), .val (.ref b37), .unset, .unset] [(.int (1 : Int32)), (.int (4 : Int32))]))) (fun _ k => XS.iconst X38.here hx rfl (hb hby at_52) k) ?_
    refine own_st (B := (T38.setTop (mkF m 56 #[.val (.int p0), .val (.int p1), .val (.int p2), .val (.int p3), .val (.int p4), .val (.int (4 : Int32)), .val (.int x0), .val (.int x1), .val (.int x2), .val (.int x3), .val (.ref b37), .unset, .unset] []))) (fun _ k => XS.icmpNo X38.here hx rfl (hb hby at_53) rfl (tlt (by decide)).2.2.2 k) ?_
    refine own_st (B := (T38.setTop (mkF m 58 #[.val (.int p0), .val (.int p1), .val (.int p2), .val (.int p3), .val (.int p4), .val (.int (4 : Int32)), .val (.int x0), .val (.int x1), .val (.int x2), .val (.int x3), .val (.ref b37), .unset, .unset] [(.ref b37)]))) (fun _ k => XS.aload X38.here hx rfl (hb hby at_56) rfl rfl k) ?_
    refine own_st (B := (T38.setTop (mkF m 59 #[.val (.int p0), .val (.int p1), .val (.int p2), .val (.int p3), .val (.int p4), .val (.int (4 : Int32)), .val (.int x0), .val (.int x1), .val (.int x2), .val (.int x3), .val (.ref b37), .unset, .unset] [(.int (1 : Int32)), (.ref b37)]))) (fun _ k => XS.iconst X38.here hx rfl (hb hby at_58) k) ?_
    refine own_st (B := (T38.setTop (mkF m 61 #[.val (.int p0), .val (.int p1), .val (.int p2), .val (.int p3), .val (.int p4), .val (.int (4 : Int32)), .val (.int x0), .val (.int x1), .val (.int x2), .val (.int x3), .val (.ref b37), .unset, .unset] [(.int x1), (.int (1 : Int32)), (.ref b37)]))) (fun _ k => XS.iload X38.here hx rfl (hb hby at_59) rfl k) ?_
    obtain ⟨T39, h39, X39, e39, W39, V39, st39⟩ := own_stB X38 hx hZ e38 V38 (i := 1) (by decide) (by decide) (by decide) (g := (mkF m 61 #[.val (.int p0), .val (.int p1), .val (.int p2), .val (.int p3), .val (.int p4), .val (.int (4 : Int32)), .val (.int x0), .val (.int x1), .val (.int x2), .val (.int x3), .val (.ref b37), .unset, .unset] [(.int x1), (.int (1 : Int32)), (.ref b37)])) rfl rfl (hb hby at_61)
    refine own_st (B := (T39.setTop (mkF m 62 #[.val (.int p0), .val (.int p1), .val (.int p2), .val (.int p3), .val (.int p4), .val (.int (4 : Int32)), .val (.int x0), .val (.int x1), .val (.int x2), .val (.int x3), .val (.ref b37), .unset, .unset] []))) st39 ?_
    refine own_st (B := (T39.setTop (mkF m 64 #[.val (.int p0), .val (.int p1), .val (.int p2), .val (.int p3), .val (.int p4), .val (.int (4 : Int32)), .val (.int x0), .val (.int x1), .val (.int x2), .val (.int x3), .val (.ref b37), .unset, .unset] [(.int (4 : Int32))]))) (fun _ k => XS.iload X39.here hx rfl (hb hby at_62) rfl k) ?_
    refine own_st (B := (T39.setTop (mkF m 65 #[.val (.int p0), .val (.int p1), .val (.int p2), .val (.int p3), .val (.int p4), .val (.int (4 : Int32)), .val (.int x0), .val (.int x1), .val (.int x2), .val (.int x3), .val (.ref b37), .unset, .unset] [(.int (2 : Int32)), (.int (4 : Int32))]))) (fun _ k => XS.iconst X39.here hx rfl (hb hby at_64) k) ?_
    refine own_st (B := (T39.setTop (mkF m 68 #[.val (.int p0), .val (.int p1), .val (.int p2), .val (.int p3), .val (.int p4), .val (.int (4 : Int32)), .val (.int x0), .val (.int x1), .val (.int x2), .val (.int x3), .val (.ref b37), .unset, .unset] []))) (fun _ k => XS.icmpNo X39.here hx rfl (hb hby at_65) rfl (tlt (by decide)).2.2.2 k) ?_
    refine own_st (B := (T39.setTop (mkF m 70 #[.val (.int p0), .val (.int p1), .val (.int p2), .val (.int p3), .val (.int p4), .val (.int (4 : Int32)), .val (.int x0), .val (.int x1), .val (.int x2), .val (.int x3), .val (.ref b37), .unset, .unset] [(.ref b37)]))) (fun _ k => XS.aload X39.here hx rfl (hb hby at_68) rfl rfl k) ?_
    refine own_st (B := (T39.setTop (mkF m 71 #[.val (.int p0), .val (.int p1), .val (.int p2), .val (.int p3), .val (.int p4), .val (.int (4 : Int32)), .val (.int x0), .val (.int x1), .val (.int x2), .val (.int x3), .val (.ref b37), .unset, .unset] [(.int (2 : Int32)), (.ref b37)]))) (fun _ k => XS.iconst X39.here hx rfl (hb hby at_70) k) ?_
    refine own_st (B := (T39.setTop (mkF m 73 #[.val (.int p0), .val (.int p1), .val (.int p2), .val (.int p3), .val (.int p4), .val (.int (4 : Int32)), .val (.int x0), .val (.int x1), .val (.int x2), .val (.int x3), .val (.ref b37), .unset, .unset] [(.int x2), (.int (2 : Int32)), (.ref b37)]))) (fun _ k => XS.iload X39.here hx rfl (hb hby at_71) rfl k) ?_
    obtain ⟨T40, h40, X40, e40, W40, V40, st40⟩ := own_stB X39 hx hZ e39 V39 (i := 2) (by decide) (by decide) (by decide) (g := (mkF m 73 #[.val (.int p0), .val (.int p1), .val (.int p2), .val (.int p3), .val (.int p4), .val (.int (4 : Int32)), .val (.int x0), .val (.int x1), .val (.int x2), .val (.int x3), .val (.ref b37), .unset, .unset] [(.int x2), (.int (2 : Int32)), (.ref b37)])) rfl rfl (hb hby at_73)
    refine own_st (B := (T40.setTop (mkF m 74 #[.val (.int p0), .val (.int p1), .val (.int p2), .val (.int p3), .val (.int p4), .val (.int (4 : Int32)), .val (.int x0), .val (.int x1), .val (.int x2), .val (.int x3), .val (.ref b37), .unset, .unset] []))) st40 ?_
    refine own_st (B := (T40.setTop (mkF m 76 #[.val (.int p0), .val (.int p1), .val (.int p2), .val (.int p3), .val (.int p4), .val (.int (4 : Int32)), .val (.int x0), .val (.int x1), .val (.int x2), .val (.int x3), .val (.ref b37), .unset, .unset] [(.int (4 : Int32))]))) (fun _ k => XS.iload X40.here hx rfl (hb hby at_74) rfl k) ?_
    refine own_st (B := (T40.setTop (mkF m 77 #[.val (.int p0), .val (.int p1), .val (.int p2), .val (.int p3), .val (.int p4), .val (.int (4 : Int32)), .val (.int x0), .val (.int x1), .val (.int x2), .val (.int x3), .val (.ref b37), .unset, .unset] [(.int (3 : Int32)), (.int (4 : Int32))]))) (fun _ k => XS.iconst X40.here hx rfl (hb hby at_76) k) ?_
    refine own_st (B := (T40.setTop (mkF m 80 #[.val (.int p0), .val (.int p1), .val (.int p2), .val (.int p3), .val (.int p4), .val (.int (4 : Int32)), .val (.int x0), .val (.int x1), .val (.int x2), .val (.int x3), .val (.ref b37), .unset, .unset] []))) (fun _ k => XS.icmpNo X40.here hx rfl (hb hby at_77) rfl (tlt (by decide)).2.2.2 k) ?_
    refine own_st (B := (T40.setTop (mkF m 82 #[.val (.int p0), .val (.int p1), .val (.int p2), .val (.int p3), .val (.int p4), .val (.int (4 : Int32)), .val (.int x0), .val (.int x1), .val (.int x2), .val (.int x3), .val (.ref b37), .unset, .unset] [(.ref b37)]))) (fun _ k => XS.aload X40.here hx rfl (hb hby at_80) rfl rfl k) ?_
    refine own_st (B := (T40.setTop (mkF m 83 #[.val (.int p0), .val (.int p1), .val (.int p2), .val (.int p3), .val (.int p4), .val (.int (4 : Int32)), .val (.int x0), .val (.int x1), .val (.int x2), .val (.int x3), .val (.ref b37), .unset, .unset] [(.int (3 : Int32)), (.ref b37)]))) (fun _ k => XS.iconst X40.here hx rfl (hb hby at_82) k) ?_
    refine own_st (B := (T40.setTop (mkF m 85 #[.val (.int p0), .val (.int p1), .val (.int p2), .val (.int p3), .val (.int p4), .val (.int (4 : Int32)), .val (.int x0), .val (.int x1), .val (.int x2), .val (.int x3), .val (.ref b37), .unset, .unset] [(.int x3), (.int (3 : Int32)), (.ref b37)]))) (fun _ k => XS.iload X40.here hx rfl (hb hby at_83) rfl k) ?_
    obtain ⟨T41, h41, X41, e41, W41, V41, st41⟩ := own_stB X40 hx hZ e40 V40 (i := 3) (by decide) (by decide) (by decide) (g := (mkF m 85 #[.val (.int p0), .val (.int p1), .val (.int p2), .val (.int p3), .val (.int p4), .val (.int (4 : Int32)), .val (.int x0), .val (.int x1), .val (.int x2), .val (.int x3), .val (.ref b37), .unset, .unset] [(.int x3), (.int (3 : Int32)), (.ref b37)])) rfl rfl (hb hby at_85)
    refine own_st (B := (T41.setTop (mkF m 86 #[.val (.int p0), .val (.int p1), .val (.int p2), .val (.int p3), .val (.int p4), .val (.int (4 : Int32)), .val (.int x0), .val (.int x1), .val (.int x2), .val (.int x3), .val (.ref b37), .unset, .unset] []))) st41 ?_
    have VF : own_AV Z h41 b37 .byte 4 (fun i => .int ((fun i => if i = 3 then x3 else if i = 2 then x2 else if i = 1 then x1 else x0) i)) := V41.congr fun i hi => by
      have hi' : i = 0 ∨ i = 1 ∨ i = 2 ∨ i = 3 := by omega
      rcases hi' with rfl | rfl | rfl | rfl
      · exact congrArg Value.int nx0
      · exact congrArg Value.int nx1
      · exact congrArg Value.int nx2
      · exact congrArg Value.int nx3
    refine own_st (B := (T41.setTop (mkF m 88 #[.val (.int p0), .val (.int p1), .val (.int p2), .val (.int p3), .val (.int p4), .val (.int (4 : Int32)), .val (.int x0), .val (.int x1), .val (.int x2), .val (.int x3), .val (.ref b37), .unset, .unset] [(.int (4 : Int32))]))) (fun _ k => XS.iload X41.here hx rfl (hb hby at_86) rfl k) ?_
    refine own_st (B := (T41.setTop (mkF m 91 #[.val (.int p0), .val (.int p1), .val (.int p2), .val (.int p3), .val (.int p4), .val (.int (4 : Int32)), .val (.int x0), .val (.int x1), .val (.int x2), .val (.int x3), .val (.ref b37), .unset, .unset] []))) (fun _ k => XS.ifNo X41.here hx rfl (hb hby at_88) rfl ((if0 _ _).trans (tlt (by decide)).2.2.2) k) ?_
    refine own_st (B := (T41.setTop (mkF m 93 #[.val (.int p0), .val (.int p1), .val (.int p2), .val (.int p3), .val (.int p4), .val (.int (4 : Int32)), .val (.int x0), .val (.int x1), .val (.int x2), .val (.int x3), .val (.ref b37), .unset, .unset] [(.int (4 : Int32))]))) (fun _ k => XS.iload X41.here hx rfl (hb hby at_91) rfl k) ?_
    refine own_st (B := (T41.setTop (mkF m 94 #[.val (.int p0), .val (.int p1), .val (.int p2), .val (.int p3), .val (.int p4), .val (.int (4 : Int32)), .val (.int x0), .val (.int x1), .val (.int x2), .val (.int x3), .val (.ref b37), .unset, .unset] [(.int (1 : Int32)), (.int (4 : Int32))]))) (fun _ k => XS.iconst X41.here hx rfl (hb hby at_93) k) ?_
    refine own_st (B := (T41.setTop (mkF m 97 #[.val (.int p0), .val (.int p1), .val (.int p2), .val (.int p3), .val (.int p4), .val (.int (4 : Int32)), .val (.int x0), .val (.int x1), .val (.int x2), .val (.int x3), .val (.ref b37), .unset, .unset] []))) (fun _ k => XS.icmpNo X41.here hx rfl (hb hby at_94) rfl (flt (by decide)).1 k) ?_
    refine own_st (B := (T41.setTop (mkF m 99 #[.val (.int p0), .val (.int p1), .val (.int p2), .val (.int p3), .val (.int p4), .val (.int (4 : Int32)), .val (.int x0), .val (.int x1), .val (.int x2), .val (.int x3), .val (.ref b37), .unset, .unset] [(.int x0)]))) (fun _ k => XS.iload X41.here hx rfl (hb hby at_97) rfl k) ?_
    by_cases ok0 : own_ok x0
    · obtain ⟨v42, T42, L42, X42, Q42, st42⟩ := own_callS (W := 0) X41 hx hZ (y := (⟨"com/example/patient_surfer/patientsurfer/read/LinksReaderIsLabelPinLaw", "ok", "(B)Z"⟩ : MethodName)) hown (hw _ (List.mem_of_getElem? (i := 10) rfl)) (hw _ (List.mem_of_getElem? (i := 11) rfl)) (hw _ (List.mem_of_getElem? (i := 3) rfl)) (hw _ (List.mem_of_getElem? (i := 12) rfl)) (by decide) e41 (rm_ok l Z a0 hw [] x0 1 h41 (Or.inl ⟨rfl, ok0⟩)) (g := (mkF m 99 #[.val (.int p0), .val (.int p1), .val (.int p2), .val (.int p3), .val (.int p4), .val (.int (4 : Int32)), .val (.int x0), .val (.int x1), .val (.int x2), .val (.int x3), .val (.ref b37), .unset, .unset] [(.int x0)])) rfl (by rw [hml]; rfl) (argsL := [(.int x0)]) (rest := []) (lenOf pd_0 rfl) rfl rfl (by show 2 * 0 + _ ≤ _; exact Nat.le_of_eq rfl) (hb hby at_99) (by decide) (by decide) (by decide) (by decide)
      obtain ⟨rfl, rfl, q42⟩ := Q42
      refine own_st (B := (T42.setTop (mkF m 102 #[.val (.int p0), .val (.int p1), .val (.int p2), .val (.int p3), .val (.int p4), .val (.int (4 : Int32)), .val (.int x0), .val (.int x1), .val (.int x2), .val (.int x3), .val (.ref b37), .unset, .unset] [(.int (1 : Int32))]))) st42 ?_
      refine own_st (B := (T42.setTop (mkF m 105 #[.val (.int p0), .val (.int p1), .val (.int p2), .val (.int p3), .val (.int p4), .val (.int (4 : Int32)), .val (.int x0), .val (.int x1), .val (.int x2), .val (.int x3), .val (.ref b37), .unset, .unset] []))) (fun _ k => XS.ifNo X42.here hx rfl (hb hby at_102) rfl ((if0 _ _).trans (feq (by decide)).1) k) ?_
      refine own_st (B := (T42.setTop (mkF m 107 #[.val (.int p0), .val (.int p1), .val (.int p2), .val (.int p3), .val (.int p4), .val (.int (4 : Int32)), .val (.int x0), .val (.int x1), .val (.int x2), .val (.int x3), .val (.ref b37), .unset, .unset] [(.int (4 : Int32))]))) (fun _ k => XS.iload X42.here hx rfl (hb hby at_105) rfl k) ?_
      refine own_st (B := (T42.setTop (mkF m 108 #[.val (.int p0), .val (.int p1), .val (.int p2), .val (.int p3), .val (.int p4), .val (.int (4 : Int32)), .val (.int x0), .val (.int x1), .val (.int x2), .val (.int x3), .val (.ref b37), .unset, .unset] [(.int (2 : Int32)), (.int (4 : Int32))]))) (fun _ k => XS.iconst X42.here hx rfl (hb hby at_107) k) ?_
      refine own_st (B := (T42.setTop (mkF m 111 #[.val (.int p0), .val (.int p1), .val (.int p2), .val (.int p3), .val (.int p4), .val (.int (4 : Int32)), .val (.int x0), .val (.int x1), .val (.int x2), .val (.int x3), .val (.ref b37), .unset, .unset] []))) (fun _ k => XS.icmpNo X42.here hx rfl (hb hby at_108) rfl (flt (by decide)).1 k) ?_
      refine own_st (B := (T42.setTop (mkF m 113 #[.val (.int p0), .val (.int p1), .val (.int p2), .val (.int p3), .val (.int p4), .val (.int (4 : Int32)), .val (.int x0), .val (.int x1), .val (.int x2), .val (.int x3), .val (.ref b37), .unset, .unset] [(.int x1)]))) (fun _ k => XS.iload X42.here hx rfl (hb hby at_111) rfl k) ?_
      by_cases ok1 : own_ok x1
      · obtain ⟨v43, T43, L43, X43, Q43, st43⟩ := own_callS (W := 0) X42 hx hZ (y := (⟨"com/example/patient_surfer/patientsurfer/read/LinksReaderIsLabelPinLaw", "ok", "(B)Z"⟩ : MethodName)) hown (hw _ (List.mem_of_getElem? (i := 10) rfl)) (hw _ (List.mem_of_getElem? (i := 11) rfl)) (hw _ (List.mem_of_getElem? (i := 3) rfl)) (hw _ (List.mem_of_getElem? (i := 12) rfl)) (by decide) q42 (rm_ok l Z a0 hw [] x1 1 h41 (Or.inl ⟨rfl, ok1⟩)) (g := (mkF m 113 #[.val (.int p0), .val (.int p1), .val (.int p2), .val (.int p3), .val (.int p4), .val (.int (4 : Int32)), .val (.int x0), .val (.int x1), .val (.int x2), .val (.int x3), .val (.ref b37), .unset, .unset] [(.int x1)])) rfl (by rw [hml]; rfl) (argsL := [(.int x1)]) (rest := []) (lenOf pd_0 rfl) rfl rfl (by show 2 * 0 + _ ≤ _; exact Nat.le_of_eq rfl) (hb hby at_113) (by decide) (by decide) (by decide) (by decide)
        obtain ⟨rfl, rfl, q43⟩ := Q43
        refine own_st (B := (T43.setTop (mkF m 116 #[.val (.int p0), .val (.int p1), .val (.int p2), .val (.int p3), .val (.int p4), .val (.int (4 : Int32)), .val (.int x0), .val (.int x1), .val (.int x2), .val (.int x3), .val (.ref b37), .unset, .unset] [(.int (1 : Int32))]))) st43 ?_
        refine own_st (B := (T43.setTop (mkF m 119 #[.val (.int p0), .val (.int p1), .val (.int p2), .val (.int p3), .val (.int p4), .val (.int (4 : Int32)), .val (.int x0), .val (.int x1), .val (.int x2), .val (.int x3), .val (.ref b37), .unset, .unset] []))) (fun _ k => XS.ifNo X43.here hx rfl (hb hby at_116) rfl ((if0 _ _).trans (feq (by decide)).1) k) ?_
        refine own_st (B := (T43.setTop (mkF m 121 #[.val (.int p0), .val (.int p1), .val (.int p2), .val (.int p3), .val (.int p4), .val (.int (4 : Int32)), .val (.int x0), .val (.int x1), .val (.int x2), .val (.int x3), .val (.ref b37), .unset, .unset] [(.int (4 : Int32))]))) (fun _ k => XS.iload X43.here hx rfl (hb hby at_119) rfl k) ?_
        refine own_st (B := (T43.setTop (mkF m 122 #[.val (.int p0), .val (.int p1), .val (.int p2), .val (.int p3), .val (.int p4), .val (.int (4 : Int32)), .val (.int x0), .val (.int x1), .val (.int x2), .val (.int x3), .val (.ref b37), .unset, .unset] [(.int (3 : Int32)), (.int (4 : Int32))]))) (fun _ k => XS.iconst X43.here hx rfl (hb hby at_121) k) ?_
        refine own_st (B := (T43.setTop (mkF m 125 #[.val (.int p0), .val (.int p1), .val (.int p2), .val (.int p3), .val (.int p4), .val (.int (4 : Int32)), .val (.int x0), .val (.int x1), .val (.int x2), .val (.int x3), .val (.ref b37), .unset, .unset] []))) (fun _ k => XS.icmpNo X43.here hx rfl (hb hby at_122) rfl (flt (by decide)).1 k) ?_
        refine own_st (B := (T43.setTop (mkF m 127 #[.val (.int p0), .val (.int p1), .val (.int p2), .val (.int p3), .val (.int p4), .val (.int (4 : Int32)), .val (.int x0), .val (.int x1), .val (.int x2), .val (.int x3), .val (.ref b37), .unset, .unset] [(.int x2)]))) (fun _ k => XS.iload X43.here hx rfl (hb hby at_125) rfl k) ?_
        by_cases ok2 : own_ok x2
        · obtain ⟨v44, T44, L44, X44, Q44, st44⟩ := own_callS (W := 0) X43 hx hZ (y := (⟨"com/example/patient_surfer/patientsurfer/read/LinksReaderIsLabelPinLaw", "ok", "(B)Z"⟩ : MethodName)) hown (hw _ (List.mem_of_getElem? (i := 10) rfl)) (hw _ (List.mem_of_getElem? (i := 11) rfl)) (hw _ (List.mem_of_getElem? (i := 3) rfl)) (hw _ (List.mem_of_getElem? (i := 12) rfl)) (by decide) q43 (rm_ok l Z a0 hw [] x2 1 h41 (Or.inl ⟨rfl, ok2⟩)) (g := (mkF m 127 #[.val (.int p0), .val (.int p1), .val (.int p2), .val (.int p3), .val (.int p4), .val (.int (4 : Int32)), .val (.int x0), .val (.int x1), .val (.int x2), .val (.int x3), .val (.ref b37), .unset, .unset] [(.int x2)])) rfl (by rw [hml]; rfl) (argsL := [(.int x2)]) (rest := []) (lenOf pd_0 rfl) rfl rfl (by show 2 * 0 + _ ≤ _; exact Nat.le_of_eq rfl) (hb hby at_127) (by decide) (by decide) (by decide) (by decide)
          obtain ⟨rfl, rfl, q44⟩ := Q44
          refine own_st (B := (T44.setTop (mkF m 130 #[.val (.int p0), .val (.int p1), .val (.int p2), .val (.int p3), .val (.int p4), .val (.int (4 : Int32)), .val (.int x0), .val (.int x1), .val (.int x2), .val (.int x3), .val (.ref b37), .unset, .unset] [(.int (1 : Int32))]))) st44 ?_
          refine own_st (B := (T44.setTop (mkF m 133 #[.val (.int p0), .val (.int p1), .val (.int p2), .val (.int p3), .val (.int p4), .val (.int (4 : Int32)), .val (.int x0), .val (.int x1), .val (.int x2), .val (.int x3), .val (.ref b37), .unset, .unset] []))) (fun _ k => XS.ifNo X44.here hx rfl (hb hby at_130) rfl ((if0 _ _).trans (feq (by decide)).1) k) ?_
          refine own_st (B := (T44.setTop (mkF m 135 #[.val (.int p0), .val (.int p1), .val (.int p2), .val (.int p3), .val (.int p4), .val (.int (4 : Int32)), .val (.int x0), .val (.int x1), .val (.int x2), .val (.int x3), .val (.ref b37), .unset, .unset] [(.int (4 : Int32))]))) (fun _ k => XS.iload X44.here hx rfl (hb hby at_133) rfl k) ?_
          refine own_st (B := (T44.setTop (mkF m 136 #[.val (.int p0), .val (.int p1), .val (.int p2), .val (.int p3), .val (.int p4), .val (.int (4 : Int32)), .val (.int x0), .val (.int x1), .val (.int x2), .val (.int x3), .val (.ref b37), .unset, .unset] [(.int (4 : Int32)), (.int (4 : Int32))]))) (fun _ k => XS.iconst X44.here hx rfl (hb hby at_135) k) ?_
          refine own_st (B := (T44.setTop (mkF m 139 #[.val (.int p0), .val (.int p1), .val (.int p2), .val (.int p3), .val (.int p4), .val (.int (4 : Int32)), .val (.int x0), .val (.int x1), .val (.int x2), .val (.int x3), .val (.ref b37), .unset, .unset] []))) (fun _ k => XS.icmpNo X44.here hx rfl (hb hby at_136) rfl (flt (by decide)).1 k) ?_
          refine own_st (B := (T44.setTop (mkF m 141 #[.val (.int p0), .val (.int p1), .val (.int p2), .val (.int p3), .val (.int p4), .val (.int (4 : Int32)), .val (.int x0), .val (.int x1), .val (.int x2), .val (.int x3), .val (.ref b37), .unset, .unset] [(.int x3)]))) (fun _ k => XS.iload X44.here hx rfl (hb hby at_139) rfl k) ?_
          by_cases ok3 : own_ok x3
          · obtain ⟨v45, T45, L45, X45, Q45, st45⟩ := own_callS (W := 0) X44 hx hZ (y := (⟨"com/example/patient_surfer/patientsurfer/read/LinksReaderIsLabelPinLaw", "ok", "(B)Z"⟩ : MethodName)) hown (hw _ (List.mem_of_getElem? (i := 10) rfl)) (hw _ (List.mem_of_getElem? (i := 11) rfl)) (hw _ (List.mem_of_getElem? (i := 3) rfl)) (hw _ (List.mem_of_getElem? (i := 12) rfl)) (by decide) q44 (rm_ok l Z a0 hw [] x3 1 h41 (Or.inl ⟨rfl, ok3⟩)) (g := (mkF m 141 #[.val (.int p0), .val (.int p1), .val (.int p2), .val (.int p3), .val (.int p4), .val (.int (4 : Int32)), .val (.int x0), .val (.int x1), .val (.int x2), .val (.int x3), .val (.ref b37), .unset, .unset] [(.int x3)])) rfl (by rw [hml]; rfl) (argsL := [(.int x3)]) (rest := []) (lenOf pd_0 rfl) rfl rfl (by show 2 * 0 + _ ≤ _; exact Nat.le_of_eq rfl) (hb hby at_141) (by decide) (by decide) (by decide) (by decide)
            obtain ⟨rfl, rfl, q45⟩ := Q45
            refine own_st (B := (T45.setTop (mkF m 144 #[.val (.int p0), .val (.int p1), .val (.int p2), .val (.int p3), .val (.int p4), .val (.int (4 : Int32)), .val (.int x0), .val (.int x1), .val (.int x2), .val (.int x3), .val (.ref b37), .unset, .unset] [(.int (1 : Int32))]))) st45 ?_
            have hall : 0 < 4 ∧ ∀ q, q < 4 → own_ok ((fun i => if i = 3 then x3 else if i = 2 then x2 else if i = 1 then x1 else x0) q) := ⟨by decide, fun q hq => by
              have hq' : q = 0 ∨ q = 1 ∨ q = 2 ∨ q = 3 := by omega
              rcases hq' with rfl | rfl | rfl | rfl
              · exact ok0
              · exact ok1
              · exact ok2
              · exact ok3⟩
            refine own_st (B := (T45.setTop (mkF m 147 #[.val (.int p0), .val (.int p1), .val (.int p2), .val (.int p3), .val (.int p4), .val (.int (4 : Int32)), .val (.int x0), .val (.int x1), .val (.int x2), .val (.int x3), .val (.ref b37), .unset, .unset] []))) (fun _ k => XS.ifNo X45.here hx rfl (hb hby at_144) rfl ((if0 _ _).trans (feq (by decide)).1) k) ?_
            refine own_st (B := (T45.setTop (mkF m 148 #[.val (.int p0), .val (.int p1), .val (.int p2), .val (.int p3), .val (.int p4), .val (.int (4 : Int32)), .val (.int x0), .val (.int x1), .val (.int x2), .val (.int x3), .val (.ref b37), .unset, .unset] [(.int (1 : Int32))]))) (fun _ k => XS.iconst X45.here hx rfl (hb hby at_147) k) ?_
            refine own_st (B := (T45.setTop (mkF m 152 #[.val (.int p0), .val (.int p1), .val (.int p2), .val (.int p3), .val (.int p4), .val (.int (4 : Int32)), .val (.int x0), .val (.int x1), .val (.int x2), .val (.int x3), .val (.ref b37), .unset, .unset] [(.int (1 : Int32))]))) (fun _ k => XS.goto X45.here hx rfl (pc0 := 148) (pc' := 152) rfl (hb hby at_148) (by decide) (by decide) k) ?_
            refine own_st (B := (T45.setTop (mkF m 154 #[.val (.int p0), .val (.int p1), .val (.int p2), .val (.int p3), .val (.int p4), .val (.int (4 : Int32)), .val (.int x0), .val (.int x1), .val (.int x2), .val (.int x3), .val (.ref b37), .val (.int (1 : Int32)), .unset] []))) (fun _ k => XS.istore X45.here hx rfl (hb hby at_152) rfl (l' := #[.val (.int p0), .val (.int p1), .val (.int p2), .val (.int p3), .val (.int p4), .val (.int (4 : Int32)), .val (.int x0), .val (.int x1), .val (.int x2), .val (.int x3), .val (.ref b37), .val (.int (1 : Int32)), .unset]) rfl k) ?_
            refine own_st (B := (T45.setTop (mkF m 156 #[.val (.int p0), .val (.int p1), .val (.int p2), .val (.int p3), .val (.int p4), .val (.int (4 : Int32)), .val (.int x0), .val (.int x1), .val (.int x2), .val (.int x3), .val (.ref b37), .val (.int (1 : Int32)), .unset] [(.ref b37)]))) (fun _ k => XS.aload X45.here hx rfl (hb hby at_154) rfl rfl k) ?_
            obtain ⟨v46, T46, L46, X46, Q46, st46⟩ := own_callS (W := 0) X45 hx hZ (y := (⟨"com/example/patient_surfer/patientsurfer/read/LinksReader", "isLabel", "([B)Z"⟩ : MethodName)) hown (hw _ (List.mem_of_getElem? (i := 6) rfl)) (hw _ (List.mem_of_getElem? (i := 7) rfl)) (hw _ (List.mem_of_getElem? (i := 8) rfl)) (hw _ (List.mem_of_getElem? (i := 9) rfl)) (by decide) q45 (rm_isl l Z a0 hw [] b37 4 4 (fun i => if i = 3 then x3 else if i = 2 then x2 else if i = 1 then x1 else x0) 1 h41 VF (by decide) (by decide) (Or.inl ⟨rfl, hall⟩)) (g := (mkF m 156 #[.val (.int p0), .val (.int p1), .val (.int p2), .val (.int p3), .val (.int p4), .val (.int (4 : Int32)), .val (.int x0), .val (.int x1), .val (.int x2), .val (.int x3), .val (.ref b37), .val (.int (1 : Int32)), .unset] [(.ref b37)])) rfl (by rw [hml]; rfl) (argsL := [(.ref b37)]) (rest := []) (lenOf pd_2 rfl) rfl rfl (by show 2 * 0 + _ ≤ _; exact Nat.le_of_eq rfl) (hb hby at_156) (by decide) (by decide) (by decide) (by decide)
            obtain ⟨rfl, rfl, q46⟩ := Q46
            refine own_st (B := (T46.setTop (mkF m 159 #[.val (.int p0), .val (.int p1), .val (.int p2), .val (.int p3), .val (.int p4), .val (.int (4 : Int32)), .val (.int x0), .val (.int x1), .val (.int x2), .val (.int x3), .val (.ref b37), .val (.int (1 : Int32)), .unset] [(.int (1 : Int32))]))) st46 ?_
            refine own_st (B := (T46.setTop (mkF m 161 #[.val (.int p0), .val (.int p1), .val (.int p2), .val (.int p3), .val (.int p4), .val (.int (4 : Int32)), .val (.int x0), .val (.int x1), .val (.int x2), .val (.int x3), .val (.ref b37), .val (.int (1 : Int32)), .val (.int (1 : Int32))] []))) (fun _ k => XS.istore X46.here hx rfl (hb hby at_159) rfl (l' := #[.val (.int p0), .val (.int p1), .val (.int p2), .val (.int p3), .val (.int p4), .val (.int (4 : Int32)), .val (.int x0), .val (.int x1), .val (.int x2), .val (.int x3), .val (.ref b37), .val (.int (1 : Int32)), .val (.int (1 : Int32))]) rfl k) ?_
            refine own_st (B := (T46.setTop (mkF m 163 #[.val (.int p0), .val (.int p1), .val (.int p2), .val (.int p3), .val (.int p4), .val (.int (4 : Int32)), .val (.int x0), .val (.int x1), .val (.int x2), .val (.int x3), .val (.ref b37), .val (.int (1 : Int32)), .val (.int (1 : Int32))] [(.int (1 : Int32))]))) (fun _ k => XS.iload X46.here hx rfl (hb hby at_161) rfl k) ?_
            refine own_st (B := (T46.setTop (mkF m 165 #[.val (.int p0), .val (.int p1), .val (.int p2), .val (.int p3), .val (.int p4), .val (.int (4 : Int32)), .val (.int x0), .val (.int x1), .val (.int x2), .val (.int x3), .val (.ref b37), .val (.int (1 : Int32)), .val (.int (1 : Int32))] [(.int (1 : Int32)), (.int (1 : Int32))]))) (fun _ k => XS.iload X46.here hx rfl (hb hby at_163) rfl k) ?_
            refine own_st (B := (T46.setTop (mkF m 168 #[.val (.int p0), .val (.int p1), .val (.int p2), .val (.int p3), .val (.int p4), .val (.int (4 : Int32)), .val (.int x0), .val (.int x1), .val (.int x2), .val (.int x3), .val (.ref b37), .val (.int (1 : Int32)), .val (.int (1 : Int32))] []))) (fun _ k => XS.icmpNo X46.here hx rfl (hb hby at_165) rfl (teq (by decide)).2 k) ?_
            refine own_st (B := (T46.setTop (mkF m 169 #[.val (.int p0), .val (.int p1), .val (.int p2), .val (.int p3), .val (.int p4), .val (.int (4 : Int32)), .val (.int x0), .val (.int x1), .val (.int x2), .val (.int x3), .val (.ref b37), .val (.int (1 : Int32)), .val (.int (1 : Int32))] [(.int (1 : Int32))]))) (fun _ k => XS.iconst X46.here hx rfl (hb hby at_168) k) ?_
            refine own_st (B := (T46.setTop (mkF m 173 #[.val (.int p0), .val (.int p1), .val (.int p2), .val (.int p3), .val (.int p4), .val (.int (4 : Int32)), .val (.int x0), .val (.int x1), .val (.int x2), .val (.int x3), .val (.ref b37), .val (.int (1 : Int32)), .val (.int (1 : Int32))] [(.int (1 : Int32))]))) (fun _ k => XS.goto X46.here hx rfl (pc0 := 169) (pc' := 173) rfl (hb hby at_169) (by decide) (by decide) k) ?_
            have NZ : Fr n0 [(⟨b37, 0⟩ : Loc), (⟨b37, 1⟩ : Loc), (⟨b37, 2⟩ : Loc), (⟨b37, 3⟩ : Loc)] := by
              intro y hy
              simp only [List.mem_cons, List.not_mem_nil, or_false] at hy
              rcases hy with rfl | rfl | rfl | rfl <;> exact g_b37
            exact own_retN X46 hx hlk (t := .boolean) hret (by simp) (hb hby at_173) (by show own_Q0 n0 _ T46.heap _; rw [q46]; exact ⟨rfl, by simpa using NZ⟩) (by decide) (by decide)
          · obtain ⟨v47, T47, L47, X47, Q47, st47⟩ := own_callS (W := 0) X44 hx hZ (y := (⟨"com/example/patient_surfer/patientsurfer/read/LinksReaderIsLabelPinLaw", "ok", "(B)Z"⟩ : MethodName)) hown (hw _ (List.mem_of_getElem? (i := 10) rfl)) (hw _ (List.mem_of_getElem? (i := 11) rfl)) (hw _ (List.mem_of_getElem? (i := 3) rfl)) (hw _ (List.mem_of_getElem? (i := 12) rfl)) (by decide) q44 (rm_ok l Z a0 hw [] x3 0 h41 (Or.inr ⟨rfl, ok3⟩)) (g := (mkF m 141 #[.val (.int p0), .val (.int p1), .val (.int p2), .val (.int p3), .val (.int p4), .val (.int (4 : Int32)), .val (.int x0), .val (.int x1), .val (.int x2), .val (.int x3), .val (.ref b37), .unset, .unset] [(.int x3)])) rfl (by rw [hml]; rfl) (argsL := [(.int x3)]) (rest := []) (lenOf pd_0 rfl) rfl rfl (by show 2 * 0 + _ ≤ _; exact Nat.le_of_eq rfl) (hb hby at_141) (by decide) (by decide) (by decide) (by decide)
            obtain ⟨rfl, rfl, q47⟩ := Q47
            refine own_st (B := (T47.setTop (mkF m 144 #[.val (.int p0), .val (.int p1), .val (.int p2), .val (.int p3), .val (.int p4), .val (.int (4 : Int32)), .val (.int x0), .val (.int x1), .val (.int x2), .val (.int x3), .val (.ref b37), .unset, .unset] [(.int (0 : Int32))]))) st47 ?_
            refine own_st (B := (T47.setTop (mkF m 151 #[.val (.int p0), .val (.int p1), .val (.int p2), .val (.int p3), .val (.int p4), .val (.int (4 : Int32)), .val (.int x0), .val (.int x1), .val (.int x2), .val (.int x3), .val (.ref b37), .unset, .unset] []))) (fun _ k => XS.ifYes X47.here hx rfl (pc0 := 144) (pc' := 151) rfl (hb hby at_144) rfl ((if0 _ _).trans (teq (by decide)).1) (by decide) (by decide) k) ?_
            refine own_st (B := (T47.setTop (mkF m 152 #[.val (.int p0), .val (.int p1), .val (.int p2), .val (.int p3), .val (.int p4), .val (.int (4 : Int32)), .val (.int x0), .val (.int x1), .val (.int x2), .val (.int x3), .val (.ref b37), .unset, .unset] [(.int (0 : Int32))]))) (fun _ k => XS.iconst X47.here hx rfl (hb hby at_151) k) ?_
            refine own_st (B := (T47.setTop (mkF m 154 #[.val (.int p0), .val (.int p1), .val (.int p2), .val (.int p3), .val (.int p4), .val (.int (4 : Int32)), .val (.int x0), .val (.int x1), .val (.int x2), .val (.int x3), .val (.ref b37), .val (.int (0 : Int32)), .unset] []))) (fun _ k => XS.istore X47.here hx rfl (hb hby at_152) rfl (l' := #[.val (.int p0), .val (.int p1), .val (.int p2), .val (.int p3), .val (.int p4), .val (.int (4 : Int32)), .val (.int x0), .val (.int x1), .val (.int x2), .val (.int x3), .val (.ref b37), .val (.int (0 : Int32)), .unset]) rfl k) ?_
            refine own_st (B := (T47.setTop (mkF m 156 #[.val (.int p0), .val (.int p1), .val (.int p2), .val (.int p3), .val (.int p4), .val (.int (4 : Int32)), .val (.int x0), .val (.int x1), .val (.int x2), .val (.int x3), .val (.ref b37), .val (.int (0 : Int32)), .unset] [(.ref b37)]))) (fun _ k => XS.aload X47.here hx rfl (hb hby at_154) rfl rfl k) ?_
            obtain ⟨v48, T48, L48, X48, Q48, st48⟩ := own_callS (W := 0) X47 hx hZ (y := (⟨"com/example/patient_surfer/patientsurfer/read/LinksReader", "isLabel", "([B)Z"⟩ : MethodName)) hown (hw _ (List.mem_of_getElem? (i := 6) rfl)) (hw _ (List.mem_of_getElem? (i := 7) rfl)) (hw _ (List.mem_of_getElem? (i := 8) rfl)) (hw _ (List.mem_of_getElem? (i := 9) rfl)) (by decide) q47 (rm_isl l Z a0 hw [] b37 4 4 (fun i => if i = 3 then x3 else if i = 2 then x2 else if i = 1 then x1 else x0) 0 h41 VF (by decide) (by decide) (Or.inr ⟨rfl, fun q => ok3 (q.2 3 (by decide))⟩)) (g := (mkF m 156 #[.val (.int p0), .val (.int p1), .val (.int p2), .val (.int p3), .val (.int p4), .val (.int (4 : Int32)), .val (.int x0), .val (.int x1), .val (.int x2), .val (.int x3), .val (.ref b37), .val (.int (0 : Int32)), .unset] [(.ref b37)])) rfl (by rw [hml]; rfl) (argsL := [(.ref b37)]) (rest := []) (lenOf pd_2 rfl) rfl rfl (by show 2 * 0 + _ ≤ _; exact Nat.le_of_eq rfl) (hb hby at_156) (by decide) (by decide) (by decide) (by decide)
            obtain ⟨rfl, rfl, q48⟩ := Q48
            refine own_st (B := (T48.setTop (mkF m 159 #[.val (.int p0), .val (.int p1), .val (.int p2), .val (.int p3), .val (.int p4), .val (.int (4 : Int32)), .val (.int x0), .val (.int x1), .val (.int x2), .val (.int x3), .val (.ref b37), .val (.int (0 : Int32)), .unset] [(.int (0 : Int32))]))) st48 ?_
            refine own_st (B := (T48.setTop (mkF m 161 #[.val (.int p0), .val (.int p1), .val (.int p2), .val (.int p3), .val (.int p4), .val (.int (4 : Int32)), .val (.int x0), .val (.int x1), .val (.int x2), .val (.int x3), .val (.ref b37), .val (.int (0 : Int32)), .val (.int (0 : Int32))] []))) (fun _ k => XS.istore X48.here hx rfl (hb hby at_159) rfl (l' := #[.val (.int p0), .val (.int p1), .val (.int p2), .val (.int p3), .val (.int p4), .val (.int (4 : Int32)), .val (.int x0), .val (.int x1), .val (.int x2), .val (.int x3), .val (.ref b37), .val (.int (0 : Int32)), .val (.int (0 : Int32))]) rfl k) ?_
            refine own_st (B := (T48.setTop (mkF m 163 #[.val (.int p0), .val (.int p1), .val (.int p2), .val (.int p3), .val (.int p4), .val (.int (4 : Int32)), .val (.int x0), .val (.int x1), .val (.int x2), .val (.int x3), .val (.ref b37), .val (.int (0 : Int32)), .val (.int (0 : Int32))] [(.int (0 : Int32))]))) (fun _ k => XS.iload X48.here hx rfl (hb hby at_161) rfl k) ?_
            refine own_st (B := (T48.setTop (mkF m 165 #[.val (.int p0), .val (.int p1), .val (.int p2), .val (.int p3), .val (.int p4), .val (.int (4 : Int32)), .val (.int x0), .val (.int x1), .val (.int x2), .val (.int x3), .val (.ref b37), .val (.int (0 : Int32)), .val (.int (0 : Int32))] [(.int (0 : Int32)), (.int (0 : Int32))]))) (fun _ k => XS.iload X48.here hx rfl (hb hby at_163) rfl k) ?_
            refine own_st (B := (T48.setTop (mkF m 168 #[.val (.int p0), .val (.int p1), .val (.int p2), .val (.int p3), .val (.int p4), .val (.int (4 : Int32)), .val (.int x0), .val (.int x1), .val (.int x2), .val (.int x3), .val (.ref b37), .val (.int (0 : Int32)), .val (.int (0 : Int32))] []))) (fun _ k => XS.icmpNo X48.here hx rfl (hb hby at_165) rfl (teq (by decide)).2 k) ?_
            refine own_st (B := (T48.setTop (mkF m 169 #[.val (.int p0), .val (.int p1), .val (.int p2), .val (.int p3), .val (.int p4), .val (.int (4 : Int32)), .val (.int x0), .val (.int x1), .val (.int x2), .val (.int x3), .val (.ref b37), .val (.int (0 : Int32)), .val (.int (0 : Int32))] [(.int (1 : Int32))]))) (fun _ k => XS.iconst X48.here hx rfl (hb hby at_168) k) ?_
            refine own_st (B := (T48.setTop (mkF m 173 #[.val (.int p0), .val (.int p1), .val (.int p2), .val (.int p3), .val (.int p4), .val (.int (4 : Int32)), .val (.int x0), .val (.int x1), .val (.int x2), .val (.int x3), .val (.ref b37), .val (.int (0 : Int32)), .val (.int (0 : Int32))] [(.int (1 : Int32))]))) (fun _ k => XS.goto X48.here hx rfl (pc0 := 169) (pc' := 173) rfl (hb hby at_169) (by decide) (by decide) k) ?_
            have NZ : Fr n0 [(⟨b37, 0⟩ : Loc), (⟨b37, 1⟩ : Loc), (⟨b37, 2⟩ : Loc), (⟨b37, 3⟩ : Loc)] := by
              intro y hy
              simp only [List.mem_cons, List.not_mem_nil, or_false] at hy
              rcases hy with rfl | rfl | rfl | rfl <;> exact g_b37
            exact own_retN X48 hx hlk (t := .boolean) hret (by simp) (hb hby at_173) (by show own_Q0 n0 _ T48.heap _; rw [q48]; exact ⟨rfl, by simpa using NZ⟩) (by decide) (by decide)
        · obtain ⟨v49, T49, L49, X49, Q49, st49⟩ := own_callS (W := 0) X43 hx hZ (y := (⟨"com/example/patient_surfer/patientsurfer/read/LinksReaderIsLabelPinLaw", "ok", "(B)Z"⟩ : MethodName)) hown (hw _ (List.mem_of_getElem? (i := 10) rfl)) (hw _ (List.mem_of_getElem? (i := 11) rfl)) (hw _ (List.mem_of_getElem? (i := 3) rfl)) (hw _ (List.mem_of_getElem? (i := 12) rfl)) (by decide) q43 (rm_ok l Z a0 hw [] x2 0 h41 (Or.inr ⟨rfl, ok2⟩)) (g := (mkF m 127 #[.val (.int p0), .val (.int p1), .val (.int p2), .val (.int p3), .val (.int p4), .val (.int (4 : Int32)), .val (.int x0), .val (.int x1), .val (.int x2), .val (.int x3), .val (.ref b37), .unset, .unset] [(.int x2)])) rfl (by rw [hml]; rfl) (argsL := [(.int x2)]) (rest := []) (lenOf pd_0 rfl) rfl rfl (by show 2 * 0 + _ ≤ _; exact Nat.le_of_eq rfl) (hb hby at_127) (by decide) (by decide) (by decide) (by decide)
          obtain ⟨rfl, rfl, q49⟩ := Q49
          refine own_st (B := (T49.setTop (mkF m 130 #[.val (.int p0), .val (.int p1), .val (.int p2), .val (.int p3), .val (.int p4), .val (.int (4 : Int32)), .val (.int x0), .val (.int x1), .val (.int x2), .val (.int x3), .val (.ref b37), .unset, .unset] [(.int (0 : Int32))]))) st49 ?_
          refine own_st (B := (T49.setTop (mkF m 151 #[.val (.int p0), .val (.int p1), .val (.int p2), .val (.int p3), .val (.int p4), .val (.int (4 : Int32)), .val (.int x0), .val (.int x1), .val (.int x2), .val (.int x3), .val (.ref b37), .unset, .unset] []))) (fun _ k => XS.ifYes X49.here hx rfl (pc0 := 130) (pc' := 151) rfl (hb hby at_130) rfl ((if0 _ _).trans (teq (by decide)).1) (by decide) (by decide) k) ?_
          refine own_st (B := (T49.setTop (mkF m 152 #[.val (.int p0), .val (.int p1), .val (.int p2), .val (.int p3), .val (.int p4), .val (.int (4 : Int32)), .val (.int x0), .val (.int x1), .val (.int x2), .val (.int x3), .val (.ref b37), .unset, .unset] [(.int (0 : Int32))]))) (fun _ k => XS.iconst X49.here hx rfl (hb hby at_151) k) ?_
          refine own_st (B := (T49.setTop (mkF m 154 #[.val (.int p0), .val (.int p1), .val (.int p2), .val (.int p3), .val (.int p4), .val (.int (4 : Int32)), .val (.int x0), .val (.int x1), .val (.int x2), .val (.int x3), .val (.ref b37), .val (.int (0 : Int32)), .unset] []))) (fun _ k => XS.istore X49.here hx rfl (hb hby at_152) rfl (l' := #[.val (.int p0), .val (.int p1), .val (.int p2), .val (.int p3), .val (.int p4), .val (.int (4 : Int32)), .val (.int x0), .val (.int x1), .val (.int x2), .val (.int x3), .val (.ref b37), .val (.int (0 : Int32)), .unset]) rfl k) ?_
          refine own_st (B := (T49.setTop (mkF m 156 #[.val (.int p0), .val (.int p1), .val (.int p2), .val (.int p3), .val (.int p4), .val (.int (4 : Int32)), .val (.int x0), .val (.int x1), .val (.int x2), .val (.int x3), .val (.ref b37), .val (.int (0 : Int32)), .unset] [(.ref b37)]))) (fun _ k => XS.aload X49.here hx rfl (hb hby at_154) rfl rfl k) ?_
          obtain ⟨v50, T50, L50, X50, Q50, st50⟩ := own_callS (W := 0) X49 hx hZ (y := (⟨"com/example/patient_surfer/patientsurfer/read/LinksReader", "isLabel", "([B)Z"⟩ : MethodName)) hown (hw _ (List.mem_of_getElem? (i := 6) rfl)) (hw _ (List.mem_of_getElem? (i := 7) rfl)) (hw _ (List.mem_of_getElem? (i := 8) rfl)) (hw _ (List.mem_of_getElem? (i := 9) rfl)) (by decide) q49 (rm_isl l Z a0 hw [] b37 4 4 (fun i => if i = 3 then x3 else if i = 2 then x2 else if i = 1 then x1 else x0) 0 h41 VF (by decide) (by decide) (Or.inr ⟨rfl, fun q => ok2 (q.2 2 (by decide))⟩)) (g := (mkF m 156 #[.val (.int p0), .val (.int p1), .val (.int p2), .val (.int p3), .val (.int p4), .val (.int (4 : Int32)), .val (.int x0), .val (.int x1), .val (.int x2), .val (.int x3), .val (.ref b37), .val (.int (0 : Int32)), .unset] [(.ref b37)])) rfl (by rw [hml]; rfl) (argsL := [(.ref b37)]) (rest := []) (lenOf pd_2 rfl) rfl rfl (by show 2 * 0 + _ ≤ _; exact Nat.le_of_eq rfl) (hb hby at_156) (by decide) (by decide) (by decide) (by decide)
          obtain ⟨rfl, rfl, q50⟩ := Q50
          refine own_st (B := (T50.setTop (mkF m 159 #[.val (.int p0), .val (.int p1), .val (.int p2), .val (.int p3), .val (.int p4), .val (.int (4 : Int32)), .val (.int x0), .val (.int x1), .val (.int x2), .val (.int x3), .val (.ref b37), .val (.int (0 : Int32)), .unset] [(.int (0 : Int32))]))) st50 ?_
          refine own_st (B := (T50.setTop (mkF m 161 #[.val (.int p0), .val (.int p1), .val (.int p2), .val (.int p3), .val (.int p4), .val (.int (4 : Int32)), .val (.int x0), .val (.int x1), .val (.int x2), .val (.int x3), .val (.ref b37), .val (.int (0 : Int32)), .val (.int (0 : Int32))] []))) (fun _ k => XS.istore X50.here hx rfl (hb hby at_159) rfl (l' := #[.val (.int p0), .val (.int p1), .val (.int p2), .val (.int p3), .val (.int p4), .val (.int (4 : Int32)), .val (.int x0), .val (.int x1), .val (.int x2), .val (.int x3), .val (.ref b37), .val (.int (0 : Int32)), .val (.int (0 : Int32))]) rfl k) ?_
          refine own_st (B := (T50.setTop (mkF m 163 #[.val (.int p0), .val (.int p1), .val (.int p2), .val (.int p3), .val (.int p4), .val (.int (4 : Int32)), .val (.int x0), .val (.int x1), .val (.int x2), .val (.int x3), .val (.ref b37), .val (.int (0 : Int32)), .val (.int (0 : Int32))] [(.int (0 : Int32))]))) (fun _ k => XS.iload X50.here hx rfl (hb hby at_161) rfl k) ?_
          refine own_st (B := (T50.setTop (mkF m 165 #[.val (.int p0), .val (.int p1), .val (.int p2), .val (.int p3), .val (.int p4), .val (.int (4 : Int32)), .val (.int x0), .val (.int x1), .val (.int x2), .val (.int x3), .val (.ref b37), .val (.int (0 : Int32)), .val (.int (0 : Int32))] [(.int (0 : Int32)), (.int (0 : Int32))]))) (fun _ k => XS.iload X50.here hx rfl (hb hby at_163) rfl k) ?_
          refine own_st (B := (T50.setTop (mkF m 168 #[.val (.int p0), .val (.int p1), .val (.int p2), .val (.int p3), .val (.int p4), .val (.int (4 : Int32)), .val (.int x0), .val (.int x1), .val (.int x2), .val (.int x3), .val (.ref b37), .val (.int (0 : Int32)), .val (.int (0 : Int32))] []))) (fun _ k => XS.icmpNo X50.here hx rfl (hb hby at_165) rfl (teq (by decide)).2 k) ?_
          refine own_st (B := (T50.setTop (mkF m 169 #[.val (.int p0), .val (.int p1), .val (.int p2), .val (.int p3), .val (.int p4), .val (.int (4 : Int32)), .val (.int x0), .val (.int x1), .val (.int x2), .val (.int x3), .val (.ref b37), .val (.int (0 : Int32)), .val (.int (0 : Int32))] [(.int (1 : Int32))]))) (fun _ k => XS.iconst X50.here hx rfl (hb hby at_168) k) ?_
          refine own_st (B := (T50.setTop (mkF m 173 #[.val (.int p0), .val (.int p1), .val (.int p2), .val (.int p3), .val (.int p4), .val (.int (4 : Int32)), .val (.int x0), .val (.int x1), .val (.int x2), .val (.int x3), .val (.ref b37), .val (.int (0 : Int32)), .val (.int (0 : Int32))] [(.int (1 : Int32))]))) (fun _ k => XS.goto X50.here hx rfl (pc0 := 169) (pc' := 173) rfl (hb hby at_169) (by decide) (by decide) k) ?_
          have NZ : Fr n0 [(⟨b37, 0⟩ : Loc), (⟨b37, 1⟩ : Loc), (⟨b37, 2⟩ : Loc), (⟨b37, 3⟩ : Loc)] := by
            intro y hy
            simp only [List.mem_cons, List.not_mem_nil, or_false] at hy
            rcases hy with rfl | rfl | rfl | rfl <;> exact g_b37
          exact own_retN X50 hx hlk (t := .boolean) hret (by simp) (hb hby at_173) (by show own_Q0 n0 _ T50.heap _; rw [q50]; exact ⟨rfl, by simpa using NZ⟩) (by decide) (by decide)
      · obtain ⟨v51, T51, L51, X51, Q51, st51⟩ := own_callS (W := 0) X42 hx hZ (y := (⟨"com/example/patient_surfer/patientsurfer/read/LinksReaderIsLabelPinLaw", "ok", "(B)Z"⟩ : MethodName)) hown (hw _ (List.mem_of_getElem? (i := 10) rfl)) (hw _ (List.mem_of_getElem? (i := 11) rfl)) (hw _ (List.mem_of_getElem? (i := 3) rfl)) (hw _ (List.mem_of_getElem? (i := 12) rfl)) (by decide) q42 (rm_ok l Z a0 hw [] x1 0 h41 (Or.inr ⟨rfl, ok1⟩)) (g := (mkF m 113 #[.val (.int p0), .val (.int p1), .val (.int p2), .val (.int p3), .val (.int p4), .val (.int (4 : Int32)), .val (.int x0), .val (.int x1), .val (.int x2), .val (.int x3), .val (.ref b37), .unset, .unset] [(.int x1)])) rfl (by rw [hml]; rfl) (argsL := [(.int x1)]) (rest := []) (lenOf pd_0 rfl) rfl rfl (by show 2 * 0 + _ ≤ _; exact Nat.le_of_eq rfl) (hb hby at_113) (by decide) (by decide) (by decide) (by decide)
        obtain ⟨rfl, rfl, q51⟩ := Q51
        refine own_st (B := (T51.setTop (mkF m 116 #[.val (.int p0), .val (.int p1), .val (.int p2), .val (.int p3), .val (.int p4), .val (.int (4 : Int32)), .val (.int x0), .val (.int x1), .val (.int x2), .val (.int x3), .val (.ref b37), .unset, .unset] [(.int (0 : Int32))]))) st51 ?_
        refine own_st (B := (T51.setTop (mkF m 151 #[.val (.int p0), .val (.int p1), .val (.int p2), .val (.int p3), .val (.int p4), .val (.int (4 : Int32)), .val (.int x0), .val (.int x1), .val (.int x2), .val (.int x3), .val (.ref b37), .unset, .unset] []))) (fun _ k => XS.ifYes X51.here hx rfl (pc0 := 116) (pc' := 151) rfl (hb hby at_116) rfl ((if0 _ _).trans (teq (by decide)).1) (by decide) (by decide) k) ?_
        refine own_st (B := (T51.setTop (mkF m 152 #[.val (.int p0), .val (.int p1), .val (.int p2), .val (.int p3), .val (.int p4), .val (.int (4 : Int32)), .val (.int x0), .val (.int x1), .val (.int x2), .val (.int x3), .val (.ref b37), .unset, .unset] [(.int (0 : Int32))]))) (fun _ k => XS.iconst X51.here hx rfl (hb hby at_151) k) ?_
        refine own_st (B := (T51.setTop (mkF m 154 #[.val (.int p0), .val (.int p1), .val (.int p2), .val (.int p3), .val (.int p4), .val (.int (4 : Int32)), .val (.int x0), .val (.int x1), .val (.int x2), .val (.int x3), .val (.ref b37), .val (.int (0 : Int32)), .unset] []))) (fun _ k => XS.istore X51.here hx rfl (hb hby at_152) rfl (l' := #[.val (.int p0), .val (.int p1), .val (.int p2), .val (.int p3), .val (.int p4), .val (.int (4 : Int32)), .val (.int x0), .val (.int x1), .val (.int x2), .val (.int x3), .val (.ref b37), .val (.int (0 : Int32)), .unset]) rfl k) ?_
        refine own_st (B := (T51.setTop (mkF m 156 #[.val (.int p0), .val (.int p1), .val (.int p2), .val (.int p3), .val (.int p4), .val (.int (4 : Int32)), .val (.int x0), .val (.int x1), .val (.int x2), .val (.int x3), .val (.ref b37), .val (.int (0 : Int32)), .unset] [(.ref b37)]))) (fun _ k => XS.aload X51.here hx rfl (hb hby at_154) rfl rfl k) ?_
        obtain ⟨v52, T52, L52, X52, Q52, st52⟩ := own_callS (W := 0) X51 hx hZ (y := (⟨"com/example/patient_surfer/patientsurfer/read/LinksReader", "isLabel", "([B)Z"⟩ : MethodName)) hown (hw _ (List.mem_of_getElem? (i := 6) rfl)) (hw _ (List.mem_of_getElem? (i := 7) rfl)) (hw _ (List.mem_of_getElem? (i := 8) rfl)) (hw _ (List.mem_of_getElem? (i := 9) rfl)) (by decide) q51 (rm_isl l Z a0 hw [] b37 4 4 (fun i => if i = 3 then x3 else if i = 2 then x2 else if i = 1 then x1 else x0) 0 h41 VF (by decide) (by decide) (Or.inr ⟨rfl, fun q => ok1 (q.2 1 (by decide))⟩)) (g := (mkF m 156 #[.val (.int p0), .val (.int p1), .val (.int p2), .val (.int p3), .val (.int p4), .val (.int (4 : Int32)), .val (.int x0), .val (.int x1), .val (.int x2), .val (.int x3), .val (.ref b37), .val (.int (0 : Int32)), .unset] [(.ref b37)])) rfl (by rw [hml]; rfl) (argsL := [(.ref b37)]) (rest := []) (lenOf pd_2 rfl) rfl rfl (by show 2 * 0 + _ ≤ _; exact Nat.le_of_eq rfl) (hb hby at_156) (by decide) (by decide) (by decide) (by decide)
        obtain ⟨rfl, rfl, q52⟩ := Q52
        refine own_st (B := (T52.setTop (mkF m 159 #[.val (.int p0), .val (.int p1), .val (.int p2), .val (.int p3), .val (.int p4), .val (.int (4 : Int32)), .val (.int x0), .val (.int x1), .val (.int x2), .val (.int x3), .val (.ref b37), .val (.int (0 : Int32)), .unset] [(.int (0 : Int32))]))) st52 ?_
        refine own_st (B := (T52.setTop (mkF m 161 #[.val (.int p0), .val (.int p1), .val (.int p2), .val (.int p3), .val (.int p4), .val (.int (4 : Int32)), .val (.int x0), .val (.int x1), .val (.int x2), .val (.int x3), .val (.ref b37), .val (.int (0 : Int32)), .val (.int (0 : Int32))] []))) (fun _ k => XS.istore X52.here hx rfl (hb hby at_159) rfl (l' := #[.val (.int p0), .val (.int p1), .val (.int p2), .val (.int p3), .val (.int p4), .val (.int (4 : Int32)), .val (.int x0), .val (.int x1), .val (.int x2), .val (.int x3), .val (.ref b37), .val (.int (0 : Int32)), .val (.int (0 : Int32))]) rfl k) ?_
        refine own_st (B := (T52.setTop (mkF m 163 #[.val (.int p0), .val (.int p1), .val (.int p2), .val (.int p3), .val (.int p4), .val (.int (4 : Int32)), .val (.int x0), .val (.int x1), .val (.int x2), .val (.int x3), .val (.ref b37), .val (.int (0 : Int32)), .val (.int (0 : Int32))] [(.int (0 : Int32))]))) (fun _ k => XS.iload X52.here hx rfl (hb hby at_161) rfl k) ?_
        refine own_st (B := (T52.setTop (mkF m 165 #[.val (.int p0), .val (.int p1), .val (.int p2), .val (.int p3), .val (.int p4), .val (.int (4 : Int32)), .val (.int x0), .val (.int x1), .val (.int x2), .val (.int x3), .val (.ref b37), .val (.int (0 : Int32)), .val (.int (0 : Int32))] [(.int (0 : Int32)), (.int (0 : Int32))]))) (fun _ k => XS.iload X52.here hx rfl (hb hby at_163) rfl k) ?_
        refine own_st (B := (T52.setTop (mkF m 168 #[.val (.int p0), .val (.int p1), .val (.int p2), .val (.int p3), .val (.int p4), .val (.int (4 : Int32)), .val (.int x0), .val (.int x1), .val (.int x2), .val (.int x3), .val (.ref b37), .val (.int (0 : Int32)), .val (.int (0 : Int32))] []))) (fun _ k => XS.icmpNo X52.here hx rfl (hb hby at_165) rfl (teq (by decide)).2 k) ?_
        refine own_st (B := (T52.setTop (mkF m 169 #[.val (.int p0), .val (.int p1), .val (.int p2), .val (.int p3), .val (.int p4), .val (.int (4 : Int32)), .val (.int x0), .val (.int x1), .val (.int x2), .val (.int x3), .val (.ref b37), .val (.int (0 : Int32)), .val (.int (0 : Int32))] [(.int (1 : Int32))]))) (fun _ k => XS.iconst X52.here hx rfl (hb hby at_168) k) ?_
        refine own_st (B := (T52.setTop (mkF m 173 #[.val (.int p0), .val (.int p1), .val (.int p2), .val (.int p3), .val (.int p4), .val (.int (4 : Int32)), .val (.int x0), .val (.int x1), .val (.int x2), .val (.int x3), .val (.ref b37), .val (.int (0 : Int32)), .val (.int (0 : Int32))] [(.int (1 : Int32))]))) (fun _ k => XS.goto X52.here hx rfl (pc0 := 169) (pc' := 173) rfl (hb hby at_169) (by decide) (by decide) k) ?_
        have NZ : Fr n0 [(⟨b37, 0⟩ : Loc), (⟨b37, 1⟩ : Loc), (⟨b37, 2⟩ : Loc), (⟨b37, 3⟩ : Loc)] := by
          intro y hy
          simp only [List.mem_cons, List.not_mem_nil, or_false] at hy
          rcases hy with rfl | rfl | rfl | rfl <;> exact g_b37
        exact own_retN X52 hx hlk (t := .boolean) hret (by simp) (hb hby at_173) (by show own_Q0 n0 _ T52.heap _; rw [q52]; exact ⟨rfl, by simpa using NZ⟩) (by decide) (by decide)
    · obtain ⟨v53, T53, L53, X53, Q53, st53⟩ := own_callS (W := 0) X41 hx hZ (y := (⟨"com/example/patient_surfer/patientsurfer/read/LinksReaderIsLabelPinLaw", "ok", "(B)Z"⟩ : MethodName)) hown (hw _ (List.mem_of_getElem? (i := 10) rfl)) (hw _ (List.mem_of_getElem? (i := 11) rfl)) (hw _ (List.mem_of_getElem? (i := 3) rfl)) (hw _ (List.mem_of_getElem? (i := 12) rfl)) (by decide) e41 (rm_ok l Z a0 hw [] x0 0 h41 (Or.inr ⟨rfl, ok0⟩)) (g := (mkF m 99 #[.val (.int p0), .val (.int p1), .val (.int p2), .val (.int p3), .val (.int p4), .val (.int (4 : Int32)), .val (.int x0), .val (.int x1), .val (.int x2), .val (.int x3), .val (.ref b37), .unset, .unset] [(.int x0)])) rfl (by rw [hml]; rfl) (argsL := [(.int x0)]) (rest := []) (lenOf pd_0 rfl) rfl rfl (by show 2 * 0 + _ ≤ _; exact Nat.le_of_eq rfl) (hb hby at_99) (by decide) (by decide) (by decide) (by decide)
      obtain ⟨rfl, rfl, q53⟩ := Q53
      refine own_st (B := (T53.setTop (mkF m 102 #[.val (.int p0), .val (.int p1), .val (.int p2), .val (.int p3), .val (.int p4), .val (.int (4 : Int32)), .val (.int x0), .val (.int x1), .val (.int x2), .val (.int x3), .val (.ref b37), .unset, .unset] [(.int (0 : Int32))]))) st53 ?_
      refine own_st (B := (T53.setTop (mkF m 151 #[.val (.int p0), .val (.int p1), .val (.int p2), .val (.int p3), .val (.int p4), .val (.int (4 : Int32)), .val (.int x0), .val (.int x1), .val (.int x2), .val (.int x3), .val (.ref b37), .unset, .unset] []))) (fun _ k => XS.ifYes X53.here hx rfl (pc0 := 102) (pc' := 151) rfl (hb hby at_102) rfl ((if0 _ _).trans (teq (by decide)).1) (by decide) (by decide) k) ?_
      refine own_st (B := (T53.setTop (mkF m 152 #[.val (.int p0), .val (.int p1), .val (.int p2), .val (.int p3), .val (.int p4), .val (.int (4 : Int32)), .val (.int x0), .val (.int x1), .val (.int x2), .val (.int x3), .val (.ref b37), .unset, .unset] [(.int (0 : Int32))]))) (fun _ k => XS.iconst X53.here hx rfl (hb hby at_151) k) ?_
      refine own_st (B := (T53.setTop (mkF m 154 #[.val (.int p0), .val (.int p1), .val (.int p2), .val (.int p3), .val (.int p4), .val (.int (4 : Int32)), .val (.int x0), .val (.int x1), .val (.int x2), .val (.int x3), .val (.ref b37), .val (.int (0 : Int32)), .unset] []))) (fun _ k => XS.istore X53.here hx rfl (hb hby at_152) rfl (l' := #[.val (.int p0), .val (.int p1), .val (.int p2), .val (.int p3), .val (.int p4), .val (.int (4 : Int32)), .val (.int x0), .val (.int x1), .val (.int x2), .val (.int x3), .val (.ref b37), .val (.int (0 : Int32)), .unset]) rfl k) ?_
      refine own_st (B := (T53.setTop (mkF m 156 #[.val (.int p0), .val (.int p1), .val (.int p2), .val (.int p3), .val (.int p4), .val (.int (4 : Int32)), .val (.int x0), .val (.int x1), .val (.int x2), .val (.int x3), .val (.ref b37), .val (.int (0 : Int32)), .unset] [(.ref b37)]))) (fun _ k => XS.aload X53.here hx rfl (hb hby at_154) rfl rfl k) ?_
      obtain ⟨v54, T54, L54, X54, Q54, st54⟩ := own_callS (W := 0) X53 hx hZ (y := (⟨"com/example/patient_surfer/patientsurfer/read/LinksReader", "isLabel", "([B)Z"⟩ : MethodName)) hown (hw _ (List.mem_of_getElem? (i := 6) rfl)) (hw _ (List.mem_of_getElem? (i := 7) rfl)) (hw _ (List.mem_of_getElem? (i := 8) rfl)) (hw _ (List.mem_of_getElem? (i := 9) rfl)) (by decide) q53 (rm_isl l Z a0 hw [] b37 4 4 (fun i => if i = 3 then x3 else if i = 2 then x2 else if i = 1 then x1 else x0) 0 h41 VF (by decide) (by decide) (Or.inr ⟨rfl, fun q => ok0 (q.2 0 (by decide))⟩)) (g := (mkF m 156 #[.val (.int p0), .val (.int p1), .val (.int p2), .val (.int p3), .val (.int p4), .val (.int (4 : Int32)), .val (.int x0), .val (.int x1), .val (.int x2), .val (.int x3), .val (.ref b37), .val (.int (0 : Int32)), .unset] [(.ref b37)])) rfl (by rw [hml]; rfl) (argsL := [(.ref b37)]) (rest := []) (lenOf pd_2 rfl) rfl rfl (by show 2 * 0 + _ ≤ _; exact Nat.le_of_eq rfl) (hb hby at_156) (by decide) (by decide) (by decide) (by decide)
      obtain ⟨rfl, rfl, q54⟩ := Q54
      refine own_st (B := (T54.setTop (mkF m 159 #[.val (.int p0), .val (.int p1), .val (.int p2), .val (.int p3), .val (.int p4), .val (.int (4 : Int32)), .val (.int x0), .val (.int x1), .val (.int x2), .val (.int x3), .val (.ref b37), .val (.int (0 : Int32)), .unset] [(.int (0 : Int32))]))) st54 ?_
      refine own_st (B := (T54.setTop (mkF m 161 #[.val (.int p0), .val (.int p1), .val (.int p2), .val (.int p3), .val (.int p4), .val (.int (4 : Int32)), .val (.int x0), .val (.int x1), .val (.int x2), .val (.int x3), .val (.ref b37), .val (.int (0 : Int32)), .val (.int (0 : Int32))] []))) (fun _ k => XS.istore X54.here hx rfl (hb hby at_159) rfl (l' := #[.val (.int p0), .val (.int p1), .val (.int p2), .val (.int p3), .val (.int p4), .val (.int (4 : Int32)), .val (.int x0), .val (.int x1), .val (.int x2), .val (.int x3), .val (.ref b37), .val (.int (0 : Int32)), .val (.int (0 : Int32))]) rfl k) ?_
      refine own_st (B := (T54.setTop (mkF m 163 #[.val (.int p0), .val (.int p1), .val (.int p2), .val (.int p3), .val (.int p4), .val (.int (4 : Int32)), .val (.int x0), .val (.int x1), .val (.int x2), .val (.int x3), .val (.ref b37), .val (.int (0 : Int32)), .val (.int (0 : Int32))] [(.int (0 : Int32))]))) (fun _ k => XS.iload X54.here hx rfl (hb hby at_161) rfl k) ?_
      refine own_st (B := (T54.setTop (mkF m 165 #[.val (.int p0), .val (.int p1), .val (.int p2), .val (.int p3), .val (.int p4), .val (.int (4 : Int32)), .val (.int x0), .val (.int x1), .val (.int x2), .val (.int x3), .val (.ref b37), .val (.int (0 : Int32)), .val (.int (0 : Int32))] [(.int (0 : Int32)), (.int (0 : Int32))]))) (fun _ k => XS.iload X54.here hx rfl (hb hby at_163) rfl k) ?_
      refine own_st (B := (T54.setTop (mkF m 168 #[.val (.int p0), .val (.int p1), .val (.int p2), .val (.int p3), .val (.int p4), .val (.int (4 : Int32)), .val (.int x0), .val (.int x1), .val (.int x2), .val (.int x3), .val (.ref b37), .val (.int (0 : Int32)), .val (.int (0 : Int32))] []))) (fun _ k => XS.icmpNo X54.here hx rfl (hb hby at_165) rfl (teq (by decide)).2 k) ?_
      refine own_st (B := (T54.setTop (mkF m 169 #[.val (.int p0), .val (.int p1), .val (.int p2), .val (.int p3), .val (.int p4), .val (.int (4 : Int32)), .val (.int x0), .val (.int x1), .val (.int x2), .val (.int x3), .val (.ref b37), .val (.int (0 : Int32)), .val (.int (0 : Int32))] [(.int (1 : Int32))]))) (fun _ k => XS.iconst X54.here hx rfl (hb hby at_168) k) ?_
      refine own_st (B := (T54.setTop (mkF m 173 #[.val (.int p0), .val (.int p1), .val (.int p2), .val (.int p3), .val (.int p4), .val (.int (4 : Int32)), .val (.int x0), .val (.int x1), .val (.int x2), .val (.int x3), .val (.ref b37), .val (.int (0 : Int32)), .val (.int (0 : Int32))] [(.int (1 : Int32))]))) (fun _ k => XS.goto X54.here hx rfl (pc0 := 169) (pc' := 173) rfl (hb hby at_169) (by decide) (by decide) k) ?_
      have NZ : Fr n0 [(⟨b37, 0⟩ : Loc), (⟨b37, 1⟩ : Loc), (⟨b37, 2⟩ : Loc), (⟨b37, 3⟩ : Loc)] := by
        intro y hy
        simp only [List.mem_cons, List.not_mem_nil, or_false] at hy
        rcases hy with rfl | rfl | rfl | rfl <;> exact g_b37
      exact own_retN X54 hx hlk (t := .boolean) hret (by simp) (hb hby at_173) (by show own_Q0 n0 _ T54.heap _; rw [q54]; exact ⟨rfl, by simpa using NZ⟩) (by decide) (by decide)
set_option maxRecDepth 65536 in
set_option maxHeartbeats 40000000 in
theorem comes_1 {Post : Tables → Env → Array Value → State → Outcome → State → Prop} (hpost : ∀ tb e args s v u, (limb_1_1.after args s (.returned v) u = true ∧ limb_1_2.after args s (.returned v) u = true ∧ True) → FrameEnd s (.returned v) u (Jvm.fieldLocs frame_1_writes args s ++ Jvm.arrayLocs frame_1_arrays args s ++ Jvm.staticLocs frame_1_statics s) 16 128 → Post tb e args s (.returned v) u) :
    ArmFor flags0 classFile x code maxLocals ret World_1 tables_1 room_1 Calls_1 rest_1 Pre_1 Post := by
  intro l hfl _ _ p e ha hc hk s m args below hf hA hF happ hP
  obtain ⟨hcalls, hrest, hpre⟩ := hP
  obtain ⟨-, -, -, hnamed, -, -, -, hat⟩ := (Spec.applies_iff hf).mp happ
  obtain ⟨hg, hn⟩ := and_e (Cond.before_iff.mp (show (Jvm.Cond.and given_1 narrow_1).before args s = true from hpre))
  obtain ⟨g1, g2⟩ := and_e hg
  obtain ⟨g3, g4⟩ := and_e g2
  obtain ⟨g5, g6⟩ := and_e g4
  obtain ⟨g7, g8⟩ := and_e g6
  obtain ⟨g9, g10⟩ := and_e g8
  obtain ⟨w0, w1, w2, w3, w4, rfl⟩ : ∃ w0 w1 w2 w3 w4 : Value, args = #[w0, w1, w2, w3, w4] := by
    have hs : args.size = 5 := by simpa [Cond.value, given_1] using g1
    obtain ⟨L⟩ := args
    match L, hs with
    | [w0, w1, w2, w3, w4], _ => exact ⟨w0, w1, w2, w3, w4, rfl⟩
  have hw := fun d (hd : d ∈ tables_1) => atoms_spec (ws := Jvm.Cond.code x code maxLocals ret :: tables_1) hat d (List.mem_cons_of_mem _ hd)
  have hfit : Fit s := fun {y c} hc i hi => by
    obtain ⟨ha, rfl⟩ := Array.getElem?_eq_some_iff.mp hc
    have q := List.all_eq_true.mp ((Array.all_eq_true_iff_forall_mem.mp hF) _ (Array.getElem_mem ha)) i (List.mem_range.mpr hi)
    simpa [Array.getElem?_eq_getElem hi] using q
  obtain ⟨i0, ei0⟩ := is_v g3
  obtain rfl : w0 = (.int i0) := Option.some.inj ei0
  obtain ⟨i1, ei1⟩ := is_v g5
  obtain rfl : w1 = (.int i1) := Option.some.inj ei1
  obtain ⟨i2, ei2⟩ := is_v g7
  obtain rfl : w2 = (.int i2) := Option.some.inj ei2
  obtain ⟨i3, ei3⟩ := is_v g9
  obtain rfl : w3 = (.int i3) := Option.some.inj ei3
  obtain ⟨i4, ei4⟩ := is_v g10
  obtain rfl : w4 = (.int i4) := Option.some.inj ei4
  obtain ⟨n, o, h1, h2, h3, _, L, rfl, ⟨rfl, N⟩, hq⟩ := rm_law l s _ hw tables_1 i0 i1 i2 i3 i4 s.heap s.heap.size (Nat.le_refl _) p e ha hc hk s m _ below hf ((Spec.applies_iff_loose hf).mp happ).1 ⟨rfl, State.Warmed39.refl s, rfl⟩ trivial
  refine ⟨n, _, h1, h2, h3, hpost _ _ _ _ _ _ ⟨Cond.after_iff.mpr rfl, Cond.after_iff.mpr (eq_i res_at (Term.int_eval (1)) rfl), trivial⟩ ⟨hq.1, hq.2.1, (hq.2.2.sift fun y hy => Or.inr (N y hy)).mono (by decide) (by decide)⟩⟩
theorem main_1_1 : Claimed_1_1 := comes_1 fun _ _ _ _ _ _ h hF => ⟨h.1, hF⟩
theorem main_1_2 : Claimed_1_2 := comes_1 fun _ _ _ _ _ _ h hF => ⟨h.2.1, hF⟩
end Jvm.Pilot.@@N@@
namespace Jvm.Pilot.@@N@@
open Jvm Jvm.ClassFile Sem Op Lib Jvm.Free Jvm.Stand Jvm.Pilot.@@N@@.Jvm.D
/-! MADE BY PROGRAM (witnessworld.py) out of the Statement's table words and the real class files: 10 classes; the members and pool entries that the words name. The judged class is class 1, her method 3. -/
namespace start1
open Jvm.ClassFile
def u (s : String) : CpInfo := .utf8 (stringToUtf16 s)
/-- a pool by its gaps: so many unusable entries, then the entry; so many at the end -/
def gap : Nat → List CpInfo → List CpInfo
  | 0, r => r
  | n + 1, r => .unusable :: gap n r
def poolList (es : List (Nat × CpInfo)) (last : Nat) : List CpInfo := es.foldr (fun e r => gap e.1 (e.2 :: r)) (gap last [])
def pool (es : List (Nat × CpInfo)) (last : Nat) : Array CpInfo := ⟨poolList es last⟩
def fileOf (pool : Array CpInfo) (this : Nat) (attrs : Array Attribute := #[]) (ms : Array MethodInfo := #[]) (fl : Nat := 33) (sup : Nat := 0) (ifs : Array Nat := #[]) (fds : Array FieldInfo := #[]) : ClassFile where
  minorVersion := 0
  majorVersion := 65
  constantPool := pool
  accessFlags := fl
  thisClass := this
  superClass := sup
  interfaces := ifs
  fields := fds
  methods := ms
  attributes := attrs
def plain (name : String) (sup : Option ClassId) : Class where
  name := name
  kind := .ordinary
  loader := none
  accessFlags := 33
  super := sup
  interfaces := #[]
  cf := none
  fields := #[]
  methods := #[]
  instanceTypes := #[]
  staticTypes := #[]
  resolved := #[]
  callSites := []
  init := .initialized
  statics := none
  mirror := none

def pool0 : Array CpInfo := pool [(5, u "<init>"), (0, u "()V"), (1, .class_ 10), (1, u "java/lang/Object")] 113

def k0m0 : Method := { name := "<init>", desc := "()V", sig := { parameters := [], returnType := none }, accessFlags := 1, code := none }
/-- java/lang/Object -/
def k0 : Class := { plain "java/lang/Object" none with
  accessFlags := 33
  interfaces := #[]
  cf := some (fileOf pool0 8 #[] #[{ accessFlags := 1, nameIndex := 5, descriptorIndex := 6, attributes := #[] }] 33 0 #[] #[])
  fields := #[]
  methods := #[k0m0]
  instanceTypes := #[]
  staticTypes := #[]
  resolved := Array.replicate 124 none
  statics := none }

def pool1 : Array CpInfo := pool [(2, .class_ 4), (1, u "java/lang/Object"), (0, u "<init>"), (0, u "()V"), (0, .integer 2147483647), (0, .methodref 9 10), (0, .class_ 11), (0, .nameAndType 12 13), (0, u "com/example/patient_surfer/patientsurfer/read/LinksReaderIsLabelPinLaw"), (0, u "pick"), (0, u "(I)B"), (0, .methodref 9 15), (0, .nameAndType 16 17), (0, u "ok"), (0, u "(B)Z"), (0, .methodref 19 20), (0, .class_ 21), (0, .nameAndType 22 23), (0, u "com/example/patient_surfer/patientsurfer/read/LinksReader"), (0, u "isLabel"), (0, u "([B)Z"), (3, u "law"), (0, u "(IIIII)Z")] 4

def k1m0 : Method := { name := "<init>", desc := "()V", sig := { parameters := [], returnType := none }, accessFlags := 2, code := none }
def k1c1 : Code := { maxStack := 2, maxLocals := 2, code := method_2_code, exceptionTable := #[], attributes := #[] }
def k1m1 : Method := { name := "pick", desc := "(I)B", sig := { parameters := [.int], returnType := some .byte }, accessFlags := 10, code := some k1c1 }
def k1c2 : Code := { maxStack := 2, maxLocals := 1, code := method_3_code, exceptionTable := #[], attributes := #[] }
def k1m2 : Method := { name := "ok", desc := "(B)Z", sig := { parameters := [.byte], returnType := some .boolean }, accessFlags := 10, code := some k1c2 }
def k1c3 : Code := { maxStack := 3, maxLocals := 13, code := code, exceptionTable := #[], attributes := #[] }
def k1m3 : Method := { name := "law", desc := "(IIIII)Z", sig := { parameters := [.int, .int, .int, .int, .int], returnType := some .boolean }, accessFlags := 9, code := some k1c3 }
/-- com/example/patient_surfer/patientsurfer/read/LinksReaderIsLabelPinLaw -/
def k1 : Class := { plain "com/example/patient_surfer/patientsurfer/read/LinksReaderIsLabelPinLaw" (some 0) with
  accessFlags := 49
  interfaces := #[]
  cf := some (fileOf pool1 9 #[] #[{ accessFlags := 2, nameIndex := 5, descriptorIndex := 6, attributes := #[] }, { accessFlags := 10, nameIndex := 12, descriptorIndex := 13, attributes := #[] }, { accessFlags := 10, nameIndex := 16, descriptorIndex := 17, attributes := #[] }, { accessFlags := 9, nameIndex := 27, descriptorIndex := 28, attributes := #[] }] 49 2 #[] #[])
  fields := #[]
  methods := #[k1m0, k1m1, k1m2, k1m3]
  instanceTypes := #[]
  staticTypes := #[]
  resolved := Array.replicate 33 none
  statics := none }

def pool2 : Array CpInfo := pool [(4, .class_ 6), (1, u "java/lang/Object"), (0, u "<init>"), (0, u "()V"), (0, .class_ 10), (0, u "com/example/patient_surfer/patientsurfer/read/LinksReader"), (9, .methodref 21 22), (0, .class_ 23), (0, .nameAndType 24 25), (0, u "com/example/patient_surfer/patientsurfer/read/LinksLine"), (0, u "isBlank"), (0, u "(B)Z"), (7, u "BYTE_ORDER_MARK"), (0, u "[B"), (95, u "BUFFER_SIZE"), (0, u "I"), (1, u "MAX_BUFFER_SIZE"), (0, u "NUL_FAULT"), (0, u "Ljava/lang/String;"), (0, u "LONE_CR_FAULT"), (5, u "isLabel"), (0, u "([B)Z")] 25

def k2m0 : Method := { name := "<init>", desc := "()V", sig := { parameters := [], returnType := none }, accessFlags := 2, code := none }
def k2c1 : Code := { maxStack := 2, maxLocals := 3, code := prog_15_method_4_code, exceptionTable := #[], attributes := #[] }
def k2m1 : Method := { name := "isLabel", desc := "([B)Z", sig := { parameters := [(.array .byte)], returnType := some .boolean }, accessFlags := 9, code := some k2c1 }
/-- com/example/patient_surfer/patientsurfer/read/LinksReader -/
def k2 : Class := { plain "com/example/patient_surfer/patientsurfer/read/LinksReader" (some 0) with
  accessFlags := 49
  interfaces := #[]
  cf := some (fileOf pool2 9 #[] #[{ accessFlags := 2, nameIndex := 7, descriptorIndex := 8, attributes := #[] }, { accessFlags := 9, nameIndex := 142, descriptorIndex := 143, attributes := #[] }] 49 4 #[] #[{ accessFlags := 26, nameIndex := 130, descriptorIndex := 131, attributes := #[] }, { accessFlags := 26, nameIndex := 133, descriptorIndex := 131, attributes := #[] }, { accessFlags := 26, nameIndex := 33, descriptorIndex := 34, attributes := #[] }, { accessFlags := 26, nameIndex := 134, descriptorIndex := 135, attributes := #[] }, { accessFlags := 26, nameIndex := 136, descriptorIndex := 135, attributes := #[] }])
  fields := #[{ name := "BUFFER_SIZE", type := .int, accessFlags := 26, slot := 0, constantValue := 0 }, { name := "MAX_BUFFER_SIZE", type := .int, accessFlags := 26, slot := 1, constantValue := 0 }, { name := "BYTE_ORDER_MARK", type := (.array .byte), accessFlags := 26, slot := 2, constantValue := 0 }, { name := "NUL_FAULT", type := (.object "java/lang/String"), accessFlags := 26, slot := 3, constantValue := 0 }, { name := "LONE_CR_FAULT", type := (.object "java/lang/String"), accessFlags := 26, slot := 4, constantValue := 0 }]
  methods := #[k2m0, k2m1]
  instanceTypes := #[]
  staticTypes := #[.int, .int, (.array .byte), (.object "java/lang/String"), (.object "java/lang/String")]
  resolved := Array.replicate 169 none
  statics := none }

def pool3 : Array CpInfo := pool [(2, .class_ 4), (1, u "java/lang/Object"), (0, u "<init>"), (0, u "()V"), (0, .class_ 8), (0, u "com/example/patient_surfer/patientsurfer/read/LinksLine"), (2, u "starts"), (0, u "[I"), (2, u "ends"), (2, u "bytes"), (0, u "[B"), (8, u "count"), (0, u "I"), (7, u "(B)Z"), (37, u "isBlank"), (0, u "INITIAL_CAPACITY")] 12

def k3m0 : Method := { name := "<init>", desc := "()V", sig := { parameters := [], returnType := none }, accessFlags := 1, code := none }
def k3c1 : Code := { maxStack := 2, maxLocals := 1, code := prog_14_method_11_code, exceptionTable := #[], attributes := #[] }
def k3m1 : Method := { name := "isBlank", desc := "(B)Z", sig := { parameters := [.byte], returnType := some .boolean }, accessFlags := 8, code := some k3c1 }
/-- com/example/patient_surfer/patientsurfer/read/LinksLine -/
def k3 : Class := { plain "com/example/patient_surfer/patientsurfer/read/LinksLine" (some 0) with
  accessFlags := 49
  interfaces := #[]
  cf := some (fileOf pool3 7 #[] #[{ accessFlags := 1, nameIndex := 5, descriptorIndex := 6, attributes := #[] }, { accessFlags := 8, nameIndex := 75, descriptorIndex := 37, attributes := #[] }] 49 2 #[] #[{ accessFlags := 26, nameIndex := 76, descriptorIndex := 29, attributes := #[] }, { accessFlags := 2, nameIndex := 11, descriptorIndex := 12, attributes := #[] }, { accessFlags := 2, nameIndex := 15, descriptorIndex := 12, attributes := #[] }, { accessFlags := 2, nameIndex := 28, descriptorIndex := 29, attributes := #[] }, { accessFlags := 2, nameIndex := 18, descriptorIndex := 19, attributes := #[] }])
  fields := #[{ name := "INITIAL_CAPACITY", type := .int, accessFlags := 26, slot := 0, constantValue := 0 }, { name := "starts", type := (.array .int), accessFlags := 2, slot := 0, constantValue := 0 }, { name := "ends", type := (.array .int), accessFlags := 2, slot := 1, constantValue := 0 }, { name := "count", type := .int, accessFlags := 2, slot := 2, constantValue := 0 }, { name := "bytes", type := (.array .byte), accessFlags := 2, slot := 3, constantValue := 0 }]
  methods := #[k3m0, k3m1]
  instanceTypes := #[(.array .int), (.array .int), .int, (.array .byte)]
  staticTypes := #[.int]
  resolved := Array.replicate 89 none
  statics := none }

def pool4 : Array CpInfo := pool [(1, u "java/lang/Cloneable"), (0, .class_ 1), (0, u "java/lang/Object"), (0, .class_ 3)] 3

/-- java/lang/Cloneable -/
def k4 : Class := { plain "java/lang/Cloneable" (some 0) with
  accessFlags := 1537
  interfaces := #[]
  cf := some (fileOf pool4 2 #[] #[] 1537 4 #[] #[])
  fields := #[]
  methods := #[]
  instanceTypes := #[]
  staticTypes := #[]
  resolved := Array.replicate 8 none
  statics := none }

def pool5 : Array CpInfo := pool [(1, u "java/io/Serializable"), (0, .class_ 1), (0, u "java/lang/Object"), (0, .class_ 3)] 3

/-- java/io/Serializable -/
def k5 : Class := { plain "java/io/Serializable" (some 0) with
  accessFlags := 1537
  interfaces := #[]
  cf := some (fileOf pool5 2 #[] #[] 1537 4 #[] #[])
  fields := #[]
  methods := #[]
  instanceTypes := #[]
  staticTypes := #[]
  resolved := Array.replicate 8 none
  statics := none }

/-- the primitive byte -/
def k6 : Class := { plain "byte" none with kind := .primitive 'B', accessFlags := 0x411 }
/-- [B -/
def k7 : Class := { plain "[B" (some 0) with kind := .array 6 .byte, interfaces := #[4, 5], accessFlags := 1041 }

/-- the primitive int -/
def k8 : Class := { plain "int" none with kind := .primitive 'I', accessFlags := 0x411 }
/-- [I -/
def k9 : Class := { plain "[I" (some 0) with kind := .array 8 .int, interfaces := #[4, 5], accessFlags := 1041 }

def heap : Heap := #[]
def classes : Array Class := #[k0, k1, k2, k3, k4, k5, k6, k7, k8, k9]
def interned : List (Array UInt16 × Addr) := []
def slotsUsed : Nat := 0
def theMethod : MethodId := ⟨1, 3⟩
def args0 : Array Value := #[.int 2, .int 65, .int 66, .int 67, .int 68]
def aboutOver (below : List Frame) : State where
  vm := { classes := classes, interned := interned.toArray }
  heap := heap
  slotsUsed := slotsUsed
  threads := #[{ frames := .invoking theMethod args0 :: below }]
def below0 : List Frame := [.native { method := ⟨0, 0⟩, args := #[] }]
def about1 : State := aboutOver below0
def p0 : Program := .bare "" "" ""
def e0 : Env := launch0.env 0 0 0
theorem w_frames : about1.frames = Frame.invoking theMethod args0 :: below0 := rfl
set_option maxRecDepth 65536 in
theorem w_args : argsFit about1.vm theMethod args0 = true := by decide +kernel
set_option maxRecDepth 65536 in
theorem w_heap : heapFits about1 = true := by decide +kernel
set_option maxRecDepth 65536 in
theorem w_runnable : about1.curStatus? = some .runnable := by decide +kernel
set_option maxRecDepth 65536 in
theorem w_alone : about1.alone = true := by decide +kernel
set_option maxRecDepth 65536 in
theorem w_named : about1.methodNamed? x = some theMethod := by decide +kernel
set_option maxRecDepth 65536 in
theorem w_hears : about1.hears theMethod below0 = true := by decide +kernel
set_option maxRecDepth 65536 in
theorem w_ripe : about1.ripe theMethod args0 below0 = true := by decide +kernel
theorem w_running : about1.status = .running := rfl
set_option maxRecDepth 65536 in
theorem w_room : about1.hasRoom e0.platform room_1 = true :=
  launch0.hasRoom_least _ room_1 (by decide +kernel) (by decide +kernel) (by decide +kernel) (by decide +kernel) (by decide +kernel) (by decide +kernel)
theorem allAtoms_all (ts : List Jvm.Cond) (a : Array Jvm.Value) (st : Jvm.State) : (allAtoms ts).before a st = ts.all (fun c => c.before a st) := by
  induction ts with
  | nil => rfl
  | cons c t ih =>
    show (Jvm.Cond.and c (allAtoms t)).before a st = _
    rw [Jvm.Cond.before_and, ih, List.all_cons]
def words1 : List Jvm.Cond := Jvm.Cond.code x code maxLocals ret :: tables_1
/-- a 'code' word, met by the world's own term for the bytes: nothing is compared byte by byte -/
theorem code_word {y : MethodName} {bytes : ByteArray} {mx : Nat} {rt : Option FieldType} {a : Array Value} {s : State} {m : MethodId} {meth : Method} {c : Code} (h1 : s.methodNamed? y = some m) (h2 : s.vm.method? m = some meth) (h3 : meth.code = some c) (h4 : c.code = bytes)
    (h5 : (c.maxLocals == mx && c.exceptionTable.isEmpty && decide (c.maxStack ≤ mostOperands) && decide (meth.sig.returnType = rt) && !meth.locks && decide (parseMethodDescriptor y.desc = some meth.sig)) = true) : (Jvm.Cond.code y bytes mx rt).before a s = true := by
  simp only [Bool.and_eq_true, beq_iff_eq, Bool.not_eq_true', decide_eq_true_eq] at h5
  obtain ⟨⟨⟨⟨⟨g1, g2⟩, g3⟩, g4⟩, g5⟩, g6⟩ := h5
  simp [Cond.before, Cond.holds, Cond.value, h1, h2, h3, h4, g1, g2, g3, g4, g5, g6]
def isCode : Jvm.Cond → Bool
  | .code _ _ _ _ => true
  | _ => false
theorem all_split {L : List Jvm.Cond} {P : Jvm.Cond → Bool} (h1 : L.all (fun c => isCode c || P c) = true) (h2 : ∀ c ∈ L.filter isCode, P c = true) : L.all P = true := by
  refine List.all_eq_true.mpr fun c hc => ?_
  have h := List.all_eq_true.mp h1 c hc
  rcases Bool.eq_false_or_eq_true (isCode c) with hi | hi
  · exact h2 c (List.mem_filter.mpr ⟨hc, hi⟩)
  · simpa [hi] using h
set_option maxRecDepth 65536 in
theorem w_c0 : (Jvm.Cond.code x code maxLocals ret).before args0 about1 = true := code_word (m := ⟨1, 3⟩) (meth := k1m3) (c := k1c3) (by decide +kernel) rfl rfl rfl (by decide +kernel)
set_option maxRecDepth 65536 in
theorem w_c1 : (Jvm.Cond.code ({ cls := "com/example/patient_surfer/patientsurfer/read/LinksReaderIsLabelPinLaw", name := "pick", desc := "(I)B" } : Jvm.MethodName) method_2_code (2 : Nat) (Option.some Jvm.ClassFile.FieldType.byte)).before args0 about1 = true := code_word (m := ⟨1, 1⟩) (meth := k1m1) (c := k1c1) (by decide +kernel) rfl rfl rfl (by decide +kernel)
set_option maxRecDepth 65536 in
theorem w_c2 : (Jvm.Cond.code ({ cls := "com/example/patient_surfer/patientsurfer/read/LinksReader", name := "isLabel", desc := "([B)Z" } : Jvm.MethodName) prog_15_method_4_code (3 : Nat) (Option.some Jvm.ClassFile.FieldType.boolean)).before args0 about1 = true := code_word (m := ⟨2, 1⟩) (meth := k2m1) (c := k2c1) (by decide +kernel) rfl rfl rfl (by decide +kernel)
set_option maxRecDepth 65536 in
theorem w_c3 : (Jvm.Cond.code ({ cls := "com/example/patient_surfer/patientsurfer/read/LinksReaderIsLabelPinLaw", name := "ok", desc := "(B)Z" } : Jvm.MethodName) method_3_code (1 : Nat) (Option.some Jvm.ClassFile.FieldType.boolean)).before args0 about1 = true := code_word (m := ⟨1, 2⟩) (meth := k1m2) (c := k1c2) (by decide +kernel) rfl rfl rfl (by decide +kernel)
set_option maxRecDepth 65536 in
theorem w_c4 : (Jvm.Cond.code ({ cls := "com/example/patient_surfer/patientsurfer/read/LinksLine", name := "isBlank", desc := "(B)Z" } : Jvm.MethodName) prog_14_method_11_code (1 : Nat) (Option.some Jvm.ClassFile.FieldType.boolean)).before args0 about1 = true := code_word (m := ⟨3, 1⟩) (meth := k3m1) (c := k3c1) (by decide +kernel) rfl rfl rfl (by decide +kernel)
def codes1 : List Jvm.Cond := [Jvm.Cond.code x code maxLocals ret, Jvm.Cond.code ({ cls := "com/example/patient_surfer/patientsurfer/read/LinksReaderIsLabelPinLaw", name := "pick", desc := "(I)B" } : Jvm.MethodName) method_2_code (2 : Nat) (Option.some Jvm.ClassFile.FieldType.byte), Jvm.Cond.code ({ cls := "com/example/patient_surfer/patientsurfer/read/LinksReader", name := "isLabel", desc := "([B)Z" } : Jvm.MethodName) prog_15_method_4_code (3 : Nat) (Option.some Jvm.ClassFile.FieldType.boolean), Jvm.Cond.code ({ cls := "com/example/patient_surfer/patientsurfer/read/LinksReaderIsLabelPinLaw", name := "ok", desc := "(B)Z" } : Jvm.MethodName) method_3_code (1 : Nat) (Option.some Jvm.ClassFile.FieldType.boolean), Jvm.Cond.code ({ cls := "com/example/patient_surfer/patientsurfer/read/LinksLine", name := "isBlank", desc := "(B)Z" } : Jvm.MethodName) prog_14_method_11_code (1 : Nat) (Option.some Jvm.ClassFile.FieldType.boolean)]
set_option maxRecDepth 65536 in
theorem codes_eq : words1.filter isCode = codes1 := rfl
theorem w_codes : ∀ c ∈ words1.filter isCode, c.before args0 about1 = true := by
  rw [codes_eq]
  intro c hc
  simp only [codes1, List.mem_cons, List.not_mem_nil, or_false] at hc
  rcases hc with rfl | rfl | rfl | rfl | rfl
  · exact w_c0
  · exact w_c1
  · exact w_c2
  · exact w_c3
  · exact w_c4
set_option maxRecDepth 65536 in
theorem w_t1 : words1.all (fun c => isCode c || c.before args0 about1) = true := by decide +kernel
theorem w_tables : (allAtoms (Jvm.Cond.code x code maxLocals ret :: tables_1)).before args0 about1 = true := by
  rw [allAtoms_all]
  show words1.all (fun c => c.before args0 about1) = true
  refine all_split ?_ w_codes
  rw [w_t1]
set_option maxRecDepth 65536 in
theorem w_case : (Jvm.Cond.and given_1 narrow_1).before args0 about1 = true := by decide +kernel
theorem w_applies : (headSpec (Jvm.Cond.code x code maxLocals ret :: tables_1) room_1).applies x e0.platform about1 = true :=
  (Spec.applies_iff w_frames).mpr ⟨w_running, w_runnable, w_alone, w_named, w_hears, w_ripe, w_room, w_tables⟩
theorem atStart : AtStart classFile x code maxLocals ret World_1 tables_1 room_1 Calls_1 rest_1 Pre_1 launch0 p0 e0 about1 theMethod args0 below0 :=
  ⟨lists_1, trivial, launch0.admits_env _ _ _, launch0.least_env, fairChoices_fair.cas, fairChoices_fair.clock, w_frames, w_args, w_heap, w_applies, trivial, trivial, w_case⟩
end start1
theorem witness_1 : WitnessClaimed_1 := ⟨start1.p0, start1.e0, start1.about1, start1.theMethod, start1.args0, start1.below0, start1.atStart⟩
end Jvm.Pilot.@@N@@
