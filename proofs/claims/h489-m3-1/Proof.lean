import JvmDerived
import JvmDerived.Pilot.@@N@@Statement
import JvmDerived.Pilot.@@N@@Code
set_option linter.unusedVariables false
set_option linter.unusedSimpArgs false
namespace Jvm.Pilot.@@N@@
open Jvm Jvm.ClassFile Sem Op Lib Jvm.Free Jvm.Stand Jvm.LawKit Jvm.RoadKit Bundle Jvm.Pilot.@@N@@.Jvm.D
/-! what is left of a run (own_Dn) and the steps towards it: a walk goes FORWARD, goal by goal, and may fork anywhere -/
section Own
variable {p : Program} {l : Launch} {e : Env} {R : Room} {s : State} {m : MethodId} {args : Array Value} {below : List Frame} {meth : Method} {c : Code} {T : State} {locs : List Loc} {cells slots : Nat} {Z : State} {a0 : Array Value} {h : Heap}
def own_Dn (p : Program) (e : Env) (below : List Frame) (G : State → Outcome → Prop) (A : State) : Prop :=
  ∃ s₂ o, Steps p.tables e below A s₂ ∧ s₂.status = .running ∧ Ended s₂ below o ∧ G s₂ o
abbrev own_Ret (s : State) (Q : Option Value → Heap → List Loc → Prop) (k n : Nat) : State → Outcome → Prop :=
  fun s₂ o => ∃ v L, o = .returned v ∧ Q v s₂.heap L ∧ FrameEnd s o s₂ L k n
theorem own_st {G : State → Outcome → Prop} {A B : State} (k : ∀ t, Steps p.tables e below B t → Steps p.tables e below A t) (d : own_Dn p e below G B) : own_Dn p e below G A := by
  obtain ⟨n, o, h1, h2⟩ := d
  exact ⟨n, o, k n h1, h2⟩
theorem own_to {G : State → Outcome → Prop} {A B : State} (k : Steps p.tables e below A B) (d : own_Dn p e below G B) : own_Dn p e below G A := by
  obtain ⟨n, o, h1, h2⟩ := d
  exact ⟨n, o, k.trans h1, h2⟩
theorem own_ret {Q : Option Value → Heap → List Loc → Prop} {v : Option Value} {k n : Nat} {g : JFrame} (X : Stand p l e R s m args below meth c T locs cells slots) (hlk : meth.locks = false) (hv : meth.sig.returnType = none → v = none)
    (hstep : ∀ fs, (∀ (f : JFrame) (acts : List Action), f.method = m → f.locked = none → f.entered = [] → (doReturn e (T.setTop f) acts v).1 = T.setFrames fs) → Steps p.tables e below (T.setTop g) (T.setFrames fs))
    (hQ : Q v T.heap locs) (hk : cells ≤ k) (hn : slots ≤ n) : own_Dn p e below (own_Ret s Q k n) (T.setTop g) := by
  obtain ⟨fs, hr, hrun, hended, hW, hsame⟩ := X.leave (v := v) hv hlk
  exact ⟨_, _, hstep fs hr, hrun, hended, v, locs, rfl, hQ, ⟨_, rfl⟩, hW, hsame.mono hk hn⟩
/-- a return of nothing -/
theorem own_retV {Q : Option Value → Heap → List Loc → Prop} {k n pc : Nat} {Ls : Array Slot} (X : Stand p l e R s m args below meth c T locs cells slots) (hx : p.tables.exec = Jvm.exec) (hlk : meth.locks = false) (hret : meth.sig.returnType = none)
    (hd : decode c.code pc = .ok (.return_, 1)) (hQ : Q none T.heap locs) (hk : cells ≤ k) (hn : slots ≤ n) : own_Dn p e below (own_Ret s Q k n) (T.setTop (mkF m pc Ls [])) :=
  own_ret X hlk (fun _ => rfl) (fun _ hr => X.returnOut hx hret hd hr) hQ hk hn
/-- a return of a value of the return type's kind -/
theorem own_retW {Q : Option Value → Heap → List Loc → Prop} {k n pc : Nat} {Ls : Array Slot} {w : Value} {t : FieldType} {i : Instr} {rest : List Value} (X : Stand p l e R s m args below meth c T locs cells slots) (hx : p.tables.exec = Jvm.exec) (hlk : meth.locks = false)
    (hret : meth.sig.returnType = some t) (hnr : narrow t w = w)
    (hi : (i = .ireturn ∧ (t = .int ∨ t = .boolean ∨ t = .byte ∨ t = .char ∨ t = .short) ∧ ∃ z, w = .int z) ∨ (i = .lreturn ∧ t = .long ∧ ∃ z, w = .long z) ∨ (i = .dreturn ∧ t = .double ∧ ∃ z, w = .double z) ∨ (i = .freturn ∧ t = .float ∧ ∃ z, w = .float z) ∨ (i = .areturn ∧ t.isReference = true ∧ w.isRef = true))
    (hd : decode c.code pc = .ok (i, 1)) (hQ : Q (some w) T.heap locs) (hk : cells ≤ k) (hn : slots ≤ n) : own_Dn p e below (own_Ret s Q k n) (T.setTop (mkF m pc Ls (w :: rest))) :=
  own_ret X hlk (fun h => by rw [hret] at h; cases h) (fun _ hr => retOut X hx hret hnr hi hd hr) hQ hk hn
theorem own_retI {Q : Option Value → Heap → List Loc → Prop} {k n pc : Nat} {Ls : Array Slot} {z : Int32} {rest : List Value} (X : Stand p l e R s m args below meth c T locs cells slots) (hx : p.tables.exec = Jvm.exec) (hlk : meth.locks = false)
    (hret : meth.sig.returnType = some .int) (hd : decode c.code pc = .ok (.ireturn, 1)) (hQ : Q (some (.int z)) T.heap locs) (hk : cells ≤ k) (hn : slots ≤ n) : own_Dn p e below (own_Ret s Q k n) (T.setTop (mkF m pc Ls (.int z :: rest))) :=
  own_retW X hx hlk hret rfl (Or.inl ⟨rfl, Or.inl rfl, z, rfl⟩) hd hQ hk hn
theorem own_retJ {Q : Option Value → Heap → List Loc → Prop} {k n pc : Nat} {Ls : Array Slot} {z : Int64} {rest : List Value} (X : Stand p l e R s m args below meth c T locs cells slots) (hx : p.tables.exec = Jvm.exec) (hlk : meth.locks = false)
    (hret : meth.sig.returnType = some .long) (hd : decode c.code pc = .ok (.lreturn, 1)) (hQ : Q (some (.long z)) T.heap locs) (hk : cells ≤ k) (hn : slots ≤ n) : own_Dn p e below (own_Ret s Q k n) (T.setTop (mkF m pc Ls (.long z :: rest))) :=
  own_retW X hx hlk hret rfl (Or.inr (Or.inl ⟨rfl, rfl, z, rfl⟩)) hd hQ hk hn
theorem own_retA {Q : Option Value → Heap → List Loc → Prop} {k n pc : Nat} {Ls : Array Slot} {a : Addr} {t : FieldType} {rest : List Value} (X : Stand p l e R s m args below meth c T locs cells slots) (hx : p.tables.exec = Jvm.exec) (hlk : meth.locks = false)
    (hret : meth.sig.returnType = some t) (ht : t.isReference = true) (hd : decode c.code pc = .ok (.areturn, 1)) (hQ : Q (some (.ref a)) T.heap locs) (hk : cells ≤ k) (hn : slots ≤ n) : own_Dn p e below (own_Ret s Q k n) (T.setTop (mkF m pc Ls (.ref a :: rest))) :=
  own_retW X hx hlk hret (by cases t <;> first | rfl | (simp [FieldType.isReference] at ht)) (Or.inr (Or.inr (Or.inr (Or.inr ⟨rfl, ht, rfl⟩)))) hd hQ hk hn
/-- a boolean, byte, char or short -/
theorem own_retN {Q : Option Value → Heap → List Loc → Prop} {k n pc : Nat} {Ls : Array Slot} {z : Int32} {t : FieldType} {rest : List Value} (X : Stand p l e R s m args below meth c T locs cells slots) (hx : p.tables.exec = Jvm.exec) (hlk : meth.locks = false)
    (hret : meth.sig.returnType = some t) (ht : t = .boolean ∨ t = .byte ∨ t = .char ∨ t = .short) (hd : decode c.code pc = .ok (.ireturn, 1)) (hQ : Q (some (.int (nar t z))) T.heap locs) (hk : cells ≤ k) (hn : slots ≤ n) : own_Dn p e below (own_Ret s Q k n) (T.setTop (mkF m pc Ls (.int z :: rest))) :=
  own_ret X hlk (fun h => by rw [hret] at h; cases h) (fun _ hr => retN X hx hret ht hd hr) hQ hk hn
/-- a static call by the callee's contract -/
theorem own_callS {rm : Room} {W : Nat} {as' : Array Value} {Q : Option Value → Heap → List Loc → Prop} {own : String} {index : Nat} {y : MethodName} {bytes : ByteArray} {maxL : Nat} {ret : Option FieldType} (X : Stand p l e R s m args below meth c T locs cells slots) (hx : p.tables.exec = Jvm.exec) (hZ : Z.Warmed39 s.vm)
    (hown : s.vm.findClass own = some m.cls) (w1 : (Cond.methodLink own index y).before a0 Z = true) (w2 : (Cond.static y).before a0 Z = true) (w3 : (Cond.initialized y.cls).before a0 Z = true) (w4 : (Cond.code y bytes maxL ret).before a0 Z = true) (hy : y.cls ≠ "java/lang/invoke/MethodHandle" ∧ y.cls ≠ "java/lang/invoke/VarHandle")
    (eT : T.heap = h) (hM : MetFree l y (head1 [Cond.code y bytes maxL ret] rm) (fun a U => a = as' ∧ Z.Warmed39 U.vm ∧ U.heap = h) (fun _ _ _ _ _ => True) (fun _ U o U' => ∃ v L, o = .returned v ∧ Q v U'.heap L ∧ FrameEnd U o U' L rm.cells rm.slots))
    {g : JFrame} (hg : g.method = m) (hsize : g.locals.size = c.maxLocals) {argsL rest : List Value} (hlen : ∀ sig, parseMethodDescriptor y.desc = some sig → argsL.length = sig.parameters.length) (hstack : g.stack = argsL.reverse ++ rest) (has : argsL.toArray = as') (hW : 2 * g.monitorRoom + (rest.map fun v => v.category).sum ≤ W)
    (hdg : decode c.code g.pc = .ok (.invokestatic index, 3)) (hf : rm.frames + 1 ≤ R.frames) (hl : W + (maxL + 11) + rm.locals ≤ R.locals) (hc : cells + rm.cells ≤ R.cells) (hsl : slots + rm.slots ≤ R.slots) :
    ∃ v T' L, Stand p l e R s m args below meth c T' (locs ++ L) (cells + rm.cells) (slots + rm.slots) ∧ Q v T'.heap L ∧
      ∀ t, Steps p.tables e below (T'.setTop { g with pc := g.pc + 3, stack := v.toList ++ rest }) t → Steps p.tables e below (T.setTop g) t := by
  obtain ⟨v, _, ⟨T', L, k', n'⟩, -, X', ⟨Lc, hQ, l1, l2, l3⟩, st⟩ := Jvm.LawKit.callS X hx hown (mvT hZ w1) (mvT hZ w2) (mvT hZ w3) (mvT hZ w4) hy (backOf (W := W) hM hZ w4 w3 hf hl) hg hsize hlen hstack hW hdg (fun _ _ => ⟨has, eT, hc, hsl⟩)
  dsimp only [Pt.U, Pt.locs, Pt.cells, Pt.slots] at X' l1 l2 l3 st hQ
  subst l1 l2 l3
  exact ⟨v, T', Lc, X', hQ, st⟩
/-- a constructor by its contract -/
theorem own_callN {rm : Room} {W : Nat} {as' : Array Value} {Q : Option Value → Heap → List Loc → Prop} {own : String} {index : Nat} {y : MethodName} {bytes : ByteArray} {maxL : Nat} (X : Stand p l e R s m args below meth c T locs cells slots) (hx : p.tables.exec = Jvm.exec) (hZ : Z.Warmed39 s.vm) (hy1 : y.name = "<init>")
    (hown : s.vm.findClass own = some m.cls) (w1 : (Cond.methodLink own index y).before a0 Z = true) (w2 : (Cond.instanceMethod y).before a0 Z = true) (w3 : (Cond.initialized y.cls).before a0 Z = true) (w4 : (Cond.code y bytes maxL none).before a0 Z = true) (hy : y.cls ≠ "java/lang/invoke/MethodHandle" ∧ y.cls ≠ "java/lang/invoke/VarHandle")
    (eT : T.heap = h) (hM : MetFree l y (head1 [Cond.code y bytes maxL none] rm) (fun a U => a = as' ∧ Z.Warmed39 U.vm ∧ U.heap = h) (fun _ _ _ _ _ => True) (fun _ U o U' => ∃ v L, o = .returned v ∧ Q v U'.heap L ∧ FrameEnd U o U' L rm.cells rm.slots))
    {g : JFrame} (hg : g.method = m) (hsize : g.locals.size = c.maxLocals) {a : Addr} {argsL rest : List Value} (hlen : ∀ sig, parseMethodDescriptor y.desc = some sig → argsL.length = sig.parameters.length) (hstack : g.stack = argsL.reverse ++ .ref a :: rest) (has : (.ref a :: argsL).toArray = as') (hW : 2 * g.monitorRoom + (rest.map fun v => v.category).sum ≤ W)
    (hdg : decode c.code g.pc = .ok (.invokespecial index, 3)) (hf : rm.frames + 1 ≤ R.frames) (hl : W + (maxL + 11) + rm.locals ≤ R.locals) (hc : cells + rm.cells ≤ R.cells) (hsl : slots + rm.slots ≤ R.slots) :
    ∃ v T' L, Stand p l e R s m args below meth c T' (locs ++ L) (cells + rm.cells) (slots + rm.slots) ∧ Q v T'.heap L ∧
      ∀ t, Steps p.tables e below (T'.setTop { g with pc := g.pc + 3, stack := v.toList ++ rest }) t → Steps p.tables e below (T.setTop g) t := by
  obtain ⟨v, _, ⟨T', L, k', n'⟩, -, X', ⟨Lc, hQ, l1, l2, l3⟩, st⟩ := X.specialBack hx hy1 hown (mvT hZ w1) (mvT hZ w2) (mvT hZ w4) hy (backOf (W := W) hM hZ w4 w3 hf hl) hg hsize (Steps.refl _) hlen hstack hW hdg (fun _ _ => ⟨has, eT, hc, hsl⟩)
  dsimp only [Pt.U, Pt.locs, Pt.cells, Pt.slots] at X' l1 l2 l3 st hQ
  subst l1 l2 l3
  exact ⟨v, T', Lc, X', hQ, fun t k => st.trans k⟩
/-- a constructor by a payer that is at hand -/
theorem own_callNK {mc ms W : Nat} {as' : Array Value} {Q : Option Value → Heap → List Loc → Prop} {own : String} {index : Nat} {y : MethodName} {bytes : ByteArray} {maxL : Nat} (X : Stand p l e R s m args below meth c T locs cells slots) (hx : p.tables.exec = Jvm.exec) (hZ : Z.Warmed39 s.vm) (hy1 : y.name = "<init>")
    (hown : s.vm.findClass own = some m.cls) (w1 : (Cond.methodLink own index y).before a0 Z = true) (w2 : (Cond.instanceMethod y).before a0 Z = true) (w4 : (Cond.code y bytes maxL none).before a0 Z = true) (hy : y.cls ≠ "java/lang/invoke/MethodHandle" ∧ y.cls ≠ "java/lang/invoke/VarHandle")
    (eT : T.heap = h) (hK : Back l R p e below s args y 3 W (fun A a => a = as' ∧ A.U.heap = h ∧ A.cells + mc ≤ R.cells ∧ A.slots + ms ≤ R.slots) (fun A _ v B => ∃ L, Q v B.U.heap L ∧ B.locs = A.locs ++ L ∧ B.cells = A.cells + mc ∧ B.slots = A.slots + ms))
    {g : JFrame} (hg : g.method = m) (hsize : g.locals.size = c.maxLocals) {a : Addr} {argsL rest : List Value} (hlen : ∀ sig, parseMethodDescriptor y.desc = some sig → argsL.length = sig.parameters.length) (hstack : g.stack = argsL.reverse ++ .ref a :: rest) (has : (.ref a :: argsL).toArray = as') (hW : 2 * g.monitorRoom + (rest.map fun v => v.category).sum ≤ W)
    (hdg : decode c.code g.pc = .ok (.invokespecial index, 3)) (hc : cells + mc ≤ R.cells) (hsl : slots + ms ≤ R.slots) :
    ∃ v T' L, Stand p l e R s m args below meth c T' (locs ++ L) (cells + mc) (slots + ms) ∧ Q v T'.heap L ∧
      ∀ t, Steps p.tables e below (T'.setTop { g with pc := g.pc + 3, stack := v.toList ++ rest }) t → Steps p.tables e below (T.setTop g) t := by
  obtain ⟨v, _, ⟨T', L, k', n'⟩, -, X', ⟨Lc, hQ, l1, l2, l3⟩, st⟩ := X.specialBack hx hy1 hown (mvT hZ w1) (mvT hZ w2) (mvT hZ w4) hy hK hg hsize (Steps.refl _) hlen hstack hW hdg (fun _ _ => ⟨has, eT, hc, hsl⟩)
  dsimp only [Pt.U, Pt.locs, Pt.cells, Pt.slots] at X' l1 l2 l3 st hQ
  subst l1 l2 l3
  exact ⟨v, T', Lc, X', hQ, fun t k => st.trans k⟩
/-- a virtual call by the contract of the method that is selected (declared by a class, the receiver exactly of the class C) -/
theorem own_callV {rm : Room} {W : Nat} {as' : Array Value} {Q : Option Value → Heap → List Loc → Prop} {own C : String} {index : Nat} {y z : MethodName} {bytes : ByteArray} {maxL : Nat} {ret : Option FieldType} (X : Stand p l e R s m args below meth c T locs cells slots) (hx : p.tables.exec = Jvm.exec) (hZ : Z.Warmed39 s.vm)
    (hown : s.vm.findClass own = some m.cls) (w1 : (Cond.methodLink own index y).before a0 Z = true) (w2 : (Cond.declares y).before a0 Z = true) (hnf : NotFace s y) (w5 : (Cond.selects C y z).before a0 Z = true) (w6 : (Cond.instanceMethod z).before a0 Z = true) (w3 : (Cond.initialized z.cls).before a0 Z = true) (w4 : (Cond.code z bytes maxL ret).before a0 Z = true) (hy : y.cls ≠ "java/lang/invoke/MethodHandle" ∧ y.cls ≠ "java/lang/invoke/VarHandle")
    (eT : T.heap = h) (hM : MetFree l z (head1 [Cond.code z bytes maxL ret] rm) (fun a U => a = as' ∧ Z.Warmed39 U.vm ∧ U.heap = h) (fun _ _ _ _ _ => True) (fun _ U o U' => ∃ v L, o = .returned v ∧ Q v U'.heap L ∧ FrameEnd U o U' L rm.cells rm.slots))
    {a : Addr} (E : Exa Z h a C) {g : JFrame} (hg : g.method = m) (hsize : g.locals.size = c.maxLocals) {argsL rest : List Value} (hlen : ∀ sig, parseMethodDescriptor y.desc = some sig → argsL.length = sig.parameters.length) (hstack : g.stack = argsL.reverse ++ .ref a :: rest) (has : (.ref a :: argsL).toArray = as') (hW : 2 * g.monitorRoom + (rest.map fun v => v.category).sum ≤ W)
    (hdg : decode c.code g.pc = .ok (.invokevirtual index, 3)) (hf : rm.frames + 1 ≤ R.frames) (hl : W + (maxL + 11) + rm.locals ≤ R.locals) (hc : cells + rm.cells ≤ R.cells) (hsl : slots + rm.slots ≤ R.slots) :
    ∃ v T' L, Stand p l e R s m args below meth c T' (locs ++ L) (cells + rm.cells) (slots + rm.slots) ∧ Q v T'.heap L ∧
      ∀ t, Steps p.tables e below (T'.setTop { g with pc := g.pc + 3, stack := v.toList ++ rest }) t → Steps p.tables e below (T.setTop g) t := by
  obtain ⟨cq, kq, qa, qb, qc⟩ := isOf hZ eT E
  obtain ⟨v, _, ⟨T', L, k', n'⟩, -, X', ⟨Lc, hQ, l1, l2, l3⟩, st⟩ := X.virtualBack hx hown (mvT hZ w1) (mvT hZ w2) hnf (mvT hZ w5) (mvT hZ w6) hy (backOf (W := W) hM hZ w4 w3 hf hl) qa qc hg hsize (Steps.refl _) hlen hstack hW hdg (fun _ _ => ⟨has, eT, hc, hsl⟩)
  dsimp only [Pt.U, Pt.locs, Pt.cells, Pt.slots] at X' l1 l2 l3 st hQ
  subst l1 l2 l3
  exact ⟨v, T', Lc, X', hQ, fun t k => st.trans k⟩
/-- a virtual call of a method that the named class inherits from 'owner' -/
theorem own_callU {rm : Room} {W : Nat} {as' : Array Value} {Q : Option Value → Heap → List Loc → Prop} {own C owner : String} {index : Nat} {y z : MethodName} {bytes : ByteArray} {maxL : Nat} {ret : Option FieldType} (X : Stand p l e R s m args below meth c T locs cells slots) (hx : p.tables.exec = Jvm.exec) (hZ : Z.Warmed39 s.vm)
    (hown : s.vm.findClass own = some m.cls) (w1 : (Cond.methodLink own index y).before a0 Z = true) (w2 : (Cond.sameMethod y.cls owner y.name y.desc).before a0 Z = true) (w7 : (Cond.declares ⟨owner, y.name, y.desc⟩).before a0 Z = true) (ho : owner ≠ "java/lang/invoke/MethodHandle" ∧ owner ≠ "java/lang/invoke/VarHandle") (w5 : (Cond.selects C y z).before a0 Z = true) (w6 : (Cond.instanceMethod z).before a0 Z = true) (w3 : (Cond.initialized z.cls).before a0 Z = true) (w4 : (Cond.code z bytes maxL ret).before a0 Z = true)
    (eT : T.heap = h) (hM : MetFree l z (head1 [Cond.code z bytes maxL ret] rm) (fun a U => a = as' ∧ Z.Warmed39 U.vm ∧ U.heap = h) (fun _ _ _ _ _ => True) (fun _ U o U' => ∃ v L, o = .returned v ∧ Q v U'.heap L ∧ FrameEnd U o U' L rm.cells rm.slots))
    {a : Addr} (E : Exa Z h a C) {g : JFrame} (hg : g.method = m) (hsize : g.locals.size = c.maxLocals) {argsL rest : List Value} (hlen : ∀ sig, parseMethodDescriptor y.desc = some sig → argsL.length = sig.parameters.length) (hstack : g.stack = argsL.reverse ++ .ref a :: rest) (has : (.ref a :: argsL).toArray = as') (hW : 2 * g.monitorRoom + (rest.map fun v => v.category).sum ≤ W)
    (hdg : decode c.code g.pc = .ok (.invokevirtual index, 3)) (hf : rm.frames + 1 ≤ R.frames) (hl : W + (maxL + 11) + rm.locals ≤ R.locals) (hc : cells + rm.cells ≤ R.cells) (hsl : slots + rm.slots ≤ R.slots) :
    ∃ v T' L, Stand p l e R s m args below meth c T' (locs ++ L) (cells + rm.cells) (slots + rm.slots) ∧ Q v T'.heap L ∧
      ∀ t, Steps p.tables e below (T'.setTop { g with pc := g.pc + 3, stack := v.toList ++ rest }) t → Steps p.tables e below (T.setTop g) t := by
  obtain ⟨cq, kq, qa, qb, qc⟩ := isOf hZ eT E
  obtain ⟨v, _, ⟨T', L, k', n'⟩, -, X', ⟨Lc, hQ, l1, l2, l3⟩, st⟩ := X.virtualBackUp hx hown (mvT hZ w1) (mvT hZ w2) (mvT hZ w7) ho (mvT hZ w5) (mvT hZ w6) (backOf (W := W) hM hZ w4 w3 hf hl) qa qc hg hsize (Steps.refl _) hlen hstack hW hdg (fun _ _ => ⟨has, eT, hc, hsl⟩)
  dsimp only [Pt.U, Pt.locs, Pt.cells, Pt.slots] at X' l1 l2 l3 st hQ
  subst l1 l2 l3
  exact ⟨v, T', Lc, X', hQ, fun t k => st.trans k⟩
theorem own_lrem {g : JFrame} {target : State} (X : Stand p l e R s m args below meth c T locs cells slots) (hx : p.tables.exec = Jvm.exec) (hg : g.method = m) {x y : Int64} {rest : List Value} (hd : decode c.code g.pc = .ok (.lrem, 1)) (hs : g.stack = .long y :: .long x :: rest) (hy : y ≠ 0)
    (hr : Steps p.tables e below (T.setTop { g with pc := g.pc + 1, stack := .long (x % y) :: rest }) target) : Steps p.tables e below (T.setTop g) target :=
  XS.lrem X.here hx hg hd hs hy (by rw [lrem_mod]; exact hr)
end Own
/-! ints as integers -/
theorem own_tL {x y : Int32} (h : x < y) : x.toInt < y.toInt := Int32.lt_iff_toInt_lt.mp h
theorem own_tLn {x y : Int32} (h : ¬ x < y) : ¬ x.toInt < y.toInt := fun q => h (Int32.lt_iff_toInt_lt.mpr q)
theorem own_tE {x y : Int32} (h : x = y) : x.toInt = y.toInt := congrArg _ h
theorem own_tEn {x y : Int32} (h : ¬ x = y) : ¬ x.toInt = y.toInt := fun q => h (Int32.toInt_inj.mp q)
theorem own_uL {x y : Int64} (h : x < y) : x.toInt < y.toInt := Int64.lt_iff_toInt_lt.mp h
theorem own_uLn {x y : Int64} (h : ¬ x < y) : ¬ x.toInt < y.toInt := fun q => h (Int64.lt_iff_toInt_lt.mpr q)
theorem own_uE {x y : Int64} (h : x = y) : x.toInt = y.toInt := congrArg _ h
theorem own_uEn {x y : Int64} (h : ¬ x = y) : ¬ x.toInt = y.toInt := fun q => h (Int64.toInt_inj.mp q)
/-! bodies that may load a String constant cold: the end is ReturnedEndW, the Stand goes on over the start with the tables at hand -/
section OwnWide
variable {p : Program} {l : Launch} {e : Env} {R : Room} {s : State} {m : MethodId} {args : Array Value} {below : List Frame} {meth : Method} {c : Code} {T : State} {locs : List Loc} {cells slots : Nat} {Z : State} {a0 : Array Value} {h : Heap} {vm0 : Vm} {k0 : Nat}
abbrev own_RetW (s : State) (Q : Option Value → Heap → List Loc → Prop) (k n : Nat) : State → Outcome → Prop :=
  fun s₂ o => ∃ v L, o = .returned v ∧ Q v s₂.heap L ∧ ReturnedEndW s o s₂ L k n
theorem own_since (s : State) : s.Since s.vm 0 := (State.WarmedH.refl s).since 0
theorem own_wret {Q : Option Value → Heap → List Loc → Prop} {v : Option Value} {k n : Nat} {g : JFrame} (X : Stand p l e R (s.setVm vm0) m args below meth c T locs cells slots) (hS : s.Since vm0 k0) (hk0 : k0 ≤ T.heap.size) (hlk : meth.locks = false) (hv : meth.sig.returnType = none → v = none)
    (hstep : ∀ fs, (∀ (f : JFrame) (acts : List Action), f.method = m → f.locked = none → f.entered = [] → (doReturn e (T.setTop f) acts v).1 = T.setFrames fs) → Steps p.tables e below (T.setTop g) (T.setFrames fs))
    (hQ : Q v T.heap locs) (hk : cells ≤ k) (hn : slots ≤ n) : own_Dn p e below (own_RetW s Q k n) (T.setTop g) := by
  obtain ⟨fs, hr, hrun, hended, hE⟩ := X.leaveW hS hk0 (v := v) hv hlk
  exact ⟨_, _, hstep fs hr, hrun, hended, v, locs, rfl, hQ, hE.1, hE.2.1, hE.2.2.1, hE.2.2.2.mono hk hn⟩
theorem own_wretV {Q : Option Value → Heap → List Loc → Prop} {k n pc : Nat} {Ls : Array Slot} (X : Stand p l e R (s.setVm vm0) m args below meth c T locs cells slots) (hS : s.Since vm0 k0) (hk0 : k0 ≤ T.heap.size) (hx : p.tables.exec = Jvm.exec) (hlk : meth.locks = false) (hret : meth.sig.returnType = none)
    (hd : decode c.code pc = .ok (.return_, 1)) (hQ : Q none T.heap locs) (hk : cells ≤ k) (hn : slots ≤ n) : own_Dn p e below (own_RetW s Q k n) (T.setTop (mkF m pc Ls [])) :=
  own_wret X hS hk0 hlk (fun _ => rfl) (fun _ hr => X.returnOut hx hret hd hr) hQ hk hn
theorem own_wretN {Q : Option Value → Heap → List Loc → Prop} {k n pc : Nat} {Ls : Array Slot} {z : Int32} {t : FieldType} {rest : List Value} (X : Stand p l e R (s.setVm vm0) m args below meth c T locs cells slots) (hS : s.Since vm0 k0) (hk0 : k0 ≤ T.heap.size) (hx : p.tables.exec = Jvm.exec) (hlk : meth.locks = false)
    (hret : meth.sig.returnType = some t) (ht : t = .boolean ∨ t = .byte ∨ t = .char ∨ t = .short) (hd : decode c.code pc = .ok (.ireturn, 1)) (hQ : Q (some (.int (nar t z))) T.heap locs) (hk : cells ≤ k) (hn : slots ≤ n) : own_Dn p e below (own_RetW s Q k n) (T.setTop (mkF m pc Ls (.int z :: rest))) :=
  own_wret X hS hk0 hlk (fun h => by rw [hret] at h; cases h) (fun _ hr => retN X hx hret ht hd hr) hQ hk hn
/-- a constructor that may load String constants, by its contract -/
theorem own_callNW {rm : Room} {W : Nat} {as' : Array Value} {Q : Option Value → Heap → List Loc → Prop} {own : String} {index : Nat} {y : MethodName} {bytes : ByteArray} {maxL : Nat} (X : Stand p l e R (s.setVm vm0) m args below meth c T locs cells slots) (hS : s.Since vm0 k0) (hx : p.tables.exec = Jvm.exec) (hZ : Z.Warmed39 (s.setVm vm0).vm) (hy1 : y.name = "<init>")
    (hown : (s.setVm vm0).vm.findClass own = some m.cls) (w1 : (Cond.methodLink own index y).before a0 Z = true) (w2 : (Cond.instanceMethod y).before a0 Z = true) (w3 : (Cond.initialized y.cls).before a0 Z = true) (w4 : (Cond.code y bytes maxL none).before a0 Z = true) (hy : y.cls ≠ "java/lang/invoke/MethodHandle" ∧ y.cls ≠ "java/lang/invoke/VarHandle")
    (eT : T.heap = h) (hk0 : k0 ≤ h.size) (hM : MetFree l y (head1 [Cond.code y bytes maxL none] rm) (fun a U => a = as' ∧ Z.Warmed39 U.vm ∧ U.heap = h) (fun _ _ _ _ _ => True) (fun _ U o U' => ∃ v L, o = .returned v ∧ Q v U'.heap L ∧ ReturnedEndW U o U' L rm.cells rm.slots))
    {g : JFrame} (hg : g.method = m) (hsize : g.locals.size = c.maxLocals) {a : Addr} {argsL rest : List Value} (hlen : ∀ sig, parseMethodDescriptor y.desc = some sig → argsL.length = sig.parameters.length) (hstack : g.stack = argsL.reverse ++ .ref a :: rest) (has : (.ref a :: argsL).toArray = as') (hW : 2 * g.monitorRoom + (rest.map fun v => v.category).sum ≤ W)
    (hdg : decode c.code g.pc = .ok (.invokespecial index, 3)) (hf : rm.frames + 1 ≤ R.frames) (hl : W + (maxL + 11) + rm.locals ≤ R.locals) (hc : cells + rm.cells ≤ R.cells) (hsl : slots + rm.slots ≤ R.slots) :
    ∃ v T' L, Stand p l e R (s.setVm T'.vm) m args below meth c T' (locs ++ L) (cells + rm.cells) (slots + rm.slots) ∧ s.Since T'.vm T'.heap.size ∧ h.size ≤ T'.heap.size ∧ Z.Warmed39 (s.setVm T'.vm).vm ∧ (s.setVm T'.vm).vm.findClass own = some m.cls ∧ Q v T'.heap L ∧
      ∀ t, Steps p.tables e below (T'.setTop { g with pc := g.pc + 3, stack := v.toList ++ rest }) t → Steps p.tables e below (T.setTop g) t := by
  obtain ⟨v, _, ⟨T', L, k', n'⟩, -, X', h2, hgr, ⟨Lc, hQ, l1, l2, l3⟩, st⟩ := X.specialBackS hx hy1 hown (mvT hZ w1) (mvT hZ w2) (mvT hZ w4) hy (backOfS (W := W) hM hZ w4 w3 hf hl) hg hsize (Steps.refl _) hlen hstack hW hdg (fun _ _ => ⟨has, eT, hc, hsl⟩)
  dsimp only [Pt.U, Pt.locs, Pt.cells, Pt.slots] at X' h2 hgr l1 l2 l3 st hQ
  subst l1 l2 l3
  rw [eT] at hgr
  obtain ⟨X2, hS2, hZ2, ho2⟩ := rebS hS hk0 X' h2 hgr hZ hown
  exact ⟨v, T', Lc, X2, hS2, hgr, hZ2, ho2, hQ, fun t k => st.trans k⟩
end OwnWide
theorem own_wS {a0 : Array Value} {Z : State} (hw : ∀ d ∈ tables_1, d.before a0 Z = true) : ∀ a ∈ Bundle.stringAtoms, a.before a0 Z = true := fun d hd => hw d ((by decide +kernel : ∀ d ∈ Bundle.stringAtoms, d ∈ tables_1) d hd)
def own_QI (Z : State) (a1 : Addr) (z : Int32) (q : Int64) (h0 : Heap) (n0 : Nat) (v : Option Value) (h : Heap) (L : List Loc) : Prop := v = none ∧ Fr n0 L ∧ h0.size ≤ h.size ∧ Exa Z h a1 "com/example/avocet/avocet/charging/Bucket" ∧ Fld Z h a1 "com/example/avocet/avocet/charging/Bucket" "unlimited" "Z" (.int z) ∧ Fld Z h a1 "com/example/avocet/avocet/charging/Bucket" "available" "J" (.long q)
def own_QU (Z : State) (h0 : Heap) (n0 : Nat) (v : Option Value) (h : Heap) (L : List Loc) : Prop := ∃ a1 : Addr, v = some (.ref a1) ∧ Fr n0 L ∧ h0.size ≤ h.size ∧ Exa Z h a1 "com/example/avocet/avocet/charging/Bucket" ∧ Fld Z h a1 "com/example/avocet/avocet/charging/Bucket" "unlimited" "Z" (.int 1) ∧ Fld Z h a1 "com/example/avocet/avocet/charging/Bucket" "available" "J" (.long 0)
def own_QP (x : Int32) (h0 : Heap) (v : Option Value) (h : Heap) (L : List Loc) : Prop := v = some (.int x) ∧ L = [] ∧ h = h0
def own_QJ (x : Int64) (h0 : Heap) (v : Option Value) (h : Heap) (L : List Loc) : Prop := v = some (.long x) ∧ L = [] ∧ h = h0
def own_Q0 (n0 : Nat) (v : Option Value) (h : Heap) (L : List Loc) : Prop := v = some (.int 1) ∧ Fr n0 L
theorem own_fl1 {A : Prop} {r : Int32} (h : (r = 1 ∧ A) ∨ (r = 0 ∧ ¬ A)) (q : A) : r = 1 := by
  rcases h with h | h
  · exact h.1
  · exact absurd q h.2
theorem own_fl0 {A : Prop} {r : Int32} (h : (r = 1 ∧ A) ∨ (r = 0 ∧ ¬ A)) (q : ¬ A) : r = 0 := by
  rcases h with h | h
  · exact absurd h.2 q
  · exact h.1
theorem own_m63 (x : Int64) : 0 ≤ (x &&& 9223372036854775807).toInt := by
  have h := c_maskL x 9223372036854775807 63 (by decide) (by decide)
  omega
theorem own_max (x : Int64) (hx : 0 ≤ x.toInt) : ((9223372036854775807 : Int64) - x).toInt = 9223372036854775807 - x.toInt := by
  have a := c_lsub 9223372036854775807 x
  have b := rng64 ((9223372036854775807 : Int64) - x)
  have c := rng64 x
  have z : (9223372036854775807 : Int64).toInt = 9223372036854775807 := by decide
  rw [z] at a
  omega
theorem d1_0 : decode prog_3_method_2_code 0 = .ok (.aload_n 0, 1) := by decide +kernel
theorem d1_1 : decode prog_3_method_2_code 1 = .ok (.invokespecial 16, 3) := by decide +kernel
theorem d1_4 : decode prog_3_method_2_code 4 = .ok (.aload_n 0, 1) := by decide +kernel
theorem d1_5 : decode prog_3_method_2_code 5 = .ok (.aload_n 1, 1) := by decide +kernel
theorem d1_6 : decode prog_3_method_2_code 6 = .ok (.putfield 21, 3) := by decide +kernel
theorem d1_9 : decode prog_3_method_2_code 9 = .ok (.aload_n 0, 1) := by decide +kernel
theorem d1_10 : decode prog_3_method_2_code 10 = .ok (.aload_n 2, 1) := by decide +kernel
theorem d1_11 : decode prog_3_method_2_code 11 = .ok (.putfield 25, 3) := by decide +kernel
theorem d1_14 : decode prog_3_method_2_code 14 = .ok (.aload_n 0, 1) := by decide +kernel
theorem d1_15 : decode prog_3_method_2_code 15 = .ok (.iload_n 3, 1) := by decide +kernel
theorem d1_16 : decode prog_3_method_2_code 16 = .ok (.putfield 28, 3) := by decide +kernel
theorem d1_19 : decode prog_3_method_2_code 19 = .ok (.aload_n 0, 1) := by decide +kernel
theorem d1_20 : decode prog_3_method_2_code 20 = .ok (.lload 4, 2) := by decide +kernel
theorem d1_22 : decode prog_3_method_2_code 22 = .ok (.putfield 32, 3) := by decide +kernel
theorem d1_25 : decode prog_3_method_2_code 25 = .ok (.aload_n 0, 1) := by decide +kernel
theorem d1_26 : decode prog_3_method_2_code 26 = .ok (.lload 6, 2) := by decide +kernel
theorem d1_28 : decode prog_3_method_2_code 28 = .ok (.putfield 36, 3) := by decide +kernel
theorem d1_31 : decode prog_3_method_2_code 31 = .ok (.return_, 1) := by decide +kernel
theorem ef_rm_i5 (m : MethodId) (x0 : Addr) (x1 : Addr) (x2 : Addr) (x3 : Int32) (x4 : Int64) (x5 : Int64) : entryFrame m #[(.ref x0), (.ref x1), (.ref x2), (.int x3), (.long x4), (.long x5)] 8 = mkF m 0 #[.val (.ref x0), .val (.ref x1), .val (.ref x2), .val (.int x3), .val (.long x4), .second, .val (.long x5), .second] [] := by first | (simp [entryFrame, mkF, argsToLocals, Value.category]; done) | rfl
theorem pn_0 : plainName "com/example/avocet/avocet/charging/Bucket" = true := by first | (simp [plainName, overriddenIn]; done) | decide +kernel
set_option maxRecDepth 65536 in
set_option maxHeartbeats 40000000 in
theorem rm_i5 (l : Launch) (Z : State) (a0 : Array Value) (hw : ∀ d ∈ tables_1, d.before a0 Z = true) (ws : List Jvm.Cond) (a1 s1 s2 : Addr) (p4 : Int32) (q4 q5 : Int64) (h0 : Heap) (n0 : Nat) (Z0 : n0 ≤ h0.size) (ga : n0 ≤ a1) (EX : Exa Z h0 a1 "com/example/avocet/avocet/charging/Bucket") (G_subscriber : Fld Z h0 a1 "com/example/avocet/avocet/charging/Bucket" "subscriber" "Ljava/lang/String;" .null) (G_name : Fld Z h0 a1 "com/example/avocet/avocet/charging/Bucket" "name" "Ljava/lang/String;" .null) (G_unlimited : Fld Z h0 a1 "com/example/avocet/avocet/charging/Bucket" "unlimited" "Z" (.int 0)) (G_available : Fld Z h0 a1 "com/example/avocet/avocet/charging/Bucket" "available" "J" (.long 0)) (G_reserved : Fld Z h0 a1 "com/example/avocet/avocet/charging/Bucket" "reserved" "J" (.long 0)) (hd : p4 = 0 ∨ p4 = 1) :
    MetFree l (⟨"com/example/avocet/avocet/charging/Bucket", "<init>", "(Ljava/lang/String;Ljava/lang/String;ZJJ)V"⟩ : MethodName) (head1 (Jvm.Cond.code (⟨"com/example/avocet/avocet/charging/Bucket", "<init>", "(Ljava/lang/String;Ljava/lang/String;ZJJ)V"⟩ : MethodName) prog_3_method_2_code 8 none :: ws) ({ frames := 1, cells := 0, slots := 0, locals := 12 } : Room)) (fun a U => a = #[(.ref a1), (.ref s1), (.ref s2), (.int p4), (.long q4), (.long q5)] ∧ Z.Warmed39 U.vm ∧ U.heap = h0) (fun _ _ _ _ _ => True) (fun _ U o U' => ∃ v L, o = .returned v ∧ own_QI Z a1 p4 q4 h0 n0 v U'.heap L ∧ FrameEnd U o U' L ({ frames := 1, cells := 0, slots := 0, locals := 12 } : Room).cells ({ frames := 1, cells := 0, slots := 0, locals := 12 } : Room).slots) := by
  refine MetFree.of_bodySF (plainFor_of_name pn_0) hisR ?_
  intro p e s m args below meth c s₁ Bd hml0 hP hK
  obtain ⟨rfl, hZ, hh⟩ := hP
  have hx := Bd.exec
  have hby := Bd.bytes
  have hlk := Bd.notSynchronized
  have hret := Bd.returns
  have hml : c.maxLocals = 8 := hml0
  have hown : s.vm.findClass "com/example/avocet/avocet/charging/Bucket" = some m.cls := findClass_of_methodNamed Bd.named
  have hnm := (name_of_methodNamed Bd.named Bd.method).1
  have X0 : Stand p l e ({ frames := 1, cells := 0, slots := 0, locals := 12 } : Room) s m #[(.ref a1), (.ref s1), (.ref s2), (.int p4), (.long q4), (.long q5)] below meth c s₁ [] 0 0 := Stand.of_body Bd
  have e0 : s₁.heap = h0 := by rw [← hh, Bd.state]; rfl
  have N0 := Fr.nil n0
  show own_Dn p e below (own_Ret s (own_QI Z a1 p4 q4 h0 n0) ({ frames := 1, cells := 0, slots := 0, locals := 12 } : Room).cells ({ frames := 1, cells := 0, slots := 0, locals := 12 } : Room).slots) (s₁.setTop (entryFrame m #[(.ref a1), (.ref s1), (.ref s2), (.int p4), (.long q4), (.long q5)] 8))
  rw [ef_rm_i5]
  refine own_st (B := (s₁.setTop (mkF m 1 #[.val (.ref a1), .val (.ref s1), .val (.ref s2), .val (.int p4), .val (.long q4), .second, .val (.long q5), .second] [(.ref a1)]))) (fun _ k => XS.aloadN X0.here hx rfl (hb hby d1_0) rfl rfl k) ?_
  obtain ⟨T1, X1, e1, st1⟩ := initO X0 hx hZ hown (hw _ (List.mem_of_getElem? (i := 19) rfl)) (hw _ (List.mem_of_getElem? (i := 20) rfl)) (hw _ (List.mem_of_getElem? (i := 21) rfl)) e0 (g := (mkF m 1 #[.val (.ref a1), .val (.ref s1), .val (.ref s2), .val (.int p4), .val (.long q4), .second, .val (.long q5), .second] [(.ref a1)])) rfl (by rw [hml]; rfl) rfl (hb hby d1_1) (by decide) (W := 0) (by show 2 * 0 + _ ≤ _; exact Nat.le_of_eq rfl) (by decide)
  refine own_st (B := (T1.setTop (mkF m 4 #[.val (.ref a1), .val (.ref s1), .val (.ref s2), .val (.int p4), .val (.long q4), .second, .val (.long q5), .second] []))) st1 ?_
  have hnar : narrow .boolean (.int p4) = .int p4 := by rcases hd with rfl | rfl <;> rfl
  refine own_st (B := (T1.setTop (mkF m 5 #[.val (.ref a1), .val (.ref s1), .val (.ref s2), .val (.int p4), .val (.long q4), .second, .val (.long q5), .second] [(.ref a1)]))) (fun _ k => XS.aloadN X1.here hx rfl (hb hby d1_4) rfl rfl k) ?_
  refine own_st (B := (T1.setTop (mkF m 6 #[.val (.ref a1), .val (.ref s1), .val (.ref s2), .val (.int p4), .val (.long q4), .second, .val (.long q5), .second] [(.ref s1), (.ref a1)]))) (fun _ k => XS.aloadN X1.here hx rfl (hb hby d1_5) rfl rfl k) ?_
  obtain ⟨T2, h2, X2, e2, W2, st2⟩ := putF X1 hx hZ hown (host := "") (Or.inl (hw _ (List.mem_of_getElem? (i := 22) rfl))) Via.refl e1 G_subscriber EX (Or.inr ⟨(hw _ (List.mem_of_getElem? (i := 23) rfl)), rfl, hnm⟩) (hw _ (List.mem_of_getElem? (i := 2) rfl)) (ty := (.object "java/lang/String")) (by decide) rfl rfl (g := (mkF m 6 #[.val (.ref a1), .val (.ref s1), .val (.ref s2), .val (.int p4), .val (.long q4), .second, .val (.long q5), .second] [(.ref s1), (.ref a1)])) rfl rfl (hb hby d1_6)
  refine own_st (B := (T2.setTop (mkF m 9 #[.val (.ref a1), .val (.ref s1), .val (.ref s2), .val (.int p4), .val (.long q4), .second, .val (.long q5), .second] []))) st2 ?_
  have N2 := Fr.snoc X2 N0 ga
  have F2_subscriber := G_subscriber.same W2
  have F2_name := (G_name.other W2 (Or.inr (slot_ne (Or.inr (hw _ (List.mem_of_getElem? (i := 25) rfl))) (Or.inr (hw _ (List.mem_of_getElem? (i := 23) rfl))) (by decide) (t := (.object "java/lang/String")) (t' := (.object "java/lang/String")) (by decide) (by decide))))
  have F2_unlimited := (G_unlimited.other W2 (Or.inr (slot_ne (Or.inl (hw _ (List.mem_of_getElem? (i := 27) rfl))) (Or.inr (hw _ (List.mem_of_getElem? (i := 23) rfl))) (by decide) (t := .boolean) (t' := (.object "java/lang/String")) (by decide) (by decide))))
  have F2_available := (G_available.other W2 (Or.inr (slot_ne (Or.inl (hw _ (List.mem_of_getElem? (i := 29) rfl))) (Or.inr (hw _ (List.mem_of_getElem? (i := 23) rfl))) (by decide) (t := .long) (t' := (.object "java/lang/String")) (by decide) (by decide))))
  have F2_reserved := (G_reserved.other W2 (Or.inr (slot_ne (Or.inl (hw _ (List.mem_of_getElem? (i := 31) rfl))) (Or.inr (hw _ (List.mem_of_getElem? (i := 23) rfl))) (by decide) (t := .long) (t' := (.object "java/lang/String")) (by decide) (by decide))))
  have EX2 := EX.wr W2
  refine own_st (B := (T2.setTop (mkF m 10 #[.val (.ref a1), .val (.ref s1), .val (.ref s2), .val (.int p4), .val (.long q4), .second, .val (.long q5), .second] [(.ref a1)]))) (fun _ k => XS.aloadN X2.here hx rfl (hb hby d1_9) rfl rfl k) ?_
  refine own_st (B := (T2.setTop (mkF m 11 #[.val (.ref a1), .val (.ref s1), .val (.ref s2), .val (.int p4), .val (.long q4), .second, .val (.long q5), .second] [(.ref s2), (.ref a1)]))) (fun _ k => XS.aloadN X2.here hx rfl (hb hby d1_10) rfl rfl k) ?_
  obtain ⟨T3, h3, X3, e3, W3, st3⟩ := putF X2 hx hZ hown (host := "") (Or.inl (hw _ (List.mem_of_getElem? (i := 24) rfl))) Via.refl e2 F2_name EX2 (Or.inr ⟨(hw _ (List.mem_of_getElem? (i := 25) rfl)), rfl, hnm⟩) (hw _ (List.mem_of_getElem? (i := 2) rfl)) (ty := (.object "java/lang/String")) (by decide) rfl rfl (g := (mkF m 11 #[.val (.ref a1), .val (.ref s1), .val (.ref s2), .val (.int p4), .val (.long q4), .second, .val (.long q5), .second] [(.ref s2), (.ref a1)])) rfl rfl (hb hby d1_11)
  refine own_st (B := (T3.setTop (mkF m 14 #[.val (.ref a1), .val (.ref s1), .val (.ref s2), .val (.int p4), .val (.long q4), .second, .val (.long q5), .second] []))) st3 ?_
  have N3 := Fr.snoc X3 N2 ga
  have F3_subscriber := (F2_subscriber.other W3 (Or.inr (slot_ne (Or.inr (hw _ (List.mem_of_getElem? (i := 23) rfl))) (Or.inr (hw _ (List.mem_of_getElem? (i := 25) rfl))) (by decide) (t := (.object "java/lang/String")) (t' := (.object "java/lang/String")) (by decide) (by decide))))
  have F3_name := F2_name.same W3
  have F3_unlimited := (F2_unlimited.other W3 (Or.inr (slot_ne (Or.inl (hw _ (List.mem_of_getElem? (i := 27) rfl))) (Or.inr (hw _ (List.mem_of_getElem? (i := 25) rfl))) (by decide) (t := .boolean) (t' := (.object "java/lang/String")) (by decide) (by decide))))
  have F3_available := (F2_available.other W3 (Or.inr (slot_ne (Or.inl (hw _ (List.mem_of_getElem? (i := 29) rfl))) (Or.inr (hw _ (List.mem_of_getElem? (i := 25) rfl))) (by decide) (t := .long) (t' := (.object "java/lang/String")) (by decide) (by decide))))
  have F3_reserved := (F2_reserved.other W3 (Or.inr (slot_ne (Or.inl (hw _ (List.mem_of_getElem? (i := 31) rfl))) (Or.inr (hw _ (List.mem_of_getElem? (i := 25) rfl))) (by decide) (t := .long) (t' := (.object "java/lang/String")) (by decide) (by decide))))
  have EX3 := EX2.wr W3
  refine own_st (B := (T3.setTop (mkF m 15 #[.val (.ref a1), .val (.ref s1), .val (.ref s2), .val (.int p4), .val (.long q4), .second, .val (.long q5), .second] [(.ref a1)]))) (fun _ k => XS.aloadN X3.here hx rfl (hb hby d1_14) rfl rfl k) ?_
  refine own_st (B := (T3.setTop (mkF m 16 #[.val (.ref a1), .val (.ref s1), .val (.ref s2), .val (.int p4), .val (.long q4), .second, .val (.long q5), .second] [(.int p4), (.ref a1)]))) (fun _ k => XS.iloadN X3.here hx rfl (hb hby d1_15) rfl k) ?_
  obtain ⟨T4, h4, X4, e4, W4, st4⟩ := putFN X3 hx hZ hown (hw _ (List.mem_of_getElem? (i := 26) rfl)) Via.refl e3 F3_unlimited EX3 (Or.inl (hw _ (List.mem_of_getElem? (i := 27) rfl))) (hw _ (List.mem_of_getElem? (i := 2) rfl)) (ty := .boolean) (v' := (.int p4)) (by decide) hnar (by rcases hd with rfl | rfl <;> rfl) (g := (mkF m 16 #[.val (.ref a1), .val (.ref s1), .val (.ref s2), .val (.int p4), .val (.long q4), .second, .val (.long q5), .second] [(.int p4), (.ref a1)])) rfl rfl (hb hby d1_16)
  refine own_st (B := (T4.setTop (mkF m 19 #[.val (.ref a1), .val (.ref s1), .val (.ref s2), .val (.int p4), .val (.long q4), .second, .val (.long q5), .second] []))) st4 ?_
  have N4 := Fr.snoc X4 N3 ga
  have F4_subscriber := (F3_subscriber.other W4 (Or.inr (slot_ne (Or.inr (hw _ (List.mem_of_getElem? (i := 23) rfl))) (Or.inl (hw _ (List.mem_of_getElem? (i := 27) rfl))) (by decide) (t := (.object "java/lang/String")) (t' := .boolean) (by decide) (by decide))))
  have F4_name := (F3_name.other W4 (Or.inr (slot_ne (Or.inr (hw _ (List.mem_of_getElem? (i := 25) rfl))) (Or.inl (hw _ (List.mem_of_getElem? (i := 27) rfl))) (by decide) (t := (.object "java/lang/String")) (t' := .boolean) (by decide) (by decide))))
  have F4_unlimited := F3_unlimited.same W4
  have F4_available := (F3_available.other W4 (Or.inr (slot_ne (Or.inl (hw _ (List.mem_of_getElem? (i := 29) rfl))) (Or.inl (hw _ (List.mem_of_getElem? (i := 27) rfl))) (by decide) (t := .long) (t' := .boolean) (by decide) (by decide))))
  have F4_reserved := (F3_reserved.other W4 (Or.inr (slot_ne (Or.inl (hw _ (List.mem_of_getElem? (i := 31) rfl))) (Or.inl (hw _ (List.mem_of_getElem? (i := 27) rfl))) (by decide) (t := .long) (t' := .boolean) (by decide) (by decide))))
  have EX4 := EX3.wr W4
  refine own_st (B := (T4.setTop (mkF m 20 #[.val (.ref a1), .val (.ref s1), .val (.ref s2), .val (.int p4), .val (.long q4), .second, .val (.long q5), .second] [(.ref a1)]))) (fun _ k => XS.aloadN X4.here hx rfl (hb hby d1_19) rfl rfl k) ?_
  refine own_st (B := (T4.setTop (mkF m 22 #[.val (.ref a1), .val (.ref s1), .val (.ref s2), .val (.int p4), .val (.long q4), .second, .val (.long q5), .second] [(.long q4), (.ref a1)]))) (fun _ k => XS.lload X4.here hx rfl (hb hby d1_20) rfl k) ?_
  obtain ⟨T5, h5, X5, e5, W5, st5⟩ := putF X4 hx hZ hown (host := "") (Or.inl (hw _ (List.mem_of_getElem? (i := 28) rfl))) Via.refl e4 F4_available EX4 (Or.inl (hw _ (List.mem_of_getElem? (i := 29) rfl))) (hw _ (List.mem_of_getElem? (i := 2) rfl)) (ty := .long) (by decide) rfl rfl (g := (mkF m 22 #[.val (.ref a1), .val (.ref s1), .val (.ref s2), .val (.int p4), .val (.long q4), .second, .val (.long q5), .second] [(.long q4), (.ref a1)])) rfl rfl (hb hby d1_22)
  refine own_st (B := (T5.setTop (mkF m 25 #[.val (.ref a1), .val (.ref s1), .val (.ref s2), .val (.int p4), .val (.long q4), .second, .val (.long q5), .second] []))) st5 ?_
  have N5 := Fr.snoc X5 N4 ga
  have F5_subscriber := (F4_subscriber.other W5 (Or.inr (slot_ne (Or.inr (hw _ (List.mem_of_getElem? (i := 23) rfl))) (Or.inl (hw _ (List.mem_of_getElem? (i := 29) rfl))) (by decide) (t := (.object "java/lang/String")) (t' := .long) (by decide) (by decide))))
  have F5_name := (F4_name.other W5 (Or.inr (slot_ne (Or.inr (hw _ (List.mem_of_getElem? (i := 25) rfl))) (Or.inl (hw _ (List.mem_of_getElem? (i := 29) rfl))) (by decide) (t := (.object "java/lang/String")) (t' := .long) (by decide) (by decide))))
  have F5_unlimited := (F4_unlimited.other W5 (Or.inr (slot_ne (Or.inl (hw _ (List.mem_of_getElem? (i := 27) rfl))) (Or.inl (hw _ (List.mem_of_getElem? (i := 29) rfl))) (by decide) (t := .boolean) (t' := .long) (by decide) (by decide))))
  have F5_available := F4_available.same W5
  have F5_reserved := (F4_reserved.other W5 (Or.inr (slot_ne (Or.inl (hw _ (List.mem_of_getElem? (i := 31) rfl))) (Or.inl (hw _ (List.mem_of_getElem? (i := 29) rfl))) (by decide) (t := .long) (t' := .long) (by decide) (by decide))))
  have EX5 := EX4.wr W5
  refine own_st (B := (T5.setTop (mkF m 26 #[.val (.ref a1), .val (.ref s1), .val (.ref s2), .val (.int p4), .val (.long q4), .second, .val (.long q5), .second] [(.ref a1)]))) (fun _ k => XS.aloadN X5.here hx rfl (hb hby d1_25) rfl rfl k) ?_
  refine own_st (B := (T5.setTop (mkF m 28 #[.val (.ref a1), .val (.ref s1), .val (.ref s2), .val (.int p4), .val (.long q4), .second, .val (.long q5), .second] [(.long q5), (.ref a1)]))) (fun _ k => XS.lload X5.here hx rfl (hb hby d1_26) rfl k) ?_
  obtain ⟨T6, h6, X6, e6, W6, st6⟩ := putF X5 hx hZ hown (host := "") (Or.inl (hw _ (List.mem_of_getElem? (i := 30) rfl))) Via.refl e5 F5_reserved EX5 (Or.inl (hw _ (List.mem_of_getElem? (i := 31) rfl))) (hw _ (List.mem_of_getElem? (i := 2) rfl)) (ty := .long) (by decide) rfl rfl (g := (mkF m 28 #[.val (.ref a1), .val (.ref s1), .val (.ref s2), .val (.int p4), .val (.long q4), .second, .val (.long q5), .second] [(.long q5), (.ref a1)])) rfl rfl (hb hby d1_28)
  refine own_st (B := (T6.setTop (mkF m 31 #[.val (.ref a1), .val (.ref s1), .val (.ref s2), .val (.int p4), .val (.long q4), .second, .val (.long q5), .second] []))) st6 ?_
  have N6 := Fr.snoc X6 N5 ga
  have F6_subscriber := (F5_subscriber.other W6 (Or.inr (slot_ne (Or.inr (hw _ (List.mem_of_getElem? (i := 23) rfl))) (Or.inl (hw _ (List.mem_of_getElem? (i := 31) rfl))) (by decide) (t := (.object "java/lang/String")) (t' := .long) (by decide) (by decide))))
  have F6_name := (F5_name.other W6 (Or.inr (slot_ne (Or.inr (hw _ (List.mem_of_getElem? (i := 25) rfl))) (Or.inl (hw _ (List.mem_of_getElem? (i := 31) rfl))) (by decide) (t := (.object "java/lang/String")) (t' := .long) (by decide) (by decide))))
  have F6_unlimited := (F5_unlimited.other W6 (Or.inr (slot_ne (Or.inl (hw _ (List.mem_of_getElem? (i := 27) rfl))) (Or.inl (hw _ (List.mem_of_getElem? (i := 31) rfl))) (by decide) (t := .boolean) (t' := .long) (by decide) (by decide))))
  have F6_available := (F5_available.other W6 (Or.inr (slot_ne (Or.inl (hw _ (List.mem_of_getElem? (i := 29) rfl))) (Or.inl (hw _ (List.mem_of_getElem? (i := 31) rfl))) (by decide) (t := .long) (t' := .long) (by decide) (by decide))))
  have F6_reserved := F5_reserved.same W6
  have EX6 := EX5.wr W6
  have hsz : h0.size ≤ h6.size := by rw [W6.size, W5.size, W4.size, W3.size, W2.size]; exact Nat.le_refl _
  exact own_retV X6 hx hlk hret (hb hby d1_31) (by show own_QI Z a1 p4 q4 h0 n0 _ T6.heap _; rw [e6]; exact ⟨rfl, N6, hsz, EX6, F6_unlimited, F6_available⟩) (by decide) (by decide)
theorem d2_0 : decode prog_3_method_1_code 0 = .ok (.aload_n 0, 1) := by decide +kernel
theorem d2_1 : decode prog_3_method_1_code 1 = .ok (.aload_n 1, 1) := by decide +kernel
theorem d2_2 : decode prog_3_method_1_code 2 = .ok (.aload_n 2, 1) := by decide +kernel
theorem d2_3 : decode prog_3_method_1_code 3 = .ok (.iconst 0, 1) := by decide +kernel
theorem d2_4 : decode prog_3_method_1_code 4 = .ok (.lload_n 3, 1) := by decide +kernel
theorem d2_5 : decode prog_3_method_1_code 5 = .ok (.lconst 0, 1) := by decide +kernel
theorem pd_0 : parseMethodDescriptor "(Ljava/lang/String;Ljava/lang/String;ZJJ)V" = some ⟨[(.object "java/lang/String"), (.object "java/lang/String"), .boolean, .long, .long], none⟩ := by decide +kernel
theorem d2_6 : decode prog_3_method_1_code 6 = .ok (.invokespecial 1, 3) := by decide +kernel
theorem d2_9 : decode prog_3_method_1_code 9 = .ok (.lload_n 3, 1) := by decide +kernel
theorem d2_10 : decode prog_3_method_1_code 10 = .ok (.lconst 0, 1) := by decide +kernel
theorem d2_11 : decode prog_3_method_1_code 11 = .ok (.lcmp, 1) := by decide +kernel
theorem d2_12 : decode prog_3_method_1_code 12 = .ok (.ifCond .ge 17, 3) := by decide +kernel
theorem d2_29 : decode prog_3_method_1_code 29 = .ok (.return_, 1) := by decide +kernel
theorem ef_rm_i3 (m : MethodId) (x0 : Addr) (x1 : Addr) (x2 : Addr) (x3 : Int64) : entryFrame m #[(.ref x0), (.ref x1), (.ref x2), (.long x3)] 5 = mkF m 0 #[.val (.ref x0), .val (.ref x1), .val (.ref x2), .val (.long x3), .second] [] := by first | (simp [entryFrame, mkF, argsToLocals, Value.category]; done) | rfl
set_option maxRecDepth 65536 in
set_option maxHeartbeats 40000000 in
theorem rm_i3 (l : Launch) (Z : State) (a0 : Array Value) (hw : ∀ d ∈ tables_1, d.before a0 Z = true) (ws : List Jvm.Cond) (a1 s1 s2 : Addr) (q3 : Int64) (h0 : Heap) (n0 : Nat) (Z0 : n0 ≤ h0.size) (ga : n0 ≤ a1) (EX : Exa Z h0 a1 "com/example/avocet/avocet/charging/Bucket") (G_subscriber : Fld Z h0 a1 "com/example/avocet/avocet/charging/Bucket" "subscriber" "Ljava/lang/String;" .null) (G_name : Fld Z h0 a1 "com/example/avocet/avocet/charging/Bucket" "name" "Ljava/lang/String;" .null) (G_unlimited : Fld Z h0 a1 "com/example/avocet/avocet/charging/Bucket" "unlimited" "Z" (.int 0)) (G_available : Fld Z h0 a1 "com/example/avocet/avocet/charging/Bucket" "available" "J" (.long 0)) (G_reserved : Fld Z h0 a1 "com/example/avocet/avocet/charging/Bucket" "reserved" "J" (.long 0)) (hq : ¬ q3 < 0) :
    MetFree l (⟨"com/example/avocet/avocet/charging/Bucket", "<init>", "(Ljava/lang/String;Ljava/lang/String;J)V"⟩ : MethodName) (head1 (Jvm.Cond.code (⟨"com/example/avocet/avocet/charging/Bucket", "<init>", "(Ljava/lang/String;Ljava/lang/String;J)V"⟩ : MethodName) prog_3_method_1_code 5 none :: ws) ({ frames := 2, cells := 0, slots := 0, locals := 31 } : Room)) (fun a U => a = #[(.ref a1), (.ref s1), (.ref s2), (.long q3)] ∧ Z.Warmed39 U.vm ∧ U.heap = h0) (fun _ _ _ _ _ => True) (fun _ U o U' => ∃ v L, o = .returned v ∧ own_QI Z a1 0 q3 h0 n0 v U'.heap L ∧ FrameEnd U o U' L ({ frames := 2, cells := 0, slots := 0, locals := 31 } : Room).cells ({ frames := 2, cells := 0, slots := 0, locals := 31 } : Room).slots) := by
  refine MetFree.of_bodySF (plainFor_of_name pn_0) hisR ?_
  intro p e s m args below meth c s₁ Bd hml0 hP hK
  obtain ⟨rfl, hZ, hh⟩ := hP
  have hx := Bd.exec
  have hby := Bd.bytes
  have hlk := Bd.notSynchronized
  have hret := Bd.returns
  have hml : c.maxLocals = 5 := hml0
  have hown : s.vm.findClass "com/example/avocet/avocet/charging/Bucket" = some m.cls := findClass_of_methodNamed Bd.named
  have hnm := (name_of_methodNamed Bd.named Bd.method).1
  have X0 : Stand p l e ({ frames := 2, cells := 0, slots := 0, locals := 31 } : Room) s m #[(.ref a1), (.ref s1), (.ref s2), (.long q3)] below meth c s₁ [] 0 0 := Stand.of_body Bd
  have e0 : s₁.heap = h0 := by rw [← hh, Bd.state]; rfl
  have N0 := Fr.nil n0
  show own_Dn p e below (own_Ret s (own_QI Z a1 0 q3 h0 n0) ({ frames := 2, cells := 0, slots := 0, locals := 31 } : Room).cells ({ frames := 2, cells := 0, slots := 0, locals := 31 } : Room).slots) (s₁.setTop (entryFrame m #[(.ref a1), (.ref s1), (.ref s2), (.long q3)] 5))
  rw [ef_rm_i3]
  refine own_st (B := (s₁.setTop (mkF m 1 #[.val (.ref a1), .val (.ref s1), .val (.ref s2), .val (.long q3), .second] [(.ref a1)]))) (fun _ k => XS.aloadN X0.here hx rfl (hb hby d2_0) rfl rfl k) ?_
  refine own_st (B := (s₁.setTop (mkF m 2 #[.val (.ref a1), .val (.ref s1), .val (.ref s2), .val (.long q3), .second] [(.ref s1), (.ref a1)]))) (fun _ k => XS.aloadN X0.here hx rfl (hb hby d2_1) rfl rfl k) ?_
  refine own_st (B := (s₁.setTop (mkF m 3 #[.val (.ref a1), .val (.ref s1), .val (.ref s2), .val (.long q3), .second] [(.ref s2), (.ref s1), (.ref a1)]))) (fun _ k => XS.aloadN X0.here hx rfl (hb hby d2_2) rfl rfl k) ?_
  refine own_st (B := (s₁.setTop (mkF m 4 #[.val (.ref a1), .val (.ref s1), .val (.ref s2), .val (.long q3), .second] [(.int (0 : Int32)), (.ref s2), (.ref s1), (.ref a1)]))) (fun _ k => XS.iconst X0.here hx rfl (hb hby d2_3) k) ?_
  refine own_st (B := (s₁.setTop (mkF m 5 #[.val (.ref a1), .val (.ref s1), .val (.ref s2), .val (.long q3), .second] [(.long q3), (.int (0 : Int32)), (.ref s2), (.ref s1), (.ref a1)]))) (fun _ k => XS.lloadN X0.here hx rfl (hb hby d2_4) rfl k) ?_
  refine own_st (B := (s₁.setTop (mkF m 6 #[.val (.ref a1), .val (.ref s1), .val (.ref s2), .val (.long q3), .second] [(.long (0 : Int64)), (.long q3), (.int (0 : Int32)), (.ref s2), (.ref s1), (.ref a1)]))) (fun _ k => XS.lconst X0.here hx rfl (hb hby d2_5) k) ?_
  obtain ⟨v1, T1, L1, X1, Q1, st1⟩ := own_callN (W := 0) X0 hx hZ (y := (⟨"com/example/avocet/avocet/charging/Bucket", "<init>", "(Ljava/lang/String;Ljava/lang/String;ZJJ)V"⟩ : MethodName)) rfl hown (hw _ (List.mem_of_getElem? (i := 16) rfl)) (hw _ (List.mem_of_getElem? (i := 17) rfl)) (hw _ (List.mem_of_getElem? (i := 3) rfl)) (hw _ (List.mem_of_getElem? (i := 18) rfl)) (by decide) e0 (rm_i5 l Z a0 hw [] a1 s1 s2 0 q3 0 h0 n0 Z0 ga EX G_subscriber G_name G_unlimited G_available G_reserved (by decide)) (g := (mkF m 6 #[.val (.ref a1), .val (.ref s1), .val (.ref s2), .val (.long q3), .second] [(.long (0 : Int64)), (.long q3), (.int (0 : Int32)), (.ref s2), (.ref s1), (.ref a1)])) rfl (by rw [hml]; rfl) (a := a1) (argsL := [(.ref s1), (.ref s2), (.int (0 : Int32)), (.long q3), (.long (0 : Int64))]) (rest := []) (lenOf pd_0 rfl) rfl rfl (by show 2 * 0 + _ ≤ _; exact Nat.le_of_eq rfl) (hb hby d2_6) (by decide) (by decide) (by decide) (by decide)
  obtain ⟨rfl, N1q, hsz, EX1, FU1, FA1⟩ := Q1
  refine own_st (B := (T1.setTop (mkF m 9 #[.val (.ref a1), .val (.ref s1), .val (.ref s2), .val (.long q3), .second] []))) st1 ?_
  refine own_st (B := (T1.setTop (mkF m 10 #[.val (.ref a1), .val (.ref s1), .val (.ref s2), .val (.long q3), .second] [(.long q3)]))) (fun _ k => XS.lloadN X1.here hx rfl (hb hby d2_9) rfl k) ?_
  refine own_st (B := (T1.setTop (mkF m 11 #[.val (.ref a1), .val (.ref s1), .val (.ref s2), .val (.long q3), .second] [(.long (0 : Int64)), (.long q3)]))) (fun _ k => XS.lconst X1.here hx rfl (hb hby d2_10) k) ?_
  refine own_st (B := (T1.setTop (mkF m 12 #[.val (.ref a1), .val (.ref s1), .val (.ref s2), .val (.long q3), .second] [(.int (lcmpW q3 (0 : Int64)))]))) (fun _ k => XS.lcmp X1.here hx rfl (hb hby d2_11) rfl k) ?_
  refine own_st (B := (T1.setTop (mkF m 29 #[.val (.ref a1), .val (.ref s1), .val (.ref s2), .val (.long q3), .second] []))) (fun _ k => XS.ifYes X1.here hx rfl (pc0 := 12) (pc' := 29) rfl (hb hby d2_12) rfl ((if0 _ _).trans (flt (mt (lw_lt q3 (0 : Int64)).mp hq)).2.1) (by decide) (by decide) k) ?_
  exact own_retV X1 hx hlk hret (hb hby d2_29) (show own_QI Z a1 0 q3 h0 n0 _ T1.heap _ from ⟨rfl, Fr.app N0 N1q, hsz, EX1, FU1, FA1⟩) (by decide) (by decide)
theorem d3_0 : decode prog_3_method_3_code 0 = .ok (.new 2, 3) := by decide +kernel
theorem d3_3 : decode prog_3_method_3_code 3 = .ok (.dup, 1) := by decide +kernel
theorem d3_4 : decode prog_3_method_3_code 4 = .ok (.aload_n 0, 1) := by decide +kernel
theorem d3_5 : decode prog_3_method_3_code 5 = .ok (.aload_n 1, 1) := by decide +kernel
theorem d3_6 : decode prog_3_method_3_code 6 = .ok (.iconst 1, 1) := by decide +kernel
theorem d3_7 : decode prog_3_method_3_code 7 = .ok (.lconst 0, 1) := by decide +kernel
theorem d3_8 : decode prog_3_method_3_code 8 = .ok (.lconst 0, 1) := by decide +kernel
theorem d3_9 : decode prog_3_method_3_code 9 = .ok (.invokespecial 1, 3) := by decide +kernel
theorem d3_12 : decode prog_3_method_3_code 12 = .ok (.areturn, 1) := by decide +kernel
theorem ef_rm_u (m : MethodId) (x0 : Addr) (x1 : Addr) : entryFrame m #[(.ref x0), (.ref x1)] 2 = mkF m 0 #[.val (.ref x0), .val (.ref x1)] [] := by first | (simp [entryFrame, mkF, argsToLocals, Value.category]; done) | rfl
set_option maxRecDepth 65536 in
set_option maxHeartbeats 40000000 in
theorem rm_u (l : Launch) (Z : State) (a0 : Array Value) (hw : ∀ d ∈ tables_1, d.before a0 Z = true) (ws : List Jvm.Cond) (s1 s2 : Addr) (h0 : Heap) (n0 : Nat) (Z0 : n0 ≤ h0.size)  :
    MetFree l (⟨"com/example/avocet/avocet/charging/Bucket", "unlimited", "(Ljava/lang/String;Ljava/lang/String;)Lcom/example/avocet/avocet/charging/Bucket;"⟩ : MethodName) (head1 (Jvm.Cond.code (⟨"com/example/avocet/avocet/charging/Bucket", "unlimited", "(Ljava/lang/String;Ljava/lang/String;)Lcom/example/avocet/avocet/charging/Bucket;"⟩ : MethodName) prog_3_method_3_code 2 (some (.object "com/example/avocet/avocet/charging/Bucket")) :: ws) ({ frames := 2, cells := 1, slots := 7, locals := 32 } : Room)) (fun a U => a = #[(.ref s1), (.ref s2)] ∧ Z.Warmed39 U.vm ∧ U.heap = h0) (fun _ _ _ _ _ => True) (fun _ U o U' => ∃ v L, o = .returned v ∧ own_QU Z h0 n0 v U'.heap L ∧ FrameEnd U o U' L ({ frames := 2, cells := 1, slots := 7, locals := 32 } : Room).cells ({ frames := 2, cells := 1, slots := 7, locals := 32 } : Room).slots) := by
  refine MetFree.of_bodySF (plainFor_of_name pn_0) hisR ?_
  intro p e s m args below meth c s₁ Bd hml0 hP hK
  obtain ⟨rfl, hZ, hh⟩ := hP
  have hx := Bd.exec
  have hby := Bd.bytes
  have hlk := Bd.notSynchronized
  have hret := Bd.returns
  have hml : c.maxLocals = 2 := hml0
  have hown : s.vm.findClass "com/example/avocet/avocet/charging/Bucket" = some m.cls := findClass_of_methodNamed Bd.named
  have hnm := (name_of_methodNamed Bd.named Bd.method).1
  have X0 : Stand p l e ({ frames := 2, cells := 1, slots := 7, locals := 32 } : Room) s m #[(.ref s1), (.ref s2)] below meth c s₁ [] 0 0 := Stand.of_body Bd
  have e0 : s₁.heap = h0 := by rw [← hh, Bd.state]; rfl
  have N0 := Fr.nil n0
  show own_Dn p e below (own_Ret s (own_QU Z h0 n0) ({ frames := 2, cells := 1, slots := 7, locals := 32 } : Room).cells ({ frames := 2, cells := 1, slots := 7, locals := 32 } : Room).slots) (s₁.setTop (entryFrame m #[(.ref s1), (.ref s2)] 2))
  rw [ef_rm_u]
  obtain ⟨T1, h1, X1, e1, E1, A1, D1, -, st1⟩ := newO X0 hx hZ hown (hw _ (List.mem_of_getElem? (i := 46) rfl)) (hw _ (List.mem_of_getElem? (i := 2) rfl)) (hw _ (List.mem_of_getElem? (i := 3) rfl)) e0 (g := (mkF m 0 #[.val (.ref s1), .val (.ref s2)] [])) rfl (hb hby d3_0) (by decide) (by decide)
  obtain ⟨b1, g1⟩ : ∃ z, z = h0.size := ⟨_, rfl⟩
  rw [← g1] at A1 D1 st1
  have g_b1 : n0 ≤ b1 := Nat.le_trans Z0 (Nat.le_of_eq g1.symm)
  have F_subscriber_b1 : Fld Z h1 b1 "com/example/avocet/avocet/charging/Bucket" "subscriber" "Ljava/lang/String;" .null := D1 (Or.inr (hw _ (List.mem_of_getElem? (i := 23) rfl))) (ty := (.object "java/lang/String")) (by decide)
  have F_name_b1 : Fld Z h1 b1 "com/example/avocet/avocet/charging/Bucket" "name" "Ljava/lang/String;" .null := D1 (Or.inr (hw _ (List.mem_of_getElem? (i := 25) rfl))) (ty := (.object "java/lang/String")) (by decide)
  have F_unlimited_b1 : Fld Z h1 b1 "com/example/avocet/avocet/charging/Bucket" "unlimited" "Z" (.int (0 : Int32)) := D1 (Or.inl (hw _ (List.mem_of_getElem? (i := 27) rfl))) (ty := .boolean) (by decide)
  have F_available_b1 : Fld Z h1 b1 "com/example/avocet/avocet/charging/Bucket" "available" "J" (.long (0 : Int64)) := D1 (Or.inl (hw _ (List.mem_of_getElem? (i := 29) rfl))) (ty := .long) (by decide)
  have F_reserved_b1 : Fld Z h1 b1 "com/example/avocet/avocet/charging/Bucket" "reserved" "J" (.long (0 : Int64)) := D1 (Or.inl (hw _ (List.mem_of_getElem? (i := 31) rfl))) (ty := .long) (by decide)
  have Z1 : n0 ≤ h1.size := Nat.le_trans Z0 E1.1
  refine own_st (B := (T1.setTop (mkF m 3 #[.val (.ref s1), .val (.ref s2)] [(.ref b1)]))) st1 ?_
  refine own_st (B := (T1.setTop (mkF m 4 #[.val (.ref s1), .val (.ref s2)] [(.ref b1), (.ref b1)]))) (fun _ k => XS.dup X1.here hx rfl (hb hby d3_3) rfl rfl k) ?_
  refine own_st (B := (T1.setTop (mkF m 5 #[.val (.ref s1), .val (.ref s2)] [(.ref s1), (.ref b1), (.ref b1)]))) (fun _ k => XS.aloadN X1.here hx rfl (hb hby d3_4) rfl rfl k) ?_
  refine own_st (B := (T1.setTop (mkF m 6 #[.val (.ref s1), .val (.ref s2)] [(.ref s2), (.ref s1), (.ref b1), (.ref b1)]))) (fun _ k => XS.aloadN X1.here hx rfl (hb hby d3_5) rfl rfl k) ?_
  refine own_st (B := (T1.setTop (mkF m 7 #[.val (.ref s1), .val (.ref s2)] [(.int (1 : Int32)), (.ref s2), (.ref s1), (.ref b1), (.ref b1)]))) (fun _ k => XS.iconst X1.here hx rfl (hb hby d3_6) k) ?_
  refine own_st (B := (T1.setTop (mkF m 8 #[.val (.ref s1), .val (.ref s2)] [(.long (0 : Int64)), (.int (1 : Int32)), (.ref s2), (.ref s1), (.ref b1), (.ref b1)]))) (fun _ k => XS.lconst X1.here hx rfl (hb hby d3_7) k) ?_
  refine own_st (B := (T1.setTop (mkF m 9 #[.val (.ref s1), .val (.ref s2)] [(.long (0 : Int64)), (.long (0 : Int64)), (.int (1 : Int32)), (.ref s2), (.ref s1), (.ref b1), (.ref b1)]))) (fun _ k => XS.lconst X1.here hx rfl (hb hby d3_8) k) ?_
  obtain ⟨v2, T2, L2, X2, Q2, st2⟩ := own_callN (W := 1) X1 hx hZ (y := (⟨"com/example/avocet/avocet/charging/Bucket", "<init>", "(Ljava/lang/String;Ljava/lang/String;ZJJ)V"⟩ : MethodName)) rfl hown (hw _ (List.mem_of_getElem? (i := 16) rfl)) (hw _ (List.mem_of_getElem? (i := 17) rfl)) (hw _ (List.mem_of_getElem? (i := 3) rfl)) (hw _ (List.mem_of_getElem? (i := 18) rfl)) (by decide) e1 (rm_i5 l Z a0 hw [] b1 s1 s2 1 0 0 h1 n0 Z1 g_b1 A1 F_subscriber_b1 F_name_b1 F_unlimited_b1 F_available_b1 F_reserved_b1 (by decide)) (g := (mkF m 9 #[.val (.ref s1), .val (.ref s2)] [(.long (0 : Int64)), (.long (0 : Int64)), (.int (1 : Int32)), (.ref s2), (.ref s1), (.ref b1), (.ref b1)])) rfl (by rw [hml]; rfl) (a := b1) (argsL := [(.ref s1), (.ref s2), (.int (1 : Int32)), (.long (0 : Int64)), (.long (0 : Int64))]) (rest := [(.ref b1)]) (lenOf pd_0 rfl) rfl rfl (by show 2 * 0 + _ ≤ _; exact Nat.le_of_eq rfl) (hb hby d3_9) (by decide) (by decide) (by decide) (by decide)
  obtain ⟨rfl, N2q, hsz, EX2, FU2, FA2⟩ := Q2
  refine own_st (B := (T2.setTop (mkF m 12 #[.val (.ref s1), .val (.ref s2)] [(.ref b1)]))) st2 ?_
  exact own_retA X2 hx hlk hret rfl (hb hby d3_12) (show own_QU Z h0 n0 _ T2.heap _ from ⟨b1, rfl, Fr.app N0 N2q, Nat.le_trans E1.1 hsz, EX2, FU2, FA2⟩) (by decide) (by decide)
theorem d4_0 : decode prog_3_method_13_code 0 = .ok (.aload_n 0, 1) := by decide +kernel
theorem d4_1 : decode prog_3_method_13_code 1 = .ok (.getfield 28, 3) := by decide +kernel
theorem d4_4 : decode prog_3_method_13_code 4 = .ok (.ifCond .ne 16, 3) := by decide +kernel
theorem d4_7 : decode prog_3_method_13_code 7 = .ok (.lload_n 1, 1) := by decide +kernel
theorem d4_8 : decode prog_3_method_13_code 8 = .ok (.ldc2_w 41, 3) := by decide +kernel
theorem d4_11 : decode prog_3_method_13_code 11 = .ok (.aload_n 0, 1) := by decide +kernel
theorem d4_12 : decode prog_3_method_13_code 12 = .ok (.getfield 32, 3) := by decide +kernel
theorem d4_15 : decode prog_3_method_13_code 15 = .ok (.lsub, 1) := by decide +kernel
theorem d4_16 : decode prog_3_method_13_code 16 = .ok (.lcmp, 1) := by decide +kernel
theorem d4_17 : decode prog_3_method_13_code 17 = .ok (.ifCond .gt 7, 3) := by decide +kernel
theorem d4_24 : decode prog_3_method_13_code 24 = .ok (.iconst 0, 1) := by decide +kernel
theorem d4_25 : decode prog_3_method_13_code 25 = .ok (.ireturn, 1) := by decide +kernel
theorem d4_20 : decode prog_3_method_13_code 20 = .ok (.iconst 1, 1) := by decide +kernel
theorem d4_21 : decode prog_3_method_13_code 21 = .ok (.goto 4, 3) := by decide +kernel
theorem ef_rm_ref (m : MethodId) (x0 : Addr) (x1 : Int64) : entryFrame m #[(.ref x0), (.long x1)] 3 = mkF m 0 #[.val (.ref x0), .val (.long x1), .second] [] := by first | (simp [entryFrame, mkF, argsToLocals, Value.category]; done) | rfl
set_option maxRecDepth 65536 in
set_option maxHeartbeats 40000000 in
theorem rm_ref (l : Launch) (Z : State) (a0 : Array Value) (hw : ∀ d ∈ tables_1, d.before a0 Z = true) (ws : List Jvm.Cond) (a1 : Addr) (q2 : Int64) (z : Int32) (av : Int64) (r : Int32) (h0 : Heap) (FU : Fld Z h0 a1 "com/example/avocet/avocet/charging/Bucket" "unlimited" "Z" (.int z)) (FA : Fld Z h0 a1 "com/example/avocet/avocet/charging/Bucket" "available" "J" (.long av)) (hav : 0 ≤ av.toInt) (hr : (r = 1 ∧ (¬ z = 0 ∨ q2.toInt ≤ 9223372036854775807 - av.toInt)) ∨ (r = 0 ∧ ¬ (¬ z = 0 ∨ q2.toInt ≤ 9223372036854775807 - av.toInt))) :
    MetFree l (⟨"com/example/avocet/avocet/charging/Bucket", "refundable", "(J)Z"⟩ : MethodName) (head1 (Jvm.Cond.code (⟨"com/example/avocet/avocet/charging/Bucket", "refundable", "(J)Z"⟩ : MethodName) prog_3_method_13_code 3 (some .boolean) :: ws) ({ frames := 0, cells := 0, slots := 0, locals := 0 } : Room)) (fun a U => a = #[(.ref a1), (.long q2)] ∧ Z.Warmed39 U.vm ∧ U.heap = h0) (fun _ _ _ _ _ => True) (fun _ U o U' => ∃ v L, o = .returned v ∧ own_QP r h0 v U'.heap L ∧ FrameEnd U o U' L ({ frames := 0, cells := 0, slots := 0, locals := 0 } : Room).cells ({ frames := 0, cells := 0, slots := 0, locals := 0 } : Room).slots) := by
  refine MetFree.of_bodySF (plainFor_of_name pn_0) hisR ?_
  intro p e s m args below meth c s₁ Bd hml0 hP hK
  obtain ⟨rfl, hZ, hh⟩ := hP
  have hx := Bd.exec
  have hby := Bd.bytes
  have hlk := Bd.notSynchronized
  have hret := Bd.returns
  have hml : c.maxLocals = 3 := hml0
  have hown : s.vm.findClass "com/example/avocet/avocet/charging/Bucket" = some m.cls := findClass_of_methodNamed Bd.named
  have hnm := (name_of_methodNamed Bd.named Bd.method).1
  have X0 : Stand p l e ({ frames := 0, cells := 0, slots := 0, locals := 0 } : Room) s m #[(.ref a1), (.long q2)] below meth c s₁ [] 0 0 := Stand.of_body Bd
  have e0 : s₁.heap = h0 := by rw [← hh, Bd.state]; rfl
  show own_Dn p e below (own_Ret s (own_QP r h0) ({ frames := 0, cells := 0, slots := 0, locals := 0 } : Room).cells ({ frames := 0, cells := 0, slots := 0, locals := 0 } : Room).slots) (s₁.setTop (entryFrame m #[(.ref a1), (.long q2)] 3))
  rw [ef_rm_ref]
  refine own_st (B := (s₁.setTop (mkF m 1 #[.val (.ref a1), .val (.long q2), .second] [(.ref a1)]))) (fun _ k => XS.aloadN X0.here hx rfl (hb hby d4_0) rfl rfl k) ?_
  obtain ⟨T1, X1, e1, st1⟩ := getF X0 hx hZ hown (host := "") (Or.inl (hw _ (List.mem_of_getElem? (i := 26) rfl))) Via.refl e0 FU (g := (mkF m 1 #[.val (.ref a1), .val (.long q2), .second] [(.ref a1)])) rfl rfl (hb hby d4_1)
  refine own_st (B := (T1.setTop (mkF m 4 #[.val (.ref a1), .val (.long q2), .second] [(.int z)]))) st1 ?_
  by_cases c4 : z = (0 : Int32)
  · refine own_st (B := (T1.setTop (mkF m 7 #[.val (.ref a1), .val (.long q2), .second] []))) (fun _ k => XS.ifNo X1.here hx rfl (hb hby d4_4) rfl ((if0 _ _).trans (teq c4).2) k) ?_
    refine own_st (B := (T1.setTop (mkF m 8 #[.val (.ref a1), .val (.long q2), .second] [(.long q2)]))) (fun _ k => XS.lloadN X1.here hx rfl (hb hby d4_7) rfl k) ?_
    refine own_st (B := (T1.setTop (mkF m 11 #[.val (.ref a1), .val (.long q2), .second] [(.long (9223372036854775807 : Int64)), (.long q2)]))) (fun _ k => X1.ldc2Long hx hown (mvT hZ (hw _ (List.mem_of_getElem? (i := 37) rfl))) (g := (mkF m 8 #[.val (.ref a1), .val (.long q2), .second] [(.long q2)])) rfl (hb hby d4_8) _ k) ?_
    refine own_st (B := (T1.setTop (mkF m 12 #[.val (.ref a1), .val (.long q2), .second] [(.ref a1), (.long (9223372036854775807 : Int64)), (.long q2)]))) (fun _ k => XS.aloadN X1.here hx rfl (hb hby d4_11) rfl rfl k) ?_
    obtain ⟨T2, X2, e2, st2⟩ := getF X1 hx hZ hown (host := "") (Or.inl (hw _ (List.mem_of_getElem? (i := 28) rfl))) Via.refl e1 FA (g := (mkF m 12 #[.val (.ref a1), .val (.long q2), .second] [(.ref a1), (.long (9223372036854775807 : Int64)), (.long q2)])) rfl rfl (hb hby d4_12)
    refine own_st (B := (T2.setTop (mkF m 15 #[.val (.ref a1), .val (.long q2), .second] [(.long av), (.long (9223372036854775807 : Int64)), (.long q2)]))) st2 ?_
    refine own_st (B := (T2.setTop (mkF m 16 #[.val (.ref a1), .val (.long q2), .second] [(.long ((9223372036854775807 : Int64) - av)), (.long q2)]))) (fun _ k => XS.lsub X2.here hx rfl (hb hby d4_15) rfl k) ?_
    refine own_st (B := (T2.setTop (mkF m 17 #[.val (.ref a1), .val (.long q2), .second] [(.int (lcmpW q2 ((9223372036854775807 : Int64) - av)))]))) (fun _ k => XS.lcmp X2.here hx rfl (hb hby d4_16) rfl k) ?_
    by_cases c17_3 : ((9223372036854775807 : Int64) - av) < q2
    · refine own_st (B := (T2.setTop (mkF m 24 #[.val (.ref a1), .val (.long q2), .second] []))) (fun _ k => XS.ifYes X2.here hx rfl (pc0 := 17) (pc' := 24) rfl (hb hby d4_17) rfl ((if0 _ _).trans (tlt ((lw_gt q2 ((9223372036854775807 : Int64) - av)).mpr c17_3)).2.2.1) (by decide) (by decide) k) ?_
      refine own_st (B := (T2.setTop (mkF m 25 #[.val (.ref a1), .val (.long q2), .second] [(.int (0 : Int32))]))) (fun _ k => XS.iconst X2.here hx rfl (hb hby d4_24) k) ?_
      have i_c17_3 : ((9223372036854775807 : Int64) - av).toInt < q2.toInt := own_uL c17_3
      have hmx := own_max av hav
      obtain rfl := own_fl0 hr (fun q => q.elim (fun q => q c4) (fun q => by omega))
      exact own_retN X2 hx hlk (t := .boolean) hret (by simp) (hb hby d4_25) (by show own_QP 0 h0 _ T2.heap _; rw [e2]; exact ⟨rfl, rfl, rfl⟩) (by decide) (by decide)
    · refine own_st (B := (T2.setTop (mkF m 20 #[.val (.ref a1), .val (.long q2), .second] []))) (fun _ k => XS.ifNo X2.here hx rfl (hb hby d4_17) rfl ((if0 _ _).trans (flt (mt (lw_gt q2 ((9223372036854775807 : Int64) - av)).mp c17_3)).2.2.1) k) ?_
      refine own_st (B := (T2.setTop (mkF m 21 #[.val (.ref a1), .val (.long q2), .second] [(.int (1 : Int32))]))) (fun _ k => XS.iconst X2.here hx rfl (hb hby d4_20) k) ?_
      refine own_st (B := (T2.setTop (mkF m 25 #[.val (.ref a1), .val (.long q2), .second] [(.int (1 : Int32))]))) (fun _ k => XS.goto X2.here hx rfl (pc0 := 21) (pc' := 25) rfl (hb hby d4_21) (by decide) (by decide) k) ?_
      have i_c17_3 : ¬ ((9223372036854775807 : Int64) - av).toInt < q2.toInt := own_uLn c17_3
      have hmx := own_max av hav
      obtain rfl := own_fl1 hr (Or.inr (by omega))
      exact own_retN X2 hx hlk (t := .boolean) hret (by simp) (hb hby d4_25) (by show own_QP 1 h0 _ T2.heap _; rw [e2]; exact ⟨rfl, rfl, rfl⟩) (by decide) (by decide)
  · refine own_st (B := (T1.setTop (mkF m 20 #[.val (.ref a1), .val (.long q2), .second] []))) (fun _ k => XS.ifYes X1.here hx rfl (pc0 := 4) (pc' := 20) rfl (hb hby d4_4) rfl ((if0 _ _).trans (feq c4).2) (by decide) (by decide) k) ?_
    refine own_st (B := (T1.setTop (mkF m 21 #[.val (.ref a1), .val (.long q2), .second] [(.int (1 : Int32))]))) (fun _ k => XS.iconst X1.here hx rfl (hb hby d4_20) k) ?_
    refine own_st (B := (T1.setTop (mkF m 25 #[.val (.ref a1), .val (.long q2), .second] [(.int (1 : Int32))]))) (fun _ k => XS.goto X1.here hx rfl (pc0 := 21) (pc' := 25) rfl (hb hby d4_21) (by decide) (by decide) k) ?_
    obtain rfl := own_fl1 hr (Or.inl c4)
    exact own_retN X1 hx hlk (t := .boolean) hret (by simp) (hb hby d4_25) (by show own_QP 1 h0 _ T1.heap _; rw [e1]; exact ⟨rfl, rfl, rfl⟩) (by decide) (by decide)
theorem d5_0 : decode prog_3_method_7_code 0 = .ok (.aload_n 0, 1) := by decide +kernel
theorem d5_1 : decode prog_3_method_7_code 1 = .ok (.getfield 32, 3) := by decide +kernel
theorem d5_4 : decode prog_3_method_7_code 4 = .ok (.lreturn, 1) := by decide +kernel
theorem ef_rm_av (m : MethodId) (x0 : Addr) : entryFrame m #[(.ref x0)] 1 = mkF m 0 #[.val (.ref x0)] [] := by first | (simp [entryFrame, mkF, argsToLocals, Value.category]; done) | rfl
set_option maxRecDepth 65536 in
set_option maxHeartbeats 40000000 in
theorem rm_av (l : Launch) (Z : State) (a0 : Array Value) (hw : ∀ d ∈ tables_1, d.before a0 Z = true) (ws : List Jvm.Cond) (a1 : Addr) (av : Int64) (h0 : Heap) (FA : Fld Z h0 a1 "com/example/avocet/avocet/charging/Bucket" "available" "J" (.long av)) :
    MetFree l (⟨"com/example/avocet/avocet/charging/Bucket", "available", "()J"⟩ : MethodName) (head1 (Jvm.Cond.code (⟨"com/example/avocet/avocet/charging/Bucket", "available", "()J"⟩ : MethodName) prog_3_method_7_code 1 (some .long) :: ws) ({ frames := 0, cells := 0, slots := 0, locals := 0 } : Room)) (fun a U => a = #[(.ref a1)] ∧ Z.Warmed39 U.vm ∧ U.heap = h0) (fun _ _ _ _ _ => True) (fun _ U o U' => ∃ v L, o = .returned v ∧ own_QJ av h0 v U'.heap L ∧ FrameEnd U o U' L ({ frames := 0, cells := 0, slots := 0, locals := 0 } : Room).cells ({ frames := 0, cells := 0, slots := 0, locals := 0 } : Room).slots) := by
  refine MetFree.of_bodySF (plainFor_of_name pn_0) hisR ?_
  intro p e s m args below meth c s₁ Bd hml0 hP hK
  obtain ⟨rfl, hZ, hh⟩ := hP
  have hx := Bd.exec
  have hby := Bd.bytes
  have hlk := Bd.notSynchronized
  have hret := Bd.returns
  have hml : c.maxLocals = 1 := hml0
  have hown : s.vm.findClass "com/example/avocet/avocet/charging/Bucket" = some m.cls := findClass_of_methodNamed Bd.named
  have hnm := (name_of_methodNamed Bd.named Bd.method).1
  have X0 : Stand p l e ({ frames := 0, cells := 0, slots := 0, locals := 0 } : Room) s m #[(.ref a1)] below meth c s₁ [] 0 0 := Stand.of_body Bd
  have e0 : s₁.heap = h0 := by rw [← hh, Bd.state]; rfl
  show own_Dn p e below (own_Ret s (own_QJ av h0) ({ frames := 0, cells := 0, slots := 0, locals := 0 } : Room).cells ({ frames := 0, cells := 0, slots := 0, locals := 0 } : Room).slots) (s₁.setTop (entryFrame m #[(.ref a1)] 1))
  rw [ef_rm_av]
  refine own_st (B := (s₁.setTop (mkF m 1 #[.val (.ref a1)] [(.ref a1)]))) (fun _ k => XS.aloadN X0.here hx rfl (hb hby d5_0) rfl rfl k) ?_
  obtain ⟨T1, X1, e1, st1⟩ := getF X0 hx hZ hown (host := "") (Or.inl (hw _ (List.mem_of_getElem? (i := 28) rfl))) Via.refl e0 FA (g := (mkF m 1 #[.val (.ref a1)] [(.ref a1)])) rfl rfl (hb hby d5_1)
  refine own_st (B := (T1.setTop (mkF m 4 #[.val (.ref a1)] [(.long av)]))) st1 ?_
  exact own_retJ X1 hx hlk hret (hb hby d5_4) (by show own_QJ av h0 _ T1.heap _; rw [e1]; exact ⟨rfl, rfl, rfl⟩) (by decide) (by decide)
theorem pd_1 : parseMethodDescriptor "(Ljava/lang/String;Ljava/lang/String;J)V" = some ⟨[(.object "java/lang/String"), (.object "java/lang/String"), .long], none⟩ := by decide +kernel
theorem pd_2 : parseMethodDescriptor "(J)Z" = some ⟨[.long], some .boolean⟩ := by decide +kernel
theorem pd_3 : parseMethodDescriptor "()J" = some ⟨[], some .long⟩ := by decide +kernel
theorem pd_4 : parseMethodDescriptor "(Ljava/lang/String;Ljava/lang/String;)Lcom/example/avocet/avocet/charging/Bucket;" = some ⟨[(.object "java/lang/String"), (.object "java/lang/String")], some (.object "com/example/avocet/avocet/charging/Bucket")⟩ := by decide +kernel
theorem ef_rm_law (m : MethodId) (x0 : Int64) (x1 : Int64) (x2 : Int32) : entryFrame m #[(.long x0), (.long x1), (.int x2)] maxLocals = mkF m 0 #[.val (.long x0), .second, .val (.long x1), .second, .val (.int x2), .unset, .unset, .unset, .unset, .unset, .unset, .unset, .unset, .unset, .unset, .unset] [] := by first | (simp [entryFrame, mkF, argsToLocals, Value.category, maxLocals]; done) | rfl
theorem pn_1 : plainName "com/example/avocet/avocet/charging/BucketRefundablePinLaw" = true := by first | (simp [plainName, overriddenIn]; done) | decide +kernel
set_option maxRecDepth 65536 in
set_option maxHeartbeats 40000000 in
theorem rm_law (l : Launch) (Z : State) (a0 : Array Value) (hw : ∀ d ∈ tables_1, d.before a0 Z = true) (ws : List Jvm.Cond) (p1 p2 : Int64) (p3 : Int32) (h0 : Heap) (n0 : Nat) (Z0 : n0 ≤ h0.size)  :
    MetFree l x (head1 (Jvm.Cond.code x code maxLocals ret :: ws) room_1) (fun a U => a = #[(.long p1), (.long p2), (.int p3)] ∧ Z.Warmed39 U.vm ∧ U.heap = h0) (fun _ _ _ _ _ => True) (fun _ U o U' => ∃ v L, o = .returned v ∧ own_Q0 n0 v U'.heap L ∧ ReturnedEndW U o U' L 16 2176) := by
  refine MetFree.of_bodySF (plainFor_of_name pn_1) hisR ?_
  intro p e s m args below meth c s₁ Bd hml0 hP hK
  obtain ⟨rfl, hZ, hh⟩ := hP
  have hx := Bd.exec
  have hby := Bd.bytes
  have hlk := Bd.notSynchronized
  have hret := Bd.returns
  have hml : c.maxLocals = 16 := hml0
  have hown : s.vm.findClass "com/example/avocet/avocet/charging/BucketRefundablePinLaw" = some m.cls := findClass_of_methodNamed Bd.named
  have hnm := (name_of_methodNamed Bd.named Bd.method).1
  have X0 : Stand p l e room_1 (s.setVm s.vm) m #[(.long p1), (.long p2), (.int p3)] below meth c s₁ [] 0 0 := Stand.of_body Bd
  have e0 : s₁.heap = h0 := by rw [← hh, Bd.state]; rfl
  have N0 := Fr.nil n0
  have hS := own_since s
  show own_Dn p e below (own_RetW s (own_Q0 n0) 16 2176) (s₁.setTop (entryFrame m #[(.long p1), (.long p2), (.int p3)] maxLocals))
  rw [ef_rm_law]
  refine own_st (B := (s₁.setTop (mkF m 2 #[.val (.long p1), .second, .val (.long p2), .second, .val (.int p3), .unset, .unset, .unset, .unset, .unset, .unset, .unset, .unset, .unset, .unset, .unset] [(.int p3)]))) (fun _ k => XS.iload X0.here hx rfl (hb hby at_0) rfl k) ?_
  refine own_st (B := (s₁.setTop (mkF m 3 #[.val (.long p1), .second, .val (.long p2), .second, .val (.int p3), .unset, .unset, .unset, .unset, .unset, .unset, .unset, .unset, .unset, .unset, .unset] [(.int (1 : Int32)), (.int p3)]))) (fun _ k => XS.iconst X0.here hx rfl (hb hby at_2) k) ?_
  refine own_st (B := (s₁.setTop (mkF m 4 #[.val (.long p1), .second, .val (.long p2), .second, .val (.int p3), .unset, .unset, .unset, .unset, .unset, .unset, .unset, .unset, .unset, .unset, .unset] [(.int (p3 &&& (1 : Int32)))]))) (fun _ k => XS.iand X0.here hx rfl (hb hby at_3) rfl k) ?_
  by_cases c4 : (p3 &&& (1 : Int32)) = (0 : Int32)
  · refine own_st (B := (s₁.setTop (mkF m 11 #[.val (.long p1), .second, .val (.long p2), .second, .val (.int p3), .unset, .unset, .unset, .unset, .unset, .unset, .unset, .unset, .unset, .unset, .unset] []))) (fun _ k => XS.ifYes X0.here hx rfl (pc0 := 4) (pc' := 11) rfl (hb hby at_4) rfl ((if0 _ _).trans (teq c4).1) (by decide) (by decide) k) ?_
    refine own_st (B := (s₁.setTop (mkF m 12 #[.val (.long p1), .second, .val (.long p2), .second, .val (.int p3), .unset, .unset, .unset, .unset, .unset, .unset, .unset, .unset, .unset, .unset, .unset] [(.int (0 : Int32))]))) (fun _ k => XS.iconst X0.here hx rfl (hb hby at_11) k) ?_
    refine own_st (B := (s₁.setTop (mkF m 14 #[.val (.long p1), .second, .val (.long p2), .second, .val (.int p3), .val (.int (0 : Int32)), .unset, .unset, .unset, .unset, .unset, .unset, .unset, .unset, .unset, .unset] []))) (fun _ k => XS.istore X0.here hx rfl (hb hby at_12) rfl (l' := #[.val (.long p1), .second, .val (.long p2), .second, .val (.int p3), .val (.int (0 : Int32)), .unset, .unset, .unset, .unset, .unset, .unset, .unset, .unset, .unset, .unset]) rfl k) ?_
    refine own_st (B := (s₁.setTop (mkF m 15 #[.val (.long p1), .second, .val (.long p2), .second, .val (.int p3), .val (.int (0 : Int32)), .unset, .unset, .unset, .unset, .unset, .unset, .unset, .unset, .unset, .unset] [(.long p1)]))) (fun _ k => XS.lloadN X0.here hx rfl (hb hby at_14) rfl k) ?_
    refine own_st (B := (s₁.setTop (mkF m 18 #[.val (.long p1), .second, .val (.long p2), .second, .val (.int p3), .val (.int (0 : Int32)), .unset, .unset, .unset, .unset, .unset, .unset, .unset, .unset, .unset, .unset] [(.long (9223372036854775807 : Int64)), (.long p1)]))) (fun _ k => X0.ldc2Long hx hown (mvT hZ (hw _ (List.mem_of_getElem? (i := 0) rfl))) (g := (mkF m 15 #[.val (.long p1), .second, .val (.long p2), .second, .val (.int p3), .val (.int (0 : Int32)), .unset, .unset, .unset, .unset, .unset, .unset, .unset, .unset, .unset, .unset] [(.long p1)])) rfl (hb hby at_15) _ k) ?_
    refine own_st (B := (s₁.setTop (mkF m 19 #[.val (.long p1), .second, .val (.long p2), .second, .val (.int p3), .val (.int (0 : Int32)), .unset, .unset, .unset, .unset, .unset, .unset, .unset, .unset, .unset, .unset] [(.long (p1 &&& (9223372036854775807 : Int64)))]))) (fun _ k => XS.land X0.here hx rfl (hb hby at_18) rfl k) ?_
    refine own_st (B := (s₁.setTop (mkF m 21 #[.val (.long p1), .second, .val (.long p2), .second, .val (.int p3), .val (.int (0 : Int32)), .val (.long (p1 &&& (9223372036854775807 : Int64))), .second, .unset, .unset, .unset, .unset, .unset, .unset, .unset, .unset] []))) (fun _ k => XS.lstore X0.here hx rfl (hb hby at_19) rfl (l' := #[.val (.long p1), .second, .val (.long p2), .second, .val (.int p3), .val (.int (0 : Int32)), .val (.long (p1 &&& (9223372036854775807 : Int64))), .second, .unset, .unset, .unset, .unset, .unset, .unset, .unset, .unset]) rfl k) ?_
    have pua := own_m63 p1
    generalize (p1 &&& (9223372036854775807 : Int64)) = ua at *
    refine own_st (B := (s₁.setTop (mkF m 22 #[.val (.long p1), .second, .val (.long p2), .second, .val (.int p3), .val (.int (0 : Int32)), .val (.long ua), .second, .unset, .unset, .unset, .unset, .unset, .unset, .unset, .unset] [(.long p2)]))) (fun _ k => XS.lloadN X0.here hx rfl (hb hby at_21) rfl k) ?_
    refine own_st (B := (s₁.setTop (mkF m 24 #[.val (.long p1), .second, .val (.long p2), .second, .val (.int p3), .val (.int (0 : Int32)), .val (.long ua), .second, .val (.long p2), .second, .unset, .unset, .unset, .unset, .unset, .unset] []))) (fun _ k => XS.lstore X0.here hx rfl (hb hby at_22) rfl (l' := #[.val (.long p1), .second, .val (.long p2), .second, .val (.int p3), .val (.int (0 : Int32)), .val (.long ua), .second, .val (.long p2), .second, .unset, .unset, .unset, .unset, .unset, .unset]) rfl k) ?_
    refine own_st (B := (s₁.setTop (mkF m 26 #[.val (.long p1), .second, .val (.long p2), .second, .val (.int p3), .val (.int (0 : Int32)), .val (.long ua), .second, .val (.long p2), .second, .unset, .unset, .unset, .unset, .unset, .unset] [(.int p3)]))) (fun _ k => XS.iload X0.here hx rfl (hb hby at_24) rfl k) ?_
    refine own_st (B := (s₁.setTop (mkF m 27 #[.val (.long p1), .second, .val (.long p2), .second, .val (.int p3), .val (.int (0 : Int32)), .val (.long ua), .second, .val (.long p2), .second, .unset, .unset, .unset, .unset, .unset, .unset] [(.int (1 : Int32)), (.int p3)]))) (fun _ k => XS.iconst X0.here hx rfl (hb hby at_26) k) ?_
    refine own_st (B := (s₁.setTop (mkF m 28 #[.val (.long p1), .second, .val (.long p2), .second, .val (.int p3), .val (.int (0 : Int32)), .val (.long ua), .second, .val (.long p2), .second, .unset, .unset, .unset, .unset, .unset, .unset] [(.int ((p3.toUInt32 >>> ((1 : Int32) &&& 31).toUInt32).toInt32))]))) (fun _ k => XS.iushr X0.here hx rfl (hb hby at_27) rfl k) ?_
    refine own_st (B := (s₁.setTop (mkF m 29 #[.val (.long p1), .second, .val (.long p2), .second, .val (.int p3), .val (.int (0 : Int32)), .val (.long ua), .second, .val (.long p2), .second, .unset, .unset, .unset, .unset, .unset, .unset] [(.int (3 : Int32)), (.int ((p3.toUInt32 >>> ((1 : Int32) &&& 31).toUInt32).toInt32))]))) (fun _ k => XS.iconst X0.here hx rfl (hb hby at_28) k) ?_
    refine own_st (B := (s₁.setTop (mkF m 30 #[.val (.long p1), .second, .val (.long p2), .second, .val (.int p3), .val (.int (0 : Int32)), .val (.long ua), .second, .val (.long p2), .second, .unset, .unset, .unset, .unset, .unset, .unset] [(.int (((p3.toUInt32 >>> ((1 : Int32) &&& 31).toUInt32).toInt32) &&& (3 : Int32)))]))) (fun _ k => XS.iand X0.here hx rfl (hb hby at_29) rfl k) ?_
    refine own_st (B := (s₁.setTop (mkF m 32 #[.val (.long p1), .second, .val (.long p2), .second, .val (.int p3), .val (.int (0 : Int32)), .val (.long ua), .second, .val (.long p2), .second, .val (.int (((p3.toUInt32 >>> ((1 : Int32) &&& 31).toUInt32).toInt32) &&& (3 : Int32))), .unset, .unset, .unset, .unset, .unset] []))) (fun _ k => XS.istore X0.here hx rfl (hb hby at_30) rfl (l' := #[.val (.long p1), .second, .val (.long p2), .second, .val (.int p3), .val (.int (0 : Int32)), .val (.long ua), .second, .val (.long p2), .second, .val (.int (((p3.toUInt32 >>> ((1 : Int32) &&& 31).toUInt32).toInt32) &&& (3 : Int32))), .unset, .unset, .unset, .unset, .unset]) rfl k) ?_
    suffices KU : ∀ un : Int64, own_Dn p e below (own_RetW s (own_Q0 n0) 16 2176) (s₁.setTop (mkF m 65 #[.val (.long p1), .second, .val (.long p2), .second, .val (.int p3), .val (.int (0 : Int32)), .val (.long ua), .second, .val (.long un), .second, .val (.int (((p3.toUInt32 >>> ((1 : Int32) &&& 31).toUInt32).toInt32) &&& (3 : Int32))), .unset, .unset, .unset, .unset, .unset] [])) by
      refine own_st (B := (s₁.setTop (mkF m 34 #[.val (.long p1), .second, .val (.long p2), .second, .val (.int p3), .val (.int (0 : Int32)), .val (.long ua), .second, .val (.long p2), .second, .val (.int (((p3.toUInt32 >>> ((1 : Int32) &&& 31).toUInt32).toInt32) &&& (3 : Int32))), .unset, .unset, .unset, .unset, .unset] [(.int (((p3.toUInt32 >>> ((1 : Int32) &&& 31).toUInt32).toInt32) &&& (3 : Int32)))]))) (fun _ k => XS.iload X0.here hx rfl (hb hby at_32) rfl k) ?_
      refine own_st (B := (s₁.setTop (mkF m 35 #[.val (.long p1), .second, .val (.long p2), .second, .val (.int p3), .val (.int (0 : Int32)), .val (.long ua), .second, .val (.long p2), .second, .val (.int (((p3.toUInt32 >>> ((1 : Int32) &&& 31).toUInt32).toInt32) &&& (3 : Int32))), .unset, .unset, .unset, .unset, .unset] [(.int (1 : Int32)), (.int (((p3.toUInt32 >>> ((1 : Int32) &&& 31).toUInt32).toInt32) &&& (3 : Int32)))]))) (fun _ k => XS.iconst X0.here hx rfl (hb hby at_34) k) ?_
      by_cases c35_1 : (((p3.toUInt32 >>> ((1 : Int32) &&& 31).toUInt32).toInt32) &&& (3 : Int32)) = (1 : Int32)
      · refine own_st (B := (s₁.setTop (mkF m 38 #[.val (.long p1), .second, .val (.long p2), .second, .val (.int p3), .val (.int (0 : Int32)), .val (.long ua), .second, .val (.long p2), .second, .val (.int (((p3.toUInt32 >>> ((1 : Int32) &&& 31).toUInt32).toInt32) &&& (3 : Int32))), .unset, .unset, .unset, .unset, .unset] []))) (fun _ k => XS.icmpNo X0.here hx rfl (hb hby at_35) rfl (teq c35_1).2 k) ?_
        refine own_st (B := (s₁.setTop (mkF m 41 #[.val (.long p1), .second, .val (.long p2), .second, .val (.int p3), .val (.int (0 : Int32)), .val (.long ua), .second, .val (.long p2), .second, .val (.int (((p3.toUInt32 >>> ((1 : Int32) &&& 31).toUInt32).toInt32) &&& (3 : Int32))), .unset, .unset, .unset, .unset, .unset] [(.long (9223372036854775807 : Int64))]))) (fun _ k => X0.ldc2Long hx hown (mvT hZ (hw _ (List.mem_of_getElem? (i := 0) rfl))) (g := (mkF m 38 #[.val (.long p1), .second, .val (.long p2), .second, .val (.int p3), .val (.int (0 : Int32)), .val (.long ua), .second, .val (.long p2), .second, .val (.int (((p3.toUInt32 >>> ((1 : Int32) &&& 31).toUInt32).toInt32) &&& (3 : Int32))), .unset, .unset, .unset, .unset, .unset] [])) rfl (hb hby at_38) _ k) ?_
        refine own_st (B := (s₁.setTop (mkF m 43 #[.val (.long p1), .second, .val (.long p2), .second, .val (.int p3), .val (.int (0 : Int32)), .val (.long ua), .second, .val (.long p2), .second, .val (.int (((p3.toUInt32 >>> ((1 : Int32) &&& 31).toUInt32).toInt32) &&& (3 : Int32))), .unset, .unset, .unset, .unset, .unset] [(.long ua), (.long (9223372036854775807 : Int64))]))) (fun _ k => XS.lload X0.here hx rfl (hb hby at_41) rfl k) ?_
        refine own_st (B := (s₁.setTop (mkF m 44 #[.val (.long p1), .second, .val (.long p2), .second, .val (.int p3), .val (.int (0 : Int32)), .val (.long ua), .second, .val (.long p2), .second, .val (.int (((p3.toUInt32 >>> ((1 : Int32) &&& 31).toUInt32).toInt32) &&& (3 : Int32))), .unset, .unset, .unset, .unset, .unset] [(.long ((9223372036854775807 : Int64) - ua))]))) (fun _ k => XS.lsub X0.here hx rfl (hb hby at_43) rfl k) ?_
        refine own_st (B := (s₁.setTop (mkF m 46 #[.val (.long p1), .second, .val (.long p2), .second, .val (.int p3), .val (.int (0 : Int32)), .val (.long ua), .second, .val (.long ((9223372036854775807 : Int64) - ua)), .second, .val (.int (((p3.toUInt32 >>> ((1 : Int32) &&& 31).toUInt32).toInt32) &&& (3 : Int32))), .unset, .unset, .unset, .unset, .unset] []))) (fun _ k => XS.lstore X0.here hx rfl (hb hby at_44) rfl (l' := #[.val (.long p1), .second, .val (.long p2), .second, .val (.int p3), .val (.int (0 : Int32)), .val (.long ua), .second, .val (.long ((9223372036854775807 : Int64) - ua)), .second, .val (.int (((p3.toUInt32 >>> ((1 : Int32) &&& 31).toUInt32).toInt32) &&& (3 : Int32))), .unset, .unset, .unset, .unset, .unset]) rfl k) ?_
        refine own_st (B := (s₁.setTop (mkF m 65 #[.val (.long p1), .second, .val (.long p2), .second, .val (.int p3), .val (.int (0 : Int32)), .val (.long ua), .second, .val (.long ((9223372036854775807 : Int64) - ua)), .second, .val (.int (((p3.toUInt32 >>> ((1 : Int32) &&& 31).toUInt32).toInt32) &&& (3 : Int32))), .unset, .unset, .unset, .unset, .unset] []))) (fun _ k => XS.goto X0.here hx rfl (pc0 := 46) (pc' := 65) rfl (hb hby at_46) (by decide) (by decide) k) ?_
        exact KU _
      · refine own_st (B := (s₁.setTop (mkF m 49 #[.val (.long p1), .second, .val (.long p2), .second, .val (.int p3), .val (.int (0 : Int32)), .val (.long ua), .second, .val (.long p2), .second, .val (.int (((p3.toUInt32 >>> ((1 : Int32) &&& 31).toUInt32).toInt32) &&& (3 : Int32))), .unset, .unset, .unset, .unset, .unset] []))) (fun _ k => XS.icmpYes X0.here hx rfl (pc0 := 35) (pc' := 49) rfl (hb hby at_35) rfl (feq c35_1).2 (by decide) (by decide) k) ?_
        refine own_st (B := (s₁.setTop (mkF m 51 #[.val (.long p1), .second, .val (.long p2), .second, .val (.int p3), .val (.int (0 : Int32)), .val (.long ua), .second, .val (.long p2), .second, .val (.int (((p3.toUInt32 >>> ((1 : Int32) &&& 31).toUInt32).toInt32) &&& (3 : Int32))), .unset, .unset, .unset, .unset, .unset] [(.int (((p3.toUInt32 >>> ((1 : Int32) &&& 31).toUInt32).toInt32) &&& (3 : Int32)))]))) (fun _ k => XS.iload X0.here hx rfl (hb hby at_49) rfl k) ?_
        refine own_st (B := (s₁.setTop (mkF m 52 #[.val (.long p1), .second, .val (.long p2), .second, .val (.int p3), .val (.int (0 : Int32)), .val (.long ua), .second, .val (.long p2), .second, .val (.int (((p3.toUInt32 >>> ((1 : Int32) &&& 31).toUInt32).toInt32) &&& (3 : Int32))), .unset, .unset, .unset, .unset, .unset] [(.int (2 : Int32)), (.int (((p3.toUInt32 >>> ((1 : Int32) &&& 31).toUInt32).toInt32) &&& (3 : Int32)))]))) (fun _ k => XS.iconst X0.here hx rfl (hb hby at_51) k) ?_
        by_cases c52_2 : (((p3.toUInt32 >>> ((1 : Int32) &&& 31).toUInt32).toInt32) &&& (3 : Int32)) = (2 : Int32)
        · refine own_st (B := (s₁.setTop (mkF m 55 #[.val (.long p1), .second, .val (.long p2), .second, .val (.int p3), .val (.int (0 : Int32)), .val (.long ua), .second, .val (.long p2), .second, .val (.int (((p3.toUInt32 >>> ((1 : Int32) &&& 31).toUInt32).toInt32) &&& (3 : Int32))), .unset, .unset, .unset, .unset, .unset] []))) (fun _ k => XS.icmpNo X0.here hx rfl (hb hby at_52) rfl (teq c52_2).2 k) ?_
          refine own_st (B := (s₁.setTop (mkF m 58 #[.val (.long p1), .second, .val (.long p2), .second, .val (.int p3), .val (.int (0 : Int32)), .val (.long ua), .second, .val (.long p2), .second, .val (.int (((p3.toUInt32 >>> ((1 : Int32) &&& 31).toUInt32).toInt32) &&& (3 : Int32))), .unset, .unset, .unset, .unset, .unset] [(.long (9223372036854775807 : Int64))]))) (fun _ k => X0.ldc2Long hx hown (mvT hZ (hw _ (List.mem_of_getElem? (i := 0) rfl))) (g := (mkF m 55 #[.val (.long p1), .second, .val (.long p2), .second, .val (.int p3), .val (.int (0 : Int32)), .val (.long ua), .second, .val (.long p2), .second, .val (.int (((p3.toUInt32 >>> ((1 : Int32) &&& 31).toUInt32).toInt32) &&& (3 : Int32))), .unset, .unset, .unset, .unset, .unset] [])) rfl (hb hby at_55) _ k) ?_
          refine own_st (B := (s₁.setTop (mkF m 60 #[.val (.long p1), .second, .val (.long p2), .second, .val (.int p3), .val (.int (0 : Int32)), .val (.long ua), .second, .val (.long p2), .second, .val (.int (((p3.toUInt32 >>> ((1 : Int32) &&& 31).toUInt32).toInt32) &&& (3 : Int32))), .unset, .unset, .unset, .unset, .unset] [(.long ua), (.long (9223372036854775807 : Int64))]))) (fun _ k => XS.lload X0.here hx rfl (hb hby at_58) rfl k) ?_
          refine own_st (B := (s₁.setTop (mkF m 61 #[.val (.long p1), .second, .val (.long p2), .second, .val (.int p3), .val (.int (0 : Int32)), .val (.long ua), .second, .val (.long p2), .second, .val (.int (((p3.toUInt32 >>> ((1 : Int32) &&& 31).toUInt32).toInt32) &&& (3 : Int32))), .unset, .unset, .unset, .unset, .unset] [(.long ((9223372036854775807 : Int64) - ua))]))) (fun _ k => XS.lsub X0.here hx rfl (hb hby at_60) rfl k) ?_
          refine own_st (B := (s₁.setTop (mkF m 62 #[.val (.long p1), .second, .val (.long p2), .second, .val (.int p3), .val (.int (0 : Int32)), .val (.long ua), .second, .val (.long p2), .second, .val (.int (((p3.toUInt32 >>> ((1 : Int32) &&& 31).toUInt32).toInt32) &&& (3 : Int32))), .unset, .unset, .unset, .unset, .unset] [(.long (1 : Int64)), (.long ((9223372036854775807 : Int64) - ua))]))) (fun _ k => XS.lconst X0.here hx rfl (hb hby at_61) k) ?_
          refine own_st (B := (s₁.setTop (mkF m 63 #[.val (.long p1), .second, .val (.long p2), .second, .val (.int p3), .val (.int (0 : Int32)), .val (.long ua), .second, .val (.long p2), .second, .val (.int (((p3.toUInt32 >>> ((1 : Int32) &&& 31).toUInt32).toInt32) &&& (3 : Int32))), .unset, .unset, .unset, .unset, .unset] [(.long (((9223372036854775807 : Int64) - ua) + (1 : Int64)))]))) (fun _ k => XS.ladd X0.here hx rfl (hb hby at_62) rfl k) ?_
          refine own_st (B := (s₁.setTop (mkF m 65 #[.val (.long p1), .second, .val (.long p2), .second, .val (.int p3), .val (.int (0 : Int32)), .val (.long ua), .second, .val (.long (((9223372036854775807 : Int64) - ua) + (1 : Int64))), .second, .val (.int (((p3.toUInt32 >>> ((1 : Int32) &&& 31).toUInt32).toInt32) &&& (3 : Int32))), .unset, .unset, .unset, .unset, .unset] []))) (fun _ k => XS.lstore X0.here hx rfl (hb hby at_63) rfl (l' := #[.val (.long p1), .second, .val (.long p2), .second, .val (.int p3), .val (.int (0 : Int32)), .val (.long ua), .second, .val (.long (((9223372036854775807 : Int64) - ua) + (1 : Int64))), .second, .val (.int (((p3.toUInt32 >>> ((1 : Int32) &&& 31).toUInt32).toInt32) &&& (3 : Int32))), .unset, .unset, .unset, .unset, .unset]) rfl k) ?_
          exact KU _
        · refine own_st (B := (s₁.setTop (mkF m 65 #[.val (.long p1), .second, .val (.long p2), .second, .val (.int p3), .val (.int (0 : Int32)), .val (.long ua), .second, .val (.long p2), .second, .val (.int (((p3.toUInt32 >>> ((1 : Int32) &&& 31).toUInt32).toInt32) &&& (3 : Int32))), .unset, .unset, .unset, .unset, .unset] []))) (fun _ k => XS.icmpYes X0.here hx rfl (pc0 := 52) (pc' := 65) rfl (hb hby at_52) rfl (feq c52_2).2 (by decide) (by decide) k) ?_
          exact KU _
    intro un
    refine own_st (B := (s₁.setTop (mkF m 67 #[.val (.long p1), .second, .val (.long p2), .second, .val (.int p3), .val (.int (0 : Int32)), .val (.long ua), .second, .val (.long un), .second, .val (.int (((p3.toUInt32 >>> ((1 : Int32) &&& 31).toUInt32).toInt32) &&& (3 : Int32))), .unset, .unset, .unset, .unset, .unset] [(.int (0 : Int32))]))) (fun _ k => XS.iload X0.here hx rfl (hb hby at_65) rfl k) ?_
    refine own_st (B := (s₁.setTop (mkF m 80 #[.val (.long p1), .second, .val (.long p2), .second, .val (.int p3), .val (.int (0 : Int32)), .val (.long ua), .second, .val (.long un), .second, .val (.int (((p3.toUInt32 >>> ((1 : Int32) &&& 31).toUInt32).toInt32) &&& (3 : Int32))), .unset, .unset, .unset, .unset, .unset] []))) (fun _ k => XS.ifYes X0.here hx rfl (pc0 := 67) (pc' := 80) rfl (hb hby at_67) rfl ((if0 _ _).trans (teq (by decide)).1) (by decide) (by decide) k) ?_
    obtain ⟨T3, h3, X3, e3, E3, A3, D3, -, st3⟩ := newO X0 hx hZ hown (hw _ (List.mem_of_getElem? (i := 1) rfl)) (hw _ (List.mem_of_getElem? (i := 2) rfl)) (hw _ (List.mem_of_getElem? (i := 3) rfl)) e0 (g := (mkF m 80 #[.val (.long p1), .second, .val (.long p2), .second, .val (.int p3), .val (.int (0 : Int32)), .val (.long ua), .second, .val (.long un), .second, .val (.int (((p3.toUInt32 >>> ((1 : Int32) &&& 31).toUInt32).toInt32) &&& (3 : Int32))), .unset, .unset, .unset, .unset, .unset] [])) rfl (hb hby at_80) (by decide) (by decide)
    obtain ⟨b3, g3⟩ : ∃ z, z = h0.size := ⟨_, rfl⟩
    rw [← g3] at A3 D3 st3
    have g_b3 : n0 ≤ b3 := Nat.le_trans Z0 (Nat.le_of_eq g3.symm)
    have F_subscriber_b3 : Fld Z h3 b3 "com/example/avocet/avocet/charging/Bucket" "subscriber" "Ljava/lang/String;" .null := D3 (Or.inr (hw _ (List.mem_of_getElem? (i := 23) rfl))) (ty := (.object "java/lang/String")) (by decide)
    have F_name_b3 : Fld Z h3 b3 "com/example/avocet/avocet/charging/Bucket" "name" "Ljava/lang/String;" .null := D3 (Or.inr (hw _ (List.mem_of_getElem? (i := 25) rfl))) (ty := (.object "java/lang/String")) (by decide)
    have F_unlimited_b3 : Fld Z h3 b3 "com/example/avocet/avocet/charging/Bucket" "unlimited" "Z" (.int (0 : Int32)) := D3 (Or.inl (hw _ (List.mem_of_getElem? (i := 27) rfl))) (ty := .boolean) (by decide)
    have F_available_b3 : Fld Z h3 b3 "com/example/avocet/avocet/charging/Bucket" "available" "J" (.long (0 : Int64)) := D3 (Or.inl (hw _ (List.mem_of_getElem? (i := 29) rfl))) (ty := .long) (by decide)
    have F_reserved_b3 : Fld Z h3 b3 "com/example/avocet/avocet/charging/Bucket" "reserved" "J" (.long (0 : Int64)) := D3 (Or.inl (hw _ (List.mem_of_getElem? (i := 31) rfl))) (ty := .long) (by decide)
    have Z3 : n0 ≤ h3.size := Nat.le_trans Z0 E3.1
    refine own_st (B := (T3.setTop (mkF m 83 #[.val (.long p1), .second, .val (.long p2), .second, .val (.int p3), .val (.int (0 : Int32)), .val (.long ua), .second, .val (.long un), .second, .val (.int (((p3.toUInt32 >>> ((1 : Int32) &&& 31).toUInt32).toInt32) &&& (3 : Int32))), .unset, .unset, .unset, .unset, .unset] [(.ref b3)]))) st3 ?_
    refine own_st (B := (T3.setTop (mkF m 84 #[.val (.long p1), .second, .val (.long p2), .second, .val (.int p3), .val (.int (0 : Int32)), .val (.long ua), .second, .val (.long un), .second, .val (.int (((p3.toUInt32 >>> ((1 : Int32) &&& 31).toUInt32).toInt32) &&& (3 : Int32))), .unset, .unset, .unset, .unset, .unset] [(.ref b3), (.ref b3)]))) (fun _ k => XS.dup X3.here hx rfl (hb hby at_83) rfl rfl k) ?_
    obtain ⟨b4, T4, h4, k4, X4, e4, E4, hS4, hk4, hZ4, ho4, st4⟩ := ldcS (vm0 := s.vm) X3 hx hZ hown (hw _ (List.mem_of_getElem? (i := 4) rfl)) (own_wS hw) e3 hS (Nat.le_trans (Nat.zero_le _) E3.1) (g := (mkF m 84 #[.val (.long p1), .second, .val (.long p2), .second, .val (.int p3), .val (.int (0 : Int32)), .val (.long ua), .second, .val (.long un), .second, .val (.int (((p3.toUInt32 >>> ((1 : Int32) &&& 31).toUInt32).toInt32) &&& (3 : Int32))), .unset, .unset, .unset, .unset, .unset] [(.ref b3), (.ref b3)])) rfl (hb hby at_84) (n := 4) (by decide) (by decide) (by decide) (by decide)
    have hZ := hZ4
    have hown := ho4
    have hS := hS4
    refine own_st (B := (T4.setTop (mkF m 86 #[.val (.long p1), .second, .val (.long p2), .second, .val (.int p3), .val (.int (0 : Int32)), .val (.long ua), .second, .val (.long un), .second, .val (.int (((p3.toUInt32 >>> ((1 : Int32) &&& 31).toUInt32).toInt32) &&& (3 : Int32))), .unset, .unset, .unset, .unset, .unset] [(.ref b4), (.ref b3), (.ref b3)]))) st4 ?_
    obtain ⟨b5, T5, h5, k5, X5, e5, E5, hS5, hk5, hZ5, ho5, st5⟩ := ldcS (vm0 := T4.vm) X4 hx hZ hown (hw _ (List.mem_of_getElem? (i := 12) rfl)) (own_wS hw) e4 hS hk4 (g := (mkF m 86 #[.val (.long p1), .second, .val (.long p2), .second, .val (.int p3), .val (.int (0 : Int32)), .val (.long ua), .second, .val (.long un), .second, .val (.int (((p3.toUInt32 >>> ((1 : Int32) &&& 31).toUInt32).toInt32) &&& (3 : Int32))), .unset, .unset, .unset, .unset, .unset] [(.ref b4), (.ref b3), (.ref b3)])) rfl (hb hby at_86) (n := 4) (by decide) (by decide) (by decide) (by decide)
    have hZ := hZ5
    have hown := ho5
    have hS := hS5
    refine own_st (B := (T5.setTop (mkF m 88 #[.val (.long p1), .second, .val (.long p2), .second, .val (.int p3), .val (.int (0 : Int32)), .val (.long ua), .second, .val (.long un), .second, .val (.int (((p3.toUInt32 >>> ((1 : Int32) &&& 31).toUInt32).toInt32) &&& (3 : Int32))), .unset, .unset, .unset, .unset, .unset] [(.ref b5), (.ref b4), (.ref b3), (.ref b3)]))) st5 ?_
    refine own_st (B := (T5.setTop (mkF m 90 #[.val (.long p1), .second, .val (.long p2), .second, .val (.int p3), .val (.int (0 : Int32)), .val (.long ua), .second, .val (.long un), .second, .val (.int (((p3.toUInt32 >>> ((1 : Int32) &&& 31).toUInt32).toInt32) &&& (3 : Int32))), .unset, .unset, .unset, .unset, .unset] [(.long ua), (.ref b5), (.ref b4), (.ref b3), (.ref b3)]))) (fun _ k => XS.lload X5.here hx rfl (hb hby at_88) rfl k) ?_
    have hq : ¬ ua < 0 := fun q => by
      have q' := own_uL q
      have z0 : (0 : Int64).toInt = 0 := by decide
      rw [z0] at q'
      omega
    have ZS : n0 ≤ h5.size := Nat.le_trans (Nat.le_trans Z3 E4.1) E5.1
    obtain ⟨v6, T6, L6, X6, Q6, st6⟩ := own_callN (W := 1) X5 hx hZ (y := (⟨"com/example/avocet/avocet/charging/Bucket", "<init>", "(Ljava/lang/String;Ljava/lang/String;J)V"⟩ : MethodName)) rfl hown (hw _ (List.mem_of_getElem? (i := 13) rfl)) (hw _ (List.mem_of_getElem? (i := 14) rfl)) (hw _ (List.mem_of_getElem? (i := 3) rfl)) (hw _ (List.mem_of_getElem? (i := 15) rfl)) (by decide) e5 (rm_i3 l Z a0 hw [] b3 b4 b5 ua h5 n0 ZS g_b3 ((A3.ext E4).ext E5) ((F_subscriber_b3.ext E4).ext E5) ((F_name_b3.ext E4).ext E5) ((F_unlimited_b3.ext E4).ext E5) ((F_available_b3.ext E4).ext E5) ((F_reserved_b3.ext E4).ext E5) hq) (g := (mkF m 90 #[.val (.long p1), .second, .val (.long p2), .second, .val (.int p3), .val (.int (0 : Int32)), .val (.long ua), .second, .val (.long un), .second, .val (.int (((p3.toUInt32 >>> ((1 : Int32) &&& 31).toUInt32).toInt32) &&& (3 : Int32))), .unset, .unset, .unset, .unset, .unset] [(.long ua), (.ref b5), (.ref b4), (.ref b3), (.ref b3)])) rfl (by rw [hml]; rfl) (a := b3) (argsL := [(.ref b4), (.ref b5), (.long ua)]) (rest := [(.ref b3)]) (lenOf pd_1 rfl) rfl rfl (by show 2 * 0 + _ ≤ _; exact Nat.le_of_eq rfl) (hb hby at_90) (by decide) (by decide) (by decide) (by decide)
    obtain ⟨rfl, N6q, hsz, EX6, FU6, FA6⟩ := Q6
    refine own_st (B := (T6.setTop (mkF m 93 #[.val (.long p1), .second, .val (.long p2), .second, .val (.int p3), .val (.int (0 : Int32)), .val (.long ua), .second, .val (.long un), .second, .val (.int (((p3.toUInt32 >>> ((1 : Int32) &&& 31).toUInt32).toInt32) &&& (3 : Int32))), .unset, .unset, .unset, .unset, .unset] [(.ref b3)]))) st6 ?_
    have N6 := Fr.app N0 N6q
    refine own_st (B := (T6.setTop (mkF m 95 #[.val (.long p1), .second, .val (.long p2), .second, .val (.int p3), .val (.int (0 : Int32)), .val (.long ua), .second, .val (.long un), .second, .val (.int (((p3.toUInt32 >>> ((1 : Int32) &&& 31).toUInt32).toInt32) &&& (3 : Int32))), .val (.ref b3), .unset, .unset, .unset, .unset] []))) (fun _ k => XS.astore X6.here hx rfl (hb hby at_93) rfl rfl (l' := #[.val (.long p1), .second, .val (.long p2), .second, .val (.int p3), .val (.int (0 : Int32)), .val (.long ua), .second, .val (.long un), .second, .val (.int (((p3.toUInt32 >>> ((1 : Int32) &&& 31).toUInt32).toInt32) &&& (3 : Int32))), .val (.ref b3), .unset, .unset, .unset, .unset]) rfl k) ?_
    refine own_st (B := (T6.setTop (mkF m 97 #[.val (.long p1), .second, .val (.long p2), .second, .val (.int p3), .val (.int (0 : Int32)), .val (.long ua), .second, .val (.long un), .second, .val (.int (((p3.toUInt32 >>> ((1 : Int32) &&& 31).toUInt32).toInt32) &&& (3 : Int32))), .val (.ref b3), .unset, .unset, .unset, .unset] [(.int (0 : Int32))]))) (fun _ k => XS.iload X6.here hx rfl (hb hby at_95) rfl k) ?_
    refine own_st (B := (T6.setTop (mkF m 100 #[.val (.long p1), .second, .val (.long p2), .second, .val (.int p3), .val (.int (0 : Int32)), .val (.long ua), .second, .val (.long un), .second, .val (.int (((p3.toUInt32 >>> ((1 : Int32) &&& 31).toUInt32).toInt32) &&& (3 : Int32))), .val (.ref b3), .unset, .unset, .unset, .unset] []))) (fun _ k => XS.ifNo X6.here hx rfl (hb hby at_97) rfl ((if0 _ _).trans (teq (by decide)).2) k) ?_
    refine own_st (B := (T6.setTop (mkF m 102 #[.val (.long p1), .second, .val (.long p2), .second, .val (.int p3), .val (.int (0 : Int32)), .val (.long ua), .second, .val (.long un), .second, .val (.int (((p3.toUInt32 >>> ((1 : Int32) &&& 31).toUInt32).toInt32) &&& (3 : Int32))), .val (.ref b3), .unset, .unset, .unset, .unset] [(.long un)]))) (fun _ k => XS.lload X6.here hx rfl (hb hby at_100) rfl k) ?_
    refine own_st (B := (T6.setTop (mkF m 103 #[.val (.long p1), .second, .val (.long p2), .second, .val (.int p3), .val (.int (0 : Int32)), .val (.long ua), .second, .val (.long un), .second, .val (.int (((p3.toUInt32 >>> ((1 : Int32) &&& 31).toUInt32).toInt32) &&& (3 : Int32))), .val (.ref b3), .unset, .unset, .unset, .unset] [(.long (0 : Int64)), (.long un)]))) (fun _ k => XS.lconst X6.here hx rfl (hb hby at_102) k) ?_
    refine own_st (B := (T6.setTop (mkF m 104 #[.val (.long p1), .second, .val (.long p2), .second, .val (.int p3), .val (.int (0 : Int32)), .val (.long ua), .second, .val (.long un), .second, .val (.int (((p3.toUInt32 >>> ((1 : Int32) &&& 31).toUInt32).toInt32) &&& (3 : Int32))), .val (.ref b3), .unset, .unset, .unset, .unset] [(.int (lcmpW un (0 : Int64)))]))) (fun _ k => XS.lcmp X6.here hx rfl (hb hby at_103) rfl k) ?_
    by_cases cA : (0 : Int64) < un
    · refine own_st (B := (T6.setTop (mkF m 107 #[.val (.long p1), .second, .val (.long p2), .second, .val (.int p3), .val (.int (0 : Int32)), .val (.long ua), .second, .val (.long un), .second, .val (.int (((p3.toUInt32 >>> ((1 : Int32) &&& 31).toUInt32).toInt32) &&& (3 : Int32))), .val (.ref b3), .unset, .unset, .unset, .unset] []))) (fun _ k => XS.ifNo X6.here hx rfl (hb hby at_104) rfl ((if0 _ _).trans (tlt ((lw_gt un (0 : Int64)).mpr cA)).2.2.2) k) ?_
      refine own_st (B := (T6.setTop (mkF m 109 #[.val (.long p1), .second, .val (.long p2), .second, .val (.int p3), .val (.int (0 : Int32)), .val (.long ua), .second, .val (.long un), .second, .val (.int (((p3.toUInt32 >>> ((1 : Int32) &&& 31).toUInt32).toInt32) &&& (3 : Int32))), .val (.ref b3), .unset, .unset, .unset, .unset] [(.long ua)]))) (fun _ k => XS.lload X6.here hx rfl (hb hby at_107) rfl k) ?_
      refine own_st (B := (T6.setTop (mkF m 111 #[.val (.long p1), .second, .val (.long p2), .second, .val (.int p3), .val (.int (0 : Int32)), .val (.long ua), .second, .val (.long un), .second, .val (.int (((p3.toUInt32 >>> ((1 : Int32) &&& 31).toUInt32).toInt32) &&& (3 : Int32))), .val (.ref b3), .unset, .unset, .unset, .unset] [(.long un), (.long ua)]))) (fun _ k => XS.lload X6.here hx rfl (hb hby at_109) rfl k) ?_
      refine own_st (B := (T6.setTop (mkF m 112 #[.val (.long p1), .second, .val (.long p2), .second, .val (.int p3), .val (.int (0 : Int32)), .val (.long ua), .second, .val (.long un), .second, .val (.int (((p3.toUInt32 >>> ((1 : Int32) &&& 31).toUInt32).toInt32) &&& (3 : Int32))), .val (.ref b3), .unset, .unset, .unset, .unset] [(.long (ua + un))]))) (fun _ k => XS.ladd X6.here hx rfl (hb hby at_111) rfl k) ?_
      refine own_st (B := (T6.setTop (mkF m 113 #[.val (.long p1), .second, .val (.long p2), .second, .val (.int p3), .val (.int (0 : Int32)), .val (.long ua), .second, .val (.long un), .second, .val (.int (((p3.toUInt32 >>> ((1 : Int32) &&& 31).toUInt32).toInt32) &&& (3 : Int32))), .val (.ref b3), .unset, .unset, .unset, .unset] [(.long (0 : Int64)), (.long (ua + un))]))) (fun _ k => XS.lconst X6.here hx rfl (hb hby at_112) k) ?_
      refine own_st (B := (T6.setTop (mkF m 114 #[.val (.long p1), .second, .val (.long p2), .second, .val (.int p3), .val (.int (0 : Int32)), .val (.long ua), .second, .val (.long un), .second, .val (.int (((p3.toUInt32 >>> ((1 : Int32) &&& 31).toUInt32).toInt32) &&& (3 : Int32))), .val (.ref b3), .unset, .unset, .unset, .unset] [(.int (lcmpW (ua + un) (0 : Int64)))]))) (fun _ k => XS.lcmp X6.here hx rfl (hb hby at_113) rfl k) ?_
      have hs1 := c_ladd ua un
      have hs2 := rng64 (ua + un)
      have hs3 := rng64 un
      have hs4 := rng64 ua
      by_cases cB : (ua + un) < (0 : Int64)
      · refine own_st (B := (T6.setTop (mkF m 121 #[.val (.long p1), .second, .val (.long p2), .second, .val (.int p3), .val (.int (0 : Int32)), .val (.long ua), .second, .val (.long un), .second, .val (.int (((p3.toUInt32 >>> ((1 : Int32) &&& 31).toUInt32).toInt32) &&& (3 : Int32))), .val (.ref b3), .unset, .unset, .unset, .unset] []))) (fun _ k => XS.ifYes X6.here hx rfl (pc0 := 114) (pc' := 121) rfl (hb hby at_114) rfl ((if0 _ _).trans (tlt ((lw_lt (ua + un) (0 : Int64)).mpr cB)).1) (by decide) (by decide) k) ?_
        have i_cA : 0 < un.toInt := own_uL cA
        have i_cB : (ua + un).toInt < 0 := own_uL cB
        refine own_st (B := (T6.setTop (mkF m 122 #[.val (.long p1), .second, .val (.long p2), .second, .val (.int p3), .val (.int (0 : Int32)), .val (.long ua), .second, .val (.long un), .second, .val (.int (((p3.toUInt32 >>> ((1 : Int32) &&& 31).toUInt32).toInt32) &&& (3 : Int32))), .val (.ref b3), .unset, .unset, .unset, .unset] [(.int (0 : Int32))]))) (fun _ k => XS.iconst X6.here hx rfl (hb hby at_121) k) ?_
        refine own_st (B := (T6.setTop (mkF m 124 #[.val (.long p1), .second, .val (.long p2), .second, .val (.int p3), .val (.int (0 : Int32)), .val (.long ua), .second, .val (.long un), .second, .val (.int (((p3.toUInt32 >>> ((1 : Int32) &&& 31).toUInt32).toInt32) &&& (3 : Int32))), .val (.ref b3), .val (.int (0 : Int32)), .unset, .unset, .unset] []))) (fun _ k => XS.istore X6.here hx rfl (hb hby at_122) rfl (l' := #[.val (.long p1), .second, .val (.long p2), .second, .val (.int p3), .val (.int (0 : Int32)), .val (.long ua), .second, .val (.long un), .second, .val (.int (((p3.toUInt32 >>> ((1 : Int32) &&& 31).toUInt32).toInt32) &&& (3 : Int32))), .val (.ref b3), .val (.int (0 : Int32)), .unset, .unset, .unset]) rfl k) ?_
        refine own_st (B := (T6.setTop (mkF m 126 #[.val (.long p1), .second, .val (.long p2), .second, .val (.int p3), .val (.int (0 : Int32)), .val (.long ua), .second, .val (.long un), .second, .val (.int (((p3.toUInt32 >>> ((1 : Int32) &&& 31).toUInt32).toInt32) &&& (3 : Int32))), .val (.ref b3), .val (.int (0 : Int32)), .unset, .unset, .unset] [(.ref b3)]))) (fun _ k => XS.aload X6.here hx rfl (hb hby at_124) rfl rfl k) ?_
        refine own_st (B := (T6.setTop (mkF m 128 #[.val (.long p1), .second, .val (.long p2), .second, .val (.int p3), .val (.int (0 : Int32)), .val (.long ua), .second, .val (.long un), .second, .val (.int (((p3.toUInt32 >>> ((1 : Int32) &&& 31).toUInt32).toInt32) &&& (3 : Int32))), .val (.ref b3), .val (.int (0 : Int32)), .unset, .unset, .unset] [(.long un), (.ref b3)]))) (fun _ k => XS.lload X6.here hx rfl (hb hby at_126) rfl k) ?_
        obtain ⟨v7, T7, L7, X7, Q7, st7⟩ := own_callV (W := 0) X6 hx hZ (y := (⟨"com/example/avocet/avocet/charging/Bucket", "refundable", "(J)Z"⟩ : MethodName)) (z := (⟨"com/example/avocet/avocet/charging/Bucket", "refundable", "(J)Z"⟩ : MethodName)) hown (hw _ (List.mem_of_getElem? (i := 32) rfl)) (hw _ (List.mem_of_getElem? (i := 33) rfl)) (notFace_of_selects (args := #[]) (mvT hZ (hw _ (List.mem_of_getElem? (i := 35) rfl)))) (hw _ (List.mem_of_getElem? (i := 35) rfl)) (hw _ (List.mem_of_getElem? (i := 34) rfl)) (hw _ (List.mem_of_getElem? (i := 3) rfl)) (hw _ (List.mem_of_getElem? (i := 36) rfl)) (by decide) rfl (rm_ref l Z a0 hw [] b3 un 0 ua 0 T6.heap FU6 FA6 pua (Or.inr ⟨rfl, fun q => q.elim (fun q => q rfl) (fun q => by omega)⟩)) EX6 (g := (mkF m 128 #[.val (.long p1), .second, .val (.long p2), .second, .val (.int p3), .val (.int (0 : Int32)), .val (.long ua), .second, .val (.long un), .second, .val (.int (((p3.toUInt32 >>> ((1 : Int32) &&& 31).toUInt32).toInt32) &&& (3 : Int32))), .val (.ref b3), .val (.int (0 : Int32)), .unset, .unset, .unset] [(.long un), (.ref b3)])) rfl (by rw [hml]; rfl) (argsL := [(.long un)]) (rest := []) (lenOf pd_2 rfl) rfl rfl (by show 2 * 0 + _ ≤ _; exact Nat.le_of_eq rfl) (hb hby at_128) (by decide) (by decide) (by decide) (by decide)
        obtain ⟨rfl, rfl, q7⟩ := Q7
        refine own_st (B := (T7.setTop (mkF m 131 #[.val (.long p1), .second, .val (.long p2), .second, .val (.int p3), .val (.int (0 : Int32)), .val (.long ua), .second, .val (.long un), .second, .val (.int (((p3.toUInt32 >>> ((1 : Int32) &&& 31).toUInt32).toInt32) &&& (3 : Int32))), .val (.ref b3), .val (.int (0 : Int32)), .unset, .unset, .unset] [(.int (0 : Int32))]))) st7 ?_
        refine own_st (B := (T7.setTop (mkF m 133 #[.val (.long p1), .second, .val (.long p2), .second, .val (.int p3), .val (.int (0 : Int32)), .val (.long ua), .second, .val (.long un), .second, .val (.int (((p3.toUInt32 >>> ((1 : Int32) &&& 31).toUInt32).toInt32) &&& (3 : Int32))), .val (.ref b3), .val (.int (0 : Int32)), .val (.int (0 : Int32)), .unset, .unset] []))) (fun _ k => XS.istore X7.here hx rfl (hb hby at_131) rfl (l' := #[.val (.long p1), .second, .val (.long p2), .second, .val (.int p3), .val (.int (0 : Int32)), .val (.long ua), .second, .val (.long un), .second, .val (.int (((p3.toUInt32 >>> ((1 : Int32) &&& 31).toUInt32).toInt32) &&& (3 : Int32))), .val (.ref b3), .val (.int (0 : Int32)), .val (.int (0 : Int32)), .unset, .unset]) rfl k) ?_
        refine own_st (B := (T7.setTop (mkF m 135 #[.val (.long p1), .second, .val (.long p2), .second, .val (.int p3), .val (.int (0 : Int32)), .val (.long ua), .second, .val (.long un), .second, .val (.int (((p3.toUInt32 >>> ((1 : Int32) &&& 31).toUInt32).toInt32) &&& (3 : Int32))), .val (.ref b3), .val (.int (0 : Int32)), .val (.int (0 : Int32)), .unset, .unset] [(.ref b3)]))) (fun _ k => XS.aload X7.here hx rfl (hb hby at_133) rfl rfl k) ?_
        obtain ⟨v8, T8, L8, X8, Q8, st8⟩ := own_callV (W := 0) X7 hx hZ (y := (⟨"com/example/avocet/avocet/charging/Bucket", "available", "()J"⟩ : MethodName)) (z := (⟨"com/example/avocet/avocet/charging/Bucket", "available", "()J"⟩ : MethodName)) hown (hw _ (List.mem_of_getElem? (i := 38) rfl)) (hw _ (List.mem_of_getElem? (i := 39) rfl)) (notFace_of_selects (args := #[]) (mvT hZ (hw _ (List.mem_of_getElem? (i := 41) rfl)))) (hw _ (List.mem_of_getElem? (i := 41) rfl)) (hw _ (List.mem_of_getElem? (i := 40) rfl)) (hw _ (List.mem_of_getElem? (i := 3) rfl)) (hw _ (List.mem_of_getElem? (i := 42) rfl)) (by decide) q7 (rm_av l Z a0 hw [] b3 ua T6.heap FA6) EX6 (g := (mkF m 135 #[.val (.long p1), .second, .val (.long p2), .second, .val (.int p3), .val (.int (0 : Int32)), .val (.long ua), .second, .val (.long un), .second, .val (.int (((p3.toUInt32 >>> ((1 : Int32) &&& 31).toUInt32).toInt32) &&& (3 : Int32))), .val (.ref b3), .val (.int (0 : Int32)), .val (.int (0 : Int32)), .unset, .unset] [(.ref b3)])) rfl (by rw [hml]; rfl) (argsL := []) (rest := []) (lenOf pd_3 rfl) rfl rfl (by show 2 * 0 + _ ≤ _; exact Nat.le_of_eq rfl) (hb hby at_135) (by decide) (by decide) (by decide) (by decide)
        obtain ⟨rfl, rfl, q8⟩ := Q8
        refine own_st (B := (T8.setTop (mkF m 138 #[.val (.long p1), .second, .val (.long p2), .second, .val (.int p3), .val (.int (0 : Int32)), .val (.long ua), .second, .val (.long un), .second, .val (.int (((p3.toUInt32 >>> ((1 : Int32) &&& 31).toUInt32).toInt32) &&& (3 : Int32))), .val (.ref b3), .val (.int (0 : Int32)), .val (.int (0 : Int32)), .unset, .unset] [(.long ua)]))) st8 ?_
        refine own_st (B := (T8.setTop (mkF m 140 #[.val (.long p1), .second, .val (.long p2), .second, .val (.int p3), .val (.int (0 : Int32)), .val (.long ua), .second, .val (.long un), .second, .val (.int (((p3.toUInt32 >>> ((1 : Int32) &&& 31).toUInt32).toInt32) &&& (3 : Int32))), .val (.ref b3), .val (.int (0 : Int32)), .val (.int (0 : Int32)), .val (.long ua), .second] []))) (fun _ k => XS.lstore X8.here hx rfl (hb hby at_138) rfl (l' := #[.val (.long p1), .second, .val (.long p2), .second, .val (.int p3), .val (.int (0 : Int32)), .val (.long ua), .second, .val (.long un), .second, .val (.int (((p3.toUInt32 >>> ((1 : Int32) &&& 31).toUInt32).toInt32) &&& (3 : Int32))), .val (.ref b3), .val (.int (0 : Int32)), .val (.int (0 : Int32)), .val (.long ua), .second]) rfl k) ?_
        refine own_st (B := (T8.setTop (mkF m 142 #[.val (.long p1), .second, .val (.long p2), .second, .val (.int p3), .val (.int (0 : Int32)), .val (.long ua), .second, .val (.long un), .second, .val (.int (((p3.toUInt32 >>> ((1 : Int32) &&& 31).toUInt32).toInt32) &&& (3 : Int32))), .val (.ref b3), .val (.int (0 : Int32)), .val (.int (0 : Int32)), .val (.long ua), .second] [(.int (0 : Int32))]))) (fun _ k => XS.iload X8.here hx rfl (hb hby at_140) rfl k) ?_
        refine own_st (B := (T8.setTop (mkF m 144 #[.val (.long p1), .second, .val (.long p2), .second, .val (.int p3), .val (.int (0 : Int32)), .val (.long ua), .second, .val (.long un), .second, .val (.int (((p3.toUInt32 >>> ((1 : Int32) &&& 31).toUInt32).toInt32) &&& (3 : Int32))), .val (.ref b3), .val (.int (0 : Int32)), .val (.int (0 : Int32)), .val (.long ua), .second] [(.int (0 : Int32)), (.int (0 : Int32))]))) (fun _ k => XS.iload X8.here hx rfl (hb hby at_142) rfl k) ?_
        refine own_st (B := (T8.setTop (mkF m 147 #[.val (.long p1), .second, .val (.long p2), .second, .val (.int p3), .val (.int (0 : Int32)), .val (.long ua), .second, .val (.long un), .second, .val (.int (((p3.toUInt32 >>> ((1 : Int32) &&& 31).toUInt32).toInt32) &&& (3 : Int32))), .val (.ref b3), .val (.int (0 : Int32)), .val (.int (0 : Int32)), .val (.long ua), .second] []))) (fun _ k => XS.icmpNo X8.here hx rfl (hb hby at_144) rfl (teq (by decide)).2 k) ?_
        refine own_st (B := (T8.setTop (mkF m 149 #[.val (.long p1), .second, .val (.long p2), .second, .val (.int p3), .val (.int (0 : Int32)), .val (.long ua), .second, .val (.long un), .second, .val (.int (((p3.toUInt32 >>> ((1 : Int32) &&& 31).toUInt32).toInt32) &&& (3 : Int32))), .val (.ref b3), .val (.int (0 : Int32)), .val (.int (0 : Int32)), .val (.long ua), .second] [(.long ua)]))) (fun _ k => XS.lload X8.here hx rfl (hb hby at_147) rfl k) ?_
        refine own_st (B := (T8.setTop (mkF m 151 #[.val (.long p1), .second, .val (.long p2), .second, .val (.int p3), .val (.int (0 : Int32)), .val (.long ua), .second, .val (.long un), .second, .val (.int (((p3.toUInt32 >>> ((1 : Int32) &&& 31).toUInt32).toInt32) &&& (3 : Int32))), .val (.ref b3), .val (.int (0 : Int32)), .val (.int (0 : Int32)), .val (.long ua), .second] [(.int (0 : Int32)), (.long ua)]))) (fun _ k => XS.iload X8.here hx rfl (hb hby at_149) rfl k) ?_
        refine own_st (B := (T8.setTop (mkF m 158 #[.val (.long p1), .second, .val (.long p2), .second, .val (.int p3), .val (.int (0 : Int32)), .val (.long ua), .second, .val (.long un), .second, .val (.int (((p3.toUInt32 >>> ((1 : Int32) &&& 31).toUInt32).toInt32) &&& (3 : Int32))), .val (.ref b3), .val (.int (0 : Int32)), .val (.int (0 : Int32)), .val (.long ua), .second] [(.long ua)]))) (fun _ k => XS.ifYes X8.here hx rfl (pc0 := 151) (pc' := 158) rfl (hb hby at_151) rfl ((if0 _ _).trans (teq (by decide)).1) (by decide) (by decide) k) ?_
        refine own_st (B := (T8.setTop (mkF m 160 #[.val (.long p1), .second, .val (.long p2), .second, .val (.int p3), .val (.int (0 : Int32)), .val (.long ua), .second, .val (.long un), .second, .val (.int (((p3.toUInt32 >>> ((1 : Int32) &&& 31).toUInt32).toInt32) &&& (3 : Int32))), .val (.ref b3), .val (.int (0 : Int32)), .val (.int (0 : Int32)), .val (.long ua), .second] [(.long ua), (.long ua)]))) (fun _ k => XS.lload X8.here hx rfl (hb hby at_158) rfl k) ?_
        refine own_st (B := (T8.setTop (mkF m 161 #[.val (.long p1), .second, .val (.long p2), .second, .val (.int p3), .val (.int (0 : Int32)), .val (.long ua), .second, .val (.long un), .second, .val (.int (((p3.toUInt32 >>> ((1 : Int32) &&& 31).toUInt32).toInt32) &&& (3 : Int32))), .val (.ref b3), .val (.int (0 : Int32)), .val (.int (0 : Int32)), .val (.long ua), .second] [(.int (lcmpW ua ua))]))) (fun _ k => XS.lcmp X8.here hx rfl (hb hby at_160) rfl k) ?_
        refine own_st (B := (T8.setTop (mkF m 164 #[.val (.long p1), .second, .val (.long p2), .second, .val (.int p3), .val (.int (0 : Int32)), .val (.long ua), .second, .val (.long un), .second, .val (.int (((p3.toUInt32 >>> ((1 : Int32) &&& 31).toUInt32).toInt32) &&& (3 : Int32))), .val (.ref b3), .val (.int (0 : Int32)), .val (.int (0 : Int32)), .val (.long ua), .second] []))) (fun _ k => XS.ifNo X8.here hx rfl (hb hby at_161) rfl ((if0 _ _).trans (teq ((lw_eq ua ua).mpr rfl)).2) k) ?_
        refine own_st (B := (T8.setTop (mkF m 165 #[.val (.long p1), .second, .val (.long p2), .second, .val (.int p3), .val (.int (0 : Int32)), .val (.long ua), .second, .val (.long un), .second, .val (.int (((p3.toUInt32 >>> ((1 : Int32) &&& 31).toUInt32).toInt32) &&& (3 : Int32))), .val (.ref b3), .val (.int (0 : Int32)), .val (.int (0 : Int32)), .val (.long ua), .second] [(.int (1 : Int32))]))) (fun _ k => XS.iconst X8.here hx rfl (hb hby at_164) k) ?_
        refine own_st (B := (T8.setTop (mkF m 169 #[.val (.long p1), .second, .val (.long p2), .second, .val (.int p3), .val (.int (0 : Int32)), .val (.long ua), .second, .val (.long un), .second, .val (.int (((p3.toUInt32 >>> ((1 : Int32) &&& 31).toUInt32).toInt32) &&& (3 : Int32))), .val (.ref b3), .val (.int (0 : Int32)), .val (.int (0 : Int32)), .val (.long ua), .second] [(.int (1 : Int32))]))) (fun _ k => XS.goto X8.here hx rfl (pc0 := 165) (pc' := 169) rfl (hb hby at_165) (by decide) (by decide) k) ?_
        exact own_wretN X8 hS (by rw [q8]; exact (Nat.le_trans hk5 hsz)) hx hlk (t := .boolean) hret (by simp) (hb hby at_169) (by show own_Q0 n0 _ T8.heap _; rw [q8]; exact ⟨rfl, by simpa using N6⟩) (by decide) (by decide)
      · refine own_st (B := (T6.setTop (mkF m 117 #[.val (.long p1), .second, .val (.long p2), .second, .val (.int p3), .val (.int (0 : Int32)), .val (.long ua), .second, .val (.long un), .second, .val (.int (((p3.toUInt32 >>> ((1 : Int32) &&& 31).toUInt32).toInt32) &&& (3 : Int32))), .val (.ref b3), .unset, .unset, .unset, .unset] []))) (fun _ k => XS.ifNo X6.here hx rfl (hb hby at_114) rfl ((if0 _ _).trans (flt (mt (lw_lt (ua + un) (0 : Int64)).mp cB)).1) k) ?_
        have i_cA : 0 < un.toInt := own_uL cA
        have i_cB : ¬ (ua + un).toInt < 0 := own_uLn cB
        refine own_st (B := (T6.setTop (mkF m 118 #[.val (.long p1), .second, .val (.long p2), .second, .val (.int p3), .val (.int (0 : Int32)), .val (.long ua), .second, .val (.long un), .second, .val (.int (((p3.toUInt32 >>> ((1 : Int32) &&& 31).toUInt32).toInt32) &&& (3 : Int32))), .val (.ref b3), .unset, .unset, .unset, .unset] [(.int (1 : Int32))]))) (fun _ k => XS.iconst X6.here hx rfl (hb hby at_117) k) ?_
        refine own_st (B := (T6.setTop (mkF m 122 #[.val (.long p1), .second, .val (.long p2), .second, .val (.int p3), .val (.int (0 : Int32)), .val (.long ua), .second, .val (.long un), .second, .val (.int (((p3.toUInt32 >>> ((1 : Int32) &&& 31).toUInt32).toInt32) &&& (3 : Int32))), .val (.ref b3), .unset, .unset, .unset, .unset] [(.int (1 : Int32))]))) (fun _ k => XS.goto X6.here hx rfl (pc0 := 118) (pc' := 122) rfl (hb hby at_118) (by decide) (by decide) k) ?_
        refine own_st (B := (T6.setTop (mkF m 124 #[.val (.long p1), .second, .val (.long p2), .second, .val (.int p3), .val (.int (0 : Int32)), .val (.long ua), .second, .val (.long un), .second, .val (.int (((p3.toUInt32 >>> ((1 : Int32) &&& 31).toUInt32).toInt32) &&& (3 : Int32))), .val (.ref b3), .val (.int (1 : Int32)), .unset, .unset, .unset] []))) (fun _ k => XS.istore X6.here hx rfl (hb hby at_122) rfl (l' := #[.val (.long p1), .second, .val (.long p2), .second, .val (.int p3), .val (.int (0 : Int32)), .val (.long ua), .second, .val (.long un), .second, .val (.int (((p3.toUInt32 >>> ((1 : Int32) &&& 31).toUInt32).toInt32) &&& (3 : Int32))), .val (.ref b3), .val (.int (1 : Int32)), .unset, .unset, .unset]) rfl k) ?_
        refine own_st (B := (T6.setTop (mkF m 126 #[.val (.long p1), .second, .val (.long p2), .second, .val (.int p3), .val (.int (0 : Int32)), .val (.long ua), .second, .val (.long un), .second, .val (.int (((p3.toUInt32 >>> ((1 : Int32) &&& 31).toUInt32).toInt32) &&& (3 : Int32))), .val (.ref b3), .val (.int (1 : Int32)), .unset, .unset, .unset] [(.ref b3)]))) (fun _ k => XS.aload X6.here hx rfl (hb hby at_124) rfl rfl k) ?_
        refine own_st (B := (T6.setTop (mkF m 128 #[.val (.long p1), .second, .val (.long p2), .second, .val (.int p3), .val (.int (0 : Int32)), .val (.long ua), .second, .val (.long un), .second, .val (.int (((p3.toUInt32 >>> ((1 : Int32) &&& 31).toUInt32).toInt32) &&& (3 : Int32))), .val (.ref b3), .val (.int (1 : Int32)), .unset, .unset, .unset] [(.long un), (.ref b3)]))) (fun _ k => XS.lload X6.here hx rfl (hb hby at_126) rfl k) ?_
        obtain ⟨v9, T9, L9, X9, Q9, st9⟩ := own_callV (W := 0) X6 hx hZ (y := (⟨"com/example/avocet/avocet/charging/Bucket", "refundable", "(J)Z"⟩ : MethodName)) (z := (⟨"com/example/avocet/avocet/charging/Bucket", "refundable", "(J)Z"⟩ : MethodName)) hown (hw _ (List.mem_of_getElem? (i := 32) rfl)) (hw _ (List.mem_of_getElem? (i := 33) rfl)) (notFace_of_selects (args := #[]) (mvT hZ (hw _ (List.mem_of_getElem? (i := 35) rfl)))) (hw _ (List.mem_of_getElem? (i := 35) rfl)) (hw _ (List.mem_of_getElem? (i := 34) rfl)) (hw _ (List.mem_of_getElem? (i := 3) rfl)) (hw _ (List.mem_of_getElem? (i := 36) rfl)) (by decide) rfl (rm_ref l Z a0 hw [] b3 un 0 ua 1 T6.heap FU6 FA6 pua (Or.inl ⟨rfl, Or.inr (by omega)⟩)) EX6 (g := (mkF m 128 #[.val (.long p1), .second, .val (.long p2), .second, .val (.int p3), .val (.int (0 : Int32)), .val (.long ua), .second, .val (.long un), .second, .val (.int (((p3.toUInt32 >>> ((1 : Int32) &&& 31).toUInt32).toInt32) &&& (3 : Int32))), .val (.ref b3), .val (.int (1 : Int32)), .unset, .unset, .unset] [(.long un), (.ref b3)])) rfl (by rw [hml]; rfl) (argsL := [(.long un)]) (rest := []) (lenOf pd_2 rfl) rfl rfl (by show 2 * 0 + _ ≤ _; exact Nat.le_of_eq rfl) (hb hby at_128) (by decide) (by decide) (by decide) (by decide)
        obtain ⟨rfl, rfl, q9⟩ := Q9
        refine own_st (B := (T9.setTop (mkF m 131 #[.val (.long p1), .second, .val (.long p2), .second, .val (.int p3), .val (.int (0 : Int32)), .val (.long ua), .second, .val (.long un), .second, .val (.int (((p3.toUInt32 >>> ((1 : Int32) &&& 31).toUInt32).toInt32) &&& (3 : Int32))), .val (.ref b3), .val (.int (1 : Int32)), .unset, .unset, .unset] [(.int (1 : Int32))]))) st9 ?_
        refine own_st (B := (T9.setTop (mkF m 133 #[.val (.long p1), .second, .val (.long p2), .second, .val (.int p3), .val (.int (0 : Int32)), .val (.long ua), .second, .val (.long un), .second, .val (.int (((p3.toUInt32 >>> ((1 : Int32) &&& 31).toUInt32).toInt32) &&& (3 : Int32))), .val (.ref b3), .val (.int (1 : Int32)), .val (.int (1 : Int32)), .unset, .unset] []))) (fun _ k => XS.istore X9.here hx rfl (hb hby at_131) rfl (l' := #[.val (.long p1), .second, .val (.long p2), .second, .val (.int p3), .val (.int (0 : Int32)), .val (.long ua), .second, .val (.long un), .second, .val (.int (((p3.toUInt32 >>> ((1 : Int32) &&& 31).toUInt32).toInt32) &&& (3 : Int32))), .val (.ref b3), .val (.int (1 : Int32)), .val (.int (1 : Int32)), .unset, .unset]) rfl k) ?_
        refine own_st (B := (T9.setTop (mkF m 135 #[.val (.long p1), .second, .val (.long p2), .second, .val (.int p3), .val (.int (0 : Int32)), .val (.long ua), .second, .val (.long un), .second, .val (.int (((p3.toUInt32 >>> ((1 : Int32) &&& 31).toUInt32).toInt32) &&& (3 : Int32))), .val (.ref b3), .val (.int (1 : Int32)), .val (.int (1 : Int32)), .unset, .unset] [(.ref b3)]))) (fun _ k => XS.aload X9.here hx rfl (hb hby at_133) rfl rfl k) ?_
        obtain ⟨v10, T10, L10, X10, Q10, st10⟩ := own_callV (W := 0) X9 hx hZ (y := (⟨"com/example/avocet/avocet/charging/Bucket", "available", "()J"⟩ : MethodName)) (z := (⟨"com/example/avocet/avocet/charging/Bucket", "available", "()J"⟩ : MethodName)) hown (hw _ (List.mem_of_getElem? (i := 38) rfl)) (hw _ (List.mem_of_getElem? (i := 39) rfl)) (notFace_of_selects (args := #[]) (mvT hZ (hw _ (List.mem_of_getElem? (i := 41) rfl)))) (hw _ (List.mem_of_getElem? (i := 41) rfl)) (hw _ (List.mem_of_getElem? (i := 40) rfl)) (hw _ (List.mem_of_getElem? (i := 3) rfl)) (hw _ (List.mem_of_getElem? (i := 42) rfl)) (by decide) q9 (rm_av l Z a0 hw [] b3 ua T6.heap FA6) EX6 (g := (mkF m 135 #[.val (.long p1), .second, .val (.long p2), .second, .val (.int p3), .val (.int (0 : Int32)), .val (.long ua), .second, .val (.long un), .second, .val (.int (((p3.toUInt32 >>> ((1 : Int32) &&& 31).toUInt32).toInt32) &&& (3 : Int32))), .val (.ref b3), .val (.int (1 : Int32)), .val (.int (1 : Int32)), .unset, .unset] [(.ref b3)])) rfl (by rw [hml]; rfl) (argsL := []) (rest := []) (lenOf pd_3 rfl) rfl rfl (by show 2 * 0 + _ ≤ _; exact Nat.le_of_eq rfl) (hb hby at_135) (by decide) (by decide) (by decide) (by decide)
        obtain ⟨rfl, rfl, q10⟩ := Q10
        refine own_st (B := (T10.setTop (mkF m 138 #[.val (.long p1), .second, .val (.long p2), .second, .val (.int p3), .val (.int (0 : Int32)), .val (.long ua), .second, .val (.long un), .second, .val (.int (((p3.toUInt32 >>> ((1 : Int32) &&& 31).toUInt32).toInt32) &&& (3 : Int32))), .val (.ref b3), .val (.int (1 : Int32)), .val (.int (1 : Int32)), .unset, .unset] [(.long ua)]))) st10 ?_
        refine own_st (B := (T10.setTop (mkF m 140 #[.val (.long p1), .second, .val (.long p2), .second, .val (.int p3), .val (.int (0 : Int32)), .val (.long ua), .second, .val (.long un), .second, .val (.int (((p3.toUInt32 >>> ((1 : Int32) &&& 31).toUInt32).toInt32) &&& (3 : Int32))), .val (.ref b3), .val (.int (1 : Int32)), .val (.int (1 : Int32)), .val (.long ua), .second] []))) (fun _ k => XS.lstore X10.here hx rfl (hb hby at_138) rfl (l' := #[.val (.long p1), .second, .val (.long p2), .second, .val (.int p3), .val (.int (0 : Int32)), .val (.long ua), .second, .val (.long un), .second, .val (.int (((p3.toUInt32 >>> ((1 : Int32) &&& 31).toUInt32).toInt32) &&& (3 : Int32))), .val (.ref b3), .val (.int (1 : Int32)), .val (.int (1 : Int32)), .val (.long ua), .second]) rfl k) ?_
        refine own_st (B := (T10.setTop (mkF m 142 #[.val (.long p1), .second, .val (.long p2), .second, .val (.int p3), .val (.int (0 : Int32)), .val (.long ua), .second, .val (.long un), .second, .val (.int (((p3.toUInt32 >>> ((1 : Int32) &&& 31).toUInt32).toInt32) &&& (3 : Int32))), .val (.ref b3), .val (.int (1 : Int32)), .val (.int (1 : Int32)), .val (.long ua), .second] [(.int (1 : Int32))]))) (fun _ k => XS.iload X10.here hx rfl (hb hby at_140) rfl k) ?_
        refine own_st (B := (T10.setTop (mkF m 144 #[.val (.long p1), .second, .val (.long p2), .second, .val (.int p3), .val (.int (0 : Int32)), .val (.long ua), .second, .val (.long un), .second, .val (.int (((p3.toUInt32 >>> ((1 : Int32) &&& 31).toUInt32).toInt32) &&& (3 : Int32))), .val (.ref b3), .val (.int (1 : Int32)), .val (.int (1 : Int32)), .val (.long ua), .second] [(.int (1 : Int32)), (.int (1 : Int32))]))) (fun _ k => XS.iload X10.here hx rfl (hb hby at_142) rfl k) ?_
        refine own_st (B := (T10.setTop (mkF m 147 #[.val (.long p1), .second, .val (.long p2), .second, .val (.int p3), .val (.int (0 : Int32)), .val (.long ua), .second, .val (.long un), .second, .val (.int (((p3.toUInt32 >>> ((1 : Int32) &&& 31).toUInt32).toInt32) &&& (3 : Int32))), .val (.ref b3), .val (.int (1 : Int32)), .val (.int (1 : Int32)), .val (.long ua), .second] []))) (fun _ k => XS.icmpNo X10.here hx rfl (hb hby at_144) rfl (teq (by decide)).2 k) ?_
        refine own_st (B := (T10.setTop (mkF m 149 #[.val (.long p1), .second, .val (.long p2), .second, .val (.int p3), .val (.int (0 : Int32)), .val (.long ua), .second, .val (.long un), .second, .val (.int (((p3.toUInt32 >>> ((1 : Int32) &&& 31).toUInt32).toInt32) &&& (3 : Int32))), .val (.ref b3), .val (.int (1 : Int32)), .val (.int (1 : Int32)), .val (.long ua), .second] [(.long ua)]))) (fun _ k => XS.lload X10.here hx rfl (hb hby at_147) rfl k) ?_
        refine own_st (B := (T10.setTop (mkF m 151 #[.val (.long p1), .second, .val (.long p2), .second, .val (.int p3), .val (.int (0 : Int32)), .val (.long ua), .second, .val (.long un), .second, .val (.int (((p3.toUInt32 >>> ((1 : Int32) &&& 31).toUInt32).toInt32) &&& (3 : Int32))), .val (.ref b3), .val (.int (1 : Int32)), .val (.int (1 : Int32)), .val (.long ua), .second] [(.int (0 : Int32)), (.long ua)]))) (fun _ k => XS.iload X10.here hx rfl (hb hby at_149) rfl k) ?_
        refine own_st (B := (T10.setTop (mkF m 158 #[.val (.long p1), .second, .val (.long p2), .second, .val (.int p3), .val (.int (0 : Int32)), .val (.long ua), .second, .val (.long un), .second, .val (.int (((p3.toUInt32 >>> ((1 : Int32) &&& 31).toUInt32).toInt32) &&& (3 : Int32))), .val (.ref b3), .val (.int (1 : Int32)), .val (.int (1 : Int32)), .val (.long ua), .second] [(.long ua)]))) (fun _ k => XS.ifYes X10.here hx rfl (pc0 := 151) (pc' := 158) rfl (hb hby at_151) rfl ((if0 _ _).trans (teq (by decide)).1) (by decide) (by decide) k) ?_
        refine own_st (B := (T10.setTop (mkF m 160 #[.val (.long p1), .second, .val (.long p2), .second, .val (.int p3), .val (.int (0 : Int32)), .val (.long ua), .second, .val (.long un), .second, .val (.int (((p3.toUInt32 >>> ((1 : Int32) &&& 31).toUInt32).toInt32) &&& (3 : Int32))), .val (.ref b3), .val (.int (1 : Int32)), .val (.int (1 : Int32)), .val (.long ua), .second] [(.long ua), (.long ua)]))) (fun _ k => XS.lload X10.here hx rfl (hb hby at_158) rfl k) ?_
        refine own_st (B := (T10.setTop (mkF m 161 #[.val (.long p1), .second, .val (.long p2), .second, .val (.int p3), .val (.int (0 : Int32)), .val (.long ua), .second, .val (.long un), .second, .val (.int (((p3.toUInt32 >>> ((1 : Int32) &&& 31).toUInt32).toInt32) &&& (3 : Int32))), .val (.ref b3), .val (.int (1 : Int32)), .val (.int (1 : Int32)), .val (.long ua), .second] [(.int (lcmpW ua ua))]))) (fun _ k => XS.lcmp X10.here hx rfl (hb hby at_160) rfl k) ?_
        refine own_st (B := (T10.setTop (mkF m 164 #[.val (.long p1), .second, .val (.long p2), .second, .val (.int p3), .val (.int (0 : Int32)), .val (.long ua), .second, .val (.long un), .second, .val (.int (((p3.toUInt32 >>> ((1 : Int32) &&& 31).toUInt32).toInt32) &&& (3 : Int32))), .val (.ref b3), .val (.int (1 : Int32)), .val (.int (1 : Int32)), .val (.long ua), .second] []))) (fun _ k => XS.ifNo X10.here hx rfl (hb hby at_161) rfl ((if0 _ _).trans (teq ((lw_eq ua ua).mpr rfl)).2) k) ?_
        refine own_st (B := (T10.setTop (mkF m 165 #[.val (.long p1), .second, .val (.long p2), .second, .val (.int p3), .val (.int (0 : Int32)), .val (.long ua), .second, .val (.long un), .second, .val (.int (((p3.toUInt32 >>> ((1 : Int32) &&& 31).toUInt32).toInt32) &&& (3 : Int32))), .val (.ref b3), .val (.int (1 : Int32)), .val (.int (1 : Int32)), .val (.long ua), .second] [(.int (1 : Int32))]))) (fun _ k => XS.iconst X10.here hx rfl (hb hby at_164) k) ?_
        refine own_st (B := (T10.setTop (mkF m 169 #[.val (.long p1), .second, .val (.long p2), .second, .val (.int p3), .val (.int (0 : Int32)), .val (.long ua), .second, .val (.long un), .second, .val (.int (((p3.toUInt32 >>> ((1 : Int32) &&& 31).toUInt32).toInt32) &&& (3 : Int32))), .val (.ref b3), .val (.int (1 : Int32)), .val (.int (1 : Int32)), .val (.long ua), .second] [(.int (1 : Int32))]))) (fun _ k => XS.goto X10.here hx rfl (pc0 := 165) (pc' := 169) rfl (hb hby at_165) (by decide) (by decide) k) ?_
        exact own_wretN X10 hS (by rw [q10]; exact (Nat.le_trans hk5 hsz)) hx hlk (t := .boolean) hret (by simp) (hb hby at_169) (by show own_Q0 n0 _ T10.heap _; rw [q10]; exact ⟨rfl, by simpa using N6⟩) (by decide) (by decide)
    · refine own_st (B := (T6.setTop (mkF m 117 #[.val (.long p1), .second, .val (.long p2), .second, .val (.int p3), .val (.int (0 : Int32)), .val (.long ua), .second, .val (.long un), .second, .val (.int (((p3.toUInt32 >>> ((1 : Int32) &&& 31).toUInt32).toInt32) &&& (3 : Int32))), .val (.ref b3), .unset, .unset, .unset, .unset] []))) (fun _ k => XS.ifYes X6.here hx rfl (pc0 := 104) (pc' := 117) rfl (hb hby at_104) rfl ((if0 _ _).trans (flt (mt (lw_gt un (0 : Int64)).mp cA)).2.2.2) (by decide) (by decide) k) ?_
      have i_cA : ¬ 0 < un.toInt := own_uLn cA
      have hs4 := rng64 ua
      refine own_st (B := (T6.setTop (mkF m 118 #[.val (.long p1), .second, .val (.long p2), .second, .val (.int p3), .val (.int (0 : Int32)), .val (.long ua), .second, .val (.long un), .second, .val (.int (((p3.toUInt32 >>> ((1 : Int32) &&& 31).toUInt32).toInt32) &&& (3 : Int32))), .val (.ref b3), .unset, .unset, .unset, .unset] [(.int (1 : Int32))]))) (fun _ k => XS.iconst X6.here hx rfl (hb hby at_117) k) ?_
      refine own_st (B := (T6.setTop (mkF m 122 #[.val (.long p1), .second, .val (.long p2), .second, .val (.int p3), .val (.int (0 : Int32)), .val (.long ua), .second, .val (.long un), .second, .val (.int (((p3.toUInt32 >>> ((1 : Int32) &&& 31).toUInt32).toInt32) &&& (3 : Int32))), .val (.ref b3), .unset, .unset, .unset, .unset] [(.int (1 : Int32))]))) (fun _ k => XS.goto X6.here hx rfl (pc0 := 118) (pc' := 122) rfl (hb hby at_118) (by decide) (by decide) k) ?_
      refine own_st (B := (T6.setTop (mkF m 124 #[.val (.long p1), .second, .val (.long p2), .second, .val (.int p3), .val (.int (0 : Int32)), .val (.long ua), .second, .val (.long un), .second, .val (.int (((p3.toUInt32 >>> ((1 : Int32) &&& 31).toUInt32).toInt32) &&& (3 : Int32))), .val (.ref b3), .val (.int (1 : Int32)), .unset, .unset, .unset] []))) (fun _ k => XS.istore X6.here hx rfl (hb hby at_122) rfl (l' := #[.val (.long p1), .second, .val (.long p2), .second, .val (.int p3), .val (.int (0 : Int32)), .val (.long ua), .second, .val (.long un), .second, .val (.int (((p3.toUInt32 >>> ((1 : Int32) &&& 31).toUInt32).toInt32) &&& (3 : Int32))), .val (.ref b3), .val (.int (1 : Int32)), .unset, .unset, .unset]) rfl k) ?_
      refine own_st (B := (T6.setTop (mkF m 126 #[.val (.long p1), .second, .val (.long p2), .second, .val (.int p3), .val (.int (0 : Int32)), .val (.long ua), .second, .val (.long un), .second, .val (.int (((p3.toUInt32 >>> ((1 : Int32) &&& 31).toUInt32).toInt32) &&& (3 : Int32))), .val (.ref b3), .val (.int (1 : Int32)), .unset, .unset, .unset] [(.ref b3)]))) (fun _ k => XS.aload X6.here hx rfl (hb hby at_124) rfl rfl k) ?_
      refine own_st (B := (T6.setTop (mkF m 128 #[.val (.long p1), .second, .val (.long p2), .second, .val (.int p3), .val (.int (0 : Int32)), .val (.long ua), .second, .val (.long un), .second, .val (.int (((p3.toUInt32 >>> ((1 : Int32) &&& 31).toUInt32).toInt32) &&& (3 : Int32))), .val (.ref b3), .val (.int (1 : Int32)), .unset, .unset, .unset] [(.long un), (.ref b3)]))) (fun _ k => XS.lload X6.here hx rfl (hb hby at_126) rfl k) ?_
      obtain ⟨v11, T11, L11, X11, Q11, st11⟩ := own_callV (W := 0) X6 hx hZ (y := (⟨"com/example/avocet/avocet/charging/Bucket", "refundable", "(J)Z"⟩ : MethodName)) (z := (⟨"com/example/avocet/avocet/charging/Bucket", "refundable", "(J)Z"⟩ : MethodName)) hown (hw _ (List.mem_of_getElem? (i := 32) rfl)) (hw _ (List.mem_of_getElem? (i := 33) rfl)) (notFace_of_selects (args := #[]) (mvT hZ (hw _ (List.mem_of_getElem? (i := 35) rfl)))) (hw _ (List.mem_of_getElem? (i := 35) rfl)) (hw _ (List.mem_of_getElem? (i := 34) rfl)) (hw _ (List.mem_of_getElem? (i := 3) rfl)) (hw _ (List.mem_of_getElem? (i := 36) rfl)) (by decide) rfl (rm_ref l Z a0 hw [] b3 un 0 ua 1 T6.heap FU6 FA6 pua (Or.inl ⟨rfl, Or.inr (by omega)⟩)) EX6 (g := (mkF m 128 #[.val (.long p1), .second, .val (.long p2), .second, .val (.int p3), .val (.int (0 : Int32)), .val (.long ua), .second, .val (.long un), .second, .val (.int (((p3.toUInt32 >>> ((1 : Int32) &&& 31).toUInt32).toInt32) &&& (3 : Int32))), .val (.ref b3), .val (.int (1 : Int32)), .unset, .unset, .unset] [(.long un), (.ref b3)])) rfl (by rw [hml]; rfl) (argsL := [(.long un)]) (rest := []) (lenOf pd_2 rfl) rfl rfl (by show 2 * 0 + _ ≤ _; exact Nat.le_of_eq rfl) (hb hby at_128) (by decide) (by decide) (by decide) (by decide)
      obtain ⟨rfl, rfl, q11⟩ := Q11
      refine own_st (B := (T11.setTop (mkF m 131 #[.val (.long p1), .second, .val (.long p2), .second, .val (.int p3), .val (.int (0 : Int32)), .val (.long ua), .second, .val (.long un), .second, .val (.int (((p3.toUInt32 >>> ((1 : Int32) &&& 31).toUInt32).toInt32) &&& (3 : Int32))), .val (.ref b3), .val (.int (1 : Int32)), .unset, .unset, .unset] [(.int (1 : Int32))]))) st11 ?_
      refine own_st (B := (T11.setTop (mkF m 133 #[.val (.long p1), .second, .val (.long p2), .second, .val (.int p3), .val (.int (0 : Int32)), .val (.long ua), .second, .val (.long un), .second, .val (.int (((p3.toUInt32 >>> ((1 : Int32) &&& 31).toUInt32).toInt32) &&& (3 : Int32))), .val (.ref b3), .val (.int (1 : Int32)), .val (.int (1 : Int32)), .unset, .unset] []))) (fun _ k => XS.istore X11.here hx rfl (hb hby at_131) rfl (l' := #[.val (.long p1), .second, .val (.long p2), .second, .val (.int p3), .val (.int (0 : Int32)), .val (.long ua), .second, .val (.long un), .second, .val (.int (((p3.toUInt32 >>> ((1 : Int32) &&& 31).toUInt32).toInt32) &&& (3 : Int32))), .val (.ref b3), .val (.int (1 : Int32)), .val (.int (1 : Int32)), .unset, .unset]) rfl k) ?_
      refine own_st (B := (T11.setTop (mkF m 135 #[.val (.long p1), .second, .val (.long p2), .second, .val (.int p3), .val (.int (0 : Int32)), .val (.long ua), .second, .val (.long un), .second, .val (.int (((p3.toUInt32 >>> ((1 : Int32) &&& 31).toUInt32).toInt32) &&& (3 : Int32))), .val (.ref b3), .val (.int (1 : Int32)), .val (.int (1 : Int32)), .unset, .unset] [(.ref b3)]))) (fun _ k => XS.aload X11.here hx rfl (hb hby at_133) rfl rfl k) ?_
      obtain ⟨v12, T12, L12, X12, Q12, st12⟩ := own_callV (W := 0) X11 hx hZ (y := (⟨"com/example/avocet/avocet/charging/Bucket", "available", "()J"⟩ : MethodName)) (z := (⟨"com/example/avocet/avocet/charging/Bucket", "available", "()J"⟩ : MethodName)) hown (hw _ (List.mem_of_getElem? (i := 38) rfl)) (hw _ (List.mem_of_getElem? (i := 39) rfl)) (notFace_of_selects (args := #[]) (mvT hZ (hw _ (List.mem_of_getElem? (i := 41) rfl)))) (hw _ (List.mem_of_getElem? (i := 41) rfl)) (hw _ (List.mem_of_getElem? (i := 40) rfl)) (hw _ (List.mem_of_getElem? (i := 3) rfl)) (hw _ (List.mem_of_getElem? (i := 42) rfl)) (by decide) q11 (rm_av l Z a0 hw [] b3 ua T6.heap FA6) EX6 (g := (mkF m 135 #[.val (.long p1), .second, .val (.long p2), .second, .val (.int p3), .val (.int (0 : Int32)), .val (.long ua), .second, .val (.long un), .second, .val (.int (((p3.toUInt32 >>> ((1 : Int32) &&& 31).toUInt32).toInt32) &&& (3 : Int32))), .val (.ref b3), .val (.int (1 : Int32)), .val (.int (1 : Int32)), .unset, .unset] [(.ref b3)])) rfl (by rw [hml]; rfl) (argsL := []) (rest := []) (lenOf pd_3 rfl) rfl rfl (by show 2 * 0 + _ ≤ _; exact Nat.le_of_eq rfl) (hb hby at_135) (by decide) (by decide) (by decide) (by decide)
      obtain ⟨rfl, rfl, q12⟩ := Q12
      refine own_st (B := (T12.setTop (mkF m 138 #[.val (.long p1), .second, .val (.long p2), .second, .val (.int p3), .val (.int (0 : Int32)), .val (.long ua), .second, .val (.long un), .second, .val (.int (((p3.toUInt32 >>> ((1 : Int32) &&& 31).toUInt32).toInt32) &&& (3 : Int32))), .val (.ref b3), .val (.int (1 : Int32)), .val (.int (1 : Int32)), .unset, .unset] [(.long ua)]))) st12 ?_
      refine own_st (B := (T12.setTop (mkF m 140 #[.val (.long p1), .second, .val (.long p2), .second, .val (.int p3), .val (.int (0 : Int32)), .val (.long ua), .second, .val (.long un), .second, .val (.int (((p3.toUInt32 >>> ((1 : Int32) &&& 31).toUInt32).toInt32) &&& (3 : Int32))), .val (.ref b3), .val (.int (1 : Int32)), .val (.int (1 : Int32)), .val (.long ua), .second] []))) (fun _ k => XS.lstore X12.here hx rfl (hb hby at_138) rfl (l' := #[.val (.long p1), .second, .val (.long p2), .second, .val (.int p3), .val (.int (0 : Int32)), .val (.long ua), .second, .val (.long un), .second, .val (.int (((p3.toUInt32 >>> ((1 : Int32) &&& 31).toUInt32).toInt32) &&& (3 : Int32))), .val (.ref b3), .val (.int (1 : Int32)), .val (.int (1 : Int32)), .val (.long ua), .second]) rfl k) ?_
      refine own_st (B := (T12.setTop (mkF m 142 #[.val (.long p1), .second, .val (.long p2), .second, .val (.int p3), .val (.int (0 : Int32)), .val (.long ua), .second, .val (.long un), .second, .val (.int (((p3.toUInt32 >>> ((1 : Int32) &&& 31).toUInt32).toInt32) &&& (3 : Int32))), .val (.ref b3), .val (.int (1 : Int32)), .val (.int (1 : Int32)), .val (.long ua), .second] [(.int (1 : Int32))]))) (fun _ k => XS.iload X12.here hx rfl (hb hby at_140) rfl k) ?_
      refine own_st (B := (T12.setTop (mkF m 144 #[.val (.long p1), .second, .val (.long p2), .second, .val (.int p3), .val (.int (0 : Int32)), .val (.long ua), .second, .val (.long un), .second, .val (.int (((p3.toUInt32 >>> ((1 : Int32) &&& 31).toUInt32).toInt32) &&& (3 : Int32))), .val (.ref b3), .val (.int (1 : Int32)), .val (.int (1 : Int32)), .val (.long ua), .second] [(.int (1 : Int32)), (.int (1 : Int32))]))) (fun _ k => XS.iload X12.here hx rfl (hb hby at_142) rfl k) ?_
      refine own_st (B := (T12.setTop (mkF m 147 #[.val (.long p1), .second, .val (.long p2), .second, .val (.int p3), .val (.int (0 : Int32)), .val (.long ua), .second, .val (.long un), .second, .val (.int (((p3.toUInt32 >>> ((1 : Int32) &&& 31).toUInt32).toInt32) &&& (3 : Int32))), .val (.ref b3), .val (.int (1 : Int32)), .val (.int (1 : Int32)), .val (.long ua), .second] []))) (fun _ k => XS.icmpNo X12.here hx rfl (hb hby at_144) rfl (teq (by decide)).2 k) ?_
      refine own_st (B := (T12.setTop (mkF m 149 #[.val (.long p1), .second, .val (.long p2), .second, .val (.int p3), .val (.int (0 : Int32)), .val (.long ua), .second, .val (.long un), .second, .val (.int (((p3.toUInt32 >>> ((1 : Int32) &&& 31).toUInt32).toInt32) &&& (3 : Int32))), .val (.ref b3), .val (.int (1 : Int32)), .val (.int (1 : Int32)), .val (.long ua), .second] [(.long ua)]))) (fun _ k => XS.lload X12.here hx rfl (hb hby at_147) rfl k) ?_
      refine own_st (B := (T12.setTop (mkF m 151 #[.val (.long p1), .second, .val (.long p2), .second, .val (.int p3), .val (.int (0 : Int32)), .val (.long ua), .second, .val (.long un), .second, .val (.int (((p3.toUInt32 >>> ((1 : Int32) &&& 31).toUInt32).toInt32) &&& (3 : Int32))), .val (.ref b3), .val (.int (1 : Int32)), .val (.int (1 : Int32)), .val (.long ua), .second] [(.int (0 : Int32)), (.long ua)]))) (fun _ k => XS.iload X12.here hx rfl (hb hby at_149) rfl k) ?_
      refine own_st (B := (T12.setTop (mkF m 158 #[.val (.long p1), .second, .val (.long p2), .second, .val (.int p3), .val (.int (0 : Int32)), .val (.long ua), .second, .val (.long un), .second, .val (.int (((p3.toUInt32 >>> ((1 : Int32) &&& 31).toUInt32).toInt32) &&& (3 : Int32))), .val (.ref b3), .val (.int (1 : Int32)), .val (.int (1 : Int32)), .val (.long ua), .second] [(.long ua)]))) (fun _ k => XS.ifYes X12.here hx rfl (pc0 := 151) (pc' := 158) rfl (hb hby at_151) rfl ((if0 _ _).trans (teq (by decide)).1) (by decide) (by decide) k) ?_
      refine own_st (B := (T12.setTop (mkF m 160 #[.val (.long p1), .second, .val (.long p2), .second, .val (.int p3), .val (.int (0 : Int32)), .val (.long ua), .second, .val (.long un), .second, .val (.int (((p3.toUInt32 >>> ((1 : Int32) &&& 31).toUInt32).toInt32) &&& (3 : Int32))), .val (.ref b3), .val (.int (1 : Int32)), .val (.int (1 : Int32)), .val (.long ua), .second] [(.long ua), (.long ua)]))) (fun _ k => XS.lload X12.here hx rfl (hb hby at_158) rfl k) ?_
      refine own_st (B := (T12.setTop (mkF m 161 #[.val (.long p1), .second, .val (.long p2), .second, .val (.int p3), .val (.int (0 : Int32)), .val (.long ua), .second, .val (.long un), .second, .val (.int (((p3.toUInt32 >>> ((1 : Int32) &&& 31).toUInt32).toInt32) &&& (3 : Int32))), .val (.ref b3), .val (.int (1 : Int32)), .val (.int (1 : Int32)), .val (.long ua), .second] [(.int (lcmpW ua ua))]))) (fun _ k => XS.lcmp X12.here hx rfl (hb hby at_160) rfl k) ?_
      refine own_st (B := (T12.setTop (mkF m 164 #[.val (.long p1), .second, .val (.long p2), .second, .val (.int p3), .val (.int (0 : Int32)), .val (.long ua), .second, .val (.long un), .second, .val (.int (((p3.toUInt32 >>> ((1 : Int32) &&& 31).toUInt32).toInt32) &&& (3 : Int32))), .val (.ref b3), .val (.int (1 : Int32)), .val (.int (1 : Int32)), .val (.long ua), .second] []))) (fun _ k => XS.ifNo X12.here hx rfl (hb hby at_161) rfl ((if0 _ _).trans (teq ((lw_eq ua ua).mpr rfl)).2) k) ?_
      refine own_st (B := (T12.setTop (mkF m 165 #[.val (.long p1), .second, .val (.long p2), .second, .val (.int p3), .val (.int (0 : Int32)), .val (.long ua), .second, .val (.long un), .second, .val (.int (((p3.toUInt32 >>> ((1 : Int32) &&& 31).toUInt32).toInt32) &&& (3 : Int32))), .val (.ref b3), .val (.int (1 : Int32)), .val (.int (1 : Int32)), .val (.long ua), .second] [(.int (1 : Int32))]))) (fun _ k => XS.iconst X12.here hx rfl (hb hby at_164) k) ?_
      refine own_st (B := (T12.setTop (mkF m 169 #[.val (.long p1), .second, .val (.long p2), .second, .val (.int p3), .val (.int (0 : Int32)), .val (.long ua), .second, .val (.long un), .second, .val (.int (((p3.toUInt32 >>> ((1 : Int32) &&& 31).toUInt32).toInt32) &&& (3 : Int32))), .val (.ref b3), .val (.int (1 : Int32)), .val (.int (1 : Int32)), .val (.long ua), .second] [(.int (1 : Int32))]))) (fun _ k => XS.goto X12.here hx rfl (pc0 := 165) (pc' := 169) rfl (hb hby at_165) (by decide) (by decide) k) ?_
      exact own_wretN X12 hS (by rw [q12]; exact (Nat.le_trans hk5 hsz)) hx hlk (t := .boolean) hret (by simp) (hb hby at_169) (by show own_Q0 n0 _ T12.heap _; rw [q12]; exact ⟨rfl, by simpa using N6⟩) (by decide) (by decide)
  · refine own_st (B := (s₁.setTop (mkF m 7 #[.val (.long p1), .second, .val (.long p2), .second, .val (.int p3), .unset, .unset, .unset, .unset, .unset, .unset, .unset, .unset, .unset, .unset, .unset] []))) (fun _ k => XS.ifNo X0.here hx rfl (hb hby at_4) rfl ((if0 _ _).trans (feq c4).1) k) ?_
    refine own_st (B := (s₁.setTop (mkF m 8 #[.val (.long p1), .second, .val (.long p2), .second, .val (.int p3), .unset, .unset, .unset, .unset, .unset, .unset, .unset, .unset, .unset, .unset, .unset] [(.int (1 : Int32))]))) (fun _ k => XS.iconst X0.here hx rfl (hb hby at_7) k) ?_
    refine own_st (B := (s₁.setTop (mkF m 12 #[.val (.long p1), .second, .val (.long p2), .second, .val (.int p3), .unset, .unset, .unset, .unset, .unset, .unset, .unset, .unset, .unset, .unset, .unset] [(.int (1 : Int32))]))) (fun _ k => XS.goto X0.here hx rfl (pc0 := 8) (pc' := 12) rfl (hb hby at_8) (by decide) (by decide) k) ?_
    refine own_st (B := (s₁.setTop (mkF m 14 #[.val (.long p1), .second, .val (.long p2), .second, .val (.int p3), .val (.int (1 : Int32)), .unset, .unset, .unset, .unset, .unset, .unset, .unset, .unset, .unset, .unset] []))) (fun _ k => XS.istore X0.here hx rfl (hb hby at_12) rfl (l' := #[.val (.long p1), .second, .val (.long p2), .second, .val (.int p3), .val (.int (1 : Int32)), .unset, .unset, .unset, .unset, .unset, .unset, .unset, .unset, .unset, .unset]) rfl k) ?_
    refine own_st (B := (s₁.setTop (mkF m 15 #[.val (.long p1), .second, .val (.long p2), .second, .val (.int p3), .val (.int (1 : Int32)), .unset, .unset, .unset, .unset, .unset, .unset, .unset, .unset, .unset, .unset] [(.long p1)]))) (fun _ k => XS.lloadN X0.here hx rfl (hb hby at_14) rfl k) ?_
    refine own_st (B := (s₁.setTop (mkF m 18 #[.val (.long p1), .second, .val (.long p2), .second, .val (.int p3), .val (.int (1 : Int32)), .unset, .unset, .unset, .unset, .unset, .unset, .unset, .unset, .unset, .unset] [(.long (9223372036854775807 : Int64)), (.long p1)]))) (fun _ k => X0.ldc2Long hx hown (mvT hZ (hw _ (List.mem_of_getElem? (i := 0) rfl))) (g := (mkF m 15 #[.val (.long p1), .second, .val (.long p2), .second, .val (.int p3), .val (.int (1 : Int32)), .unset, .unset, .unset, .unset, .unset, .unset, .unset, .unset, .unset, .unset] [(.long p1)])) rfl (hb hby at_15) _ k) ?_
    refine own_st (B := (s₁.setTop (mkF m 19 #[.val (.long p1), .second, .val (.long p2), .second, .val (.int p3), .val (.int (1 : Int32)), .unset, .unset, .unset, .unset, .unset, .unset, .unset, .unset, .unset, .unset] [(.long (p1 &&& (9223372036854775807 : Int64)))]))) (fun _ k => XS.land X0.here hx rfl (hb hby at_18) rfl k) ?_
    refine own_st (B := (s₁.setTop (mkF m 21 #[.val (.long p1), .second, .val (.long p2), .second, .val (.int p3), .val (.int (1 : Int32)), .val (.long (p1 &&& (9223372036854775807 : Int64))), .second, .unset, .unset, .unset, .unset, .unset, .unset, .unset, .unset] []))) (fun _ k => XS.lstore X0.here hx rfl (hb hby at_19) rfl (l' := #[.val (.long p1), .second, .val (.long p2), .second, .val (.int p3), .val (.int (1 : Int32)), .val (.long (p1 &&& (9223372036854775807 : Int64))), .second, .unset, .unset, .unset, .unset, .unset, .unset, .unset, .unset]) rfl k) ?_
    have pua := own_m63 p1
    generalize (p1 &&& (9223372036854775807 : Int64)) = ua at *
    refine own_st (B := (s₁.setTop (mkF m 22 #[.val (.long p1), .second, .val (.long p2), .second, .val (.int p3), .val (.int (1 : Int32)), .val (.long ua), .second, .unset, .unset, .unset, .unset, .unset, .unset, .unset, .unset] [(.long p2)]))) (fun _ k => XS.lloadN X0.here hx rfl (hb hby at_21) rfl k) ?_
    refine own_st (B := (s₁.setTop (mkF m 24 #[.val (.long p1), .second, .val (.long p2), .second, .val (.int p3), .val (.int (1 : Int32)), .val (.long ua), .second, .val (.long p2), .second, .unset, .unset, .unset, .unset, .unset, .unset] []))) (fun _ k => XS.lstore X0.here hx rfl (hb hby at_22) rfl (l' := #[.val (.long p1), .second, .val (.long p2), .second, .val (.int p3), .val (.int (1 : Int32)), .val (.long ua), .second, .val (.long p2), .second, .unset, .unset, .unset, .unset, .unset, .unset]) rfl k) ?_
    refine own_st (B := (s₁.setTop (mkF m 26 #[.val (.long p1), .second, .val (.long p2), .second, .val (.int p3), .val (.int (1 : Int32)), .val (.long ua), .second, .val (.long p2), .second, .unset, .unset, .unset, .unset, .unset, .unset] [(.int p3)]))) (fun _ k => XS.iload X0.here hx rfl (hb hby at_24) rfl k) ?_
    refine own_st (B := (s₁.setTop (mkF m 27 #[.val (.long p1), .second, .val (.long p2), .second, .val (.int p3), .val (.int (1 : Int32)), .val (.long ua), .second, .val (.long p2), .second, .unset, .unset, .unset, .unset, .unset, .unset] [(.int (1 : Int32)), (.int p3)]))) (fun _ k => XS.iconst X0.here hx rfl (hb hby at_26) k) ?_
    refine own_st (B := (s₁.setTop (mkF m 28 #[.val (.long p1), .second, .val (.long p2), .second, .val (.int p3), .val (.int (1 : Int32)), .val (.long ua), .second, .val (.long p2), .second, .unset, .unset, .unset, .unset, .unset, .unset] [(.int ((p3.toUInt32 >>> ((1 : Int32) &&& 31).toUInt32).toInt32))]))) (fun _ k => XS.iushr X0.here hx rfl (hb hby at_27) rfl k) ?_
    refine own_st (B := (s₁.setTop (mkF m 29 #[.val (.long p1), .second, .val (.long p2), .second, .val (.int p3), .val (.int (1 : Int32)), .val (.long ua), .second, .val (.long p2), .second, .unset, .unset, .unset, .unset, .unset, .unset] [(.int (3 : Int32)), (.int ((p3.toUInt32 >>> ((1 : Int32) &&& 31).toUInt32).toInt32))]))) (fun _ k => XS.iconst X0.here hx rfl (hb hby at_28) k) ?_
    refine own_st (B := (s₁.setTop (mkF m 30 #[.val (.long p1), .second, .val (.long p2), .second, .val (.int p3), .val (.int (1 : Int32)), .val (.long ua), .second, .val (.long p2), .second, .unset, .unset, .unset, .unset, .unset, .unset] [(.int (((p3.toUInt32 >>> ((1 : Int32) &&& 31).toUInt32).toInt32) &&& (3 : Int32)))]))) (fun _ k => XS.iand X0.here hx rfl (hb hby at_29) rfl k) ?_
    refine own_st (B := (s₁.setTop (mkF m 32 #[.val (.long p1), .second, .val (.long p2), .second, .val (.int p3), .val (.int (1 : Int32)), .val (.long ua), .second, .val (.long p2), .second, .val (.int (((p3.toUInt32 >>> ((1 : Int32) &&& 31).toUInt32).toInt32) &&& (3 : Int32))), .unset, .unset, .unset, .unset, .unset] []))) (fun _ k => XS.istore X0.here hx rfl (hb hby at_30) rfl (l' := #[.val (.long p1), .second, .val (.long p2), .second, .val (.int p3), .val (.int (1 : Int32)), .val (.long ua), .second, .val (.long p2), .second, .val (.int (((p3.toUInt32 >>> ((1 : Int32) &&& 31).toUInt32).toInt32) &&& (3 : Int32))), .unset, .unset, .unset, .unset, .unset]) rfl k) ?_
    suffices KU : ∀ un : Int64, own_Dn p e below (own_RetW s (own_Q0 n0) 16 2176) (s₁.setTop (mkF m 65 #[.val (.long p1), .second, .val (.long p2), .second, .val (.int p3), .val (.int (1 : Int32)), .val (.long ua), .second, .val (.long un), .second, .val (.int (((p3.toUInt32 >>> ((1 : Int32) &&& 31).toUInt32).toInt32) &&& (3 : Int32))), .unset, .unset, .unset, .unset, .unset] [])) by
      refine own_st (B := (s₁.setTop (mkF m 34 #[.val (.long p1), .second, .val (.long p2), .second, .val (.int p3), .val (.int (1 : Int32)), .val (.long ua), .second, .val (.long p2), .second, .val (.int (((p3.toUInt32 >>> ((1 : Int32) &&& 31).toUInt32).toInt32) &&& (3 : Int32))), .unset, .unset, .unset, .unset, .unset] [(.int (((p3.toUInt32 >>> ((1 : Int32) &&& 31).toUInt32).toInt32) &&& (3 : Int32)))]))) (fun _ k => XS.iload X0.here hx rfl (hb hby at_32) rfl k) ?_
      refine own_st (B := (s₁.setTop (mkF m 35 #[.val (.long p1), .second, .val (.long p2), .second, .val (.int p3), .val (.int (1 : Int32)), .val (.long ua), .second, .val (.long p2), .second, .val (.int (((p3.toUInt32 >>> ((1 : Int32) &&& 31).toUInt32).toInt32) &&& (3 : Int32))), .unset, .unset, .unset, .unset, .unset] [(.int (1 : Int32)), (.int (((p3.toUInt32 >>> ((1 : Int32) &&& 31).toUInt32).toInt32) &&& (3 : Int32)))]))) (fun _ k => XS.iconst X0.here hx rfl (hb hby at_34) k) ?_
      by_cases c35_13 : (((p3.toUInt32 >>> ((1 : Int32) &&& 31).toUInt32).toInt32) &&& (3 : Int32)) = (1 : Int32)
      · refine own_st (B := (s₁.setTop (mkF m 38 #[.val (.long p1), .second, .val (.long p2), .second, .val (.int p3), .val (.int (1 : Int32)), .val (.long ua), .second, .val (.long p2), .second, .val (.int (((p3.toUInt32 >>> ((1 : Int32) &&& 31).toUInt32).toInt32) &&& (3 : Int32))), .unset, .unset, .unset, .unset, .unset] []))) (fun _ k => XS.icmpNo X0.here hx rfl (hb hby at_35) rfl (teq c35_13).2 k) ?_
        refine own_st (B := (s₁.setTop (mkF m 41 #[.val (.long p1), .second, .val (.long p2), .second, .val (.int p3), .val (.int (1 : Int32)), .val (.long ua), .second, .val (.long p2), .second, .val (.int (((p3.toUInt32 >>> ((1 : Int32) &&& 31).toUInt32).toInt32) &&& (3 : Int32))), .unset, .unset, .unset, .unset, .unset] [(.long (9223372036854775807 : Int64))]))) (fun _ k => X0.ldc2Long hx hown (mvT hZ (hw _ (List.mem_of_getElem? (i := 0) rfl))) (g := (mkF m 38 #[.val (.long p1), .second, .val (.long p2), .second, .val (.int p3), .val (.int (1 : Int32)), .val (.long ua), .second, .val (.long p2), .second, .val (.int (((p3.toUInt32 >>> ((1 : Int32) &&& 31).toUInt32).toInt32) &&& (3 : Int32))), .unset, .unset, .unset, .unset, .unset] [])) rfl (hb hby at_38) _ k) ?_
        refine own_st (B := (s₁.setTop (mkF m 43 #[.val (.long p1), .second, .val (.long p2), .second, .val (.int p3), .val (.int (1 : Int32)), .val (.long ua), .second, .val (.long p2), .second, .val (.int (((p3.toUInt32 >>> ((1 : Int32) &&& 31).toUInt32).toInt32) &&& (3 : Int32))), .unset, .unset, .unset, .unset, .unset] [(.long ua), (.long (9223372036854775807 : Int64))]))) (fun _ k => XS.lload X0.here hx rfl (hb hby at_41) rfl k) ?_
        refine own_st (B := (s₁.setTop (mkF m 44 #[.val (.long p1), .second, .val (.long p2), .second, .val (.int p3), .val (.int (1 : Int32)), .val (.long ua), .second, .val (.long p2), .second, .val (.int (((p3.toUInt32 >>> ((1 : Int32) &&& 31).toUInt32).toInt32) &&& (3 : Int32))), .unset, .unset, .unset, .unset, .unset] [(.long ((9223372036854775807 : Int64) - ua))]))) (fun _ k => XS.lsub X0.here hx rfl (hb hby at_43) rfl k) ?_
        refine own_st (B := (s₁.setTop (mkF m 46 #[.val (.long p1), .second, .val (.long p2), .second, .val (.int p3), .val (.int (1 : Int32)), .val (.long ua), .second, .val (.long ((9223372036854775807 : Int64) - ua)), .second, .val (.int (((p3.toUInt32 >>> ((1 : Int32) &&& 31).toUInt32).toInt32) &&& (3 : Int32))), .unset, .unset, .unset, .unset, .unset] []))) (fun _ k => XS.lstore X0.here hx rfl (hb hby at_44) rfl (l' := #[.val (.long p1), .second, .val (.long p2), .second, .val (.int p3), .val (.int (1 : Int32)), .val (.long ua), .second, .val (.long ((9223372036854775807 : Int64) - ua)), .second, .val (.int (((p3.toUInt32 >>> ((1 : Int32) &&& 31).toUInt32).toInt32) &&& (3 : Int32))), .unset, .unset, .unset, .unset, .unset]) rfl k) ?_
        refine own_st (B := (s₁.setTop (mkF m 65 #[.val (.long p1), .second, .val (.long p2), .second, .val (.int p3), .val (.int (1 : Int32)), .val (.long ua), .second, .val (.long ((9223372036854775807 : Int64) - ua)), .second, .val (.int (((p3.toUInt32 >>> ((1 : Int32) &&& 31).toUInt32).toInt32) &&& (3 : Int32))), .unset, .unset, .unset, .unset, .unset] []))) (fun _ k => XS.goto X0.here hx rfl (pc0 := 46) (pc' := 65) rfl (hb hby at_46) (by decide) (by decide) k) ?_
        exact KU _
      · refine own_st (B := (s₁.setTop (mkF m 49 #[.val (.long p1), .second, .val (.long p2), .second, .val (.int p3), .val (.int (1 : Int32)), .val (.long ua), .second, .val (.long p2), .second, .val (.int (((p3.toUInt32 >>> ((1 : Int32) &&& 31).toUInt32).toInt32) &&& (3 : Int32))), .unset, .unset, .unset, .unset, .unset] []))) (fun _ k => XS.icmpYes X0.here hx rfl (pc0 := 35) (pc' := 49) rfl (hb hby at_35) rfl (feq c35_13).2 (by decide) (by decide) k) ?_
        refine own_st (B := (s₁.setTop (mkF m 51 #[.val (.long p1), .second, .val (.long p2), .second, .val (.int p3), .val (.int (1 : Int32)), .val (.long ua), .second, .val (.long p2), .second, .val (.int (((p3.toUInt32 >>> ((1 : Int32) &&& 31).toUInt32).toInt32) &&& (3 : Int32))), .unset, .unset, .unset, .unset, .unset] [(.int (((p3.toUInt32 >>> ((1 : Int32) &&& 31).toUInt32).toInt32) &&& (3 : Int32)))]))) (fun _ k => XS.iload X0.here hx rfl (hb hby at_49) rfl k) ?_
        refine own_st (B := (s₁.setTop (mkF m 52 #[.val (.long p1), .second, .val (.long p2), .second, .val (.int p3), .val (.int (1 : Int32)), .val (.long ua), .second, .val (.long p2), .second, .val (.int (((p3.toUInt32 >>> ((1 : Int32) &&& 31).toUInt32).toInt32) &&& (3 : Int32))), .unset, .unset, .unset, .unset, .unset] [(.int (2 : Int32)), (.int (((p3.toUInt32 >>> ((1 : Int32) &&& 31).toUInt32).toInt32) &&& (3 : Int32)))]))) (fun _ k => XS.iconst X0.here hx rfl (hb hby at_51) k) ?_
        by_cases c52_14 : (((p3.toUInt32 >>> ((1 : Int32) &&& 31).toUInt32).toInt32) &&& (3 : Int32)) = (2 : Int32)
        · refine own_st (B := (s₁.setTop (mkF m 55 #[.val (.long p1), .second, .val (.long p2), .second, .val (.int p3), .val (.int (1 : Int32)), .val (.long ua), .second, .val (.long p2), .second, .val (.int (((p3.toUInt32 >>> ((1 : Int32) &&& 31).toUInt32).toInt32) &&& (3 : Int32))), .unset, .unset, .unset, .unset, .unset] []))) (fun _ k => XS.icmpNo X0.here hx rfl (hb hby at_52) rfl (teq c52_14).2 k) ?_
          refine own_st (B := (s₁.setTop (mkF m 58 #[.val (.long p1), .second, .val (.long p2), .second, .val (.int p3), .val (.int (1 : Int32)), .val (.long ua), .second, .val (.long p2), .second, .val (.int (((p3.toUInt32 >>> ((1 : Int32) &&& 31).toUInt32).toInt32) &&& (3 : Int32))), .unset, .unset, .unset, .unset, .unset] [(.long (9223372036854775807 : Int64))]))) (fun _ k => X0.ldc2Long hx hown (mvT hZ (hw _ (List.mem_of_getElem? (i := 0) rfl))) (g := (mkF m 55 #[.val (.long p1), .second, .val (.long p2), .second, .val (.int p3), .val (.int (1 : Int32)), .val (.long ua), .second, .val (.long p2), .second, .val (.int (((p3.toUInt32 >>> ((1 : Int32) &&& 31).toUInt32).toInt32) &&& (3 : Int32))), .unset, .unset, .unset, .unset, .unset] [])) rfl (hb hby at_55) _ k) ?_
          refine own_st (B := (s₁.setTop (mkF m 60 #[.val (.long p1), .second, .val (.long p2), .second, .val (.int p3), .val (.int (1 : Int32)), .val (.long ua), .second, .val (.long p2), .second, .val (.int (((p3.toUInt32 >>> ((1 : Int32) &&& 31).toUInt32).toInt32) &&& (3 : Int32))), .unset, .unset, .unset, .unset, .unset] [(.long ua), (.long (9223372036854775807 : Int64))]))) (fun _ k => XS.lload X0.here hx rfl (hb hby at_58) rfl k) ?_
          refine own_st (B := (s₁.setTop (mkF m 61 #[.val (.long p1), .second, .val (.long p2), .second, .val (.int p3), .val (.int (1 : Int32)), .val (.long ua), .second, .val (.long p2), .second, .val (.int (((p3.toUInt32 >>> ((1 : Int32) &&& 31).toUInt32).toInt32) &&& (3 : Int32))), .unset, .unset, .unset, .unset, .unset] [(.long ((9223372036854775807 : Int64) - ua))]))) (fun _ k => XS.lsub X0.here hx rfl (hb hby at_60) rfl k) ?_
          refine own_st (B := (s₁.setTop (mkF m 62 #[.val (.long p1), .second, .val (.long p2), .second, .val (.int p3), .val (.int (1 : Int32)), .val (.long ua), .second, .val (.long p2), .second, .val (.int (((p3.toUInt32 >>> ((1 : Int32) &&& 31).toUInt32).toInt32) &&& (3 : Int32))), .unset, .unset, .unset, .unset, .unset] [(.long (1 : Int64)), (.long ((9223372036854775807 : Int64) - ua))]))) (fun _ k => XS.lconst X0.here hx rfl (hb hby at_61) k) ?_
          refine own_st (B := (s₁.setTop (mkF m 63 #[.val (.long p1), .second, .val (.long p2), .second, .val (.int p3), .val (.int (1 : Int32)), .val (.long ua), .second, .val (.long p2), .second, .val (.int (((p3.toUInt32 >>> ((1 : Int32) &&& 31).toUInt32).toInt32) &&& (3 : Int32))), .unset, .unset, .unset, .unset, .unset] [(.long (((9223372036854775807 : Int64) - ua) + (1 : Int64)))]))) (fun _ k => XS.ladd X0.here hx rfl (hb hby at_62) rfl k) ?_
          refine own_st (B := (s₁.setTop (mkF m 65 #[.val (.long p1), .second, .val (.long p2), .second, .val (.int p3), .val (.int (1 : Int32)), .val (.long ua), .second, .val (.long (((9223372036854775807 : Int64) - ua) + (1 : Int64))), .second, .val (.int (((p3.toUInt32 >>> ((1 : Int32) &&& 31).toUInt32).toInt32) &&& (3 : Int32))), .unset, .unset, .unset, .unset, .unset] []))) (fun _ k => XS.lstore X0.here hx rfl (hb hby at_63) rfl (l' := #[.val (.long p1), .second, .val (.long p2), .second, .val (.int p3), .val (.int (1 : Int32)), .val (.long ua), .second, .val (.long (((9223372036854775807 : Int64) - ua) + (1 : Int64))), .second, .val (.int (((p3.toUInt32 >>> ((1 : Int32) &&& 31).toUInt32).toInt32) &&& (3 : Int32))), .unset, .unset, .unset, .unset, .unset]) rfl k) ?_
          exact KU _
        · refine own_st (B := (s₁.setTop (mkF m 65 #[.val (.long p1), .second, .val (.long p2), .second, .val (.int p3), .val (.int (1 : Int32)), .val (.long ua), .second, .val (.long p2), .second, .val (.int (((p3.toUInt32 >>> ((1 : Int32) &&& 31).toUInt32).toInt32) &&& (3 : Int32))), .unset, .unset, .unset, .unset, .unset] []))) (fun _ k => XS.icmpYes X0.here hx rfl (pc0 := 52) (pc' := 65) rfl (hb hby at_52) rfl (feq c52_14).2 (by decide) (by decide) k) ?_
          exact KU _
    intro un
    refine own_st (B := (s₁.setTop (mkF m 67 #[.val (.long p1), .second, .val (.long p2), .second, .val (.int p3), .val (.int (1 : Int32)), .val (.long ua), .second, .val (.long un), .second, .val (.int (((p3.toUInt32 >>> ((1 : Int32) &&& 31).toUInt32).toInt32) &&& (3 : Int32))), .unset, .unset, .unset, .unset, .unset] [(.int (1 : Int32))]))) (fun _ k => XS.iload X0.here hx rfl (hb hby at_65) rfl k) ?_
    refine own_st (B := (s₁.setTop (mkF m 70 #[.val (.long p1), .second, .val (.long p2), .second, .val (.int p3), .val (.int (1 : Int32)), .val (.long ua), .second, .val (.long un), .second, .val (.int (((p3.toUInt32 >>> ((1 : Int32) &&& 31).toUInt32).toInt32) &&& (3 : Int32))), .unset, .unset, .unset, .unset, .unset] []))) (fun _ k => XS.ifNo X0.here hx rfl (hb hby at_67) rfl ((if0 _ _).trans (feq (by decide)).1) k) ?_
    obtain ⟨b15, T15, h15, k15, X15, e15, E15, hS15, hk15, hZ15, ho15, st15⟩ := ldcS (vm0 := s.vm) X0 hx hZ hown (hw _ (List.mem_of_getElem? (i := 4) rfl)) (own_wS hw) e0 hS (Nat.zero_le _) (g := (mkF m 70 #[.val (.long p1), .second, .val (.long p2), .second, .val (.int p3), .val (.int (1 : Int32)), .val (.long ua), .second, .val (.long un), .second, .val (.int (((p3.toUInt32 >>> ((1 : Int32) &&& 31).toUInt32).toInt32) &&& (3 : Int32))), .unset, .unset, .unset, .unset, .unset] [])) rfl (hb hby at_70) (n := 4) (by decide) (by decide) (by decide) (by decide)
    have hZ := hZ15
    have hown := ho15
    have hS := hS15
    refine own_st (B := (T15.setTop (mkF m 72 #[.val (.long p1), .second, .val (.long p2), .second, .val (.int p3), .val (.int (1 : Int32)), .val (.long ua), .second, .val (.long un), .second, .val (.int (((p3.toUInt32 >>> ((1 : Int32) &&& 31).toUInt32).toInt32) &&& (3 : Int32))), .unset, .unset, .unset, .unset, .unset] [(.ref b15)]))) st15 ?_
    obtain ⟨b16, T16, h16, k16, X16, e16, E16, hS16, hk16, hZ16, ho16, st16⟩ := ldcS (vm0 := T15.vm) X15 hx hZ hown (hw _ (List.mem_of_getElem? (i := 12) rfl)) (own_wS hw) e15 hS hk15 (g := (mkF m 72 #[.val (.long p1), .second, .val (.long p2), .second, .val (.int p3), .val (.int (1 : Int32)), .val (.long ua), .second, .val (.long un), .second, .val (.int (((p3.toUInt32 >>> ((1 : Int32) &&& 31).toUInt32).toInt32) &&& (3 : Int32))), .unset, .unset, .unset, .unset, .unset] [(.ref b15)])) rfl (hb hby at_72) (n := 4) (by decide) (by decide) (by decide) (by decide)
    have hZ := hZ16
    have hown := ho16
    have hS := hS16
    refine own_st (B := (T16.setTop (mkF m 74 #[.val (.long p1), .second, .val (.long p2), .second, .val (.int p3), .val (.int (1 : Int32)), .val (.long ua), .second, .val (.long un), .second, .val (.int (((p3.toUInt32 >>> ((1 : Int32) &&& 31).toUInt32).toInt32) &&& (3 : Int32))), .unset, .unset, .unset, .unset, .unset] [(.ref b16), (.ref b15)]))) st16 ?_
    have ZS : n0 ≤ h16.size := Nat.le_trans (Nat.le_trans Z0 E15.1) E16.1
    obtain ⟨v17, T17, L17, X17, Q17, st17⟩ := own_callS (W := 0) X16 hx hZ (y := (⟨"com/example/avocet/avocet/charging/Bucket", "unlimited", "(Ljava/lang/String;Ljava/lang/String;)Lcom/example/avocet/avocet/charging/Bucket;"⟩ : MethodName)) hown (hw _ (List.mem_of_getElem? (i := 43) rfl)) (hw _ (List.mem_of_getElem? (i := 44) rfl)) (hw _ (List.mem_of_getElem? (i := 3) rfl)) (hw _ (List.mem_of_getElem? (i := 45) rfl)) (by decide) e16 (rm_u l Z a0 hw [] b15 b16 h16 n0 ZS) (g := (mkF m 74 #[.val (.long p1), .second, .val (.long p2), .second, .val (.int p3), .val (.int (1 : Int32)), .val (.long ua), .second, .val (.long un), .second, .val (.int (((p3.toUInt32 >>> ((1 : Int32) &&& 31).toUInt32).toInt32) &&& (3 : Int32))), .unset, .unset, .unset, .unset, .unset] [(.ref b16), (.ref b15)])) rfl (by rw [hml]; rfl) (argsL := [(.ref b15), (.ref b16)]) (rest := []) (lenOf pd_4 rfl) rfl rfl (by show 2 * 0 + _ ≤ _; exact Nat.le_of_eq rfl) (hb hby at_74) (by decide) (by decide) (by decide) (by decide)
    obtain ⟨bx, rfl, N17q, hsz, EX17, FU17, FA17⟩ := Q17
    refine own_st (B := (T17.setTop (mkF m 77 #[.val (.long p1), .second, .val (.long p2), .second, .val (.int p3), .val (.int (1 : Int32)), .val (.long ua), .second, .val (.long un), .second, .val (.int (((p3.toUInt32 >>> ((1 : Int32) &&& 31).toUInt32).toInt32) &&& (3 : Int32))), .unset, .unset, .unset, .unset, .unset] [(.ref bx)]))) st17 ?_
    have N17 := Fr.app N0 N17q
    refine own_st (B := (T17.setTop (mkF m 93 #[.val (.long p1), .second, .val (.long p2), .second, .val (.int p3), .val (.int (1 : Int32)), .val (.long ua), .second, .val (.long un), .second, .val (.int (((p3.toUInt32 >>> ((1 : Int32) &&& 31).toUInt32).toInt32) &&& (3 : Int32))), .unset, .unset, .unset, .unset, .unset] [(.ref bx)]))) (fun _ k => XS.goto X17.here hx rfl (pc0 := 77) (pc' := 93) rfl (hb hby at_77) (by decide) (by decide) k) ?_
    refine own_st (B := (T17.setTop (mkF m 95 #[.val (.long p1), .second, .val (.long p2), .second, .val (.int p3), .val (.int (1 : Int32)), .val (.long ua), .second, .val (.long un), .second, .val (.int (((p3.toUInt32 >>> ((1 : Int32) &&& 31).toUInt32).toInt32) &&& (3 : Int32))), .val (.ref bx), .unset, .unset, .unset, .unset] []))) (fun _ k => XS.astore X17.here hx rfl (hb hby at_93) rfl rfl (l' := #[.val (.long p1), .second, .val (.long p2), .second, .val (.int p3), .val (.int (1 : Int32)), .val (.long ua), .second, .val (.long un), .second, .val (.int (((p3.toUInt32 >>> ((1 : Int32) &&& 31).toUInt32).toInt32) &&& (3 : Int32))), .val (.ref bx), .unset, .unset, .unset, .unset]) rfl k) ?_
    refine own_st (B := (T17.setTop (mkF m 97 #[.val (.long p1), .second, .val (.long p2), .second, .val (.int p3), .val (.int (1 : Int32)), .val (.long ua), .second, .val (.long un), .second, .val (.int (((p3.toUInt32 >>> ((1 : Int32) &&& 31).toUInt32).toInt32) &&& (3 : Int32))), .val (.ref bx), .unset, .unset, .unset, .unset] [(.int (1 : Int32))]))) (fun _ k => XS.iload X17.here hx rfl (hb hby at_95) rfl k) ?_
    refine own_st (B := (T17.setTop (mkF m 117 #[.val (.long p1), .second, .val (.long p2), .second, .val (.int p3), .val (.int (1 : Int32)), .val (.long ua), .second, .val (.long un), .second, .val (.int (((p3.toUInt32 >>> ((1 : Int32) &&& 31).toUInt32).toInt32) &&& (3 : Int32))), .val (.ref bx), .unset, .unset, .unset, .unset] []))) (fun _ k => XS.ifYes X17.here hx rfl (pc0 := 97) (pc' := 117) rfl (hb hby at_97) rfl ((if0 _ _).trans (feq (by decide)).2) (by decide) (by decide) k) ?_
    refine own_st (B := (T17.setTop (mkF m 118 #[.val (.long p1), .second, .val (.long p2), .second, .val (.int p3), .val (.int (1 : Int32)), .val (.long ua), .second, .val (.long un), .second, .val (.int (((p3.toUInt32 >>> ((1 : Int32) &&& 31).toUInt32).toInt32) &&& (3 : Int32))), .val (.ref bx), .unset, .unset, .unset, .unset] [(.int (1 : Int32))]))) (fun _ k => XS.iconst X17.here hx rfl (hb hby at_117) k) ?_
    refine own_st (B := (T17.setTop (mkF m 122 #[.val (.long p1), .second, .val (.long p2), .second, .val (.int p3), .val (.int (1 : Int32)), .val (.long ua), .second, .val (.long un), .second, .val (.int (((p3.toUInt32 >>> ((1 : Int32) &&& 31).toUInt32).toInt32) &&& (3 : Int32))), .val (.ref bx), .unset, .unset, .unset, .unset] [(.int (1 : Int32))]))) (fun _ k => XS.goto X17.here hx rfl (pc0 := 118) (pc' := 122) rfl (hb hby at_118) (by decide) (by decide) k) ?_
    refine own_st (B := (T17.setTop (mkF m 124 #[.val (.long p1), .second, .val (.long p2), .second, .val (.int p3), .val (.int (1 : Int32)), .val (.long ua), .second, .val (.long un), .second, .val (.int (((p3.toUInt32 >>> ((1 : Int32) &&& 31).toUInt32).toInt32) &&& (3 : Int32))), .val (.ref bx), .val (.int (1 : Int32)), .unset, .unset, .unset] []))) (fun _ k => XS.istore X17.here hx rfl (hb hby at_122) rfl (l' := #[.val (.long p1), .second, .val (.long p2), .second, .val (.int p3), .val (.int (1 : Int32)), .val (.long ua), .second, .val (.long un), .second, .val (.int (((p3.toUInt32 >>> ((1 : Int32) &&& 31).toUInt32).toInt32) &&& (3 : Int32))), .val (.ref bx), .val (.int (1 : Int32)), .unset, .unset, .unset]) rfl k) ?_
    refine own_st (B := (T17.setTop (mkF m 126 #[.val (.long p1), .second, .val (.long p2), .second, .val (.int p3), .val (.int (1 : Int32)), .val (.long ua), .second, .val (.long un), .second, .val (.int (((p3.toUInt32 >>> ((1 : Int32) &&& 31).toUInt32).toInt32) &&& (3 : Int32))), .val (.ref bx), .val (.int (1 : Int32)), .unset, .unset, .unset] [(.ref bx)]))) (fun _ k => XS.aload X17.here hx rfl (hb hby at_124) rfl rfl k) ?_
    refine own_st (B := (T17.setTop (mkF m 128 #[.val (.long p1), .second, .val (.long p2), .second, .val (.int p3), .val (.int (1 : Int32)), .val (.long ua), .second, .val (.long un), .second, .val (.int (((p3.toUInt32 >>> ((1 : Int32) &&& 31).toUInt32).toInt32) &&& (3 : Int32))), .val (.ref bx), .val (.int (1 : Int32)), .unset, .unset, .unset] [(.long un), (.ref bx)]))) (fun _ k => XS.lload X17.here hx rfl (hb hby at_126) rfl k) ?_
    obtain ⟨v18, T18, L18, X18, Q18, st18⟩ := own_callV (W := 0) X17 hx hZ (y := (⟨"com/example/avocet/avocet/charging/Bucket", "refundable", "(J)Z"⟩ : MethodName)) (z := (⟨"com/example/avocet/avocet/charging/Bucket", "refundable", "(J)Z"⟩ : MethodName)) hown (hw _ (List.mem_of_getElem? (i := 32) rfl)) (hw _ (List.mem_of_getElem? (i := 33) rfl)) (notFace_of_selects (args := #[]) (mvT hZ (hw _ (List.mem_of_getElem? (i := 35) rfl)))) (hw _ (List.mem_of_getElem? (i := 35) rfl)) (hw _ (List.mem_of_getElem? (i := 34) rfl)) (hw _ (List.mem_of_getElem? (i := 3) rfl)) (hw _ (List.mem_of_getElem? (i := 36) rfl)) (by decide) rfl (rm_ref l Z a0 hw [] bx un 1 0 1 T17.heap FU17 FA17 (by decide) (Or.inl ⟨rfl, Or.inl (by decide)⟩)) EX17 (g := (mkF m 128 #[.val (.long p1), .second, .val (.long p2), .second, .val (.int p3), .val (.int (1 : Int32)), .val (.long ua), .second, .val (.long un), .second, .val (.int (((p3.toUInt32 >>> ((1 : Int32) &&& 31).toUInt32).toInt32) &&& (3 : Int32))), .val (.ref bx), .val (.int (1 : Int32)), .unset, .unset, .unset] [(.long un), (.ref bx)])) rfl (by rw [hml]; rfl) (argsL := [(.long un)]) (rest := []) (lenOf pd_2 rfl) rfl rfl (by show 2 * 0 + _ ≤ _; exact Nat.le_of_eq rfl) (hb hby at_128) (by decide) (by decide) (by decide) (by decide)
    obtain ⟨rfl, rfl, q18⟩ := Q18
    refine own_st (B := (T18.setTop (mkF m 131 #[.val (.long p1), .second, .val (.long p2), .second, .val (.int p3), .val (.int (1 : Int32)), .val (.long ua), .second, .val (.long un), .second, .val (.int (((p3.toUInt32 >>> ((1 : Int32) &&& 31).toUInt32).toInt32) &&& (3 : Int32))), .val (.ref bx), .val (.int (1 : Int32)), .unset, .unset, .unset] [(.int (1 : Int32))]))) st18 ?_
    refine own_st (B := (T18.setTop (mkF m 133 #[.val (.long p1), .second, .val (.long p2), .second, .val (.int p3), .val (.int (1 : Int32)), .val (.long ua), .second, .val (.long un), .second, .val (.int (((p3.toUInt32 >>> ((1 : Int32) &&& 31).toUInt32).toInt32) &&& (3 : Int32))), .val (.ref bx), .val (.int (1 : Int32)), .val (.int (1 : Int32)), .unset, .unset] []))) (fun _ k => XS.istore X18.here hx rfl (hb hby at_131) rfl (l' := #[.val (.long p1), .second, .val (.long p2), .second, .val (.int p3), .val (.int (1 : Int32)), .val (.long ua), .second, .val (.long un), .second, .val (.int (((p3.toUInt32 >>> ((1 : Int32) &&& 31).toUInt32).toInt32) &&& (3 : Int32))), .val (.ref bx), .val (.int (1 : Int32)), .val (.int (1 : Int32)), .unset, .unset]) rfl k) ?_
    refine own_st (B := (T18.setTop (mkF m 135 #[.val (.long p1), .second, .val (.long p2), .second, .val (.int p3), .val (.int (1 : Int32)), .val (.long ua), .second, .val (.long un), .second, .val (.int (((p3.toUInt32 >>> ((1 : Int32) &&& 31).toUInt32).toInt32) &&& (3 : Int32))), .val (.ref bx), .val (.int (1 : Int32)), .val (.int (1 : Int32)), .unset, .unset] [(.ref bx)]))) (fun _ k => XS.aload X18.here hx rfl (hb hby at_133) rfl rfl k) ?_
    obtain ⟨v19, T19, L19, X19, Q19, st19⟩ := own_callV (W := 0) X18 hx hZ (y := (⟨"com/example/avocet/avocet/charging/Bucket", "available", "()J"⟩ : MethodName)) (z := (⟨"com/example/avocet/avocet/charging/Bucket", "available", "()J"⟩ : MethodName)) hown (hw _ (List.mem_of_getElem? (i := 38) rfl)) (hw _ (List.mem_of_getElem? (i := 39) rfl)) (notFace_of_selects (args := #[]) (mvT hZ (hw _ (List.mem_of_getElem? (i := 41) rfl)))) (hw _ (List.mem_of_getElem? (i := 41) rfl)) (hw _ (List.mem_of_getElem? (i := 40) rfl)) (hw _ (List.mem_of_getElem? (i := 3) rfl)) (hw _ (List.mem_of_getElem? (i := 42) rfl)) (by decide) q18 (rm_av l Z a0 hw [] bx 0 T17.heap FA17) EX17 (g := (mkF m 135 #[.val (.long p1), .second, .val (.long p2), .second, .val (.int p3), .val (.int (1 : Int32)), .val (.long ua), .second, .val (.long un), .second, .val (.int (((p3.toUInt32 >>> ((1 : Int32) &&& 31).toUInt32).toInt32) &&& (3 : Int32))), .val (.ref bx), .val (.int (1 : Int32)), .val (.int (1 : Int32)), .unset, .unset] [(.ref bx)])) rfl (by rw [hml]; rfl) (argsL := []) (rest := []) (lenOf pd_3 rfl) rfl rfl (by show 2 * 0 + _ ≤ _; exact Nat.le_of_eq rfl) (hb hby at_135) (by decide) (by decide) (by decide) (by decide)
    obtain ⟨rfl, rfl, q19⟩ := Q19
    refine own_st (B := (T19.setTop (mkF m 138 #[.val (.long p1), .second, .val (.long p2), .second, .val (.int p3), .val (.int (1 : Int32)), .val (.long ua), .second, .val (.long un), .second, .val (.int (((p3.toUInt32 >>> ((1 : Int32) &&& 31).toUInt32).toInt32) &&& (3 : Int32))), .val (.ref bx), .val (.int (1 : Int32)), .val (.int (1 : Int32)), .unset, .unset] [(.long (0 : Int64))]))) st19 ?_
    refine own_st (B := (T19.setTop (mkF m 140 #[.val (.long p1), .second, .val (.long p2), .second, .val (.int p3), .val (.int (1 : Int32)), .val (.long ua), .second, .val (.long un), .second, .val (.int (((p3.toUInt32 >>> ((1 : Int32) &&& 31).toUInt32).toInt32) &&& (3 : Int32))), .val (.ref bx), .val (.int (1 : Int32)), .val (.int (1 : Int32)), .val (.long (0 : Int64)), .second] []))) (fun _ k => XS.lstore X19.here hx rfl (hb hby at_138) rfl (l' := #[.val (.long p1), .second, .val (.long p2), .second, .val (.int p3), .val (.int (1 : Int32)), .val (.long ua), .second, .val (.long un), .second, .val (.int (((p3.toUInt32 >>> ((1 : Int32) &&& 31).toUInt32).toInt32) &&& (3 : Int32))), .val (.ref bx), .val (.int (1 : Int32)), .val (.int (1 : Int32)), .val (.long (0 : Int64)), .second]) rfl k) ?_
    refine own_st (B := (T19.setTop (mkF m 142 #[.val (.long p1), .second, .val (.long p2), .second, .val (.int p3), .val (.int (1 : Int32)), .val (.long ua), .second, .val (.long un), .second, .val (.int (((p3.toUInt32 >>> ((1 : Int32) &&& 31).toUInt32).toInt32) &&& (3 : Int32))), .val (.ref bx), .val (.int (1 : Int32)), .val (.int (1 : Int32)), .val (.long (0 : Int64)), .second] [(.int (1 : Int32))]))) (fun _ k => XS.iload X19.here hx rfl (hb hby at_140) rfl k) ?_
    refine own_st (B := (T19.setTop (mkF m 144 #[.val (.long p1), .second, .val (.long p2), .second, .val (.int p3), .val (.int (1 : Int32)), .val (.long ua), .second, .val (.long un), .second, .val (.int (((p3.toUInt32 >>> ((1 : Int32) &&& 31).toUInt32).toInt32) &&& (3 : Int32))), .val (.ref bx), .val (.int (1 : Int32)), .val (.int (1 : Int32)), .val (.long (0 : Int64)), .second] [(.int (1 : Int32)), (.int (1 : Int32))]))) (fun _ k => XS.iload X19.here hx rfl (hb hby at_142) rfl k) ?_
    refine own_st (B := (T19.setTop (mkF m 147 #[.val (.long p1), .second, .val (.long p2), .second, .val (.int p3), .val (.int (1 : Int32)), .val (.long ua), .second, .val (.long un), .second, .val (.int (((p3.toUInt32 >>> ((1 : Int32) &&& 31).toUInt32).toInt32) &&& (3 : Int32))), .val (.ref bx), .val (.int (1 : Int32)), .val (.int (1 : Int32)), .val (.long (0 : Int64)), .second] []))) (fun _ k => XS.icmpNo X19.here hx rfl (hb hby at_144) rfl (teq (by decide)).2 k) ?_
    refine own_st (B := (T19.setTop (mkF m 149 #[.val (.long p1), .second, .val (.long p2), .second, .val (.int p3), .val (.int (1 : Int32)), .val (.long ua), .second, .val (.long un), .second, .val (.int (((p3.toUInt32 >>> ((1 : Int32) &&& 31).toUInt32).toInt32) &&& (3 : Int32))), .val (.ref bx), .val (.int (1 : Int32)), .val (.int (1 : Int32)), .val (.long (0 : Int64)), .second] [(.long (0 : Int64))]))) (fun _ k => XS.lload X19.here hx rfl (hb hby at_147) rfl k) ?_
    refine own_st (B := (T19.setTop (mkF m 151 #[.val (.long p1), .second, .val (.long p2), .second, .val (.int p3), .val (.int (1 : Int32)), .val (.long ua), .second, .val (.long un), .second, .val (.int (((p3.toUInt32 >>> ((1 : Int32) &&& 31).toUInt32).toInt32) &&& (3 : Int32))), .val (.ref bx), .val (.int (1 : Int32)), .val (.int (1 : Int32)), .val (.long (0 : Int64)), .second] [(.int (1 : Int32)), (.long (0 : Int64))]))) (fun _ k => XS.iload X19.here hx rfl (hb hby at_149) rfl k) ?_
    refine own_st (B := (T19.setTop (mkF m 154 #[.val (.long p1), .second, .val (.long p2), .second, .val (.int p3), .val (.int (1 : Int32)), .val (.long ua), .second, .val (.long un), .second, .val (.int (((p3.toUInt32 >>> ((1 : Int32) &&& 31).toUInt32).toInt32) &&& (3 : Int32))), .val (.ref bx), .val (.int (1 : Int32)), .val (.int (1 : Int32)), .val (.long (0 : Int64)), .second] [(.long (0 : Int64))]))) (fun _ k => XS.ifNo X19.here hx rfl (hb hby at_151) rfl ((if0 _ _).trans (feq (by decide)).1) k) ?_
    refine own_st (B := (T19.setTop (mkF m 155 #[.val (.long p1), .second, .val (.long p2), .second, .val (.int p3), .val (.int (1 : Int32)), .val (.long ua), .second, .val (.long un), .second, .val (.int (((p3.toUInt32 >>> ((1 : Int32) &&& 31).toUInt32).toInt32) &&& (3 : Int32))), .val (.ref bx), .val (.int (1 : Int32)), .val (.int (1 : Int32)), .val (.long (0 : Int64)), .second] [(.long (0 : Int64)), (.long (0 : Int64))]))) (fun _ k => XS.lconst X19.here hx rfl (hb hby at_154) k) ?_
    refine own_st (B := (T19.setTop (mkF m 160 #[.val (.long p1), .second, .val (.long p2), .second, .val (.int p3), .val (.int (1 : Int32)), .val (.long ua), .second, .val (.long un), .second, .val (.int (((p3.toUInt32 >>> ((1 : Int32) &&& 31).toUInt32).toInt32) &&& (3 : Int32))), .val (.ref bx), .val (.int (1 : Int32)), .val (.int (1 : Int32)), .val (.long (0 : Int64)), .second] [(.long (0 : Int64)), (.long (0 : Int64))]))) (fun _ k => XS.goto X19.here hx rfl (pc0 := 155) (pc' := 160) rfl (hb hby at_155) (by decide) (by decide) k) ?_
    refine own_st (B := (T19.setTop (mkF m 161 #[.val (.long p1), .second, .val (.long p2), .second, .val (.int p3), .val (.int (1 : Int32)), .val (.long ua), .second, .val (.long un), .second, .val (.int (((p3.toUInt32 >>> ((1 : Int32) &&& 31).toUInt32).toInt32) &&& (3 : Int32))), .val (.ref bx), .val (.int (1 : Int32)), .val (.int (1 : Int32)), .val (.long (0 : Int64)), .second] [(.int (lcmpW (0 : Int64) (0 : Int64)))]))) (fun _ k => XS.lcmp X19.here hx rfl (hb hby at_160) rfl k) ?_
    refine own_st (B := (T19.setTop (mkF m 164 #[.val (.long p1), .second, .val (.long p2), .second, .val (.int p3), .val (.int (1 : Int32)), .val (.long ua), .second, .val (.long un), .second, .val (.int (((p3.toUInt32 >>> ((1 : Int32) &&& 31).toUInt32).toInt32) &&& (3 : Int32))), .val (.ref bx), .val (.int (1 : Int32)), .val (.int (1 : Int32)), .val (.long (0 : Int64)), .second] []))) (fun _ k => XS.ifNo X19.here hx rfl (hb hby at_161) rfl ((if0 _ _).trans (teq ((lw_eq (0 : Int64) (0 : Int64)).mpr rfl)).2) k) ?_
    refine own_st (B := (T19.setTop (mkF m 165 #[.val (.long p1), .second, .val (.long p2), .second, .val (.int p3), .val (.int (1 : Int32)), .val (.long ua), .second, .val (.long un), .second, .val (.int (((p3.toUInt32 >>> ((1 : Int32) &&& 31).toUInt32).toInt32) &&& (3 : Int32))), .val (.ref bx), .val (.int (1 : Int32)), .val (.int (1 : Int32)), .val (.long (0 : Int64)), .second] [(.int (1 : Int32))]))) (fun _ k => XS.iconst X19.here hx rfl (hb hby at_164) k) ?_
    refine own_st (B := (T19.setTop (mkF m 169 #[.val (.long p1), .second, .val (.long p2), .second, .val (.int p3), .val (.int (1 : Int32)), .val (.long ua), .second, .val (.long un), .second, .val (.int (((p3.toUInt32 >>> ((1 : Int32) &&& 31).toUInt32).toInt32) &&& (3 : Int32))), .val (.ref bx), .val (.int (1 : Int32)), .val (.int (1 : Int32)), .val (.long (0 : Int64)), .second] [(.int (1 : Int32))]))) (fun _ k => XS.goto X19.here hx rfl (pc0 := 165) (pc' := 169) rfl (hb hby at_165) (by decide) (by decide) k) ?_
    exact own_wretN X19 hS (by rw [q19]; exact (Nat.le_trans hk16 hsz)) hx hlk (t := .boolean) hret (by simp) (hb hby at_169) (by show own_Q0 n0 _ T19.heap _; rw [q19]; exact ⟨rfl, by simpa using N17⟩) (by decide) (by decide)
set_option maxRecDepth 65536 in
set_option maxHeartbeats 40000000 in
theorem comes_1 {Post : Tables → Env → Array Value → State → Outcome → State → Prop} (hpost : ∀ tb e args s v u, (limb_1_1.after args s (.returned v) u = true ∧ limb_1_2.after args s (.returned v) u = true ∧ True) → ReturnedEndW s (.returned v) u (Jvm.fieldLocs frame_1_writes args s ++ Jvm.arrayLocs frame_1_arrays args s ++ Jvm.staticLocs frame_1_statics s) 16 2176 → Post tb e args s (.returned v) u) :
    ArmFor flags0 classFile x code maxLocals ret World_1 tables_1 room_1 Calls_1 rest_1 Pre_1 Post := by
  intro l hfl _ _ p e ha hc hk s m args below hf hA hF happ hP
  obtain ⟨hcalls, hrest, hpre⟩ := hP
  obtain ⟨-, -, -, hnamed, -, -, -, hat⟩ := (Spec.applies_iff hf).mp happ
  obtain ⟨hg, hn⟩ := and_e (Cond.before_iff.mp (show (Jvm.Cond.and given_1 narrow_1).before args s = true from hpre))
  obtain ⟨g1, g2⟩ := and_e hg
  obtain ⟨g3, g4⟩ := and_e g2
  obtain ⟨g5, g6⟩ := and_e g4
  obtain ⟨w0, w1, w2, rfl⟩ : ∃ w0 w1 w2 : Value, args = #[w0, w1, w2] := by
    have hs : args.size = 3 := by simpa [Cond.value, given_1] using g1
    obtain ⟨L⟩ := args
    match L, hs with
    | [w0, w1, w2], _ => exact ⟨w0, w1, w2, rfl⟩
  have hw := fun d (hd : d ∈ tables_1) => atoms_spec (ws := Jvm.Cond.code x code maxLocals ret :: tables_1) hat d (List.mem_cons_of_mem _ hd)
  have hfit : Fit s := fun {y c} hc i hi => by
    obtain ⟨ha, rfl⟩ := Array.getElem?_eq_some_iff.mp hc
    have q := List.all_eq_true.mp ((Array.all_eq_true_iff_forall_mem.mp hF) _ (Array.getElem_mem ha)) i (List.mem_range.mpr hi)
    simpa [Array.getElem?_eq_getElem hi] using q
  obtain ⟨i0, ei0⟩ := isL_v g3
  obtain rfl : w0 = (.long i0) := Option.some.inj ei0
  obtain ⟨i1, ei1⟩ := isL_v g5
  obtain rfl : w1 = (.long i1) := Option.some.inj ei1
  obtain ⟨i2, ei2⟩ := is_v g6
  obtain rfl : w2 = (.int i2) := Option.some.inj ei2
  obtain ⟨n, o, h1, h2, h3, _, L, rfl, ⟨rfl, N⟩, hq⟩ := rm_law l s _ hw tables_1 i0 i1 i2 s.heap s.heap.size (Nat.le_refl _) p e ha hc hk s m _ below hf ((Spec.applies_iff_loose hf).mp happ).1 ⟨rfl, State.Warmed39.refl s, rfl⟩ trivial
  refine ⟨n, _, h1, h2, h3, hpost _ _ _ _ _ _ ⟨Cond.after_iff.mpr rfl, Cond.after_iff.mpr (eq_i res_at (Term.int_eval (1)) rfl), trivial⟩ ⟨hq.1, hq.2.1, hq.2.2.1, (hq.2.2.2.sift fun y hy => Or.inr (N y hy)).mono (by decide) (by decide)⟩⟩
theorem main_1_1 : Claimed_1_1 := comes_1 fun _ _ _ _ _ _ h hF => ⟨h.1, hF⟩
theorem main_1_2 : Claimed_1_2 := comes_1 fun _ _ _ _ _ _ h hF => ⟨h.2.1, hF⟩
end Jvm.Pilot.@@N@@
namespace Jvm.Pilot.@@N@@
open Jvm Jvm.ClassFile Sem Op Lib Jvm.Free Jvm.Stand Jvm.Pilot.@@N@@.Jvm.D
/-! MADE BY PROGRAM (witnessworld.py) out of the Statement's table words and the real class files: 14 classes; the members and pool entries that the words name. The judged class is class 1, her method 1. -/
namespace start1
open Jvm.ClassFile
def u (s : String) : CpInfo := .utf8 (stringToUtf16 s)
/-- a pool by its gaps: so many unusable entries, then the entry; so many at the end -/
def gap : Nat → List CpInfo → List CpInfo
  | 0, r => r
  | n + 1, r => .unusable :: gap n r
def poolList (es : List (Nat × CpInfo)) (last : Nat) : List CpInfo := es.foldr (fun e r => gap e.1 (e.2 :: r)) (gap last [])
def pool (es : List (Nat × CpInfo)) (last : Nat) : Array CpInfo := ⟨poolList es last⟩
def fileOf (pool : Array CpInfo) (this : Nat) (attrs : Array Attribute := #[]) (ms : Array MethodInfo := #[]) (fl : Nat := 33) (sup : Nat := 0) (ifs : Array Nat := #[]) (fds : Array FieldInfo := #[]) : ClassFile where
  minorVersion := 0
  majorVersion := 65
  constantPool := pool
  accessFlags := fl
  thisClass := this
  superClass := sup
  interfaces := ifs
  fields := fds
  methods := ms
  attributes := attrs
def plain (name : String) (sup : Option ClassId) : Class where
  name := name
  kind := .ordinary
  loader := none
  accessFlags := 33
  super := sup
  interfaces := #[]
  cf := none
  fields := #[]
  methods := #[]
  instanceTypes := #[]
  staticTypes := #[]
  resolved := #[]
  callSites := []
  init := .initialized
  statics := none
  mirror := none

def pool0 : Array CpInfo := pool [(5, u "<init>"), (0, u "()V"), (1, .class_ 10), (1, u "java/lang/Object")] 113

def k0c0 : Code := { maxStack := 0, maxLocals := 1, code := object_method_1_code, exceptionTable := #[], attributes := #[] }
def k0m0 : Method := { name := "<init>", desc := "()V", sig := { parameters := [], returnType := none }, accessFlags := 1, code := some k0c0 }
/-- java/lang/Object -/
def k0 : Class := { plain "java/lang/Object" none with
  accessFlags := 33
  interfaces := #[]
  cf := some (fileOf pool0 8 #[] #[{ accessFlags := 1, nameIndex := 5, descriptorIndex := 6, attributes := #[] }] 33 0 #[] #[])
  fields := #[]
  methods := #[k0m0]
  instanceTypes := #[]
  staticTypes := #[]
  resolved := Array.replicate 124 none
  statics := none }

def pool1 : Array CpInfo := pool [(2, .class_ 4), (1, u "java/lang/Object"), (0, u "<init>"), (0, u "()V"), (2, .long 9223372036854775807), (1, .string 12), (0, u "s"), (0, .string 14), (0, u "n"), (0, .methodref 16 17), (0, .class_ 18), (0, .nameAndType 19 20), (0, u "com/example/avocet/avocet/charging/Bucket"), (0, u "unlimited"), (0, u "(Ljava/lang/String;Ljava/lang/String;)Lcom/example/avocet/avocet/charging/Bucket;"), (0, .methodref 16 22), (0, .nameAndType 5 23), (0, u "(Ljava/lang/String;Ljava/lang/String;J)V"), (0, .methodref 16 25), (0, .nameAndType 26 27), (0, u "refundable"), (0, u "(J)Z"), (0, .methodref 16 29), (0, .nameAndType 30 31), (0, u "available"), (0, u "()J"), (0, .class_ 33), (0, u "com/example/avocet/avocet/charging/BucketRefundablePinLaw"), (2, u "law"), (0, u "(JJI)Z")] 3

def k1m0 : Method := { name := "<init>", desc := "()V", sig := { parameters := [], returnType := none }, accessFlags := 1, code := none }
def k1c1 : Code := { maxStack := 6, maxLocals := 16, code := code, exceptionTable := #[], attributes := #[] }
def k1m1 : Method := { name := "law", desc := "(JJI)Z", sig := { parameters := [.long, .long, .int], returnType := some .boolean }, accessFlags := 9, code := some k1c1 }
/-- com/example/avocet/avocet/charging/BucketRefundablePinLaw -/
def k1 : Class := { plain "com/example/avocet/avocet/charging/BucketRefundablePinLaw" (some 0) with
  accessFlags := 49
  interfaces := #[]
  cf := some (fileOf pool1 32 #[] #[{ accessFlags := 1, nameIndex := 5, descriptorIndex := 6, attributes := #[] }, { accessFlags := 9, nameIndex := 36, descriptorIndex := 37, attributes := #[] }] 49 2 #[] #[])
  fields := #[]
  methods := #[k1m0, k1m1]
  instanceTypes := #[]
  staticTypes := #[]
  resolved := Array.replicate 41 none
  statics := none }

def pool2 : Array CpInfo := pool [(1, .methodref 2 3), (0, .class_ 4), (0, .nameAndType 5 6), (0, u "com/example/avocet/avocet/charging/Bucket"), (0, u "<init>"), (0, u "(Ljava/lang/String;Ljava/lang/String;ZJJ)V"), (9, .methodref 17 18), (0, .class_ 19), (0, .nameAndType 5 20), (0, u "java/lang/Object"), (0, u "()V"), (0, .fieldref 2 22), (0, .nameAndType 23 24), (0, u "subscriber"), (0, u "Ljava/lang/String;"), (0, .fieldref 2 26), (0, .nameAndType 27 24), (0, u "name"), (0, .fieldref 2 29), (0, .nameAndType 30 31), (0, u "unlimited"), (0, u "Z"), (0, .fieldref 2 33), (0, .nameAndType 34 35), (0, u "available"), (0, u "J"), (0, .fieldref 2 37), (0, .nameAndType 38 35), (0, u "reserved"), (2, .long 9223372036854775807), (4, u "()J"), (21, u "unsettledTaken"), (3, u "unsettledFreed"), (2, u "refundable"), (0, u "(J)Z"), (25, u "(Ljava/lang/String;Ljava/lang/String;J)V"), (3, u "(Ljava/lang/String;Ljava/lang/String;)Lcom/example/avocet/avocet/charging/Bucket;")] 46

def k2c0 : Code := { maxStack := 8, maxLocals := 5, code := prog_3_method_1_code, exceptionTable := #[], attributes := #[] }
def k2m0 : Method := { name := "<init>", desc := "(Ljava/lang/String;Ljava/lang/String;J)V", sig := { parameters := [(.object "java/lang/String"), (.object "java/lang/String"), .long], returnType := none }, accessFlags := 1, code := some k2c0 }
def k2c1 : Code := { maxStack := 3, maxLocals := 8, code := prog_3_method_2_code, exceptionTable := #[], attributes := #[] }
def k2m1 : Method := { name := "<init>", desc := "(Ljava/lang/String;Ljava/lang/String;ZJJ)V", sig := { parameters := [(.object "java/lang/String"), (.object "java/lang/String"), .boolean, .long, .long], returnType := none }, accessFlags := 2, code := some k2c1 }
def k2c2 : Code := { maxStack := 9, maxLocals := 2, code := prog_3_method_3_code, exceptionTable := #[], attributes := #[] }
def k2m2 : Method := { name := "unlimited", desc := "(Ljava/lang/String;Ljava/lang/String;)Lcom/example/avocet/avocet/charging/Bucket;", sig := { parameters := [(.object "java/lang/String"), (.object "java/lang/String")], returnType := some (.object "com/example/avocet/avocet/charging/Bucket") }, accessFlags := 9, code := some k2c2 }
def k2c3 : Code := { maxStack := 2, maxLocals := 1, code := prog_3_method_7_code, exceptionTable := #[], attributes := #[] }
def k2m3 : Method := { name := "available", desc := "()J", sig := { parameters := [], returnType := some .long }, accessFlags := 1, code := some k2c3 }
def k2c4 : Code := { maxStack := 6, maxLocals := 3, code := prog_3_method_13_code, exceptionTable := #[], attributes := #[] }
def k2m4 : Method := { name := "refundable", desc := "(J)Z", sig := { parameters := [.long], returnType := some .boolean }, accessFlags := 0, code := some k2c4 }
/-- com/example/avocet/avocet/charging/Bucket -/
def k2 : Class := { plain "com/example/avocet/avocet/charging/Bucket" (some 0) with
  accessFlags := 49
  interfaces := #[]
  cf := some (fileOf pool2 2 #[] #[{ accessFlags := 1, nameIndex := 5, descriptorIndex := 102, attributes := #[] }, { accessFlags := 2, nameIndex := 5, descriptorIndex := 6, attributes := #[] }, { accessFlags := 9, nameIndex := 30, descriptorIndex := 106, attributes := #[] }, { accessFlags := 1, nameIndex := 34, descriptorIndex := 46, attributes := #[] }, { accessFlags := 0, nameIndex := 75, descriptorIndex := 76, attributes := #[] }] 49 17 #[] #[{ accessFlags := 18, nameIndex := 23, descriptorIndex := 24, attributes := #[] }, { accessFlags := 18, nameIndex := 27, descriptorIndex := 24, attributes := #[] }, { accessFlags := 2, nameIndex := 30, descriptorIndex := 31, attributes := #[] }, { accessFlags := 2, nameIndex := 34, descriptorIndex := 35, attributes := #[] }, { accessFlags := 2, nameIndex := 38, descriptorIndex := 35, attributes := #[] }, { accessFlags := 2, nameIndex := 68, descriptorIndex := 35, attributes := #[] }, { accessFlags := 2, nameIndex := 72, descriptorIndex := 35, attributes := #[] }])
  fields := #[{ name := "subscriber", type := (.object "java/lang/String"), accessFlags := 18, slot := 0, constantValue := 0 }, { name := "name", type := (.object "java/lang/String"), accessFlags := 18, slot := 1, constantValue := 0 }, { name := "unlimited", type := .boolean, accessFlags := 2, slot := 2, constantValue := 0 }, { name := "available", type := .long, accessFlags := 2, slot := 3, constantValue := 0 }, { name := "reserved", type := .long, accessFlags := 2, slot := 4, constantValue := 0 }, { name := "unsettledTaken", type := .long, accessFlags := 2, slot := 5, constantValue := 0 }, { name := "unsettledFreed", type := .long, accessFlags := 2, slot := 6, constantValue := 0 }]
  methods := #[k2m0, k2m1, k2m2, k2m3, k2m4]
  instanceTypes := #[(.object "java/lang/String"), (.object "java/lang/String"), .boolean, .long, .long, .long, .long]
  staticTypes := #[]
  resolved := Array.replicate 153 none
  statics := none }

def pool3 : Array CpInfo := pool [(1, .class_ 2), (0, u "java/io/Serializable"), (0, .class_ 4), (0, u "java/lang/Object")] 2

/-- java/io/Serializable -/
def k3 : Class := { plain "java/io/Serializable" (some 0) with
  accessFlags := 1537
  interfaces := #[]
  cf := some (fileOf pool3 1 #[] #[] 1537 3 #[] #[])
  fields := #[]
  methods := #[]
  instanceTypes := #[]
  staticTypes := #[]
  resolved := Array.replicate 7 none
  statics := none }

def pool4 : Array CpInfo := pool [(1, .class_ 2), (0, u "java/lang/Comparable"), (0, .class_ 4), (0, u "java/lang/Object")] 7

/-- java/lang/Comparable -/
def k4 : Class := { plain "java/lang/Comparable" (some 0) with
  accessFlags := 1537
  interfaces := #[]
  cf := some (fileOf pool4 1 #[] #[] 1537 3 #[] #[])
  fields := #[]
  methods := #[]
  instanceTypes := #[]
  staticTypes := #[]
  resolved := Array.replicate 12 none
  statics := none }

def pool5 : Array CpInfo := pool [(2, .class_ 4), (1, u "java/lang/CharSequence"), (42, .class_ 48), (0, u "java/lang/CharSequence$1CodePointIterator"), (10, .class_ 60), (0, u "java/lang/CharSequence$1CharIterator"), (5, .class_ 67), (0, u "java/lang/Object")] 63

/-- java/lang/CharSequence -/
def k5 : Class := { plain "java/lang/CharSequence" (some 0) with
  accessFlags := 1537
  interfaces := #[]
  cf := some (fileOf pool5 2 #[.nestMembers #[47, 59]] #[] 1537 66 #[] #[])
  fields := #[]
  methods := #[]
  instanceTypes := #[]
  staticTypes := #[]
  resolved := Array.replicate 131 none
  statics := none }

def pool6 : Array CpInfo := pool [(1, .class_ 2), (0, u "java/lang/constant/Constable"), (0, .class_ 4), (0, u "java/lang/Object")] 6

/-- java/lang/constant/Constable -/
def k6 : Class := { plain "java/lang/constant/Constable" (some 0) with
  accessFlags := 1537
  interfaces := #[]
  cf := some (fileOf pool6 1 #[] #[] 1537 3 #[] #[])
  fields := #[]
  methods := #[]
  instanceTypes := #[]
  staticTypes := #[]
  resolved := Array.replicate 11 none
  statics := none }

def pool7 : Array CpInfo := pool [(1, .class_ 2), (0, u "java/lang/constant/ConstantDesc"), (0, .class_ 4), (0, u "java/lang/Object")] 32

/-- java/lang/constant/ConstantDesc -/
def k7 : Class := { plain "java/lang/constant/ConstantDesc" (some 0) with
  accessFlags := 1537
  interfaces := #[]
  cf := some (fileOf pool7 1 #[] #[] 1537 3 #[] #[])
  fields := #[]
  methods := #[]
  instanceTypes := #[]
  staticTypes := #[]
  resolved := Array.replicate 37 none
  statics := none }

def pool8 : Array CpInfo := pool [(2, .class_ 4), (1, u "java/lang/Object"), (0, u "<init>"), (0, u "()V"), (3, .class_ 12), (1, u "java/lang/String"), (0, u "value"), (0, u "[B"), (2, u "coder"), (0, u "B"), (2, u "hash"), (0, u "I"), (2, u "hashIsZero"), (0, u "Z"), (13, u "COMPACT_STRINGS"), (534, .class_ 576), (0, u "java/lang/CharSequence"), (22, u "CASE_INSENSITIVE_ORDER"), (0, u "Ljava/util/Comparator;"), (500, u "serialPersistentFields"), (0, u "[Ljava/io/ObjectStreamField;"), (0, .class_ 1104), (0, u "java/lang/String$CaseInsensitiveComparator"), (1, .class_ 1107), (0, u "java/io/Serializable"), (0, .class_ 1109), (0, u "java/lang/Comparable"), (0, .class_ 1111), (0, u "java/lang/constant/Constable"), (0, .class_ 1113), (0, u "java/lang/constant/ConstantDesc"), (2, u "serialVersionUID"), (0, u "J"), (3, u "REPL"), (0, u "C"), (2, u "LATIN1"), (1, u "UTF16")] 323

def k8m0 : Method := { name := "<init>", desc := "()V", sig := { parameters := [], returnType := none }, accessFlags := 1, code := none }
/-- java/lang/String -/
def k8 : Class := { plain "java/lang/String" (some 0) with
  accessFlags := 49
  interfaces := #[3, 4, 5, 6, 7]
  cf := some (fileOf pool8 10 #[.nestMembers #[1103]] #[{ accessFlags := 1, nameIndex := 5, descriptorIndex := 6, attributes := #[] }] 49 2 #[1106, 1108, 575, 1110, 1112] #[{ accessFlags := 18, nameIndex := 13, descriptorIndex := 14, attributes := #[] }, { accessFlags := 18, nameIndex := 17, descriptorIndex := 18, attributes := #[] }, { accessFlags := 2, nameIndex := 21, descriptorIndex := 22, attributes := #[] }, { accessFlags := 2, nameIndex := 25, descriptorIndex := 26, attributes := #[] }, { accessFlags := 26, nameIndex := 1116, descriptorIndex := 1117, attributes := #[] }, { accessFlags := 24, nameIndex := 40, descriptorIndex := 26, attributes := #[] }, { accessFlags := 26, nameIndex := 1101, descriptorIndex := 1102, attributes := #[] }, { accessFlags := 26, nameIndex := 1121, descriptorIndex := 1122, attributes := #[] }, { accessFlags := 25, nameIndex := 599, descriptorIndex := 600, attributes := #[] }, { accessFlags := 24, nameIndex := 1125, descriptorIndex := 18, attributes := #[] }, { accessFlags := 24, nameIndex := 1127, descriptorIndex := 18, attributes := #[] }])
  fields := #[{ name := "value", type := (.array .byte), accessFlags := 18, slot := 0, constantValue := 0 }, { name := "coder", type := .byte, accessFlags := 18, slot := 1, constantValue := 0 }, { name := "hash", type := .int, accessFlags := 2, slot := 2, constantValue := 0 }, { name := "hashIsZero", type := .boolean, accessFlags := 2, slot := 3, constantValue := 0 }, { name := "serialVersionUID", type := .long, accessFlags := 26, slot := 0, constantValue := 0 }, { name := "COMPACT_STRINGS", type := .boolean, accessFlags := 24, slot := 1, constantValue := 0 }, { name := "serialPersistentFields", type := (.array (.object "java/io/ObjectStreamField")), accessFlags := 26, slot := 2, constantValue := 0 }, { name := "REPL", type := .char, accessFlags := 26, slot := 3, constantValue := 0 }, { name := "CASE_INSENSITIVE_ORDER", type := (.object "java/util/Comparator"), accessFlags := 25, slot := 4, constantValue := 0 }, { name := "LATIN1", type := .byte, accessFlags := 24, slot := 5, constantValue := 0 }, { name := "UTF16", type := .byte, accessFlags := 24, slot := 6, constantValue := 0 }]
  methods := #[k8m0]
  instanceTypes := #[(.array .byte), .byte, .int, .boolean]
  staticTypes := #[.long, .boolean, (.array (.object "java/io/ObjectStreamField")), .char, (.object "java/util/Comparator"), .byte, .byte]
  resolved := Array.replicate 1451 none
  statics := none }

def pool9 : Array CpInfo := pool [(1, u "java/lang/Cloneable"), (0, .class_ 1), (0, u "java/lang/Object"), (0, .class_ 3)] 3

/-- java/lang/Cloneable -/
def k9 : Class := { plain "java/lang/Cloneable" (some 0) with
  accessFlags := 1537
  interfaces := #[]
  cf := some (fileOf pool9 2 #[] #[] 1537 4 #[] #[])
  fields := #[]
  methods := #[]
  instanceTypes := #[]
  staticTypes := #[]
  resolved := Array.replicate 8 none
  statics := none }

/-- the primitive byte -/
def k10 : Class := { plain "byte" none with kind := .primitive 'B', accessFlags := 0x411 }
/-- [B -/
def k11 : Class := { plain "[B" (some 0) with kind := .array 10 .byte, interfaces := #[9, 3], accessFlags := 1041 }

/-- the primitive int -/
def k12 : Class := { plain "int" none with kind := .primitive 'I', accessFlags := 0x411 }
/-- [I -/
def k13 : Class := { plain "[I" (some 0) with kind := .array 12 .int, interfaces := #[9, 3], accessFlags := 1041 }

def heap : Heap := #[]
def classes : Array Class := #[k0, k1, k2, k3, k4, k5, k6, k7, k8, k9, k10, k11, k12, k13]
def interned : List (Array UInt16 × Addr) := []
def slotsUsed : Nat := 0
def theMethod : MethodId := ⟨1, 1⟩
def args0 : Array Value := #[.long 5, .long 6, .int 2]
def aboutOver (below : List Frame) : State where
  vm := { classes := classes, interned := interned.toArray }
  heap := heap
  slotsUsed := slotsUsed
  threads := #[{ frames := .invoking theMethod args0 :: below }]
def below0 : List Frame := [.native { method := ⟨0, 0⟩, args := #[] }]
def about1 : State := aboutOver below0
def p0 : Program := .bare "" "" ""
def e0 : Env := launch0.env 0 0 0
theorem w_frames : about1.frames = Frame.invoking theMethod args0 :: below0 := rfl
set_option maxRecDepth 65536 in
theorem w_args : argsFit about1.vm theMethod args0 = true := by decide +kernel
set_option maxRecDepth 65536 in
theorem w_heap : heapFits about1 = true := by decide +kernel
set_option maxRecDepth 65536 in
theorem w_runnable : about1.curStatus? = some .runnable := by decide +kernel
set_option maxRecDepth 65536 in
theorem w_alone : about1.alone = true := by decide +kernel
set_option maxRecDepth 65536 in
theorem w_named : about1.methodNamed? x = some theMethod := by decide +kernel
set_option maxRecDepth 65536 in
theorem w_hears : about1.hears theMethod below0 = true := by decide +kernel
set_option maxRecDepth 65536 in
theorem w_ripe : about1.ripe theMethod args0 below0 = true := by decide +kernel
theorem w_running : about1.status = .running := rfl
set_option maxRecDepth 65536 in
theorem w_room : about1.hasRoom e0.platform room_1 = true :=
  launch0.hasRoom_least _ room_1 (by decide +kernel) (by decide +kernel) (by decide +kernel) (by decide +kernel) (by decide +kernel) (by decide +kernel)
theorem allAtoms_all (ts : List Jvm.Cond) (a : Array Jvm.Value) (st : Jvm.State) : (allAtoms ts).before a st = ts.all (fun c => c.before a st) := by
  induction ts with
  | nil => rfl
  | cons c t ih =>
    show (Jvm.Cond.and c (allAtoms t)).before a st = _
    rw [Jvm.Cond.before_and, ih, List.all_cons]
def words1 : List Jvm.Cond := Jvm.Cond.code x code maxLocals ret :: tables_1
/-- a 'code' word, met by the world's own term for the bytes: nothing is compared byte by byte -/
theorem code_word {y : MethodName} {bytes : ByteArray} {mx : Nat} {rt : Option FieldType} {a : Array Value} {s : State} {m : MethodId} {meth : Method} {c : Code} (h1 : s.methodNamed? y = some m) (h2 : s.vm.method? m = some meth) (h3 : meth.code = some c) (h4 : c.code = bytes)
    (h5 : (c.maxLocals == mx && c.exceptionTable.isEmpty && decide (c.maxStack ≤ mostOperands) && decide (meth.sig.returnType = rt) && !meth.locks && decide (parseMethodDescriptor y.desc = some meth.sig)) = true) : (Jvm.Cond.code y bytes mx rt).before a s = true := by
  simp only [Bool.and_eq_true, beq_iff_eq, Bool.not_eq_true', decide_eq_true_eq] at h5
  obtain ⟨⟨⟨⟨⟨g1, g2⟩, g3⟩, g4⟩, g5⟩, g6⟩ := h5
  simp [Cond.before, Cond.holds, Cond.value, h1, h2, h3, h4, g1, g2, g3, g4, g5, g6]
def isCode : Jvm.Cond → Bool
  | .code _ _ _ _ => true
  | _ => false
theorem all_split {L : List Jvm.Cond} {P : Jvm.Cond → Bool} (h1 : L.all (fun c => isCode c || P c) = true) (h2 : ∀ c ∈ L.filter isCode, P c = true) : L.all P = true := by
  refine List.all_eq_true.mpr fun c hc => ?_
  have h := List.all_eq_true.mp h1 c hc
  rcases Bool.eq_false_or_eq_true (isCode c) with hi | hi
  · exact h2 c (List.mem_filter.mpr ⟨hc, hi⟩)
  · simpa [hi] using h
set_option maxRecDepth 65536 in
theorem w_c0 : (Jvm.Cond.code x code maxLocals ret).before args0 about1 = true := code_word (m := ⟨1, 1⟩) (meth := k1m1) (c := k1c1) (by decide +kernel) rfl rfl rfl (by decide +kernel)
set_option maxRecDepth 65536 in
theorem w_c1 : (Jvm.Cond.code ({ cls := "com/example/avocet/avocet/charging/Bucket", name := "<init>", desc := "(Ljava/lang/String;Ljava/lang/String;J)V" } : Jvm.MethodName) prog_3_method_1_code (5 : Nat) (Option.none : Option Jvm.ClassFile.FieldType)).before args0 about1 = true := code_word (m := ⟨2, 0⟩) (meth := k2m0) (c := k2c0) (by decide +kernel) rfl rfl rfl (by decide +kernel)
set_option maxRecDepth 65536 in
theorem w_c2 : (Jvm.Cond.code ({ cls := "com/example/avocet/avocet/charging/Bucket", name := "<init>", desc := "(Ljava/lang/String;Ljava/lang/String;ZJJ)V" } : Jvm.MethodName) prog_3_method_2_code (8 : Nat) (Option.none : Option Jvm.ClassFile.FieldType)).before args0 about1 = true := code_word (m := ⟨2, 1⟩) (meth := k2m1) (c := k2c1) (by decide +kernel) rfl rfl rfl (by decide +kernel)
set_option maxRecDepth 65536 in
theorem w_c3 : (Jvm.Cond.code ({ cls := "java/lang/Object", name := "<init>", desc := "()V" } : Jvm.MethodName) object_method_1_code (1 : Nat) (Option.none : Option Jvm.ClassFile.FieldType)).before args0 about1 = true := code_word (m := ⟨0, 0⟩) (meth := k0m0) (c := k0c0) (by decide +kernel) rfl rfl rfl (by decide +kernel)
set_option maxRecDepth 65536 in
theorem w_c4 : (Jvm.Cond.code ({ cls := "com/example/avocet/avocet/charging/Bucket", name := "refundable", desc := "(J)Z" } : Jvm.MethodName) prog_3_method_13_code (3 : Nat) (Option.some Jvm.ClassFile.FieldType.boolean)).before args0 about1 = true := code_word (m := ⟨2, 4⟩) (meth := k2m4) (c := k2c4) (by decide +kernel) rfl rfl rfl (by decide +kernel)
set_option maxRecDepth 65536 in
theorem w_c5 : (Jvm.Cond.code ({ cls := "com/example/avocet/avocet/charging/Bucket", name := "available", desc := "()J" } : Jvm.MethodName) prog_3_method_7_code (1 : Nat) (Option.some Jvm.ClassFile.FieldType.long)).before args0 about1 = true := code_word (m := ⟨2, 3⟩) (meth := k2m3) (c := k2c3) (by decide +kernel) rfl rfl rfl (by decide +kernel)
set_option maxRecDepth 65536 in
theorem w_c6 : (Jvm.Cond.code ({ cls := "com/example/avocet/avocet/charging/Bucket", name := "unlimited", desc := "(Ljava/lang/String;Ljava/lang/String;)Lcom/example/avocet/avocet/charging/Bucket;" } : Jvm.MethodName) prog_3_method_3_code (2 : Nat) (Option.some (Jvm.ClassFile.FieldType.object "com/example/avocet/avocet/charging/Bucket"))).before args0 about1 = true := code_word (m := ⟨2, 2⟩) (meth := k2m2) (c := k2c2) (by decide +kernel) rfl rfl rfl (by decide +kernel)
def codes1 : List Jvm.Cond := [Jvm.Cond.code x code maxLocals ret, Jvm.Cond.code ({ cls := "com/example/avocet/avocet/charging/Bucket", name := "<init>", desc := "(Ljava/lang/String;Ljava/lang/String;J)V" } : Jvm.MethodName) prog_3_method_1_code (5 : Nat) (Option.none : Option Jvm.ClassFile.FieldType), Jvm.Cond.code ({ cls := "com/example/avocet/avocet/charging/Bucket", name := "<init>", desc := "(Ljava/lang/String;Ljava/lang/String;ZJJ)V" } : Jvm.MethodName) prog_3_method_2_code (8 : Nat) (Option.none : Option Jvm.ClassFile.FieldType), Jvm.Cond.code ({ cls := "java/lang/Object", name := "<init>", desc := "()V" } : Jvm.MethodName) object_method_1_code (1 : Nat) (Option.none : Option Jvm.ClassFile.FieldType), Jvm.Cond.code ({ cls := "com/example/avocet/avocet/charging/Bucket", name := "refundable", desc := "(J)Z" } : Jvm.MethodName) prog_3_method_13_code (3 : Nat) (Option.some Jvm.ClassFile.FieldType.boolean), Jvm.Cond.code ({ cls := "com/example/avocet/avocet/charging/Bucket", name := "available", desc := "()J" } : Jvm.MethodName) prog_3_method_7_code (1 : Nat) (Option.some Jvm.ClassFile.FieldType.long), Jvm.Cond.code ({ cls := "com/example/avocet/avocet/charging/Bucket", name := "unlimited", desc := "(Ljava/lang/String;Ljava/lang/String;)Lcom/example/avocet/avocet/charging/Bucket;" } : Jvm.MethodName) prog_3_method_3_code (2 : Nat) (Option.some (Jvm.ClassFile.FieldType.object "com/example/avocet/avocet/charging/Bucket"))]
set_option maxRecDepth 65536 in
theorem codes_eq : words1.filter isCode = codes1 := rfl
theorem w_codes : ∀ c ∈ words1.filter isCode, c.before args0 about1 = true := by
  rw [codes_eq]
  intro c hc
  simp only [codes1, List.mem_cons, List.not_mem_nil, or_false] at hc
  rcases hc with rfl | rfl | rfl | rfl | rfl | rfl | rfl
  · exact w_c0
  · exact w_c1
  · exact w_c2
  · exact w_c3
  · exact w_c4
  · exact w_c5
  · exact w_c6
set_option maxRecDepth 65536 in
theorem w_t1 : (words1.take 24).all (fun c => isCode c || c.before args0 about1) = true := by decide +kernel
set_option maxRecDepth 65536 in
theorem w_t2 : (words1.drop 24).all (fun c => isCode c || c.before args0 about1) = true := by decide +kernel
theorem w_tables : (allAtoms (Jvm.Cond.code x code maxLocals ret :: tables_1)).before args0 about1 = true := by
  rw [allAtoms_all]
  show words1.all (fun c => c.before args0 about1) = true
  refine all_split ?_ w_codes
  rw [← List.take_append_drop 24 words1, List.all_append, w_t1, w_t2]
  rfl
set_option maxRecDepth 65536 in
theorem w_case : (Jvm.Cond.and given_1 narrow_1).before args0 about1 = true := by decide +kernel
theorem w_applies : (headSpec (Jvm.Cond.code x code maxLocals ret :: tables_1) room_1).applies x e0.platform about1 = true :=
  (Spec.applies_iff w_frames).mpr ⟨w_running, w_runnable, w_alone, w_named, w_hears, w_ripe, w_room, w_tables⟩
theorem atStart : AtStart classFile x code maxLocals ret World_1 tables_1 room_1 Calls_1 rest_1 Pre_1 launch0 p0 e0 about1 theMethod args0 below0 :=
  ⟨lists_1, trivial, launch0.admits_env _ _ _, launch0.least_env, fairChoices_fair.cas, fairChoices_fair.clock, w_frames, w_args, w_heap, w_applies, trivial, trivial, w_case⟩
end start1
theorem witness_1 : WitnessClaimed_1 := ⟨start1.p0, start1.e0, start1.about1, start1.theMethod, start1.args0, start1.below0, start1.atStart⟩
end Jvm.Pilot.@@N@@
